import PyProof.Rows.All
import PyProof.GenCompT
import PyProof.IsiH_list
import PyProof.ListNew
import KE.KCallOwn
import KE.KStar
import KE.KSuperObj
import Wide.FinOn
import OpenK.AllK
import Wide.All
import PySem.Challenge.RW_re0160_01
set_option linter.all false
set_option linter.unusedVariables false
set_option linter.unusedSimpArgs false
set_option bootstrap.genMatcherCode false
set_option genSizeOf false
namespace Mine
theorem no1 {α:Type}{a:α}{P:Prop}(h:none=some a):P:=nomatch h
theorem no2 {α:Type}{a:α}{P:Prop}(h:some a=none):P:=nomatch h
theorem no3 {P:Prop}(h:false=true):P:=nomatch h
theorem no4 {P:Prop}(h:true=false):P:=nomatch h
theorem aL {α β:Type}{o:Option α}{k:α->Option β}{v:β}{P:Prop}(h:o.bind k=some v)(q:∀x,o=some x->k x=some v->P):P:=by
 rcases o with _ | x
 ·exact no1 h
 ·exact q x rfl h
theorem kJ {α β:Type}{o:Option α}{k:α->β}{v:β}{P:Prop}(h:o.map k=some v)(q:∀x,o=some x->k x=v->P):P:=by
 rcases o with _ | x
 ·exact no1 h
 ·exact q x rfl (Option.some.inj h)
theorem cK {α:Type}{c:Prop} [Decidable c] {a:Option α}{v:α}{P:Prop}(h:(if c then a else none)=some v)(q:c->a=some v->P):P:=by
 by_cases e:c
 ·rw [if_pos e] at h;exact q e h
 ·rw [if_neg e] at h;exact no1 h
theorem aNp {α:Type}{c:Prop} [Decidable c] {a:Option α}{v:α}{P:Prop}(h:(if c then none else a)=some v)(q:¬c->a=some v->P):P:=by
 by_cases e:c
 ·rw [if_pos e] at h;exact no1 h
 ·rw [if_neg e] at h;exact q e h
theorem kZ {α:Type}{c:Prop} [Decidable c] {a b:Option α}{v:α}{P:Prop}(h:(if c then a else b)=some v)(q1:c->a=some v->P)(q2:¬c->b=some v->P):P:=by
 by_cases e:c
 ·rw [if_pos e] at h;exact q1 e h
 ·rw [if_neg e] at h;exact q2 e h
theorem aQa {α:Type}{P:α->Prop}{a:α}(h1:P a):∀x∈[a],P x:=List.forall_mem_singleton.mpr h1
theorem aNq {α:Type}{P:α->Prop}{a b:α}(h1:P a)(h2:P b):∀x∈[a,b],P x:=List.forall_mem_cons.mpr ⟨h1,aQa h2⟩
theorem aRn {α:Type}{P:α->Prop}{a b c:α}(h1:P a)(h2:P b)(h3:P c):∀x∈[a,b,c],P x:=List.forall_mem_cons.mpr ⟨h1,aNq h2 h3⟩
open PySem in
theorem vB {M:Model}{A:Around}{α:Type}{X Y:Sem α}{Q:α->Shared->Prop}{E:Value->Shared->Prop}{s:Shared}(h:wpAny M A Y Q E s):wpAny M A (if false=true then X else Y) Q E s:=h
open PySem in
theorem aCs {M:Model}{A:Around}{α:Type}{X Y:Sem α}{Q:α->Shared->Prop}{E:Value->Shared->Prop}{s:Shared}(h:wpAny M A X Q E s):wpAny M A (if true=true then X else Y) Q E s:=h
open PySem in
theorem bX {M:Model}{A:Around}{α:Type}{c:Prop}{dc:Decidable c}{X Y:Sem α}{Q:α->Shared->Prop}{E:Value->Shared->Prop}{s:Shared}(hc:¬c)(h:wpAny M A Y Q E s):wpAny M A (@ite _ c dc X Y) Q E s:=by rw [if_neg hc]; exact h
open PySem in
theorem iV {M:Model}{A:Around}{α:Type}{c:Prop}{dc:Decidable c}{X Y:Sem α}{Q:α->Shared->Prop}{E:Value->Shared->Prop}{s:Shared}(hc:c)(h:wpAny M A X Q E s):wpAny M A (@ite _ c dc X Y) Q E s:=by rw [if_pos hc]; exact h
theorem lit {a b c:Nat}(h:a<=b)(e:b.ble c=true):a<=c:=Nat.le_trans h (Nat.le_of_ble_eq_true e)
theorem lef {a b c:Nat}(h:a=b)(e:b.ble c=true):a<=c:=h▸Nat.le_of_ble_eq_true e
theorem sll {a b c:Nat}(h:a<=b)(e:(b+1).ble c=true):a<c:=Nat.lt_of_le_of_lt h (Nat.le_of_ble_eq_true e)
theorem adl {a b c k:Nat}(h:a<=b)(e:(b+k).ble c=true):a+k<=c:=Nat.le_trans (Nat.add_le_add_right h k) (Nat.le_of_ble_eq_true e)
theorem ngl {n:Nat}{k:Int}(e:decide (k<=0)=true):k<=(n:Int):=Int.le_trans (of_decide_eq_true e) (Int.natCast_nonneg n)
theorem aCq {n m:Nat}{k:Int}(h:n<=m)(e:decide ((m:Int)<=k)=true):(n:Int)<=k:=Int.le_trans (Int.ofNat_le.mpr h) (of_decide_eq_true e)
theorem aRo {n m:Nat}{k:Int}(h:n<=m)(e:decide ((m:Int)<k)=true):(n:Int)<k:=Int.lt_of_le_of_lt (Int.ofNat_le.mpr h) (of_decide_eq_true e)
theorem ijl {a b c:Int}(h:a<=b)(e:decide (b<=c)=true):a<=c:=Int.le_trans h (of_decide_eq_true e)
theorem jil {a b c:Int}(h:b<=c)(e:decide (a<=b)=true):a<=c:=Int.le_trans (of_decide_eq_true e) h
theorem ijt {a b c:Int}(h:a<=b)(e:decide (b<c)=true):a<c:=Int.lt_of_le_of_lt h (of_decide_eq_true e)
theorem sad {a b c:Nat}(h:a+(b+1)=c):a+1+b=c:=by rw [<- h]; exact Nat.succ_add a b
theorem sal {a b c:Nat}(h:a+(b+1)<=c):a+1+b<=c:=by rw [Nat.succ_add]; exact h
theorem asl {a b c:Nat}(h:a+(b+1)=c):a<c:=h▸Nat.lt_succ_of_le (Nat.le_add_right a b)
theorem bsl {a b c:Nat}(h:a+(b+1)<=c):a<c:=Nat.lt_of_lt_of_le (Nat.lt_succ_of_le (Nat.le_add_right a b)) h
theorem aL1 {a b c:Nat}(h:a+b<=c):a<=c:=Nat.le_trans (Nat.le_add_right a b) h
theorem aL2 {a b c:Nat}(h:a+b<=c):b<=c:=Nat.le_trans (Nat.le_add_left b a) h
end Mine
section
open PySem PySem.Calls PyProof.Rows PySem.W PySem.W.X
set_option maxRecDepth 100000
namespace Mine
set_option genInjectivity false in
structure CR where
 nm:Str
 q:Str
 bs:List Value
 sn:List Str
 sub:List Value
 col:Option Bool
 dd:Option Addr
 k0:Option Value
 k1:Option Value
 k2:Option Value
 k3:Option Value
 k5:Option Value
noncomputable abbrev aG3 (r:CR)(C N:Addr)(bm:List Value)(ab:Bool)(ni:String):Obj:=excClassObj r.nm r.q C N r.bs bm true r.sn r.sub ab r.col r.dd r.k0 r.k1 r.k2 r.k3 r.k5 ni
noncomputable def findCls (n:Str):List Stmt->List Stmt
 | []=>[]
 | .ClassDef m _ _ b _ _ _ _ _ _ _::r=>if m==n then b else findCls n r
 | _::r=>findCls n r
structure Txt0 where
 params:Arguments
 body:List Stmt
 scope:Scope
noncomputable def aAj (n:Str):List Stmt->Txt0
 | []=>⟨default,[],default⟩
 | .FunctionDef m a b _ _ _ sc _ _ _::r=>if m==n then ⟨a,b,sc⟩ else aAj n r
 | _::r=>aAj n r
noncomputable def aAk:List Stmt:=PySem.Challenge.pw_re0160_01.main.body
noncomputable def txF (n:Str):Txt0:=aAj n aAk
noncomputable def txW (n:Str):Txt0:=aAj n (Mine.findCls "Whitespace" aAk)
noncomputable def txV (n:Str):Txt0:=aAj n (Mine.findCls "_ValueFormatter" aAk)
noncomputable def txA (n:Str):Txt0:=aAj n (Mine.findCls "_Accumulator" aAk)
set_option genInjectivity false in
structure FR where
 nm:Str
 q:Str
 doc:Value
 pm:Value
 an:Option Addr
 ct:Value
noncomputable abbrev aG4 (r:FR)(T:Txt0)(clo:List (Str × Addr))(dV:Value)(cc:Addr):FuncData:=
 {name:=r.nm,qualname:=r.q,params:=T.params,body:= .stmts T.body,scope:=T.scope,globals:=mainGlobals,closure:=clo,defaults:=dV,kwdefaults:= .none,doc:=r.doc,pyModule:=r.pm,annotations:=r.an,code:= .ref cc,closureTuple:=r.ct,builtins:=builtinsNs}
noncomputable def fnD:Data->Option FuncData
 | .func f=>some f
 | _=>none
theorem fnE {d:Data}{f:FuncData}(h:fnD d=some f):d= .func f:=by cases d <;> first | exact no1 h | exact congrArg _ (Option.some.inj h)
noncomputable def clD:Data->Option ClassData
 | .cls f=>some f
 | _=>none
theorem clE {d:Data}{f:ClassData}(h:clD d=some f):d= .cls f:=by cases d <;> first | exact no1 h | exact congrArg _ (Option.some.inj h)
noncomputable def fiD:Data->Option (Array Value)
 | .fields f=>some f
 | _=>none
theorem fiE {d:Data}{f:Array Value}(h:fiD d=some f):d= .fields f:=by cases d <;> first | exact no1 h | exact congrArg _ (Option.some.inj h)
noncomputable def ceD:Data->Option (Option Value)
 | .cell f=>some f
 | _=>none
theorem ceE {d:Data}{f:Option Value}(h:ceD d=some f):d= .cell f:=by cases d <;> first | exact no1 h | exact congrArg _ (Option.some.inj h)
noncomputable def sqD:Data->Option (Array Value × Nat)
 | .seq f n=>some (f,n)
 | _=>none
theorem sqE {d:Data}{f:Array Value × Nat}(h:sqD d=some f):d= .seq f.1 f.2:=by cases d <;> first | exact no1 h | exact Option.some.inj h▸rfl
noncomputable def diD:Data->Option (Array DictEntry × Nat)
 | .dict f n=>some (f,n)
 | _=>none
theorem diE {d:Data}{f:Array DictEntry × Nat}(h:diD d=some f):d= .dict f.1 f.2:=by cases d <;> first | exact no1 h | exact Option.some.inj h▸rfl
theorem obE {o:Obj}{d:Data}(h:o.data=d):o=⟨o.cls,o.dict,d,o.slots⟩:=h▸rfl
noncomputable def reV:Value->Option Addr
 | .ref a=>some a
 | _=>none
theorem reE {v:Value}{a:Addr}(h:reV v=some a):v= .ref a:=by cases v <;> first | exact no1 h | exact congrArg _ (Option.some.inj h)
noncomputable def stV:Value->Option (Str × Tok)
 | .str s t=>some (s,t)
 | _=>none
theorem stE {v:Value}{a:Str × Tok}(h:stV v=some a):v= .str a.1 a.2:=by cases v <;> first | exact no1 h | exact Option.some.inj h▸rfl
noncomputable def inV:Value->Option (Int × Tok)
 | .int s t=>some (s,t)
 | _=>none
theorem inE {v:Value}{a:Int × Tok}(h:inV v=some a):v= .int a.1 a.2:=by cases v <;> first | exact no1 h | exact Option.some.inj h▸rfl
noncomputable def boV:Value->Option Bool
 | .bool b=>some b
 | _=>none
theorem boE {v:Value}{a:Bool}(h:boV v=some a):v= .bool a:=by cases v <;> first | exact no1 h | exact congrArg _ (Option.some.inj h)
theorem aNr {α:Type}{o:Option α}{p:α->Bool}{P:Prop}(h:o.any p=true)(q:∀x,o=some x->p x=true->P):P:=by
 cases o
 ·exact no3 h
 ·exact q _ rfl h
noncomputable def sB (K:Frag)(cc:Addr)(f:Str):Bool:=((((K.lookup cc).bind fun o=>fiD o.data).bind fun vs=>vs.toList[2]?).bind stV).any fun s=>f==s.1
theorem aQb {K:Frag}{cc:Addr}{f:Str}{P:Prop}(h:sB K cc f=true)(q:∀o vs g t,K.lookup cc=some o->o.data= .fields vs->vs[2]? =some (.str g t)->(f==g)=true->P):P:=by
 refine aNr h fun s hs e=>aL hs fun v hv h3=>aL hv fun vs hvs h2=>aL hvs fun o ho h1=>q o vs s.1 s.2 ho (fiE h1) ?_ e
 rw [<- Array.getElem?_toList,h2,stE h3]
def aG5 (K:Frag)(a:Addr)(T:Txt0)(clo:List (Str × Addr))(dV:Value)(cc:Addr):Prop:=
 ∃r,K.lookup a=some ⟨.type "function",none,.func (aG4 r T clo dV cc), #[]⟩/\codeIn K (.ref cc) r.q=true/\sB K cc PySem.Challenge.rw_re0160_01.row.prog.main.file=true
noncomputable def mOf (K:Frag)(a:Addr)(n:Str):Option Value:=((K.lookup a).bind fun o=>diD o.data).bind fun e=>nsFind e.1 n
noncomputable def aG6 (K:Frag)(a:Addr):Bool:=((K.lookup a).bind fun o=>diD o.data).any fun e=>e.1.toList.all fun e=>(stV e.key).isSome
noncomputable def aNs (v:Option Value)(b:Addr):Bool:=(v.bind reV).any fun a=>a==b
noncomputable def lO:List Str:=[Str.ofString "len",Str.ofString "chr",Str.ofString "min",Str.ofString "max",Str.ofString "sum",Str.ofString "sorted",Str.ofString "range",Str.ofString "tuple",Str.ofString "dict",Str.ofString "list",Str.ofString "str",Str.ofString "super"]
noncomputable def aNt:List (Str × Addr):=[(Str.ofString "Whitespace",100),(Str.ofString "_ValueFormatter",177),(Str.ofString "_Accumulator",261),(Str.ofString "quotedata",282),(Str.ofString "_law_heaps",289),(Str.ofString "_law_folded",296),(Str.ofString "_law_filled",303),(Str.ofString "_law_mail",310),(Str.ofString "_law_rooks",315),
 (Str.ofString "_law_placed",322),(Str.ofString "_law_product",329),(Str.ofString "_law_column",334),(Str.ofString "_twin_re_1",270),(Str.ofString "_twin_re_2",275),(Str.ofString "law",339),(Str.ofString "__builtins__",4)]
noncomputable def aQc:List (Str × Addr):=[(Str.ofString "__init__",55),(Str.ofString "longest_run_of_spaces",62),(Str.ofString "indent_level",69),(Str.ofString "equal",76),(Str.ofString "not_equal_witness",83),(Str.ofString "less",90)]
noncomputable def aNu:List Str:=[Str.ofString "__getattribute__",Str.ofString "__getattr__",Str.ofString "__setattr__",Str.ofString "raw",Str.ofString "n",Str.ofString "nt",Str.ofString "norm",Str.ofString "is_simple"]
noncomputable def aQd:List (Str × Addr):=[(Str.ofString "__init__",118),(Str.ofString "_str",125),(Str.ofString "newline",139),(Str.ofString "_append_chunk",174)]
noncomputable def aNv:List Str:=[Str.ofString "__getattribute__",Str.ofString "__getattr__",Str.ofString "__setattr__",Str.ofString "_maxlen",Str.ofString "_continuation_ws",Str.ofString "_continuation_ws_len",Str.ofString "_splitchars",Str.ofString "_lines",Str.ofString "_current_line"]
noncomputable def aQe:List (Str × Addr):=[(Str.ofString "__init__",198),(Str.ofString "push",205),(Str.ofString "pop_from",213),(Str.ofString "pop",221),(Str.ofString "__len__",228),(Str.ofString "__str__",235),(Str.ofString "reset",243),(Str.ofString "is_onlyws",250),(Str.ofString "part_count",258)]
noncomputable def aNw:List Str:=[Str.ofString "__getattribute__",Str.ofString "__getattr__",Str.ofString "__setattr__",Str.ofString "__getitem__",Str.ofString "__setitem__",Str.ofString "__iter__",Str.ofString "_initial_size",Str.ofString "append",Str.ofString "__bool__"]
noncomputable def qG (K:Frag)(a:Addr)(l:List (Str × Addr)):Bool:=l.all fun p=>aNs (mOf K a p.1) p.2
noncomputable def iW (K:Frag)(a:Addr)(l:List Str):Bool:=l.all fun p=>(mOf K a p).isNone
def aG7 (K:Frag)(C N:Addr)(bm:List Value)(newId:String):Prop:=∃r,K.lookup C=some (aG3 r C N bm false newId)
def aG8 (K:Frag)(a:Addr)(code:Array Nat):Prop:=
 ∃f ca oc ci n,K.lookup a=some ⟨.type "re.Pattern",none,.fields f, #[]⟩/\f.getD 2 .none= .int 0 0/\f.getD 5 .none= .ref ca/\f.getD 6 .none= .int 0 0/\K.lookup ca=some oc/\oc.data= .seq ci n/\(ci.map PySem.Builtin.Re.reRawOf).map (·.toNat)=code
def xO (K:Frag)(T:Addr)(v:Value):Prop:=∃c d n sl,K.lookup T=some ⟨c,d,.seq #[v] n,sl⟩
def aQf (h:Heap)(c P:Addr):Prop:=∃ps,h.IsCode c P ps/\h.TableAt c P ps
noncomputable def fnV (K:Frag)(a:Addr):Option (Value × Option Addr × FuncData × Array (Option Value) × Bool):=(K.lookup a).bind fun o=>(fnD o.data).map fun f=>
 (o.cls,o.dict,{f with name:= .empty,qualname:= .empty,doc:= .none,pyModule:= .none,annotations:=none,closureTuple:= .none},o.slots,codeIn K f.code f.qualname&&(reV f.code).any fun cc=>sB K cc PySem.Challenge.rw_re0160_01.row.prog.main.file)
noncomputable abbrev fr0:FR:=⟨.empty,.empty,.none,.none,none,.none⟩
theorem aQg {K:Frag}{a cc:Addr}{T:Txt0}{clo:List (Str × Addr)}{dV:Value}(e:fnV K a=some (.type "function",none,aG4 fr0 T clo dV cc, #[],true)):aG5 K a T clo dV cc:=
 aL e fun o ho e=>kJ e fun f hf e=>by
  have e1:(⟨o.cls,o.dict,.func f,o.slots⟩:Obj)=⟨.type "function",none,.func (aG4 ⟨f.name,f.qualname,f.doc,f.pyModule,f.annotations,f.closureTuple⟩ T clo dV cc), #[]⟩:=
   congrArg (fun t:Value × Option Addr × FuncData × Array (Option Value) × Bool=>(⟨t.1,t.2.1,.func {t.2.2.1 with name:=f.name,qualname:=f.qualname,doc:=f.doc,pyModule:=f.pyModule,annotations:=f.annotations,closureTuple:=f.closureTuple},t.2.2.2.1⟩:Obj)) e
  have e2:f.code= .ref cc:=congrArg (fun t:Value × Option Addr × FuncData × Array (Option Value) × Bool=>t.2.2.1.code) e;have e3:=congrArg (fun t:Value × Option Addr × FuncData × Array (Option Value) × Bool=>t.2.2.2.2) e;obtain ⟨q1,q2⟩:=Bool.and_eq_true_iff.mp e3;rw [e2] at q1 q2;exact ⟨_,ho.trans (congrArg some ((obE (fnE hf)).trans e1)),q1,q2⟩
noncomputable def clsV (K:Frag)(C:Addr):Option (Value × ClassData × Nat × Option Value):=(K.lookup C).bind fun o=>(clD o.data).map fun d=>
 (o.cls,{d with name:= .empty,bases:=[],qualname:= .empty,slotNames:=[],subclasses:=[],collection:=none},o.slots.toList.length,o.slots.toList.getD 4 none)
theorem six {α:Type}{l:List α}{x:α}(h:l.length=6):l=[l.getD 0 x,l.getD 1 x,l.getD 2 x,l.getD 3 x,l.getD 4 x,l.getD 5 x]:=by
 obtain ⟨a,l,rfl⟩:=List.exists_cons_of_length_eq_add_one h;obtain ⟨b,l,rfl⟩:=List.exists_cons_of_length_eq_add_one (Nat.succ.inj h);obtain ⟨c,l,rfl⟩:=List.exists_cons_of_length_eq_add_one (Nat.succ.inj (Nat.succ.inj h));obtain ⟨d,l,rfl⟩:=List.exists_cons_of_length_eq_add_one (Nat.succ.inj (Nat.succ.inj (Nat.succ.inj h)));obtain ⟨e,l,rfl⟩:=List.exists_cons_of_length_eq_add_one (Nat.succ.inj (Nat.succ.inj (Nat.succ.inj (Nat.succ.inj h))));obtain ⟨f,l,rfl⟩:=List.exists_cons_of_length_eq_add_one (Nat.succ.inj (Nat.succ.inj (Nat.succ.inj (Nat.succ.inj (Nat.succ.inj h)))));rw [List.eq_nil_of_length_eq_zero (Nat.succ.inj (Nat.succ.inj (Nat.succ.inj (Nat.succ.inj (Nat.succ.inj (Nat.succ.inj h))))))]; rfl
theorem aCt {K:Frag}{C N:Addr}{bm:List Value}{newId:String}(e:clsV K C=some (.type "type",{name:= .empty,bases:=[],mro:= .ref C::bm,ns:=N,qualname:= .empty,hasDict:=true,slotNames:=[],subclasses:=[],abstract:=false,collection:=none,hasDel:=false},6,some (.builtin newId))):aG7 K C N bm newId:=
 aL e fun o ho e=>kJ e fun f hf e=>by
  have e1:=congrArg (fun t:Value × ClassData × Nat × Option Value=>(⟨t.1,o.dict,.cls {t.2.1 with name:=f.name,bases:=f.bases,qualname:=f.qualname,slotNames:=f.slotNames,subclasses:=f.subclasses,collection:=f.collection}, #[o.slots.toList.getD 0 none,o.slots.toList.getD 1 none,o.slots.toList.getD 2 none,o.slots.toList.getD 3 none,t.2.2.2,o.slots.toList.getD 5 none]⟩:Obj)) e;have e2:o.slots=⟨_⟩:=congrArg Array.mk (six (x:=none) (congrArg (fun t:Value × ClassData × Nat × Option Value=>t.2.2.1) e));have e3:o=⟨o.cls,o.dict,.cls f,⟨_⟩⟩:=(obE (clE hf)).trans (congrArg (Obj.mk _ _ _) e2);exact ⟨⟨f.name,f.qualname,f.bases,f.slotNames,f.subclasses,f.collection,o.dict,_,_,_,_,_⟩,ho.trans (congrArg some (e3.trans e1))⟩
noncomputable def aRp (K:Frag)(a:Addr):Option (Value × Option Addr × Array (Option Value) × Value × Value × Array Nat):=(K.lookup a).bind fun o=>(fiD o.data).bind fun f=>(reV (f.getD 5 .none)).bind fun ca=>
 ((K.lookup ca).bind fun o=>sqD o.data).map fun c=>(o.cls,o.dict,o.slots,f.getD 2 .none,f.getD 6 .none,(c.1.map PySem.Builtin.Re.reRawOf).map (·.toNat))
theorem aJv {K:Frag}{a:Addr}{code:Array Nat}(e:aRp K a=some (.type "re.Pattern",none, #[],.int 0 0,.int 0 0,code)):aG8 K a code:=
 aL e fun o ho e=>aL e fun f hf e=>aL e fun ca h5 e=>kJ e fun c hc e=>aL hc fun o' ho' hc=>by
  have e1:=congrArg (fun t:Value × Option Addr × Array (Option Value) × Value × Value × Array Nat=>(⟨t.1,t.2.1,.fields f,t.2.2.1⟩:Obj)) e;exact ⟨f,ca,o',c.1,c.2,ho.trans (congrArg some ((obE (fiE hf)).trans e1)),congrArg (fun t:Value × Option Addr × Array (Option Value) × Value × Value × Array Nat=>t.2.2.2.1) e,reE h5,congrArg (fun t:Value × Option Addr × Array (Option Value) × Value × Value × Array Nat=>t.2.2.2.2.1) e,ho',sqE hc,congrArg (fun t:Value × Option Addr × Array (Option Value) × Value × Value × Array Nat=>t.2.2.2.2.2) e⟩
noncomputable def aNx (K:Frag)(a:Addr):Option (Option Value):=(K.lookup a).bind fun o=>ceD o.data
theorem aKx {K:Frag}{a:Addr}{v:Option Value}(e:aNx K a=some v):∃c d sl,K.lookup a=some ⟨c,d,.cell v,sl⟩:=
 aL e fun o ho e=>⟨_,_,_,ho.trans (congrArg some (obE (ceE e)))⟩
noncomputable def aAl (v:Value):Value:=(inV v).elim v fun i=> .int i.1 0
noncomputable def aG9 (K:Frag)(a:Addr):Option (Nat × Value):=((K.lookup a).bind fun o=>sqD o.data).map fun s=>(s.1.toList.length,aAl (s.1.toList.getD 0 .none))
theorem vC {K:Frag}{a:Addr}{u:Value}(e:aG9 K a=some (1,u)):∃v,xO K a v/\aAl v=u:=
 kJ e fun s hs e=>aL hs fun o ho hs=>by
  obtain ⟨v,hv⟩:=List.length_eq_one_iff.mp (congrArg Prod.fst e);have e2:=congrArg Prod.snd e;dsimp only at e2;rw [hv] at e2;exact ⟨v,⟨_,_,_,_,ho.trans (congrArg some ((obE (sqE hs)).trans (congrArg (fun x=>Obj.mk o.cls o.dict (.seq x s.2) o.slots) (congrArg Array.mk hv))))⟩,e2⟩
theorem aCu {v:Value}{i:Int}(e:aAl v=Value.int i 0):∃t,v= .int i t:=by
 unfold aAl at e
 cases h:inV v with
 | some a=>rw [h] at e;exact ⟨a.2,(inE h).trans (congrArg (fun x=>Value.int x a.2) (Value.int.inj e).1)⟩
 | none=>rw [h] at e;exact ⟨0,e⟩
theorem aKy {v:Value}(e:aAl v=Value.none):v= .none:=by
 unfold aAl at e
 cases h:inV v with
 | some a=>rw [h] at e;nomatch e
 | none=>rw [h] at e;exact e
end Mine
end
section
open PySem
set_option maxRecDepth 100000
namespace Mine
open Sre
noncomputable def cY:Array Nat:= #[14,9,4,1,2,16,10,16,13,0,7,7,16,13,16,10,15,18,5,16,10,15,13,11,16,13,5,5,0,16,10,1,15,2,0,1]
noncomputable def lP:Array Nat:= #[14,4,0,1,1,6,1,16,46,1]
theorem rf {n:Nat}{m:M}(h:m.outcome=none):m.runFor (n+1)=m.step.runFor n:=by
 show (if m.outcome.isSome=true then m else m.step.runFor n)=_;rw [h]; rfl
theorem iX {m:M}(h1:m.outcome=none)(h2:m.answer=none)(h3:m.pc<m.code.size):m.step=m.exec:=by
 unfold M.step;rw [h1,h2];simp only [Option.isSome_none,Bool.false_eq_true,if_false];rw [if_pos h3]
theorem xP {m:M}(hop:ops[m.word 0]? =some .LITERAL)(hop':ops[m.code.getD m.pc 0]? =some .LITERAL)(hpos:m.pos<m.lim)(hc:(m.text.getD m.pos 0==m.code.getD (m.pc+1) 0)=true):
  m.exec={m with seen:=m.seen.add (m.word 0),pc:=m.pc+2,pos:=m.pos+1}:=by
 unfold M.exec;rw [hop];dsimp only;rw [if_neg (Nat.not_le.mpr hpos)];unfold accepts itemWidth;rw [hop'];dsimp only;rw [hc]
theorem lQ {m:M}(hop:ops[m.word 0]? =some .LITERAL)(hop':ops[m.code.getD m.pc 0]? =some .LITERAL)(hc:¬m.pos<m.lim\/(m.text.getD m.pos 0==m.code.getD (m.pc+1) 0)=false):
  m.exec={m with seen:=m.seen.add (m.word 0),answer:=some false}:=by
 unfold M.exec;rw [hop];dsimp only
 by_cases hpos:m.pos<m.lim
 ·rw [if_neg (Nat.not_le.mpr hpos)];have hc:=hc.resolve_left (fun h=>h hpos);unfold accepts;rw [hop'];dsimp only;rw [hc];rfl
 ·rw [if_pos (Nat.not_lt.mp hpos)];rfl
noncomputable def st2 (text:Array Nat)(s:Nat)(seen:Seen)(pc pos:Nat)(fr:List Sre.Frame)(wt:Nat)(ans:Option Bool)(handed:Nat)(outer:Bool):M:=
 {code:=cY,text,lim:=text.size,start:=s,lastStart:=text.size,pc,pos,handed,outermost:=outer,marks:= #[],lastmark:= -1,lastindex:= -1,frames:=fr,weight:=wt,answer:=ans,seen}
noncomputable def ns (s:Nat):Sre.Frame:={wait:= .nextStart,pc:=10,pos:=s,outermost:=true}
noncomputable def nb (pc s:Nat):Sre.Frame:={wait:= .nextBranch,pc:=pc,pos:=s,outermost:=true,kept:={lastmark:= -1,lastindex:= -1,whole:=false,marks:= #[]}}
noncomputable def ln (s:Nat):Sre.Frame:={wait:= .lookNot,pc:=26,pos:=s,outermost:=true,kept:={lastmark:= -1,lastindex:= -1,whole:=false,marks:= #[]}}
section
variable {text:Array Nat}{s pos:Nat}{seen:Seen}{fr:List Sre.Frame}{wt handed:Nat}{outer:Bool}
theorem lR {pc c:Nat}(h1:cY.getD pc 0=16)(h2:cY.getD (pc+1) 0=c)(h3:pc<36)(hp:pos<text.size)(hc:text.getD pos 0=c):
  ∃se,(st2 text s seen pc pos fr wt none handed outer).step=st2 text s se (pc+2) (pos+1) fr wt none handed outer:=by
 have hw:(st2 text s seen pc pos fr wt none handed outer).word 0=16:=h1;refine ⟨_,(iX rfl rfl h3).trans ((xP (by rw [hw]; rfl) (by show ops[cY.getD pc 0]? =_;rw [h1]; rfl) hp (by show (text.getD pos 0==cY.getD (pc+1) 0)=true;rw [hc,h2]; simp)).trans rfl)⟩
theorem xQ {pc c:Nat}(h1:cY.getD pc 0=16)(h2:cY.getD (pc+1) 0=c)(h3:pc<36)(hc:¬pos<text.size\/text.getD pos 0≠c):
  ∃se,(st2 text s seen pc pos fr wt none handed outer).step=st2 text s se pc pos fr wt (some false) handed outer:=by
 have hw:(st2 text s seen pc pos fr wt none handed outer).word 0=16:=h1;refine ⟨_,(iX rfl rfl h3).trans ((lQ (by rw [hw]; rfl) (by show ops[cY.getD pc 0]? =_;rw [h1]; rfl) (hc.imp id fun hc=>by show (text.getD pos 0==cY.getD (pc+1) 0)=false;rw [h2]; simpa using hc)).trans rfl)⟩
def Hit (m:M)(s e n:Nat):Prop:=(m.runFor n).outcome=some .matched/\(m.runFor n).start=s/\(m.runFor n).handed=e
theorem Hit.back {m m':M}{s e n:Nat}(h:Hit m' s e n)(e1:m.step=m')(h0:m.outcome=none):Hit m s e (n+1):=by
 subst e1;unfold Hit;rw [rf h0];exact h
theorem aKz (e:Nat):Hit (st2 text s seen 35 e [nb pos s,ns s] wt none handed true) s e 4:=by
 refine ⟨rfl,rfl,rfl⟩
theorem aNy (hs:s<text.size)(h:text.getD s 0=10):Hit (st2 text s seen 10 s [ns s] 1 none s true) s (s+1) 9:=by
 obtain ⟨se1,e1⟩:∃se,(st2 text s seen 10 s [ns s] 1 none s true).step=st2 text s se 12 s [nb 11 s,ns s] 2 none s true:=⟨_,rfl⟩;obtain ⟨se2,e2⟩:=xQ (text:=text) (s:=s) (pos:=s) (seen:=se1) (fr:=[nb 11 s,ns s]) (wt:=2) (handed:=s) (outer:=true) (pc:=12) rfl rfl (by decide) (.inr (by rw [h]; decide));obtain ⟨se3,e3⟩:∃se,(st2 text s se2 12 s [nb 11 s,ns s] 2 (some false) s true).step=st2 text s se 19 s [nb 18 s,ns s] 2 none s true:=⟨_,rfl⟩;obtain ⟨se4,e4⟩:=lR (text:=text) (s:=s) (pos:=s) (seen:=se3) (fr:=[nb 18 s,ns s]) (wt:=2) (handed:=s) (outer:=true) (pc:=19) rfl rfl (by decide) hs h;obtain ⟨se5,e5⟩:∃se,(st2 text s se4 21 (s+1) [nb 18 s,ns s] 2 none s true).step=st2 text s se 35 (s+1) [nb 18 s,ns s] 2 none s true:=⟨_,rfl⟩;exact (((((aKz (s+1)).back e5 rfl).back e4 rfl).back e3 rfl).back e2 rfl).back e1 rfl
theorem aHa (hs:s+1<text.size)(h:text.getD s 0=13)(h':text.getD (s+1) 0=10):Hit (st2 text s seen 10 s [ns s] 1 none s true) s (s+2) 8:=by
 obtain ⟨se1,e1⟩:∃se,(st2 text s seen 10 s [ns s] 1 none s true).step=st2 text s se 12 s [nb 11 s,ns s] 2 none s true:=⟨_,rfl⟩;obtain ⟨se2,e2⟩:=lR (text:=text) (s:=s) (pos:=s) (seen:=se1) (fr:=[nb 11 s,ns s]) (wt:=2) (handed:=s) (outer:=true) (pc:=12) rfl rfl (by decide) (by lia) h;obtain ⟨se3,e3⟩:=lR (text:=text) (s:=s) (pos:=s+1) (seen:=se2) (fr:=[nb 11 s,ns s]) (wt:=2) (handed:=s) (outer:=true) (pc:=14) rfl rfl (by decide) hs h';obtain ⟨se4,e4⟩:∃se,(st2 text s se3 16 (s+2) [nb 11 s,ns s] 2 none s true).step=st2 text s se 35 (s+2) [nb 11 s,ns s] 2 none s true:=⟨_,rfl⟩;exact ((((aKz (s+2)).back e4 rfl).back e3 rfl).back e2 rfl).back e1 rfl
theorem aNz (hs:s<text.size)(h:text.getD s 0=13)(h':¬s+1<text.size\/text.getD (s+1) 0≠10):Hit (st2 text s seen 10 s [ns s] 1 none s true) s (s+1) 15:=by
 obtain ⟨se1,e1⟩:∃se,(st2 text s seen 10 s [ns s] 1 none s true).step=st2 text s se 12 s [nb 11 s,ns s] 2 none s true:=⟨_,rfl⟩;obtain ⟨se2,e2⟩:=lR (text:=text) (s:=s) (pos:=s) (seen:=se1) (fr:=[nb 11 s,ns s]) (wt:=2) (handed:=s) (outer:=true) (pc:=12) rfl rfl (by decide) hs h;obtain ⟨se3,e3⟩:=xQ (text:=text) (s:=s) (pos:=s+1) (seen:=se2) (fr:=[nb 11 s,ns s]) (wt:=2) (handed:=s) (outer:=true) (pc:=14) rfl rfl (by decide) h';obtain ⟨se4,e4⟩:∃se,(st2 text s se3 14 (s+1) [nb 11 s,ns s] 2 (some false) s true).step=st2 text s se 19 s [nb 18 s,ns s] 2 none s true:=⟨_,rfl⟩;obtain ⟨se5,e5⟩:=xQ (text:=text) (s:=s) (pos:=s) (seen:=se4) (fr:=[nb 18 s,ns s]) (wt:=2) (handed:=s) (outer:=true) (pc:=19) rfl rfl (by decide) (.inr (by rw [h]; decide));obtain ⟨se6,e6⟩:∃se,(st2 text s se5 19 s [nb 18 s,ns s] 2 (some false) s true).step=st2 text s se 24 s [nb 23 s,ns s] 2 none s true:=⟨_,rfl⟩;obtain ⟨se7,e7⟩:=lR (text:=text) (s:=s) (pos:=s) (seen:=se6) (fr:=[nb 23 s,ns s]) (wt:=2) (handed:=s) (outer:=true) (pc:=24) rfl rfl (by decide) hs h;obtain ⟨se8,e8⟩:∃se,(st2 text s se7 26 (s+1) [nb 23 s,ns s] 2 none s true).step=st2 text s se 29 (s+1) [ln (s+1),nb 23 s,ns s] 3 none (s+1) false:=⟨_,rfl⟩;obtain ⟨se9,e9⟩:=xQ (text:=text) (s:=s) (pos:=s+1) (seen:=se8) (fr:=[ln (s+1),nb 23 s,ns s]) (wt:=3) (handed:=s+1) (outer:=false) (pc:=29) rfl rfl (by decide) h';obtain ⟨se10,e10⟩:∃se,(st2 text s se9 29 (s+1) [ln (s+1),nb 23 s,ns s] 3 (some false) (s+1) false).step=st2 text s se 32 (s+1) [nb 23 s,ns s] 2 none (s+1) true:=⟨_,rfl⟩;obtain ⟨se11,e11⟩:∃se,(st2 text s se10 32 (s+1) [nb 23 s,ns s] 2 none (s+1) true).step=st2 text s se 35 (s+1) [nb 23 s,ns s] 2 none (s+1) true:=⟨_,rfl⟩;exact (((((((((((aKz (s+1)).back e11 rfl).back e10 rfl).back e9 rfl).back e8 rfl).back e7 rfl).back e6 rfl).back e5 rfl).back e4 rfl).back e3 rfl).back e2 rfl).back e1 rfl
end
end Mine
end
section
open PySem PySem.Calls PyProof.Rows PySem.W PySem.W.X
set_option maxRecDepth 100000
namespace Mine
noncomputable def lS:List Addr:=[2,3,99,100,176,177,185,190,206,236,260,261,269,270,274,275,227,234,55,62,69,76,83,90,118,125,139,174,198,205,213,221,228,235,243,250,258,282,289,296,303,310,315,322,329,334,339,
 54,61,68,75,82,89,117,124,138,173,197,204,212,220,242,249,257,281,288,295,302,309,314,321,328,333,338]
noncomputable def KA (l:List Addr)(h:Heap):Frag:=l.map fun a=>(a,(h.get? a).getD default)
noncomputable def aK0 (K:Frag)(n x:Str):Bool:=((mOf K 3 n).bind stV).any fun y=>x==y.1
noncomputable def aN0:PySem.W.CFound->Option Value
 | .val a=>some a
 | _=>none
theorem aR7 {c:PySem.W.CFound}{a:Value}(h:aN0 c=some a):c= .val a:=by cases c <;> first | exact no1 h | exact congrArg _ (Option.some.inj h)
noncomputable def aCv (K:Frag)(n x:Str):Bool:=(((PySem.W.findCls K (.ref 100) (.type "type") n).bind aN0).bind stV).any fun y=>x==y.1
noncomputable def okB (K:Frag):Bool:=aG6 K 3&&(aG6 K 99&&(aG6 K 176&&(aG6 K 260&&(iW K 3 lO&&(qG K 3 aNt&&(qG K 99 aQc&&(iW K 99 aNu&&(qG K 176 aQd&&(iW K 176 aNv&&(qG K 260 aQe&&(iW K 260 aNw&&
 (aK0 K "EMPTYSTRING" ""&&(aK0 K "CRLF" "\r\n"&&(readsIn K 100 (.type "type")&&(aCv K "S" " "&&aCv K "T" "\t")))))))))))))))
noncomputable def aQh (K:Frag)(h:Heap)(c P:Addr):Option (Value × Value × Obj):=(K.lookup c).bind fun o=>(fiD o.data).bind fun vs=>vs[11]?.bind fun p=>(stV (vs.getD 18 .none)).bind fun _=>(inV (vs.getD 7 .none)).bind fun _=>(boV (vs.getD 9 .none)).bind fun _=>(inV (vs.getD 10 .none)).bind fun _=>(h.get? P).map fun q=>(o.cls,p,q)
noncomputable def aCw:List (Addr × Txt0 × List (Str × Addr) × Value × Addr):=[(55,txW "__init__",[],.none,54),(62,txW "longest_run_of_spaces",[],.none,61),(69,txW "indent_level",[],.none,68),(76,txW "equal",[],.none,75),(83,txW "not_equal_witness",[],.none,82),(90,txW "less",[],.none,89),
 (118,txV "__init__",[],.none,117),(125,txV "_str",[],.none,124),(139,txV "newline",[],.none,138),(174,txV "_append_chunk",[],.none,173),(198,txA "__init__",[("__class__",185)],.ref 190,197),(205,txA "push",[],.none,204),(213,txA "pop_from",[],.ref 206,212),(221,txA "pop",[("__class__",185)],.none,220),
 (228,txA "__len__",[],.none,227),(235,txA "__str__",[],.none,234),(243,txA "reset",[],.ref 236,242),(250,txA "is_onlyws",[],.none,249),(258,txA "part_count",[("__class__",185)],.none,257),(282,txF "quotedata",[],.none,281),(289,txF "_law_heaps",[],.none,288),(296,txF "_law_folded",[],.none,295),
 (303,txF "_law_filled",[],.none,302),(310,txF "_law_mail",[],.none,309),(315,txF "_law_rooks",[],.none,314),(322,txF "_law_placed",[],.none,321),(329,txF "_law_product",[],.none,328),(334,txF "_law_column",[],.none,333),(339,txF "law",[],.none,338)]
noncomputable def aK1 (t:Addr × Txt0 × List (Str × Addr) × Value × Addr):Option (Value × Option Addr × FuncData × Array (Option Value) × Bool):=some (.type "function",none,aG4 fr0 t.2.1 t.2.2.1 t.2.2.2.1 t.2.2.2.2, #[],true)
noncomputable def aJw:List (Addr × Addr × List Value × String):=[(100,99,[.type "object"],"object.__new__"),(177,176,[.type "object"],"object.__new__"),(261,260,[.type "list",.type "object"],"list.__new__")]
noncomputable def aN1 (t:Addr × Addr × List Value × String):Option (Value × ClassData × Nat × Option Value):=some (.type "type",{name:= .empty,bases:=[],mro:= .ref t.1::t.2.2.1,ns:=t.2.1,qualname:= .empty,hasDict:=true,slotNames:=[],subclasses:=[],abstract:=false,collection:=none,hasDel:=false},6,some (.builtin t.2.2.2))
noncomputable def aJx:List (Addr × Array Nat):=[(270,lP),(275,cY)]
noncomputable def aN2 (c:Array Nat):Option (Value × Option Addr × Array (Option Value) × Value × Value × Array Nat):=some (.type "re.Pattern",none, #[],.int 0 0,.int 0 0,c)
noncomputable abbrev Seen1:Type:=Bool × Bool × List (Option (Value × Option Addr × FuncData × Array (Option Value) × Bool)) × List (Option (Value × ClassData × Nat × Option Value)) × List (Option (Value × Value × Obj)) × Option (Option Value) × Option (Option Value) × List (Option (Nat × Value)) × List (Option (Value × Option Addr × Array (Option Value) × Value × Value × Array Nat)) × Bool
noncomputable def aHb (K:Frag)(h:Heap)(tk:Nat):Seen1:=
 (okB K,lS.all fun a=>(h.get? a).isSome,aCw.map fun t=>fnV K t.1,aJw.map fun t=>clsV K t.1,[aQh K h 227 223,aQh K h 234 230],aNx K 185,nsIn K cStatics "thirdparty.any",[aG9 K 190,aG9 K 206,aG9 K 236],aJx.map fun t=>aRp K t.1,Nat.blt 0 tk)
noncomputable def qH:Seen1:=(true,true,aCw.map aK1,aJw.map aN1,[some (.type "code",.ref 223,⟨.none,none,.fields #[], #[]⟩),some (.type "code",.ref 230,⟨.none,none,.fields #[], #[]⟩)],some (some (.ref 261)),some none,[some (1,.int 0 0),some (1,.int 0 0),some (1,.none)],aJx.map fun t=>aN2 t.2,true)
noncomputable def aQi:List Stmt:=[0,23].filterMap fun i=>PySem.Challenge.rw_re0160_01.row.prog.main.body[i]?
noncomputable def aCx:Program:={PySem.Challenge.rw_re0160_01.row.prog with main:={PySem.Challenge.rw_re0160_01.row.prog.main with body:=aQi}}
noncomputable def aCy:List Str:=[Str.ofString "_wall",Str.ofString "NL",Str.ofString "EMPTYSTRING",Str.ofString "Whitespace",Str.ofString "_ValueFormatter",Str.ofString "_Accumulator",Str.ofString "_twin_re_1",Str.ofString "_twin_re_2",Str.ofString "CRLF",Str.ofString "quotedata",Str.ofString "_law_heaps",Str.ofString "_law_folded",Str.ofString "_law_filled",Str.ofString "_law_mail",Str.ofString "_law_rooks",Str.ofString "_law_placed",Str.ofString "_law_product",Str.ofString "_law_column"]
noncomputable def Xt1 (s:Shared):Bool:=xlAt aCx [] s&&recOk PySem.Challenge.rw_re0160_01.row.records s
noncomputable def goT (st:SharedT->Thread->Option (SharedT × Thread))(ok:Thread->Bool)(n:Nat):SharedT->Thread->Option SharedT:=
 @Nat.rec (fun _=>SharedT->Thread->Option SharedT) (fun _ _=>none) (fun _ ih s t=>bif through t then some s else bif ok t then (st s t).bind fun r=>ih r.1 r.2 else none) n
theorem aK2 {α:Type}{b:Bool}{x y z:α}{P:Prop}(h:(bif b then x else y)=z)(p:b=true->x=z->P)(q:b=false->y=z->P):P:=by
 cases b
 ·exact q rfl h
 ·exact p rfl h
noncomputable def goF (a b:Bool)(c:Step)(f:Shared->Thread->Option Shared)(s:Shared):Option Shared:=
 @Bool.rec (fun _=>Option Shared) (@Bool.rec (fun _=>Option Shared) none (@Step.rec (fun _=>Option Shared) f (fun _ _=>none) c) b) (some s) a
theorem aQj {a b:Bool}{c:Step}{f:Shared->Thread->Option Shared}{s s':Shared}{t':Thread}{r:Option Shared}(ha:a=false)(hb:b=true)(hc:c= .go s' t')(h:f s' t'=r):goF a b c f s=r:=by
 rw [ha,hb,hc]; exact h
theorem aQk {a b:Bool}{c:Step}{f:Shared->Thread->Option Shared}{s:Shared}(ha:a=true):goF a b c f s=some s:=by
 rw [ha]; rfl
theorem aHc {tb:String->Option Builtin}{p:Program}{w:World}{n'0:Nat}{ann:Option Value}{n:Nat}{s:Shared}{t:Thread}:topRun tb p w n'0 ann (n+1) s t=goF (through t) (stepOk n'0 ann t) (step (denote tb) p w s t) (topRun tb p w n'0 ann n) s:=by kernel_rfl
def GoP (tb:String->Option Builtin)(p:Program)(w:World)(n'0:Nat)(ann:Option Value)(s':SharedT)(n:Nat):Prop:=∀s t,goT (stepT (denote tb) p w) (stepOk n'0 ann) n s t=some s'->topRun tb p w n'0 ann n s.abs t=some s'.abs
theorem aQl {tb:String->Option Builtin}{p:Program}{w:World}{n'0:Nat}{ann:Option Value}{s':SharedT}(n:Nat):GoP tb p w n'0 ann s' n:=
 @Nat.rec (GoP tb p w n'0 ann s') (fun _ _ h=>no1 h) (fun _ ih _ _ h=>
  aHc.trans (aK2 h (fun he h=>(aQk he).trans (congrArg (Option.map SharedT.abs) h)) fun he h=>aK2 h (fun hk h=>aL h fun _ hs h=>aQj he hk (stepT_spec hs) (ih _ _ h)) fun _ h=>no1 h)) n
noncomputable def aJy (l:List Obj):Nat->BT->Option BT:=
 @List.rec Obj (fun _=>Nat->BT->Option BT) (fun _ t=>some t) (fun o _ ih n t=>bif ((t.ins n o).get n).isSome then ih (n+1) (t.ins n o) else none) l
theorem aHd {a:Array Obj}{o:Obj}{l:List Obj}:a.push o++l.toArray=a++(o::l).toArray:=by
 rw [<- Array.append_singleton,Array.append_assoc,List.append_toArray [o] l]; rfl
noncomputable def aN3 (h:Heap)(l:List Obj):Heap:=⟨h.objs++l.toArray,h.life⟩
theorem aN4 {h:Heap}{o:Obj}{l:List Obj}:aN3 (h.push o) l=aN3 h (o::l):=congrArg (fun x=>(⟨x,h.life⟩:Heap)) aHd
theorem aN5 {h:Heap}:aN3 h []=h:=congrArg (fun x=>(⟨x,h.life⟩:Heap)) Array.append_empty
def aRq (life:Life)(t':BT)(l:List Obj):Prop:=∀n t,aJy l n t=some t'->absHeap t' (n+l.length) life=aN3 (absHeap t n life) l
theorem aCz {life:Life}{t':BT}(l:List Obj):aRq life t' l:=
 @List.rec Obj (aRq life t') (fun _ _ h=>Option.some.inj h▸aN5.symm) (fun _ l ih n _ h=>
  aK2 h (fun e h=>(congrArg (fun k=>absHeap t' k life) (Nat.succ_add_eq_add_succ n l.length).symm).trans ((ih _ _ h).trans ((congrArg (fun x=>aN3 x l) (absHeap_ins e)).trans aN4))) fun _ h=>no1 h) l
noncomputable def toT (s:Shared):Option SharedT:=(aJy s.heap.objs.toList 0 .nil).map fun t=>⟨t,s.heap.objs.size,s.heap.life,s.gens,s.drawn,s.toks,s.os⟩
theorem aN6 {s:Shared}{t:SharedT}(h:toT s=some t):t.abs=s:=
 kJ h fun b hb e=>e▸congrArg (fun h=>(⟨h,s.gens,s.drawn,s.toks,s.os⟩:Shared)) ((congrArg (fun n=>absHeap b n s.heap.life) (Nat.zero_add s.heap.objs.toList.length).symm).trans ((aCz _ _ _ hb).trans (congrArg (fun x=>(⟨x,s.heap.life⟩:Heap)) Array.empty_append)))
noncomputable abbrev TB:Type:=String->Option Builtin
noncomputable def aRr (tt:TB)(ie:TB->Program->World->Nat->Shared->Thread->Option Shared)(P:Program)(w:World):Option Shared:=(ie tt (opening P) w 4182 (start (opening P)).1 (start (opening P)).2).bind (fenceModules? P)
noncomputable def aRs (tt:TB)(dn:TB->Code->Sem Fin)(sT:(Code->Sem Fin)->Program->World->SharedT->Thread->Option (SharedT × Thread))(P:Program)(w:World)(b:Bool)(s'0:Shared)(t'0:SharedT):Option SharedT:=
 goT (sT (dn tt) P (w.withFollow "special-get-raises" b)) (stepOk s'0.heap.objs.size (s'0.heap.nsMap mainGlobals "__annotations__")) 4182 t'0 (topStub P)
noncomputable def aQm (s'0:Shared):Bool:=s'0.heap.isNs mainGlobals&&s'0.gens.size==0
noncomputable def okS (P:Program)(s'0 s:Shared):Bool:=staticsOk (importedModules P.main.body) s'0.heap s.heap&&namesBound P s.heap&&gensDone s&&laidKept s'0.heap s.heap
noncomputable def aQn {σ α:Type}(os:Program->List Str->List Str->(Shared->Bool)->Bool->Shared->σ)(P q:Program)(loose:List Str)(Xt:Shared->Bool)(Yf:Shared->α)(s:Shared):σ × α:=(os q loose (importedModules P.main.body) Xt true s,Yf s)
def aK3 (tt:TB)(ie:TB->Program->World->Nat->Shared->Thread->Option Shared)(dn:TB->Code->Sem Fin)(sT:(Code->Sem Fin)->Program->World->SharedT->Thread->Option (SharedT × Thread)){β:Type}(f:Shared->β)(P:Program)(y:β)(b:Bool):Prop:=
 ∀w:World,(aRr tt ie P w).bind (fun s'0=>(toT s'0).map fun t'0=>(aQm s'0,(aRs tt dn sT P w b s'0 t'0).map fun s=>(okS P s'0 s.abs,f s.abs)))=some (true,some (true,y))
noncomputable def aRt (b:Bool)(o:Option Shared)(f:Shared->Bool):Option Shared:= @Bool.rec (fun _=>Option Shared) none (o.bind fun s=> @Bool.rec (fun _=>Option Shared) none (some s) (f s)) b
theorem aN7 {b:Bool}{o:Option Shared}{f:Shared->Bool}{s:Shared}(hb:b=true)(ho:o=some s)(hf:f s=true):aRt b o f=some s:=by
 rw [hb,ho]; exact congrArg (@Bool.rec (fun _=>Option Shared) none (some s)) hf
theorem aC0 {P:Program}{w:World}{s'0:Shared}:topFrom treeTable P w 4182 s'0=aRt (aQm s'0) (topRun treeTable P w s'0.heap.objs.size (s'0.heap.nsMap mainGlobals "__annotations__") 4182 s'0 (topStub P)) (okS P s'0):=by kernel_rfl
theorem aN8 {P:Program}{w:World}{b:Bool}{s'0:Shared}{t'0 s:SharedT}(h3:toT s'0=some t'0)(h1:aQm s'0=true)(hs:aRs treeTable denote stepT P w b s'0 t'0=some s)(h2:okS P s'0 s.abs=true):topFrom treeTable P (w.withFollow "special-get-raises" b) 4182 s'0=some s.abs:=
 aC0.trans (aN7 h1 ((congrArg (fun x=>topRun treeTable P (w.withFollow "special-get-raises" b) s'0.heap.objs.size (s'0.heap.nsMap mainGlobals "__annotations__") 4182 x (topStub P)) (aN6 h3).symm).trans (aQl _ _ _ hs)) h2)
theorem aJz {β:Type}{f:Shared->β}{P:Program}{y:β}{b:Bool}(h:aK3 treeTable importEnds denote stepT f P y b)(w:World):
  (aRr treeTable importEnds P w).map (fun s'0=>(topFrom treeTable P (w.withFollow "special-get-raises" b) 4182 s'0).map f)=some (some y):=
 aL (h w) fun _ h1 h2=>kJ h2 fun _ h3 h4=>kJ (Prod.mk.inj h4).2 fun _ hs e=>(congrArg (Option.map _) h1).trans (congrArg some ((congrArg (Option.map f) (aN8 h3 (Prod.mk.inj h4).1 hs (Prod.mk.inj e).1)).trans (congrArg some (Prod.mk.inj e).2)))
def aC1 {β:Type}:(Shared->β)->Program->β->Bool->Prop:=aK3 PySem.W.Fast.tw14364793385576792824 PySem.W.Fast.tw10274390034422433532 PySem.W.Fast.tw11892475500146522536 PySem.W.Fast.tw10156331382660048174
theorem aHe {β:Type}: @aC1 β=aK3 treeTable importEnds denote stepT:=by
 unfold aC1;rw [<- PySem.W.Fast.te14364793385576792824,<-PySem.W.Fast.te10274390034422433532,<-PySem.W.Fast.te11892475500146522536,<-PySem.W.Fast.te10156331382660048174]
theorem aR8 {α β γ:Type}{o:Option α}{f:α->β}{g:α->γ}{x:β}{y:γ}(h:o.map f=some x)(k:o.map g=some y):o.map (fun s=>(f s,g s))=some (x,y):=
 kJ h fun _ hs e=>kJ k fun _ ks e'=>(congrArg (Option.map _) hs).trans (congrArg some (congr (congrArg Prod.mk e) ((congrArg g (Option.some.inj (hs.symm.trans ks))).trans e')))
theorem aK4 {α:Type}{P q:Program}{loose:List Str}{Xt:Shared->Bool}{Yf:Shared->α}{ya:α}(h0:aC1 (aQn PySem.W.Fast.tw4187177175401517315 P q loose Xt Yf) P (openGood q loose,ya) false)(h1:aC1 (aQn PySem.W.Fast.tw4187177175401517315 P q loose Xt Yf) P (openGood q loose,ya) true):LeftO P q loose Xt Yf (fun _=>ya) 4182:=by
 rw [aHe,<-PySem.W.Fast.te4187177175401517315] at h0 h1;exact LeftO.of_split "special-get-raises" fun w=>aR8 (aJz h0 w) (aJz h1 w)
end Mine
end
section
open PySem PySem.Calls PyProof.Rows PySem.W PySem.W.X
set_option maxRecDepth 100000
set_option maxHeartbeats 0
namespace Mine
def aN9 (b:Bool):Prop:=aC1 (aQn PySem.W.Fast.tw4187177175401517315 PySem.Challenge.rw_re0160_01.row.prog aCx aCy Xt1 (fun s=>aHb (KA lS s.heap) s.heap s.toks)) PySem.Challenge.rw_re0160_01.row.prog (openGood aCx aCy,qH) b
theorem aK5:aN9 false:=fun w=>by kernel_rfl
theorem aK6:aN9 true:=fun w=>by kernel_rfl
theorem aQo:LeftO PySem.Challenge.rw_re0160_01.row.prog aCx aCy Xt1 (fun s=>aHb (KA lS s.heap) s.heap s.toks) (fun _=>qH) 4182:=aK4 aK5 aK6
end Mine
end
section
open PySem PySem.Builtin.Re
set_option maxRecDepth 100000
namespace Mine
open Sre
theorem aOa (c:Nat)(seen:Seen):∃se,inSet cY c cY.size 5 true seen= .ok (c==10||c==13,se):=by
 have e:cY.size=36:=rfl;rw [e];have st1:inSet cY c 36 5 true seen=if c==10 then .ok (true,seen.add 16) else inSet cY c 35 7 true (seen.add 16):=rfl;have st2:∀se,inSet cY c 35 7 true se=if c==13 then .ok (true,se.add 16) else inSet cY c 34 9 true (se.add 16):=fun _=>rfl
 have st3:∀se,inSet cY c 34 9 true se= .ok (false,se.add 0):=fun _=>rfl
 rw [st1]
 rcases h:c==10 with _ | _
 ·rw [if_neg Bool.false_ne_true,st2]
  rcases h2:c==13 with _ | _
  ·rw [if_neg Bool.false_ne_true,st3]; exact ⟨_,rfl⟩
  ·rw [if_pos rfl]; exact ⟨_,rfl⟩
 ·rw [if_pos rfl]; exact ⟨_,rfl⟩
noncomputable def fP (c:Nat):Bool:=c==10||c==13
noncomputable def iJ (text:Array Nat):(fuel s:Nat)->Option Nat
 | 0,_=>none
 | n+1,s=>if s>=text.size then none else if fP (text.getD s 0) then some s else iJ text n (s+1)
theorem lT:∀(text:Array Nat) (x n:Nat),iJ text (n+1) x=if x>=Array.size text then none else if fP (Array.getD text x 0)=true then some x else iJ text n (x+1):=fun _ _ _=>rfl
theorem sC (m:M)(hc:m.code=cY)(text:Array Nat)(ht:m.text=text)(hl:m.lim=text.size):∀(fuel s:Nat) (seen:Seen), ∃se,M.admitted m fuel s seen= .ok (iJ text fuel s,se)
 | 0,s,seen=>⟨_,rfl⟩
 | n+1,s,seen=>by
  by_cases hs:s>=text.size
  ·exact ⟨seen,(if_pos (hl▸hs)).trans (congrArg (fun z=>Except.ok (z,seen)) (if_pos hs).symm)⟩
  ·obtain ⟨se,e⟩:=aOa (text.getD s 0) seen;rw [lT,if_neg hs];have key:M.admitted m (n+1) s seen=(match inSet m.code (m.text.getD s 0) m.code.size 5 true seen with
    | .ok (true,seen)=> .ok (some s,seen)
    | .ok (false,seen)=>M.admitted m n (s+1) seen
    | .error why=> .error why):=if_neg (hl▸hs)
   rw [key,hc,ht,e];unfold fP
   rcases h:(text.getD s 0==10||text.getD s 0==13) with _ | _
   ·exact sC m hc text ht hl n (s+1) se
   ·exact ⟨_,rfl⟩
noncomputable def qI (text:Array Nat)(s:Nat):Nat:=if text.getD s 0=13/\s+1<text.size/\text.getD (s+1) 0=10 then s+2 else s+1
def sD (m:M)(n:Nat):Prop:=(m.runFor n).outcome=some .failed
theorem cZ {m:M}(h:m.outcome.isSome=true):∀n,m.runFor n=m
 | 0=>rfl
 | n+1=>by show (if m.outcome.isSome=true then m else m.step.runFor n)=m;rw [if_pos h]
theorem dA {m:M}:∀(n k:Nat),(m.runFor n).outcome.isSome=true->n<=k->m.runFor k=m.runFor n
 | 0,k,h,_=>(cZ h k)
 | n+1,0,_,hk=>by exact absurd hk (Nat.not_lt_zero _)
 | n+1,k+1,h,hk=>by
  by_cases h0:m.outcome.isSome=true
  ·rw [cZ h0,cZ h0]
  ·have e:∀j,m.runFor (j+1)=m.step.runFor j:=fun j=>by
    show (if m.outcome.isSome=true then m else m.step.runFor j)=_;rw [if_neg h0]
   rw [e] at h ⊢;rw [e];exact dA n k h (by exact Nat.le_of_lt_succ hk)
theorem aAm (m:M):∀(a b:Nat),(m.runFor a).runFor b=m.runFor (a+b):=by
 intro a
 induction a generalizing m with
 | zero=>intro b;rw [Nat.zero_add]; rfl
 | succ a ih=>
  intro b
  by_cases h0:m.outcome.isSome=true
  ·rw [cZ h0,cZ h0,cZ h0]
  ·have e:∀j,m.runFor (j+1)=m.step.runFor j:=fun j=>by
    show (if m.outcome.isSome=true then m else m.step.runFor j)=_;rw [if_neg h0]
   rw [e,Nat.succ_add,e,ih]
theorem lE {text:Array Nat}:∀{fuel p s:Nat},iJ text fuel p=some s->s<text.size/\fP (text.getD s 0)=true
 | 0,_,_,h=>no1 h
 | n+1,p,s,h=>by
  rw [lT] at h
  split at h
  ·exact no1 h
  ·split at h
   ·rename_i h1 h2
    (replace h:=Option.some.inj h;subst h)
    exact ⟨by exact Nat.lt_of_not_le h1,h2⟩
   ·exact lE h
theorem qJ {text:Array Nat}:∀{fuel p s:Nat},iJ text fuel p=some s->p<=s
 | 0,_,_,h=>no1 h
 | n+1,p,s,h=>by
  rw [lT] at h
  split at h
  ·exact no1 h
  ·split at h
   ·(replace h:=Option.some.inj h;subst h); exact Nat.le_refl _
   ·have:=qJ h;exact Nat.le_of_lt this
noncomputable def m0 (text:Array Nat)(p:Nat):M:={code:=cY,text,lim:=text.size,start:=p,pc:=10,pos:=p,handed:=p,marks:= #[],mustAdvance:=false,seen:=({}:Seen).add 14}
theorem aC2 (text:Array Nat)(p:Nat)(hp:p<=text.size):
  (iJ text (text.size+1- p) p=none->sD (forSearch cY text 0 p text.size false) 16)/\
  (∀ s,iJ text (text.size+1- p) p=some s->Hit (forSearch cY text 0 p text.size false) s (qI text s) 16):=by
 have hit16:∀{m:M} {s e n:Nat},Hit m s e n->n<=16->Hit m s e 16:=fun {m s e n} h hn=>by
  unfold Hit at h ⊢;rw [dA n 16 (by rw [h.1]; rfl) hn]; exact h
 have e0:forSearch cY text 0 p text.size false=if (decide (p>text.size)||decide (text.size- p<1))=true then (m0 text p).say false else M.attemptFrom {m0 text p with lastStart:=text.size} p true:=rfl;rw [e0]
 by_cases hlt:p<text.size
 ·rw [if_neg (by simp;lia)];have e1:M.attemptFrom {m0 text p with lastStart:=text.size} p true=match M.admitted {m0 text p with lastStart:=text.size} (text.size+1- p) p (m0 text p).seen with
   | .ok (some s,seen)=>M.attemptAt {m0 text p with lastStart:=text.size,mustAdvance:=false,seen} s true
   | .ok (none,seen)=>M.say {m0 text p with lastStart:=text.size,seen} false
   | .error why=>M.stick {m0 text p with lastStart:=text.size} why:=rfl
  rw [e1];obtain ⟨se,e2⟩:=sC {m0 text p with lastStart:=text.size} rfl text rfl rfl (text.size+1- p) p (m0 text p).seen;rw [e2]
  constructor
  ·intro h;rw [h];exact rfl
  ·intro s h;rw [h];show Hit (st2 text s se 10 s [ns s] 1 none s true) s (qI text s) 16;obtain ⟨hs,hc⟩:=lE h;unfold fP at hc;rw [Bool.or_eq_true,beq_iff_eq,beq_iff_eq] at hc
   rcases hc with hc | hc
   ·have:qI text s=s+1:=by unfold qI;rw [if_neg]; intro q;rw [hc] at q;exact absurd q.1 (by decide)
    rw [this];exact hit16 (aNy hs hc) (by decide)
   ·by_cases h':s+1<text.size/\text.getD (s+1) 0=10
    ·have:qI text s=s+2:=by unfold qI;rw [if_pos ⟨hc,h'⟩]
     rw [this];exact hit16 (aHa h'.1 hc h'.2) (by decide)
    ·have:qI text s=s+1:=by unfold qI;rw [if_neg]; intro q;exact h' q.2
     rw [this];refine hit16 (aNz hs hc ?_) (by decide)
     by_cases q:s+1<text.size
     ·exact .inr fun z=>h' ⟨q,z⟩
     ·exact .inl q
 ·have hpe:p=text.size:=by lia
  rw [if_pos (by simp;lia)]
  constructor
  ·intro _;exact rfl
  ·intro s h
   exfalso
   obtain ⟨hs,_⟩:=lE h;have:=qJ h
   lia
open Sre
noncomputable def st1 (text:Array Nat)(s:Nat)(seen:Seen)(pc pos:Nat)(fr:List Sre.Frame)(wt:Nat)(ans:Option Bool)(handed:Nat)(outer:Bool):M:=
 {code:=lP,text,lim:=text.size,start:=s,lastStart:=text.size,pc,pos,handed,outermost:=outer,marks:= #[],lastmark:= -1,lastindex:= -1,frames:=fr,weight:=wt,answer:=ans,seen}
noncomputable def ns1 (s:Nat)(b:Bool):Sre.Frame:={wait:= .nextStart,pc:=5,pos:=s,outermost:=b}
noncomputable def bol (text:Array Nat)(s:Nat):Bool:=s==0||text.getD (s- 1) 0==10
noncomputable def hV (text:Array Nat)(s:Nat):Bool:=bol text s&&decide (s<text.size)&&text.getD s 0==46
noncomputable def eK (text:Array Nat):(fuel s:Nat)->Option Nat
 | 0,_=>none
 | n+1,s=>if hV text s then some s else if s<text.size then eK text n (s+1) else none
theorem fR:∀(text:Array Nat) (x n:Nat),eK text (n+1) x=if hV text x=true then some x else if x<Array.size text then eK text n (x+1) else none:=fun _ _ _=>rfl
section
variable {text:Array Nat}{s pos:Nat}{seen:Seen}{fr:List Sre.Frame}{wt handed:Nat}{outer:Bool}
theorem aC3 (h:bol text pos=true):∃se,(st1 text s seen 5 pos fr wt none handed outer).step=st1 text s se 7 pos fr wt none handed outer:=by
 have e1:(st1 text s seen 5 pos fr wt none handed outer).step=(match (Except.ok (bol text pos):Except String Bool) with
  | .error why=>({st1 text s seen 5 pos fr wt none handed outer with seen:=seen.add 6}:M).stick why
  | .ok yes=>let m:M:={st1 text s seen 5 pos fr wt none handed outer with seen:=(seen.add 6).add 44}; if yes then {m with pc:=m.pc+2} else m.say false):=rfl
 rw [e1,h];exact ⟨_,rfl⟩
theorem aOb (h:bol text pos=false):∃se,(st1 text s seen 5 pos fr wt none handed outer).step=st1 text s se 5 pos fr wt (some false) handed outer:=by
 have e1:(st1 text s seen 5 pos fr wt none handed outer).step=(match (Except.ok (bol text pos):Except String Bool) with
  | .error why=>({st1 text s seen 5 pos fr wt none handed outer with seen:=seen.add 6}:M).stick why
  | .ok yes=>let m:M:={st1 text s seen 5 pos fr wt none handed outer with seen:=(seen.add 6).add 44}; if yes then {m with pc:=m.pc+2} else m.say false):=rfl
 rw [e1,h];exact ⟨_,rfl⟩
theorem aK7 (hp:pos<text.size)(hc:text.getD pos 0=46):∃se,(st1 text s seen 7 pos fr wt none handed outer).step=st1 text s se 9 (pos+1) fr wt none handed outer:=by
 have hw:(st1 text s seen 7 pos fr wt none handed outer).word 0=16:=rfl;exact ⟨_,(iX rfl rfl (by show 7<lP.size;decide)).trans ((xP (by rw [hw]; rfl) rfl hp (by show (text.getD pos 0==46)=true;rw [hc]; rfl)).trans rfl)⟩
theorem aJ0 (hc:¬pos<text.size\/text.getD pos 0≠46):∃se,(st1 text s seen 7 pos fr wt none handed outer).step=st1 text s se 7 pos fr wt (some false) handed outer:=by
 have hw:(st1 text s seen 7 pos fr wt none handed outer).word 0=16:=rfl;exact ⟨_,(iX rfl rfl (by show 7<lP.size;decide)).trans ((lQ (by rw [hw]; rfl) rfl (hc.imp id fun hc=>by show (text.getD pos 0==46)=false;simpa using hc)).trans rfl)⟩
theorem aQp (b:Bool)(e:Nat):Hit (st1 text s seen 9 e [ns1 s b] 1 none handed b) s e 3:=by
 rcases b with _ | _ <;> exact ⟨rfl,rfl,rfl⟩
theorem aOc (pc:Nat)(b:Bool)(hs:s<text.size):(st1 text s seen pc s [ns1 s b] 1 (some false) s b).step=st1 text (s+1) seen 5 (s+1) [ns1 (s+1) false] 1 none (s+1) false:=by
 have e1:(st1 text s seen pc s [ns1 s b] 1 (some false) s b).step=if s<text.size then st1 text (s+1) seen 5 (s+1) [ns1 (s+1) false] 1 none (s+1) false else ({st1 text s seen 5 s [] 0 none s b with answer:=some false}:M):=rfl;rw [e1,if_pos hs]
theorem aOd (pc:Nat)(b:Bool)(hs:¬s<text.size):sD (st1 text s seen pc s [ns1 s b] 1 (some false) s b) 2:=by
 have e1:(st1 text s seen pc s [ns1 s b] 1 (some false) s b).step=if s<text.size then st1 text (s+1) seen 5 (s+1) [ns1 (s+1) false] 1 none (s+1) false else ({st1 text s seen 5 s [] 0 none s b with answer:=some false}:M):=rfl;unfold sD;rw [rf rfl,e1,if_neg hs];rfl
theorem sD.back {m m':M}{n:Nat}(h:sD m' n)(e1:m.step=m')(h0:m.outcome=none):sD m (n+1):=by
 subst e1;unfold sD;rw [rf h0];exact h
theorem Hit.more {m:M}{s e n k:Nat}(h:Hit m s e n)(hn:n<=k):Hit m s e k:=by
 unfold Hit at h ⊢;rw [dA n k (by rw [h.1]; rfl) hn]; exact h
theorem sD.more {m:M}{n k:Nat}(h:sD m n)(hn:n<=k):sD m k:=by
 unfold sD at h ⊢;rw [dA n k (by rw [h]; rfl) hn]; exact h
theorem aQq (text:Array Nat):∀(d s:Nat) (seen:Seen) (b:Bool),text.size- s=d->s<=text.size->
  (eK text (d+1) s=none->sD (st1 text s seen 5 s [ns1 s b] 1 none s b) (3*d+5))/\
  (∀ e,eK text (d+1) s=some e->Hit (st1 text s seen 5 s [ns1 s b] 1 none s b) e (e+1) (3*d+5)):=by
 intro d
 induction d with
 | zero=>
  intro s seen b hd hle;have hs:¬s<text.size:=by lia
  have hnd:hV text s=false:=by unfold hV;simp [hs]
  have hf:eK text (0+1) s=none:=by rw [fR]; rw [hnd]; simp [hs]
  refine ⟨fun _=> ?_,fun e h=>by rw [hf] at h;exact no1 h⟩
  rcases hb:bol text s with _ | _
  ·obtain ⟨se,e1⟩:=aOb (s:=s) (seen:=seen) (fr:=[ns1 s b]) (wt:=1) (handed:=s) (outer:=b) hb;exact ((aOd 5 b hs).back e1 rfl).more (by decide)
  ·obtain ⟨se,e1⟩:=aC3 (s:=s) (seen:=seen) (fr:=[ns1 s b]) (wt:=1) (handed:=s) (outer:=b) hb;obtain ⟨se2,e2⟩:=aJ0 (text:=text) (s:=s) (pos:=s) (seen:=se) (fr:=[ns1 s b]) (wt:=1) (handed:=s) (outer:=b) (.inl hs);exact (((aOd 7 b hs).back e2 rfl).back e1 rfl).more (by decide)
 | succ d ih=>
  intro s seen b hd hle;have hs:s<text.size:=by lia
  rcases hdot:hV text s with _ | _
  ·have hf:eK text (d+1+1) s=eK text (d+1) (s+1):=by rw [fR,hdot]; simp [hs]
   rw [hf];have key:∃k se,k<=3/\∀j,(st1 text s seen 5 s [ns1 s b] 1 none s b).runFor (j+k)=(st1 text (s+1) se 5 (s+1) [ns1 (s+1) false] 1 none (s+1) false).runFor j:=by
    rcases hb:bol text s with _ | _
    ·obtain ⟨se,e1⟩:=aOb (s:=s) (seen:=seen) (fr:=[ns1 s b]) (wt:=1) (handed:=s) (outer:=b) hb;refine ⟨2,se,by decide,fun j=> ?_⟩;rw [show j+2=(j+1)+1 from rfl,rf rfl,e1,rf rfl,aOc 5 b hs]
    ·obtain ⟨se,e1⟩:=aC3 (s:=s) (seen:=seen) (fr:=[ns1 s b]) (wt:=1) (handed:=s) (outer:=b) hb;have hc:text.getD s 0≠46:=by
      intro q;unfold hV at hdot;rw [hb,q] at hdot;simp [hs] at hdot
     obtain ⟨se2,e2⟩:=aJ0 (text:=text) (s:=s) (pos:=s) (seen:=se) (fr:=[ns1 s b]) (wt:=1) (handed:=s) (outer:=b) (.inr hc);refine ⟨3,se2,by decide,fun j=> ?_⟩;rw [show j+3=((j+1)+1)+1 from rfl,rf rfl,e1,rf rfl,e2,rf rfl,aOc 7 b hs]
   obtain ⟨k,se,hk,hrun⟩:=key;obtain ⟨i1,i2⟩:=ih (s+1) se false (by lia) (by exact hs)
   constructor
   ·intro h;have:=i1 h;have h2:sD (st1 text s seen 5 s [ns1 s b] 1 none s b) (3*d+5+k):=by unfold sD at this ⊢; rw [hrun]; exact this
    exact h2.more (by exact Nat.add_le_add_left hk _)
   ·intro e h;have:=i2 e h;have h2:Hit (st1 text s seen 5 s [ns1 s b] 1 none s b) e (e+1) (3*d+5+k):=by unfold Hit at this ⊢; rw [hrun]; exact this
    exact h2.more (by exact Nat.add_le_add_left hk _)
  ·have hf:eK text (d+1+1) s=some s:=by rw [fR,hdot]; simp
   rw [hf];refine ⟨fun h=>(by exact no2 h),fun e h=> ?_⟩
   (replace h:=Option.some.inj h;subst h)
   unfold hV at hdot;simp only [Bool.and_eq_true,decide_eq_true_eq,beq_iff_eq] at hdot;obtain ⟨se,e1⟩:=aC3 (s:=s) (seen:=seen) (fr:=[ns1 s b]) (wt:=1) (handed:=s) (outer:=b) hdot.1.1;obtain ⟨se2,e2⟩:=aK7 (text:=text) (s:=s) (pos:=s) (seen:=se) (fr:=[ns1 s b]) (wt:=1) (handed:=s) (outer:=b) hs hdot.2;exact (((aQp b (s+1)).back e2 rfl).back e1 rfl).more (by exact Nat.le_add_left _ _)
theorem aC4 (text:Array Nat)(p:Nat)(hp:p<=text.size):
  (eK text (text.size- p+1) p=none->sD (forSearch lP text 0 p text.size false) (3*text.size+5))/\
  (∀ s,eK text (text.size- p+1) p=some s->Hit (forSearch lP text 0 p text.size false) s (s+1) (3*text.size+5)):=by
 have e0:forSearch lP text 0 p text.size false=if (decide (p>text.size)||decide (text.size- p<1))=true then ({st1 text p (({}:Seen).add 14) 5 p [] 0 (some false) p true with lastStart:=0}:M)
  else st1 text p (({}:Seen).add 14) 5 p [ns1 p true] 1 none p true:=rfl
 rw [e0]
 by_cases hlt:p<text.size
 ·rw [if_neg (by simp;lia)];obtain ⟨h1,h2⟩:=aQq text (text.size- p) p (({}:Seen).add 14) true rfl hp;exact ⟨fun h=>(h1 h).more (by lia),fun s h=>(h2 s h).more (by lia)⟩
 ·have hnd:hV text p=false:=by unfold hV;simp [hlt]
  have hf:eK text (text.size- p+1) p=none:=by rw [fR,hnd]; simp [hlt]
  rw [if_pos (by simp;lia)];refine ⟨fun _=> ?_,fun s h=>by rw [hf] at h;exact no1 h⟩;have:sD ({st1 text p (({}:Seen).add 14) 5 p [] 0 (some false) p true with lastStart:=0}:M) 1:=rfl;exact this.more (by exact Nat.succ_pos _)
end
end Mine
end
section
open PySem PySem.Builtin PySem.Builtin.Re PyProof.Rows
set_option maxRecDepth 100000
namespace Mine
section
open Sre
section
variable {Mo:Model}{A:Around}{E:Value->Shared->Prop}{s:Shared}
theorem aHf {Q:M->Shared->Prop}:∀(k t:Nat) (m:M),1<=k->k<=t->(m.runFor (4*k)).outcome.isSome=true->Q (m.runFor (4*k)) s->wpAny Mo A (reDrive t m) Q E s:=by
 intro k
 induction k with
 | zero=>intro t m h;exact absurd h (Nat.not_lt_zero _)
 | succ k ih=>
  intro t m _ hkt h hq
  cases t with
  | zero=>exact absurd hkt (Nat.not_lt_zero _)
  | succ t=>
   show wpAny Mo A (if (m.runFor reTurnSteps).outcome.isSome=true then pure (m.runFor reTurnSteps) else do rule "sre.turn";reDrive t (m.runFor reTurnSteps)) Q E s;have e4:reTurnSteps=4:=rfl;rw [e4]
   by_cases h4:(m.runFor 4).outcome.isSome=true
   ·rw [if_pos h4];rw [dA 4 (4*(k+1)) h4 (by exact Nat.le_add_left _ _)] at hq;exact wpAny_pure hq
   ·rw [if_neg h4];have hk:1<=k:=by
     rcases k with _ | k
     ·exact absurd h h4
     ·exact Nat.succ_pos _
    have e5:(m.runFor 4).runFor (4*k)=m.runFor (4*(k+1)):=by rw [aAm]; congr 1;exact Nat.add_comm _ _
    exact wpAny_bind (wpAny_rule (ih t (m.runFor 4) hk (by exact Nat.le_of_lt_succ hkt) (by rw [e5]; exact h) (by rw [e5]; exact hq)))
theorem qK {Q:PUnit->Shared->Prop}(p:Nat->Bool)(f:Nat->String):∀l:List Nat,Q ⟨⟩ s->wpAny Mo A (forIn l PUnit.unit fun i (_:PUnit)=>if p i=true then (do rule (f i); pure (ForInStep.yield PUnit.unit):Sem (ForInStep PUnit)) else pure (ForInStep.yield PUnit.unit)) Q E s
 | [],h=>by rw [List.forIn_nil]; exact wpAny_pure h
 | i::r,h=>by
  rw [List.forIn_cons];refine wpAny_bind ?_
  split
  ·exact wpAny_bind (wpAny_rule (wpAny_pure (qK p f r h)))
  ·exact wpAny_pure (qK p f r h)
theorem xR {Q:Option M->Shared->Prop}{m:M}{n:Nat}(hn:n<=2^30)(h:(m.runFor n).outcome=some .matched/\Q (some (m.runFor n)) s\/(m.runFor n).outcome=some .failed/\Q none s):wpAny Mo A (reRunToEnd m) Q E s:=by
 have ho:(m.runFor n).outcome.isSome=true:=by rcases h with h | h <;> (rw [h.1]; rfl)
 have e:m.runFor (4*(n+1))=m.runFor n:=dA n _ ho (by lia);unfold reRunToEnd;refine wpAny_bind (aHf (n+1) _ m (by exact Nat.succ_pos _) (by exact sll hn rfl) (by rw [e]; exact ho) ?_);rw [e];refine wpAny_bind (qK _ _ _ ?_)
 rcases h with h | h
 ·rw [h.1]; exact wpAny_pure h.2
 ·rw [h.1]; exact wpAny_pure h.2
end
structure oO (code:Array Nat)(text:Array Nat)(F:Nat->Option Nat)(G:Nat->Nat):Prop where
 miss:∀p,p<=text.size->F p=none->∃n,n<=2^30/\sD (forSearch code text 0 p text.size false) n
 hit:∀p s,p<=text.size->F p=some s->p<=s/\s<G s/\G s<=text.size/\∃n,n<=2^30/\Hit (forSearch code text 0 p text.size false) s (G s) n
noncomputable def bW (text:Array Nat)(r:Str)(F:Nat->Option Nat)(G:Nat->Nat):(fuel p:Nat)->List Str
 | 0,_=>[]
 | n+1,p=>match F p with
  | some s=>(if p<s then [⟨text.extract p s⟩] else [])++r::bW text r F G n (G s)
  | none=>if p<text.size then [⟨text.extract p text.size⟩] else []
theorem cL {text:Array Nat}{r:Str}{F:Nat->Option Nat}{G:Nat->Nat}{n p s:Nat}(h:F p=some s):bW text r F G (n+1) p=(if p<s then [⟨text.extract p s⟩] else [])++r::bW text r F G n (G s):=by
 show (match F p with | some s=>(if p<s then [(⟨text.extract p s⟩:Str)] else [])++r::bW text r F G n (G s) | none=>if p<text.size then [(⟨text.extract p text.size⟩:Str)] else [])=_;rw [h]
theorem cM {text:Array Nat}{r:Str}{F:Nat->Option Nat}{G:Nat->Nat}{n p:Nat}(h:F p=none):bW text r F G (n+1) p=if p<text.size then [⟨text.extract p text.size⟩] else []:=by
 show (match F p with | some s=>(if p<s then [(⟨text.extract p s⟩:Str)] else [])++r::bW text r F G n (G s) | none=>if p<text.size then [(⟨text.extract p text.size⟩:Str)] else [])=_;rw [h]
set_option genInjectivity false in
structure PQ where
 o:Obj
 f:Array Value
 ca:Addr
 oc:Obj
 ci:Array Value
 n:Nat
structure aR9 (q:PQ)(code:Array Nat):Prop where
 cls:q.o.cls= .type "re.Pattern"
 dict:q.o.dict=none
 data:q.o.data= .fields q.f
 groups:q.f.getD 2 .none= .int 0 0
 codes:q.f.getD 5 .none= .ref q.ca
 kind:q.f.getD 6 .none= .int 0 0
 seq:q.oc.data= .seq q.ci q.n
 code:(q.ci.map reRawOf).map (·.toNat)=code
def lU (h:Heap)(a:Addr)(code:Array Nat):Prop:=∃q:PQ,(h.get? a=some q.o/\h.get? q.ca=some q.oc)/\aR9 q code
theorem lU.keeps {h h':Heap}{a:Addr}{code:Array Nat}(x:lU h a code)(k:∀b o,h.get? b=some o->h'.get? b=some o):lU h' a code:=
 x.imp fun _ y=>⟨⟨k _ _ y.1.1,k _ _ y.1.2⟩,y.2⟩
theorem oP:entryFor table "re.Pattern.sub.loop"=some Builtin.«re.Pattern.sub.loop» :=entryFor_of_tree (by kernel_rfl)
theorem eL:plainId "re.Pattern.sub.loop"=true:=by decide+kernel
section
variable {prog:Program}{w:World}{A:Around}{E:Value->Shared->Prop}{s:Shared}
theorem sE {a:Addr}{code:Array Nat}{x:Str}{t:Tok}{Q:ReTarget->Shared->Prop}(hp:lU s.heap a code)
  (h:Q {pattern:= .ref a,string:= .str x t,code,text:=x.cps,kind:=0,groups:=0,pos:=0,lim:=x.cps.size} s):wpAny (model prog w) A (reWholeTarget (.ref a) (.str x t)) Q E s:=by
 obtain ⟨q,⟨h1,h8⟩,k⟩:=hp;unfold reWholeTarget;refine wpAny_bind (wpAny_fieldsOf h1 k.data ?_);refine wpAny_bind (wpAny_of_eq (show reTextOf (.str x t)=pure (x.cps,0) from rfl) ?_);rw [k.kind];show wpAny _ A (if (0==0&&0==1)=true then _ else _) Q E s;rw [if_neg (by decide)];refine wpAny_bind ?_;refine wpAny_pure ?_;refine wpAny_bind ?_;rw [k.codes];unfold reRawItems;refine wpAny_bind (wpAny_seqItems h8 k.seq (wpAny_pure ?_));refine wpAny_pure ?_;show Q {pattern:= .ref a,string:= .str x t,code:=Array.map (fun x=>x.toNat) (q.ci.map reRawOf),text:=x.cps,kind:=0,groups:=reRawNat (q.f.getD 2 Value.none),pos:=0,lim:=x.cps.size} s;rw [k.code,k.groups];exact h
theorem oQ {vs ws:List Value}{xs ys:List Str}(h:StrsAre vs xs)(h2:StrsAre ws ys):StrsAre (vs++ws) (xs++ys):=by
 induction h with
 | nil=>exact h2
 | cons y t _ ih=>exact .cons y t ih
theorem aK8 {L:Addr}{items:Array Value}{v:Value}{Q:Unit->Shared->Prop}(hl:s.heap.PlainList L items)(hsz:items.size<=2^20)
  (h:∀h',h'.PlainList L (items.push v)->Heap.SameBut L s.heap h'->Q () {s with heap:=h'}):wpAny (model prog w) A (updateSeq L (·.push v)) Q E s:=by
 obtain ⟨n,ho⟩:=hl;refine wpAny_updateSeq (hz:=by rw [sizeLine_eq]; exact lit hsz rfl) (_hz':=by rw [sizeLine_eq]; simp;exact lit hsz rfl) ho rfl (h _ ⟨n+1,?_⟩ (Heap.SameBut.update ..));rw [Heap.get?_update_self _ ho (by rw [Obj.mapSeq_push_plain]; rfl),Obj.mapSeq_push_plain]
theorem fS {code text:Array Nat}{r:Str}{F:Nat->Option Nat}{G:Nat->Nat}(hF:oO code text F G):∀(a b p:Nat),p<=text.size->text.size- p<a->text.size- p<b->bW text r F G a p=bW text r F G b p:=by
 intro a
 induction a with
 | zero=>intro b p _ h;exact absurd h (Nat.not_lt_zero _)
 | succ a ih=>
  intro b p hp ha hb
  cases b with
  | zero=>exact absurd hb (Nat.not_lt_zero _)
  | succ b=>
   rcases hf:F p with _ | s
   ·rw [cM hf,cM hf]
   ·obtain ⟨h1,h2,h3,_⟩:=hF.hit p s hp hf;have e:text.size- G s<text.size- p:=Nat.sub_lt_sub_left (Nat.lt_of_le_of_lt h1 (Nat.lt_of_lt_of_le h2 h3)) (Nat.lt_of_le_of_lt h1 h2);rw [cL hf,cL hf,ih b (G s) h3 (Nat.lt_of_lt_of_le e (Nat.le_of_lt_succ ha)) (Nat.lt_of_lt_of_le e (Nat.le_of_lt_succ hb))]
theorem lV {vs:List Value}{zs:List Str}(h:StrsAre vs zs):vs.length=zs.length:=by
 induction h with
 | nil=>rfl
 | cons _ _ _ ih=>exact congrArg Nat.succ ih
end
set_option genInjectivity false in
structure aHg where
 prog:Program
 w:World
 h:Heap
 a:Addr
 L:Addr
 code:Array Nat
 x:Str
 r:Str
 t:Tok
 u:Tok
 F:Nat->Option Nat
 G:Nat->Nat
namespace aHg
structure Ok (X:aHg):Prop where
 F:oO X.code X.x.cps X.F X.G
 x:X.x.cps.size<=2^14
 r:X.r.length<=2
 pat:lU X.h X.a X.code
 L0:X.h.get? X.L=none
structure Hp (X:aHg)(s:Shared)(ys:List Str):Prop where
 keep:∀b o,X.h.get? b=some o->s.heap.get? b=some o
 lay:∃items:Array Value,s.heap.PlainList X.L items/\StrsAre items.toList ys
structure Bd (p:Nat)(ys:List Str):Prop where
 len:∀y∈ys,y.length<=2^14
 cnt:ys.length<=2*p
 sum:(ys.map (·.length)).sum<=3*p
def Ret (X:aHg)(s:Shared)(zs:List Str)(R:Result->Shared->Prop):Prop:=∀h' t' tk,(∀ b o,b≠X.L->s.heap.get? b=some o->h'.get? b=some o)->R (.ok (.ret (.str (Txt.join ⟨#[]⟩ zs) t'))) {s with heap:=h',toks:=tk}
noncomputable abbrev turn (X:aHg)(n p:Nat)(b:Bool):Code:= .builtin "re.Pattern.sub.loop" ⟨[.ref X.a,.str X.x X.t,.str X.r X.u,rawInt 0,rawInt 0,rawInt n,rawInt p,rawInt p,.bool b,.ref X.L,.bool false],[]⟩
theorem qL (ys:List Str)(y:Str):((ys++[y]).map (·.length)).sum=(ys.map (·.length)).sum+y.length:=by rw [List.map_append,List.sum_append]; rfl
theorem Bd.snoc {p q:Nat}{ys:List Str}{y:Str}(B:Bd p ys)(h1:y.length<=2^14)(h2:ys.length+1<=2*q)(h3:(ys.map (·.length)).sum+y.length<=3*q):Bd q (ys++[y]):=
 ⟨fun z hz=>(List.mem_append.mp hz).elim (B.len z) fun e=>List.mem_singleton.mp e▸h1,by rw [List.length_append]; exact h2,by rw [qL]; exact h3⟩
variable {X:aHg}{A:Around}{E:Value->Shared->Prop}{s:Shared}{ys zs:List Str}
theorem push (O:Ok X)(H:Hp X s ys){y:Str}{t:Tok}{Q:Unit->Shared->Prop}(hn:ys.length<=2^20)(h:∀h',(∀ b o,b≠X.L->s.heap.get? b=some o->h'.get? b=some o)->Hp X {s with heap:=h'} (ys++[y])->Q () {s with heap:=h'}):
  wpAny (model X.prog X.w) A (updateSeq X.L (·.push (.str y t))) Q E s:=by
 obtain ⟨its,hl,hz⟩:=H.lay;have e:its.size=ys.length:=lV hz;refine aK8 hl (e▸hn) fun h' hl' hs'=>h h' (fun b o hb e=>hs'.extBut b o hb e) ⟨fun b o e=>hs'.extBut b o (fun q=> ?_) (H.keep b o e),_,hl',by rw [Array.toList_push]; exact oQ hz (.cons _ _ .nil)⟩
 rw [q,O.L0] at e;exact no1 e
theorem xS (O:Ok X){p e:Nat}:(⟨X.x.cps.extract p e⟩:Str).length<=2^14:=Nat.le_trans (by show (X.x.cps.extract p e).size<=X.x.cps.size;rw [Array.size_extract]; exact Nat.le_trans (Nat.sub_le _ _) (Nat.min_le_right _ _)) O.x
theorem aOe (O:Ok X)(H:Hp X s ys){p e:Nat}{α:Type}{K:Sem α}{Q:α->Shared->Prop}(hn:ys.length<=2^20)(h:∀h' tk,(∀ b o,b≠X.L->s.heap.get? b=some o->h'.get? b=some o)->Hp X {s with heap:=h',toks:=tk} (ys++[⟨X.x.cps.extract p e⟩])->wpAny (model X.prog X.w) A K Q E {s with heap:=h',toks:=tk}):
  wpAny (model X.prog X.w) A (do let v <-mkStr ⟨X.x.cps.extract p e⟩; updateSeq X.L (·.push v); K) Q E s:=by
 have hel:=xS O (p:=p) (e:=e);exact wpAny_bind (wpAny_mkStr (wpAny_bind (push (s:={s with toks:=s.toks+1}) O ⟨H.keep,H.lay⟩ hn fun h' k H'=>h h' _ k H')) (by rw [sizeLine_eq]; exact lit hel rfl))
theorem fin {n:Nat}{P:Fin->Shared->Prop}(H:Hp X s zs)(hs:(zs.map (·.length)).sum<=2^20)(hP:∀t' tk,P (.done (.ret (.str (Txt.join ⟨#[]⟩ zs) t'))) {s with toks:=tk}):
  wpAny (model X.prog X.w) A (do
   let joiner <-reSlice X.x.cps 0 0 0
   let __do_lift <-seqItems? (.ref X.L)
   let __do_jp:=fun text=>(if false=true then do let __do_lift <-holding [text] (do let __do_lift <-mkInt n;newTuple [text,__do_lift]); ret __do_lift else ret text:Sem Fin)
   if (__do_lift.getD #[]).isEmpty=true then do let text <-pure joiner;__do_jp text
   else do let text <-call (.builtin (if (0==0)=true then "str.join" else "bytes.join")) [joiner,.ref X.L]; __do_jp text) P E s:=by
 obtain ⟨its,hl,hz⟩:=H.lay;have hemp:(⟨X.x.cps.extract 0 0⟩:Str)=⟨#[]⟩:=by simp
 refine wpAny_bind ?_;show wpAny _ _ (mkStr ⟨X.x.cps.extract 0 0⟩) _ _ _;rw [hemp];refine wpAny_mkStr ?_ (by show 0<=sizeLine;exact Nat.zero_le _);obtain ⟨k,ho⟩:=id hl;refine wpAny_bind (wpAny_seqItems (s:={s with toks:=s.toks+1}) ho rfl ?_);show wpAny _ _ (if its.isEmpty=true then _ else _) _ _ _
 by_cases he:its.isEmpty=true
 ·rw [if_pos he];have hzs:zs=[]:=List.eq_nil_of_length_eq_zero ((lV hz).symm.trans (by simpa using he));have h:=hP s.toks (s.toks+1);rw [hzs] at h;exact wpAny_bind (wpAny_pure (wpAny_pure h))
 ·rw [if_neg he];exact wpAny_bind (PyProof.Rows.join_list (s:={s with toks:=s.toks+1}) hl.isList hz (by show _+_*0<=_;exact lit hs rfl) fun t' k=>wpAny_pure (hP _ _))
def aQr (X:aHg)(A:Around)(d:Nat):Prop:=∀(p n:Nat) (b:Bool) (s:Shared) (ys:List Str) (R:Result->Shared->Prop),b=false->X.x.cps.size- p=d->p<=X.x.cps.size->Hp X s ys->Bd p ys->Ret X s (ys++bW X.x.cps X.r X.F X.G (d+1) p) R->codeAny (model X.prog X.w) A (turn X n p b) R s
theorem next (O:Ok X){d n e q:Nat}{R:Result->Shared->Prop}(ih:∀d',d'<d->aQr X A d')(hd:X.x.cps.size- e<d)(he:e<=X.x.cps.size)(hq:q<e)(H:Hp X s zs)(B:Bd q zs)(h1:zs.length+1<=2*e)(h2:(zs.map (·.length)).sum+2<=3*e)(hR:Ret X s (zs++X.r::bW X.x.cps X.r X.F X.G (X.x.cps.size- e+1) e) R):
  wpAny (model X.prog X.w) A.in1 (do
   updateSeq X.L (·.push (.str X.r X.u))
   again (turn X n e (e==q))) (fun fin s'=>match fin with | .done f=>R (.ok f) s' | .again c'=>c'.quiet=true/\codeAny (model X.prog X.w) A c' R s') (fun e s'=>R (.error e) s') s:=by
 have hr:=O.r;refine wpAny_bind (push O H (Nat.le_trans B.cnt (Nat.le_trans (Nat.mul_le_mul_left 2 (Nat.le_trans (Nat.le_of_lt hq) (Nat.le_trans he O.x))) (by decide))) fun h' k H'=>wpAny_pure ⟨plainId_quiet eL _,ih _ hd e n _ _ _ R (beq_eq_false_iff_ne.mpr (Nat.ne_of_gt hq)) rfl he H' (B.snoc (Nat.le_trans hr (by decide)) h1 (Nat.le_trans (Nat.add_le_add_left hr _) h2)) fun h'' t' tk k'=> ?_⟩);have:=hR h'' t' tk fun b o hb e=>k' b o hb (k b o hb e)
 rw [List.append_assoc];exact this
theorem aC5 (O:Ok X){p:Nat}{R:Result->Shared->Prop}{P:Fin->Shared->Prop}{d:Nat}(hf:X.F p=none)(H:Hp X s ys)(B:Bd p ys)(hp:p<=X.x.cps.size)(hP:∀f s',R (.ok f) s'->P (.done f) s')(hR:Ret X s (ys++bW X.x.cps X.r X.F X.G (d+1) p) R){K:Sem Fin}
  (hK:∀s'2 zs,Hp X s'2 zs->(zs.map (·.length)).sum<=2^20->(∀ t' tk,P (.done (.ret (.str (Txt.join ⟨#[]⟩ zs) t'))) {s'2 with toks:=tk})->wpAny (model X.prog X.w) A K P E s'2):
  wpAny (model X.prog X.w) A (if p<X.x.cps.size then do let v <-mkStr ⟨X.x.cps.extract p X.x.cps.size⟩; updateSeq X.L (·.push v); K else K) P E s:=by
 have hn:ys.length<=2^20:=Nat.le_trans B.cnt (Nat.le_trans (Nat.mul_le_mul_left 2 (Nat.le_trans hp O.x)) (by decide));have hs:(ys.map (·.length)).sum+2^14<=2^20:=Nat.le_trans (Nat.add_le_add_right (Nat.le_trans B.sum (Nat.mul_le_mul_left 3 (Nat.le_trans hp O.x))) _) (by decide);rw [cM hf] at hR
 by_cases hlt:p<X.x.cps.size
 ·rw [if_pos hlt];rw [if_pos hlt] at hR;refine aOe O H hn fun h' tk k H'=>hK _ _ H' (by rw [qL]; exact Nat.le_trans (Nat.add_le_add_left (xS O) _) hs) fun t' tk'=>hP _ _ (hR h' t' tk' k)
 ·rw [if_neg hlt];rw [if_neg hlt,List.append_nil] at hR;exact hK _ _ H (Nat.le_trans (Nat.le_add_right _ _) hs) fun t' tk=>hP _ _ (hR s.heap t' tk fun _ _ _ e=>e)
theorem aK9 {p st g sz d:Nat}(h1:p<=st)(h2:st<g)(hp:p<=sz)(hd:sz- p=d)(h3:g<=sz):sz- g<d:=by lia
theorem aLa {p st g l m e:Nat}(h1:p<st)(h2:st<g)(hc:l<=2*p)(hs:m<=3*p)(he:e<=st- p):(l+1<=2*st/\m+e<=3*st)/\l+1+1<=2*g/\m+e+2<=3*g:=by lia
theorem aLb {p g l m:Nat}(h2:p<g)(hc:l<=2*p)(hs:m<=3*p):l+1<=2*g/\m+2<=3*g:=by lia
theorem aHh (O:Ok X){p n q st hn:Nat}(e1:st=q)(e2:hn=X.G q){R:Result->Shared->Prop}{d:Nat}(ih:∀d',d'<d->aQr X A d')(hd:X.x.cps.size- p=d)(hf:X.F p=some q)(H:Hp X s ys)(B:Bd p ys)(hp:p<=X.x.cps.size)(hR:Ret X s (ys++bW X.x.cps X.r X.F X.G (d+1) p) R):
  wpAny (model X.prog X.w) A.in1 (if p<st then do let v <-mkStr ⟨X.x.cps.extract p st⟩; updateSeq X.L (·.push v); (do
    updateSeq X.L (·.push (.str X.r X.u))
    again (turn X n hn (hn==st)))
   else do
    updateSeq X.L (·.push (.str X.r X.u))
    again (turn X n hn (hn==st))) (fun fin s'=>match fin with | .done f=>R (.ok f) s' | .again c'=>c'.quiet=true/\codeAny (model X.prog X.w) A c' R s') (fun e s'=>R (.error e) s') s:=by
 subst e1 e2;obtain ⟨h1,h2,h3,_⟩:=O.F.hit p st hp hf;have hg:=aK9 h1 h2 hp hd h3;rw [cL hf] at hR;rw [fS O.F d (X.x.cps.size- X.G st+1) _ h3 hg (Nat.lt_succ_self _)] at hR;have hn:ys.length<=2^20:=Nat.le_trans B.cnt (Nat.le_trans (Nat.mul_le_mul_left 2 (Nat.le_trans hp O.x)) (by decide))
 by_cases hlt:p<st
 ·rw [if_pos hlt];rw [if_pos hlt] at hR;have hel:(X.x.cps.extract p st).size<=st- p:=by rw [Array.size_extract]; exact Nat.sub_le_sub_right (Nat.min_le_left _ _) _
  obtain ⟨a1,a2,a3⟩:=aLa (l:=ys.length) hlt h2 B.cnt B.sum hel;refine aOe O H hn fun h' tk k H'=>next O ih hg h3 h2 H' (B.snoc (Nat.le_trans hel (Nat.le_trans (Nat.sub_le _ _) (Nat.le_trans (Nat.le_of_lt (Nat.lt_of_lt_of_le h2 h3)) O.x))) a1.1 a1.2) (by rw [List.length_append]; exact a2) (by rw [qL]; exact a3) fun h'' t' tk' k'=> ?_
  have:=hR h'' t' tk' fun b o hb e=>k' b o hb (k b o hb e)
  rw [List.append_assoc];exact this
 ·rw [if_neg hlt];rw [if_neg hlt] at hR;have e:p=st:=Nat.le_antisymm h1 (Nat.le_of_not_lt hlt);have B':Bd st ys:=e▸B;obtain ⟨a1,a2⟩:=aLb h2 B'.cnt B'.sum;exact next O ih hg h3 h2 H B' a1 a2 hR
theorem loop (O:Ok X)(d:Nat):aQr X A d:=by
 induction d using Nat.strongRecOn with
 | ind d ih=>
  intro p n b s ys R hb hd hp H B hR;subst hb;refine codeAny_builtin oP ?_;rw [Around.under_plainId eL _];unfold «re.Pattern.sub.loop»;refine wpAny_bind (sE (O.pat.keeps H.keep) ?_);refine wpAny_bind (wpAny_of_eq (show (if ((0:Int)==0)=true then reLiteralCannotBeTurned (.str X.r X.u) else pure PUnit.unit)=pure PUnit.unit from rfl) ?_);refine wpAny_bind ?_;show wpAny _ _ (reRunToEnd (forSearch X.code X.x.cps 0 p X.x.cps.size false)) _ _ _
  cases hf:X.F p with
  | none=>
   obtain ⟨N,hN,hm⟩:=O.F.miss p hp hf;refine xR hN (.inr ⟨hm,?_⟩);exact aC5 (R:=R) O hf H B hp (fun _ _ q=>q) hR fun s'2 zs H2 h1 h2=>fin H2 h1 h2
  | some q=>
   obtain ⟨h1,h2,h3,N,hN,hm⟩:=O.F.hit p q hp hf;refine xR hN (.inl ⟨hm.1,?_⟩);exact aHh (n:=n+1) O hm.2.1 hm.2.2 ih hd hf H B hp hR
end aHg
end
open Sre
theorem xT:Slot "re.Pattern" "sub" "re.Pattern.sub":=
 .of (owner:="re.Pattern") (n:="sub") (by rw [typeLookup_type,builtinLookup_eq_fast]; kernel_rfl) (by decide+kernel) (by decide+kernel) (by decide+kernel)
  (by first | exact .inl (by decide+kernel) | exact .inr (by decide+kernel)) (by rw [isSubtype_type]; kernel_rfl)
theorem aHi:typeOf (.builtin "re.Pattern.sub")=pure (.type "method_descriptor"):=by show builtinType _=_;rw [builtinType_eq_fast]; kernel_rfl
theorem aC6:entryFor table "re.Pattern.sub"=some Builtin.«re.Pattern.sub» :=entryFor_of_tree (by kernel_rfl)
theorem oR:PlainAttrs "re.Pattern":=
 ⟨⟨"object.__getattribute__",by rw [typeLookup_type,builtinLookup_eq_fast]; kernel_rfl,by decide+kernel⟩,by rw [typeLookup_type,builtinLookup_eq_fast]; kernel_rfl⟩
theorem aHj (a b c:Value):argsOk "re.Pattern.sub" ⟨[a,b,c],[]⟩:=by unfold argsOk;kernel_rfl
theorem vD:typeLookup (.type "str") "__call__"=pure none:=by rw [typeLookup_type,builtinLookup_eq_fast]; kernel_rfl
section
variable {prog:Program}{w:World}{A:Around}{E:Value->Shared->Prop}{s:Shared}
theorem aC7 {a:Addr}{code:Array Nat}{x r:Str}{t u:Tok}{F:Nat->Option Nat}{G:Nat->Nat}(hF:oO code x.cps F G)(hx:x.cps.size<=2^14)(hr:r.length<=2)(hb:r.cps.contains 92=false):
  MeetsIn prog w (Builtin.«re.Pattern.sub» ⟨[.ref a,.str r u,.str x t],[]⟩) (fun A R s=>lU s.heap a code/\
   ∀h' t' tk,(∀ b o,s.heap.get? b=some o->h'.get? b=some o)->R (.ok (.ret (.str (Txt.join ⟨#[]⟩ (bW x.cps r F G (x.cps.size+1) 0)) t'))) {s with heap:=h',toks:=tk}):=by
 intro A R s ⟨hp,h⟩;unfold «re.Pattern.sub» reSubstitute;refine wpAny_bind (wpAny_of_eq (show reNamed "re.Pattern.sub" "sub" ["repl","string","count"] 2 [.str r u,.str x t] []=pure [some (.str r u),some (.str x t),none] from rfl) ?_);refine wpAny_bind (wpAny_pure ?_);refine wpAny_bind (wpAny_specialOf (typeIs_str s r u) vD ?_);refine bX (by decide) ?_;refine wpAny_bind (wpAny_of_eq (show asStr? (.str r u)=pure (some r) from rfl) ?_);refine wpAny_bind (wpAny_pure ?_);refine bX (by decide) (iV (by rw [hb]; rfl) ?_);refine wpAny_bind (wpAny_pure ?_);refine wpAny_bind (wpAny_holding (sE hp ?_));show wpAny _ _ (if ((0:Int)==1)=true then _ else _) _ _ _;refine bX (by decide) ?_;refine wpAny_bind (wpAny_newObj_type ?_);have hL0:s.heap.get? s.heap.objs.size=none:=by
  rcases e:s.heap.get? s.heap.objs.size with _ | o
  ·rfl
  ·exact absurd (Heap.lt_size e) (Nat.lt_irrefl _)
 refine wpAny_pure ⟨plainId_quiet eL _,aHg.loop (X:=⟨prog,w,s.heap,a,s.heap.objs.size,code,x,r,t,u,F,G⟩) ⟨hF,hx,hr,hp,hL0⟩ x.cps.size 0 0 false _ [] _ rfl rfl (Nat.zero_le _) ⟨fun b o e=>Heap.get?_push_of_some _ e,_,⟨0,Heap.get?_push_size _ rfl⟩,.nil⟩ ⟨fun _ h=>(nomatch h),Nat.zero_le _,Nat.zero_le _⟩ fun h' t' tk hk=> ?_⟩;exact h h' t' tk fun b o e=>hk b o (Nat.ne_of_lt (Heap.lt_size e)) (Heap.get?_push_of_some _ e)
theorem aHk {a:Addr}{code:Array Nat}{x r:Str}{t u:Tok}{F:Nat->Option Nat}{G:Nat->Nat}{Q:Value->Shared->Prop}(hF:oO code x.cps F G)(hx:x.cps.size<=2^14)(hr:r.length<=2)(hb:r.cps.contains 92=false)(hp:lU s.heap a code)
  (h:∀h' t' tk,(∀ b o,s.heap.get? b=some o->h'.get? b=some o)->Q (.str (Txt.join ⟨#[]⟩ (bW x.cps r F G (x.cps.size+1) 0)) t') {s with heap:=h',toks:=tk}):
  wpAny (model prog w) A (call (.builtin "re.Pattern.sub") [.ref a,.str r u,.str x t]) Q E s:=
 call_meetsIn xT (by obtain ⟨q,h,k⟩:=hp;exact ⟨_,h.1,k.cls⟩) aC6 (aHj _ _ _) (aC7 hF hx hr hb) ⟨hp,h⟩
theorem xU (text:Array Nat):oO cY text (fun p=>iJ text (text.size+1- p) p) (qI text) where
 miss:=fun p hp h=>⟨16,by decide,(aC2 text p hp).1 h⟩
 hit:=fun p s hp h=>by
  obtain ⟨h1,h2⟩:=lE h;have he:qI text s=s+1\/(qI text s=s+2/\s+1<text.size):=by
   unfold qI
   by_cases hc:text.getD s 0=13/\s+1<text.size/\text.getD (s+1) 0=10
   ·rw [if_pos hc]; exact .inr ⟨rfl,hc.2.1⟩
   ·rw [if_neg hc]; exact .inl rfl
  refine ⟨qJ h,?_,?_,16,by decide,(aC2 text p hp).2 s h⟩
  ·rcases he with q | q <;> lia
  ·rcases he with q | q <;> lia
theorem xV {text:Array Nat}:∀{fuel p s:Nat},eK text fuel p=some s->hV text s=true
 | 0,_,_,h=>no1 h
 | n+1,p,s,h=>by
  rw [fR] at h
  split at h
  ·rename_i h1;(replace h:=Option.some.inj h;subst h); exact h1
  ·split at h
   ·exact xV h
   ·exact no1 h
theorem xW {text:Array Nat}:∀{fuel p s:Nat},eK text fuel p=some s->p<=s
 | 0,_,_,h=>no1 h
 | n+1,p,s,h=>by
  rw [fR] at h
  split at h
  ·(replace h:=Option.some.inj h;subst h); exact Nat.le_refl _
  ·split at h
   ·have:=xW h;exact Nat.le_of_lt this
   ·exact no1 h
theorem xX (text:Array Nat)(hx:text.size<=2^14):oO lP text (fun p=>eK text (text.size- p+1) p) (fun s=>s+1) where
 miss:=fun p hp h=>⟨3*text.size+5,by lia,(aC4 text p hp).1 h⟩
 hit:=fun p s hp h=>by
  have h1:=xV h;unfold hV at h1;simp only [Bool.and_eq_true,decide_eq_true_eq] at h1;exact ⟨xW h,by exact Nat.le_refl _,by lia,3*text.size+5,by lia,(aC4 text p hp).2 s h⟩
end
end Mine
end
open PySem PySem.Calls PyProof.Rows PySem.W
open PySem.Expr (Name Constant)
open PySem.Str (ofString)
set_option maxRecDepth 100000
namespace Mine
inductive AV where
 | none
 | bool (b:Bool)
 | int (i:Int)
 | str (s:Str)
 | list (l:List AV)
 | tup (l:List AV)
 | dict (l:List (Int × Int))
 | inst (c:Nat) (f:List (Str × AV))
 | addr (a:Nat)
 | range (a b c:Int)
mutual
noncomputable def AV.toData:AV->Option PyData
 | .none=>some .none
 | .bool b=>some (.bool b)
 | .int i=>some (.int i)
 | .str s=>some (.str s)
 | .list l=>(AV.toDataL l).map .list
 | .tup l=>(AV.toDataL l).map .tuple
 | .dict _=>Option.none
 | .inst _ _=>Option.none
 | .addr _=>Option.none
 | .range _ _ _=>Option.none
noncomputable def AV.toDataL:List AV->Option (List PyData)
 | []=>some []
 | a::r=>match AV.toData a,AV.toDataL r with
  | some x,some y=>some (x::y)
  | _,_=>Option.none
end
theorem kK {P:Prop}{a:AV}{r:List AV}{ps:List PyData}(e:AV.toDataL (a::r)=some ps)(q:∀x z,a.toData=some x->AV.toDataL r=some z->x::z=ps->P):P:=by
 replace e:(match AV.toData a,AV.toDataL r with
  | some x,some y=>some (x::y)
  | _,_=>Option.none)=some ps:=e
 rcases ha:a.toData with _ | x
 ·rw [ha] at e;exact no1 e
 ·rcases hr:AV.toDataL r with _ | z
  ·rw [ha,hr] at e;exact no1 e
  ·rw [ha,hr] at e;exact q x z ha hr (Option.some.inj e)
theorem dT {a:AV}{r:List AV}{x:PyData}{xs:List PyData}(h:a.toData=some x)(g:AV.toDataL r=some xs):AV.toDataL (a::r)=some (x::xs):=by
 show (match AV.toData a,AV.toDataL r with
  | some x,some y=>some (x::y)
  | _,_=>Option.none)=_
 rw [h,g]
theorem fE {l:List AV}{xs:List PyData}(g:AV.toDataL l=some xs):(AV.list l).toData=some (.list xs):=congrArg (Option.map PyData.list) g
theorem eR {l:List AV}{xs:List PyData}(g:AV.toDataL l=some xs):(AV.tup l).toData=some (.tuple xs):=congrArg (Option.map PyData.tuple) g
noncomputable def hide (h:Heap)(M:List Addr):Heap:=M.foldl (fun h a=>h.update a fun _=>{cls:= .none,data:= .freed}) h
theorem vE (h:Heap)(a b:Addr):(h.update a fun _=>{cls:= .none,data:= .freed}).get? b=if b=a then Option.none else h.get? b:=by
 by_cases e:b=a
 ·subst e;rw [if_pos rfl]
  cases hq:(h.update b fun _=>{cls:= .none,data:= .freed}).get? b with
  | none=>rfl
  | some o=>
   obtain ⟨e1,e2⟩:=Heap.get?_some_iff.mp hq;rw [show (h.update b fun _=>{cls:= .none,data:= .freed}).objs[b]? =(h.objs[b]?).map fun _=>{cls:= .none,data:= .freed} from (Array.getElem?_modify ..).trans (if_pos rfl)] at e1;obtain ⟨_,_,e3⟩:=Option.map_eq_some_iff.mp e1;rw [<- e3] at e2;exact nomatch e2
 ·rw [if_neg e];exact Heap.get?_update_other h _ fun q=>e q.symm
theorem sF:∀(M:List Addr) (h:Heap) (b:Addr),(hide h M).get? b=if b∈M then Option.none else h.get? b
 | [],h,b=>(if_neg List.not_mem_nil).symm
 | a::M,h,b=>by
  show (hide (h.update a _) M).get? b=_;rw [sF M,vE]
  by_cases e:b=a
  ·subst e;simp
  ·by_cases q:b∈M <;> simp [e,q]
theorem aB {h:Heap}{M:List Addr}{b:Addr}{o:Obj}:(hide h M).get? b=some o↔b∉M/\h.get? b=some o:=by
 rw [sF]
 by_cases q:b∈M <;> simp [q]
theorem aT {h h':Heap}{M M':List Addr}(hs:∀b,b∈M'->b∉M->h.get? b=Option.none)(k:∀b o,b∉M->h.get? b=some o->h'.get? b=some o):
  ∀b o,(hide h M).get? b=some o->(hide h' M').get? b=some o:=by
 intro b o e;obtain ⟨hb,e⟩:=aB.mp e;refine aB.mpr ⟨fun q=> ?_,k b o hb e⟩;have:=hs b q hb;rw [this] at e;exact no1 e
def aP (V:Heap)(a:Addr)(kvs:List (Int × Value)):Prop:=(a==sysModules)=false/\∀(prog:Program) (w:World),V.DictOf (intKind prog w) a kvs
theorem aC8 {p p':Program}{w w':World}{es:List DictEntry}{kvs:List (Int × Value)}(h:Pairs (intKind p w) es kvs):Pairs (intKind p' w') es kvs:=by
 induction h with
 | nil=>exact .nil
 | cons h1 h2 _ ih=>exact .cons h1 h2 ih
theorem aP.of {prog:Program}{w:World}{V:Heap}{a:Addr}{kvs:List (Int × Value)}(ha:(a==sysModules)=false)(h:V.DictOf (intKind prog w) a kvs):aP V a kvs:=⟨ha,fun _ _=>
 by obtain ⟨o,es,ep,h1,h2,h3,h4,h5,h6⟩:=h;exact ⟨o,es,ep,h1,h2,h3,h4,aC8 h5,h6⟩⟩
inductive dL:List (Int × Value)->List (Int × Int)->Prop
 | nil:dL [] []
 | cons (k n:Int) (t:Tok) {r:List (Int × Value)} {l:List (Int × Int)}:dL r l->dL ((k,.int n t)::r) ((k,n)::l)
inductive Den (V:Heap):Value->AV->Prop
 | none:Den V .none .none
 | bool (b:Bool):Den V (.bool b) (.bool b)
 | int (i:Int) (t:Tok):Den V (.int i t) (.int i)
 | str (s:Str) (t:Tok):Den V (.str s t) (.str s)
 | list {a:Addr} {vs:Array Value} {l:List AV}:V.PlainList a vs->(hl:vs.size=l.length)->(∀ (i:Nat) (h:i<l.length),Den V (vs[i]'(hl▸h)) l[i])->Den V (.ref a) (.list l)
 | tup {a:Addr} {vs:Array Value} {l:List AV}:V.IsTuple a vs->(hl:vs.size=l.length)->(∀ (i:Nat) (h:i<l.length),Den V (vs[i]'(hl▸h)) l[i])->Den V (.ref a) (.tup l)
 | range {r:Addr} {a b c:Int} {t u v:Tok}:IsRange V r a b c t u v->Den V (.ref r) (.range a b c)
 | dict {a:Addr} {kvs:List (Int × Value)} {l:List (Int × Int)}:aP V a kvs->dL kvs l->Den V (.ref a) (.dict l)
 | inst {x c:Addr} {mA:Str->Option Value} {fs:List (Str × AV)}:V.Inst x c mA->(∀ n,(mA n).isSome=(fs.lookup n).isSome)->(∀ n u v,mA n=some u->fs.lookup n=some v->Den V u v)->Den V (.ref x) (.inst c fs)
 | addr (a:Addr):Den V (.ref a) (.addr a)
theorem Den.keeps {V V':Heap}(k:∀b o,V.get? b=some o->V'.get? b=some o){v:Value}{d:AV}(h:Den V v d):Den V' v d:=by
 induction h with
 | none=>exact .none
 | bool b=>exact .bool b
 | int i t=>exact .int i t
 | str s t=>exact .str s t
 | list hl hn _ ih=>exact .list (hl.at fun o e=>k _ o e) hn ih
 | tup hl hn _ ih=>exact .tup (by obtain ⟨o,e,r⟩:=hl;exact ⟨o,k _ _ e,r⟩) hn ih
 | range h=>exact .range (k _ _ h)
 | dict h i=>exact .dict ⟨h.1,fun p w=>(h.2 p w).at fun o e=>k _ o e⟩ i
 | inst h hs _ ih=>exact .inst (h.keeps k) hs fun n u v h1 h2=>ih n u v h1 h2
 | addr a=>exact .addr a
def bI (V:Heap)(vs:List Value)(l:List AV):Prop:=vs.length=l.length/\∀(i:Nat) (y:Value) (v:AV),vs[i]? =some y->l[i]? =some v->Den V y v
theorem bI.nil {V:Heap}:bI V [] []:=⟨rfl,fun _ _ _ h=>by simp at h⟩
theorem bI.cons {V:Heap}{y:Value}{v:AV}{vs:List Value}{l:List AV}(h:Den V y v)(r:bI V vs l):bI V (y::vs) (v::l):=by
 refine ⟨by simp [r.1],fun i y' v' h1 h2=> ?_⟩
 rcases i with _ | i
 ·simp at h1 h2;subst h1 h2;exact h
 ·simp at h1 h2;exact r.2 i y' v' h1 h2
theorem bI.head {V:Heap}{y:Value}{v:AV}{vs:List Value}{l:List AV}(r:bI V (y::vs) (v::l)):Den V y v:=r.2 0 y v rfl rfl
theorem bI.tail {V:Heap}{y:Value}{v:AV}{vs:List Value}{l:List AV}(r:bI V (y::vs) (v::l)):bI V vs l:=
 ⟨by simpa using r.1,fun i y' v' h1 h2=>r.2 (i+1) y' v' (by simpa using h1) (by simpa using h2)⟩
theorem bI.nil_inv {V:Heap}{vs:List Value}(r:bI V vs []):vs=[]:=List.eq_nil_of_length_eq_zero (by simpa using r.1)
theorem bI.cons_inv {V:Heap}{vs:List Value}{v:AV}{l:List AV}(r:bI V vs (v::l)):∃y ys,vs=y::ys/\Den V y v/\bI V ys l:=by
 rcases vs with _ | ⟨y,ys⟩
 ·have:=r.1;simp at this
 ·exact ⟨y,ys,rfl,r.head,r.tail⟩
theorem bI.append {V:Heap}:∀{vs ws:List Value} {l k:List AV},bI V vs l->bI V ws k->bI V (vs++ws) (l++k)
 | [],ws,l,k,h,h'=>by
  have:l=[]:=List.eq_nil_of_length_eq_zero (by simpa using h.1.symm);subst this;exact h'
 | y::ys,ws,[],k,h,h'=>by have:=h.1;simp at this
 | y::ys,ws,v::l,k,h,h'=> .cons h.head (h.tail.append h')
theorem bI.keeps {V V':Heap}(k:∀b o,V.get? b=some o->V'.get? b=some o){vs:List Value}{l:List AV}(h:bI V vs l):bI V' vs l:=⟨h.1,fun i y v h1 h2=>(h.2 i y v h1 h2).keeps k⟩
theorem bI.rep {V:Heap}{vs:List Value}{l:List AV}(h:bI V vs l):∀n:Nat,bI V (List.replicate n vs).flatten (List.replicate n l).flatten
 | 0=> .nil
 | n+1=>by rw [List.replicate_succ,List.replicate_succ,List.flatten_cons,List.flatten_cons]; exact h.append (h.rep n)
theorem bI.get {V:Heap}{vs:List Value}{l:List AV}(h:bI V vs l){i:Nat}{v:AV}(e:l[i]? =some v):∃y,vs[i]? =some y/\Den V y v:=by
 have hi:i<l.length:=by
  rcases Nat.lt_or_ge i l.length with q | q
  ·exact q
  ·rw [List.getElem?_eq_none q] at e;exact no1 e
 have:vs[i]? =some (vs[i]'(h.1▸hi)):=List.getElem?_eq_getElem _;exact ⟨_,this,h.2 i _ v this e⟩
theorem bI.take {V:Heap}{vs:List Value}{l:List AV}(h:bI V vs l)(n:Nat):bI V (vs.take n) (l.take n):=by
 refine ⟨by simp [h.1],fun i y v h1 h2=> ?_⟩
 by_cases q:i<n
 ·rw [List.getElem?_take_of_lt q] at h1 h2;exact h.2 i y v h1 h2
 ·rw [List.getElem?_take,if_neg q] at h1;exact no1 h1
theorem Den.mkList {V:Heap}{a:Addr}{vs:Array Value}{l:List AV}(h:V.PlainList a vs)(r:bI V vs.toList l):Den V (.ref a) (.list l):=by
 have hl:vs.size=l.length:=by simpa using r.1
 exact .list h hl fun i hi=>r.2 i _ _ (by rw [Array.getElem?_toList]; exact Array.getElem?_eq_getElem _) (List.getElem?_eq_getElem _)
theorem Den.mkTup {V:Heap}{a:Addr}{vs:Array Value}{l:List AV}(h:V.IsTuple a vs)(r:bI V vs.toList l):Den V (.ref a) (.tup l):=by
 have hl:vs.size=l.length:=by simpa using r.1
 exact .tup h hl fun i hi=>r.2 i _ _ (by rw [Array.getElem?_toList]; exact Array.getElem?_eq_getElem _) (List.getElem?_eq_getElem _)
theorem aC9 {V:Heap}{vs:Array Value}{l:List AV}(hl:vs.size=l.length)(h:∀(i:Nat)(h:i<l.length),Den V (vs[i]'(hl▸h)) l[i]):bI V vs.toList l:=by
 refine ⟨by simpa using hl,fun i y v h1 h2=> ?_⟩;obtain ⟨hi,rfl⟩:=List.getElem?_eq_some_iff.mp h2;have:vs.toList[i]? =some (vs[i]'(hl▸hi)):=by rw [Array.getElem?_toList]; exact Array.getElem?_eq_getElem _
 rw [this] at h1;(replace h1:=Option.some.inj h1;subst h1);exact h i hi
theorem Den.list_inv {V:Heap}{y:Value}{l:List AV}(h:Den V y (.list l)):∃a vs,y= .ref a/\V.PlainList a vs/\bI V vs.toList l:=by
 cases h with
 | list h1 h2 h3=>exact ⟨_,_,rfl,h1,aC9 h2 h3⟩
theorem Den.tup_inv {V:Heap}{y:Value}{l:List AV}(h:Den V y (.tup l)):∃a vs,y= .ref a/\V.IsTuple a vs/\bI V vs.toList l:=by
 cases h with
 | tup h1 h2 h3=>exact ⟨_,_,rfl,h1,aC9 h2 h3⟩
noncomputable abbrev Loc:=Str->Option AV
noncomputable def lW:List AV->Option (List Int)
 | []=>some []
 | .int i::r=>(lW r).map (i:: ·)
 | _::_=>Option.none
noncomputable def vF:List AV->Option (List Str)
 | []=>some []
 | .str i::r=>(vF r).map (i:: ·)
 | _::_=>Option.none
theorem aLc:∀(i:PySem.Str) (r:List AV),vF (AV.str i::r)=Option.map (fun x=>i::x) (vF r):=fun _ _=>rfl
noncomputable def aQ (i:Int):Bool:=decide (-(2^32)<=i/\i<=2^32)
noncomputable def cO:Operator->AV->AV->Option AV
 | .Add,.int a,.int b=>some (.int (a+b))
 | .Add,.str a,.str b=>if a.length+b.length<=2^20 then some (.str (a++b)) else Option.none
 | .Add,.list a,.list b=>if a.length+b.length<=2^20 then some (.list (a++b)) else Option.none
 | .Sub,.int a,.int b=>some (.int (a- b))
 | .Mult,.int a,.int b=>if aQ a then some (.int (a*b)) else Option.none
 | .Mult,.str a,.int k=>if 0<=k/\k<=1000/\a.length<=1000 then some (.str (Txt.mul a k)) else Option.none
 | .Mult,.list a,.int k=>if 0<=k/\k<=1000/\a.length<=1000 then some (.list (List.replicate k.toNat a).flatten) else Option.none
 | .FloorDiv,.int a,.int b=>if 0<b/\b<=1000000 then some (.int (a/b)) else Option.none
 | .Mod,.int a,.int b=>if 0<b then some (.int (a%b)) else Option.none
 | .Pow,.int a,.int b=>if aQ a/\0<=b/\b<=64 then some (.int (a^b.toNat)) else Option.none
 | .RShift,.int a,.int b=>if 0<=a/\0<=b/\b<=64 then some (.int (a/2^b.toNat)) else Option.none
 | .BitAnd,.int a,.int b=>if b=1 then some (.int (a%2)) else Option.none
 | _,_,_=>Option.none
noncomputable def cN (a b:AV):Option Bool:=
 match a.toData,b.toData with
 | some x,some y=>if SeqAt.shaped x&&SeqAt.shaped y then some (PyData.eqv x y) else Option.none
 | _,_=>Option.none
noncomputable def cmp:CmpOp->AV->AV->Option Bool
 | .Eq,a,b=>cN a b
 | .NotEq,a,b=>(cN a b).map (!·)
 | .Lt,.int a,.int b=>some (decide (a<b))
 | .LtE,.int a,.int b=>some (decide (a<=b))
 | .Gt,.int a,.int b=>some (decide (b<a))
 | .GtE,.int a,.int b=>some (decide (b<=a))
 | .Is,.bool a,.bool b=>some (a==b)
 | .IsNot,.bool a,.bool b=>some (a !=b)
 | _,_,_=>Option.none
noncomputable def truth:AV->Option Bool
 | .bool b=>some b
 | _=>Option.none
noncomputable def aDa:Const->Option AV
 | .none=>some .none
 | .bool b=>some (.bool b)
 | .int i=>some (.int i)
 | .str s=>some (.str s)
 | _=>Option.none
noncomputable def aAn:List Int->Int->Int
 | [],m=>m
 | a::r,m=>aAn r (if m<a then a else m)
noncomputable def aP4:List AV->Option AV
 | [.list l]=>if l.length<=2^20 then some (.int l.length) else Option.none
 | [.tup l]=>if l.length<=2^20 then some (.int l.length) else Option.none
 | [.str s]=>if s.length<=2^20 then some (.int s.length) else Option.none
 | _=>Option.none
noncomputable def aRu:List AV->Option AV
 | [.int i]=>if 0<=i/\i<1000 then some (.str ⟨#[i.toNat]⟩) else Option.none
 | _=>Option.none
noncomputable def aRv:List AV->Option AV
 | [.int a,.int b]=>some (.int (if b<a then b else a))
 | _=>Option.none
noncomputable def aRw:List AV->Option AV
 | [.int a,.int b]=>some (.int (if b>a then b else a))
 | [.list l]=>match lW l with
  | some (a::r)=>some (.int (aAn r a))
  | _=>Option.none
 | _=>Option.none
noncomputable def aOf (F:List AV->Option AV):List AV->Option AV
 | [.list l]=>F l
 | _=>Option.none
theorem xY {F:List AV->Option AV}{vs:List AV}{v:AV}{P:Prop}(e:aOf F vs=some v)(q:∀l,vs=[.list l]->F l=some v->P):P:=by
 rcases vs with _ | ⟨a,r⟩ <;> first | exact no1 e | skip
 rcases a with _ | _ | _ | _ | l | _ | _ | _ | _ | _ <;> first | exact no1 e | skip
 rcases r with _ | _ <;> first | exact no1 e | skip
 exact q l rfl e
noncomputable def aRx (vs:List AV):Option AV:=aOf (fun l=>(lW l).map fun ns=> .int ns.sum) vs
noncomputable def aDb (a:Int):List Int->List Int
 | []=>[a]
 | b::r=>if a<=b then a::b::r else b::aDb a r
theorem aOg:∀(a b:Int) (r:List Int),aDb a (b::r)=if a<=b then a::b::r else b::aDb a r:=fun _ _ _=>rfl
noncomputable def qM:List Int->List Int
 | []=>[]
 | a::r=>aDb a (qM r)
noncomputable def aDc (vs:List AV):Option AV:=aOf (fun l=>if l.length<64 then (lW l).map fun ns=> .list ((qM ns).map .int) else Option.none) vs
noncomputable def aI (f:Str)(args:List AV):Option AV:=
 if f="len" then aP4 args
 else if f="chr" then aRu args
 else if f="min" then aRv args
 else if f="max" then aRw args
 else if f="sum" then aRx args
 else if f="sorted" then aDc args
 else Option.none
noncomputable def dZ (l:List AV)(i:Int):Option AV:=
 if l.length<=2^20 then
  if 0<=i then (if i<l.length then l[i.toNat]? else Option.none)
  else if -(l.length:Int)<=i then l[(i+l.length).toNat]? else Option.none
 else Option.none
noncomputable def lX:AV->AV->Option AV
 | .list l,.int i=>dZ l i
 | .tup l,.int i=>if 0<=i then dZ l i else Option.none
 | .dict l,.int i=>(l.lookup i).map .int
 | _,_=>Option.none
noncomputable def lY:List AV->Option AV
 | [.int b]=>if aQ b then some (.range 0 b 1) else Option.none
 | [.int a,.int b]=>if aQ a/\aQ b then some (.range a b 1) else Option.none
 | [.int a,.int b,.int c]=>if aQ a/\aQ b/\c= -1 then some (.range a b c) else Option.none
 | _=>Option.none
noncomputable def aJ1 (vs:List AV):Option AV:=aOf (fun l=>if l.length<=2^20 then some (.tup l) else Option.none) vs
noncomputable def aAo:List AV->Option AV
 | [.dict l]=>if l.length<=2^20 then some (.dict l) else Option.none
 | _=>Option.none
noncomputable def iK (f:Str)(args:List AV):Option AV:=
 if f="range" then lY args
 else if f="tuple" then aJ1 args
 else if f="dict" then aAo args
 else Option.none
noncomputable def bF (a b c:Int):Option (List AV):=
 if aQ a/\aQ b then
  if c=1 then some ((List.range (b- a).toNat).map fun (i:Nat)=> .int (a+(i:Int)*1))
  else if c= -1 then some ((List.range (a- b).toNat).map fun (i:Nat)=> .int (a+(i:Int)*(-1)))
  else Option.none
 else Option.none
noncomputable def bL:AV->Option (List AV)
 | .list l=>some l
 | .tup l=>some l
 | .range a b c=>bF a b c
 | .str x=>some (x.cps.toList.map fun c=> .str ⟨#[c]⟩)
 | .dict l=>if l.length<=2^20 then some (l.map fun p=> .int p.1) else Option.none
 | _=>Option.none
noncomputable def iM (f:AV->Option (Option AV)):List AV->Option (List AV)
 | []=>some []
 | a::r=>do
  match <-f a with
  | some v=>return v::(<- iM f r)
  | Option.none=>iM f r
noncomputable def bQ (ρ:Loc)(sc:Scope)(x:Str)(v:AV):Loc:=fun y=>if y=x then some v else if sc.names.lookup y=some .free then ρ y else Option.none
noncomputable def fT (sc:Scope)(x:Str):Bool:=
 sc.kind== .function&&(sc.names.lookup x==some .local||sc.names.lookup x==some .cell)&&
 sc.names.all (fun y=>(y.2 != .local||sc.names.lookup y.1==some .local)&&(y.2 != .cell||y.1==x)&&(y.2 != .free||(sc.names.lookup y.1==some .free&&y.1 !=("__classdict__":Str))))&&x !=("__debug__":Str)
noncomputable def cP (sc:Scope)(ρ:Loc)(csc:Scope):Bool:=csc.names.all fun y=>y.2 != .free||((ρ y.1).isSome&&(sc.names.lookup y.1==some .cell||sc.names.lookup y.1==some .free))
structure CallF where
 fn:Str->List AV->Option AV
 me:Str->List AV->Option AV
 cl:Str->List AV->Option AV
 c:Nat
 ats:List Str
noncomputable def bY:Expr->Bool
 | .Call (.Name _ _) [] [] _=>false
 | _=>true
noncomputable def aAp (x:Str)(vs:List AV):Option AV:=aOf (fun l=>(vF l).bind fun ts=>if (ts.map (·.length)).sum+ts.length*x.length<=2^20 then some (.str (Txt.join x ts)) else Option.none) vs
noncomputable def gQ (x:Str):List Expr->Option AV
 | [.Constant (.str y) _ _,.Constant (.str z) _ _]=>if y≠z/\x.length<=2^20/\z.length<=14 then some (.str (Txt.replace x y z)) else Option.none
 | _=>Option.none
noncomputable def aOh (l:List (Int × Int)):List AV->Option AV
 | [.int k,.int n]=>some (.int ((l.lookup k).getD n))
 | _=>Option.none
noncomputable def aDd:AV->AV->Option AV
 | .list l,.int k=>if 0<=k/\l.length<=2^20 then some (.list (l.take k.toNat)) else Option.none
 | _,_=>Option.none
mutual
noncomputable def evE (cf:CallF):Nat->Scope->Loc->Expr->Option AV
 | 0,_,_,_=>Option.none
 | n+1,sc,ρ,e=>
  match e with
  | .Constant c _ _=>aDa c
  | .Name x _=>if (x==("__debug__":Str)) then Option.none else ρ x
  | .BinOp l op r _=>do cO op (<- evE cf n sc ρ l) (<- evE cf n sc ρ r)
  | .UnaryOp .USub x _=>do match <-evE cf n sc ρ x with
   | .int i=>some (.int (-i))
   | _=>Option.none
  | .Compare l [op] [r] _=>do return .bool (<- cmp op (<- evE cf n sc ρ l) (<- evE cf n sc ρ r))
  | .BoolOp op vs _=>do return .bool (<- evB cf n sc ρ op vs)
  | .Subscript (.Name x xp) (.Slice .none (some hi) .none _) _=>do aDd (<- evE cf n sc ρ (.Name x xp)) (<- evE cf n sc ρ hi)
  | .Subscript v i _=>do lX (<- evE cf n sc ρ v) (<- evE cf n sc ρ i)
  | .List es _=>if es.length<=1000 then (eC cf n sc ρ es).map .list else Option.none
  | .Tuple es _ _=>if es.length<=1000 then (eC cf n sc ρ es).map .tup else Option.none
  | .Call (.Name f _) as [] _=>match sc.names.lookup f with
   | some .globalImplicit=>if (f==("__debug__":Str)) then Option.none else do
    let vs <-eC cf n sc ρ as
    match aI f vs with
    | some v=>some v
    | Option.none=>match iK f vs with
     | some v=>some v
     | Option.none=>match cf.fn f vs with
      | some v=>some v
      | Option.none=>cf.cl f vs
   | _=>Option.none
  | .Dict [some (.Constant (.int k) _ _)] [.Constant (.int v) _ _] _=>some (.dict [(k,v)])
  | .Attribute e x _=>if bY e then do
    match <-evE cf n sc ρ e with
    | .inst c fs=>if c==cf.c&&cf.ats.contains x then fs.lookup x else Option.none
    | _=>Option.none
   else Option.none
  | .Call (.Attribute o m ap) as [] p=>if bY o&&ap.endLine==p.line&&decide (as.length<30) then do
    match <-evE cf n sc ρ o with
    | .inst c fs=>if c==cf.c&&(fs.lookup m).isNone then do cf.me m (.inst c fs::(<- eC cf n sc ρ as)) else Option.none
    | .str x=>if m==("replace":Str) then gQ x as else if m==("join":Str) then do aAp x (<- eC cf n sc ρ as) else Option.none
    | .dict l=>if m==("get":Str) then do aOh l (<- eC cf n sc ρ as) else Option.none
    | _=>Option.none
   else Option.none
  | .ListComp elt [⟨.Name x _,it,ifs,0⟩] csc _=>
   if fT csc x&&cP sc ρ csc then do
    let l <-bL (<- evE cf n sc ρ it)
    if l.length<=2^20 then
     (iM (fun v=>do
      if <-aLd cf n csc (bQ ρ csc x v) ifs then return some (<- evE cf n csc (bQ ρ csc x v) elt)
      else some Option.none) l).map .list
    else Option.none
   else Option.none
  | _=>Option.none
noncomputable def eC (cf:CallF):Nat->Scope->Loc->List Expr->Option (List AV)
 | 0,_,_,_=>Option.none
 | _+1,_,_,[]=>some []
 | n+1,sc,ρ,e::es=>do return (<- evE cf n sc ρ e)::(<- eC cf n sc ρ es)
noncomputable def evB (cf:CallF):Nat->Scope->Loc->BoolOp->List Expr->Option Bool
 | 0,_,_,_,_=>Option.none
 | _+1,_,_,_,[]=>Option.none
 | n+1,sc,ρ,_,[e]=>do truth (<- evE cf n sc ρ e)
 | n+1,sc,ρ,.And,e::es=>do if <-truth (<- evE cf n sc ρ e) then evB cf n sc ρ .And es else some false
 | n+1,sc,ρ,.Or,e::es=>do if <-truth (<- evE cf n sc ρ e) then some true else evB cf n sc ρ .Or es
noncomputable def aLd (cf:CallF):Nat->Scope->Loc->List Expr->Option Bool
 | 0,_,_,_=>Option.none
 | _+1,_,_,[]=>some true
 | n+1,sc,ρ,e::es=>do if <-evT cf n sc ρ e then aLd cf n sc ρ es else some false
noncomputable def evT (cf:CallF):Nat->Scope->Loc->Expr->Option Bool
 | 0,_,_,_=>Option.none
 | n+1,sc,ρ,e=>
  match e with
  | .Compare l [op] [r] _=>do cmp op (<- evE cf n sc ρ l) (<- evE cf n sc ρ r)
  | .BoolOp op vs _=>evA cf n sc ρ op vs
  | .Name x p=>do truth (<- evE cf n sc ρ (.Name x p))
  | .Attribute e x p=>do truth (<- evE cf n sc ρ (.Attribute e x p))
  | _=>Option.none
noncomputable def evA (cf:CallF):Nat->Scope->Loc->BoolOp->List Expr->Option Bool
 | 0,_,_,_,_=>Option.none
 | _+1,_,_,op,[]=>some (op== .And)
 | n+1,sc,ρ,.And,e::es=>do if <-evT cf n sc ρ e then evA cf n sc ρ .And es else some false
 | n+1,sc,ρ,.Or,e::es=>do if <-evT cf n sc ρ e then some true else evA cf n sc ρ .Or es
end
inductive Slot where
 | val (v:AV)
 | own (v:AV)
noncomputable abbrev St:=Str->Option Slot
noncomputable def Slot.av:Slot->AV
 | .val v=>v
 | .own v=>v
noncomputable def St.all (ρ:St):Loc:=fun x=>(ρ x).map Slot.av
noncomputable def St.frozen (ρ:St):Loc:=fun x=>match ρ x with
 | some (.val v)=>some v
 | _=>Option.none
noncomputable def St.set (ρ:St)(x:Str)(s:Slot):St:=fun y=>if y=x then some s else ρ y
mutual
noncomputable def fU:AV->Bool
 | .none=>true
 | .bool _=>true
 | .int _=>true
 | .str _=>true
 | .list _=>false
 | .tup l=>eM l
 | .dict _=>false
 | .inst _ _=>false
 | .addr _=>true
 | .range _ _ _=>false
noncomputable def eM:List AV->Bool
 | []=>true
 | a::r=>fU a&&eM r
end
noncomputable def pF:Expr->Bool
 | .List _ _=>true
 | .BinOp _ _ _ _=>true
 | .Call (.Name f _) _ _ _=>f==("dict":Str)
 | _=>false
inductive Fl where
 | next
 | brk
 | ret (v:AV)
noncomputable def bJ (sc:Scope)(x:Str):Bool:=sc.names.lookup x==some .local||sc.names.lookup x==some .cell
noncomputable def evS (cf:CallF)(mu:List Str)(n:Nat)(sc:Scope)(ρ:St)(x:Str)(e:Expr):Option Slot:=do
 let v <-evE cf n sc ρ.all e
 if fU v then some (.val v)
 else if mu.contains x&&pF e then
  match v with
  | .list l=>if eM l then some (.own (.list l)) else Option.none
  | .dict l=>some (.own (.dict l))
  | _=>Option.none
 else (evE cf n sc ρ.frozen e).map .val
noncomputable def lZ (n:Nat)(k:Int):Option Nat:=
 if 0<=k then (if k<n then some k.toNat else Option.none) else if -(n:Int)<=k then some (k+n).toNat else Option.none
noncomputable def St.del (ρ:St)(x:Str):St:=fun y=>if y=x then Option.none else ρ y
noncomputable def moved (ρ:St)(e:Expr)(x:Str):Option (Str × AV):=
 match e with
 | .Name y _=>if y==x||y==("__debug__":Str) then Option.none else match ρ y with
  | some (.own v)=>some (y,v)
  | _=>Option.none
 | _=>Option.none
noncomputable def kL (l:List (Int × Int))(k v:Int):List (Int × Int):=
 if l.any (fun p=>p.1=k) then l.map (fun p=>if p.1=k then (p.1,v) else p) else l++[(k,v)]
noncomputable def jW (g:AV->St->Option (Fl × St)):List AV->St->Option (Fl × St)
 | [],ρ=>some (.next,ρ)
 | a::r,ρ=>do
  match <-g a ρ with
  | (.next,ρ')=>jW g r ρ'
  | (.brk,ρ')=>some (.next,ρ')
  | (.ret v,ρ')=>some (.ret v,ρ')
noncomputable def aHl (cf:CallF)(n:Nat)(sc:Scope)(ρ:St)(e:Expr):List Expr->Option (Fl × St)
 | [.Name x _,.Name y _]=>match e with
  | .Attribute e a p=>if bJ sc x&&bJ sc y then do
    match <-evE cf n sc ρ.all (.Attribute e a p) with
    | .tup [v,u]=>if fU v&&fU u then some (.next,(ρ.set x (.val v)).set y (.val u)) else Option.none
    | _=>Option.none
   else Option.none
  | _=>Option.none
 | _=>Option.none
noncomputable def aHm (cf:CallF)(n:Nat)(sc:Scope)(ρ:St)(e i:Expr)(x:Str):Option (Fl × St):=
 if x==("__debug__":Str) then Option.none else do
   let v <-evE cf n sc ρ.all e
   let k <-evE cf n sc ρ.all i
   match ρ x with
   | some (.own (.list l))=>match k with
    | .int k=>match lZ l.length k with
     | some j=>if fU v&&decide (l.length<=2^20) then some (.next,ρ.set x (.own (.list (l.set j v)))) else Option.none
     | Option.none=>Option.none
    | _=>Option.none
   | some (.own (.dict l))=>match k with
    | .int k=>match v with
     | .int j=>if decide (l.length<=2^20) then some (.next,ρ.set x (.own (.dict (kL l k j)))) else Option.none
     | _=>Option.none
    | _=>Option.none
   | _=>Option.none
noncomputable def vG (cf:CallF)(mu:List Str)(n:Nat)(sc:Scope)(ρ:St)(e t:Expr):Option (Fl × St):=
 match t with
 | .Name x _=>if bJ sc x then
   match moved ρ e x with
   | some (y,v)=>some (.next,(ρ.del y).set x (.val v))
   | Option.none=>do return (.next,ρ.set x (<- evS cf mu n sc ρ x e))
  else Option.none
 | .Tuple ts _ _=>aHl cf n sc ρ e ts
 | .Subscript o i _=>match o with
  | .Name x _=>aHm cf n sc ρ e i x
  | _=>Option.none
 | _=>Option.none
noncomputable def aHn (cf:CallF)(n:Nat)(sc:Scope)(ρ:St):Expr->Option (Fl × St)
 | .Call (.Attribute (.Name x _) m ap) [e] [] p=>if m==("append":Str)&&x !=("__debug__":Str)&&x !=("super":Str)&&ap.endLine==p.line then do
   let v <-evE cf n sc ρ.all e
   match ρ x with
   | some (.own (.list l))=>if fU v&&decide (l.length<=2^20) then some (.next,ρ.set x (.own (.list (l++[v])))) else Option.none
   | _=>Option.none
  else Option.none
 | _=>Option.none
mutual
noncomputable def exS (cf:CallF)(mu:List Str):Nat->Scope->St->Stmt->Option (Fl × St)
 | 0,_,_,_=>Option.none
 | n+1,sc,ρ,st=>
  match st with
  | .Assign ts e _=>match ts with
   | [t]=>vG cf mu n sc ρ e t
   | _=>Option.none
  | .Expr v _=>aHn cf n sc ρ v
  | .Return v _=>match v with
   | some e=>do return (.ret (<- evE cf n sc ρ.all e),ρ)
   | Option.none=>Option.none
  | .If t b o _=>do if <-evT cf n sc ρ.all t then exB cf mu n sc ρ b else exB cf mu n sc ρ o
  | .For t it body els _=>match t,els with
   | .Name x _,[]=>if bJ sc x then do
    let l <-bL (<- evE cf n sc ρ.frozen it)
    jW (fun a ρ=>exB cf mu n sc (ρ.set x (.val a)) body) l ρ
    else Option.none
   | _,_=>Option.none
  | .Break _=>some (.brk,ρ)
  | _=>Option.none
noncomputable def exB (cf:CallF)(mu:List Str):Nat->Scope->St->List Stmt->Option (Fl × St)
 | 0,_,_,_=>Option.none
 | _+1,_,ρ,[]=>some (.next,ρ)
 | n+1,sc,ρ,st::r=>do
  match <-exS cf mu n sc ρ st with
  | (.next,ρ')=>exB cf mu n sc ρ' r
  | (f,ρ')=>some (f,ρ')
end
structure Fn where
 ps:List Str
 mu:List Str
 body:List Stmt
 sc:Scope
noncomputable def bD (ps:List Str)(args:List AV):St:=fun x=>((ps.zip args).lookup x).map .val
noncomputable def aZ (cf:CallF)(fuel:Nat)(fn:Fn)(args:List AV):Option AV:=
 if fn.ps.length=args.length then
  match exB cf fn.mu fuel fn.sc (bD fn.ps args) fn.body with
  | some (.ret v,_)=>some v
  | some (.next,_)=>some .none
  | _=>none
 else none
noncomputable def iY:List Str->Bool
 | []=>true
 | a::r=> !r.contains a&&iY r
theorem aHo:∀(a:PySem.Str) (r:List PySem.Str),iY (a::r)=(!List.contains r a&&iY r):=fun _ _=>rfl
noncomputable def Fn.ok (fn:Fn):Bool:=iY fn.ps&&fn.ps.all (bJ fn.sc)&&fn.sc.names.all (fun y=>y.2 != .free)&&fn.sc.kind== .function&& !fn.sc.isCoroutine&& !fn.sc.isGenerator
end Mine
variable {w:World}{prog:Program}{A:Around}{E:Value->Shared->Prop}{Sta:Heap->Prop}{mb mg mN mV mm:Str->Option Value} {C N c dc V NV dm L:Addr}{Z:List (Addr × Addr)}{env:Env}{cf:Mine.CallF}{hb:Heap}{S O:List Addr}{wd:Int}{sp:Str}{lines:List Str}{fd:FuncData}{sc:Scope}{qs:List (Str × Str)}{Q:Value->Shared->Prop}{ps:List (Str × Str)}{l vs:List Mine.AV}{s s'1 s' s'0 s'2:Shared}{h h':Heap}{x:Str}{v:Mine.AV} {p pos px ap xp q p':Pos}{a dx cc fpush P:Addr}{n k m i j:Nat}{W:List Addr}{kvs:List (Int × Value)}{e o:Expr}{fs:List (Str × Mine.AV)}{ys vals:List Value}{ρ:Mine.St}{y:Value}{mA:Str->Option Value}{cnt script:List Int}{text:Array Nat}{mu:List Str}{es as args:List Expr}{t:Tok}{R:Result->Shared->Prop}{body blank:List Stmt}{raw:Str}{pieces:List Str}{id:String}{ends:List (List Nat)}{G:Mine.AV->Mine.St->Option (Mine.Fl × Mine.St)}
namespace Mine
def cH (env:Env)(h:Heap)(x:Str)(u:Value):Prop:=
 (env.kindOf x=some .local/\∃m,h.Ns env.locals m/\m x=some u)\/
 (env.kindOf x=some .cell/\∃c,env.cells.lookup x=some c/\h.IsCell c (some u))\/
 (env.kindOf x=some .free/\(x==("__classdict__":Str))=false/\∃c,env.cells.lookup x=some c/\h.IsCell c (some u))
section
variable {M:Model}
theorem dB {u:Value}(hk:env.scope.kind= .function)(b:cH env s.heap x u)(hd:(x==("__debug__":Str))=false)(h:Q u s):
  wpAny M A (eval (.Name x pos) env) Q E s:=by
 refine wpAny_Name ?_ hd
 rcases b with ⟨q,m,hn,hm⟩ | ⟨q,c,hc,hi⟩ | ⟨q,q2,c,hc,hi⟩
 ·exact wpAny_loadName_local hk q hn hm h
 ·exact wpAny_loadName_cell hk q hc hi h
 ·exact wpAny_loadName_free hk q hc hi h q2
end
theorem sG {α:Type}{M:Model}{t:Sem α}{P Q:α->Shared->Prop}(ht:0<s.toks)(h:wpAny M A t P E s)(k:∀v s',0<s'.toks->P v s'->Q v s')(_:∀e s',E e s'->E e s'):
  wpAny M A t Q E s:=wpAny_with_toks (n:=1) ht (wpAny_mono h (fun v s' p q=>k v s' q p) fun _ _ e _=>e)
structure cW (A:Around)(d:Nat):Prop where
 handled:A.handled=none
 depth:A.depth+d<990
 units:A.units+8*d+400<9900
def eU (s s':Shared):Prop:=∃h' tk,s'={s with heap:=h',toks:=tk}/\(∀ b o,s.heap.get? b=some o->h'.get? b=some o)
theorem eU.refl (s:Shared):eU s s:=⟨s.heap,s.toks,rfl,fun _ _ e=>e⟩
theorem eU.trans {a b c:Shared}(x:eU a b)(y:eU b c):eU a c:=by
 obtain ⟨h1,t1,rfl,k1⟩:=x;obtain ⟨h2,t2,rfl,k2⟩:=y;exact ⟨h2,t2,rfl,fun b o e=>k2 b o (k1 b o e)⟩
theorem eU.get {a b:Shared}(x:eU a b):∀c o,a.heap.get? c=some o->b.heap.get? c=some o:=by
 obtain ⟨h1,t1,rfl,k1⟩:=x;exact k1
theorem eU.toks:eU s {s with toks:=n}:=⟨s.heap,_,rfl,fun _ _ e=>e⟩
theorem eU.push {o:Obj}:eU s {s with heap:=s.heap.push o}:=⟨_,s.toks,rfl,fun _ _ e=>Heap.get?_push_of_some _ e⟩
theorem eU.of {tk:Nat}(k:∀b o,s.heap.get? b=some o->h'.get? b=some o):eU s {s with heap:=h',toks:=tk}:=⟨h',tk,rfl,k⟩
theorem eU.hide {a b:Shared}(x:eU a b)(M:List Addr):∀c o,(hide a.heap M).get? c=some o->(hide b.heap M).get? c=some o:=
 aT (fun _ h1 h2=>absurd h1 h2) fun c o _ e=>x.get c o e
def PE (M:List Addr)(s:Shared)(v:AV)(y:Value)(s':Shared):Prop:=Den (hide s'.heap M) y v/\eU s s'
section
variable {M:List Addr}
theorem PE.int {i:Int}{t:Nat}:PE M s (.int i) (.int i t) {s with toks:=n}:=⟨.int i t,eU.toks⟩
theorem PE.str {i:Str}{t:Nat}:PE M s (.str i) (.str i t) {s with toks:=n}:=⟨.str i t,eU.toks⟩
theorem PE.bool {b:Bool}:PE M s (.bool b) (.bool b) s:=⟨.bool b,eU.refl s⟩
theorem sH {i:Int}(h:aQ i=true):i.natAbs<2^64:=by
 unfold aQ at h;have:=of_decide_eq_true h;omega
theorem aR {vs:Array Value}(x:(hide h M).PlainList a vs):h.PlainList a vs:=by obtain ⟨n,e⟩:=x;exact ⟨n,(aB.mp e).2⟩
theorem eV {vs:Array Value}(x:(hide h M).IsTuple a vs):h.IsTuple a vs:=by obtain ⟨o,e,r⟩:=x;exact ⟨o,(aB.mp e).2,r⟩
theorem gR {vs:Array Value}(hlt:∀a∈M,∃o,s.heap.get? a=some o)(hd:bI (hide s.heap M) vs.toList l)(n:Nat):
  PE M s (.list l) (.ref s.heap.objs.size) {s with heap:=s.heap.push {cls:= .type "list",data:= .seq vs n}}:=
 ⟨.mkList ⟨n,aB.mpr ⟨fun q=>by obtain ⟨_,e⟩:=hlt _ q;exact Nat.lt_irrefl _ (Heap.lt_size e),Heap.get?_push_size _ rfl⟩⟩ (hd.keeps (eU.hide eU.push M)),eU.push⟩
theorem mB {vs:Array Value}(hlt:∀a∈M,∃o,s.heap.get? a=some o)(hd:bI (hide s.heap M) vs.toList l)(n:Nat):
  PE M s (.tup l) (.ref s.heap.objs.size) {s with heap:=s.heap.push {cls:= .type "tuple",data:= .seq vs n}}:=
 ⟨.mkTup ⟨_,aB.mpr ⟨fun q=>by obtain ⟨_,e⟩:=hlt _ q;exact Nat.lt_irrefl _ (Heap.lt_size e),Heap.get?_push_size _ rfl⟩,rfl,n,rfl⟩ (hd.keeps (eU.hide eU.push M)),eU.push⟩
theorem fX (vs:Array Value):∀(n:Nat) (a:Array Value),(List.foldl (fun x1 x2=>x1++x2) a (List.replicate n vs)).toList=a.toList++(List.replicate n vs.toList).flatten
 | 0,a=>by simp
 | n+1,a=>by rw [List.replicate_succ,List.foldl_cons,fX vs n,List.replicate_succ,List.flatten_cons,Array.toList_append,List.append_assoc]
theorem Den.int_inv {V:Heap}{i:Int}(h:Den V y (.int i)):∃t,y= .int i t:=by cases h;exact ⟨_,rfl⟩
theorem Den.str_inv {V:Heap}{i:Str}(h:Den V y (.str i)):∃t,y= .str i t:=by cases h;exact ⟨_,rfl⟩
theorem Den.bool_inv {V:Heap}{i:Bool}(h:Den V y (.bool i)):y= .bool i:=by cases h;rfl
theorem sI (a:Int):Builtin.bitAnd a 1=a%2:=by
 unfold Builtin.bitAnd
 by_cases h:0<=a
 ·simp only [h,decide_true,show (0:Int)<=1 from by decide];obtain ⟨n,rfl⟩:=Int.eq_ofNat_of_zero_le h;simp only [Int.toNat_natCast];rw [show (1:Int).toNat=1 from rfl,Nat.and_one_is_mod];exact rfl
 ·simp only [h,decide_false,show decide ((0:Int)<=1)=true from by decide];unfold Builtin.bitNot;rw [show (1:Int).toNat=1 from rfl,Nat.and_comm,Nat.and_one_is_mod]
  lia
theorem iZ (h:Heap):h.get? h.objs.size=none:=by
 rcases e:h.get? h.objs.size with _ | o
 ·rfl
 ·exact absurd (Heap.lt_size e) (Nat.lt_irrefl _)
def PF (M:List Addr)(s:Shared)(v:AV)(y:Value)(s':Shared):Prop:=PE M s v y s'/\∀a,y= .ref a->s.heap.get? a=none
theorem PF.int {i:Int}{t:Nat}:PF M s (.int i) (.int i t) {s with toks:=n}:=⟨.int,fun _ e=>nomatch e⟩
theorem PF.str {i:Str}{t:Nat}:PF M s (.str i) (.str i t) {s with toks:=n}:=⟨.str,fun _ e=>nomatch e⟩
theorem aSa {op:Operator}{a b:AV}{C:Operator->AV->AV->AV->Prop}(h:cO op a b=some v)(q1:∀a b,C .Add (.int a) (.int b) (.int (a+b)))(q2:∀a b,a.length+b.length<=2^20->C .Add (.str a) (.str b) (.str (a++b)))(q3:∀a b,a.length+b.length<=2^20->C .Add (.list a) (.list b) (.list (a++b)))
  (q4:∀a b,C .Sub (.int a) (.int b) (.int (a- b))) (q5:∀a b,aQ a=true->C .Mult (.int a) (.int b) (.int (a*b))) (q6:∀a k,0<=k/\k<=1000/\a.length<=1000->C .Mult (.str a) (.int k) (.str (Txt.mul a k))) (q7:∀a k,0<=k/\k<=1000/\a.length<=1000->C .Mult (.list a) (.int k) (.list (List.replicate k.toNat a).flatten))
  (q8:∀a b,0<b/\b<=1000000->C .FloorDiv (.int a) (.int b) (.int (a/b))) (q9:∀a b,0<b->C .Mod (.int a) (.int b) (.int (a%b))) (q10:∀a b,aQ a=true/\0<=b/\b<=64->C .Pow (.int a) (.int b) (.int (a^b.toNat))) (q11:∀a b,0<=a/\0<=b/\b<=64->C .RShift (.int a) (.int b) (.int (a/2^b.toNat)))
  (q12:∀a,C .BitAnd (.int a) (.int 1) (.int (a%2))):C op a b v:=by
 cases op <;> first | exact no1 h | (rcases a with _ | _ | a | a | a | _ | _ | _ | _ | _ <;> first | exact no1 h | (rcases b with _ | _ | b | b | b | _ | _ | _ | _ | _ <;> first | exact no1 h | exact Option.some.inj h▸q1 a b | exact cK h fun k e=>Option.some.inj e▸q2 a b k | exact cK h fun k e=>Option.some.inj e▸q3 a b k | exact Option.some.inj h▸q4 a b | exact cK h fun k e=>Option.some.inj e▸q5 a b k | exact cK h fun k e=>Option.some.inj e▸q6 a b k | exact cK h fun k e=>Option.some.inj e▸q7 a b k | exact cK h fun k e=>Option.some.inj e▸q8 a b k | exact cK h fun k e=>Option.some.inj e▸q9 a b k | exact cK h fun k e=>Option.some.inj e▸q10 a b k | exact cK h fun k e=>Option.some.inj e▸q11 a b k | exact cK h fun k e=>Option.some.inj e▸k▸q12 a))
theorem Den.i2 {V:Heap}{x:Value}{a b:Int}{P:Prop}(hx:Den V x (.int a))(hy:Den V y (.int b))(q:∀t u,x= .int a t->y= .int b u->P):P:=by obtain ⟨t,e⟩:=hx.int_inv;exact by obtain ⟨u,e'⟩:=hy.int_inv;exact q t u e e'
theorem iN {V:Heap}{vs:Array Value}(h:bI V vs.toList l):vs.size=l.length:=h.1
theorem qN (hlt:∀a∈M,∃o,s.heap.get? a=some o){a b:List AV}{x:Value}(hsz:a.length+b.length<=2^20)(hx:Den (hide s.heap M) x (.list a))(hy:Den (hide s.heap M) y (.list b)):wpAny (model prog w) A (binaryOp .Add x y) (PF M s (.list (a++b))) E s:=by
 obtain ⟨p,vs,e,h1,hd1⟩:=hx.list_inv;obtain ⟨q,ws,e',h2,hd2⟩:=hy.list_inv;obtain ⟨n,ho⟩:=aR h1;obtain ⟨n2,ho2⟩:=aR h2;subst e e';exact concat_meets ⟨_,ho,rfl⟩ ⟨_,ho2,rfl⟩ noFill_list_add seq_list_add PySem.F.slot_list_add PySem.F.entry_list_add (PySem.F.args_list_add_2 _ _) (list_addW p q vs ws n n2 none none #[] #[] (by rw [iN hd1,iN hd2]; exact Nat.le_trans hsz (by decide))) ⟨ho,ho2,gR hlt (by rw [Array.toList_append]; exact hd1.append hd2) 0,fun _ e=>Value.ref.inj e▸iZ _⟩
theorem qO (hlt:∀a∈M,∃o,s.heap.get? a=some o){a:List AV}{k:Int}{x:Value}(hs:0<=k/\k<=1000/\a.length<=1000)(hx:Den (hide s.heap M) x (.list a))(hy:Den (hide s.heap M) y (.int k)):wpAny (model prog w) A (binaryOp .Mult x y) (PF M s (.list (List.replicate k.toNat a).flatten)) E s:=by
 obtain ⟨p,vs,e,h1,hd1⟩:=hx.list_inv;obtain ⟨u,e'⟩:=hy.int_inv;obtain ⟨n,ho⟩:=aR h1;subst e e';have hl1:=iN hd1;have h3:vs.size*k.toNat<=1000*1000:=Nat.mul_le_mul (by lia) (by lia);refine wpAny_binaryOp_repeat_ref (T:="list") (U:="int") (by decide) ⟨_,ho,rfl⟩ (fun s'=>typeIs_int s' _ u) noFill_list_mul F.fills_int_mul F.slot_int_rmul repeat_list F.slot_int_index.lookup
  (call_meets F.slot_int_rmul (typeIs_int s _ u) F.entry_int_rmul (F.args_int_rmul_2 _ _) (int___rmul___int_list _ u p vs n)
   ⟨ho,rfl,⟨_,ho,rfl⟩,call_meets F.slot_list_mul ⟨_,ho,rfl⟩ F.entry_list_mul (F.args_list_mul_2 _ _)
    (AutoListH.list___mul___list_int_3 p vs n _ u (by simp [Builtin.List.listFitsIndex]; lia) (by lia) (by
     simp only [Builtin.List.listTooLong,sizeLine]; simp;exact lit h3 rfl))
    ⟨ho,?_⟩⟩)
 refine ⟨gR hlt ?_ 0,fun _ e=>Value.ref.inj e▸iZ _⟩;rw [fX,Array.toList_empty,List.nil_append]
 by_cases q:vs.isEmpty=true
 ·obtain rfl:vs= #[]:=by simpa using q
  obtain rfl:a=[]:=List.eq_nil_of_length_eq_zero (by simpa using hd1.1.symm);have:(List.replicate k.toNat ([]:List AV)).flatten=[]:=by simp
  rw [if_pos q,this]; exact .nil
 ·rw [if_neg q];exact hd1.rep k.toNat
theorem aLe {a:Str}{k:Int}{x:Value}(hs:0<=k/\k<=1000/\a.length<=1000)(hx:Den (hide s.heap M) x (.str a))(hy:Den (hide s.heap M) y (.int k)):wpAny (model prog w) A (binaryOp .Mult x y) (PF M s (.str (Txt.mul a k))) E s:=by
 obtain ⟨t,e⟩:=hx.str_inv;obtain ⟨u,e'⟩:=hy.int_inv;subst e e';refine SB.mul ⟨by simp;omega,fun h1 h2=> ?_,fun h1 h2=> ?_⟩ fun t' k=> .str
 ·have:(1000:Int)<=(2^63- 1)/k:=Int.le_ediv_of_mul_le (by exact Int.not_lt.mp h1) (by omega)
  clear hx hy
  omega
 ·refine decide_eq_false ?_;have h3:a.length*k.toNat<=1000*1000:=Nat.mul_le_mul (by omega) (by omega);rw [sizeLine_eq]
  clear hx hy
  omega
theorem vH (hlt:∀a∈M,∃o,s.heap.get? a=some o){op:Operator}{a b:AV}{x:Value}(e:cO op a b=some v):Den (hide s.heap M) x a->Den (hide s.heap M) y b->wpAny (model prog w) A (binaryOp op x y) (PF M s v) E s:=
 aSa (C:=fun op a b v=>Den (hide s.heap M) x a->Den (hide s.heap M) y b->wpAny (model prog w) A (binaryOp op x y) (PF M s v) E s) e (fun a b hx hy=>hx.i2 hy fun t u e e'=>by subst e e';exact add_int .int)
  (fun a b h hx hy=>by obtain ⟨t,e⟩:=hx.str_inv;exact by obtain ⟨u,e'⟩:=hy.str_inv;exact by subst e e';exact SBL.add (fun t' k _=> .str) (Nat.le_trans h (by decide))) (fun a b=>qN hlt)
  (fun a b hx hy=>hx.i2 hy fun t u e e'=>by subst e e';exact sub_int .int) (fun a b h hx hy=>hx.i2 hy fun t u e e'=>by subst e e';exact AutoIntOps.mul_0 PF.int (.of_left (intBits_le (sH h)))) (fun a k=>aLe) (fun a k=>qO hlt)
  (fun a b h hx hy=>hx.i2 hy fun t u e e'=>by subst e e';exact floordiv_int (Int.ne_of_gt h.1) (Int.fdiv_eq_ediv_of_nonneg _ (Int.le_of_lt h.1)▸ .int) (.inl (PyProof.noPylong_small (by omega))))
  (fun a b h hx hy=>hx.i2 hy fun t u e e'=>by subst e e';exact mod_int' (Int.ne_of_gt h) (Int.fmod_eq_emod_of_nonneg _ (Int.le_of_lt h)▸ .int))
  (fun a b h hx hy=>hx.i2 hy fun t u e e'=>by subst e e';exact pow_int_small h.2.1 (by omega) (sH h.1) .int)
  (fun a b h hx hy=>hx.i2 hy fun t u e e'=>by subst e e';refine rshift_int h.2.1 ?_;rw [Int.fdiv_eq_ediv_of_nonneg _ (Int.le_of_lt (Int.pow_pos (by decide)))]; exact .int)
  (fun a hx hy=>hx.i2 hy fun t u e e'=>by subst e e';exact and_int (sI a▸ .int))
end
theorem lF {V:Heap}{d:AV}(h:Den V y d):∀p,d.toData=some p->∃as,Reads V y p as:=by
 have all:∀{l:List AV} {vs:Array Value} (hl:vs.size=l.length),(∀ (i:Nat) (h:i<l.length), ∀p,(l[i]).toData=some p->∃as,Reads V (vs[i]'(hl▸h)) p as)->
   ∀ps,AV.toDataL l=some ps->∃as,ReadsAll V vs.toList ps as:=by
  intro l vs hl ih;have key:∀(l:List AV) (vs:List Value),vs.length=l.length->(∀ (i:Nat) (y:Value) (v:AV),vs[i]? =some y->l[i]? =some v->∀p,v.toData=some p->∃as,Reads V y p as)->
    ∀ps,AV.toDataL l=some ps->∃as,ReadsAll V vs ps as:=by
   intro l
   induction l with
   | nil=>
    intro vs hn _ ps e;have:vs=[]:=List.eq_nil_of_length_eq_zero (by simpa using hn);subst this
    (replace e:=Option.some.inj e;subst e)
    exact ⟨_,.nil⟩
   | cons a r ihl=>
    intro vs hn hi ps e
    cases vs with
    | nil=>simp at hn
    | cons y ys=>
     refine kK e fun x z hx hz e0=> ?_
     subst e0;obtain ⟨as,ha⟩:=hi 0 y a rfl rfl x hx;obtain ⟨bs,hb⟩:=ihl ys (by simpa using hn) (fun i y v h1 h2=>hi (i+1) y v (by simpa using h1) (by simpa using h2)) z hz;exact ⟨_,.cons ha hb⟩
  refine key l vs.toList (by simpa using hl) fun i y v h1 h2 p e=> ?_
  obtain ⟨hi,rfl⟩:=List.getElem?_eq_some_iff.mp h2;have:vs.toList[i]? =some (vs[i]'(hl▸hi)):=by rw [Array.getElem?_toList]; exact Array.getElem?_eq_getElem _
  rw [this] at h1;(replace h1:=Option.some.inj h1;subst h1);exact ih i hi p e
 induction h with
 | none=>intro p e;(replace e:=Option.some.inj e;subst e); exact ⟨_,.none⟩
 | bool b=>intro p e;(replace e:=Option.some.inj e;subst e); exact ⟨_,.bool b⟩
 | int i t=>intro p e;(replace e:=Option.some.inj e;subst e); exact ⟨_,.int i t⟩
 | str s t=>intro p e;(replace e:=Option.some.inj e;subst e); exact ⟨_,.str s t⟩
 | list hp hl _ ih=>
  intro p e;obtain ⟨ps,hps,rfl⟩:=Option.map_eq_some_iff.mp e;obtain ⟨as,ha⟩:=all hl ih ps hps;obtain ⟨n,ho⟩:=hp;exact ⟨_,.list ho rfl rfl ha⟩
 | tup hp hl _ ih=>
  intro p e;obtain ⟨ps,hps,rfl⟩:=Option.map_eq_some_iff.mp e;obtain ⟨as,ha⟩:=all hl ih ps hps;obtain ⟨o,ho,hc,n,hd⟩:=hp;exact ⟨_,.tuple ho hc hd ha⟩
 | range h=>intro p e;exact no1 e
 | dict h i=>intro p e;exact no1 e
 | inst h hs _ _=>intro p e;exact no1 e
 | addr a=>intro p e;exact no1 e
section
variable {M:List Addr}
theorem xZ (s:Shared)(M:List Addr):∀b o,(hide s.heap M).get? b=some o->s.heap.get? b=some o:=fun _ _ e=>(aB.mp e).2
theorem aSb {op:CmpOp}{a b:AV}{v:Bool}{C:CmpOp->AV->AV->Bool->Prop}(h:cmp op a b=some v)(q1:∀c,cN a b=some c->C .Eq a b c)(q2:∀c,cN a b=some c->C .NotEq a b (!c))(q3:∀a b,C .Lt (.int a) (.int b) (decide (a<b)))(q4:∀a b,C .LtE (.int a) (.int b) (decide (a<=b)))
  (q5:∀a b,C .Gt (.int a) (.int b) (decide (b<a))) (q6:∀a b,C .GtE (.int a) (.int b) (decide (b<=a))) (q7:∀a b,C .Is (.bool a) (.bool b) (a==b)) (q8:∀a b,C .IsNot (.bool a) (.bool b) (a !=b)):C op a b v:=by
 cases op <;> first | exact no1 h | exact q1 v h | exact kJ h fun c e k=>k▸q2 c e | (rcases a with _ | a | a | _ | _ | _ | _ | _ | _ | _ <;> first | exact no1 h | (rcases b with _ | b | b | _ | _ | _ | _ | _ | _ | _ <;> first | exact no1 h | exact Option.some.inj h▸q3 a b | exact Option.some.inj h▸q4 a b | exact Option.some.inj h▸q5 a b | exact Option.some.inj h▸q6 a b | exact Option.some.inj h▸q7 a b | exact Option.some.inj h▸q8 a b))
theorem yA {a b:AV}{x:Value}{c:Bool}{P:Prop}(hx:Den (hide s.heap M) x a)(hy:Den (hide s.heap M) y b)(h:cN a b=some c)(k:∀p q as bs,Reads s.heap x p as->Reads s.heap y q bs->SeqAt.shaped p=true->SeqAt.shaped q=true->PyData.eqv p q=c->P):P:=by
 unfold cN at h
 rcases hp:a.toData with _ | p
 ·rw [hp] at h;exact no1 h
 rcases hq:b.toData with _ | q
 ·rw [hp,hq] at h;exact no1 h
 rw [hp,hq] at h;refine cK h fun hs e=> ?_
 obtain ⟨as,ra⟩:=lF hx p hp;obtain ⟨bs,rb⟩:=lF hy q hq;obtain ⟨h1,h2⟩:=Bool.and_eq_true_iff.mp hs;exact k p q as bs (Reads.keeps (xZ s M) ra) (Reads.keeps (xZ s M) rb) h1 h2 (Option.some.inj e)
theorem aOi (p q:Bool):((Value.bool p)==(Value.bool q))=(p==q):=by cases p <;> cases q <;> rfl
theorem sJ (hR:A.units+300<9900){op:CmpOp}{a b:AV}{v:Bool}{x:Value}(e:cmp op a b=some v):Den (hide s.heap M) x a->Den (hide s.heap M) y b->wpAny (model prog w) A (compareOp op x y) (PE M s (.bool v)) E s:=
 have hu:A.units+64<cLine:=Nat.lt_of_le_of_lt (Nat.add_le_add_left (Nat.le_of_ble_eq_true rfl) _) (Nat.lt_of_lt_of_le hR (Nat.le_of_ble_eq_true rfl))
 aSb (C:=fun op a b v=>Den (hide s.heap M) x a->Den (hide s.heap M) y b->wpAny (model prog w) A (compareOp op x y) (PE M s (.bool v)) E s) e
  (fun c h hx hy=>yA hx hy h fun p q as bs ra rb hp hq e=>e▸eq_dataH ra rb hp hq hu .bool) (fun c h hx hy=>yA hx hy h fun p q as bs ra rb hp hq e=>e▸ne_dataH ra rb hp hq hu .bool)
  (fun a b hx hy=>hx.i2 hy fun t u e e'=>by subst e e';exact lt_int .bool) (fun a b hx hy=>hx.i2 hy fun t u e e'=>by subst e e';exact le_int .bool)
  (fun a b hx hy=>hx.i2 hy fun t u e e'=>by subst e e';exact gt_int .bool) (fun a b hx hy=>hx.i2 hy fun t u e e'=>by subst e e';exact ge_int .bool)
  (fun p q hx hy=>hx.bool_inv.symm▸hy.bool_inv.symm▸wpAny_is_plain (by cases p <;> cases q <;> rfl) (aOi p q▸ .bool)) (fun p q hx hy=>hx.bool_inv.symm▸hy.bool_inv.symm▸wpAny_isNot_plain (by cases p <;> cases q <;> rfl) (show PE M s (.bool (!(p==q))) _ _ from aOi p q▸ .bool))
theorem jA {V:Heap}:∀{vs:List Value} {l:List AV} {ns:List Int},bI V vs l->lW l=some ns->IntsAre vs ns
 | vs,[],ns,h,e=>by
  have:=h.nil_inv;subst this
  (replace e:=Option.some.inj e;subst e); exact .nil
 | vs,v::l,ns,h,e=>by
  obtain ⟨y,ys,rfl,hy,hys⟩:=h.cons_inv
  cases v with
  | int i=>
   obtain ⟨r,hr,rfl⟩:=Option.map_eq_some_iff.mp e;obtain ⟨t,rfl⟩:=hy.int_inv;exact .cons i t (jA hys hr)
  | _=>exact no1 e
theorem bI.one {V:Heap}{a:AV}{P:Prop}(h:bI V ys [a])(q:∀y,ys=[y]->Den V y a->P):P:=by obtain ⟨y,_,e,hy,hys⟩:=h.cons_inv;exact q y (by rw [e,hys.nil_inv]) hy
theorem bI.two {V:Heap}{a b:Int}{P:Prop}(h:bI V ys [.int a,.int b])(q:∀t u,ys=[.int a t,.int b u]->P):P:=by obtain ⟨y,_,e,hy,hys⟩:=h.cons_inv;exact hys.one fun z e' hz=>hy.i2 hz fun t u h1 h2=>q t u (by rw [e,e',h1,h2])
theorem aLf (h:n<=2^20):(n:Int)<2^63:=Int.lt_of_le_of_lt (Int.ofNat_le.mpr h) (by decide)
theorem aSc {C:List AV->AV->Prop}(e:aP4 vs=some v)(q1:∀l,l.length<=2^20->C [.list l] (.int l.length))(q2:∀l,l.length<=2^20->C [.tup l] (.int l.length))(q3:∀l:Str,l.length<=2^20->C [.str l] (.int l.length)):C vs v:=by
 rcases vs with _ | ⟨a,r⟩ <;> first | exact no1 e | (rcases a with _ | _ | _ | a | a | a | _ | _ | _ | _ <;> first | exact no1 e | (rcases r with _ | _ <;> first | exact no1 e | exact cK e fun h k=>Option.some.inj k▸q3 a h | exact cK e fun h k=>Option.some.inj k▸q1 a h | exact cK e fun h k=>Option.some.inj k▸q2 a h))
theorem sK (e:aP4 vs=some v):bI (hide s.heap M) ys vs->wpAny (model prog w) A (call (.builtin "len") ys) (PE M s v) E s:=
 aSc (C:=fun vs v=>bI (hide s.heap M) ys vs->wpAny (model prog w) A (call (.builtin "len") ys) (PE M s v) E s) e
  (fun l hn h=>h.one fun y e hy=>by obtain ⟨a,its,e',hp,hd⟩:=hy.list_inv;exact by subst e e';exact call_len_list (aR hp).isList (iN hd▸aLf hn) (iN hd▸ .int))
  (fun l hn h=>h.one fun y e hy=>by obtain ⟨a,its,e',hp,hd⟩:=hy.tup_inv;exact by subst e e';exact PyProof.Rows.len_tuple (eV hp) (iN hd▸aLf hn) (iN hd▸ .int))
  (fun l hn h=>h.one fun y e hy=>by obtain ⟨t,e'⟩:=hy.str_inv;exact by subst e e';exact PyProof.Rows.len_str (Int.not_le_of_gt (aLf hn)) .int)
theorem aDe (e:aRu vs=some v)(h:bI (hide s.heap M) ys vs):wpAny (model prog w) A (call (.builtin "chr") ys) (PE M s v) E s:=by
 rcases vs with _ | ⟨a,r⟩ <;> first | exact no1 e | skip
 rcases a with _ | _ | a | _ | _ | _ | _ | _ | _ | _ <;> first | exact no1 e | skip
 rcases r with _ | _ <;> first | exact no1 e | skip
 exact cK e fun hn e=>h.one fun y e1 hy=>by obtain ⟨t,e2⟩:=hy.int_inv;exact by subst e1 e2;exact chr_of_range hn.1 (Int.le_trans (Int.le_of_lt hn.2) (by decide)) (Option.some.inj e▸ .str)
theorem aDf (hh:A.handled=none)(e:aRv vs=some v)(h:bI (hide s.heap M) ys vs):wpAny (model prog w) A (call (.builtin "min") ys) (PE M s v) E s:=by
 rcases vs with _ | ⟨a,r⟩ <;> first | exact no1 e | skip
 rcases a with _ | _ | a | _ | _ | _ | _ | _ | _ | _ <;> first | exact no1 e | skip
 rcases r with _ | ⟨b,r⟩ <;> first | exact no1 e | skip
 rcases b with _ | _ | b | _ | _ | _ | _ | _ | _ | _ <;> first | exact no1 e | skip
 rcases r with _ | _ <;> first | exact no1 e | skip
 refine h.two fun t u e1=> ?_
 subst e1;refine min_two_ints hh fun h' tk hk=> ?_
 rw [<- Option.some.inj e]
 by_cases q:b<a
 ·rw [if_pos q,if_pos q]; exact ⟨.int _ _,.of hk⟩
 ·rw [if_neg q,if_neg q]; exact ⟨.int _ _,.of hk⟩
theorem sL (a:Int)(r:List Int)(m:Int):aAn (a::r) m=aAn r (if m<a then a else m):=rfl
theorem qP:∀(r:List Int) (m:Int),aAn r m∈m::r
 | [],m=>List.mem_singleton.mpr rfl
 | a::r,m=>by
  rw [sL]
  split
  ·exact List.mem_cons_of_mem _ (qP r a)
  ·rcases List.mem_cons.mp (qP r m) with q | q
   ·rw [q]; exact List.mem_cons_self
   ·exact List.mem_cons_of_mem _ (List.mem_cons_of_mem _ q)
theorem mC:∀(r:List Int) (m:Int), ∀x∈m::r,x<=aAn r m
 | [],m,x,h=>by rw [List.mem_singleton.mp h]; exact Int.le_refl _
 | a::r,m,x,h=>by
  rw [sL]
  split
  ·rename_i hm;have ha:=mC r a a List.mem_cons_self
   rcases List.mem_cons.mp h with rfl | h
   ·lia
   ·exact mC r a x h
  ·rename_i hm;have hmm:=mC r m m List.mem_cons_self
   rcases List.mem_cons.mp h with rfl | h
   ·exact hmm
   ·rcases List.mem_cons.mp h with rfl | h
    ·lia
    ·exact mC r m x (List.mem_cons_of_mem _ h)
theorem aHp (hh:A.handled=none){a:Int}{r:List Int}{p:Addr}{its:Array Value}(hns:lW l=some (a::r))(hp:(hide s.heap M).PlainList p its)(hd:bI (hide s.heap M) its.toList l):wpAny (model prog w) A (call (.builtin "max") [.ref p]) (PE M s (.int (aAn r a))) E s:=by
 have hi:=jA hd hns;obtain ⟨xs,hx⟩:=hi.allInts.items;have hx':its=intItems xs:=by simpa using hx
 have hnum:a::r=xs.toList.map (·.1):=by
  rw [<- hi.numsOf,<-nums_intItems,<-hx']
 have hsz:0<xs.size:=by
  have h3:=congrArg List.length hnum;rw [List.length_map,Array.length_toList] at h3;simp at h3;exact aL2 (Nat.le_of_eq h3)
 subst hx';refine max_intList hh (aR hp).isList hsz fun v h' tk hv hk=> ?_
 obtain ⟨t,rfl⟩:=intItems_at hv;obtain ⟨h1,h2⟩:=argBest_gt (numAt xs) (xs.size- 1);have e1:numAt xs (argBest (fun i j=>decide (numAt xs i>numAt xs j)) (xs.size- 1))=aAn r a:=by
  have hm:=qP r a;have hle:=mC r a;rw [hnum] at hm hle;refine Int.le_antisymm (hle _ ?_) ?_
  ·rw [numAt_eq]; exact getD_mem (by rw [List.length_map,Array.length_toList]; omega)
  ·obtain ⟨j,hj,hj'⟩:=mem_getD hm;rw [List.length_map,Array.length_toList] at hj;rw [<- hj',<-numAt_eq]; exact h2 j (by omega)
 first
  | exact ⟨e1▸ .int _ _,.of hk⟩
  | (refine ⟨?_,.of hk⟩; rw [<- e1]; exact .int _ _)
theorem aDg (hh:A.handled=none)(e:aRw vs=some v)(h:bI (hide s.heap M) ys vs):wpAny (model prog w) A (call (.builtin "max") ys) (PE M s v) E s:=by
 rcases vs with _ | ⟨a,r⟩ <;> first | exact no1 e | skip
 rcases a with _ | _ | a | _ | a | _ | _ | _ | _ | _ <;> first | exact no1 e | (rcases r with _ | ⟨b,r⟩ <;> first | exact no1 e | skip)
 ·rcases b with _ | _ | b | _ | _ | _ | _ | _ | _ | _ <;> first | exact no1 e | skip
  rcases r with _ | _ <;> first | exact no1 e | skip
  refine h.two fun t u e1=> ?_
  subst e1;refine max_two_ints hh fun h' tk hk=> ?_
  rw [<- Option.some.inj e]
  by_cases q:b>a
  ·rw [if_pos q,if_pos q]; exact ⟨.int _ _,.of hk⟩
  ·rw [if_neg q,if_neg q]; exact ⟨.int _ _,.of hk⟩
 ·rcases hn:lW a with _ | ⟨_ | ⟨m,r⟩⟩ <;> replace e:(match lW a with | some (a::r)=>some (AV.int (aAn r a)) | _=>none)=some v:=e <;> rw [hn] at e <;> first | exact no1 e | skip
  exact h.one fun y e1 hy=>by obtain ⟨p,its,e2,hp,hd⟩:=hy.list_inv;exact by subst e1 e2;exact Option.some.inj e▸aHp hh hn hp hd
theorem aDh (hh:A.handled=none)(e:aRx vs=some v)(h:bI (hide s.heap M) ys vs):wpAny (model prog w) A (call (.builtin "sum") ys) (PE M s v) E s:=by
 refine xY e fun l e1 e=> ?_
 subst e1;refine kJ e fun ns hns e0=>h.one fun y e1 hy=> ?_
 obtain ⟨a,its,e2,hp,hd⟩:=hy.list_inv;have hi:=jA hd hns;obtain ⟨xs,hx⟩:=hi.allInts.items;have hx':its=intItems xs:=by simpa using hx
 subst e1 e2 hx';have hnum:=hi.numsOf;rw [nums_intItems] at hnum;refine sum_intListG hh (aR hp).isList fun h' tk t' hk=> ?_
 rw [preSum_eq,List.take_of_length_le (by simp),hnum,<-e0];exact ⟨.int _ _,.of hk⟩
theorem aAq {k:Int}{vs:Array Value}(e:dZ l k=some v)(hp:(hide s.heap M).PlainList a vs)(hd:bI (hide s.heap M) vs.toList l):
  wpAny (model prog w) A (getItem (.ref a) (.int k t)) (PE M s v) E s:=by
 unfold dZ at e;have hl:=hd.1;rw [Array.length_toList] at hl
 split at e
 ·rename_i hn
  split at e
  ·rename_i h0
   split at e
   ·rename_i h1;obtain ⟨y,hy,hv⟩:=hd.get e;rw [Array.getElem?_toList] at hy;exact wpAny_getItem_list (aR hp).isList h0 (by lia) hy ⟨hv,eU.refl s⟩
   ·exact no1 e
  ·rename_i h0
   split at e
   ·rename_i h1;obtain ⟨y,hy,hv⟩:=hd.get e;rw [Array.getElem?_toList] at hy;exact wpAny_getItem_list_neg (aR hp).isList (by exact Int.not_le.mp h0) (by exact hl▸h1) (by lia) (by rw [hl]; exact hy) ⟨hv,eU.refl s⟩
   ·exact no1 e
 ·exact no1 e
end
theorem mD (a:Int):∀r:List Int,(aDb a r).Perm (a::r)
 | []=> .refl _
 | b::r=>by
  show (if a<=b then a::b::r else b::aDb a r).Perm _
  split
  ·exact .refl _
  ·exact ((mD a r).cons b).trans (.swap a b r)
theorem pG:∀r:List Int,(qM r).Perm r
 | []=> .refl _
 | a::r=>(mD a (qM r)).trans ((pG r).cons a)
theorem mE (a:Int):∀r:List Int,r.Pairwise (· <= ·)->(aDb a r).Pairwise (· <= ·)
 | [],_=>List.pairwise_singleton _ _
 | b::r,h=>by
  obtain ⟨h1,h2⟩:=List.pairwise_cons.mp h;show (if a<=b then a::b::r else b::aDb a r).Pairwise _
  split
  ·rename_i hab;refine List.pairwise_cons.mpr ⟨fun x hx=> ?_,h⟩
   rcases List.mem_cons.mp hx with rfl | hx
   ·exact hab
   ·exact Int.le_trans hab (h1 x hx)
  ·refine List.pairwise_cons.mpr ⟨fun x hx=> ?_,mE a r h2⟩
   rcases List.mem_cons.mp ((mD a r).mem_iff.mp hx) with rfl | hx
   ·lia
   ·exact h1 x hx
theorem kM:∀r:List Int,(qM r).Pairwise (· <= ·)
 | []=> .nil
 | a::r=>mE a _ (kM r)
theorem jB:∀{l k:List Int},l.Perm k->l.Pairwise (· <= ·)->k.Pairwise (· <= ·)->l=k
 | [],k,p,_,_=>(List.nil_perm.mp p).symm
 | a::l,[],p,_,_=>absurd p.length_eq (by simp)
 | a::l,b::k,p,h,h'=>by
  obtain ⟨h1,h2⟩:=List.pairwise_cons.mp h;obtain ⟨h3,h4⟩:=List.pairwise_cons.mp h';have e:a=b:=by
   have ha:a∈b::k:=p.mem_iff.mp List.mem_cons_self;have hb:b∈a::l:=p.mem_iff.mpr List.mem_cons_self
   rcases List.mem_cons.mp ha with q | q
   ·exact q
   ·rcases List.mem_cons.mp hb with q' | q'
    ·exact q'.symm
    ·exact Int.le_antisymm (h1 _ q') (h3 _ q)
  subst e;rw [jB p.cons_inv h2 h4]
section
variable {M:List Addr}
theorem PE.mono' (k:eU s'0 s'1)(p:PE M s'1 v y s'):PE M s'0 v y s':=⟨p.1,k.trans p.2⟩
theorem fY {V:Heap}:∀{vs:List Value} {ns:List Int},IntsAre vs ns->bI V vs (ns.map .int)
 | _,_,.nil=> .nil
 | _,_,.cons i t r=> .cons (.int i t) (fY r)
theorem sM (hlt:∀a∈M,∃o,s.heap.get? a=some o)(e:aDc vs=some v)(h:bI (hide s.heap M) ys vs):wpAny (model prog w) A (call (.builtin "sorted") ys) (PE M s v) E s:=by
 refine xY e fun l e1 e=>cK e fun hn e=>kJ e fun ns hns e2=> ?_
 subst e1 e2;obtain ⟨y,ys',rfl,hy,hys⟩:=h.cons_inv;have:=hys.nil_inv;subst this;obtain ⟨p,its,rfl,hp,hd⟩:=hy.list_inv;have hi:=jA hd hns;have hl:=hd.1;refine sorted_ints (vs:=its.toList) (by simpa using (aR hp).isList) hi (by lia) fun out ns' h1 h2 h3=> ?_
 have e1:ns'=qM ns:=jB (h2.trans (pG ns).symm) h3 (kM ns);subst e1;have hk:∀b o,s.heap.get? b=some o->(sortedAll s.heap its.toList out).get? b=some o:=fun b o e=>sortedAll_old e
 refine ⟨?_,⟨_,s.toks,rfl,hk⟩⟩;obtain ⟨n,hat⟩:=sortedAll_at s.heap its.toList out;exact .mkList ⟨n,aB.mpr ⟨fun q=>by obtain ⟨_,e⟩:=hlt _ q;exact absurd (Heap.lt_size e) (Nat.not_lt.mpr (Nat.le_succ _)),hat⟩⟩ (fY h1)
theorem vI (hlt:∀a∈M,∃o,s.heap.get? a=some o)(e:aJ1 vs=some v)(h:bI (hide s.heap M) ys vs):wpAny (model prog w) A (call (.type "tuple") ys) (PE M s v) E s:=by
 refine xY e fun l e1 e=>cK e fun hn e=> ?_
 (replace e:=Option.some.inj e;subst e;subst e1)
 obtain ⟨y,ys',rfl,hy,hys⟩:=h.cons_inv;have:=hys.nil_inv;subst this;obtain ⟨p,its,rfl,hp,hd⟩:=hy.list_inv;have hl:=hd.1;rw [Array.length_toList] at hl;refine call_tuple_list (aR hp).isList (fun h' hk=> ?_) (by rw [sizeLine_eq]; lia);have k1:eU s {s with heap:=h'}:=⟨_,s.toks,rfl,hk⟩;exact PE.mono' k1 (mB (s:={s with heap:=h'}) (fun a ha=>by obtain ⟨o,e⟩:=hlt a ha;exact ⟨o,hk a o e⟩) (hd.keeps (k1.hide M)) 0)
theorem aAr {k:Int}{vs:Array Value}(h0:0<=k)(hlt:∀a∈M,∃o,s.heap.get? a=some o)
  (hd:bI (hide s.heap M) vs.toList l):
  PE M s (.list (l.take k.toNat)) (.ref (s.heap.objs.size+1)) {s with heap:=(s.heap.push {cls:= .type "slice",data:= .fields #[.none,.int k t,.none]}).push {cls:= .type "list",data:= .seq (slicePick vs none (some k) none)}}:=by
 have e1:slicePick vs none (some k) none=(vs.toList.take k.toNat).toArray:=by
  have:=slicePick_upto' vs k.toNat
  rwa [Int.toNat_of_nonneg h0] at this
 rw [e1];have k1:eU s {s with heap:=s.heap.push {cls:= .type "slice",data:= .fields #[.none,.int k t,.none]}}:= .push;have r:=gR (M:=M) (s:={s with heap:=s.heap.push {cls:= .type "slice",data:= .fields #[.none,.int k t,.none]}}) (vs:=(vs.toList.take k.toNat).toArray) (l:=l.take k.toNat)
  (fun a ha=>by obtain ⟨o,e⟩:=hlt a ha;exact ⟨o,Heap.get?_push_of_some _ e⟩) (by simpa using (hd.take k.toNat).keeps (k1.hide M)) 0
 have r:=PE.mono' k1 r;rw [Heap.size_push] at r;exact r
theorem sN {V:Heap}:∀{vs:List Value} {l:List AV} {ns:List Str},bI V vs l->vF l=some ns->StrsAre vs ns
 | vs,[],ns,h,e=>by
  have:=h.nil_inv;subst this
  (replace e:=Option.some.inj e;subst e); exact .nil
 | vs,v::l,ns,h,e=>by
  obtain ⟨y,ys,rfl,hy,hys⟩:=h.cons_inv
  cases v with
  | str i=>
   obtain ⟨r,hr,rfl⟩:=Option.map_eq_some_iff.mp e;obtain ⟨t,rfl⟩:=hy.str_inv;exact .cons i t (sN hys hr)
  | _=>exact no1 e
theorem aAs (e:aAp x vs=some v)(h:bI (hide s.heap M) ys vs):wpAny (model prog w) A (call (.builtin "str.join") (.str x t::ys)) (PE M s v) E s:=by
 refine xY e fun l e1 e=>aL e fun ts hts e=>cK e fun hn e=> ?_
 (replace e:=Option.some.inj e;subst e;subst e1)
 obtain ⟨y,ys',rfl,hy,hys⟩:=h.cons_inv;have:=hys.nil_inv;subst this;obtain ⟨p,its,rfl,hp,hd⟩:=hy.list_inv;exact PyProof.Rows.join_list (aR hp).isList (sN hd hts) (Nat.le_trans hn (by decide)) fun t' k=> .str
theorem mF (X:ClsAt h C N mN):∃r,h.get? C=some (aG3 r C N [.type "object"] false "object.__new__"):=by obtain ⟨nm,q,bs,sn,sub,col,dd,k0,k1,k2,k3,k5,e⟩:=X.obj;exact ⟨⟨nm,q,bs,sn,sub,col,dd,k0,k1,k2,k3,k5⟩,e⟩
theorem jX {x:Addr}{n:Str}{v:Value}{b:Bool}(X:ClsAt s.heap c N mN)(hga:mN "__getattribute__"=none)(hna:mN n=none)(hB:typeLookup (.type "object") n=pure none)
  (I:s.heap.Inst x c mA) (hv:mA n=some v) (hh:handedOut v=pure v) (hq:Q v {s with toks:=s.toks+1}):wpAny (model prog w) A (getAttr (.ref x) n b) Q E s:=by
 obtain ⟨cr,hC⟩:=mF X;exact load_attr hC X.ns hga hna hB I hv hh hq
theorem pH {x f:Addr}{of:Obj}{n:Str}{y:Option Value}{pl:Sem Bool}{Q:Value × List Value->Shared->Prop}(X:ClsAt s.heap c N mN)(hga:mN "__getattribute__"=none)(hgt:mN "__getattr__"=none)
  (hf:mN n=some (.ref f)) (hfo:s.heap.get? f=some of) (hfc:of.cls= .type "function") (hB:typeLookup (.type "object") n=pure y)
  (I:s.heap.Inst x c mA) (hv:mA n=none) (hq:Q (.ref f,[.ref x]) s):wpAny (model prog w) A (getMethod (.ref x) n pl) Q E s:=by
 obtain ⟨cr,hC⟩:=mF X;exact method_of hC X.ns hga hgt hf hfo hfc hB I hv hq
theorem Den.inst_inv {V:Heap}{c:Nat}(h:Den V y (.inst c fs)):∃x mA,y= .ref x/\V.Inst x c mA/\(∀ n,(mA n).isSome=(fs.lookup n).isSome)/\∀n u v,mA n=some u->fs.lookup n=some v->Den V u v:=by
 cases h with
 | inst h1 h2 h3=>exact ⟨_,_,rfl,h1,h2,h3⟩
theorem Den.dict_inv {V:Heap}{l:List (Int × Int)}(h:Den V y (.dict l)):∃a kvs,y= .ref a/\aP V a kvs/\dL kvs l:=by
 cases h with
 | dict h1 h2=>exact ⟨_,_,rfl,h1,h2⟩
theorem Den.handed {V:Heap}(h:Den V y v):handedOut y=pure y:=by cases h <;> rfl
theorem dL.at {l:List (Int × Int)}(hi:dL kvs l)(k:Int):(∃ n t,l.lookup k=some n/\valueAt kvs k=some (.int n t))\/(l.lookup k=none/\valueAt kvs k=none):=by
 induction hi with
 | nil=>exact .inr ⟨rfl,rfl⟩
 | cons k' n t r ih=>
  by_cases h:k=k'
  ·subst h;exact .inl ⟨n,t,by rw [List.lookup_cons,beq_self_eq_true],by simp [valueAt]⟩
  ·have hb:(k==k')=false:=beq_eq_false_iff_ne.mpr h;have hv:∀(x:Value) (r:List (Int × Value)),valueAt ((k',x)::r) k=valueAt r k:=fun x r=>by
    simp [valueAt,Ne.symm h]
   rw [List.lookup_cons,hb,hv];exact ih
theorem oS {l:List (Int × Int)}{k n:Int}(e:l.lookup k=some n)(hp:aP (hide s.heap M) a kvs)(hi:dL kvs l):
  wpAny (model prog w) A (getItem (.ref a) (.int k t)) (PE M s (.int n)) E s:=by
 have hd:s.heap.DictOf (intKind prog w) a kvs:=by obtain ⟨o,es,ep,h1,r⟩:=hp.2 prog w;exact ⟨o,es,ep,(aB.mp h1).2,r⟩
 rcases hi.at k with ⟨n',t',h1,h2⟩ | ⟨h1,_⟩
 ·rw [e] at h1;(replace h1:=Option.some.inj h1;subst h1);exact wpAny_getItem_of (knd:=intKind prog w) (k:=k) (key:= .int k t) (by show Value.isInt k (.int k t)=true;simp [Value.isInt]) hd.mapOf h2 .int
 ·rw [e] at h1;exact no2 h1
theorem aDi {l:List (Int × Int)}(e:aOh l vs=some v)(hp:aP (hide s.heap M) a kvs)(hi:dL kvs l)(h:bI (hide s.heap M) ys vs):
  wpAny (model prog w) A (call (.builtin "dict.get") (.ref a::ys)) (PE M s v) E s:=by
 rcases vs with _ | ⟨a,r⟩ <;> first | exact no1 e | skip
 rcases a with _ | _ | k | _ | _ | _ | _ | _ | _ | _ <;> first | exact no1 e | (rcases r with _ | ⟨b,r⟩ <;> first | exact no1 e | skip)
 rcases b with _ | _ | n | _ | _ | _ | _ | _ | _ | _ <;> first | exact no1 e | skip
 rcases r with _ | _ <;> first | exact no1 e | skip
 ·replace e:=Option.some.inj e;subst e
  obtain ⟨y,ys',rfl,hy,hys⟩:=h.cons_inv;obtain ⟨z,zs,rfl,hz,hzs⟩:=hys.cons_inv;have:=hzs.nil_inv;subst this;obtain ⟨t,rfl⟩:=hy.int_inv;obtain ⟨u,rfl⟩:=hz.int_inv;have hd:s.heap.DictOf (intKind prog w) a kvs:=by obtain ⟨o,es,ep,h1,r⟩:=hp.2 prog w;exact ⟨o,es,ep,(aB.mp h1).2,r⟩
  refine call_meetsIn PySem.F.slot_dict_get hd.typeIs PySem.F.entry_dict_get (PySem.F.args_dict_get_3 _ _ _) (meets_dict_get_default (intKind prog w) (k:=k) a (by show Value.isInt k (.int k t)=true;simp [Value.isInt]) hp.1 (.int n u)) ⟨_,hd.mapOf,?_⟩
  rcases hi.at k with ⟨n',t',h1,h2⟩ | ⟨h1,h2⟩
  ·rw [h1,h2]; exact PE.int
  ·rw [h1,h2]; exact PE.int
end
theorem qQ:mroOf (.type "dict")=pure [.type "dict",.type "object"]:=by rw [mroOf_type]; kernel_rfl
theorem mG:typeLookup (.type "dict") "__new__"=pure (some (.builtin "dict.__new__")):=by rw [typeLookup_type,builtinLookup_eq_fast]; kernel_rfl
theorem yB:isSubtype (.type "dict") (.type "dict")=pure true:=by rw [isSubtype_type]; kernel_rfl
theorem vJ:TypeCalled "dict" "dict.__new__" "dict.__init__":=
 ⟨by decide+kernel,by decide+kernel,⟨_,_,qQ⟩,madeBy_type qQ mG (by decide+kernel),by decide+kernel,yB,PySem.F.slot_dict_init⟩
theorem mH (a:Value):checkTypeCall "dict" ⟨[a],[]⟩=pure ():=by kernel_rfl
theorem oT (a:Value):checkBuiltinCall "dict.__new__" ⟨[.type "dict",a],[]⟩=pure ():=by kernel_rfl
theorem oU:entryFor table "dict.__new__"=some Builtin.«dict.__new__» :=entryFor_of_tree (by kernel_rfl)
theorem oV (a:Value):Meets (Builtin.«dict.__new__» ⟨[.type "dict",a],[]⟩) (fun _ R s=>R (.ok (.ret (.ref s.heap.objs.size))) {s with heap:=s.heap.push {cls:= .type "dict",data:= .dict #[]}}):=by
 intro prog w A R s h;unfold Builtin.«dict.__new__»;refine wpAny_bind (wpAny_of_eq (show isType (.type "dict")=pure true from rfl) ?_);refine bX (by decide) ?_;refine wpAny_bind (wpAny_of_eq yB ?_);refine bX (by decide) ?_;refine wpAny_bind (wpAny_of_eq qQ ?_);refine wpAny_bind (wpAny_newObj_type ?_);exact wpAny_pure h
section
variable {M:List Addr}
theorem mI (d o:Addr)(hdo:d≠o)(hoS:(o==sysModules)=false):
  Meets (Builtin.«dict.__init__» ⟨[.ref d,.ref o],[]⟩) (fun _ R s=>aP s.heap d []/\aP s.heap o kvs/\kvs.length<=sizeLine/\
   ∀h',aP h' d kvs->Heap.SameBut d s.heap h'->R (.ok (.ret .none)) {s with heap:=h'}):=by
 intro prog w A R s ⟨hd0,ho0,hsz,h⟩;have hd:=hd0.2 prog w;have ho:=ho0.2 prog w;have hn:(kvs.map (·.1)).Nodup:=by obtain ⟨_,_,_,_,_,_,_,_,hn⟩:=ho;exact hn
 unfold Builtin.«dict.__init__»;refine wpAny_bind ?_;unfold Builtin.Dict.selfAndRest;refine wpAny_bind (wpAny_notOrdered_dict hd.typeIs ?_);show wpAny _ _ (pure (d,[Value.ref o])) _ _ s;refine wpAny_pure ?_;show wpAny _ _ (Builtin.Dict.updateFrom "dict.__init__" d (.ref o) [] .none) _ _ s;unfold Builtin.Dict.updateFrom;refine wpAny_bind (wpAny_typeOf ho.typeIs ?_);refine bX (by decide) ?_;refine wpAny_bind ?_;unfold Builtin.Dict.merge;refine wpAny_bind ?_;unfold Builtin.Dict.readDirectly;refine wpAny_bind (wpAny_isInstance ho.typeIs isSubtype_dict_dict ?_);refine bX (by decide) ?_;refine wpAny_bind (wpAny_specialOf ho.typeIs PySem.F.slot_dict_iter.lookup (wpAny_pure ?_));refine iV (by decide) ?_;refine wpAny_bind (wpAny_pure ?_);refine wpAny_mergeDict (knd:=intKind prog w) (hsz:=by simpa using hsz) hdo hoS hd ho fun h' hd' ho' hs'=> ?_
 show wpAny _ _ (Builtin.Dict.addKeywords d [] >>= _) _ _ _;rw [merged_nil_of_nodup _ hn] at hd';exact wpAny_bind (wpAny_pure (wpAny_pure (h h' (.of hd0.1 hd') hs')))
theorem mJ (hlt:∀a∈M,∃o,s.heap.get? a=some o)(hsm:sysModules<s.heap.objs.size)(e:aAo vs=some v)(h:bI (hide s.heap M) ys vs):wpAny (model prog w) A (call (.type "dict") ys) (PF M s v) E s:=by
 rcases vs with _ | ⟨a,r⟩ <;> first | exact no1 e | skip
 rcases a with _ | _ | _ | _ | _ | _ | l | _ | _ | _ <;> first | exact no1 e | skip
 rcases r with _ | _ <;> first | exact no1 e | skip
 refine cK e fun hn e=> ?_
 (replace e:=Option.some.inj e;subst e); clear e
 obtain ⟨y,ys',rfl,hy,hys⟩:=h.cons_inv;have:=hys.nil_inv;subst this;obtain ⟨o,kvs,rfl,hp,hi⟩:=hy.dict_inv;have hex:∃ob,s.heap.get? o=some ob:=by obtain ⟨ob,_,_,h1,_⟩:=hp.2 prog w;exact ⟨ob,(aB.mp h1).2⟩
 obtain ⟨ob,hob⟩:=hex;have hno:s.heap.objs.size≠o:=fun q=>Nat.lt_irrefl _ (q▸Heap.lt_size hob)
 have hns:(s.heap.objs.size==sysModules)=false:=beq_eq_false_iff_ne.mpr fun q=>absurd hsm (by rw [q]; exact Nat.lt_irrefl _)
 have hnew:aP (s.heap.push {cls:= .type "dict",data:= .dict #[]}) s.heap.objs.size []:= .of (prog:=prog) (w:=w) hns (Heap.DictOf.new _);have hold:aP (s.heap.push {cls:= .type "dict",data:= .dict #[]}) o kvs:=⟨hp.1,fun p w=>by obtain ⟨a,b,c,h1,r⟩:=hp.2 p w;exact ⟨a,b,c,Heap.get?_push_of_some _ (aB.mp h1).2,r⟩⟩;have hl:l.length=kvs.length:=by
  clear hold hnew hp hy h
  induction hi with
  | nil=>rfl
  | cons _ _ _ _ ih=>simpa using ih (by simp at hn;exact Nat.le_succ_of_le hn)
 refine callType_meets (Q₁:=fun obj s'1=>obj= .ref s.heap.objs.size/\s'1={s with heap:=s.heap.push {cls:= .type "dict",data:= .dict #[]}}) vJ (mH _) (oT _) oU PySem.F.entry_dict_init (oV _) ⟨rfl,rfl⟩ fun obj s'1 h'1=> ?_
 obtain ⟨rfl,rfl⟩:=h'1;refine ⟨(hnew.2 prog w).typeIs,PySem.F.args_dict_init_2 _ _,_,mI _ o hno hp.1,hnew,hold,by rw [sizeLine_eq]; exact lit (hl▸hn) rfl,fun h' hd' hs'=>⟨rfl,⟨?_,?_⟩,fun a e=> ?_⟩⟩
 ·refine .dict ⟨hd'.1,fun p w=> ?_⟩ hi;obtain ⟨a,b,c,h1,r⟩:=hd'.2 p w;exact ⟨a,b,c,aB.mpr ⟨fun q=>by obtain ⟨_,e⟩:=hlt _ q;exact Nat.lt_irrefl _ (Heap.lt_size e),h1⟩,r⟩
 ·exact ⟨h',s.toks,rfl,fun b o e=>hs'.extBut b o (Nat.ne_of_lt (Heap.lt_size e)) (Heap.get?_push_of_some _ e)⟩
 ·(replace e:=Value.ref.inj e;subst e); exact iZ _
theorem vK {k v:Int}{kk vk:Nat}{kp vp:Pos}(hlt:∀a∈M,∃o,s.heap.get? a=some o)(hsm:sysModules<s.heap.objs.size):
  wpAny (model prog w) A (eval (.Dict [some (.Constant (.int k) kk kp)] [.Constant (.int v) vk vp] p) env) (PF M s (.dict [(k,v)])) E s:=by
 have hns:(s.heap.objs.size==sysModules)=false:=beq_eq_false_iff_ne.mpr fun q=>absurd hsm (by rw [q]; exact Nat.lt_irrefl _)
 refine wpAny_Dict_pairs (knd:=intKind prog w) (pairs:=[(eval (.Constant (.int k) kk kp) env,do let x <-eval (.Constant (.int v) vk vp) env;standAt p;pure x)]) rfl (by simp) (by simp) ?_;rw [evalPairs,evalPairs];refine wpAny_bind (wpAny_Constant_int (wpAny_bind (wpAny_holding (wpAny_bind (wpAny_Constant_int (wpAny_bind (wpAny_standAt (wpAny_pure ?_))))))));refine wpAny_bind (wpAny_holding (wpAny_pure (wpAny_pure ?_)));have hnew:aP (s.heap.push {cls:= .type "dict",data:= .dict #[]}) s.heap.objs.size []:= .of (prog:=prog) (w:=w) hns (Heap.DictOf.new _);refine ⟨[(k,.int v (s.toks+1))],⟨by show Value.isInt k (.int k s.toks)=true;simp [Value.isInt],rfl,trivial⟩,hnew.2 prog w,fun h' hd' hs'=> ?_⟩;have hd':aP h' s.heap.objs.size [(k,.int v (s.toks+1))]:= .of (prog:=prog) (w:=w) hns hd';have hden:Den (hide h' M) (.ref s.heap.objs.size) (.dict [(k,v)]):= .dict (kvs:=[(k,.int v (s.toks+1))]) ⟨hd'.1,fun p w=>by
  obtain ⟨a,b,c,h1,r⟩:=hd'.2 p w;exact ⟨a,b,c,aB.mpr ⟨fun q=>by obtain ⟨_,e⟩:=hlt _ q;exact Nat.lt_irrefl _ (Heap.lt_size e),h1⟩,r⟩⟩ (.cons k v _ .nil)
 refine ⟨⟨hden,h',_,rfl,fun b o e=>hs'.extBut b o (Nat.ne_of_lt (Heap.lt_size e)) (Heap.get?_push_of_some _ e)⟩,fun a e=> ?_⟩
 (replace e:=Value.ref.inj e;subst e); exact iZ _
end
structure vL (sc:Scope)(env:Env):Prop where
 loc:∀x,sc.names.lookup x=some .local->env.kindOf x=some .local
 glob:∀x,sc.names.lookup x=some .globalImplicit->env.kindOf x=some .globalImplicit
 cell:∀x,sc.names.lookup x=some .cell->env.kindOf x=some .cell
 free:∀x,sc.names.lookup x=some .free->env.kindOf x=some .cell\/env.kindOf x=some .free
theorem fF:∀(names:List (Str × NameKind)) (n:Nat) (acc:List (Str × Addr)),(∀ p∈names,p.2= .cell->p.1≠x)->(cellsFrom n names acc).lookup x=acc.lookup x
 | [],_,_,_=>rfl
 | (y,k)::r,n,acc,h=>by
  unfold cellsFrom;have hr:=fun p hp=>h p (List.mem_cons_of_mem _ hp)
  split
  ·rename_i hk;rw [fF r _ _ hr,List.lookup_cons];have:(x==y)=false:=beq_eq_false_iff_ne.mpr fun e=>h (y,k) List.mem_cons_self (by simpa using hk) e.symm
   rw [this]
  ·exact fF r _ _ hr
theorem gS:∀(names:List (Str × NameKind)) (h:Heap) (acc:List (Str × Addr)),(∃ p∈names,p.2= .cell/\p.1=x)->
  ∃c,(cellsFrom h.objs.size names acc).lookup x=some c/\h.objs.size<=c/\(pushCells h names).IsCell c none
 | [],_,_,h=>by obtain ⟨p,hp,_⟩:=h;cases hp
 | (y,k)::r,h,acc,hx=>by
  unfold cellsFrom pushCells
  by_cases hr:∃p∈r,p.2= .cell/\p.1=x
  ·split
   ·obtain ⟨c,h1,h2,h3⟩:=gS r (h.push {cls:= .type "cell",data:= .cell none}) ((y,h.objs.size)::acc) hr;rw [Heap.size_push] at h1 h2;exact ⟨c,h1,by exact Nat.le_of_lt h2,h3⟩
   ·exact gS r h acc hr
  ·obtain ⟨p,hp,hk,rfl⟩:=hx
   rcases List.mem_cons.mp hp with rfl | hp
   ·have hk':(k==NameKind.cell)=true:=by simpa using hk
    rw [if_pos hk',if_pos hk'];refine ⟨h.objs.size,?_,Nat.le_refl _,⟨_,pushCells_keeps _ _ _ _ (Heap.get?_push_size _ rfl),rfl⟩⟩;rw [fF r _ _ fun q hq hqk e=>hr ⟨q,hq,hqk,e⟩,List.lookup_cons,beq_self_eq_true]
   ·exact absurd ⟨p,hp,hk,rfl⟩ hr
theorem aAt {csc:Scope}(h:∀y∈csc.names,y.2= .free->(env.cells.lookup y.1).isSome=true):
  ∃cl,closureFor csc env=pure cl/\∀y,csc.names.lookup y=some .free->cl.lookup y=env.cells.lookup y:=by
 have key:∀(names:List (Str × NameKind)) (acc:List (Str × Addr)),(∀ y∈names,y.2= .free->(env.cells.lookup y.1).isSome=true)->(∀ p∈acc,env.cells.lookup p.1=some p.2)->
   ∃cl,(forIn (m:=Sem) names acc fun (x:Str × NameKind) (r:List (Str × Addr))=>
    if x.2==NameKind.free then (do let a <-cellOf env x.1;pure (ForInStep.yield ((x.1,a)::r))) else pure (ForInStep.yield r))=pure cl/\
    (∀ p∈cl,env.cells.lookup p.1=some p.2)/\(∀ y,((acc.lookup y).isSome=true\/∃p∈names,p.2= .free/\p.1=y)->(cl.lookup y).isSome=true):=by
  intro names
  induction names with
  | nil=>intro acc _ ha;exact ⟨acc,rfl,ha,fun y h=>h.elim id fun zz=>by obtain ⟨p,hp,_⟩:=zz;exact nomatch hp⟩
  | cons p r ih=>
   intro acc hn ha;obtain ⟨y,k⟩:=p;rw [List.forIn_cons]
   by_cases hk:k= .free
   ·subst hk;obtain ⟨a,hy⟩:=Option.isSome_iff_exists.mp (hn (y,.free) List.mem_cons_self rfl);dsimp only at hy;obtain ⟨cl,h1,h2,h3⟩:=ih ((y,a)::acc) (fun z hz=>hn z (List.mem_cons_of_mem _ hz)) (fun p hp=>by
     rcases List.mem_cons.mp hp with rfl | hp
     ·exact hy
     ·exact ha p hp)
    refine ⟨cl,?_,h2,fun z hz=>h3 z ?_⟩
    ·have hc:cellOf env y=pure a:=by unfold cellOf;rw [hy]
     simp only [beq_self_eq_true,if_true,hc];exact h1
    ·rcases hz with hz | ⟨q,hq,hqk,rfl⟩
     ·left
      rw [List.lookup_cons]
      split
      ·rfl
      ·exact hz
     ·rcases List.mem_cons.mp hq with rfl | hq
      ·left;rw [List.lookup_cons,beq_self_eq_true]; rfl
      ·exact .inr ⟨q,hq,hqk,rfl⟩
   ·have hkf:(k==NameKind.free)=false:=beq_eq_false_iff_ne.mpr hk;obtain ⟨cl,h1,h2,h3⟩:=ih acc (fun z hz=>hn z (List.mem_cons_of_mem _ hz)) ha;refine ⟨cl,?_,h2,fun z hz=>h3 z ?_⟩
    ·simp only [hkf,Bool.false_eq_true,if_false];exact h1
    ·rcases hz with hz | ⟨q,hq,hqk,rfl⟩
     ·exact .inl hz
     ·rcases List.mem_cons.mp hq with rfl | hq
      ·exact absurd hqk hk
      ·exact .inr ⟨q,hq,hqk,rfl⟩
 obtain ⟨cl,h1,h2,h3⟩:=key csc.names [] h (fun _ hp=>nomatch hp);refine ⟨cl,?_,fun y hy=> ?_⟩
 ·unfold closureFor;show (forIn csc.names ([]:List (Str × Addr)) _ >>= fun r=>pure r)=_;refine Eq.trans (congrArg (· >>= fun r=>pure r) (Eq.trans ?_ h1)) rfl;rfl
 ·obtain ⟨c,hc⟩:=Option.isSome_iff_exists.mp (h3 y (.inr ⟨(y,.free),mem_of_lookup hy,rfl,rfl⟩));rw [hc,h2 _ (mem_of_lookup hc)]
noncomputable abbrev Zs:List (Addr × Addr):=[(227,223),(234,230)]
set_option genInjectivity false
set_option genSizeOfSpec false
theorem Den.listE {V:Heap}{P:Prop}(h:Den V y (.list l))(q:∀a vs,y= .ref a->V.PlainList a vs->bI V vs.toList l->P):P:=
 by obtain ⟨a,vs,e,h1,h2⟩:=h.list_inv;exact q a vs e h1 h2
theorem Den.tupE {V:Heap}{P:Prop}(h:Den V y (.tup l))(q:∀a vs,y= .ref a->V.IsTuple a vs->bI V vs.toList l->P):P:=
 by obtain ⟨a,vs,e,h1,h2⟩:=h.tup_inv;exact q a vs e h1 h2
theorem Den.dictE {V:Heap}{l:List (Int × Int)}{P:Prop}(h:Den V y (.dict l))(q:∀a kvs,y= .ref a->aP V a kvs->dL kvs l->P):P:=
 by obtain ⟨a,vs,e,h1,h2⟩:=h.dict_inv;exact q a vs e h1 h2
theorem Den.intE {V:Heap}{i:Int}{P:Prop}(h:Den V y (.int i))(q:∀t,y= .int i t->P):P:=by obtain ⟨t,e⟩:=h.int_inv;exact q t e
theorem Den.strE {V:Heap}{i:Str}{P:Prop}(h:Den V y (.str i))(q:∀t,y= .str i t->P):P:=by obtain ⟨t,e⟩:=h.str_inv;exact q t e
theorem aP.dict {M:List Addr}{a:Addr}(hp:aP (hide h M) a kvs):h.DictOf (intKind prog w) a kvs:=
 by obtain ⟨o,es,ep,h1,r⟩:=hp.2 prog w;exact ⟨o,es,ep,(aB.mp h1).2,r⟩
theorem bI.consE {V:Heap}{vs:List Value}{P:Prop}(h:bI V vs (v::l))(q:∀y ys,vs=y::ys->Den V y v->bI V ys l->P):P:=by obtain ⟨y,ys,e,h1,h2⟩:=h.cons_inv;exact q y ys e h1 h2
theorem bI.int1 {V:Heap}{vs:List Value}{a:Int}{P:Prop}(h:bI V vs [.int a])(q:∀t,vs=[.int a t]->P):P:=
 h.consE fun y ys e h1 h2=>h1.intE fun t e1=>q t (by rw [e,e1,h2.nil_inv])
theorem bI.int2 {V:Heap}{vs:List Value}{a b:Int}{P:Prop}(h:bI V vs [.int a,.int b])(q:∀t u,vs=[.int a t,.int b u]->P):P:=
 h.consE fun y ys e h1 h2=>h1.intE fun t e1=>h2.int1 fun u e2=>q t u (by rw [e,e1,e2])
theorem bI.int3 {V:Heap}{vs:List Value}{a b c:Int}{P:Prop}(h:bI V vs [.int a,.int b,.int c])(q:∀t u v,vs=[.int a t,.int b u,.int c v]->P):P:=
 h.consE fun y ys e h1 h2=>h1.intE fun t e1=>h2.int2 fun u v e2=>q t u v (by rw [e,e1,e2])
theorem Den.instE {V:Heap}{c:Nat}{P:Prop}(h:Den V y (.inst c fs))(q:∀x mA,y= .ref x->V.Inst x c mA->(∀ n,(mA n).isSome=(fs.lookup n).isSome)->(∀ n u v,mA n=some u->fs.lookup n=some v->Den V u v)->P):P:=
 by obtain ⟨x,mA,e,h1,h2,h3⟩:=h.inst_inv;exact q x mA e h1 h2 h3
theorem aLg {c:Addr}{ps:Array Value}(x:h.IsCode c P ps)(k:∀b o,b=c\/b=P->h.get? b=some o->h'.get? b=some o):h'.IsCode c P ps:=by
 revert x
 refine Exists.imp fun o=>Exists.imp fun vs=>Exists.imp fun file=>Exists.imp fun tf=>Exists.imp fun flags=>Exists.imp fun tg=>Exists.imp fun inF=>Exists.imp fun text=>Exists.imp fun tt=>Exists.imp fun op=>And.imp (k c o (.inl rfl)) (And.imp id (And.imp id (And.imp id (And.imp id (And.imp id (And.imp id (And.imp (k P op (.inr rfl)) id)))))))
theorem aHq {c:Addr}{ps:Array Value}(x:h.TableAt c P ps)(k:∀b o,b=c\/b=P->h.get? b=some o->h'.get? b=some o):h'.TableAt c P ps:=
 And.imp (Exists.imp fun o=>Exists.imp fun vs=>And.imp (k c o (.inl rfl)) id) (k P _ (.inr rfl)) x
def Tab (h:Heap)(z:Addr × Addr)(ps:Array Value):Prop:=h.IsCode z.1 z.2 ps/\h.TableAt z.1 z.2 ps
theorem Tab.at {z:Addr × Addr}{ps:Array Value}(x:Tab h z ps)(k:∀b o,b=z.1\/b=z.2->h.get? b=some o->h'.get? b=some o):Tab h' z ps:=⟨aLg x.1 k,aHq x.2 k⟩
structure KW (W:List Addr)(Z:List (Addr × Addr))(s s':Shared):Prop where
 keep:∀b o,b∉W->b∉Z.map (·.2)->s.heap.get? b=some o->s'.heap.get? b=some o
 tab:∀z∈Z,∀ps,Tab s.heap z ps->∃more,Tab s'.heap z (ps++more)
 bare:AllBare s.gens->AllBare s'.gens
 drawn:s'.drawn=s.drawn
 os:s'.os=s.os
structure Zok (Z:List (Addr × Addr))(W:List Addr)(h:Heap):Prop where
 at':∀z∈Z,∃ps,Tab h z ps
 apart:∀z∈Z,∀y∈W,y≠z.1/\y≠z.2
section
variable {W':List Addr}{a b c:Shared}{tk:Nat}
theorem KW.trans (x:KW W Z a b)(y:KW W Z b c):KW W Z a c where
 keep:=fun d o h1 h2 e=>y.keep d o h1 h2 (x.keep d o h1 h2 e)
 tab:=fun z hz ps h=>by obtain ⟨m,h1⟩:=x.tab z hz ps h;exact by obtain ⟨m',h2⟩:=y.tab z hz _ h1;exact ⟨m++m',Array.append_assoc▸h2⟩
 bare:=fun h=>y.bare (x.bare h)
 drawn:=y.drawn.trans x.drawn
 os:=y.os.trans x.os
theorem KW.out (hz:∀z∈Z,z.1∉W/\z.2∉W)(k:∀b o,b∉W->s.heap.get? b=some o->h'.get? b=some o):KW W Z s {s with heap:=h',toks:=tk} where
 keep:=fun b o hb _ e=>k b o hb e
 tab:=fun z hzz ps h=>⟨#[],Array.append_empty.symm▸h.at fun b o q e=>k b o (q.elim (fun q=>q▸(hz z hzz).1) fun q=>q▸(hz z hzz).2) e⟩
 bare:=id
 drawn:=rfl
 os:=rfl
theorem KW.weaken (x:KW W Z a b)(h:∀y∈W,y∈W'):KW W' Z a b:={x with keep:=fun d o h1 h2 e=>x.keep d o (fun q=>h1 (h d q)) h2 e}
theorem KW.wk (k:KW [] Z s s'):KW W Z s s':=k.weaken fun _ h=>nomatch h
theorem KW.of_keep (k:∀b o,s.heap.get? b=some o->h'.get? b=some o):KW W Z s {s with heap:=h',toks:=tk}:=(KW.out (W:=[]) (fun _ _=>⟨(nomatch ·),(nomatch ·)⟩) fun b o _ e=>k b o e).wk
theorem KW.refl (s:Shared):KW W Z s s:=KW.of_keep (s:=s) (h':=s.heap) (tk:=s.toks) fun _ _ e=>e
theorem KW.toks:KW W Z s {s with toks:=n}:=KW.of_keep (s:=s) (h':=s.heap) fun _ _ e=>e
theorem KW.push {o:Obj}:KW W Z s {s with heap:=s.heap.push o}:=KW.of_keep (s:=s) (tk:=s.toks) fun _ _ e=>Heap.get?_push_of_some _ e
theorem Zok.out (z:Zok Z W h):∀y∈Z,y.1∉W/\y.2∉W:=fun y hy=>⟨fun q=>(z.apart y hy _ q).1 rfl,fun q=>(z.apart y hy _ q).2 rfl⟩
theorem KW.change {c:Addr}(hc:c∈W)(hz:Zok Z W s.heap)(hs:Heap.SameBut c s.heap h'):KW W Z s {s with heap:=h',toks:=tk}:=KW.out hz.out fun b o hb e=>hs.extBut b o (fun q=>hb (q▸hc)) e
theorem Zok.of (x:Zok Z W a.heap)(k:KW W Z a b):Zok Z W b.heap:=⟨fun z hz=>by obtain ⟨ps,h⟩:=x.at' z hz;exact by obtain ⟨m,h'⟩:=k.tab z hz ps h;exact ⟨_,h'⟩,x.apart⟩
theorem KW.into (k:KW [] Z s a)(k':KW W Z a b)(hW:∀y∈W,s.heap.get? y=none):KW [] Z s b where
 keep:=fun d o _ h2 e=>k'.keep d o (fun q=>no1 ((hW d q).symm.trans e)) h2 (k.keep d o (nomatch ·) h2 e)
 tab:=(KW.trans (W:=W) k.wk k').tab
 bare:=fun h=>k'.bare (k.bare h)
 drawn:=k'.drawn.trans k.drawn
 os:=k'.os.trans k.os
theorem Tab.ex {z:Addr × Addr}{ps:Array Value}(x:Tab h z ps):∀b,b=z.1\/b=z.2->∃o,h.get? b=some o:=fun b q=>q.elim (fun q=>q▸x.2.1.imp fun _ h=>h.elim fun _ h=>h.1) fun q=>q▸⟨_,x.2.2⟩
theorem KW.skip {P:Addr->Prop}(k:KW W Z s s')(k4:∀b o,P b->s'.heap.get? b=some o->h'.get? b=some o)(hex:∀b o,s.heap.get? b=some o->P b):KW W Z s {s' with heap:=h',toks:=tk} where
 keep:=fun b o h1 h2 e=>k4 b o (hex b o e) (k.keep b o h1 h2 e)
 tab:=fun z hz ps h=>(k.tab z hz ps h).imp fun _ h1=>h1.at fun b o q e=>k4 b o ((h.ex b q).elim (hex b)) e
 bare:=k.bare
 drawn:=k.drawn
 os:=k.os
theorem KW.fresh (k:KW W Z s s')(hL:s.heap.get? L=none)(hs:Heap.SameBut L s'.heap h'):KW W Z s {s' with heap:=h',toks:=tk}:=k.skip (P:=(· ≠L)) (fun b o h e=>hs.extBut b o h e) fun b o e q=>no1 (hL.symm.trans (q▸e))
theorem KW.after (hk:∀b o,a.heap.get? b=some o->b∉W/\c.heap.get? b=some o)(bg:c.gens=a.gens)(bd:c.drawn=a.drawn)(bo:c.os=a.os)(k:KW W Z c s'):KW [] Z a s' where
 keep:=fun b o _ h2 e=>k.keep b o (hk b o e).1 h2 (hk b o e).2
 tab:=fun z hz ps h=>k.tab z hz ps (h.at fun b o _ e=>(hk b o e).2)
 bare:=fun h=>k.bare (bg▸h)
 drawn:=k.drawn.trans bd
 os:=k.os.trans bo
theorem Zok.not {o:Obj}{y:Addr}(z:Zok Z W h)(e:h.get? y=some o)(hd:∀vs,o.data≠ .fields vs):y∉Z.map (·.2):=fun q=>by
 obtain ⟨z',hz,rfl⟩:=List.mem_map.mp q;obtain ⟨ps,_,_,ht⟩:=z.at' z' hz;exact hd ps (Option.some.inj (ht.symm.trans e)▸rfl)
end
theorem bG (h:Heap):h.get? h.objs.size=none:=by
 rcases e:h.get? h.objs.size with _ | o
 ·rfl
 ·exact absurd (Heap.lt_size e) (Nat.lt_irrefl _)
def Kp:Shared->Shared->Prop:=KW [] Zs
noncomputable abbrev Zt:List Addr:=[223,230]
theorem eU.kp {a b:Shared}(k:eU a b):Kp a b:=by
 obtain ⟨h,t,rfl,k⟩:=k;exact KW.of_keep k
theorem Kp.get {a b:Shared}(k:Kp a b):∀c o,c∉Zt->a.heap.get? c=some o->b.heap.get? c=some o:=fun c o h e=>k.keep c o (nomatch ·) h e
theorem Kp.hide {a b:Shared}{M:List Addr}(k:Kp a b)(hM:∀y∈Zt,y∈M):∀c o,(Mine.hide a.heap M).get? c=some o->(Mine.hide b.heap M).get? c=some o:=
 aT (fun _ h1 h2=>absurd h1 h2) fun c o h e=>k.get c o (fun q=>h (hM c q)) e
theorem Kp.den {a b:Shared}{M:List Addr}(k:Kp a b)(hM:∀y∈Zt,y∈M)(d:Den (Mine.hide a.heap M) y v):Den (Mine.hide b.heap M) y v:=d.keeps (k.hide hM)
noncomputable def qR:List (Str × String):=[("len","len"),("chr","chr"),("min","min"),("max","max"),("sum","sum"),("sorted","sorted")]
noncomputable def tyTable:List (Str × String):=[("range","range"),("tuple","tuple"),("dict","dict"),("list","list")]
structure aNl (Sta:Heap->Prop)(mg mb:Str->Option Value):Prop where
 keeps:∀a b,Kp a b->Sta a.heap->Sta b.heap
 zok:∀h,Sta h->Zok Zs [] h
 g:∀h,Sta h->h.Ns mainGlobals mg
 b:∀h,Sta h->h.Ns builtinsNs mb
 bi:∀f id,(f,id)∈qR->mg f=none/\mb f=some (.builtin id)
 ty:∀f id,(f,id)∈tyTable->mg f=none/\mb f=some (.type id)
 sm:∀h,Sta h->sysModules<h.objs.size
def PW (M:List Addr)(s:Shared)(v:AV)(y:Value)(s':Shared):Prop:=Den (hide s'.heap M) y v/\Kp s s'
def bB (prog:Program)(w:World)(Sta:Heap->Prop)(d:Nat)(a:Addr)(vs:List AV)(v:AV):Prop:=
 ∀(A:Around) (E:Value->Shared->Prop) (s:Shared) (M:List Addr) (ys:List Value),cW A d->Sta s.heap->(∀ y∈Zt,y∈M)->(∀ a∈M,∃o,s.heap.get? a=some o)->0<s.toks->bI (hide s.heap M) ys vs->
  wpAny (model prog w) A (call (.ref a) ys) (PW M s v) E s
structure aLh (prog:Program)(w:World)(Sta:Heap->Prop)(mg:Str->Option Value)(cf:CallF)(d:Nat):Prop where
 fn:∀f vs v,cf.fn f vs=some v->∃a o fd,mg f=some (.ref a)/\o.data= .func fd/\(∀ h,Sta h->h.get? a=some o)/\bB prog w Sta d a vs v
 cls:∃N mN,(∀ h,Sta h->ClsAt (hide h Zt) cf.c N mN)/\mN "__getattribute__"=none/\mN "__getattr__"=none/\(∀ n∈cf.ats,mN n=none/\typeLookup (.type "object") n=pure none)/\
  ∀m vs v,cf.me m vs=some v->∃f y o fd,mN m=some (.ref f)/\typeLookup (.type "object") m=pure y/\o.cls= .type "function"/\o.data= .func fd/\(∀ h,Sta h->h.get? f=some o)/\bB prog w Sta d f vs v
 cl:∀f vs v,cf.cl f vs=some v->mg f=some (.ref cf.c)/\vs≠[]/\bB prog w Sta d cf.c vs v
structure Cx (Sta:Heap->Prop)(M:List Addr)(env:Env)(ρ:Loc)(h:Heap):Prop where
 sta:Sta h
 kind:env.scope.kind= .function
 globals:env.globals=mainGlobals
 builtins:env.builtins=builtinsNs
 vars:∀x v,ρ x=some v->∃u,cH env h x u/\Den (hide h M) u v
 lt:∀a∈M,∃o,h.get? a=some o
 tabs:∀y∈Zt,y∈M
theorem KW.ns {a b:Shared}{m:Str->Option Value}(k:KW W Zs a b)(z:Zok Zs [] a.heap)(h:L∉W)(hn:a.heap.Ns L m):b.heap.Ns L m:=
 by obtain ⟨o,es,ep,e,hd,r⟩:=hn;exact ⟨o,es,ep,k.keep _ _ h (z.not e fun vs q=>nomatch hd.symm.trans q) e,hd,r⟩
theorem KW.cell {a b:Shared}{c:Addr}{v:Option Value}(k:KW W Zs a b)(z:Zok Zs [] a.heap)(h:c∉W)(hn:a.heap.IsCell c v):b.heap.IsCell c v:=
 by obtain ⟨o,e,hd⟩:=hn;exact ⟨o,k.keep _ _ h (z.not e fun vs q=>nomatch hd.symm.trans q) e,hd⟩
theorem cH.kw {a b:Shared}{u:Value}(k:KW W Zs a b)(z:Zok Zs [] a.heap)(h1:env.locals∉W)(h2:∀c,env.cells.lookup x=some c->c∉W)(h:cH env a.heap x u):cH env b.heap x u:=by
 rcases h with ⟨q,m,hn,hm⟩ | ⟨q,c,hc,hi⟩ | ⟨q,q2,c,hc,hi⟩
 ·exact .inl ⟨q,m,k.ns z h1 hn,hm⟩
 ·exact .inr (.inl ⟨q,c,hc,k.cell z (h2 c hc) hi⟩)
 ·exact .inr (.inr ⟨q,q2,c,hc,k.cell z (h2 c hc) hi⟩)
theorem Kp.bound {a b:Shared}{u:Value}(k:Kp a b)(z:Zok Zs [] a.heap)(h:cH env a.heap x u):cH env b.heap x u:=h.kw k z (nomatch ·) fun _ _=>(nomatch ·)
theorem Kp.none {a b:Shared}{y:Addr}(k:Kp a b)(z:Zok Zs [] a.heap)(h:b.heap.get? y=none):a.heap.get? y=none:=by
 rcases e:a.heap.get? y with _ | o
 ·rfl
 ·by_cases q:y∈Zs.map (·.2)
  ·obtain ⟨z',hz,rfl⟩:=List.mem_map.mp q;obtain ⟨ps,hp⟩:=z.at' z' hz;obtain ⟨m,hm⟩:=k.tab z' hz ps hp;exact no1 (h.symm.trans hm.2.2)
  ·exact no1 (h.symm.trans (k.get y o q e))
theorem Kp.ex {a b:Shared}{y:Addr}(k:Kp a b)(z:Zok Zs [] a.heap)(h:∃o,a.heap.get? y=some o):∃o,b.heap.get? y=some o:=by
 rcases e:b.heap.get? y with _ | o
 ·obtain ⟨o,h⟩:=h;exact no1 ((k.none z e).symm.trans h)
 ·exact ⟨o,rfl⟩
theorem Kp.refl (s:Shared):Kp s s:=KW.refl s
theorem Kp.trans {a b c:Shared}(x:Kp a b)(y:Kp b c):Kp a c:=KW.trans x y
theorem Kp.toks:Kp s {s with toks:=n}:=KW.toks
theorem Cx.kp (S:aNl Sta mg mb){M:List Addr}{ρ:Loc}{a b:Shared}(c:Cx Sta M env ρ a.heap)(k:Kp a b):Cx Sta M env ρ b.heap:=
 {c with
  sta:=S.keeps _ _ k c.sta
  vars:=fun y v e=>by obtain ⟨u,hb,hd⟩:=c.vars y v e;exact ⟨u,k.bound (S.zok _ c.sta) hb,k.den c.tabs hd⟩
  lt:=fun y hy=>k.ex (S.zok _ c.sta) (c.lt y hy)}
theorem iD (a b:Int):Builtin.Range.rangeSize a b (-1)=if b<a then a- b else 0:=by
 unfold Builtin.Range.rangeSize;simp
theorem aAu {a b:Int}(ha: -(2^62)<=a)(ha':a<2^62)(hb: -(2^62)<b)(hb':b<2^62):Builtin.Range.small a b (-1)=true:=by
 unfold Builtin.Range.small;rw [iD];simp only [Builtin.Range.rangeFitsLong];simp
 split <;> omega
theorem dL.length {l:List (Int × Int)}(h:dL kvs l):l.length=kvs.length:=by
 induction h with
 | nil=>rfl
 | cons _ _ _ _ ih=>exact congrArg (· +1) ih
theorem dL.keys {l:List (Int × Int)}(hi:dL kvs l):∀{i:Nat} {k:Int} {x:Value} {p:Int × Int},kvs[i]? =some (k,x)->l[i]? =some p->k=p.1:=by
 induction hi with
 | nil=>exact fun h _=>no1 h
 | cons a n t r ih=>
  intro i k x p h h'
  cases i with
  | zero=>rw [<- Option.some.inj h',<-(Prod.mk.inj (Option.some.inj h)).1]
  | succ i=>exact ih (i:=i) h h'
structure Itr (prog:Program)(w:World)(A:Around)(M:List Addr)(s:Shared)(items:List AV)(I:Addr)(fp wr:List Addr)(P:Nat->Value->Prop)(St:Nat->Heap->Prop)(s'2:Shared):Prop where
 W:Walks prog w A I fp wr items.length P St
 st:St 0 s'2.heap
 has:∀b∈fp,∃o,s'2.heap.get? b=some o
 fresh:∀b∈wr,s.heap.get? b=none
 kept:eU s s'2
 item:∀i v d,P i v->items[i]? =some d->Den (hide s.heap M) v d
 ex:∀i h,St i h->∀b∈wr,∃o,h.get? b=some o
 vis:∀b∈fp,b∉wr->∃o,(hide s.heap M).get? b=some o
section
variable {M:List Addr}{items:List AV}
def aHr (prog:Program)(w:World)(A:Around)(M:List Addr)(s:Shared)(items:List AV)(Q:Value->Shared->Prop):Prop:=
 ∀I fp wr P St s'2,Itr prog w A M s items I fp wr P St s'2->Q (.ref I) s'2
theorem aNm {o:Obj}{fp:List Addr}{P:Nat->Value->Prop}{St:Nat->Heap->Prop}(q:aHr prog w A M s items Q)(hn:n=items.length)(W:Walks prog w A s.heap.objs.size (s.heap.objs.size::fp) [s.heap.objs.size] n P St)(st:St 0 (s.heap.push o))
  (vis:∀b∈fp,∃o,(hide s.heap M).get? b=some o) (item:∀i v d,P i v->items[i]? =some d->Den (hide s.heap M) v d) (ex:∀i h,St i h->∃o,h.get? s.heap.objs.size=some o) (hf:o.isFreed=false:=by rfl):
  Q (.ref s.heap.objs.size) {s with heap:=s.heap.push o}:=by
 subst hn;refine q _ _ _ _ _ _ ⟨W,st,fun b hb=> ?_,fun b hb=>List.mem_singleton.mp hb▸bG _,.push,item,fun i h hs b hb=>List.mem_singleton.mp hb▸ex i h hs,fun b hb hw=> ?_⟩
 ·rcases List.mem_cons.mp hb with rfl | hb
  ·exact ⟨_,Heap.get?_push_size _ hf⟩
  ·obtain ⟨o,e⟩:=vis b hb;exact ⟨o,Heap.get?_push_of_some _ (aB.mp e).2⟩
 ·exact vis b ((List.mem_cons.mp hb).resolve_left fun e=>hw (e▸List.mem_singleton.mpr rfl))
theorem aOj {x:AV}{C:AV->List AV->Prop}(e:bL x=some items)(q1:∀l,C (.list l) l)(q2:∀l,C (.tup l) l)
  (q3:∀a b,aQ a=true->aQ b=true->C (.range a b 1) ((List.range (b- a).toNat).map fun (i:Nat)=> .int (a+(i:Int)*1))) (q4:∀a b,aQ a=true->aQ b=true->C (.range a b (-1)) ((List.range (a- b).toNat).map fun (i:Nat)=> .int (a+(i:Int)*(-1))))
  (q5:∀x,C (.str x) (x.cps.toList.map fun c=> .str ⟨#[c]⟩)) (q6:∀l,l.length<=2^20->C (.dict l) (l.map fun p=> .int p.1)):C x items:=by
 rcases x with _ | _ | _ | x | l | l | l | _ | _ | ⟨a,b,c⟩ <;> first | exact no1 e | skip
 ·exact Option.some.inj e▸q5 x
 ·exact Option.some.inj e▸q1 l
 ·exact Option.some.inj e▸q2 l
 ·exact cK e fun h e=>Option.some.inj e▸q6 l h
 ·exact cK e fun h e=>kZ e (fun hc e=>Option.some.inj e▸hc▸q3 a b h.1 h.2) fun _ e=>cK e fun hc e=>Option.some.inj e▸hc▸q4 a b h.1 h.2
theorem eD {a:Int}(h:aQ a=true): -(2^32)<=a/\a<=2^32:=of_decide_eq_true h
theorem aAv {V:Heap}{a c:Int}{v:Value}{d:AV}(hv:∃t,v= .int (a+(i:Int)*c) t)(h:((List.range n).map fun (i:Nat)=>AV.int (a+(i:Int)*c))[i]? =some d):Den V v d:=by
 obtain ⟨t,rfl⟩:=hv;rw [List.getElem?_map] at h;refine kJ h fun j hj e=> ?_
 obtain ⟨hi,e2⟩:=List.getElem?_eq_some_iff.mp hj;rw [List.getElem_range] at e2;subst e2 e;exact .int _ _
theorem aDj {a b c:Int}(hh:A.handled=none)(q:aHr prog w A M s ((List.range n).map fun (i:Nat)=> .int (a+(i:Int)*c)) Q)(hsz:Builtin.Range.rangeSize a b c=(n:Int)):
  Q (.ref s.heap.objs.size) {s with heap:=s.heap.push {cls:= .type "range_iterator",data:= .fields #[rawInt a,rawInt (Builtin.Range.rangeSize a b c),rawInt c]}}:=by
 refine aNm q (by simp) (Walks.range (prog:=prog) (w:=w) hh s.heap.objs.size a c n) ?_ (fun _ h=>nomatch h) (fun i v d h1 h2=>aAv h1 h2) fun i h hs=>⟨_,hs⟩
 have e1:a+((0:Nat):Int)*c=a:=by simp
 have e2:(n:Int)- ((0:Nat):Int)=Builtin.Range.rangeSize a b c:=by rw [hsz]; simp
 show IsRangeIter _ _ _ _ _;rw [e1,e2];exact Heap.get?_push_size _ rfl
theorem aDk (hh:A.handled=none)(hx:Den (hide s.heap M) y (.list l))(q:aHr prog w A M s l Q):wpAny (model prog w) A (pyIter y) Q E s:=
 hx.listE fun a vs e hp hd=>by
  subst e;have hl:=(aR hp).isList;obtain ⟨n,ho⟩:=hp;exact wpAny_pyIter_list hl (aNm q (by rw [<- hd.1,Array.length_toList]) (Walks.list (prog:=prog) (w:=w) hh s.heap.objs.size a (Nat.ne_of_lt (Heap.lt_size (aB.mp ho).2)) vs) ⟨⟨_,Heap.get?_push_size _ rfl,rfl,rfl⟩,hl.at fun o e=>Heap.get?_push_of_some _ e⟩
   (fun b hb=>List.mem_singleton.mp hb▸⟨_,ho⟩) (fun i v d h1 h2=>hd.2 i v d (by rw [Array.getElem?_toList]; exact h1) h2) fun i h hs=>by obtain ⟨o,e,_⟩:=hs.1;exact ⟨o,e⟩)
theorem aHs (hh:A.handled=none)(hx:Den (hide s.heap M) y (.tup l))(q:aHr prog w A M s l Q):wpAny (model prog w) A (pyIter y) Q E s:=
 hx.tupE fun a vs e hp hd=>by
  subst e;have hl:=eV hp;obtain ⟨o,ho,_⟩:=hp;exact wpAny_pyIter_tuple hl (aNm q (by rw [<- hd.1,Array.length_toList]) (Walks.tuple (prog:=prog) (w:=w) hh s.heap.objs.size a (Nat.ne_of_lt (Heap.lt_size (aB.mp ho).2)) vs) ⟨⟨_,Heap.get?_push_size _ rfl,rfl,rfl⟩,hl.at fun o e=>Heap.get?_push_of_some _ e⟩
   (fun b hb=>List.mem_singleton.mp hb▸⟨_,ho⟩) (fun i v d h1 h2=>hd.2 i v d (by rw [Array.getElem?_toList]; exact h1) h2) fun i h hs=>by obtain ⟨o,e,_⟩:=hs.1;exact ⟨o,e⟩)
theorem sO {V:Heap}(i:Nat)(v:Value)(d:AV)(hv:SignAt x i v)(h:(x.cps.toList.map fun c=>AV.str ⟨#[c]⟩)[i]? =some d):Den V v d:=by
 obtain ⟨c,u,hc,rfl⟩:=hv;rw [List.getElem?_map,Array.getElem?_toList,hc] at h;exact Option.some.inj h▸ .str _ _
theorem aHt (hh:A.handled=none)(hx:Den (hide s.heap M) y (.str x))(q:aHr prog w A M s (x.cps.toList.map fun c=> .str ⟨#[c]⟩) Q):wpAny (model prog w) A (pyIter y) Q E s:=
 hx.strE fun t e=>by
  subst e
  rcases ha:x.cps.all (· <128) with _ | _
  ·exact wpAny_pyIter_wide ha (aNm q (by simp) (Walks.strWide (prog:=prog) (w:=w) hh s.heap.objs.size x t) ⟨_,Heap.get?_push_size _ rfl,rfl,rfl⟩ (fun _ h=>nomatch h) sO fun i h hs=>by obtain ⟨o,e,_⟩:=hs;exact ⟨o,e⟩)
  ·exact wpAny_pyIter_ascii ha (aNm q (by simp) (Walks.strAscii (prog:=prog) (w:=w) hh s.heap.objs.size x t) ⟨_,Heap.get?_push_size _ rfl,rfl,rfl⟩ (fun _ h=>nomatch h) sO fun i h hs=>by obtain ⟨o,e,_⟩:=hs;exact ⟨o,e⟩)
theorem aDl {l:List (Int × Int)}(hh:A.handled=none)(hx:Den (hide s.heap M) y (.dict l))(q:aHr prog w A M s (l.map fun p=> .int p.1) Q):wpAny (model prog w) A (pyIter y) Q E s:=
 hx.dictE fun a kvs e hp hi=>by
  subst e;obtain ⟨ep,hat⟩:=(hp.2 prog w).dictAt;have hat':s.heap.DictAt (intKind prog w) a kvs ep:=by obtain ⟨o,es,ho,r⟩:=hat;exact ⟨o,es,(aB.mp ho).2,r⟩
  obtain ⟨o,es,ho,_⟩:=hat;have hn:kvs.length=(l.map fun p=>AV.int p.1).length:=by rw [List.length_map,hi.length]
  exact wpAny_pyIter_dict (knd:=intKind prog w) hp.1 hat' (aNm q hn (Walks.dictKeys (prog:=prog) (w:=w) (knd:=intKind prog w) hh s.heap.objs.size a (Nat.ne_of_lt (Heap.lt_size (aB.mp ho).2)) kvs ep) ⟨⟨_,Heap.get?_push_size _ rfl,rfl,rfl⟩,hat'.push _⟩
   (fun b hb=>List.mem_singleton.mp hb▸⟨_,ho⟩) (fun i v d h1 h2=>by
    obtain ⟨k,x,hk,hv⟩:=h1;obtain ⟨t,rfl⟩:=Value.isInt_shape hv;rw [List.getElem?_map] at h2;refine kJ h2 fun p hp2 e=> ?_
    rw [<- e,<-hi.keys hk hp2]; exact .int _ _) fun i h hs=>by obtain ⟨o,e,_⟩:=hs.1;exact ⟨o,e⟩)
theorem pI {a b c:Int}(hh:A.handled=none)(hx:Den (hide s.heap M) y (.range a b c))(hs:Builtin.Range.small a b c=true)(hsz:Builtin.Range.rangeSize a b c=(n:Int))(q:aHr prog w A M s ((List.range n).map fun (i:Nat)=> .int (a+(i:Int)*c)) Q):wpAny (model prog w) A (pyIter y) Q E s:=by
 cases hx with
 | range hr=>exact wpAny_pyIter_range (aB.mp hr).2 hs (aDj hh q hsz)
theorem dU (hh:A.handled=none){x:AV}(e:bL x=some items):Den (hide s.heap M) y x->aHr prog w A M s items Q->wpAny (model prog w) A (pyIter y) Q E s:=
 aOj (C:=fun x items=>Den (hide s.heap M) y x->aHr prog w A M s items Q->wpAny (model prog w) A (pyIter y) Q E s) e (fun l=>aDk hh) (fun l=>aHs hh)
  (fun a b ha hb hx=>pI hh hx (small_one (by have:=eD ha;exact jil this.1 rfl) (by have:=eD ha;exact ijt this.2 rfl) (by have:=eD hb;exact jil this.1 rfl) (by have:=eD hb;exact ijt this.2 rfl)) (by rw [rangeSize_one]; split <;> lia))
  (fun a b ha hb hx=>pI hh hx (aAu (by have:=eD ha;exact jil this.1 rfl) (by have:=eD ha;exact ijt this.2 rfl) (by have:=eD hb;exact jil this.1 rfl) (by have:=eD hb;exact ijt this.2 rfl)) (by rw [iD]; split <;> lia))
  (fun x=>aHt hh) fun l _=>aDl hh
end
section
set_option genInjectivity false
set_option genSizeOfSpec false
structure Eg where
 prog:Program
 w:World
 Sta:Heap->Prop
 mg:Str->Option Value
 mb:Str->Option Value
 cf:CallF
 d:Nat
 S:aNl Sta mg mb
 C:aLh prog w Sta mg cf d
structure Fr where
 sc:Scope
 env:Env
 ρ:Loc
 A:Around
 M:List Addr
structure Ok (g:Eg)(f:Fr)(s:Shared):Prop where
 env:vL f.sc f.env
 room:cW f.A g.d
 cx:Cx g.Sta f.M f.env f.ρ s.heap
 ht:0<s.toks
variable {g:Eg}{f:Fr}
theorem Ok.kept (o:Ok g f s)(k:Kp s s')(ht:0<s'.toks):Ok g f s':=⟨o.env,o.room,o.cx.kp g.S k,ht⟩
theorem Ok.den (o:Ok g f s)(k:Kp s s')(d:Den (hide s.heap f.M) y v):Den (hide s'.heap f.M) y v:=k.den o.cx.tabs d
theorem Ok.newer (o:Ok g f s)(k:Kp s s')(h:∀q,y= .ref q->s'.heap.get? q=none):∀q,y= .ref q->s.heap.get? q=none:=fun q e=>k.none (g.S.zok _ o.cx.sta) (h q e)
theorem Ok.u300 (o:Ok g f s):f.A.units+300<9900:=by have:=o.room.units;lia
def Run {α:Type}(g:Eg)(f:Fr)(t:Sem α)(P:Heap->α->Prop):Prop:=
 ∀(s:Shared) (E:Value->Shared->Prop) (Q:α->Shared->Prop),Ok g f s->(∀ y s',Ok g f s'->P s'.heap y->Kp s s'->Q y s')->wpAny (model g.prog g.w) f.A t Q E s
def Ev (g:Eg)(f:Fr)(e:Expr)(v:AV):Prop:=Run g f (eval e f.env) fun h y=>Den (hide h f.M) y v
def Evs (g:Eg)(f:Fr)(es:List Expr)(vs:List AV):Prop:=∀pos,Run g f (spliced (backTo pos (starEach es f.env))) fun h ys=>bI (hide h f.M) ys vs
def EvB (g:Eg)(f:Fr)(t:Sem Bool)(b:Bool):Prop:=Run g f t fun _ y=>y=b
theorem use {t:Sem Value}(o:Ok g f s)(h:wpAny (model g.prog g.w) f.A t (PE f.M s v) E s)(k:∀y s',Ok g f s'->Den (hide s'.heap f.M) y v->Kp s s'->Q y s'):wpAny (model g.prog g.w) f.A t Q E s:=
 sG o.ht h (fun y s' ht p=>k y s' (o.kept p.2.kp ht) p.1 p.2.kp) fun _ _ x=>x
noncomputable def odd:Expr->Bool
 | .Starred _ _=>true
 | .Set _ _ _=>true
 | _=>false
theorem dW {rest:List Expr}(he:odd e=false):starEach (e::rest) env=(false,eval e env)::starEach rest env:=by
 rcases e <;> first | rfl | exact no4 he
theorem sP {op:CmpOp}(he:odd e=false):behindInMarks op e=false:=by
 cases e <;> first | rfl | cases he
theorem sQ (he:odd e=false)(x:Value):foldedSetIterable e env x=pure x:=by
 cases e <;> first | rfl | cases he
theorem fH {ρ:Loc}(h:evE cf n sc ρ e=some v):odd e=false:=by
 cases e <;> first | rfl | (cases n <;> cases h)
theorem sR {ρ:Loc}(h:evE cf n sc ρ e=some v)(x:Value):foldedSetIterable e env x=pure x:=sQ (fH h) x
theorem mK {ρ:Loc}{P:Prop}(h:eC cf n sc ρ (e::es)=some vs)(q:∀m v r,n=m+1->evE cf m sc ρ e=some v->eC cf m sc ρ es=some r->v::r=vs->P):P:=by
 cases n with
 | zero=>cases h
 | succ m=>exact aL h fun v hv h=>aL h fun r hr h=>q m v r rfl hv hr (Option.some.inj h)
theorem qS {ρ:Loc}:∀{es:List Expr} {vs:List AV} {n:Nat},eC cf n sc ρ es=some vs->∀pos,(backTo pos (starEach es env)).any (·.1)=false
 | [],_,_,_,_=>rfl
 | e::es,vs,n,h,pos=>mK h fun m v r _ hv hr _=>by
  rw [dW (fH hv)];exact qS (es:=es) hr pos
theorem fJ {ρ:Loc}:∀{es:List Expr} {vs:List AV} {n:Nat},eC cf n sc ρ es=some vs->vs.length=es.length
 | [],_,n,h=>by cases n <;> cases h;rfl
 | e::es,vs,n,h=>mK h fun m v r _ hv hr e=>e▸congrArg (· +1) (fJ hr)
theorem Ev.const {k:Const}{x:Nat}(h:aDa k=some v):Ev g f (.Constant k x p) v:=fun s E Q o q=>by
 refine use (s:=s) o ?_ q
 rcases k with _ | _ | _ | _ | _ | _ | _ | _ <;> first | exact no1 h | obtain rfl:=Option.some.inj h
 ·exact fun _ _ _=>⟨.none,eU.refl s⟩
 ·exact wpAny_Constant_bool .bool
 ·exact wpAny_Constant_int .int
 ·exact wpAny_Constant_str .str
theorem Ev.name (hd:¬(x==("__debug__":Str))=true)(h:f.ρ x=some v):Ev g f (.Name x p) v:=fun s E Q o q=>by
 obtain ⟨u,hb,hu⟩:=o.cx.vars _ _ h;exact dB o.cx.kind hb (Bool.eq_false_iff.mpr hd) (q _ _ o hu (Kp.refl s))
def EvF (g:Eg)(f:Fr)(e:Expr)(v:AV):Prop:=
 ∀(s:Shared) (E:Value->Shared->Prop) (Q:Value->Shared->Prop),Ok g f s->(∀ y s',Ok g f s'->Den (hide s'.heap f.M) y v->Kp s s'->(∀ q,y= .ref q->s.heap.get? q=none)->Q y s')->wpAny (model g.prog g.w) f.A (eval e f.env) Q E s
theorem EvF.ev (h:EvF g f e v):Ev g f e v:=fun s E Q o q=>h s E Q o fun y s' o' d k _=>q y s' o' d k
theorem EvF.bin {l r:Expr}{op:Operator}{a b:AV}(hl:Ev g f l a)(hr:Ev g f r b)(h:cO op a b=some v):EvF g f (.BinOp l op r p) v:=fun s E Q o q=>
 wpAny_BinOp (hl s E _ o fun x s'1 o'1 d'1 k'1=>hr s'1 E _ o'1 fun y s'2 o'2 d'2 k'2=>
  sG o'2.ht (vH o'2.cx.lt h (o'1.den k'2 d'1) d'2) (fun z s'3 t'3 h'3=>q z s'3 (o'2.kept h'3.1.2.kp t'3) h'3.1.1 (k'1.trans (k'2.trans h'3.1.2.kp)) (o.newer (k'1.trans k'2) h'3.2)) fun _ _ x=>x)
theorem Ev.minus {i:Int}(h:Ev g f e (.int i)):Ev g f (.UnaryOp .USub e p) (.int (-i)):=fun s E Q o q=>
 wpAny_UnaryOp (h s E _ o fun x s'1 o'1 d'1 k'1=>by
  refine d'1.intE fun t e=> ?_;subst e
  exact use o'1 (neg_int .int) fun y s'2 o'2 d'2 k'2=>q y s'2 o'2 d'2 (k'1.trans k'2))
theorem Ev.compare {l r:Expr}{op:CmpOp}{a b:AV}{z:Bool}(hl:Ev g f l a)(hr:Ev g f r b)(h:cmp op a b=some z)(hq:odd r=false):Ev g f (.Compare l [op] [r] p) (.bool z):=fun s E Q o q=>
 wpAny_Compare1 (hl s E _ o fun x s'1 o'1 d'1 k'1=>hr s'1 E _ o'1 fun y s'2 o'2 d'2 k'2=>
  use o'2 (sJ o'2.u300 h (o'1.den k'2 d'1) d'2) fun y s'3 o3 d'3 k'3=>q y s'3 o3 d'3 (k'1.trans (k'2.trans k'3))) (sP hq)
theorem aJ2 (slice:Expr)(o i:Value):∃ops,subscripted slice false o i=operate ops (getItem o i):=by
 rcases slice with _ | _ | _ | _ | _ | _ | _ | _ | _ | _ | _ | _ | _ | _ | _ | _ | _ | _ | _ | _ | _ | _ | _ | _ | _ | _ | ⟨_,_,_ | _,_⟩ <;> exact ⟨_,rfl⟩
theorem vM {value slice:Expr}
  (h:wpAny (model prog w) A (eval value env) (fun o s'1=>wpAny (model prog w) A (eval slice env) (fun i s'2=>∃T id,s'2.TypeIs o T/\typeLookup (.type T) "__getitem__"=pure (some (.builtin id))/\wpAny (model prog w) A (getItem o i) Q E s'2) E s'1) E s):
  wpAny (model prog w) A (eval (.Subscript value slice pos) env) Q E s:=by
 rw [eval_Subscript];refine wpAny_bind (wpAny_mono h (fun o s'1 h'1=>wpAny_bind (wpAny_holding (wpAny_mono h'1 (fun i s'2 h'2=>wpAny_bind (wpAny_standAt ?_)) fun _ _ x=>x))) fun _ _ x=>x);obtain ⟨T,id,hT,hl,hg⟩:=h'2;refine wpAny_bind ?_;rw [getitemInPython_of_ne hT.not_modules];refine wpAny_bind (wpAny_specialOf hT hl (wpAny_pure ?_));obtain ⟨ops,ho⟩:=aJ2 slice o i;rw [ho];exact wpAny_bind (wpAny_operating (wpAny_mono hg (fun r s'3 h'3=>wpAny_bind (wpAny_letTemporaryGo (wpAny_pure h'3))) fun _ _ x=>x))
theorem aLi {M:List Addr}{k:Int}{vs:Array Value}(h0:0<=k)(h:dZ l k=some v)(hp:(hide s.heap M).IsTuple a vs)(hd:bI (hide s.heap M) vs.toList l):
  wpAny (model prog w) A (getItem (.ref a) (.int k t)) (PE M s v) E s:=by
 have hl:=hd.1;rw [Array.length_toList] at hl;unfold dZ at h;refine cK h fun hn h=> ?_
 rw [if_pos h0] at h;refine cK h fun h1 h=> ?_
 obtain ⟨y,hy,hv⟩:=hd.get h;rw [Array.getElem?_toList] at hy;exact getItem_tuple (eV hp) (by lia) (by lia) (seqIndex_of h0 (by lia)) hy ⟨hv,eU.refl s⟩
theorem aSd {a b:AV}{C:AV->AV->AV->Prop}(h:lX a b=some v)(q1:∀l k v,dZ l k=some v->C (.list l) (.int k) v)(q2:∀l k v,0<=k->dZ l k=some v->C (.tup l) (.int k) v)(q3:∀l k n,l.lookup k=some n->C (.dict l) (.int k) (.int n)):C a b v:=by
 rcases a with _ | _ | _ | _ | l | l | l | _ | _ | _ <;> first | exact no1 h | (rcases b with _ | _ | k | _ | _ | _ | _ | _ | _ | _ <;> first | exact no1 h | skip)
 ·exact q1 l k v h
 ·exact cK h fun h0 h=>q2 l k v h0 h
 ·exact kJ h fun n hn e=>e▸q3 l k n hn
theorem aDm {M:List Addr}{a b:AV}{x:Value}(h:lX a b=some v):Den (hide s.heap M) x a->Den (hide s.heap M) y b->(wpAny (model prog w) A (getItem x y) (PE M s v) E s->wpAny (model prog w) A (getItem x y) Q E s)->
  ∃T id,s.TypeIs x T/\typeLookup (.type T) "__getitem__"=pure (some (.builtin id))/\wpAny (model prog w) A (getItem x y) Q E s:=
 aSd (C:=fun a b v=>Den (hide s.heap M) x a->Den (hide s.heap M) y b->(wpAny (model prog w) A (getItem x y) (PE M s v) E s->wpAny (model prog w) A (getItem x y) Q E s)->∃T id,s.TypeIs x T/\typeLookup (.type T) "__getitem__"=pure (some (.builtin id))/\wpAny (model prog w) A (getItem x y) Q E s) h
 (fun l k v g hx hy q=>hx.listE fun a vs e hp hd=>hy.intE fun t e'=>by
  subst e e';exact ⟨"list",_,(aR hp).isList.typeIs,list_getitem_lookup,q (aAq g hp hd)⟩)
 (fun l k v h0 g hx hy q=>hx.tupE fun a vs e hp hd=>hy.intE fun t e'=>by
  subst e e';exact ⟨"tuple",_,Heap.IsTuple.typeIs (eV hp),slot_tuple_getitem.lookup,q (aLi h0 g hp hd)⟩)
 fun l k n hn hx hy q=>hx.dictE fun a kvs e hp hi=>hy.intE fun t e'=>by
  subst e e';exact ⟨"dict",_,(aP.dict hp (prog:=prog) (w:=w)).typeIs,slot_dict_getitem.lookup,q (oS hn hp hi)⟩
theorem Ev.item {i:Expr}{a b:AV}(he:Ev g f e a)(hi:Ev g f i b)(h:lX a b=some v):Ev g f (.Subscript e i p) v:=fun s E Q o q=>
 vM (he s E _ o fun x s'1 o'1 d'1 k'1=>hi s'1 E _ o'1 fun y s'2 o'2 d'2 k'2=>
  aDm h (o'1.den k'2 d'1) d'2 fun hg=>use o'2 hg fun y s'3 o3 d'3 k'3=>q y s'3 o3 d'3 (k'1.trans (k'2.trans k'3)))
theorem aQs {a b:AV}{P:Prop}(h:aDd a b=some v)(q:∀l k,a= .list l->b= .int k->(0<=k/\l.length<=2^20)-> .list (l.take k.toNat)=v->P):P:=by
 rcases a with _ | _ | _ | _ | l | _ | _ | _ | _ | _ <;> first | exact no1 h | skip
 rcases b with _ | _ | k | _ | _ | _ | _ | _ | _ | _ <;> first | exact no1 h | skip
 exact cK h fun hk h=>q l k rfl rfl hk (Option.some.inj h)
theorem Ev.slice {hi:Expr}{a b:AV}(he:Ev g f (.Name x xp) a)(hh:Ev g f hi b)(h:aDd a b=some v):Ev g f (.Subscript (.Name x xp) (.Slice none (some hi) none p) p') v:=fun s E Q o q=>by
 refine aQs h fun l k e1 e2 hk e3=> ?_
 subst e1 e2 e3;refine wpAny_Subscript_list_slice (he s E _ o fun y s'1 o'1 d'1 k'1=> ?_);rw [evalPart_none,evalPart_some];refine wpAny_pure (hh s'1 E _ o'1 fun z s'2 o'2 d'2 k'2=> ?_);refine d'2.intE fun t e=> ?_;subst e;refine (o'1.den k'2 d'1).listE fun a vs e hp hd=> ?_;subst e
 have hl:=hd.1;rw [Array.length_toList] at hl;exact ⟨a,vs,none,some _,rfl,(aR hp).isList,by rw [sizeLine_eq]; exact lit (hl▸hk.2) rfl,.none,.int _ _,have p:=aAr hk.1 o'2.cx.lt hd;q _ _ (o'2.kept p.2.kp o'2.ht) p.1 (k'1.trans (k'2.trans p.2.kp))⟩
end
section
variable {g:Eg}{f:Fr}
def qT (f:Fr)(es:List Expr):Prop:=∀pos,(backTo pos (starEach es f.env)).any (·.1)=false
theorem EvF.list (hn:es.length<=1000)(hl:vs.length=es.length)(h:Evs g f es vs):EvF g f (.List es p) (.list vs):=fun s E Q o q=>by
 refine wpAny_List (h _ s E _ o fun ys s'1 o'1 d'1 k'1=> ?_);have p:=gR o'1.cx.lt (by simpa using d'1) 0;exact ⟨by rw [d'1.1,hl,sizeLine_eq]; exact lit hn rfl,q _ _ (o'1.kept p.2.kp o'1.ht) p.1 (k'1.trans p.2.kp) (o.newer k'1 fun a e=>Value.ref.inj e▸bG _)⟩
theorem Ev.tuple (hn:es.length<=1000)(hl:vs.length=es.length)(h:Evs g f es vs):Ev g f (.Tuple es n p) (.tup vs):=fun s E Q o q=>by
 refine wpAny_Tuple (h _ s E _ o fun ys s'1 o'1 d'1 k'1=> ?_);have p:=mB o'1.cx.lt (by simpa using d'1) 0;exact ⟨by rw [d'1.1,hl,sizeLine_eq]; exact lit hn rfl,q _ _ (o'1.kept p.2.kp o'1.ht) p.1 (k'1.trans p.2.kp)⟩
theorem aLj {u:Value}(o:Ok g f s)(hx:f.sc.names.lookup x=some .globalImplicit)(hd:¬(x==("__debug__":Str))=true)(hg:g.mg x=none)(hb:g.mb x=some u)(q:Q u s):
  wpAny (model g.prog g.w) f.A (eval (.Name x p) f.env) Q E s:=
 Name_function_global o.cx.kind (o.env.glob x hx) (loadGlobal_builtin (env:=f.env) (o.cx.globals▸g.S.g _ o.cx.sta) hg (o.cx.builtins▸g.S.b _ o.cx.sta) hb q) (Bool.eq_false_iff.mpr hd)
theorem aOk {u:Value}(o:Ok g f s)(hx:f.sc.names.lookup x=some .globalImplicit)(hd:¬(x==("__debug__":Str))=true)(hg:g.mg x=some u)(q:Q u s):
  wpAny (model g.prog g.w) f.A (eval (.Name x p) f.env) Q E s:=
 Name_function_global o.cx.kind (o.env.glob x hx) (loadGlobal_global (env:=f.env) (o.cx.globals▸g.S.g _ o.cx.sta) hg q) (Bool.eq_false_iff.mpr hd)
theorem aK {f:Value}{args:List (Bool × Sem Value)}{Q:Args->Shared->Prop}(ha:args.any (·.1)=false)(h:wpAny (model prog w) A (spliced args) (fun vs s'=>Q ⟨vs,[]⟩ s') E s):
  wpAny (model prog w) A (evalArgs f true args []) Q E s:=by
 rcases args with _ | ⟨⟨b,x⟩,r⟩
 ·unfold evalArgs;show wpAny _ A (spliced [] >>= _) Q E s;exact wpAny_bind (wpAny_mono h (fun vs s' h'=>wpAny_holding (wpAny_bind (wpAny_pure (wpAny_bind (wpAny_pure (wpAny_pure h')))))) fun _ _ x=>x)
 ·rcases b with _ | _
  ·exact evalArgs_plain h
  ·exact no4 ha
theorem fZ (h:wpAny (model g.prog g.w) f.A (eval (.Name x p) f.env) (fun u s'=>wpAny (model g.prog g.w) f.A (callWith q u [] (backTo q (starEach as f.env)) []) Q E s') E s):
  wpAny (model g.prog g.w) f.A (eval (.Call (.Name x p) as [] q) f.env) Q E s:=by
 show wpAny _ f.A (eval (.Name x p) f.env >>= fun u=>callWith q u [] (backTo q (starEach as f.env)) []) _ _ s;exact wpAny_bind h
theorem aOl (b:Eg)(h:(x,id)∈qR):b.mg x=none/\b.mb x=some (.builtin id):=b.S.bi x id h
theorem aHu (e:aI x vs=some v):∃id,(x,id)∈qR/\∀(s:Shared) (E:Value->Shared->Prop) (ys:List Value),Ok g f s->bI (hide s.heap f.M) ys vs->wpAny (model g.prog g.w) f.A (call (.builtin id) ys) (PE f.M s v) E s:=
 kZ e (fun e h=>⟨_,e▸ .head _,fun _ _ _ _ d=>sK h d⟩) fun _ e=>
 kZ e (fun e h=>⟨_,e▸ .tail _ (.head _),fun _ _ _ _ d=>aDe h d⟩) fun _ e=>
 kZ e (fun e h=>⟨_,e▸ .tail _ (.tail _ (.head _)),fun _ _ _ o d=>aDf o.room.handled h d⟩) fun _ e=>
 kZ e (fun e h=>⟨_,e▸ .tail _ (.tail _ (.tail _ (.head _))),fun _ _ _ o d=>aDg o.room.handled h d⟩) fun _ e=>
 kZ e (fun e h=>⟨_,e▸ .tail _ (.tail _ (.tail _ (.tail _ (.head _)))),fun _ _ _ o d=>aDh o.room.handled h d⟩) fun _ e=>
 kZ e (fun e h=>⟨_,e▸ .tail _ (.tail _ (.tail _ (.tail _ (.tail _ (.head _))))),fun _ _ _ o d=>sM o.cx.lt h d⟩) fun _ e=>no1 e
theorem Ev.bi (hx:f.sc.names.lookup x=some .globalImplicit)(hd:¬(x==("__debug__":Str))=true)(hp:qT f as)(h:Evs g f as vs)(e:aI x vs=some v):Ev g f (.Call (.Name x p) as [] q) v:=fun s E Q o k=>by
 obtain ⟨id,hm,hc⟩:=aHu (g:=g) (f:=f) e;exact fZ (aLj o hx hd (aOl g hm).1 (aOl g hm).2 (callWith_builtin (hp q) (aK (hp q) (h q s E _ o fun ys s'1 o'1 d'1 k'1=>use o'1 (hc s'1 E ys o'1 d'1) fun y s'2 o'2 d'2 k'2=>k y s'2 o'2 d'2 (k'1.trans k'2)))))
theorem mL {M:List Addr}(hlt:∀a∈M,∃o,s.heap.get? a=some o)(a b c:Int)(t u v tk:Tok):PE M s (.range a b c) (.ref s.heap.objs.size) {s with heap:=s.heap.push {cls:= .type "range",data:= .fields #[.int a t,.int b u,.int c v]},toks:=tk}:=
 ⟨.range (aB.mpr ⟨fun q=>by obtain ⟨_,e⟩:=hlt _ q;exact Nat.lt_irrefl _ (Heap.lt_size e),Heap.get?_push_size _ rfl⟩),.of fun _ _ e=>Heap.get?_push_of_some _ e⟩
theorem aOm {C:List AV->AV->Prop}(e:lY vs=some v)(q1:∀b,C [.int b] (.range 0 b 1))(q2:∀a b,C [.int a,.int b] (.range a b 1))(q3:∀a b,C [.int a,.int b,.int (-1)] (.range a b (-1))):C vs v:=by
 rcases vs with _ | ⟨a,vs⟩
 ·exact no1 e
 rcases vs with _ | ⟨b,vs⟩
 ·rcases a with _ | _ | a | _ | _ | _ | _ | _ | _ | _ <;> first | exact no1 e | exact cK e fun _ e=>Option.some.inj e▸q1 a
 rcases a with _ | _ | a | _ | _ | _ | _ | _ | _ | _ <;> first | exact no1 e | skip
 rcases vs with _ | ⟨c,vs⟩
 ·rcases b with _ | _ | b | _ | _ | _ | _ | _ | _ | _ <;> first | exact no1 e | exact cK e fun _ e=>Option.some.inj e▸q2 a b
 rcases b with _ | _ | b | _ | _ | _ | _ | _ | _ | _ <;> first | exact no1 e | skip
 rcases c with _ | _ | c | _ | _ | _ | _ | _ | _ | _ <;> first | exact no1 e | skip
 rcases vs with _ | _
 ·exact cK e fun h e=>Option.some.inj e▸h.2.2▸q3 a b
 ·exact no1 e
theorem vN {M:List Addr}(hlt:∀a∈M,∃o,s.heap.get? a=some o)(e:lY vs=some v):bI (hide s.heap M) ys vs->wpAny (model prog w) A (call (.type "range") ys) (PE M s v) E s:=
 aOm (C:=fun vs v=>bI (hide s.heap M) ys vs->wpAny (model prog w) A (call (.type "range") ys) (PE M s v) E s) e
  (fun b h=>h.int1 fun t e=>by subst e;exact call_range_1 (mL hlt ..))
  (fun a b h=>h.int2 fun t u e=>by subst e;exact call_range_2 (mL hlt ..))
  (fun a b h=>h.int3 fun t u v e=>by subst e;exact call_range_3 (by decide) (mL hlt ..) (.inl (PyProof.noPylong_small (by decide))))
theorem aHv (e:iK x vs=some v):∃T,(x,T)∈tyTable/\∀(s:Shared) (E:Value->Shared->Prop) (ys:List Value),Ok g f s->bI (hide s.heap f.M) ys vs->wpAny (model g.prog g.w) f.A (call (.type T) ys) (PE f.M s v) E s:=
 kZ e (fun e h=>⟨_,e▸ .head _,fun _ _ _ o d=>vN o.cx.lt h d⟩) fun _ e=>
 kZ e (fun e h=>⟨_,e▸ .tail _ (.head _),fun _ _ _ o d=>vI o.cx.lt h d⟩) fun _ e=>
 kZ e (fun e h=>⟨_,e▸ .tail _ (.tail _ (.head _)),fun s _ _ o d=>wpAny_mono (mJ o.cx.lt (g.S.sm _ o.cx.sta) h d) (fun _ _ x=>x.1) fun _ _ x=>x⟩) fun _ e=>no1 e
theorem Ev.ty (hx:f.sc.names.lookup x=some .globalImplicit)(hd:¬(x==("__debug__":Str))=true)(hp:qT f as)(h:Evs g f as vs)(e:iK x vs=some v):Ev g f (.Call (.Name x p) as [] q) v:=fun s E Q o k=>by
 obtain ⟨T,hm,hc⟩:=aHv (g:=g) (f:=f) e;exact fZ (aLj o hx hd (g.S.ty _ _ hm).1 (g.S.ty _ _ hm).2 (PySem.callWith_type (hp q) (aK (hp q) (h q s E _ o fun ys s'1 o'1 d'1 k'1=>use o'1 (hc s'1 E ys o'1 d'1) fun y s'2 o'2 d'2 k'2=>k y s'2 o'2 d'2 (k'1.trans k'2)))))
theorem EvF.dict (hx:f.sc.names.lookup (ofString "dict")=some .globalImplicit)(hp:qT f as)(h:Evs g f as vs)(e:aAo vs=some v):EvF g f (.Call (.Name "dict" p) as [] q) v:=fun s E Q o k=>by
 have hm:(("dict":Str),"dict")∈tyTable:= .tail _ (.tail _ (.head _));refine fZ (aLj o hx (by decide) (g.S.ty _ _ hm).1 (g.S.ty _ _ hm).2 (PySem.callWith_type (hp q) (aK (hp q) (h q s E _ o fun ys s'1 o'1 d'1 k'1=> ?_))));exact sG o'1.ht (mJ o'1.cx.lt (g.S.sm _ o'1.cx.sta) e d'1) (fun y s'2 t'2 h'2=>k y s'2 (o'1.kept h'2.1.2.kp t'2) h'2.1.1 (k'1.trans h'2.1.2.kp) (o.newer k'1 h'2.2)) fun _ _ x=>x
theorem bB.use (c:bB g.prog g.w g.Sta g.d a vs v)(o:Ok g f s)(d:bI (hide s.heap f.M) ys vs)(k:∀y s',Ok g f s'->Den (hide s'.heap f.M) y v->Kp s s'->Q y s'):wpAny (model g.prog g.w) f.A (call (.ref a) ys) Q E s:=
 sG o.ht (c _ _ _ _ _ o.room o.cx.sta o.cx.tabs o.cx.lt o.ht d) (fun y s' ht p=>k y s' (o.kept p.2 ht) p.1 p.2) fun _ _ x=>x
theorem Ev.fn (hx:f.sc.names.lookup x=some .globalImplicit)(hd:¬(x==("__debug__":Str))=true)(hp:qT f as)(h:Evs g f as vs)(e:g.cf.fn x vs=some v):Ev g f (.Call (.Name x p) as [] q) v:=fun s E Q o k=>by
 obtain ⟨a,ob,fd,hg,hod,hat,hc⟩:=g.C.fn x vs _ e;exact fZ (aOk o hx hd hg (callWith_function (o:=ob) (fd:=fd) (aK (hp q) (h q s E _ o fun ys s'1 o'1 d'1 k'1=>⟨⟨hat _ o'1.cx.sta,hod⟩,hc.use o'1 d'1 fun y s'2 o'2 d'2 k'2=>k y s'2 o'2 d'2 (k'1.trans k'2)⟩))))
theorem Ev.cl (hx:f.sc.names.lookup x=some .globalImplicit)(hd:¬(x==("__debug__":Str))=true)(he:odd e=false)(hp:qT f as)(h:Evs g f (e::as) vs)(hv:g.cf.cl x vs=some v):Ev g f (.Call (.Name x p) (e::as) [] q) v:=fun s E Q o k=>by
 obtain ⟨hg,_,hc⟩:=g.C.cl x vs v hv;obtain ⟨N,mN,hX,_⟩:=g.C.cls;exact fZ (aOk o hx hd hg (callWith_cls (hX _ o.cx.sta) (h q s E _ o fun ys s'1 o'1 d'1 k'1=>⟨fun b o e=>k'1.get b o (aB.mp e).1 (aB.mp e).2,hc.use o'1 d'1 fun y s'2 o'2 d'2 k'2=>k y s'2 o'2 d'2 (k'1.trans k'2)⟩) (dW he) (hp q)))
theorem iO (h:bY o=true)(n:Str)(t:Sem Value):attributeBase o n env t=t:=by
 rcases o with _ | _ | _ | _ | _ | _ | _ | _ | _ | _ | _ | _ | _ | _ | _ | _ | ⟨o,as,ks,_⟩ | _ | _ | _ | _ | _ | _ | _ | _ | _ | _ <;> first | rfl | skip
 rcases o with _ | _ | _ | _ | _ | _ | _ | _ | _ | _ | _ | _ | _ | _ | _ | _ | _ | _ | _ | _ | _ | _ | _ | _ | _ | _ | _ <;> first | rfl | skip
 rcases as with _ | _ <;> first | rfl | (rcases ks with _ | _ <;> first | rfl | exact no3 h)
theorem sS (hs:(backTo pos (starEach args env)).any (·.1)=false)(hlen:args.length<30):methodCallForm (args.length+([]:List Keyword).length) (backTo pos (starEach args env)) (backToKw pos (keywordEach [] env))=true:=by
 have h1:(backTo pos (starEach args env)).all (!·.1)=true:=List.all_eq_true.mpr fun x hx=>by rw [Bool.eq_false_iff.mpr (List.any_eq_false.mp hs x hx)]; rfl
 unfold methodCallForm;rw [h1];exact decide_eq_true hlen
theorem aHw (hline:(ap.endLine==pos.line)=true):methodCallPos true o env ap pos=pure pos:=by unfold methodCallPos;rw [hline]; rfl
theorem bM {name:Str}(hb:bY o=true)(hline:(ap.endLine==pos.line)=true)(hstar:(backTo pos (starEach args env)).any (·.1)=false)(hlen:args.length<30)
  (h:wpAny (model prog w) A (eval o env) (fun ov s'1=>∀pl,wpAny (model prog w) A (getMethod ov name pl) (fun fx s'2=>wpAny (model prog w) A (callWith pos fx.1 fx.2 (backTo pos (starEach args env)) []) Q E s'2) E s'1) E s):
  wpAny (model prog w) A (eval (.Call (.Attribute o name ap) args [] pos) env) Q E s:=by
 rw [arm_eval_Call,iO hb];refine wpAny_bind (wpAny_mono h (fun ov s'1 h'1=> ?_) fun _ _ e=>e);refine wpAny_bind (wpAny_standAt ?_);unfold methodCall;rw [sS hstar hlen];refine wpAny_bind (wpAny_holding ?_);unfold calleeOf;refine wpAny_mono (h'1 _) (fun fx s'2 h'2=> ?_) fun _ _ e=>e
 exact wpAny_bind (wpAny_of_eq (aHw hline) h'2)
theorem dX {M:List Addr}(X:ClsAt (hide h M) C N mN):ClsAt h C N mN:=X.keeps fun _ _ e=>(aB.mp e).2
theorem Ev.attr (hb:bY e=true)(he:Ev g f e (.inst g.cf.c fs))(ha:x∈g.cf.ats)(h:fs.lookup x=some v):Ev g f (.Attribute e x p) v:=fun s E Q o k=>by
 obtain ⟨N,mN,hX,hga,hgt,hat,_⟩:=g.C.cls;rw [arm_eval_Attribute,iO hb];refine wpAny_bind (he s E _ o fun y s'1 o'1 d'1 k'1=>d'1.instE fun xa mA e hI hs hd=> ?_);obtain ⟨u,hu⟩:=Option.isSome_iff_exists.mp (show (mA x).isSome=true by rw [hs,h]; rfl);have d:=hd x u v hu h;subst e;exact wpAny_bind (wpAny_standAt (wpAny_bind (wpAny_holding (jX (dX (hX _ o'1.cx.sta)) hga (hat x ha).1 (hat x ha).2 (hI.keeps (xZ s'1 f.M)) hu d.handed (wpAny_bind (wpAny_letTemporaryGo (wpAny_pure (k u _ (o'1.kept Kp.toks (Nat.succ_pos _)) d (k'1.trans Kp.toks)))))))))
theorem Ev.meth {m:Str}(hb:bY o=true)(hl:(ap.endLine==p.line)=true)(hn:as.length<30)(hp:qT f as)(ho:Ev g f o (.inst g.cf.c fs))(hf:(fs.lookup m).isNone=true)(h:Evs g f as vs)(e:g.cf.me m (.inst g.cf.c fs::vs)=some v):
  Ev g f (.Call (.Attribute o m ap) as [] p) v:=fun s E Q ok k=>by
 obtain ⟨N,mN,hX,hga,hgt,_,hme⟩:=g.C.cls;obtain ⟨fa,y,of,fd,hfa,hB,hfc,hfd,hfo,hct⟩:=hme m _ v e;refine bM hb hl (hp p) hn (ho s E _ ok fun y1 s'1 o'1 d'1 k'1 pl=>d'1.instE fun xa mA e hI hs hd=> ?_);have hmn:mA m=none:=Option.not_isSome_iff_eq_none.mp (by rw [hs,Option.isNone_iff_eq_none.mp hf]; exact Bool.false_ne_true)
 clear hs hd
 subst e;exact pH (dX (hX _ o'1.cx.sta)) hga hgt hfa (hfo _ o'1.cx.sta) hfc hB (hI.keeps (xZ s'1 f.M)) hmn (callWith_function (o:=of) (fd:=fd) (aK (hp p) (h p s'1 E _ o'1 fun ys s'2 o'2 d'2 k'2=>
  ⟨⟨hfo _ o'2.cx.sta,hfd⟩,hct.use o'2 (.cons (o'1.den k'2 d'1) d'2) fun y s'3 o3 d'3 k'3=>k y s'3 o3 d'3 (k'1.trans (k'2.trans k'3))⟩)))
theorem aHx {C:List Expr->AV->Prop}(h:gQ x as=some v)(q:∀y k1 p1 z k2 p2,(y≠z/\x.length<=2^20/\z.length<=14)->C [.Constant (.str y) k1 p1,.Constant (.str z) k2 p2] (.str (Txt.replace x y z))):C as v:=by
 rcases as with _ | ⟨e,as⟩
 ·exact no1 h
 rcases e with _ | _ | _ | _ | _ | _ | _ | _ | _ | _ | _ | _ | _ | _ | _ | _ | _ | _ | _ | ⟨k,k1,p1⟩ | _ | _ | _ | _ | _ | _ | _ <;> first | exact no1 h | skip
 rcases k with _ | _ | _ | y | _ | _ | _ | _ <;> first | exact no1 h | skip
 rcases as with _ | ⟨e,as⟩
 ·exact no1 h
 rcases e with _ | _ | _ | _ | _ | _ | _ | _ | _ | _ | _ | _ | _ | _ | _ | _ | _ | _ | _ | ⟨k,k2,p2⟩ | _ | _ | _ | _ | _ | _ | _ <;> first | exact no1 h | skip
 rcases k with _ | _ | _ | z | _ | _ | _ | _ <;> first | exact no1 h | skip
 rcases as with _ | _
 ·exact cK h fun c h=>Option.some.inj h▸q _ _ _ _ _ _ c
 ·exact no1 h
theorem Ev.replace (hb:bY o=true)(hl:(ap.endLine==p.line)=true)(hn:as.length<30)(ho:Ev g f o (.str x))(e:gQ x as=some v):Ev g f (.Call (.Attribute o "replace" ap) as [] p) v:=fun s E Q ok k=>
 (aHx (C:=fun as v=>as.length<30->(∀ y s',Ok g f s'->Den (hide s'.heap f.M) y v->Kp s s'->Q y s')->wpAny (model g.prog g.w) f.A (eval (.Call (.Attribute o "replace" ap) as [] p) f.env) Q E s) e fun y k1 p1 z k2 p2 hc hn k=>by
 refine bM hb hl rfl hn (ho s E _ ok fun y1 s'1 o'1 d'1 kk1 pl=>d'1.strE fun t e=> ?_);subst e;refine GM.replace (callWith_builtin rfl (aK rfl (spliced_cons (wpAny_Constant_str (k:=k1) (pos:=p1) (spliced_cons (wpAny_Constant_str (k:=k2) (pos:=p2) (spliced_nil ?_)))))));exact use (o'1.kept Kp.toks (Nat.succ_pos _)) (SC.replaceW (Nat.ne_of_gt o'1.ht) (Nat.succ_ne_zero _) (Nat.ne_of_lt (Nat.lt_succ_self _)) (beq_eq_false_iff_ne.mpr hc.1) hc.2.1 hc.2.2 fun t' k'=>⟨.str _ _,eU.toks⟩) fun y s'2 o'2 d'2 k'2=>k y s'2 o'2 d'2 (kk1.trans (Kp.toks.trans k'2))) hn k
theorem Ev.join (hb:bY o=true)(hl:(ap.endLine==p.line)=true)(hn:as.length<30)(hp:qT f as)(ho:Ev g f o (.str x))(h:Evs g f as vs)(e:aAp x vs=some v):Ev g f (.Call (.Attribute o "join" ap) as [] p) v:=fun s E Q ok k=>by
 refine bM hb hl (hp p) hn (ho s E _ ok fun y1 s'1 o'1 d'1 k'1 pl=>d'1.strE fun t e=> ?_);subst e;exact GM.join (callWith_builtin (hp p) (aK (hp p) (h p s'1 E _ o'1 fun ys s'2 o'2 d'2 k'2=>use o'2 (aAs e d'2) fun y s'3 o3 d'3 k'3=>k y s'3 o3 d'3 (k'1.trans (k'2.trans k'3)))))
theorem Ev.get {l:List (Int × Int)}(hb:bY o=true)(hl:(ap.endLine==p.line)=true)(hn:as.length<30)(hp:qT f as)(ho:Ev g f o (.dict l))(h:Evs g f as vs)(e:aOh l vs=some v):Ev g f (.Call (.Attribute o "get" ap) as [] p) v:=fun s E Q ok k=>by
 refine bM hb hl (hp p) hn (ho s E _ ok fun y1 s'1 o'1 d'1 k'1 pl=>d'1.dictE fun a kvs e hd hi=> ?_);subst e;have hd':=hd.dict (prog:=g.prog) (w:=g.w);exact getMethod_builtin hd'.typeIs PySem.F.plainAttrs_dict PySem.F.slot_dict_get PySem.F.type_dict_get (fun b e=>by obtain ⟨o,_,_,h1,h2,_⟩:=hd';exact Value.ref.inj e▸⟨o,h1,h2.2.1⟩) (callWith_builtin (hp p) (aK (hp p) (h p s'1 E _ o'1 fun ys s'2 o'2 d'2 k'2=>
  use o'2 (aDi e ⟨hd.1,fun p w=>(hd.2 p w).at fun o e=>k'2.hide o'1.cx.tabs _ o e⟩ hi d'2) fun y s'3 o3 d'3 k'3=>k y s'3 o3 d'3 (k'1.trans (k'2.trans k'3)))))
theorem EvF.pairs {k v:Int}{kk vk:Nat}{kp vp:Pos}(he:e= .Dict [some (.Constant (.int k) kk kp)] [.Constant (.int v) vk vp] p):EvF g f e (.dict [(k,v)]):=fun s E Q o q=>by
 have h:=vK (prog:=g.prog) (w:=g.w) (A:=f.A) (E:=E) (M:=f.M) (env:=f.env) (k:=k) (v:=v) (kk:=kk) (vk:=vk) (kp:=kp) (vp:=vp) (p:=p) o.cx.lt (g.S.sm _ o.cx.sta);rw [<- he] at h;exact sG o.ht h (fun y s'2 t'2 h'2=>q y s'2 (o.kept h'2.1.2.kp t'2) h'2.1.1 h'2.1.2.kp h'2.2) fun _ _ x=>x
theorem sU {b:Bool}{P:Prop}(h:truth v=some b)(q:v= .bool b->P):P:=by
 rcases v with _ | _ | _ | _ | _ | _ | _ | _ | _ | _ <;> first | exact no1 h | exact q (congrArg _ (Option.some.inj h))
theorem EvB.compare {l r:Expr}{op:CmpOp}{a b:AV}{z:Bool}(hl:Ev g f l a)(hr:Ev g f r b)(h:cmp op a b=some z)(hq:odd r=false):EvB g f (isTrue (.Compare l [op] [r] p) f.env (eval (.Compare l [op] [r] p) f.env)) z:=fun s E Q o q=>
 wpAny_isTrue_Compare1 (hl s E _ o fun x s'1 o'1 d'1 k'1=>hr s'1 E _ o'1 fun y s'2 o'2 d'2 k'2=>
  use o'2 (sJ o'2.u300 h (o'1.den k'2 d'1) d'2) fun y s'3 o3 d'3 k'3=>d'3.bool_inv▸wpAny_truthy_bool (q z s'3 o3 rfl (k'1.trans (k'2.trans k'3)))) (sP hq)
theorem EvB.value {z:Bool}(h:Ev g f e (.bool z))(hs:∀{Q:Bool->Shared->Prop}{s:Shared},wpAny (model g.prog g.w) f.A (eval e f.env) (fun v s'=>wpAny (model g.prog g.w) f.A (truthy v) Q E s') E s->wpAny (model g.prog g.w) f.A (isTrue e f.env (eval e f.env)) Q E s):
  ∀(s:Shared) (Q:Bool->Shared->Prop),Ok g f s->(∀ y s',Ok g f s'->y=z->Kp s s'->Q y s')->wpAny (model g.prog g.w) f.A (isTrue e f.env (eval e f.env)) Q E s:=fun s Q o q=>
 hs (h s E _ o fun y s'1 o'1 d'1 k'1=>d'1.bool_inv▸wpAny_truthy_bool (q z s'1 o'1 rfl k'1))
theorem yC {e2:Expr}{z b:Bool}(h:Ev g f e (.bool z))(h2:z=true->Run g f (boolOp pos .And (evalEach (e2::es) f.env)) fun h y=>Den (hide h f.M) y (.bool b))(hz:z=false->b=false):
  Run g f (boolOp pos .And (evalEach (e::e2::es) f.env)) fun h y=>Den (hide h f.M) y (.bool b):=fun s E Q o q=>by
 show wpAny _ f.A (do
  let v <-eval e f.env
  standAt pos
  let t <-holding [v] (truthy v)
  match BoolOp.And,t with
  | .And,false | .Or,true=>pure v
  | _,_=>boolOp pos .And (evalEach (e2::es) f.env)) _ _ s
 refine wpAny_bind (h s E _ o fun y s'1 o'1 d'1 k'1=> ?_);rw [d'1.bool_inv];refine wpAny_bind (wpAny_standAt (wpAny_bind (wpAny_holding (wpAny_truthy_bool ?_))))
 rcases z with _ | _
 ·exact wpAny_pure (q _ _ o'1 (hz rfl▸ .bool _) k'1)
 ·exact h2 rfl s'1 E _ o'1 fun y s'2 o'2 d'2 k'2=>q y s'2 o'2 d'2 (k'1.trans k'2)
theorem aDn {e2:Expr}{z b:Bool}(h:Ev g f e (.bool z))(h2:z=false->Run g f (boolOp pos .Or (evalEach (e2::es) f.env)) fun h y=>Den (hide h f.M) y (.bool b))(hz:z=true->b=true):
  Run g f (boolOp pos .Or (evalEach (e::e2::es) f.env)) fun h y=>Den (hide h f.M) y (.bool b):=fun s E Q o q=>by
 show wpAny _ f.A (do
  let v <-eval e f.env
  standAt pos
  let t <-holding [v] (truthy v)
  match BoolOp.Or,t with
  | .And,false | .Or,true=>pure v
  | _,_=>boolOp pos .Or (evalEach (e2::es) f.env)) _ _ s
 refine wpAny_bind (h s E _ o fun y s'1 o'1 d'1 k'1=> ?_);rw [d'1.bool_inv];refine wpAny_bind (wpAny_standAt (wpAny_bind (wpAny_holding (wpAny_truthy_bool ?_))))
 rcases z with _ | _
 ·exact h2 rfl s'1 E _ o'1 fun y s'2 o'2 d'2 k'2=>q y s'2 o'2 d'2 (k'1.trans k'2)
 ·exact wpAny_pure (q _ _ o'1 (hz rfl▸ .bool _) k'1)
noncomputable def mM (env:Env)(es:List Expr)(b:Bool):Sem Bool:=forIn es b fun c r=>if r=true then do let ok <-isTrue c env (eval c env); pure (ForInStep.yield ok) else pure (ForInStep.yield r)
theorem mO {Q:Bool->Shared->Prop}(q:Q false s):∀es:List Expr,wpAny (model prog w) A (mM env es false) Q E s
 | []=>wpAny_pure q
 | e::es=>by
  unfold mM;rw [List.forIn_cons];exact wpAny_bind (wpAny_pure (mO q es))
theorem pJ {z b:Bool}(h:EvB g f (isTrue e f.env (eval e f.env)) z)(h2:z=true->EvB g f (mM f.env es true) b)(hz:z=false->b=false):EvB g f (mM f.env (e::es) true) b:=fun s E Q o q=>by
 unfold mM;rw [List.forIn_cons];refine wpAny_bind (wpAny_bind (h s E _ o fun y s'1 o'1 e k'1=>wpAny_pure ?_));subst e
 rcases y with _ | _
 ·exact mO (q false s'1 o'1 (hz rfl).symm k'1) es
 ·exact h2 rfl s'1 E _ o'1 fun y s'2 o'2 e k'2=>q y s'2 o'2 e (k'1.trans k'2)
theorem aDo {z b:Bool}(h:EvB g f (isTrue e f.env (eval e f.env)) z)(h2:z=true->EvB g f (allTrue .And es f.env) b)(hz:z=false->b=false):EvB g f (allTrue .And (e::es) f.env) b:=fun s E Q o q=>
 wpAny_allTrue_And_cons (h s E _ o fun y s'1 o'1 e k'1=>by
  subst e
  rcases y with _ | _
  ·exact q false s'1 o'1 (hz rfl).symm k'1
  ·exact h2 rfl s'1 E _ o'1 fun y s'2 o'2 e k'2=>q y s'2 o'2 e (k'1.trans k'2))
theorem aJ3 {z b:Bool}(h:EvB g f (isTrue e f.env (eval e f.env)) z)(h2:z=false->EvB g f (allTrue .Or es f.env) b)(hz:z=true->b=true):EvB g f (allTrue .Or (e::es) f.env) b:=fun s E Q o q=>
 wpAny_allTrue_Or_cons (h s E _ o fun y s'1 o'1 e k'1=>by
  subst e
  rcases y with _ | _
  ·exact h2 rfl s'1 E _ o'1 fun y s'2 o'2 e k'2=>q y s'2 o'2 e (k'1.trans k'2)
  ·exact q true s'1 o'1 (hz rfl).symm k'1)
end
set_option genInjectivity false
set_option genSizeOfSpec false
theorem bE {env:Env}{x:Str}{k:NameKind}:∀{names:List (Str × NameKind)},names.lookup x=some k->
  (names.map fun (n,k)=>if (k==NameKind.free&&env.scope.kind== .function&&env.kindOf n==some .cell) then (n,NameKind.cell) else (n,k)).lookup x=
   some (if (k==NameKind.free&&env.scope.kind== .function&&env.kindOf x==some .cell) then .cell else k)
 | [],h=>no1 h
 | (n,k')::r,h=>by
  have ih:= @bE env x k r;rw [List.map_cons]
  rcases hx:x==n with _ | _
  ·rw [List.lookup_cons,hx] at h
   by_cases q:(k'==NameKind.free&&env.scope.kind== .function&&env.kindOf n==some .cell)=true
   ·dsimp only;rw [if_pos q,List.lookup_cons,hx]; exact ih h
   ·dsimp only;rw [if_neg q,List.lookup_cons,hx]; exact ih h
  ·obtain rfl:x=n:=by simpa using hx
   rw [List.lookup_cons,hx] at h;obtain rfl:=Option.some.inj h
   by_cases q:(k'==NameKind.free&&env.scope.kind== .function&&env.kindOf x==some .cell)=true
   ·dsimp only;rw [if_pos q,if_pos q,List.lookup_cons,hx]
   ·dsimp only;rw [if_neg q,if_neg q,List.lookup_cons,hx]
theorem sV {csc:Scope}{cl:List (Str × Addr)}{Q:Env->Shared->Prop}
  (h:Q {scope:=csc,locals:=s.heap.objs.size,globals:=env.globals,cells:=cellsFrom (s.heap.objs.size+1) csc.names cl,qual:=env.qual,func:=none,code:=env.code,frame:=env.frame,builtins:=env.builtins}
   {s with heap:=pushCells (s.heap.push {cls:= .type "dict",data:= .dict #[]}) csc.names}):
  wpAny (model prog w) A (newFunctionEnv csc env.globals cl [] env.qual none .none (some env)) Q E s:=by
 simp only [newFunctionEnv,Option.isSome_some,if_true];refine wpAny_bind (wpAny_alloc ?_);refine wpAny_bind (wpAny_layCells _ (fun name kind cells=>by rcases hkc:kind==NameKind.cell with _ | _ <;> simp [hkc]) _ _ _ _ ?_);rw [show ({s with heap:=s.heap.push {cls:= .type "dict",data:= .dict #[]}}:Shared).heap.objs.size=s.heap.objs.size+1 from Heap.size_push ..];exact wpAny_bind (wpAny_pure (wpAny_pure h))
def oW (cenv:Env)(h:Heap)(x:Str)(c:Addr):Prop:=
 (cenv.kindOf x=some .local/\c=cenv.locals/\∃m,h.Ns cenv.locals m)\/(cenv.kindOf x=some .cell/\cenv.cells.lookup x=some c/\∃v,h.IsCell c v)
theorem oW.ex {cenv:Env}(b:oW cenv h x c):∃o,h.get? c=some o:=
 b.elim (fun b=>b.2.1▸b.2.2.elim fun _ h=>h.imp fun _ h=>h.elim fun _ h=>h.elim fun _ h=>h.1) fun b=>b.2.2.elim fun _ h=>h.imp fun _ h=>h.1
theorem oW.keep {cenv:Env}(b:oW cenv h x c)(k:∀o,h.get? c=some o->h'.get? c=some o):oW cenv h' x c:=
 b.imp (fun b=>⟨b.1,b.2.1,b.2.2.imp fun _ hn=>hn.at' (b.2.1▸k)⟩) fun b=>⟨b.1,b.2.1,b.2.2.imp fun _ hi=>hi.imp fun _ hi=>⟨k _ hi.1,hi.2⟩⟩
theorem aAw {cenv:Env}{v:Value}{Q:Unit->Shared->Prop}(hk:cenv.scope.kind= .function)(b:oW cenv s.heap x c)
  (h:∀h' tk,oW cenv h' x c->cH cenv h' x v->Heap.SameBut c s.heap h'->Q () {s with heap:=h',toks:=tk}):wpAny (model prog w) A (storeName cenv x v) Q E s:=by
 rcases b with ⟨q,rfl,m,hn⟩ | ⟨q,q2,u,hc⟩
 ·exact wpAny_storeName_local q hn (fun h' hn' hs=>h h' _ (.inl ⟨q,rfl,_,hn'⟩) (.inl ⟨q,_,hn',if_pos rfl⟩) hs) (by rw [hk]; rfl)
 ·exact wpAny_storeName_cell hk q q2 hc fun h' hc' hs=>h h' s.toks (.inr ⟨q,q2,_,hc'⟩) (.inr (.inl ⟨q,c,q2,hc'⟩)) hs
theorem jY {csc:Scope}(ok:fT csc x=true):csc.kind= .function/\(csc.names.lookup x=some .local\/csc.names.lookup x=some .cell)/\(∀ y∈csc.names,(y.2= .local->csc.names.lookup y.1=some .local)/\(y.2= .cell->y.1=x)/\(y.2= .free->csc.names.lookup y.1=some .free/\(y.1==("__classdict__":Str))=false)):=by
 unfold fT at ok;simp only [Bool.and_eq_true,Bool.or_eq_true,List.all_eq_true,beq_iff_eq,bne_iff_ne,ne_eq] at ok;exact ⟨ok.1.1.1,ok.1.1.2,fun y hy=>⟨(ok.1.2 y hy).1.1.resolve_left∘not_not_intro,(ok.1.2 y hy).1.2.resolve_left∘not_not_intro,fun q=>((ok.1.2 y hy).2.resolve_left (not_not_intro q)).imp id beq_eq_false_iff_ne.mpr⟩⟩
structure CE (env cenv:Env)(csc:Scope)(x:Str):Prop where
 kind:cenv.scope.kind= .function
 globals:cenv.globals=env.globals
 builtins:cenv.builtins=env.builtins
 nm:vL csc cenv
 cells:∀y c,csc.names.lookup y=some .free->y≠x->env.cells.lookup y=some c->cenv.cells.lookup y=some c
 free:∀y,csc.names.lookup y=some .free->cenv.kindOf y=some .cell\/(cenv.kindOf y=some .free/\(y==("__classdict__":Str))=false)
theorem aHy {csc:Scope}{L:Nat}{cl:List (Str × Addr)}(ok:fT csc x=true)(hcl:∀y,csc.names.lookup y=some .free->cl.lookup y=env.cells.lookup y):
  CE env {scope:=relabel csc env,locals:=L,globals:=env.globals,cells:=cellsFrom n csc.names cl,qual:=env.qual,func:=none,code:=env.code,frame:=env.frame,builtins:=env.builtins} csc x where
 kind:=(jY ok).1
 globals:=rfl
 builtins:=rfl
 nm:=⟨fun y hy=>(bE hy).trans (by simp),fun y hy=>(bE hy).trans (by simp),fun y hy=>(bE hy).trans (by simp),fun y hy=>by
  have:=bE (env:=env) hy
  by_cases q:(NameKind.free==NameKind.free&&env.scope.kind== .function&&env.kindOf y==some .cell)=true
  ·rw [if_pos q] at this;exact .inl this
  ·rw [if_neg q] at this;exact .inr this⟩
 cells:=fun y c hy hyx e=>(fF _ _ _ fun p hp hpk q=>hyx (q.symm.trans (((jY ok).2.2 p hp).2.1 hpk))).trans ((hcl y hy).trans e)
 free:=fun y hy=>by
  have:=bE (env:=env) hy
  by_cases q:(NameKind.free==NameKind.free&&env.scope.kind== .function&&env.kindOf y==some .cell)=true
  ·rw [if_pos q] at this;exact .inl this
  ·rw [if_neg q] at this;exact .inr ⟨this,(((jY ok).2.2 _ (mem_of_lookup hy)).2.2 rfl).2⟩
theorem sX {M X:List Addr}{a b:Shared}(k:KW X Zs a b)(fr:∀y∈X,a.heap.get? y=none)(tabs:∀y∈Zt,y∈M){v:Value}{d:AV}(h:Den (hide a.heap M) v d):Den (hide b.heap (M++X)) v d:=
 h.keeps fun p o e=>by
  have e':=aB.mp e;have hX:p∉X:=fun q=>no1 ((fr p q).symm.trans e'.2)
  exact aB.mpr ⟨fun q=>(List.mem_append.mp q).elim e'.1 hX,k.keep p o hX (fun q=>e'.1 (tabs p q)) e'.2⟩
theorem aDp {ρ:Loc}{csc:Scope}{y:Str}{u:Value}(hN:vL sc env)(hfree:cP sc ρ csc=true)(hy:csc.names.lookup y=some .free)(hb:cH env h y u):∃c,env.cells.lookup y=some c/\h.IsCell c (some u):=by
 have hc:=(List.all_eq_true.mp hfree) _ (mem_of_lookup hy);simp only [bne_self_eq_false,Bool.false_or,Bool.and_eq_true,Bool.or_eq_true,beq_iff_eq] at hc;have hk:env.kindOf y=some .cell\/env.kindOf y=some .free:=hc.2.elim (fun q=> .inl (hN.cell _ q)) fun q=>hN.free _ q
 rcases hb with ⟨q,_⟩ | ⟨_,c,h1,h2⟩ | ⟨_,_,c,h1,h2⟩
 ·exact hk.elim (fun z=>nomatch q.symm.trans z) fun z=>nomatch q.symm.trans z
 ·exact ⟨c,h1,h2⟩
 ·exact ⟨c,h1,h2⟩
theorem Cx.comp (S:aNl Sta mg mb){M X:List Addr}{a b:Shared}{cenv:Env}{ρ:Loc}{csc:Scope}{v:Value}{item:AV}(c:Cx Sta M env ρ a.heap)(k:KW X Zs a b)(fr:∀y∈X,a.heap.get? y=none)(hN:vL sc env)(hfree:cP sc ρ csc=true)(e:CE env cenv csc x)
  (bd:cH cenv b.heap x v) (dv:Den (hide b.heap (M++X)) v item) (lt:∀y∈X,∃o,b.heap.get? y=some o):Cx Sta (M++X) cenv (bQ ρ csc x item) b.heap where
 sta:=S.keeps _ _ (KW.into (KW.refl a) k fr) c.sta
 kind:=e.kind
 globals:=e.globals.trans c.globals
 builtins:=e.builtins.trans c.builtins
 vars:=fun y u hy=>kZ hy (fun q hy=>⟨v,q▸bd,Option.some.inj hy▸dv⟩) fun hyx hy=>cK hy fun hyf hy=>by
  obtain ⟨u',hbu,hdu⟩:=c.vars y u hy;obtain ⟨c0,h1,h2⟩:=aDp hN hfree hyf hbu;have h3:=k.cell (S.zok _ c.sta) (fun q=>h2.elim fun o h=>no1 ((fr c0 q).symm.trans h.1)) h2;exact ⟨u',.inr ((e.free y hyf).imp (fun q=>⟨q,c0,e.cells y c0 hyf hyx h1,h3⟩) fun q=>⟨q.1,q.2,c0,e.cells y c0 hyf hyx h1,h3⟩),sX k fr c.tabs hdu⟩
 lt:=fun y hy=>(List.mem_append.mp hy).elim (fun q=>Kp.ex (KW.into (KW.refl a) k fr) (S.zok _ c.sta) (c.lt y q)) (lt y)
 tabs:=fun y hy=>List.mem_append_left _ (c.tabs y hy)
set_option genInjectivity false
set_option genSizeOfSpec false
structure CA (fp wr X:List Addr)(D C cx:Addr)(cenv:Env)(x:Str):Prop where
 eX:X=wr++[D,C,cx]
 nD:D∉fp
 nC:C∉fp
 nx:cx∉fp
 sub:∀b∈wr,b∈fp
 Dx:D≠cx
 DC:D≠C
 at':C=cenv.locals
 case:(cx=C/\cenv.kindOf x=some .local)\/C≠cx
 code:∀z∈Zs,z.1∉X/\z.2∉X
structure sA (St:Nat->Heap->Prop)(D C cx:Addr)(X M:List Addr)(cenv:Env)(x:Str)(s'2:Shared)(i:Nat)(outs:List AV)(s':Shared):Prop where
 toks:0<s'.toks
 st:St i s'.heap
 list:∃ys,s'.heap.PlainList D ys/\bI (hide s'.heap (M++X)) ys.toList outs
 slot:oW cenv s'.heap x cx
 ns:∃m,s'.heap.Ns C m
 kw:KW X Zs s'2 s'
section
variable {I:Addr}{fp wr X M:List Addr}{P:Nat->Value->Prop}{St:Nat->Heap->Prop}{D cx:Addr}{cenv:Env}{outs:List AV}{tk:Nat}
theorem CA.memw (a:CA fp wr X D C cx cenv x){b:Addr}(h:b∈wr):b∈X:=a.eX▸List.mem_append_left _ h
theorem CA.memD (a:CA fp wr X D C cx cenv x):D∈X:=a.eX▸List.mem_append_right _ (.head _)
theorem CA.memC (a:CA fp wr X D C cx cenv x):C∈X:=a.eX▸List.mem_append_right _ (.tail _ (.head _))
theorem CA.memx (a:CA fp wr X D C cx cenv x):cx∈X:=a.eX▸List.mem_append_right _ (.tail _ (.tail _ (.head _)))
theorem aDq {M X:List Addr}(k:∀b o,b∉X->h.get? b=some o->h'.get? b=some o):∀b o,(hide h (M++X)).get? b=some o->(hide h' (M++X)).get? b=some o:=
 aT (fun _ h1 h2=>absurd h1 h2) fun b o hb e=>k b o (fun q=>hb (List.mem_append_right _ q)) e
theorem aAx {is:Array Value}{vs:Array Value}:Data.seq is n≠ .fields vs:=fun q=>nomatch q
theorem sA.draw (a:CA fp wr X D C cx cenv x)(v:sA St D C cx X M cenv x s'2 i outs s)(st:St (i+1) h')(k:∀b o,b∉wr->s.heap.get? b=some o->h'.get? b=some o)(ht:0<tk):sA St D C cx X M cenv x s'2 (i+1) outs {s with heap:=h',toks:=tk} where
 toks:=ht
 st:=st
 list:=v.list.imp fun _ h=>⟨h.1.at fun o e=>k _ o (fun q=>a.nD (a.sub _ q)) e,h.2.keeps (aDq fun b o hb e=>k b o (fun q=>hb (a.memw q)) e)⟩
 slot:=v.slot.keep fun o e=>k _ o (fun q=>a.nx (a.sub _ q)) e
 ns:=v.ns.imp fun _ h=>h.at' fun o e=>k _ o (fun q=>a.nC (a.sub _ q)) e
 kw:=v.kw.trans (KW.out a.code fun b o hb e=>k b o (fun q=>hb (a.memw q)) e)
theorem sA.stored (a:CA fp wr X D C cx cenv x)(W:Walks prog w A I fp wr n P St)(v:sA St D C cx X M cenv x s'2 i outs s)(sl:oW cenv h' x cx)(hs:Heap.SameBut cx s.heap h')(ht:0<tk):sA St D C cx X M cenv x s'2 i outs {s with heap:=h',toks:=tk} where
 toks:=ht
 st:=W.frame _ _ _ v.st fun b hb o e=>hs.extBut b o (fun q=>a.nx (q▸hb)) e
 list:=v.list.imp fun _ h=>⟨h.1.at fun o e=>hs.extBut _ o a.Dx e,h.2.keeps (aDq fun b o hb e=>hs.extBut b o (fun q=>hb (q▸a.memx)) e)⟩
 slot:=sl
 ns:=a.case.elim (fun q=>sl.elim (fun z=>a.at'▸z.2.2) fun z=>nomatch q.2.symm.trans z.1) fun q=>v.ns.imp fun _ h=>h.at' fun o e=>hs.extBut _ o q e
 kw:=v.kw.trans (KW.out a.code fun b o hb e=>hs.extBut b o (fun q=>hb (q▸a.memx)) e)
theorem sA.kp (S:aNl Sta mg mb)(tabs:∀y∈Zt,y∈M)(W:Walks prog w A I fp wr n P St)(z:Zok Zs [] s.heap)(hfp:∀b∈fp,b∉Zt)(v:sA St D C cx X M cenv x s'2 i outs s)(k:Kp s s')(ht:0<s'.toks):sA St D C cx X M cenv x s'2 i outs s' where
 toks:=ht
 st:=W.frame _ _ _ v.st fun b hb o e=>k.get b o (hfp b hb) e
 list:=v.list.imp fun _ h=>⟨h.1.imp fun _ e=>k.get _ _ (z.not e fun _=>aAx) e,h.2.keeps (k.hide fun y hy=>List.mem_append_left _ (tabs y hy))⟩
 slot:=v.slot.imp (fun b=>⟨b.1,b.2.1,b.2.2.imp fun _ h=>KW.ns k z (nomatch ·) h⟩) fun b=>⟨b.1,b.2.1,b.2.2.imp fun _ h=>KW.cell k z (nomatch ·) h⟩
 ns:=v.ns.imp fun _ h=>KW.ns k z (nomatch ·) h
 kw:=v.kw.trans k.wk
theorem sA.grow (a:CA fp wr X D C cx cenv x)(W:Walks prog w A I fp wr n P St)(v:sA St D C cx X M cenv x s'2 i outs s){ys:Array Value}{d:AV}(hd:bI (hide s.heap (M++X)) ys.toList outs)(hy:Den (hide s.heap (M++X)) y d)(hl:h'.PlainList D (ys.push y))(hs:Heap.SameBut D s.heap h'):sA St D C cx X M cenv x s'2 i (outs++[d]) {s with heap:=h'} where
 toks:=v.toks
 st:=W.frame _ _ _ v.st fun b hb o e=>hs.extBut b o (fun q=>a.nD (q▸hb)) e
 list:=⟨_,hl,(Array.toList_push (xs:=ys))▸(hd.keeps (aDq fun b o hb e=>hs.extBut b o (fun q=>hb (q▸a.memD)) e)).append (.cons (hy.keeps (aDq fun b o hb e=>hs.extBut b o (fun q=>hb (q▸a.memD)) e)) .nil)⟩
 slot:=v.slot.keep fun o e=>hs.extBut _ o (Ne.symm a.Dx) e
 ns:=v.ns.imp fun _ h=>h.at' fun o e=>hs.extBut _ o (Ne.symm a.DC) e
 kw:=v.kw.trans (KW.out a.code fun b o hb e=>hs.extBut b o (fun q=>hb (q▸a.memD)) e)
end
section
set_option genInjectivity false
set_option genSizeOfSpec false
variable {g:Eg}{f:Fr}
structure aJ4 (D C:Addr)(X M:List Addr)(s'2:Shared)(outs:List AV)(s':Shared):Prop where
 toks:0<s'.toks
 list:∃ys,s'.heap.PlainList D ys/\bI (hide s'.heap (M++X)) ys.toList outs
 ns:∃m,s'.heap.Ns C m
 kw:KW X Zs s'2 s'
theorem sA.fin {fp wr X M:List Addr}{St:Nat->Heap->Prop}{D cx:Addr}{cenv:Env}{outs:List AV}{tk:Nat}(a:CA fp wr X D C cx cenv x)(v:sA St D C cx X M cenv x s'2 i outs s)(k:∀b o,b∉wr->s.heap.get? b=some o->h'.get? b=some o)(ht:0<tk):
  aJ4 D C X M s'2 outs {s with heap:=h',toks:=tk} where
 toks:=ht
 list:=v.list.imp fun _ h=>⟨h.1.at fun o e=>k _ o (fun q=>a.nD (a.sub _ q)) e,h.2.keeps (aDq fun b o hb e=>k b o (fun q=>hb (a.memw q)) e)⟩
 ns:=v.ns.imp fun _ h=>h.at' fun o e=>k _ o (fun q=>a.nC (a.sub _ q)) e
 kw:=v.kw.trans (KW.out a.code fun b o hb e=>k b o (fun q=>hb (a.memw q)) e)
structure aP5 (fn:AV->Option (Option AV))(items vs:List AV)(V:Nat->List AV->Shared->Prop)(k:Nat)(s':Shared)(done rest outs vs':List AV):Prop where
 all:items=done++rest
 left:k=rest.length+1
 go:iM fn rest=some vs'
 so:vs=outs++vs'
 le:outs.length<=done.length
 inv:V done.length outs s'
theorem aP5.step {fn:AV->Option (Option AV)} {items done r outs vs' o z:List AV}{d:AV}{V:Nat->List AV->Shared->Prop}(l:aP5 fn items vs V k s done (d::r) outs vs')(hg:iM fn r=some z)(ho:vs'=o++z)(hn:o.length<=1)(v:V (done.length+1) (outs++o) s'):
  ∃m,m<k/\∃done rest outs vs',aP5 fn items vs V m s' done rest outs vs':=
 ⟨r.length+1,l.left▸Nat.lt_succ_self _,done++[d],r,outs++o,z,by rw [l.all,List.append_assoc]; rfl,rfl,hg,by rw [l.so,ho,List.append_assoc],by rw [List.length_append,List.length_append]; exact Nat.add_le_add l.le hn,by rw [List.length_append]; exact v⟩
set_option maxHeartbeats 1000000 in
theorem aDr {I:Addr}{fp wr X:List Addr}{P:Nat->Value->Prop}{St:Nat->Heap->Prop}{D cx:Addr}{cenv:Env}{fn:AV->Option (Option AV)}{items:List AV}{csc:Scope}{elt iter:Expr}{ifs:List Expr}
  (a:CA fp wr X D C cx cenv x) (W:Walks g.prog g.w f.A I fp wr items.length P St) (hfp:∀b∈fp,b∉Zt) (tabs:∀y∈Zt,y∈f.M) (ck:cenv.scope.kind= .function) (hN:vL csc cenv) (room:cW f.A g.d) (hsz:items.length<=2^20) (hf:iM fn items=some vs)
  (hP:∀i v d s',P i v->items[i]? =some d->KW X Zs s'2 s'->Den (hide s'.heap (f.M++X)) v d)
  (hcx:∀i outs s' v d,sA St D C cx X f.M cenv x s'2 i outs s'->cH cenv s'.heap x v->Den (hide s'.heap (f.M++X)) v d->Cx g.Sta (f.M++X) cenv (bQ f.ρ csc x d) s'.heap)
  (hel:∀d r,fn d=some r->EvB g ⟨csc,cenv,bQ f.ρ csc x d,f.A,f.M++X⟩ (mM cenv ifs true) r.isSome/\∀v,r=some v->Ev g ⟨csc,cenv,bQ f.ρ csc x d,f.A,f.M++X⟩ elt v)
  (fin:∀s',aJ4 D C X f.M s'2 vs s'->R (.ok .next) s') (start:sA St D C cx X f.M cenv x s'2 0 [] s):
  codeAny (model g.prog g.w) f.A (.compLoop (.ListComp elt [⟨.Name x px,iter,ifs,0⟩] csc pos) 0 (.ref I) (.ref D) cenv) R s:=by
 refine codeAny_compLoop_tests (fun k s'=>∃done rest outs vs',aP5 fn items vs (sA St D C cx X f.M cenv x s'2) k s' done rest outs vs') ?_ (items.length+1) ⟨[],items,[],vs,rfl,rfl,hf,rfl,Nat.le_refl _,start⟩
 rintro k s' ⟨done,rest,outs,vs',l⟩
 have v:=l.inv
 rcases rest with _ | ⟨d,r⟩
 ·have e:vs=outs:=by rw [l.so,<-Option.some.inj l.go,List.append_nil]
  subst e;exact wpAny_with_toks (n:=1) v.toks (W.done _ _ _ (by rw [l.all,List.append_nil]; exact v.st) fun h'1 tk1 k'1 t'1=>fin _ (v.fin a k'1 t'1))
 ·refine wpAny_with_toks (n:=1) v.toks (W.item done.length _ _ _ (by rw [l.all,List.length_append]; exact Nat.lt_add_of_pos_right (Nat.succ_pos _)) v.st fun y h'1 tk1 hP'1 st'1 k'1 t'1=> ?_);have v'1:=v.draw a st'1 k'1 t'1;refine wpAny_with_toks (n:=1) t'1 (wpAny_assign_Name (aAw ck v'1.slot fun h'2 tk'2 sl bd hs t'2=> ?_));have v'2:=v'1.stored a W sl hs t'2;have o'2:=Ok.mk (g:=g) (f:=⟨csc,cenv,bQ f.ρ csc x d,f.A,f.M++X⟩) hN room (hcx _ _ _ _ _ v'2 bd (hP _ _ _ _ hP'1 (by rw [l.all,List.getElem?_append_right (Nat.le_refl _),Nat.sub_self]; rfl) v'2.kw)) t'2;refine aL l.go fun r' hr hf'=>(hel d r' hr).1 _ _ _ o'2 fun ok s'3 o3 e k'3=> ?_
  have v'3:=v'2.kp g.S tabs W (g.S.zok _ o'2.cx.sta) hfp k'3 o3.ht;subst e
  rcases r' with _ | z
  ·exact l.step (o:=[]) hf' rfl (Nat.zero_le _) (by rw [List.append_nil]; exact v'3)
  ·refine aL hf' fun vr hvr e=>(hel d _ hr).2 z rfl _ _ _ o3 fun y' s4 o'4 d4 k'4=> ?_
   have v4:=v'3.kp g.S tabs W (g.S.zok _ o3.cx.sta) hfp k'4 o'4.ht;obtain ⟨ys,hy1,hy2⟩:=v4.list;refine wpAny_list_append_plain hy1 (fun h'5 hl'5 hs'5=>l.step (o:=[z]) hvr (Option.some.inj e).symm (Nat.le_refl _) (v4.grow a W hy2 d4 hl'5 hs'5)) ?_;have h1:=hy2.1;have h2:=l.le;have h3:=congrArg List.length l.all;rw [Array.length_toList] at h1;rw [List.length_append] at h3;rw [sizeLine_eq]; lia
end
section
set_option genInjectivity false
set_option genSizeOfSpec false
variable {g:Eg}{f:Fr}
noncomputable def mP (env:Env)(csc:Scope)(cl:List (Str × Addr))(D:Addr):Env:=
 {scope:=relabel csc env,locals:=D+1,globals:=env.globals,cells:=cellsFrom (D+1+1) csc.names cl,qual:=env.qual,func:=none,code:=env.code,frame:=env.frame,builtins:=env.builtins}
noncomputable def jC (h:Heap)(csc:Scope):Heap:=pushCells ((h.push {cls:= .type "list",dict:=none,data:= .seq ([]:List Value).toArray}).push {cls:= .type "dict",data:= .dict #[]}) csc.names
theorem pK (h:Heap)(csc:Scope)(b:Addr)(o:Obj)(e:h.get? b=some o):(jC h csc).get? b=some o:=pushCells_keeps _ _ b o (Heap.get?_push_of_some _ (Heap.get?_push_of_some _ e))
theorem aDs (h:Heap)(csc:Scope):(jC h csc).PlainList h.objs.size #[]:=⟨0,pushCells_keeps _ _ _ _ (Heap.get?_push_of_some _ (Heap.get?_push_size _ rfl))⟩
theorem aDt (h:Heap)(csc:Scope):∃m,(jC h csc).Ns (h.objs.size+1) m:=by
 have:=Heap.Ns.new (h.push {cls:= .type "list",dict:=none,data:= .seq ([]:List Value).toArray}) (.type "dict");rw [Heap.size_push] at this;exact ⟨_,this.keeps (pushCells_keeps _ _)⟩
theorem aDu {csc:Scope}{cl:List (Str × Addr)}(h:Heap)(hx:csc.names.lookup x=some .local\/csc.names.lookup x=some .cell):
  ∃cx,oW (mP env csc cl h.objs.size) (jC h csc) x cx/\h.objs.size<cx/\((cx=h.objs.size+1/\(mP env csc cl h.objs.size).kindOf x=some .local)\/h.objs.size+1≠cx):=by
 rcases hx with hx | hx
 ·have hl:(mP env csc cl h.objs.size).kindOf x=some .local:=(bE hx).trans (by simp);exact ⟨_,.inl ⟨hl,rfl,aDt h csc⟩,Nat.lt_succ_self _,.inl ⟨rfl,hl⟩⟩
 ·obtain ⟨cx,h1,h2,h3⟩:=gS csc.names ((h.push {cls:= .type "list",dict:=none,data:= .seq ([]:List Value).toArray}).push {cls:= .type "dict",data:= .dict #[]}) cl ⟨(x,.cell),mem_of_lookup hx,rfl,rfl⟩;rw [Heap.size_push,Heap.size_push] at h1 h2;exact ⟨cx,.inr ⟨(bE hx).trans (by simp),h1,none,h3⟩,by exact Nat.le_of_lt h2,.inr (by exact Nat.ne_of_lt h2)⟩
theorem aAy {csc:Scope}(c:Cx g.Sta f.M f.env f.ρ s.heap)(hN:vL f.sc f.env)(hfree:cP f.sc f.ρ csc=true):∀y∈csc.names,y.2= .free->(f.env.cells.lookup y.1).isSome=true:=by
 intro y hy hk;have hc:=(List.all_eq_true.mp hfree) _ hy;rw [hk] at hc;simp only [bne_self_eq_false,Bool.false_or,Bool.and_eq_true,Bool.or_eq_true,beq_iff_eq] at hc;obtain ⟨u,hu⟩:=Option.isSome_iff_exists.mp hc.1;obtain ⟨u',hb,_⟩:=c.vars _ _ hu;have hk':f.env.kindOf y.1=some .cell\/f.env.kindOf y.1=some .free:=hc.2.elim (fun q=> .inl (hN.cell _ q)) fun q=>hN.free _ q
 rcases hb with ⟨q,_⟩ | ⟨_,c,h1,_⟩ | ⟨_,_,c,h1,_⟩
 ·exact hk'.elim (fun z=>nomatch q.symm.trans z) fun z=>nomatch q.symm.trans z
 ·rw [h1]; rfl
 ·rw [h1]; rfl
theorem aDv {csc:Scope}{elt iter:Expr}{ifs:List Expr}{cl:List (Str × Addr)}{items:List AV}{fn:AV->Option (Option AV)}{I:Addr}{fp wr:List Addr}{P:Nat->Value->Prop}{St:Nat->Heap->Prop}{RR:Value->Addr->Result->Shared->Prop}
  (o:Ok g f s) (ok:fT csc x=true) (hcl:∀y,csc.names.lookup y=some .free->cl.lookup y=f.env.cells.lookup y) (hfree:cP f.sc f.ρ csc=true) (src:Itr g.prog g.w f.A f.M s items I fp wr P St s'2) (ht2:0<s'2.toks) (hsz:items.length<=2^20) (hf:iM fn items=some vs)
  (hel:∀cenv M' d r,fn d=some r->EvB g ⟨csc,cenv,bQ f.ρ csc x d,f.A,M'⟩ (mM cenv ifs true) r.isSome/\∀v,r=some v->Ev g ⟨csc,cenv,bQ f.ρ csc x d,f.A,M'⟩ elt v)
  (fin:∀D C X s',(∀ y∈X,s.heap.get? y=none)->D∈X->C∈X->D≠C->aJ4 D C X f.M s vs s'->RR (.ref D) C (.ok .next) s'):
  wpAny (model g.prog g.w) f.A (newList []) (fun acc s'3=>wpAny (model g.prog g.w) f.A (newFunctionEnv csc f.env.globals cl [] f.env.qual none .none (some f.env)) (fun cenv s4=>
   codeAny (model g.prog g.w) f.A (.compStart (.ListComp elt [⟨.Name x px,iter,ifs,0⟩] csc pos) 0 (.ref I) acc {cenv with scope:=relabel csc f.env}) (RR acc cenv.locals) s4) E s'3) E s'2:=by
 refine wpAny_newObj_type (sV ?_);obtain ⟨h2,tk2,rfl,k12⟩:=src.kept;have zok:=g.S.zok _ o.cx.sta;dsimp only;rw [Heap.size_push];obtain ⟨cx,sl,hlt,hcase⟩:=aDu (env:=f.env) (cl:=cl) h2 (jY ok).2.1;have new:∀b,h2.objs.size<=b->h2.get? b=none:=fun b hb=>by
  rcases e:h2.get? b with _ | o
  ·rfl
  ·exact absurd (Heap.lt_size e) (Nat.not_lt.mpr hb)
 have news:∀b,h2.get? b=none->s.heap.get? b=none:=fun b hb=>by
  rcases e:s.heap.get? b with _ | o
  ·rfl
  ·exact no1 (hb.symm.trans (k12 b o e))
 have nfp:∀b,h2.objs.size<=b->b∉fp:=fun b hb q=>by
  obtain ⟨o,e⟩:=src.has b q;exact no1 ((new b hb).symm.trans e)
 have fr:∀y∈wr++[h2.objs.size,h2.objs.size+1,cx],s.heap.get? y=none:=fun y hy=>by
  rcases List.mem_append.mp hy with q | q
  ·exact src.fresh y q
  ·refine news y (new y ?_)
   rcases List.mem_cons.mp q with rfl | q
   ·exact Nat.le_refl _
   ·rcases List.mem_cons.mp q with rfl | q
    ·exact Nat.le_succ _
    ·exact List.mem_singleton.mp q▸Nat.le_of_lt hlt
 have code:∀z∈Zs,z.1∉wr++[h2.objs.size,h2.objs.size+1,cx]/\z.2∉wr++[h2.objs.size,h2.objs.size+1,cx]:=fun z hz=>by
  obtain ⟨ps,_,⟨o,_,e,_⟩,e2⟩:=zok.at' z hz;exact ⟨fun q=>no1 ((fr _ q).symm.trans e),fun q=>no1 ((fr _ q).symm.trans e2)⟩
 have a:CA fp wr (wr++[h2.objs.size,h2.objs.size+1,cx]) h2.objs.size (h2.objs.size+1) cx (mP f.env csc cl h2.objs.size) x:=
  ⟨rfl,nfp _ (Nat.le_refl _),nfp _ (Nat.le_succ _),nfp _ (Nat.le_of_lt hlt),src.W.sub,Nat.ne_of_lt hlt,Nat.ne_of_lt (Nat.lt_succ_self _),rfl,hcase,code⟩
 have start:sA St h2.objs.size (h2.objs.size+1) cx (wr++[h2.objs.size,h2.objs.size+1,cx]) f.M (mP f.env csc cl h2.objs.size) x s 0 [] {s with heap:=jC h2 csc,toks:=tk2}:=
  ⟨ht2,src.W.frame _ _ _ src.st fun b _ o e=>pK h2 csc b o e,⟨#[],aDs h2 csc,.nil⟩,sl,aDt h2 csc,KW.of_keep fun b o e=>pK h2 csc b o (k12 b o e)⟩
 have ce:=aHy (env:=f.env) (L:=h2.objs.size+1) (n:=h2.objs.size+1+1) ok hcl;have loop:=aDr (g:=g) (f:=f) (elt:=elt) (iter:=iter) (ifs:=ifs) (px:=px) (pos:=pos) (R:=RR (.ref h2.objs.size) (h2.objs.size+1)) a src.W (fun b hb=> ?_) o.cx.tabs ce.kind ce.nm o.room hsz hf (fun i v d s' h1 h2 k=>sX k fr o.cx.tabs (src.item i v d h1 h2))
  (fun i outs s' v d inv bd dv=>o.cx.comp g.S inv.kw fr o.env hfree ce bd dv fun y hy=> ?_) (hel _ _) (fun s' c=>fin _ _ _ s' fr a.memD a.memC a.DC c) start
 ·exact codeAny_compStart_list loop (src.W.self 0 _ _ _ start.st loop)
 ·intro q
  by_cases hw:b∈wr
  ·rcases List.mem_cons.mp q with rfl | q
   ·exact (code _ (.head _)).2 (a.memw hw)
   ·exact (code _ (.tail _ (.head _))).2 (List.mem_singleton.mp q▸a.memw hw)
  ·obtain ⟨o',e⟩:=src.vis b hb hw;exact (aB.mp e).1 (o.cx.tabs b q)
 ·rcases List.mem_append.mp hy with q | q
  ·exact src.ex _ _ inv.st y q
  ·rcases List.mem_cons.mp q with rfl | q
   ·obtain ⟨_,⟨_,e⟩,_⟩:=inv.list;exact ⟨_,e⟩
   ·rcases List.mem_cons.mp q with rfl | q
    ·obtain ⟨_,o,_,_,e,_⟩:=inv.ns;exact ⟨o,e⟩
    ·exact List.mem_singleton.mp q▸inv.slot.ex
end
section
variable {g:Eg}{f:Fr}
theorem yD {csc:Scope}{elt iter:Expr}{ifs:List Expr}{xv:AV}{items:List AV}{fn:AV->Option (Option AV)}{use:Option (Value->Sem Unit)}
  (o:Ok g f s) (ok:fT csc x=true) (hfree:cP f.sc f.ρ csc=true) (hit:Ev g f iter xv) (hodd:odd iter=false) (hl:bL xv=some items) (hsz:items.length<=2^20) (hf:iM fn items=some vs)
  (hel:∀cenv M' d r,fn d=some r->EvB g ⟨csc,cenv,bQ f.ρ csc x d,f.A,M'⟩ (mM cenv ifs true) r.isSome/\∀v,r=some v->Ev g ⟨csc,cenv,bQ f.ρ csc x d,f.A,M'⟩ elt v)
  (fin:∀s'1 D C X s',Ok g f s'1->Kp s s'1->(∀ y∈X,s'1.heap.get? y=none)->D∈X->C∈X->D≠C->aJ4 D C X f.M s'1 vs s'->compPost (model g.prog g.w) f.A E use Q (.ref D) C (.ok .next) s'):
  wpAny (model g.prog g.w) f.A (comprehension (.ListComp elt [⟨.Name x px,iter,ifs,0⟩] csc pos) csc f.env (firstIterPos [⟨.Name x px,iter,ifs,0⟩] pos) (newList []) (firstAsync [⟨.Name x px,iter,ifs,0⟩]) (firstIter [⟨.Name x px,iter,ifs,0⟩] f.env) use) Q E s:=by
 obtain ⟨cl,hcl1,hcl2⟩:=aAt (aAy o.cx o.env hfree);refine wpAny_comprehension_free (use:=use) rfl (fun x=>sQ hodd x) hcl1 (jY ok).1 (fun y hy hk=>((jY ok).2.2 y hy).1 hk) ?_;exact hit s _ _ o fun x1 s'1 o'1 d'1 k'1=>wpAny_with_toks (n:=1) o'1.ht (dU o'1.room.handled hl d'1 fun I fp wr P St s'2 src t'2=>
  aDv (RR:=fun acc C=>compPost (model g.prog g.w) f.A E use Q acc C) o'1 ok hcl2 hfree src t'2 hsz hf hel fun D C X s' fr hD hC hDC c=>fin s'1 D C X s' o'1 k'1 fr hD hC hDC c)
theorem aJ4.den {D:Addr}{X M:List Addr}(c:aJ4 D C X M s'1 vs s')(fr:∀y∈X,s'1.heap.get? y=none)(lt:∀a∈M,∃o,s'1.heap.get? a=some o)(hD:D∈X)(hC:C∈X)(hDC:D≠C)(hs:Heap.SameBut C s'.heap h'):Den (hide h' M) (.ref D) (.list vs):=by
 obtain ⟨ys,⟨n,h1⟩,h2⟩:=c.list;refine .mkList ⟨n,aB.mpr ⟨fun q=>(lt D q).elim fun o e=>no1 ((fr D hD).symm.trans e),hs.extBut _ _ hDC h1⟩⟩ (h2.keeps fun p o e=> ?_);have e':=aB.mp e;exact aB.mpr ⟨fun q=>e'.1 (List.mem_append_left _ q),hs.extBut p o (fun q=>e'.1 (List.mem_append_right _ (q▸hC))) e'.2⟩
theorem aJ4.code {D:Addr}{X M:List Addr}(c:aJ4 D C X M s'1 vs s')(z:Zok Zs [] s'1.heap)(fr:∀y∈X,s'1.heap.get? y=none)(hC:C∈X)(hs:Heap.SameBut C s'.heap h'):Kp s'1 {s' with heap:=h'}:=
 KW.into (KW.refl s'1) (c.kw.trans (KW.out (tk:=s'.toks) (fun z' hz=>by
  obtain ⟨ps,_,⟨o,_,e,_⟩,e2⟩:=z.at' z' hz;exact ⟨fun q=>no1 ((fr _ q).symm.trans e),fun q=>no1 ((fr _ q).symm.trans e2)⟩) fun b o hb e=>hs.extBut b o (fun q=>hb (q▸hC)) e)) fr
theorem Ev.comp {csc:Scope}{elt iter:Expr}{ifs:List Expr}{xv:AV}{items:List AV}{fn:AV->Option (Option AV)}
  (ok:fT csc x=true) (hfree:cP f.sc f.ρ csc=true) (hit:Ev g f iter xv) (hodd:odd iter=false) (hl:bL xv=some items) (hsz:items.length<=2^20) (hf:iM fn items=some vs)
  (hel:∀cenv M' d r,fn d=some r->EvB g ⟨csc,cenv,bQ f.ρ csc x d,f.A,M'⟩ (mM cenv ifs true) r.isSome/\∀v,r=some v->Ev g ⟨csc,cenv,bQ f.ρ csc x d,f.A,M'⟩ elt v):
  Ev g f (.ListComp elt [⟨.Name x px,iter,ifs,0⟩] csc pos) (.list vs):=fun s E Q o q=>by
 rw [eval_ListComp];refine yD (use:=none) o ok hfree hit hodd hl hsz hf hel fun s'1 D C X s' o'1 k'1 fr hD hC hDC c=>c.ns.elim fun m hm=>⟨m,hm,fun h' hs=> ?_⟩
 have k'2:=c.code (g.S.zok _ o'1.cx.sta) fr hC hs;exact q _ _ (o'1.kept k'2 c.toks) (c.den fr o'1.cx.lt hD hC hDC hs) (k'1.trans k'2)
def SE (g:Eg)(n:Nat):Prop:=∀f e v,evE g.cf n f.sc f.ρ e=some v->Ev g f e v
def SL (g:Eg)(n:Nat):Prop:=∀f es vs,eC g.cf n f.sc f.ρ es=some vs->Evs g f es vs
def SB (g:Eg)(n:Nat):Prop:=∀f op es b,evB g.cf n f.sc f.ρ op es=some b->∀pos,Run g f (boolOp pos op (evalEach es f.env)) fun h y=>Den (hide h f.M) y (.bool b)
def ST (g:Eg)(n:Nat):Prop:=∀f es b,aLd g.cf n f.sc f.ρ es=some b->EvB g f (mM f.env es true) b
def SI (g:Eg)(n:Nat):Prop:=∀f e b,evT g.cf n f.sc f.ρ e=some b->EvB g f (isTrue e f.env (eval e f.env)) b
def SA (g:Eg)(n:Nat):Prop:=∀f op es b,evA g.cf n f.sc f.ρ op es=some b->EvB g f (allTrue op es f.env) b
theorem SL.succ (iE:SE g n)(iL:SL g n):SL g (n+1):=fun f es vs h pos s E Q o q=>by
 rcases es with _ | ⟨e,es⟩
 ·obtain rfl:=Option.some.inj h;exact wpAny_items_nil (q _ _ o .nil (Kp.refl s))
 ·exact aL h fun v hv h=>aL h fun r hr h=>wpAny_items_cons (iE f e v hv s E _ o fun y s'1 o'1 d'1 k'1=>iL f es r hr pos s'1 E _ o'1 fun ys s'2 o'2 d'2 k'2=>q _ _ o'2 (Option.some.inj h▸ .cons (o'1.den k'2 d'1) d'2) (k'1.trans k'2)) (dW (fH hv))
theorem SB.succ (iE:SE g n)(iB:SB g n):SB g (n+1):=fun f op es b h pos=>by
 rcases es with _ | ⟨e,_ | ⟨e2,es⟩⟩
 ·rcases op with _ | _ <;> exact no1 h
 ·have:(evE g.cf n f.sc f.ρ e).bind truth=some b:=by rcases op with _ | _ <;> exact h
  exact aL this fun v hv ht=>sU ht fun e=>by subst e;exact iE f _ _ hv
 ·rcases op with _ | _
  ·refine aL h fun v hv h=>aL h fun z hz h=>sU hz fun e=> ?_
   subst e
   rcases z with _ | _
   ·exact yC (iE f _ _ hv) (fun q=>no3 q) fun _=>(Option.some.inj h).symm
   ·exact yC (iE f _ _ hv) (fun _=>iB f .And _ b h pos) fun q=>no4 q
  ·refine aL h fun v hv h=>aL h fun z hz h=>sU hz fun e=> ?_
   subst e
   rcases z with _ | _
   ·exact aDn (iE f _ _ hv) (fun _=>iB f .Or _ b h pos) fun q=>no3 q
   ·exact aDn (iE f _ _ hv) (fun q=>no4 q) fun _=>(Option.some.inj h).symm
theorem ST.succ (iI:SI g n)(iT:ST g n):ST g (n+1):=fun f es b h=>by
 rcases es with _ | ⟨e,es⟩
 ·obtain rfl:=Option.some.inj h;exact fun s E Q o q=>wpAny_pure (q _ _ o rfl (Kp.refl s))
 ·refine aL h fun z hz h=> ?_
  rcases z with _ | _
  ·exact pJ (iI f e _ hz) (fun q=>no3 q) fun _=>(Option.some.inj h).symm
  ·exact pJ (iI f e _ hz) (fun _=>iT f es b h) fun q=>no4 q
theorem SA.succ (iI:SI g n)(iA:SA g n):SA g (n+1):=fun f op es b h=>by
 rcases es with _ | ⟨e,es⟩
 ·rcases op with _ | _ <;> obtain rfl:=Option.some.inj h
  ·exact fun s E Q o q=>wpAny_allTrue_And_nil (q _ _ o rfl (Kp.refl s))
  ·exact fun s E Q o q=>wpAny_allTrue_Or_nil (q _ _ o rfl (Kp.refl s))
 ·rcases op with _ | _ <;> refine aL h fun z hz h=> ?_ <;> rcases z with _ | _
  ·exact aDo (iI f e _ hz) (fun q=>no3 q) fun _=>(Option.some.inj h).symm
  ·exact aDo (iI f e _ hz) (fun _=>iA f .And es b h) fun q=>no4 q
  ·exact aJ3 (iI f e _ hz) (fun _=>iA f .Or es b h) fun q=>no3 q
  ·exact aJ3 (iI f e _ hz) (fun q=>no4 q) fun _=>(Option.some.inj h).symm
theorem SI.succ (iE:SE g n)(iA:SA g n):SI g (n+1):=fun f e b h=>by
 rcases e with ⟨op,es,p⟩ | _ | _ | _ | _ | _ | _ | _ | _ | _ | _ | _ | _ | _ | _ | ⟨l,ops,rs,p⟩ | _ | _ | _ | _ | ⟨e,x,p⟩ | _ | _ | ⟨x,p⟩ | _ | _ | _ <;> first | exact no1 h | skip
 ·exact fun s E Q o q=>wpAny_isTrue_BoolOp (iA f op es b h s E Q o q)
 ·rcases ops with _ | ⟨op,_ | _⟩ <;> first | exact no1 h | (rcases rs with _ | ⟨r,_ | _⟩ <;> first | exact no1 h | exact aL h fun a ha h=>aL h fun c hc h=> .compare (iE f _ _ ha) (iE f _ _ hc) h (fH hc))
 ·exact aL h fun v hv h=>sU h fun e=>fun s E Q o q=>EvB.value (E:=E) (e▸iE f _ _ hv) (fun hh=>wpAny_isTrue_value hh) s Q o q
 ·exact aL h fun v hv h=>sU h fun e=>fun s E Q o q=>EvB.value (E:=E) (e▸iE f _ _ hv) (fun hh=>wpAny_isTrue_value hh) s Q o q
end
section
variable {g:Eg}{f:Fr}
theorem fK (h:eC g.cf n f.sc f.ρ es=some vs):qT f es:=qS h
theorem SE.unary (iE:SE g n){op:UnaryOp}(h:evE g.cf (n+1) f.sc f.ρ (.UnaryOp op e p)=some v):Ev g f (.UnaryOp op e p) v:=by
 rcases op with _ | _ | _ | _ <;> first | exact no1 h | skip
 refine aL h fun a ha h=> ?_
 rcases a with _ | _ | i | _ | _ | _ | _ | _ | _ | _ <;> first | exact no1 h | exact Option.some.inj h▸ .minus (iE f _ _ ha)
theorem SE.cmp (iE:SE g n){l:Expr}{ops:List CmpOp}{rs:List Expr}(h:evE g.cf (n+1) f.sc f.ρ (.Compare l ops rs p)=some v):Ev g f (.Compare l ops rs p) v:=by
 rcases ops with _ | ⟨op,_ | _⟩ <;> first | exact no1 h | (rcases rs with _ | ⟨r,_ | _⟩ <;> first | exact no1 h | skip)
 exact aL h fun a ha h=>aL h fun b hb h=>aL h fun z hz h=>Option.some.inj h▸ .compare (iE f _ _ ha) (iE f _ _ hb) hz (fH hb)
theorem SE.item (iE:SE g n){i:Expr}(h:((evE g.cf n f.sc f.ρ e).bind fun a=>(evE g.cf n f.sc f.ρ i).bind fun b=>lX a b)=some v):Ev g f (.Subscript e i p) v:=
 aL h fun _ ha h=>aL h fun _ hb h=> .item (iE f _ _ ha) (iE f _ _ hb) h
theorem SE.subs (iE:SE g n){i:Expr}(h:evE g.cf (n+1) f.sc f.ρ (.Subscript e i p)=some v):Ev g f (.Subscript e i p) v:=by
 rcases e with _ | _ | _ | _ | _ | _ | _ | _ | _ | _ | _ | _ | _ | _ | _ | _ | _ | _ | _ | _ | _ | _ | _ | ⟨x,xp⟩ | _ | _ | _ <;> first | exact iE.item h | skip
 rcases i with _ | _ | _ | _ | _ | _ | _ | _ | _ | _ | _ | _ | _ | _ | _ | _ | _ | _ | _ | _ | _ | _ | _ | _ | _ | _ | ⟨lo,hi,st,sp⟩ <;> first | exact iE.item h | skip
 rcases lo with _ | lo <;> first | exact iE.item h | skip
 rcases hi with _ | hi <;> first | exact iE.item h | skip
 rcases st with _ | st <;> first | exact iE.item h | skip
 exact aL h fun _ ha h=>aL h fun _ hb h=> .slice (iE f _ _ ha) (iE f _ _ hb) h
theorem SE.callName (iL:SL g n)(h:evE g.cf (n+1) f.sc f.ρ (.Call (.Name x q) as [] p)=some v):Ev g f (.Call (.Name x q) as [] p) v:=by
 have h:(match f.sc.names.lookup x with
  | some .globalImplicit=>if (x==("__debug__":Str)) then none else (eC g.cf n f.sc f.ρ as).bind fun vs=>match aI x vs with
   | some v=>some v
   | none=>match iK x vs with
    | some v=>some v
    | none=>match g.cf.fn x vs with
     | some v=>some v
     | none=>g.cf.cl x vs
  | _=>none)=some v:=h
 rcases hx:f.sc.names.lookup x with _ | k <;> rw [hx] at h
 ·exact no1 h
 rcases k with _ | _ | _ | _ | _ <;> first | exact no1 h | skip
 refine aNp h fun hd h=>aL h fun vs hvs h1=> ?_
 clear h
 rcases hb:aI x vs with _ | u <;> rw [hb] at h1
 ·dsimp only at h1
  rcases ht:iK x vs with _ | u <;> rw [ht] at h1
  ·dsimp only at h1
   rcases hf:g.cf.fn x vs with _ | u <;> rw [hf] at h1
   ·rcases as with _ | ⟨e,as⟩
    ·have:vs=[]:=by rcases n with _ | n <;> first | exact no1 hvs | exact (Option.some.inj hvs).symm
     exact absurd this (g.C.cl x vs v h1).2.1
    ·exact mK hvs fun m _ _ hm he hr _=> .cl hx hd (fH he) (qS hr) (iL f _ _ hvs) h1
   ·exact Option.some.inj h1▸ .fn hx hd (fK hvs) (iL f _ _ hvs) hf
  ·exact Option.some.inj h1▸ .ty hx hd (fK hvs) (iL f _ _ hvs) ht
 ·exact Option.some.inj h1▸ .bi hx hd (fK hvs) (iL f _ _ hvs) hb
theorem SE.attr (iE:SE g n)(h:evE g.cf (n+1) f.sc f.ρ (.Attribute e x p)=some v):Ev g f (.Attribute e x p) v:=by
 refine cK h fun hb h=>aL h fun a ha h=> ?_
 rcases a with _ | _ | _ | _ | _ | _ | _ | ⟨c,fs⟩ | _ | _ <;> first | exact no1 h | skip
 refine cK h fun hc h1=> ?_
 rw [Bool.and_eq_true,beq_iff_eq] at hc;have ha:evE g.cf n f.sc f.ρ e=some (.inst g.cf.c fs):=hc.1▸ha;exact .attr hb (iE f _ _ ha) (by simpa using hc.2) h1
theorem SE.meth (iE:SE g n)(iL:SL g n){m:Str}(h:evE g.cf (n+1) f.sc f.ρ (.Call (.Attribute o m ap) as [] p)=some v):Ev g f (.Call (.Attribute o m ap) as [] p) v:=by
 refine cK h fun hc h=>aL h fun a ha h=> ?_
 simp only [Bool.and_eq_true,decide_eq_true_eq] at hc
 rcases a with _ | _ | _ | x | _ | _ | l | ⟨c,fs⟩ | _ | _ <;> first | exact no1 h | skip
 ·refine kZ h (fun e h1=> ?_) fun _ h1=>cK h1 fun e h2=>aL h2 fun vs hvs h3=> ?_
  ·rw [beq_iff_eq.mp e];exact .replace hc.1.1 hc.1.2 hc.2 (iE f _ _ ha) h1
  ·rw [beq_iff_eq.mp e];exact .join hc.1.1 hc.1.2 hc.2 (fK hvs) (iE f _ _ ha) (iL f _ _ hvs) h3
 ·refine cK h fun e h1=>aL h1 fun vs hvs h2=> ?_
  rw [beq_iff_eq.mp e];exact .get hc.1.1 hc.1.2 hc.2 (fK hvs) (iE f _ _ ha) (iL f _ _ hvs) h2
 ·refine cK h fun hq h1=>aL h1 fun vs hvs h2=> ?_
  rw [Bool.and_eq_true,beq_iff_eq] at hq;have ha:evE g.cf n f.sc f.ρ o=some (.inst g.cf.c fs):=hq.1▸ha;exact .meth hc.1.1 hc.1.2 hc.2 (fK hvs) (iE f _ _ ha) hq.2 (iL f _ _ hvs) (hq.1▸h2)
theorem aJ5 {csc:Scope}{it elt:Expr}{ifs:List Expr}(iE:SE g n)(iT:ST g n):∀cenv M' d r,((aLd g.cf n csc (bQ f.ρ csc x d) ifs).bind fun z=>if z then (evE g.cf n csc (bQ f.ρ csc x d) elt).bind fun v=>some (some v) else some none)=some r->
  EvB g ⟨csc,cenv,bQ f.ρ csc x d,f.A,M'⟩ (mM cenv ifs true) r.isSome/\∀v,r=some v->Ev g ⟨csc,cenv,bQ f.ρ csc x d,f.A,M'⟩ elt v:=fun cenv M' d r h=>
 aL h fun z hz h=>by
  rcases z with _ | _
  ·obtain rfl:=Option.some.inj h;exact ⟨iT ⟨csc,cenv,bQ f.ρ csc x d,f.A,M'⟩ ifs false hz,fun v e=>no1 e⟩
  ·refine aL h fun v hv h=> ?_
   obtain rfl:=Option.some.inj h;exact ⟨iT ⟨csc,cenv,bQ f.ρ csc x d,f.A,M'⟩ ifs true hz,fun v' e=>Option.some.inj e▸iE ⟨csc,cenv,bQ f.ρ csc x d,f.A,M'⟩ elt v hv⟩
theorem aLk {csc:Scope}{ρ:Loc}{elt:Expr}{gens:List Comprehension}{C:List Comprehension->AV->Prop}(h:evE cf (n+1) sc ρ (.ListComp elt gens csc p)=some v)
  (q:∀x px it ifs xv l vs,fT csc x=true->cP sc ρ csc=true->evE cf n sc ρ it=some xv->bL xv=some l->l.length<=2^20->
   iM (fun v=>(aLd cf n csc (bQ ρ csc x v) ifs).bind fun z=>if z then (evE cf n csc (bQ ρ csc x v) elt).bind fun v=>some (some v) else some none) l=some vs->C [⟨.Name x px,it,ifs,0⟩] (.list vs)):C gens v:=by
 rcases gens with _ | ⟨⟨t,it,ifs,k⟩,gens⟩
 ·exact no1 h
 rcases t with _ | _ | _ | _ | _ | _ | _ | _ | _ | _ | _ | _ | _ | _ | _ | _ | _ | _ | _ | _ | _ | _ | _ | ⟨x,px⟩ | _ | _ | _ <;> first | exact no1 h | skip
 rcases k with (_ | k) | k <;> first | exact no1 h | skip
 ·rcases gens with _ | _
  ·refine cK h fun hk h=>aL h fun xv hxv h=>aL h fun l hl h=>cK h fun hn h=>kJ h fun vs hvs e=> ?_
   rw [Bool.and_eq_true] at hk;exact e▸q x px it ifs xv l vs hk.1 hk.2 hxv hl hn hvs
  ·exact no1 h
theorem aOn {ρ:Loc}{ks:List (Option Expr)}{xs:List Expr}{C:List (Option Expr)->List Expr->AV->Prop}(h:evE cf (n+1) sc ρ (.Dict ks xs p)=some v)(q:∀k v kk vk kp vp,C [some (.Constant (.int k) kk kp)] [.Constant (.int v) vk vp] (.dict [(k,v)])):C ks xs v:=by
 rcases ks with _ | ⟨k,ks⟩
 ·exact no1 h
 rcases k with _ | k
 ·exact no1 h
 rcases k with _ | _ | _ | _ | _ | _ | _ | _ | _ | _ | _ | _ | _ | _ | _ | _ | _ | _ | _ | ⟨k,_,_⟩ | _ | _ | _ | _ | _ | _ | _ <;> first | exact no1 h | skip
 rcases k with _ | _ | k | _ | _ | _ | _ | _ <;> first | exact no1 h | skip
 rcases ks with _ | _
 ·rcases xs with _ | ⟨x,xs⟩
  ·exact no1 h
  rcases x with _ | _ | _ | _ | _ | _ | _ | _ | _ | _ | _ | _ | _ | _ | _ | _ | _ | _ | _ | ⟨x,_,_⟩ | _ | _ | _ | _ | _ | _ | _ <;> first | exact no1 h | skip
  rcases x with _ | _ | x | _ | _ | _ | _ | _ <;> first | exact no1 h | skip
  rcases xs with _ | _
  ·exact Option.some.inj h▸q _ _ _ _ _ _
  ·exact no1 h
 ·exact no1 h
theorem SE.dict {ks:List (Option Expr)}{xs:List Expr}(h:evE g.cf (n+1) f.sc f.ρ (.Dict ks xs p)=some v):e= .Dict ks xs p->EvF g f e v:=
 aOn (C:=fun ks xs v=>e= .Dict ks xs p->EvF g f e v) h fun _ _ _ _ _ _ he=>EvF.pairs he
theorem SE.succ (iE:SE g n)(iL:SL g n)(iB:SB g n)(iT:ST g n):SE g (n+1):=fun f e v h=>by
 rcases e with ⟨op,es,p⟩ | _ | ⟨l,op,r,p⟩ | _ | _ | _ | _ | _ | ⟨elt,gens,csc,p⟩ | _ | _ | _ | _ | _ | _ | _ | ⟨fe,as,ks,p⟩ | _ | _ | ⟨k,_,_⟩ | _ | _ | _ | ⟨x,p⟩ | ⟨es,p⟩ | ⟨es,k,p⟩ | _ <;> first | exact no1 h | skip
 ·exact aL h fun b hb h=>Option.some.inj h▸fun s E Q o q=>iB f op es b hb p s E Q o q
 ·exact aL h fun a ha h=>aL h fun b hb h=>(EvF.bin (iE f _ _ ha) (iE f _ _ hb) h).ev
 ·exact iE.unary h
 ·exact (SE.dict h rfl).ev
 ·exact aLk (C:=fun gens v=>Ev g f (.ListComp elt gens csc p) v) h fun x px it ifs xv l vs h1 h2 h3 h4 h5 h6=> .comp h1 h2 (iE f _ _ h3) (fH h3) h4 h5 h6 (aJ5 (it:=it) iE iT)
 ·exact iE.cmp h
 ·rcases ks with _ | _
  ·rcases fe with _ | _ | _ | _ | _ | _ | _ | _ | _ | _ | _ | _ | _ | _ | _ | _ | _ | _ | _ | _ | _ | _ | _ | _ | _ | _ | _ <;> first | exact no1 h | exact iE.meth iL h | exact SE.callName iL h
  ·rcases fe with _ | _ | _ | _ | _ | _ | _ | _ | _ | _ | _ | _ | _ | _ | _ | _ | _ | _ | _ | _ | _ | _ | _ | _ | _ | _ | _ <;> exact no1 h
 ·exact .const h
 ·exact iE.attr h
 ·exact iE.subs h
 ·exact aNp h fun hd h=> .name hd h
 ·exact cK h fun hn h=>kJ h fun vs hvs e=>e▸(EvF.list hn (fJ hvs) (iL f _ _ hvs)).ev
 ·exact cK h fun hn h=>kJ h fun vs hvs e=>e▸ .tuple hn (fJ hvs) (iL f _ _ hvs)
theorem aAz (g:Eg):∀n,SE g n/\SL g n/\SB g n/\ST g n/\SI g n/\SA g n
 | 0=>⟨fun _ _ _ h=>no1 h,fun _ _ _ h=>no1 h,fun _ _ _ _ h=>no1 h,fun _ _ _ h=>no1 h,fun _ _ _ h=>no1 h,fun _ _ _ _ h=>no1 h⟩
 | n+1=>by obtain ⟨iE,iL,iB,iT,iI,iA⟩:=aAz g n;exact ⟨SE.succ iE iL iB iT,SL.succ iE iL,SB.succ iE iB,ST.succ iI iT,SI.succ iE iA,SA.succ iI iA⟩
end
section
variable {g:Eg}{f:Fr}
theorem mQ (h:evE g.cf n f.sc f.ρ e=some v):Ev g f e v:=(aAz g n).1 f e v h
theorem aOo {b:Bool}(h:evT g.cf n f.sc f.ρ e=some b):EvB g f (isTrue e f.env (eval e f.env)) b:=(aAz g n).2.2.2.2.1 f e b h
theorem aDw (h:(match aI "dict" vs with
  | some v=>some v
  | none=>match iK "dict" vs with
   | some v=>some v
   | none=>match g.cf.fn "dict" vs with
    | some v=>some v
    | none=>g.cf.cl "dict" vs)=some v):aAo vs=some v:=by
 have hb:aI "dict" vs=none:=rfl;have ht:iK "dict" vs=aAo vs:=rfl;have no:g.mg "dict"=none:=(g.S.ty _ "dict" (.tail _ (.tail _ (.head _)))).1;rw [hb,ht] at h;dsimp only at h
 rcases hd:aAo vs with _ | u <;> rw [hd] at h
 ·dsimp only at h
  rcases hf:g.cf.fn "dict" vs with _ | u <;> rw [hf] at h
  ·exact no1 (no.symm.trans (g.C.cl _ _ _ h).1)
  ·obtain ⟨a,_,_,hg,_⟩:=g.C.fn _ _ _ hf;exact no1 (no.symm.trans hg)
 ·exact h
theorem aHz (hf:pF e=true)(h:evE g.cf n f.sc f.ρ e=some v):EvF g f e v:=by
 rcases n with _ | n
 ·exact no1 h
 rcases e with _ | _ | ⟨l,op,r,p⟩ | _ | _ | _ | _ | _ | _ | _ | _ | _ | _ | _ | _ | _ | ⟨fe,as,ks,p⟩ | _ | _ | _ | _ | _ | _ | _ | ⟨es,p⟩ | _ | _ <;> first | exact no3 hf | skip
 ·exact aL h fun a ha h=>aL h fun b hb h=> .bin (mQ ha) (mQ hb) h
 ·rcases fe with _ | _ | _ | _ | _ | _ | _ | _ | _ | _ | _ | _ | _ | _ | _ | _ | _ | _ | _ | _ | _ | _ | _ | ⟨x,q⟩ | _ | _ | _ <;> first | exact no3 hf | skip
  obtain rfl:=beq_iff_eq.mp (show (x==("dict":Str))=true from hf)
  rcases ks with _ | _
  ·have h:(match f.sc.names.lookup (ofString "dict") with
    | some .globalImplicit=>if ((ofString "dict")==("__debug__":Str)) then none else (eC g.cf n f.sc f.ρ as).bind fun vs=>match aI "dict" vs with
     | some v=>some v
     | none=>match iK "dict" vs with
      | some v=>some v
      | none=>match g.cf.fn "dict" vs with
       | some v=>some v
       | none=>g.cf.cl "dict" vs
    | _=>none)=some v:=h
   rcases hx:f.sc.names.lookup (ofString "dict") with _ | k <;> rw [hx] at h
   ·exact no1 h
   rcases k with _ | _ | _ | _ | _ <;> first | exact no1 h | skip
   exact aNp h fun _ h=>aL h fun vs hvs h1=> .dict hx (fK hvs) ((aAz g n).2.1 f as vs hvs) (aDw h1)
  ·exact no1 h
 ·exact cK h fun hn h=>kJ h fun vs hvs e=>e▸ .list hn (fJ hvs) ((aAz g n).2.1 f es vs hvs)
end
set_option genInjectivity false
set_option genSizeOfSpec false
def aH0 (h:Heap)(O:List Addr):Prop:=∀a∈O,∃o,h.get? a=some o/\o.cls≠ .type "tuple"
theorem cC (a:AV)(r:List AV):eM (a::r)=(fU a&&eM r):=rfl
theorem mR:∀{l:List AV} (i:Nat) (h:i<l.length),eM l=true->fU l[i]=true
 | a::r,0,_,h=>by rw [cC] at h;exact (Bool.and_eq_true_iff.mp h).1
 | a::r,i+1,hi,h=>by
  rw [cC] at h;exact mR i (Nat.lt_of_succ_lt_succ hi) (Bool.and_eq_true_iff.mp h).2
theorem Den.flat_hide {M:List Addr}(hO:aH0 h O)(hd:Den (hide h M) y v):fU v=true->Den (hide h (M++O)) y v:=by
 induction hd with
 | none=>intro _;exact .none
 | bool b=>intro _;exact .bool b
 | int i t=>intro _;exact .int i t
 | str s t=>intro _;exact .str s t
 | list _ _ _ _=>intro e;exact no3 e
 | range _=>intro e;exact no3 e
 | dict _ _=>intro e;exact no3 e
 | inst _ _ _ _=>intro e;exact no3 e
 | addr a=>intro _;exact .addr a
 | tup ht hl _ ih=>
  intro e
  replace e:eM _=true:=e
  obtain ⟨o,ho,hc,hdat⟩:=ht;obtain ⟨hm,ho⟩:=aB.mp ho;refine .tup ⟨o,aB.mpr ⟨fun q=> ?_,ho⟩,hc,hdat⟩ hl fun i hi=>ih i hi (mR i hi e)
  rcases List.mem_append.mp q with q | q
  ·exact hm q
  ·obtain ⟨o',e',hn⟩:=hO _ q;exact hn (Option.some.inj (ho.symm.trans e')▸hc)
theorem bI.flat_hide {M:List Addr}(hO:aH0 h O)(hd:bI (hide h M) ys l)(e:eM l=true):bI (hide h (M++O)) ys l:=
 ⟨hd.1,fun i y v h1 h2=>(hd.2 i y v h1 h2).flat_hide hO (by
  obtain ⟨hi,rfl⟩:=List.getElem?_eq_some_iff.mp h2;exact mR i hi e)⟩
def Own (h:Heap)(M:List Addr)(a:Addr):AV->Prop
 | .list l=>(∃ vs,h.PlainList a vs/\bI (hide h M) vs.toList l)/\eM l=true
 | .dict l=>∃kvs,aP h a kvs/\dL kvs l
 | _=>False
theorem aP.at (x:aP h a kvs)(k:∀o,h.get? a=some o->h'.get? a=some o):aP h' a kvs:=⟨x.1,fun p w=>(x.2 p w).at k⟩
theorem Own.up {M M':List Addr}(up:∀b o,(hide h M).get? b=some o->(hide h' M').get? b=some o)(k:∀o,h.get? a=some o->h'.get? a=some o)(o:Own h M a v):Own h' M' a v:=by
 rcases v with _ | _ | _ | _ | l | _ | l | _ | _ | _ <;> first | exact o.elim | skip
 ·exact ⟨o.1.imp fun _ q=>⟨q.1.at k,q.2.keeps up⟩,o.2⟩
 ·exact o.imp fun _ q=>⟨q.1.at k,q.2⟩
theorem Own.den {M M':List Addr}(up:∀b o,(hide h M).get? b=some o->(hide h M').get? b=some o)(ha:a∉M')(o:Own h M a v):Den (hide h M') (.ref a) v:=by
 rcases v with _ | _ | _ | _ | l | _ | l | _ | _ | _ <;> first | exact o.elim | skip
 ·obtain ⟨⟨vs,⟨n,hp⟩,hd⟩,_⟩:=o;exact .mkList ⟨n,aB.mpr ⟨ha,hp⟩⟩ (hd.keeps up)
 ·obtain ⟨kvs,hp,hi⟩:=o;exact .dict (hp.at fun o e=>aB.mpr ⟨ha,e⟩) hi
structure Bk where
 sc:Scope
 env:Env
 A:Around
 s'0:Shared
 F:List Addr
structure aRy (g:Eg)(b:Bk):Prop where
 env:vL b.sc b.env
 room:cW b.A g.d
 sta:g.Sta b.s'0.heap
 kind:b.env.scope.kind= .function
 globals:b.env.globals=mainGlobals
 builtins:b.env.builtins=builtinsNs
 new:∀a∈b.F,b.s'0.heap.get? a=none
 loc:b.env.locals∈b.F
 cell:∀x c,b.env.cells.lookup x=some c->c∈b.F/\c≠b.env.locals
 apart:∀x y c,b.env.cells.lookup x=some c->b.env.cells.lookup y=some c->x=y
 all:∀x,b.env.kindOf x=some .cell->(b.env.cells.lookup x).isSome=true
structure Rel (g:Eg)(b:Bk)(S O:List Addr)(ρ:St)(s:Shared):Prop where
 ok:aRy g b
 kp:Kp b.s'0 s
 newO:∀a∈O,b.s'0.heap.get? a=none
 noTup:aH0 s.heap O
 ex:∀a∈S++b.F++O,∃o,s.heap.get? a=some o
 apF:∀a∈O,a∉b.F
 apS:∀a∈O,a∉S
 tabs:∀y∈Zt,y∈S
 frame:∃m,s.heap.Ns b.env.locals m
 cells:∀x c,b.env.cells.lookup x=some c->∃v,s.heap.IsCell c v
 vals:∀x v,ρ x=some (.val v)->∃u,cH b.env s.heap x u/\Den (hide s.heap (S++b.F++O)) u v
 owns:∀x v,ρ x=some (.own v)->∃a,cH b.env s.heap x (.ref a)/\a∈O/\Own s.heap (S++b.F++O) a v
 ownsAp:∀x y v v' a,ρ x=some (.own v)->ρ y=some (.own v')->cH b.env s.heap x (.ref a)->cH b.env s.heap y (.ref a)->x=y
theorem aJ6 {m m':Str->Option Value}(x:h.Ns a m)(y:h.Ns a m'):m=m':=funext fun n=>x.agree y n
theorem yE {u v:Option Value}(x:h.IsCell c u)(y:h.IsCell c v):u=v:=by
 obtain ⟨o,ho,hd⟩:=x;obtain ⟨o',ho',hd'⟩:=y;obtain rfl:=Option.some.inj (ho.symm.trans ho');exact Data.cell.inj (hd.symm.trans hd')
theorem cH.inj {u v:Value}(a:cH env h x u)(b:cH env h x v):u=v:=by
 rcases a with ⟨q,m,hn,hm⟩ | ⟨q,c,hc,hi⟩ | ⟨q,_,c,hc,hi⟩ <;> rcases b with ⟨q',m',hn',hm'⟩ | ⟨q',c',hc',hi'⟩ | ⟨q',_,c',hc',hi'⟩ <;> first | exact absurd (q.symm.trans q') (by decide) | skip
 ·exact Option.some.inj (hm.symm.trans ((congrFun (aJ6 hn hn') x).trans hm'))
 ·exact Option.some.inj (yE hi (Option.some.inj (hc'.symm.trans hc)▸hi'))
 ·exact Option.some.inj (yE hi (Option.some.inj (hc'.symm.trans hc)▸hi'))
section
variable {g:Eg}{b:Bk}
theorem Rel.sta (R:Rel g b S O ρ s):g.Sta s.heap:=g.S.keeps _ _ R.kp R.ok.sta
theorem Rel.zok (R:Rel g b S O ρ s):Zok Zs [] s.heap:=g.S.zok _ R.sta
theorem Rel.code (R:Rel g b S O ρ s):∀z∈Zs,z.1∉b.F++O/\z.2∉b.F++O:=fun z hz=>by
 obtain ⟨ps,_,⟨o,_,e,_⟩,e2⟩:=(g.S.zok _ R.ok.sta).at' z hz;have n:∀y∈b.F++O,b.s'0.heap.get? y=none:=fun y hy=>(List.mem_append.mp hy).elim (R.ok.new y) (R.newO y)
 exact ⟨fun q=>no1 ((n _ q).symm.trans e),fun q=>no1 ((n _ q).symm.trans e2)⟩
theorem Rel.fresh (R:Rel g b S O ρ s):∀y∈b.F++O,b.s'0.heap.get? y=none:=fun y hy=>(List.mem_append.mp hy).elim (R.ok.new y) (R.newO y)
theorem Rel.sub {ρ':St}(R:Rel g b S O ρ s)(h:∀x sl,ρ' x=some sl->ρ x=some sl):Rel g b S O ρ' s:=
 {R with
  vals:=fun x v e=>R.vals x v (h _ _ e)
  owns:=fun x v e=>R.owns x v (h _ _ e)
  ownsAp:=fun x y v v' a e e'=>R.ownsAp x y v v' a (h _ _ e) (h _ _ e')}
theorem Rel.step {S1:List Addr}(R:Rel g b S1 O ρ s)(apS:∀a∈O,a∉S)(tabs:∀y∈Zt,y∈S)(kp:Kp b.s'0 s')(ex:∀a∈S++b.F++O,∃o,s'.heap.get? a=some o)(nt:aH0 s'.heap O)(up:∀p o,(hide s.heap (S1++b.F++O)).get? p=some o->(hide s'.heap (S++b.F++O)).get? p=some o)
  (fr:∃m,s'.heap.Ns b.env.locals m) (ce:∀x c,b.env.cells.lookup x=some c->∃v,s'.heap.IsCell c v) (bd:∀x u,(ρ x).isSome=true->cH b.env s.heap x u->cH b.env s'.heap x u)
  (ow:∀x v a,ρ x=some (.own v)->cH b.env s.heap x (.ref a)->a∈O->∀o,s.heap.get? a=some o->s'.heap.get? a=some o):Rel g b S O ρ s':=
 {R with
  apS:=apS
  tabs:=tabs
  kp:=kp
  noTup:=nt
  ex:=ex
  frame:=fr
  cells:=ce
  vals:=fun x v e=>(R.vals x v e).imp fun u h=>⟨bd x u (e▸rfl) h.1,h.2.keeps up⟩
  owns:=fun x v e=>(R.owns x v e).imp fun a h=>⟨bd x _ (e▸rfl) h.1,h.2.1,h.2.2.up up (ow x v a e h.1 h.2.1)⟩
  ownsAp:=fun x y v v' a e e' h1 h2=>by
   obtain ⟨a1,g1,_,_⟩:=R.owns x v e;obtain ⟨a2,g2,_,_⟩:=R.owns y v' e';have e1:=(bd x _ (e▸rfl) g1).inj h1;have e2:=(bd y _ (e'▸rfl) g2).inj h2;exact R.ownsAp x y v v' a e e' (e1▸g1) (e2▸g2)}
theorem Rel.kept (R:Rel g b S O ρ s)(k:Kp s s'):Rel g b S O ρ s':=
 have nO:∀a∈O,a∉Zt:=fun a ha q=>R.apS a ha (R.tabs a q)
 R.step R.apS R.tabs (R.kp.trans k) (fun a ha=>k.ex R.zok (R.ex a ha)) (fun a ha=>(R.noTup a ha).imp fun o h=>⟨k.get _ _ (nO a ha) h.1,h.2⟩) (k.hide fun y hy=>List.mem_append_left _ (List.mem_append_left _ (R.tabs y hy)))
  (R.frame.imp fun _ h=>KW.ns k R.zok (nomatch ·) h) (fun x c e=>(R.cells x c e).imp fun _ h=>KW.cell k R.zok (nomatch ·) h) (fun x u _ h=>k.bound R.zok h) fun x v a _ _ ha o e=>k.get _ _ (nO a ha) e
theorem vO (e:ρ.frozen x=some v):ρ x=some (.val v):=by
 unfold St.frozen at e
 rcases h:ρ x with _ | ⟨v' | v'⟩ <;> rw [h] at e
 ·exact no1 e
 ·exact congrArg _ (congrArg _ (Option.some.inj e))
 ·exact no1 e
theorem Rel.cxFrozen (R:Rel g b S O ρ s)(ht:0<s.toks):Ok g ⟨b.sc,b.env,ρ.frozen,b.A,S++b.F++O⟩ s where
 env:=R.ok.env
 room:=R.ok.room
 ht:=ht
 cx:=⟨R.sta,R.ok.kind,R.ok.globals,R.ok.builtins,fun x v e=>R.vals x v (vO e),R.ex,fun y hy=>List.mem_append_left _ (List.mem_append_left _ (R.tabs y hy))⟩
theorem Rel.cxAll (R:Rel g b S O ρ s)(ht:0<s.toks):Ok g ⟨b.sc,b.env,ρ.all,b.A,S++b.F⟩ s where
 env:=R.ok.env
 room:=R.ok.room
 ht:=ht
 cx:=⟨R.sta,R.ok.kind,R.ok.globals,R.ok.builtins,fun x v e=>by
  have up:∀p o,(hide s.heap (S++b.F++O)).get? p=some o->(hide s.heap (S++b.F)).get? p=some o:=aT (fun p h1 h2=>absurd (List.mem_append_left _ h1) h2) fun p o _ e=>e
  refine kJ (show (ρ x).map Slot.av=some v from e) fun sl hs e=> ?_
  rcases sl with v' | v'
  ·obtain rfl:v'=v:=e;exact (R.vals x _ hs).imp fun u h=>⟨h.1,h.2.keeps up⟩
  ·obtain rfl:v'=v:=e;obtain ⟨a,h1,h2,h3⟩:=R.owns x _ hs;exact ⟨_,h1,h3.den up fun q=>(List.mem_append.mp q).elim (R.apS a h2) (R.apF a h2)⟩,fun a ha=>R.ex a (List.mem_append_left _ ha),fun y hy=>List.mem_append_left _ (R.tabs y hy)⟩
end
section
variable {g:Eg}{b:Bk}{X:List Addr}{tk:Nat}
theorem Rel.addS (R:Rel g b S O ρ s)(k:Kp s s')(fr:∀y∈X,s.heap.get? y=none)(ex:∀y∈X,∃o,s'.heap.get? y=some o):Rel g b (S++X) O ρ s':=by
 have R':=R.kept k;have nx:∀p,(∃ o,s.heap.get? p=some o)->p∉X:=fun p e q=>e.elim fun o e=>no1 ((fr p q).symm.trans e)
 have nO:∀a∈O,a∉Zt:=fun a ha q=>R.apS a ha (R.tabs a q)
 refine R.step (fun a ha q=>(List.mem_append.mp q).elim (R.apS a ha) (nx a (R.ex a (List.mem_append_right _ ha)))) (fun y hy=>List.mem_append_left _ (R.tabs y hy)) R'.kp (fun a ha=> ?_) R'.noTup (fun p o e=> ?_) R'.frame R'.cells (fun x u _ h=>k.bound R.zok h) fun x v a _ _ ha o e=>k.get _ _ (nO a ha) e
 ·simp only [List.mem_append] at ha
  rcases ha with ((q | q) | q) | q
  ·exact R'.ex a (List.mem_append_left _ (List.mem_append_left _ q))
  ·exact ex a q
  ·exact R'.ex a (List.mem_append_left _ (List.mem_append_right _ q))
  ·exact R'.ex a (List.mem_append_right _ q)
 ·have e':=aB.mp e;refine aB.mpr ⟨fun q=>e'.1 ?_,(aB.mp (k.hide (M:=S++b.F++O) (fun y hy=>List.mem_append_left _ (List.mem_append_left _ (R.tabs y hy))) p o e)).2⟩;simp only [List.mem_append] at q ⊢;exact q.imp (fun q=>q.imp (fun q=>q.resolve_right (nx p ⟨o,e'.2⟩)) id) id
theorem Rel.move {S1:List Addr}(R:Rel g b S1 O ρ s)(hS:∀y∈S,y∈S1)(tabs:∀y∈Zt,y∈S)(hX:∀y∈X,y∈S1/\y∉b.F/\b.s'0.heap.get? y=none)(ex:∀y∈X,y∈S->∃o,h'.get? y=some o)(k:∀p o,p∉X->s.heap.get? p=some o->h'.get? p=some o):Rel g b S O ρ {s with heap:=h',toks:=tk}:=by
 have cd:∀z∈Zs,z.1∉X/\z.2∉X:=fun z hz=>by
  obtain ⟨ps,_,⟨o,_,e,_⟩,e2⟩:=(g.S.zok _ R.ok.sta).at' z hz;exact ⟨fun q=>no1 ((hX _ q).2.2.symm.trans e),fun q=>no1 ((hX _ q).2.2.symm.trans e2)⟩
 have kw:KW X Zs s {s with heap:=h',toks:=tk}:=KW.out cd k;have nF:∀a∈b.F,a∉X:=fun a ha q=>(hX a q).2.1 ha
 have nO:∀a∈O,a∉X:=fun a ha q=>R.apS a ha (hX a q).1
 have sub:∀p,p∈S++b.F++O->p∈S1++b.F++O:=fun p q=>by
  simp only [List.mem_append] at q ⊢;exact q.imp (fun q=>q.imp (hS p) id) id
 refine R.step (fun a ha q=>R.apS a ha (hS a q)) tabs (KW.into R.kp kw fun y hy=>(hX y hy).2.2) (fun a ha=> ?_) (fun a ha=>(R.noTup a ha).imp fun o h=>⟨k _ _ (nO a ha) h.1,h.2⟩)
  (aT (fun p h1 h2=>absurd (sub p h1) h2) fun p o hp e=>k p o (fun q=>hp (List.mem_append_left _ (List.mem_append_left _ (hX p q).1))) e)
  (R.frame.imp fun _ h=>kw.ns R.zok (nF _ R.ok.loc) h) (fun x c e=>(R.cells x c e).imp fun _ h=>kw.cell R.zok (nF _ (R.ok.cell x c e).1) h) (fun x u _ h=>h.kw kw R.zok (nF _ R.ok.loc) fun c e=>nF _ (R.ok.cell x c e).1) fun x v a _ _ ha o e=>k _ _ (nO a ha) e
 by_cases q:a∈X
 ·rcases List.mem_append.mp ha with z | z
  ·exact (List.mem_append.mp z).elim (ex a q) fun z=>absurd q (nF a z)
  ·exact absurd q (nO a z)
 ·exact (R.ex a (sub a ha)).imp fun o e=>k a o q e
def sY (b:Bk)(ρ:St)(h:Heap)(M O:List Addr)(x:Str)(y:Value):Slot->Prop
 | .val v=>Den (hide h M) y v
 | .own v=>∃a,y= .ref a/\a∈O/\Own h M a v/\∀z v',z≠x->ρ z=some (.own v')->¬cH b.env h z (.ref a)
theorem aOp {z:Str}{sl sl':Slot}{C:Prop}(e:(ρ.set x sl) z=some sl')(q1:z=x->sl=sl'->C)(q2:z≠x->(ρ.del x) z=some sl'->C):C:=by
 by_cases q:z=x
 ·exact q1 q (Option.some.inj ((if_pos q).symm.trans e))
 ·exact q2 q ((if_neg q).trans ((if_neg q).symm.trans e))
theorem aA0 {z:Str}{sl:Slot}(e:(ρ.del x) z=some sl):z≠x/\ρ z=some sl:=by
 by_cases q:z=x
 ·exact no1 ((if_pos q).symm.trans e)
 ·exact ⟨q,(if_neg q).symm.trans e⟩
theorem Rel.put (R:Rel g b S O (ρ.del x) s){sl:Slot}(bd:cH b.env s.heap x y)(hok:sY b ρ s.heap (S++b.F++O) O x y sl):Rel g b S O (ρ.set x sl) s:=
 {R with
  vals:=fun z v e=>aOp e (fun q e1=>by subst q e1;exact ⟨y,bd,hok⟩) fun _ e=>R.vals z v e
  owns:=fun z v e=>aOp e (fun q e1=>by subst q e1;obtain ⟨a,rfl,h1,h2,_⟩:=hok;exact ⟨a,bd,h1,h2⟩) fun _ e=>R.owns z v e
  ownsAp:=fun z z' v v' a e e' h h'=>aOp e
   (fun q e1=>aOp e' (fun q' _=>q.trans q'.symm) fun q' e2=>by
    subst q e1;obtain ⟨a',rfl,_,_,h3⟩:=hok;exact absurd (Value.ref.inj (bd.inj h)▸h') (h3 z' v' q' (aA0 e2).2))
   fun q e2=>aOp e' (fun q' e1=>by
    subst q' e1;obtain ⟨a',rfl,_,_,h3⟩:=hok;exact absurd (Value.ref.inj (bd.inj h')▸h) (h3 z v q (aA0 e2).2)) fun _ e'=>R.ownsAp z z' v v' a e2 e' h h'}
theorem Rel.stored (R:Rel g b S O ρ s){sl:Slot}(hc:c∈b.F)(hs:Heap.SameBut c s.heap h')(ex:∃o,h'.get? c=some o)(fr:∃m,h'.Ns b.env.locals m)(ce:∀x c,b.env.cells.lookup x=some c->∃v,h'.IsCell c v)
  (bd:∀z u,z≠x->cH b.env s.heap z u->cH b.env h' z u) (bx:cH b.env h' x y) (hok:sY b ρ s.heap (S++b.F++O) O x y sl):Rel g b S O (ρ.set x sl) {s with heap:=h',toks:=tk}:=by
 have nO:∀a∈O,a≠c:=fun a ha q=>R.apF a ha (q▸hc)
 have up:∀p o,(hide s.heap (S++b.F++O)).get? p=some o->(hide h' (S++b.F++O)).get? p=some o:=aT (fun p h1 h2=>absurd h1 h2) fun p o hp e=>hs.extBut p o (fun q=>hp (q▸List.mem_append_left _ (List.mem_append_right _ hc))) e
 have kw:KW (b.F++O) Zs s {s with heap:=h',toks:=tk}:=KW.out R.code fun p o hp e=>hs.extBut p o (fun q=>hp (q▸List.mem_append_left _ hc)) e
 refine Rel.put ((R.sub fun z sl e=>(aA0 e).2).step (s':={s with heap:=h',toks:=tk}) R.apS R.tabs (KW.into R.kp kw R.fresh) (fun a ha=> ?_) (fun a ha=>(R.noTup a ha).imp fun o h=>⟨hs.extBut _ _ (nO a ha) h.1,h.2⟩) up fr ce (fun z u e h=> ?_) fun z v a _ _ ha o e=>hs.extBut _ _ (nO a ha) e) bx ?_
 ·by_cases q:a=c
  ·exact q▸ex
  ·exact (R.ex a ha).imp fun o e=>hs.extBut a o q e
 ·obtain ⟨sl',e⟩:=Option.isSome_iff_exists.mp e;exact bd z u (aA0 e).1 h
 ·rcases sl with v | v
  ·exact Den.keeps up hok
  ·obtain ⟨a,e,h1,h2,h3⟩:=hok;refine ⟨a,e,h1,h2.up up fun o e=>hs.extBut _ _ (nO a h1) e,fun z v' hz e' hb=> ?_⟩;obtain ⟨a',g1,_,_⟩:=R.owns z v' e';exact h3 z v' hz e' (Value.ref.inj ((bd z _ hz g1).inj hb)▸g1)
theorem sZ (R:Rel g b S O ρ s){sl:Slot}(ht:0<s.toks)(hx:b.env.kindOf x=some .local\/b.env.kindOf x=some .cell)(hok:sY b ρ s.heap (S++b.F++O) O x y sl){Q:Unit->Shared->Prop}
  (h:∀h' tk c,c∈b.F->Heap.SameBut c s.heap h'->Rel g b S O (ρ.set x sl) {s with heap:=h',toks:=tk}->0<tk->Q () {s with heap:=h',toks:=tk}):wpAny (model g.prog g.w) b.A (storeName b.env x y) Q E s:=by
 rcases hx with hx | hx
 ·obtain ⟨m,hn⟩:=R.frame;refine wpAny_with_toks (n:=1) ht (wpAny_storeName_local hx hn (fun h' hn' hs ht'=>h h' _ _ R.ok.loc hs (R.stored R.ok.loc hs (by obtain ⟨o,_,_,e,_⟩:=hn';exact ⟨o,e⟩) ⟨_,hn'⟩ (fun x c e=>(R.cells x c e).imp fun _ h=>h.sameBut hs (R.ok.cell x c e).2) (fun z u hz hb=> ?_) (.inl ⟨hx,_,hn',if_pos rfl⟩) hok) ht') (by rw [R.ok.kind]; rfl))
  rcases hb with ⟨q,m',hn2,hm⟩ | ⟨q,c,hc,hi⟩ | ⟨q,q2,c,hc,hi⟩
  ·exact .inl ⟨q,_,hn',(if_neg hz).trans ((congrFun (aJ6 hn hn2) z).trans hm)⟩
  ·exact .inr (.inl ⟨q,c,hc,hi.sameBut hs (R.ok.cell z c hc).2⟩)
  ·exact .inr (.inr ⟨q,q2,c,hc,hi.sameBut hs (R.ok.cell z c hc).2⟩)
 ·obtain ⟨c,hc⟩:=Option.isSome_iff_exists.mp (R.ok.all x hx);obtain ⟨hcF,hcL⟩:=R.ok.cell x c hc;obtain ⟨v,hv⟩:=R.cells x c hc;refine wpAny_with_toks (n:=1) ht (wpAny_storeName_cell R.ok.kind hx hc hv fun h' hi hs ht'=>h h' _ _ hcF hs (R.stored hcF hs (hi.imp fun o e=>e.1) (R.frame.imp fun _ h=>h.sameBut hs (Ne.symm hcL)) (fun z c' e=> ?_) (fun z u hz hb=> ?_) (.inr (.inl ⟨hx,c,hc,hi⟩)) hok) ht')
  ·by_cases q:c'=c
   ·exact ⟨_,q▸hi⟩
   ·exact (R.cells z c' e).imp fun _ h=>h.sameBut hs q
  ·have ne:∀c',b.env.cells.lookup z=some c'->c'≠c:=fun c' e q=>hz (R.ok.apart z x c (q▸e) hc)
   rcases hb with ⟨q,m',hn2,hm⟩ | ⟨q,c',hc',hi'⟩ | ⟨q,q2,c',hc',hi'⟩
   ·exact .inl ⟨q,m',hn2.sameBut hs (Ne.symm hcL),hm⟩
   ·exact .inr (.inl ⟨q,c',hc',hi'.sameBut hs (ne c' hc')⟩)
   ·exact .inr (.inr ⟨q,q2,c',hc',hi'.sameBut hs (ne c' hc')⟩)
theorem Rel.addO (R:Rel g b S O ρ s)(k:Kp s s')(fr:s.heap.get? a=none)(ex:∃o,s'.heap.get? a=some o/\o.cls≠ .type "tuple"):Rel g b S (a::O) ρ s':=by
 have R':=R.kept k;have nx:∀p,(∃ o,s.heap.get? p=some o)->p≠a:=fun p e q=>e.elim fun o e=>no1 (fr.symm.trans (q▸e))
 have up:∀p o,(hide s.heap (S++b.F++O)).get? p=some o->(hide s'.heap (S++b.F++a::O)).get? p=some o:=fun p o e=>by
  have e':=aB.mp e;refine aB.mpr ⟨fun q=>e'.1 ?_,(aB.mp (k.hide (M:=S++b.F++O) (fun y hy=>List.mem_append_left _ (List.mem_append_left _ (R.tabs y hy))) p o e)).2⟩
  rcases List.mem_append.mp q with q | q
  ·exact List.mem_append_left _ q
  ·exact List.mem_append_right _ ((List.mem_cons.mp q).resolve_left (nx p ⟨o,e'.2⟩))
 exact {R' with
  newO:=fun p hp=>(List.mem_cons.mp hp).elim (fun q=>q▸R.kp.none (g.S.zok _ R.ok.sta) fr) (R.newO p)
  noTup:=fun p hp=>(List.mem_cons.mp hp).elim (fun q=>q▸ex) (R'.noTup p)
  ex:=fun p hp=>(List.mem_append.mp hp).elim (fun q=>R'.ex p (List.mem_append_left _ q)) fun q=>(List.mem_cons.mp q).elim (fun q=>q▸ex.imp fun _ h=>h.1) fun q=>R'.ex p (List.mem_append_right _ q)
  apF:=fun p hp=>(List.mem_cons.mp hp).elim (fun q z=>nx p (R.ex p (List.mem_append_left _ (List.mem_append_right _ z))) q) (R.apF p)
  apS:=fun p hp=>(List.mem_cons.mp hp).elim (fun q z=>nx p (R.ex p (List.mem_append_left _ (List.mem_append_left _ z))) q) (R.apS p)
  vals:=fun x v e=>(R.vals x v e).imp fun u h=>⟨k.bound R.zok h.1,h.2.keeps up⟩
  owns:=fun x v e=>(R.owns x v e).imp fun p h=>⟨k.bound R.zok h.1,List.mem_cons_of_mem _ h.2.1,h.2.2.up up (k.get _ · fun q=>R.apS p h.2.1 (R.tabs p q))⟩}
theorem Rel.turn (R:Rel g b S O ρ s){v':AV}(hx:ρ x=some (.own v))(hbx:cH b.env s.heap x (.ref a))(ha:a∈O)(hs:Heap.SameBut a s.heap h')(ex:∃o,h'.get? a=some o/\o.cls≠ .type "tuple")(own:Own h' (S++b.F++O) a v'):Rel g b S O (ρ.set x (.own v')) {s with heap:=h',toks:=tk}:=by
 have nF:∀p∈b.F,p≠a:=fun p hp q=>R.apF a ha (q▸hp)
 have kw:KW (b.F++O) Zs s {s with heap:=h',toks:=tk}:=KW.out R.code fun p o hp e=>hs.extBut p o (fun q=>hp (q▸List.mem_append_right _ ha)) e
 have bd:∀z u,cH b.env s.heap z u->cH b.env h' z u:=fun z u hb=>by
  rcases hb with ⟨q,m',hn2,hm⟩ | ⟨q,c',hc',hi'⟩ | ⟨q,q2,c',hc',hi'⟩
  ·exact .inl ⟨q,m',hn2.sameBut hs (nF _ R.ok.loc),hm⟩
  ·exact .inr (.inl ⟨q,c',hc',hi'.sameBut hs (nF _ (R.ok.cell z c' hc').1)⟩)
  ·exact .inr (.inr ⟨q,q2,c',hc',hi'.sameBut hs (nF _ (R.ok.cell z c' hc').1)⟩)
 refine Rel.put (y:= .ref a) ((R.sub fun z sl e=>(aA0 e).2).step (s':={s with heap:=h',toks:=tk}) R.apS R.tabs (KW.into R.kp kw R.fresh) (fun p hp=> ?_) (fun p hp=> ?_)
  (aT (fun p h1 h2=>absurd h1 h2) fun p o hp e=>hs.extBut p o (fun q=>hp (q▸List.mem_append_right _ ha)) e) (R.frame.imp fun _ h=>h.sameBut hs (nF _ R.ok.loc)) (fun x c e=>(R.cells x c e).imp fun _ h=>h.sameBut hs (nF _ (R.ok.cell x c e).1)) (fun z u _ h=>bd z u h)
  fun z v'' p e hb hp o e'=>hs.extBut _ _ (fun q=>(aA0 e).1 (R.ownsAp z x _ _ a (aA0 e).2 hx (q▸hb) hbx)) e') (bd _ _ hbx) ⟨a,rfl,ha,own,fun z v'' hz e hb=> ?_⟩
 ·by_cases q:p=a
  ·exact q▸ex.imp fun _ h=>h.1
  ·exact (R.ex p hp).imp fun o e=>hs.extBut p o q e
 ·by_cases q:p=a
  ·exact q▸ex
  ·exact (R.noTup p hp).imp fun o e=>⟨hs.extBut p o q e.1,e.2⟩
 ·obtain ⟨a',g1,_,_⟩:=R.owns z v'' e;exact hz (R.ownsAp z x _ _ a e hx (Value.ref.inj ((bd z _ g1).inj hb)▸g1) hbx)
theorem Rel.freeze (R:Rel g b S O ρ s){y:Str}(hy:ρ y=some (.own v))(hby:cH b.env s.heap y (.ref a)):Rel g b S (O.filter (· !=a)) (ρ.del y) s/\Den (hide s.heap (S++b.F++O.filter (· !=a))) (.ref a) v:=by
 have sub:∀p,p∈S++b.F++O.filter (· !=a)->p∈S++b.F++O:=fun p q=>(List.mem_append.mp q).elim (List.mem_append_left _) fun q=>List.mem_append_right _ (List.mem_filter.mp q).1
 have up:∀p o,(hide s.heap (S++b.F++O)).get? p=some o->(hide s.heap (S++b.F++O.filter (· !=a))).get? p=some o:=aT (fun p h1 h2=>absurd (sub p h1) h2) fun p o _ e=>e
 obtain ⟨a',g1,g2,g3⟩:=R.owns y v hy;obtain rfl:=Value.ref.inj (g1.inj hby);have out:a'∉S++b.F++O.filter (· !=a'):=fun q=>(List.mem_append.mp q).elim (fun q=>(List.mem_append.mp q).elim (R.apS a' g2) (R.apF a' g2)) fun q=>by simpa using (List.mem_filter.mp q).2
 exact ⟨{R with
  newO:=fun p hp=>R.newO p (List.mem_filter.mp hp).1
  noTup:=fun p hp=>R.noTup p (List.mem_filter.mp hp).1
  ex:=fun p hp=>R.ex p (sub p hp)
  apF:=fun p hp=>R.apF p (List.mem_filter.mp hp).1
  apS:=fun p hp=>R.apS p (List.mem_filter.mp hp).1
  vals:=fun x v e=>(R.vals x v (aA0 e).2).imp fun u h=>⟨h.1,h.2.keeps up⟩
  owns:=fun x v e=>(R.owns x v (aA0 e).2).imp fun p h=>⟨h.1,List.mem_filter.mpr ⟨h.2.1,by
   have:p≠a':=fun q=>(aA0 e).1 (R.ownsAp x y _ _ a' (aA0 e).2 hy (q▸h.1) hby)
   simpa using this⟩,h.2.2.up up fun _ e=>e⟩
  ownsAp:=fun x z v v' p e e'=>R.ownsAp x z v v' p (aA0 e).2 (aA0 e').2},g3.den up out⟩
end
section
set_option genInjectivity false
set_option genSizeOfSpec false
variable {g:Eg}{b:Bk}{ρ':St}
structure On (g:Eg)(b:Bk)(S O:List Addr)(s:Shared)(ρ':St)(O':List Addr)(s':Shared):Prop where
 toks:0<s'.toks
 kw:KW (b.F++O) Zs s s'
 new:∀a∈O',a∈O\/s.heap.get? a=none
 rel:Rel g b S O' ρ' s'
structure Rt (b:Bk)(S O:List Addr)(s:Shared)(v:AV)(y:Value)(s':Shared):Prop where
 toks:0<s'.toks
 den:Den (hide s'.heap S) y v
 kw:KW (b.F++O) Zs s s'
 kp:Kp b.s'0 s'
def aLl (g:Eg)(b:Bk)(S O:List Addr)(s:Shared)(Q:Flow->Shared->Prop)(ρ':St):Fl->Prop
 | .next=>∀O' s',On g b S O s ρ' O' s'->Q .next s'
 | .brk=>∀O' s',On g b S O s ρ' O' s'->Q .brk s'
 | .ret v=>∀y s',Rt b S O s v y s'->Q (.ret y) s'
def Ex (g:Eg)(b:Bk)(t:Sem Flow)(ρ:St)(fl:Fl)(ρ':St):Prop:=
 ∀(S O:List Addr) (s:Shared) (E:Value->Shared->Prop) (Q:Flow->Shared->Prop),Rel g b S O ρ s->0<s.toks->aLl g b S O s Q ρ' fl->wpAny (model g.prog g.w) b.A t Q E s
theorem KW.nil {a c:Shared}{y:Addr}(k:KW W Zs a c)(z:Zok Zs [] a.heap)(hy:y∉W)(h:c.heap.get? y=none):a.heap.get? y=none:=by
 rcases e:a.heap.get? y with _ | o
 ·rfl
 ·by_cases q:y∈Zs.map (·.2)
  ·obtain ⟨z',hz,rfl⟩:=List.mem_map.mp q;obtain ⟨ps,hp⟩:=z.at' z' hz;obtain ⟨m,hm⟩:=k.tab z' hz ps hp;exact no1 (h.symm.trans hm.2.2)
  ·exact no1 (h.symm.trans (k.keep y o hy q e))
theorem KW.thru {W':List Addr}{a c d:Shared}(x:KW W Zs a c)(y:KW W' Zs c d)(h:∀p∈W',p∈W\/a.heap.get? p=none):KW W Zs a d where
 keep:=fun p o h1 h2 e=>y.keep p o (fun q=>(h p q).elim h1 fun z=>no1 (z.symm.trans e)) h2 (x.keep p o h1 h2 e)
 tab:=(KW.trans (W:=W++W') (x.weaken fun _=>List.mem_append_left _) (y.weaken fun _=>List.mem_append_right _)).tab
 bare:=fun h=>y.bare (x.bare h)
 drawn:=y.drawn.trans x.drawn
 os:=y.os.trans x.os
variable {O1 O2:List Addr}
theorem On.memF (x:On g b S O s ρ O1 s'1):∀p∈b.F++O1,p∈b.F++O\/s.heap.get? p=none:=fun p hp=>(List.mem_append.mp hp).elim (fun q=> .inl (List.mem_append_left _ q)) fun q=>(x.new p q).imp (List.mem_append_right _) id
theorem On.trans (z:Zok Zs [] s.heap)(x:On g b S O s ρ O1 s'1){ρ'2:St}(y:On g b S O1 s'1 ρ'2 O2 s'):On g b S O s ρ'2 O2 s' where
 toks:=y.toks
 kw:=x.kw.thru y.kw x.memF
 new:=fun a ha=>(y.new a ha).elim (x.new a) fun q=>by
  by_cases hO:a∈O
  ·exact .inl hO
  ·exact .inr (x.kw.nil z (fun z=>(List.mem_append.mp z).elim (fun z=>(x.rel.ex a (List.mem_append_left _ (List.mem_append_right _ z))).elim fun o e=>no1 (q.symm.trans e)) hO) q)
 rel:=y.rel
theorem Rt.thru (x:On g b S O s ρ O1 s'1)(r:Rt b S O1 s'1 v y s'):Rt b S O s v y s':={r with kw:=x.kw.thru r.kw x.memF}
theorem aLl.thru (z:Zok Zs [] s.heap)(x:On g b S O s ρ O1 s'1){ρ'2:St}{Q:Flow->Shared->Prop}:∀{fl:Fl},aLl g b S O s Q ρ'2 fl->aLl g b S O1 s'1 Q ρ'2 fl
 | .next,q=>fun O' s' y=>q O' s' (x.trans z y)
 | .brk,q=>fun O' s' y=>q O' s' (x.trans z y)
 | .ret _,q=>fun y s' r=>q y s' (r.thru x)
theorem On.of (R:Rel g b S O ρ s)(k:Kp s s'1)(ht:0<s'1.toks):On g b S O s ρ O s'1:=⟨ht,k.wk,fun _ h=> .inl h,R.kept k⟩
theorem aOq {sl:Slot}(h:evS g.cf mu n b.sc ρ x e=some sl)(R:Rel g b S O ρ s)(ht:0<s.toks)
  (q:∀y s'1 O1,On g b S O s ρ O1 s'1->sY b ρ s'1.heap (S++b.F++O1) O1 x y sl->Q y s'1):wpAny (model g.prog g.w) b.A (eval e b.env) Q E s:=by
 have alone:∀{s'1:Shared} {a:Addr},Kp s s'1->s.heap.get? a=none->∀z v',z≠x->ρ z=some (.own v')->¬cH b.env s'1.heap z (.ref a):=fun k fr z v' _ e hb=>by
  obtain ⟨a',g1,g2,_⟩:=R.owns z v' e;exact (R.ex a' (List.mem_append_right _ g2)).elim fun o e=>no1 (fr.symm.trans (Value.ref.inj ((k.bound R.zok g1).inj hb)▸e))
 refine aL h fun v hv h=>kZ h (fun hf h=> ?_) fun _ h=>kZ h (fun hm h=> ?_) fun _ h=> ?_
 ·obtain rfl:=Option.some.inj h;exact mQ (f:=⟨b.sc,b.env,ρ.all,b.A,S++b.F⟩) hv s E Q (R.cxAll ht) fun y s'1 o d k=>q y s'1 O (.of R k o.ht) (d.flat_hide (R.kept k).noTup hf)
 ·rw [Bool.and_eq_true] at hm;refine aHz (f:=⟨b.sc,b.env,ρ.all,b.A,S++b.F⟩) hm.2 hv s E Q (R.cxAll ht) fun y s'1 o d k fr=> ?_
  rcases v with _ | _ | _ | _ | l | _ | l | _ | _ | _ <;> first | exact no1 h | skip
  ·refine cK h fun hl h=>d.listE fun a vs e hp hd=> ?_
   obtain rfl:=Option.some.inj h;have fa:=fr a e;obtain ⟨i,hp⟩:=hp;have R'1:=R.addO k fa ⟨_,(aB.mp hp).2,fun q=>absurd (Value.type.inj q) (by decide)⟩;exact q y s'1 (a::O) ⟨o.ht,k.wk,fun p hp=>(List.mem_cons.mp hp).elim (fun z=> .inr (z▸fa)) .inl,R'1⟩ ⟨a,e,.head _,⟨⟨vs,⟨i,(aB.mp hp).2⟩,hd.flat_hide R'1.noTup hl⟩,hl⟩,alone k fa⟩
  ·refine d.dictE fun a kvs e hp hi=> ?_
   obtain rfl:=Option.some.inj h;have fa:=fr a e;have hp':aP s'1.heap a kvs:=⟨hp.1,fun p w=>hp.dict⟩;obtain ⟨ob,es,ep,hob,hex,_⟩:=hp'.2 g.prog g.w;have R'1:=R.addO k fa ⟨_,hob,fun q=>absurd (Value.type.inj (hex.1.symm.trans q)) (by decide)⟩;exact q y s'1 (a::O) ⟨o.ht,k.wk,fun p hp=>(List.mem_cons.mp hp).elim (fun z=> .inr (z▸fa)) .inl,R'1⟩ ⟨a,e,.head _,⟨kvs,hp',hi⟩,alone k fa⟩
 ·refine kJ h fun v' hv' e=> ?_
  subst e;exact mQ (f:=⟨b.sc,b.env,ρ.frozen,b.A,S++b.F++O⟩) hv' s E Q (R.cxFrozen ht) fun y s'1 o d k=>q y s'1 O (.of R k o.ht) d
theorem pL (h:bJ b.sc x=true)(ok:aRy g b):b.env.kindOf x=some .local\/b.env.kindOf x=some .cell:=by
 unfold bJ at h;rw [Bool.or_eq_true,beq_iff_eq,beq_iff_eq] at h;exact h.imp (ok.env.loc x) (ok.env.cell x)
theorem gT (R:Rel g b S O ρ s)(ht:0<s.toks){sl:Slot}(hx:bJ b.sc x=true)(hok:sY b ρ s.heap (S++b.F++O) O x y sl){Q:Unit->Shared->Prop}(h:∀s',On g b S O s (ρ.set x sl) O s'->Q () s'):wpAny (model g.prog g.w) b.A (storeName b.env x y) Q E s:=
 sZ R ht (pL hx R.ok) hok fun h' tk c hc hs R' ht'=>h _ ⟨ht',KW.out R.code fun p o hp e=>hs.extBut p o (fun q=>hp (q▸List.mem_append_left _ hc)) e,fun _ h=> .inl h,R'⟩
theorem hY (env:Env)(elt:Expr)(gens:List Comprehension)(csc:Scope)(p:Pos)(use:Value->Sem Unit):
  evalThenUse (.ListComp elt gens csc p) env use=(do
   let _ <-comprehension (.ListComp elt gens csc p) csc env (firstIterPos gens p) (newList []) (firstAsync gens) (firstIter gens env) (some use)):=rfl
theorem aH1 {csc:Scope}{elt:Expr}{gens:List Comprehension}{pos':Pos}{Q:Unit->Shared->Prop}(R:Rel g b S O ρ s)(ht:0<s.toks)(hx:bJ b.sc x=true)(h:evE g.cf n b.sc ρ.frozen (.ListComp elt gens csc p)=some v)(q:∀s',On g b S O s (ρ.set x (.val v)) O s'->Q () s'):
  wpAny (model g.prog g.w) b.A (evalThenUse (.ListComp elt gens csc p) b.env (assign (.Name x pos') b.env)) Q E s:=by
 rcases n with _ | n
 ·exact no1 h
 refine aLk (C:=fun gens v=>(∀ s',On g b S O s (ρ.set x (.val v)) O s'->Q () s')->wpAny (model g.prog g.w) b.A (evalThenUse (.ListComp elt gens csc p) b.env (assign (.Name x pos') b.env)) Q E s) h (fun x' px it ifs xv l vs h1 h2 h3 h4 h5 h6 q=> ?_) q;rw [hY];obtain ⟨iE,_,_,iT,_⟩:=aAz g n;refine wpAny_bind (yD (f:=⟨b.sc,b.env,ρ.frozen,b.A,S++b.F++O⟩) (use:=some _) (R.cxFrozen ht) h1 h2 (iE ⟨b.sc,b.env,ρ.frozen,b.A,S++b.F++O⟩ _ _ h3) (fH h3) h4 h5 h6 (aJ5 (f:=⟨b.sc,b.env,ρ.frozen,b.A,S++b.F++O⟩) (it:=it) iE iT) fun s'1 D C X s' o'1 k'1 fr hD hC hDC c=> ?_);have R'1:=R.kept k'1;have k'2:Kp s'1 s':=KW.into (KW.refl s'1) c.kw fr;have RC:=R'1.addS (X:=[C]) k'2 (fun y hy=>List.mem_singleton.mp hy▸fr C hC) (fun y hy=>List.mem_singleton.mp hy▸c.ns.elim fun m h=>h.elim fun o h=>h.elim fun _ h=>h.elim fun _ h=>⟨o,h.1⟩);have hd:Den (hide s'.heap (S++[C]++b.F++O)) (.ref D) (.list vs):=by
  obtain ⟨ys,⟨i,h1⟩,h2⟩:=c.list;refine .mkList ⟨i,aB.mpr ⟨fun q=> ?_,h1⟩⟩ (h2.keeps (aT (fun p h3 h4=>absurd ?_ h4) fun p o _ e=>e))
  ·simp only [List.mem_append,List.mem_singleton] at q
   rcases q with ((q | q) | q) | q
   ·exact (R'1.ex D (by simp [q])).elim fun o e=>no1 ((fr D hD).symm.trans e)
   ·exact hDC q
   ·exact (R'1.ex D (by simp [q])).elim fun o e=>no1 ((fr D hD).symm.trans e)
   ·exact (R'1.ex D (by simp [q])).elim fun o e=>no1 ((fr D hD).symm.trans e)
  ·simp only [List.mem_append,List.mem_singleton] at h3 ⊢
   rcases h3 with ((q | q) | q) | q
   ·exact .inl (.inl (.inl q))
   ·exact .inr (q▸hC)
   ·exact .inl (.inl (.inr q))
   ·exact .inl (.inr q)
 have nC:∀a∈b.F,a≠C:=fun a ha e=>(R'1.ex a (by simp [ha])).elim fun o e'=>no1 ((fr C hC).symm.trans (e▸e'))
 have fC:s.heap.get? C=none:=k'1.none R.zok (fr C hC);have cd:∀z∈Zs,z.1∉[C]/\z.2∉[C]:=fun z hz=>by
  obtain ⟨ps,_,⟨o,_,e,_⟩,e2⟩:=R.zok.at' z hz;exact ⟨fun q=>no1 (fC.symm.trans (List.mem_singleton.mp q▸e)),fun q=>no1 (fC.symm.trans (List.mem_singleton.mp q▸e2))⟩
 refine wpAny_assign_Name (sZ RC c.toks (pL hx R.ok) (sl:= .val (.list vs)) hd fun h' tk c' hc' hs R' ht'=> ?_);obtain ⟨m,hm⟩:=c.ns;refine ⟨m,hm.sameBut hs (Ne.symm (nC c' hc')),fun h'' hs''=>wpAny_pure (q _ ⟨ht',?_,fun _ h=> .inl h,?_⟩)⟩
 ·exact (KW.trans (KW.wk (k'1.trans k'2)) (KW.out R.code fun p o hp e=>hs.extBut p o (fun q=>hp (q▸List.mem_append_left _ hc')) e:KW (b.F++O) Zs s' {s' with heap:=h',toks:=tk})).thru
   (KW.out cd fun p o hp e=>hs''.extBut p o (fun q=>hp (List.mem_singleton.mpr q)) e:KW [C] Zs {s' with heap:=h',toks:=tk} {s' with heap:=h'',toks:=tk}) fun p hp=> .inr (List.mem_singleton.mp hp▸fC)
 ·exact R'.move (X:=[C]) (fun y hy=>List.mem_append_left _ hy) R.tabs (fun y hy=>by rw [List.mem_singleton.mp hy]; exact ⟨List.mem_append_right _ (.head _),fun z=>nC C z rfl,R'1.kp.none (g.S.zok _ R.ok.sta) (fr C hC)⟩)
   (fun y hy hS=>(R'1.ex y (by simp [hS])).elim fun o e=>no1 ((fr C hC).symm.trans (List.mem_singleton.mp hy▸e))) fun p o hp e=>hs''.extBut p o (fun q=>hp (List.mem_singleton.mpr q)) e
end
section
set_option genInjectivity false
set_option genSizeOfSpec false
variable {g:Eg}{b:Bk}{ρ':St}
structure aSe (g:Eg)(b:Bk)(S wr O:List Addr)(s'1:Shared)(St:Nat->Heap->Prop)(F:List AV->Mine.St->Prop)(l:List AV)(k:Nat)(s':Shared)(done rest:List AV)(ρ'1:Mine.St)(O1:List Addr):Prop where
 all:l=done++rest
 left:k=rest.length+1
 st:St done.length s'.heap
 on:On g b (S++wr) O s'1 ρ'1 O1 s'
 go:F rest ρ'1
section
variable {I:Addr}{fp wr:List Addr}{P:Nat->Value->Prop}{St:Nat->Heap->Prop}
theorem Itr.apart (src:Itr g.prog g.w b.A (S++b.F++O) s'1 l I fp wr P St s'2)(R:Rel g b S O ρ s'1){y:Addr}(hy:y∈fp):y∉b.F++O/\y∉Zt:=by
 by_cases hw:y∈wr
 ·have fr:=src.fresh y hw;refine ⟨fun q=> ?_,fun q=>(R.ex y (List.mem_append_left _ (List.mem_append_left _ (R.tabs y q)))).elim fun o e=>no1 (fr.symm.trans e)⟩;exact (R.ex y ((List.mem_append.mp q).elim (fun z=>List.mem_append_left _ (List.mem_append_right _ z)) (List.mem_append_right _))).elim fun o e=>no1 (fr.symm.trans e)
 ·obtain ⟨o,e⟩:=src.vis y hy hw;have m:=(aB.mp e).1;exact ⟨fun q=>m ((List.mem_append.mp q).elim (fun z=>List.mem_append_left _ (List.mem_append_right _ z)) (List.mem_append_right _)),fun q=>m (List.mem_append_left _ (List.mem_append_left _ (R.tabs y q)))⟩
theorem Itr.nwr (src:Itr g.prog g.w b.A (S++b.F++O) s'1 l I fp wr P St s'2)(R:Rel g b S O ρ s'1):∀y∈wr,y∈S++wr/\y∉b.F/\b.s'0.heap.get? y=none:=fun y hy=>
 ⟨List.mem_append_right _ hy,fun q=>(src.apart R (src.W.sub y hy)).1 (List.mem_append_left _ q),R.kp.none (g.S.zok _ R.ok.sta) (src.fresh y hy)⟩
theorem Itr.kw (src:Itr g.prog g.w b.A (S++b.F++O) s'1 l I fp wr P St s'2)(R:Rel g b S O ρ s'1){tk:Nat}(k:KW (b.F++O) Zs s'1 s')(hk:∀p o,p∉wr->s'.heap.get? p=some o->h'.get? p=some o):KW (b.F++O) Zs s'1 {s' with heap:=h',toks:=tk}:=
 k.thru (KW.out (fun z hz=>by
  obtain ⟨ps,_,⟨o,_,e,_⟩,e2⟩:=R.zok.at' z hz;exact ⟨fun q=>no1 ((src.fresh _ q).symm.trans e),fun q=>no1 ((src.fresh _ q).symm.trans e2)⟩) hk) fun p hp=> .inr (src.fresh p hp)
theorem Itr.over (src:Itr g.prog g.w b.A (S++b.F++O) s'1 l I fp wr P St s'2)(R:Rel g b S O ρ s'1){ρ'1:Mine.St}{O1:List Addr}(on:On g b (S++wr) O s'1 ρ'1 O1 s'){tk:Nat}(hk:∀p o,p∉wr->s'.heap.get? p=some o->h'.get? p=some o)(ht:0<tk):On g b S O s'1 ρ'1 O1 {s' with heap:=h',toks:=tk} where
 toks:=ht
 kw:=src.kw R on.kw hk
 new:=on.new
 rel:=on.rel.move (fun y hy=>List.mem_append_left _ hy) R.tabs (src.nwr R) (fun y hy hS=>(R.ex y (List.mem_append_left _ (List.mem_append_left _ hS))).elim fun o e=>no1 ((src.fresh y hy).symm.trans e)) hk
theorem Itr.drawn (src:Itr g.prog g.w b.A (S++b.F++O) s'1 l I fp wr P St s'2)(R:Rel g b S O ρ s'1){ρ'1:Mine.St}{O1:List Addr}(on:On g b (S++wr) O s'1 ρ'1 O1 s'){tk:Nat}(st:St i h')(hk:∀p o,p∉wr->s'.heap.get? p=some o->h'.get? p=some o)(ht:0<tk):On g b (S++wr) O s'1 ρ'1 O1 {s' with heap:=h',toks:=tk} where
 toks:=ht
 kw:=src.kw R on.kw hk
 new:=on.new
 rel:=on.rel.move (fun y hy=>hy) (fun y hy=>List.mem_append_left _ (R.tabs y hy)) (src.nwr R) (fun y hy _=>src.ex i _ st y hy) hk
theorem Itr.den (src:Itr g.prog g.w b.A (S++b.F++O) s'1 l I fp wr P St s'2)(R:Rel g b S O ρ s'1){ρ'1:Mine.St}{O1:List Addr}(on:On g b (S++wr) O s'1 ρ'1 O1 s'){v:Value}{a:AV}(d:Den (hide s'1.heap (S++b.F++O)) v a):Den (hide s'.heap (S++wr++b.F++O1)) v a:=
 d.keeps fun p o e=>by
  have e':=aB.mp e;refine aB.mpr ⟨fun q=> ?_,on.kw.keep p o (fun q=>e'.1 ?_) (fun q=>e'.1 (List.mem_append_left _ (List.mem_append_left _ (R.tabs p q)))) e'.2⟩
  ·simp only [List.mem_append] at q
   rcases q with ((q | q) | q) | q
   ·exact e'.1 (by simp [q])
   ·exact no1 ((src.fresh p q).symm.trans e'.2)
   ·exact e'.1 (by simp [q])
   ·exact (on.new p q).elim (fun q=>e'.1 (by simp [q])) fun z=>no1 (z.symm.trans e'.2)
  ·exact (List.mem_append.mp q).elim (fun z=>List.mem_append_left _ (List.mem_append_right _ z)) (List.mem_append_right _)
theorem Itr.nO (src:Itr g.prog g.w b.A (S++b.F++O) s'1 l I fp wr P St s'2)(R:Rel g b S O ρ s'1){ρ'1:Mine.St}{O1:List Addr}(on:On g b (S++wr) O s'1 ρ'1 O1 s'){y:Addr}(hy:y∈fp):y∉b.F++O1:=fun q=>by
 have ap:=(src.apart R hy).1
 rcases List.mem_append.mp q with q | q
 ·exact ap (List.mem_append_left _ q)
 ·by_cases hw:y∈wr
  ·exact on.rel.apS y q (List.mem_append_right _ hw)
  ·exact (on.new y q).elim (fun z=>ap (List.mem_append_right _ z)) fun z=>(src.vis y hy hw).elim fun o e=>no1 (z.symm.trans (aB.mp e).2)
theorem On.dropS {wr O1:List Addr}{ρ'1:Mine.St}(tabs:∀y∈Zt,y∈S)(on:On g b (S++wr) O s'1 ρ'1 O1 s'):On g b S O s'1 ρ'1 O1 s':=
 ⟨on.toks,on.kw,on.new,on.rel.move (X:=[]) (tk:=s'.toks) (fun y hy=>List.mem_append_left _ hy) tabs (fun _ h=>nomatch h) (fun _ h=>nomatch h) fun _ _ _ e=>e⟩
theorem yF {f:Fl}{G:Mine.St->Option (Fl × Mine.St)}{Q:Flow->Shared->Prop}{QE:Value->Shared->Prop}(src:Itr g.prog g.w b.A (S++b.F++O) s'1 l I fp wr P St s'2)(R:Rel g b S O ρ s'1)(ht2:0<s'2.toks)(hx:bJ b.sc x=true)
  (hbody:∀ρ'1 f ρ',G ρ'1=some (f,ρ')->Ex g b (execs body b.env) ρ'1 f ρ') (hfor:jW (fun a ρ=>G (ρ.set x (.val a))) l ρ=some (f,ρ')) (q:aLl g b S O s'1 Q ρ' f):
  codeAny (model g.prog g.w) b.A (.forLoop (.Name x px) (.ref I) body [] b.env) (fun r s'=>match r with
   | .ok fl=>Q fl s'
   | .error e=>QE e s') s'2:=by
 refine codeAny_forLoop_any (fun k s'=>∃done rest ρ'1 O1,aSe g b S wr O s'1 St (fun rest ρ'1=>jW (fun a ρ=>G (ρ.set x (.val a))) rest ρ'1=some (f,ρ')) l k s' done rest ρ'1 O1) ?_ (l.length+1)
  ⟨[],l,ρ,O,rfl,rfl,src.st,⟨ht2,src.kept.kp.wk,fun _ h=> .inl h,R.addS src.kept.kp src.fresh (fun y hy=>src.ex 0 _ src.st y hy)⟩,hfor⟩
 rintro k s' ⟨done,rest,ρ'1,O1,v⟩
 rcases rest with _ | ⟨a,r⟩
 ·obtain ⟨rfl,rfl⟩:=Prod.mk.inj (Option.some.inj v.go);exact wpAny_with_toks (n:=1) v.on.toks (src.W.done _ _ _ (by rw [v.all,List.append_nil]; exact v.st) fun h'3 tk3 hk3 t'3=>wpAny_execs_nil (q _ _ (src.over R v.on hk3 t'3)))
 ·refine wpAny_with_toks (n:=1) v.on.toks (src.W.item done.length _ _ _ (by rw [v.all,List.length_append]; exact Nat.lt_add_of_pos_right (Nat.succ_pos _)) v.st fun y h'3 tk3 hP st'3 hk3 t'3=> ?_);have on3:=src.drawn R v.on st'3 hk3 t'3;have hd:=src.den R on3 (src.item _ _ _ hP (by rw [v.all,List.getElem?_append_right (Nat.le_refl _),Nat.sub_self]; rfl));refine wpAny_pure (wpAny_assign_Name (gT on3.rel t'3 hx (sl:= .val a) hd fun s4 on'4=> ?_));have st'4:St (done.length+1) s4.heap:=src.W.frame _ _ _ st'3 fun z hz o e=>on'4.kw.keep z o (src.nO R on3 hz) (src.apart R hz).2 e
  have on4:=on3.trans R.zok on'4;refine aL v.go fun p hg hgo=>hbody _ p.1 p.2 hg (S++wr) O1 s4 _ _ on'4.rel on'4.toks ?_
  rcases p with ⟨f'1 | f'1 | u,ρ'2⟩
  ·exact fun O2 s5 on5=>⟨r.length+1,v.left▸Nat.lt_succ_self _,done++[a],r,ρ'2,O2,by rw [v.all,List.append_assoc]; rfl,rfl,by
    rw [List.length_append];exact src.W.frame _ _ _ st'4 fun z hz o e=>on5.kw.keep z o (src.nO R on4 hz) (src.apart R hz).2 e,on4.trans R.zok on5,hgo⟩
  ·obtain ⟨rfl,rfl⟩:=Prod.mk.inj (Option.some.inj hgo);exact fun O2 s5 on5=>q _ _ ((on4.trans R.zok on5).dropS R.tabs)
  ·obtain ⟨rfl,rfl⟩:=Prod.mk.inj (Option.some.inj hgo);exact fun y s5 r5=>q y s5 {r5.thru on4 with den:=r5.den.keeps (aT (fun p h1 h2=>absurd (List.mem_append_left _ h1) h2) fun _ _ _ e=>e)}
end
theorem Ex.for {it:Expr}{xv:AV}{G:Mine.St->Option (Fl × Mine.St)}{f:Fl}(hx:bJ b.sc x=true)(hbody:∀ρ'1 f ρ',G ρ'1=some (f,ρ')->Ex g b (execs body b.env) ρ'1 f ρ')(hit:evE g.cf n b.sc ρ.frozen it=some xv)(hl:bL xv=some l)
  (hfor:jW (fun a ρ=>G (ρ.set x (.val a))) l ρ=some (f,ρ')):Ex g b (exec (.For (.Name x px) it body [] p) b.env) ρ f ρ':=fun S O s E Q R ht q=>
 wpAny_For (mQ (f:=⟨b.sc,b.env,ρ.frozen,b.A,S++b.F++O⟩) hit s E _ (R.cxFrozen ht) fun xvv s'1 o'1 d'1 k'1=>wpAny_with_toks (n:=1) o'1.ht (dU o'1.room.handled hl d'1 fun I fp wr P St s'2 src t'2=>
  yF src (R.kept k'1) t'2 hx hbody hfor (aLl.thru R.zok (.of R k'1 o'1.ht) q))) (fun y=>sR hit y)
theorem vP (e:Expr)(x:Str)(p:Pos)(line:Nat)(env:Env){P:Prop}(q1:swapsWith e (some (.Name x p)) line env=pure false->P)(q2:∀elt gens csc q,e= .ListComp elt gens csc q->swapsWith e (some (.Name x p)) line env=pure true->P)(q3:(∀ elt gens csc q,e≠ .ListComp elt gens csc q)->swapsWith e (some (.Name x p)) line env=pure true->(∀ (cf:CallF) n sc ρ,evE cf n sc ρ e=none)->P):P:=by
 have key:∀c:Bool,(pure c:Sem Bool)=pure false\/(pure c:Sem Bool)=pure true:=fun c=>by rcases c with _ | _;exact .inl rfl;exact .inr rfl
 rcases e with _ | _ | _ | _ | _ | _ | _ | _ | ⟨elt,gens,csc,q⟩ | _ | _ | _ | _ | _ | _ | _ | _ | _ | _ | _ | _ | _ | _ | _ | _ | _ | _ <;> first | exact q1 rfl | skip
 ·exact (key _).elim q1 (q2 _ _ _ _ rfl)
 ·exact (key _).elim q1 fun z=>q3 (fun _ _ _ _ e=>nomatch e) z fun cf n sc ρ=>by rcases n with _ | _ <;> rfl
 ·exact (key _).elim q1 fun z=>q3 (fun _ _ _ _ e=>nomatch e) z fun cf n sc ρ=>by rcases n with _ | _ <;> rfl
end
theorem lA (its:Array Value)(n j:Nat)(x:Value):
  ∃n',Obj.mapSeq (·.setIfInBounds j x) {cls:= .type "list",data:= .seq its n}={cls:= .type "list",data:= .seq (its.setIfInBounds j x) n'}:=by
 unfold Obj.mapSeq;exact ⟨_,rfl⟩
theorem qU {l:Addr}{items:Array Value}{k:Int}{v:Value}{Q:Unit->Shared->Prop}(hl:s.heap.PlainList l items)
  (hj:(0<=k/\k<items.size/\j=k.toNat)\/(k<0/\ -(items.size:Int)<=k/\j=(k+items.size).toNat)) (hsz:items.size<=2^20)
  (hQ:∀h',h'.PlainList l (items.setIfInBounds j v)->Heap.SameBut l s.heap h'->Q () {s with heap:=h'}):
  wpAny (model prog w) A (setItem (.ref l) (.int k t) v) Q E s:=by
 obtain ⟨n,ho⟩:=id hl;have hi:=hl.isList;have fin:(s.heap.update l (Obj.mapSeq (·.setIfInBounds j v))).PlainList l (items.setIfInBounds j v):=by
  obtain ⟨n',e⟩:=lA items n j v;refine ⟨n',?_⟩;rw [Heap.get?_update_self _ ho (by rw [e]; rfl),e]
 unfold setItem
 try with_reducible refine wpAny_holding ?_
 first | refine wpAny_bind (wpAny_pure ?_) | skip
 refine wpAny_bind (wpAny_sequenceKey hi.typeIs (by decide) ?_);refine wpAny_bind (wpAny_callSpecial?_slot (name:=ofString "__setitem__") hi.typeIs slot_list_setitem
  (wpAny_call_entry slot_list_setitem hi.typeIs entry_list_setitem ?_ (args_list_setitem _ _ _)))
 show wpAny _ _ (Builtin.List.listSubscript? (.int k t) >>= _) _ _ s;have hjs:j<items.size:=by omega
 have hx':items[j]? =some items[j]:=Array.getElem?_eq_getElem hjs;refine wpAny_bind (wpAny_listSubscript_int (by unfold Builtin.List.listFitsIndex;simp only [Bool.and_eq_true,decide_eq_true_eq]; omega) ?_)
 rcases hj with ⟨h0,h1,rfl⟩ | ⟨h0,h1,rfl⟩
 ·obtain ⟨j,rfl⟩:=Int.eq_ofNat_of_zero_le h0;show wpAny _ _ ((seqItemAt l j >>= fun r=>pure (r.map (j,·))) >>= _) _ _ s;refine wpAny_bind (wpAny_bind (wpAny_seqItemAt ho rfl (wpAny_pure ?_)))
  change items[j]? =_ at hx'
  rw [hx'];show wpAny _ _ (setSeqItemAt l j v >>= _) _ _ s;refine wpAny_bind (wpAny_setSeqItemAt ho rfl ?_)
  first
   | exact wpAny_bind (wpAny_pure (wpAny_pure ⟨.none,rfl,wpAny_pure (hQ _ fin (Heap.SameBut.update ..))⟩))
   | exact wpAny_pure ⟨.none,rfl,wpAny_pure (hQ _ fin (Heap.SameBut.update ..))⟩
 ·have hidx:=seqIndex_neg h0 h1;obtain ⟨m,rfl⟩:∃j:Nat,k=Int.negSucc j:=by
   rcases k with n | n
   ·exact absurd h0 (Int.not_lt.mpr (Int.natCast_nonneg n))
   ·exact ⟨n,rfl⟩
  show wpAny _ _ ((Builtin.List.listItems (.ref l) >>= fun xs=>pure ((seqIndex? (Int.negSucc m) xs.size).bind fun i=>xs[i]?.map (i,·))) >>= _) _ _ s;refine wpAny_bind (wpAny_bind ?_);show wpAny _ _ (seqItems? (.ref l) >>= _) _ _ s;refine wpAny_bind (wpAny_seqItems ho rfl (wpAny_pure (wpAny_pure ?_)));rw [hidx];simp only [Option.bind_some,hx',Option.map_some];refine wpAny_bind (wpAny_setSeqItemAt ho rfl ?_)
  first
   | exact wpAny_bind (wpAny_pure (wpAny_pure ⟨.none,rfl,wpAny_pure (hQ _ fin (Heap.SameBut.update ..))⟩))
   | exact wpAny_pure ⟨.none,rfl,wpAny_pure (hQ _ fin (Heap.SameBut.update ..))⟩
section
variable {g:Eg}{b:Bk}{ρ':St}
theorem Ex.assign {sl:Slot}(hx:bJ b.sc x=true)(h:evS g.cf mu n b.sc ρ x e=some sl):Ex g b (exec (.Assign [.Name x p'] e p) b.env) ρ .next (ρ.set x sl):=fun S O s E Q R ht q=>by
 refine vP e x p' p.line b.env (fun hs=> ?_) (fun elt gens csc q' he hs=> ?_) fun _ hs no=> ?_
 ·exact wpAny_Assign_Name (aOq h R ht fun y s'1 O1 on hok=>gT on.rel on.toks hx hok fun s' on'=>q O1 s' (on.trans R.zok on')) hs
 ·subst he;rw [exec_Assign_Name_used x p' _ p hs];refine wpAny_bind (wpAny_standAt (wpAny_bind ?_));refine aL h fun v hv h=> ?_
  have hl:fU v=false:=by
   rcases n with _ | n
   ·exact no1 hv
   ·exact aLk (C:=fun _ v=>fU v=false) hv fun _ _ _ _ _ _ _ _ _ _ _ _ _=>rfl
  rw [if_neg (by rw [hl]; exact Bool.false_ne_true),if_neg (by rw [show pF (.ListComp elt gens csc q')=false from rfl,Bool.and_false]; exact Bool.false_ne_true)] at h;refine kJ h fun v' hv' e=> ?_
  subst e;exact aH1 R ht hx hv' fun s' on=>wpAny_pure (q O s' on)
 ·exact aL h fun v hv _=>no1 ((no _ _ _ _).symm.trans hv)
theorem mS (e o i:Expr)(p:Pos)(line:Nat)(env:Env):swapsWith e (some (.Subscript o i p)) line env=pure false:=by
 rcases e with _ | _ | _ | _ | _ | _ | _ | _ | _ | _ | _ | _ | _ | _ | _ | _ | _ | _ | _ | _ | _ | _ | _ | _ | _ | _ | _ <;> rfl
theorem aH2 {k:Int}(h:lZ n k=some j):(0<=k/\k<n/\j=k.toNat)\/(k<0/\ -(n:Int)<=k/\j=(k+n).toNat):=
 kZ h (fun h0 h=>cK h fun h1 h=> .inl ⟨h0,h1,(Option.some.inj h).symm⟩) fun h0 h=>cK h fun h1 h=> .inr ⟨Int.not_le.mp h0,h1,(Option.some.inj h).symm⟩
theorem bI.set {V:Heap}{vs:List Value}(h:bI V vs l)(j:Nat)(hy:Den V y v):bI V (vs.set j y) (l.set j v):=by
 refine ⟨by rw [List.length_set,List.length_set,h.1],fun i y' v' h1 h2=> ?_⟩;rw [List.getElem?_set] at h1 h2
 by_cases q:j=i
 ·rw [if_pos q] at h1 h2;exact cK h1 fun _ h1=>cK h2 fun _ h2=>Option.some.inj h1▸Option.some.inj h2▸hy
 ·rw [if_neg q] at h1 h2;exact h.2 i y' v' h1 h2
theorem tA:∀{l:List AV} {v:AV} (j:Nat),eM l=true->fU v=true->eM (l.set j v)=true
 | [],_,_,h,_=>h
 | a::r,v,0,h,hv=>by
  rw [cC,Bool.and_eq_true] at h;show eM (v::r)=true;rw [cC,hv,h.2]; rfl
 | a::r,v,j+1,h,hv=>by
  rw [cC,Bool.and_eq_true] at h;show eM (a::r.set j v)=true;rw [cC,h.1,tA j h.2 hv]; rfl
theorem kN:∀{l k:List AV},eM l=true->eM k=true->eM (l++k)=true
 | [],_,_,h=>h
 | a::r,k,h,hk=>by
  rw [cC,Bool.and_eq_true] at h;show eM (a::(r++k))=true;rw [cC,h.1,kN h.2 hk]; rfl
theorem tB {vs:Array Value}(x:h.PlainList a vs):∃o,h.get? a=some o/\o.cls≠ .type "tuple":=x.elim fun n e=>⟨_,e,fun q=>absurd (Value.type.inj q) (by decide)⟩
theorem Rel.turn_on {v':AV}{tk:Nat}(R:Rel g b S O ρ s)(ht:0<tk)(hx:ρ x=some (.own v))(hbx:cH b.env s.heap x (.ref a))(ha:a∈O)(hs:Heap.SameBut a s.heap h')(ex:∃o,h'.get? a=some o/\o.cls≠ .type "tuple")(own:Own h' (S++b.F++O) a v'):On g b S O s (ρ.set x (.own v')) O {s with heap:=h',toks:=tk}:=
 ⟨ht,KW.out R.code fun p o hp e=>hs.extBut p o (fun q=>hp (q▸List.mem_append_right _ ha)) e,fun _ h=> .inl h,R.turn hx hbx ha hs ex own⟩
theorem aJ7 {M:List Addr}(ha:a∈M)(hs:Heap.SameBut a h h'):∀p o,(hide h M).get? p=some o->(hide h' M).get? p=some o:=aT (fun p h1 h2=>absurd h1 h2) fun p o hp e=>hs.extBut p o (fun q=>hp (q▸ha)) e
theorem aDx {i:Expr}{p'':Pos}{k:Int}{w:AV}(hd:(x==("__debug__":Str))=false)(hv:evE g.cf n b.sc ρ.all e=some v)(hi:evE g.cf n b.sc ρ.all i=some (.int k))(hx:ρ x=some (.own w))
   {Q:Flow->Shared->Prop} (R:Rel g b S O ρ s) (ht:0<s.toks)
  (q:∀y s' a t,On g b S O s ρ O s'->cH b.env s'.heap x (.ref a)->a∈O->Own s'.heap (S++b.F++O) a w->Den (hide s'.heap (S++b.F)) y v->wpAny (model g.prog g.w) b.A (setItem (.ref a) (.int k t) y) (fun _ s''=>Q .next s'') E s'):
  wpAny (model g.prog g.w) b.A (exec (.Assign [.Subscript (.Name x p'') i p'] e p) b.env) Q E s:=by
 refine wpAny_Assign_Subscript (mQ (f:=⟨b.sc,b.env,ρ.all,b.A,S++b.F⟩) hv s E _ (R.cxAll ht) fun y s'1 o'1 d'1 k'1=> ?_) (mS ..);have R'1:=R.kept k'1;obtain ⟨a,hba,ha,_⟩:=R'1.owns x _ hx;refine dB R.ok.kind hba hd (mQ (f:=⟨b.sc,b.env,ρ.all,b.A,S++b.F⟩) hi s'1 E _ (R'1.cxAll o'1.ht) fun iv s'2 o'2 d'2 k'2=>d'2.intE fun t e=> ?_);subst e;have R'2:=R'1.kept k'2;obtain ⟨a',hba',ha',ho⟩:=R'2.owns x _ hx;obtain rfl:=Value.ref.inj ((k'2.bound R'1.zok hba).inj hba');exact q y s'2 a t (.of R (k'1.trans k'2) o'2.ht) hba' ha ho (o'1.den k'2 d'1)
theorem Ex.setlist {i:Expr}{p'':Pos}{k:Int}(hd:(x==("__debug__":Str))=false)
  (hv:evE g.cf n b.sc ρ.all e=some v) (hi:evE g.cf n b.sc ρ.all i=some (.int k)) (hx:ρ x=some (.own (.list l))) (hj:lZ l.length k=some j) (hf:fU v=true) (hl:l.length<=2^20):
  Ex g b (exec (.Assign [.Subscript (.Name x p'') i p'] e p) b.env) ρ .next (ρ.set x (.own (.list (l.set j v)))):=fun S O s E Q R ht q=>
 aDx hd hv hi hx R ht fun y s' a t on hb ha ho hy=>by
  obtain ⟨⟨vs,hp,hden⟩,hfl⟩:=ho;have hsz:vs.size=l.length:=by simpa using hden.1
  refine qU hp (by rw [hsz]; exact aH2 hj) (by exact Nat.le_trans (Nat.le_of_eq hsz) hl) fun h' hp' hs'=>q O _ (on.trans R.zok (on.rel.turn_on on.toks hx hb ha hs' (tB hp') ⟨⟨_,hp',?_⟩,tA j hfl hf⟩))
  have up:=aJ7 (List.mem_append_right (S++b.F) ha) hs';rw [Array.toList_setIfInBounds];exact (hden.keeps up).set j ((hy.flat_hide on.rel.noTup hf).keeps up)
theorem dL.keysEq {l:List (Int × Int)}(h:dL kvs l)(k:Int):(kvs.any fun kv=>decide (kv.1=k))=l.any fun p=>decide (p.1=k):=by
 induction h with
 | nil=>rfl
 | cons a n t r ih=>rw [List.any_cons,List.any_cons,ih]
theorem dL.map {l:List (Int × Int)}(k v:Int)(t:Tok)(hi:dL kvs l):dL (kvs.map fun kv=>if kv.1=k then (kv.1,.int v t) else kv) (l.map fun p=>if p.1=k then (p.1,v) else p):=by
 induction hi with
 | nil=>exact .nil
 | cons a n u r ih=>
  rw [List.map_cons,List.map_cons]
  by_cases h:a=k
  ·rw [if_pos h,if_pos h]; exact .cons a v t ih
  ·rw [if_neg h,if_neg h]; exact .cons a n u ih
theorem dL.snoc {l:List (Int × Int)}(k v:Int)(t:Tok)(h:dL kvs l):dL (kvs++[(k,.int v t)]) (l++[(k,v)]):=by
 induction h with
 | nil=>exact .cons k v t .nil
 | cons a n u _ ih=>exact .cons a n u ih
theorem dL.stored {l:List (Int × Int)}(h:dL kvs l)(k v:Int)(t:Tok):dL (stored kvs k (.int v t)) (kL l k v):=by
 unfold PySem.stored kL;rw [h.keysEq k]
 by_cases q:(l.any fun p=>decide (p.1=k))=true
 ·rw [if_pos q,if_pos q]; exact h.map k v t
 ·rw [if_neg q,if_neg q]; exact h.snoc k v t
theorem Ex.setdict {i:Expr}{p'':Pos}{v:Int}{l:List (Int × Int)}{k:Int}(hd:(x==("__debug__":Str))=false)
  (hv:evE g.cf n b.sc ρ.all e=some (.int v)) (hi:evE g.cf n b.sc ρ.all i=some (.int k)) (hx:ρ x=some (.own (.dict l))) (hl:l.length<=2^20):
  Ex g b (exec (.Assign [.Subscript (.Name x p'') i p'] e p) b.env) ρ .next (ρ.set x (.own (.dict (kL l k v)))):=fun S O s E Q R ht q=>
 aDx hd hv hi hx R ht fun y s' a t on hb ha ho hy=>by
  obtain ⟨kvs,hp,hi2⟩:=ho;refine hy.intE fun u e=> ?_
  subst e;refine wpAny_setItem_pairs (knd:=intKind g.prog g.w) (k:=k) (by show Value.isInt k (.int k t)=true;simp [Value.isInt]) (hp.2 g.prog g.w) (fun h' hd' hs'=>q O _ (on.trans R.zok (on.rel.turn_on (v':= .dict (kL l k v)) (Nat.succ_pos _) hx hb ha hs' ?_ ⟨_,.of hp.1 hd',hi2.stored k v u⟩))) (by rw [sizeLine_eq,<-hi2.length]; exact lit hl rfl);obtain ⟨ob,es,ep,hob,hex,_⟩:=hd';exact ⟨_,hob,fun q=>absurd (Value.type.inj (hex.1.symm.trans q)) (by decide)⟩
theorem Ex.append (hd:(x==("__debug__":Str))=false)(hl':(ap.endLine==p.line)=true)
  (hv:evE g.cf n b.sc ρ.all e=some v) (hx:ρ x=some (.own (.list l))) (hf:fU v=true) (hl:l.length<=2^20):
  Ex g b (exec (.Expr (.Call (.Attribute (.Name x xp) "append" ap) [e] [] p) p') b.env) ρ .next (ρ.set x (.own (.list (l++[v])))):=fun S O s E Q R ht q=>by
 refine wpAny_Expr ?_ (by unfold interactive;rw [R.ok.kind]; rfl) rfl;have htrees:backTo p (starEach [e] b.env)=[(false,eval e b.env)]:=by rw [dW (fH hv)]; rfl
 refine wpAny_Call_append rfl (by rw [htrees]; rfl) hl' htrees ?_;obtain ⟨a,hba,ha,⟨vs,hp,hden⟩,hfl⟩:=R.owns x _ hx;refine dB R.ok.kind hba hd ⟨a,vs,rfl,hp.elim fun k e=>⟨_,k,e,rfl,rfl,rfl⟩,mQ (f:=⟨b.sc,b.env,ρ.all,b.A,S++b.F⟩) hv s E _ (R.cxAll ht) fun y s'1 o'1 d'1 k'1=> ?_⟩;have R'1:=R.kept k'1;have hp'1:s'1.heap.PlainList a vs:=hp.at (k'1.get a · fun z=>R.apS a ha (R.tabs a z));have hsz:vs.size=l.length:=by simpa using hden.1
 refine wpAny_list_append_plain hp'1 (fun h' hp' hs'=>q O _ ((On.of R k'1 o'1.ht).trans R.zok (R'1.turn_on o'1.ht hx (k'1.bound R.zok hba) ha hs' (tB hp') ⟨⟨_,hp',?_⟩,kN hfl (by rw [cC,hf]; rfl)⟩))) (by rw [sizeLine_eq]; exact lit (hsz▸hl) rfl);have up:=aJ7 (List.mem_append_right (S++b.F) ha) hs';rw [Array.toList_push];exact ((hden.keeps (k'1.hide fun y hy=>List.mem_append_left _ (List.mem_append_left _ (R.tabs y hy)))).keeps up).append (.cons ((d'1.flat_hide R'1.noTup hf).keeps up) .nil)
theorem Ex.ret (hv:evE g.cf n b.sc ρ.all e=some v):Ex g b (exec (.Return (some e) p) b.env) ρ (.ret v) ρ:=fun S O s E Q R ht q=>
 wpAny_Return_some (mQ (f:=⟨b.sc,b.env,ρ.all,b.A,S++b.F⟩) hv s E _ (R.cxAll ht) fun y s'1 o'1 d'1 k'1=>q y s'1 ⟨o'1.ht,d'1.keeps (aT (fun p h1 h2=>absurd (List.mem_append_left _ h1) h2) fun _ _ _ e=>e),k'1.wk,R.kp.trans k'1⟩)
theorem Ex.move {y:Str}(hx:bJ b.sc x=true)(hd:(y==("__debug__":Str))=false)(hy:ρ y=some (.own v)):Ex g b (exec (.Assign [.Name x p'] (.Name y q) p) b.env) ρ .next ((ρ.del y).set x (.val v)):=fun S O s E Q R ht q=>by
 obtain ⟨a,hba,ha,ho⟩:=R.owns y v hy;obtain ⟨R',hden⟩:=R.freeze hy hba;exact wpAny_Assign_Name (dB R.ok.kind hba hd (gT R' ht hx (sl:= .val v) hden fun s' on=>q _ s' ⟨on.toks,on.kw.weaken fun y hy=>(List.mem_append.mp hy).elim (List.mem_append_left _) fun z=>List.mem_append_right _ (List.mem_filter.mp z).1,fun y hy=> .inl (List.mem_filter.mp hy).1,on.rel⟩)) rfl
theorem Ex.unpack {y:Str}{at':Str}{py pt pa:Pos}{u:AV}(hx:bJ b.sc x=true)(hy:bJ b.sc y=true)
  (hv:evE g.cf n b.sc ρ.all (.Attribute e at' pa)=some (.tup [v,u])) (hf:fU v=true) (hf':fU u=true):Ex g b (exec (.Assign [.Tuple [.Name x px,.Name y py] k pt] (.Attribute e at' pa) p) b.env) ρ .next ((ρ.set x (.val v)).set y (.val u)):=fun S O s E Q R ht q=>by
 refine Assign_Tuple (mQ (f:=⟨b.sc,b.env,ρ.all,b.A,S++b.F⟩) hv s E _ (R.cxAll ht) fun tv s'1 o'1 d'1 k'1=> ?_) rfl rfl;refine d'1.tupE fun t vs e hp hd=>hd.consE fun a as e1 ha has=>has.consE fun c cs e2 hc hcs=> ?_
 have e3:=hcs.nil_inv;subst e e2 e3;have hsz:vs.size=2:=by simpa using congrArg List.length e1
 refine wpAny_assign_Tuple R.ok.room.handled (eV hp) (by rw [hsz]; rfl) rfl fun h' he=> ?_
 have k2:Kp s'1 {s'1 with heap:=h'}:=KW.of_keep (tk:=s'1.toks) fun p o e=>he p o (Nat.ne_of_lt (Heap.lt_size e)) e
 have on2:On g b S O s ρ O {s'1 with heap:=h'}:= .of R (k'1.trans k2) o'1.ht;rw [e1];show wpAny _ b.A (do holding [c] (PySem.assign (.Name x px) b.env a); assignInOrder [PySem.assign (.Name y py) b.env] [c]) _ _ _;refine wpAny_bind (wpAny_holding (wpAny_assign_Name (gT on2.rel on2.toks hx (sl:= .val v) ((o'1.den k2 ha).flat_hide on2.rel.noTup hf) fun s'3 on3=> ?_)));show wpAny _ b.A (do holding [] (PySem.assign (.Name y py) b.env c); assignInOrder [] []) _ _ _;refine wpAny_bind (wpAny_holding (wpAny_assign_Name (gT on3.rel on3.toks hy (sl:= .val u) (Den.keeps (aT (fun p h1 h2=>absurd h1 h2) fun p o hp e=>on3.kw.keep p o (fun z=>hp ?_) (fun z=>hp (List.mem_append_left _ (List.mem_append_left _ (R.tabs p z)))) e) ((o'1.den k2 hc).flat_hide on2.rel.noTup hf')) fun s4 on'4=>wpAny_pure (q O s4 ((on2.trans R.zok on3).trans R.zok on'4)))));exact (List.mem_append.mp z).elim (fun z=>List.mem_append_left _ (List.mem_append_right _ z)) (List.mem_append_right _)
end
section
variable {g:Eg}{b:Bk}{r:Fl × St}
def SX (g:Eg)(b:Bk)(mu:List Str)(n:Nat):Prop:=∀st ρ r,exS g.cf mu n b.sc ρ st=some r->Ex g b (exec st b.env) ρ r.1 r.2
def SXB (g:Eg)(b:Bk)(mu:List Str)(n:Nat):Prop:=∀sts ρ r,exB g.cf mu n b.sc ρ sts=some r->Ex g b (execs sts b.env) ρ r.1 r.2
theorem aOr {y:Str}{P:Prop}(h:moved ρ e x=some (y,v))(q:∀p,e= .Name y p->(y==("__debug__":Str))=false->ρ y=some (.own v)->P):P:=by
 rcases e with _ | _ | _ | _ | _ | _ | _ | _ | _ | _ | _ | _ | _ | _ | _ | _ | _ | _ | _ | _ | _ | _ | _ | ⟨z,p⟩ | _ | _ | _ <;> first | exact no1 h | skip
 refine aNp h fun hc h1=> ?_
 rcases hz:ρ z with _ | ⟨u | u⟩ <;> rw [hz] at h1
 ·exact no1 h1
 ·exact no1 h1
 ·obtain ⟨rfl,rfl⟩:=Prod.mk.inj (Option.some.inj h1);rw [Bool.or_eq_true,not_or] at hc;exact q p rfl (Bool.eq_false_iff.mpr hc.2) hz
theorem SX.assignName (h:vG g.cf mu n b.sc ρ e (.Name x xp)=some r):Ex g b (exec (.Assign [.Name x xp] e p) b.env) ρ r.1 r.2:=by
 refine cK h fun hx h1=> ?_
 rcases hm:moved ρ e x with _ | ⟨y,v⟩ <;> rw [hm] at h1
 ·exact aL h1 fun sl hsl h2=>Option.some.inj h2▸ .assign hx hsl
 ·exact aOr hm fun q he hd hy=>by
   subst he;exact Option.some.inj h1▸ .move hx hd hy
theorem SX.assignTuple {ts:List Expr}{tp:Pos}(h:aHl g.cf n b.sc ρ e ts=some r):Ex g b (exec (.Assign [.Tuple ts k tp] e p) b.env) ρ r.1 r.2:=by
 rcases ts with _ | ⟨x,ts⟩
 ·exact no1 h
 rcases x with _ | _ | _ | _ | _ | _ | _ | _ | _ | _ | _ | _ | _ | _ | _ | _ | _ | _ | _ | _ | _ | _ | _ | ⟨x,_⟩ | _ | _ | _ <;> first | exact no1 h | skip
 rcases ts with _ | ⟨y,ts⟩
 ·exact no1 h
 rcases y with _ | _ | _ | _ | _ | _ | _ | _ | _ | _ | _ | _ | _ | _ | _ | _ | _ | _ | _ | _ | _ | _ | _ | ⟨y,_⟩ | _ | _ | _ <;> first | exact no1 h | skip
 rcases ts with _ | _
 ·rcases e with _ | _ | _ | _ | _ | _ | _ | _ | _ | _ | _ | _ | _ | _ | _ | _ | _ | _ | _ | _ | ⟨e,a,_⟩ | _ | _ | _ | _ | _ | _ <;> first | exact no1 h | skip
  refine cK h fun hx h1=>aL h1 fun v hv h2=> ?_
  rw [Bool.and_eq_true] at hx
  rcases v with _ | _ | _ | _ | _ | l | _ | _ | _ | _ <;> first | exact no1 h2 | skip
  rcases l with _ | ⟨v,_ | ⟨u,_ | _⟩⟩ <;> first | exact no1 h2 | skip
  refine cK h2 fun hf h3=> ?_
  rw [Bool.and_eq_true] at hf;exact Option.some.inj h3▸ .unpack hx.1 hx.2 hv hf.1 hf.2
 ·exact no1 h
theorem SX.assignSub {i:Expr}{tp:Pos}(h:vG g.cf mu n b.sc ρ e (.Subscript o i tp)=some r):Ex g b (exec (.Assign [.Subscript o i tp] e p) b.env) ρ r.1 r.2:=by
 rcases o with _ | _ | _ | _ | _ | _ | _ | _ | _ | _ | _ | _ | _ | _ | _ | _ | _ | _ | _ | _ | _ | _ | _ | ⟨x,_⟩ | _ | _ | _ <;> first | exact no1 h | skip
 refine aNp h fun hd h1=>aL h1 fun v hv h2=>aL h2 fun k hk h3=> ?_
 have hd:=Bool.eq_false_iff.mpr hd
 rcases hx:ρ x with _ | ⟨u | u⟩ <;> rw [hx] at h3 <;> first | exact no1 h3 | skip
 rcases u with _ | _ | _ | _ | l | _ | l | _ | _ | _ <;> first | exact no1 h3 | (rcases k with _ | _ | k | _ | _ | _ | _ | _ | _ | _ <;> first | exact no1 h3 | skip)
 ·dsimp only at h3
  rcases hj:lZ l.length k with _ | j <;> rw [hj] at h3
  ·exact no1 h3
  ·refine cK h3 fun hf h4=> ?_
   rw [Bool.and_eq_true,decide_eq_true_eq] at hf;exact Option.some.inj h4▸ .setlist hd hv hk hx hj hf.1 hf.2
 ·rcases v with _ | _ | v | _ | _ | _ | _ | _ | _ | _ <;> first | exact no1 h3 | skip
  refine cK h3 fun hl h4=> ?_
  rw [decide_eq_true_eq] at hl;exact Option.some.inj h4▸ .setdict hd hv hk hx hl
theorem SX.assign {ts:List Expr}(h:exS g.cf mu (n+1) b.sc ρ (.Assign ts e p)=some r):Ex g b (exec (.Assign ts e p) b.env) ρ r.1 r.2:=by
 rcases ts with _ | ⟨t,_ | _⟩ <;> first | exact no1 h | skip
 rcases t with _ | _ | _ | _ | _ | _ | _ | _ | _ | _ | _ | _ | _ | _ | _ | _ | _ | _ | _ | _ | _ | _ | _ | _ | _ | _ | _ <;> first | exact no1 h | exact SX.assignName h | exact SX.assignTuple h | exact SX.assignSub (mu:=mu) h
theorem SX.append (h:aHn g.cf n b.sc ρ e=some r):Ex g b (exec (.Expr e p) b.env) ρ r.1 r.2:=by
 rcases e with _ | _ | _ | _ | _ | _ | _ | _ | _ | _ | _ | _ | _ | _ | _ | _ | ⟨o,as,ks,q⟩ | _ | _ | _ | _ | _ | _ | _ | _ | _ | _ <;> first | exact no1 h | skip
 rcases o with _ | _ | _ | _ | _ | _ | _ | _ | _ | _ | _ | _ | _ | _ | _ | _ | _ | _ | _ | _ | ⟨o,m,ap⟩ | _ | _ | _ | _ | _ | _ <;> first | exact no1 h | skip
 rcases o with _ | _ | _ | _ | _ | _ | _ | _ | _ | _ | _ | _ | _ | _ | _ | _ | _ | _ | _ | _ | _ | _ | _ | ⟨x,_⟩ | _ | _ | _ <;> first | exact no1 h | skip
 rcases as with _ | ⟨e,_ | _⟩ <;> first | exact no1 h | skip
 rcases ks with _ | _ <;> first | exact no1 h | skip
 refine cK h fun hc h1=>aL h1 fun v hv h2=> ?_
 rw [Bool.and_eq_true,Bool.and_eq_true,Bool.and_eq_true] at hc
 rcases hx:ρ x with _ | ⟨u | u⟩ <;> rw [hx] at h2 <;> first | exact no1 h2 | skip
 rcases u with _ | _ | _ | _ | l | _ | _ | _ | _ | _ <;> first | exact no1 h2 | skip
 refine cK h2 fun hf h3=> ?_
 rw [Bool.and_eq_true,decide_eq_true_eq] at hf;rw [beq_iff_eq.mp hc.1.1.1];exact Option.some.inj h3▸ .append (by simpa using hc.1.1.2) hc.2 hv hx hf.1 hf.2
theorem SX.forS (iB:SXB g b mu n){t it:Expr}{els:List Stmt}(h:exS g.cf mu (n+1) b.sc ρ (.For t it body els p)=some r):Ex g b (exec (.For t it body els p) b.env) ρ r.1 r.2:=by
 rcases t with _ | _ | _ | _ | _ | _ | _ | _ | _ | _ | _ | _ | _ | _ | _ | _ | _ | _ | _ | _ | _ | _ | _ | ⟨x,_⟩ | _ | _ | _ <;> first | exact no1 h | skip
 rcases els with _ | _ <;> first | exact no1 h | skip
 exact cK h fun hx h1=>aL h1 fun xv hxv h2=>aL h2 fun l hl h3=> .for (G:=fun ρ=>exB g.cf mu n b.sc ρ body) hx (fun ρ'1 f ρ' hg=>iB body ρ'1 (f,ρ') hg) hxv hl h3
theorem SX.ifS (iB:SXB g b mu n){t:Expr}{els:List Stmt}(h:exS g.cf mu (n+1) b.sc ρ (.If t body els p)=some r):Ex g b (exec (.If t body els p) b.env) ρ r.1 r.2:=fun S O s E Q R ht q=>
 aL h fun z hz h1=>wpAny_If (aOo (f:=⟨b.sc,b.env,ρ.all,b.A,S++b.F⟩) hz s E _ (R.cxAll ht) fun y s'1 o'1 e k'1=>by
  subst e;have p:=aLl.thru R.zok (.of R k'1 o'1.ht) q
  rcases y with _ | _
  ·exact iB els ρ r h1 S O s'1 E Q (R.kept k'1) o'1.ht p
  ·exact iB body ρ r h1 S O s'1 E Q (R.kept k'1) o'1.ht p)
theorem SX.succ (iB:SXB g b mu n):SX g b mu (n+1):=fun st ρ r h=>by
 rcases st with _ | _ | _ | ⟨e,p⟩ | _ | _ | _ | _ | _ | _ | _ | _ | _ | _ | _ | _ | _ | _ | _ | _ | _ | _ | _ | _ | _ | _ | _ | _ <;> first | exact no1 h | exact SX.assign h | exact SX.append h | exact SX.forS iB h | exact SX.ifS iB h | skip
 ·rcases e with _ | e
  ·exact no1 h
  ·exact aL h fun v hv h1=>Option.some.inj h1▸ .ret hv
 ·exact Option.some.inj h▸fun S O s E Q R ht q=>wpAny_Break (q O s ⟨ht,KW.refl s,fun _ h=> .inl h,R⟩)
theorem SXB.succ (iS:SX g b mu n)(iB:SXB g b mu n):SXB g b mu (n+1):=fun sts ρ r h=>by
 rcases sts with _ | ⟨st,sts⟩
 ·exact Option.some.inj h▸fun S O s E Q R ht q=>wpAny_execs_nil (q O s ⟨ht,KW.refl s,fun _ h=> .inl h,R⟩)
 ·refine aL h fun p hp h1 S O s E Q R ht q=>wpAny_execs_cons (iS st ρ p hp S O s E _ R ht ?_)
  rcases p with ⟨f | f | v,ρ'1⟩
  ·exact fun O1 s'1 on=>iB sts ρ'1 r h1 S O1 s'1 E Q on.rel on.toks (q.thru R.zok on)
  ·exact fun O1 s'1 on=>by
    obtain rfl:=Option.some.inj h1;exact q O1 s'1 on
  ·exact fun y s'1 rt=>by
    obtain rfl:=Option.some.inj h1;exact q y s'1 rt
theorem pM (g:Eg)(b:Bk)(mu:List Str):∀n,SX g b mu n/\SXB g b mu n
 | 0=>⟨fun _ _ _ h=>no1 h,fun _ _ _ h=>no1 h⟩
 | n+1=>⟨SX.succ (pM g b mu n).2,SXB.succ (pM g b mu n).1 (pM g b mu n).2⟩
end
section
set_option genInjectivity false
set_option genSizeOfSpec false
structure aLm (fn:Fn)(h:Heap)(a:Addr)(fd:FuncData):Prop where
 data:∃o,h.get? a=some o/\o.data= .func fd
 body:fd.body= .stmts fn.body
 scope:fd.scope=fn.sc
 globals:fd.globals=mainGlobals
 builtins:fd.builtins=builtinsNs
 closure:fd.closure=[]
 code:h.CodeRec fd.code fd.qualname
 bind:∀vals:List Value,vals.length=fn.ps.length->bindArgs fd ⟨vals,[]⟩=pure (fn.ps.zip vals)
theorem mT {a:Str}{r:List Str}(h:iY (a::r)=true):a∉r/\iY r=true:=by
 rw [aHo] at h;simp only [Bool.and_eq_true,Bool.not_eq_true',List.contains_eq_mem,decide_eq_false_iff_not] at h;exact h
theorem mU {k:Str->Option NameKind}:∀(ps:List Str) (vs:List Value) (m:Str->Option Value),x∉ps->bindL k (ps.zip vs) m x=m x
 | [],_,_,_=>rfl
 | _::_,[],_,_=>rfl
 | p::ps,v::vs,m,h=>by
  have hx:x≠p:=fun q=>h (q▸List.mem_cons_self)
  show bindL k (ps.zip vs) _ x=m x;rw [mU ps vs _ fun q=>h (List.mem_cons_of_mem _ q)]
  split
  ·exact if_neg hx
  ·rfl
theorem mW {k:Str->Option NameKind}:∀(ps:List Str) (vs:List Value) (m:Str->Option Value),x∉ps->bindC k (ps.zip vs) m x=m x
 | [],_,_,_=>rfl
 | _::_,[],_,_=>rfl
 | p::ps,v::vs,m,h=>by
  have hx:x≠p:=fun q=>h (q▸List.mem_cons_self)
  show bindC k (ps.zip vs) _ x=m x;rw [mW ps vs _ fun q=>h (List.mem_cons_of_mem _ q)]
  split
  ·rfl
  ·exact if_neg hx
theorem yG {k:Str->Option NameKind}(hk:k x=some .local):∀(ps:List Str) (vs:List Value) (m:Str->Option Value) (u:Value),iY ps=true->(ps.zip vs).lookup x=some u->bindL k (ps.zip vs) m x=some u
 | [],_,_,_,_,h=>by simp at h
 | _::_,[],_,_,_,h=>by simp at h
 | p::ps,v::vs,m,u,hn,h=>by
  obtain ⟨h1,h2⟩:=mT hn;rw [List.zip_cons_cons,List.lookup_cons] at h;show bindL k (ps.zip vs) _ x=some u
  cases hx:x==p with
  | true=>
   rw [hx] at h;(replace h:=Option.some.inj h;subst h);have:x=p:=by simpa using hx
   subst this;rw [mU ps vs _ h1,if_pos hk];exact if_pos rfl
  | false=>
   rw [hx] at h;exact yG hk ps vs _ u h2 h
theorem yH {k:Str->Option NameKind}(hk:k x≠some .local):∀(ps:List Str) (vs:List Value) (m:Str->Option Value) (u:Value),iY ps=true->(ps.zip vs).lookup x=some u->bindC k (ps.zip vs) m x=some u
 | [],_,_,_,_,h=>by simp at h
 | _::_,[],_,_,_,h=>by simp at h
 | p::ps,v::vs,m,u,hn,h=>by
  obtain ⟨h1,h2⟩:=mT hn;rw [List.zip_cons_cons,List.lookup_cons] at h;show bindC k (ps.zip vs) _ x=some u
  cases hx:x==p with
  | true=>
   rw [hx] at h;(replace h:=Option.some.inj h;subst h);have:x=p:=by simpa using hx
   subst this;rw [mW ps vs _ h1,if_neg hk];exact if_pos rfl
  | false=>
   rw [hx] at h;exact yH hk ps vs _ u h2 h
theorem pN {V:Heap}:∀(ps:List Str) (vs:List Value) (l:List AV) (v:AV),bI V vs l->(ps.zip l).lookup x=some v->∃u,(ps.zip vs).lookup x=some u/\Den V u v/\x∈ps
 | [],_,_,_,_,h=>by simp at h
 | _::_,_,[],_,_,h=>by simp at h
 | p::ps,vs,a::l,v,hd,h=>by
  obtain ⟨y,ys,rfl,h1,h2⟩:=hd.cons_inv;rw [List.zip_cons_cons,List.lookup_cons] at h ⊢
  cases hx:x==p with
  | true=>
   rw [hx] at h;(replace h:=Option.some.inj h;subst h);have hxp:x=p:=by simpa using hx
   exact ⟨y,rfl,h1,hxp▸List.mem_cons_self⟩
  | false=>
   rw [hx] at h;obtain ⟨u,g1,g2,g3⟩:=pN ps ys l v h2 h;exact ⟨u,g1,g2,List.mem_cons_of_mem _ g3⟩
theorem cW.deeper {d:Nat}(r:cW A (d+1)):cW (A.deeper env) d:=
 ⟨r.handled,by have:=r.depth;show A.depth+1+d<990;exact sal this,by have:=r.units;show A.units+3+8*d+400<9900;lia⟩
variable {g:Eg}{M:List Addr}
theorem aQt {fn:Fn}(h:fn.ok=true):iY fn.ps=true/\(∀ x∈fn.ps,bJ fn.sc x=true)/\(∀ y∈fn.sc.names,y.2≠ .free)/\fn.sc.kind= .function/\fn.sc.isCoroutine=false/\fn.sc.isGenerator=false:=by
 unfold Fn.ok at h;simp only [Bool.and_eq_true,List.all_eq_true,beq_iff_eq,bne_iff_ne,ne_eq,Bool.not_eq_true'] at h;exact ⟨h.1.1.1.1.1,h.1.1.1.1.2,h.1.1.1.2,h.1.1.2,h.1.2,h.2⟩
theorem vQ {fn:Fn}(hs:fd.scope=fn.sc)(h:Heap)(hx:fn.sc.names.lookup x=some .cell):∃c,(cellsFrom (h.objs.size+1) fd.scope.names []).lookup x=some c:=by
 obtain ⟨c,h1,_⟩:=gS fn.sc.names (h.push {cls:= .type "dict",data:= .dict #[]}) [] ⟨(x,.cell),mem_of_lookup hx,rfl,rfl⟩;rw [Heap.size_push] at h1;exact ⟨c,hs▸h1⟩
noncomputable def yI (env:Env):List Addr:=env.locals::(env.cells.filter fun p=>env.cells.lookup p.1==some p.2).map Prod.snd
theorem yJ {fn:Fn}(hok:fn.ok=true){args:List AV}(hat:aLm fn s.heap a fd)(hA:cW A (g.d+1))(hS:g.Sta s.heap)(hZ:∀y∈Zt,y∈M)(hM:∀a∈M,∃o,s.heap.get? a=some o)(hd:bI (hide s.heap M) ys args)
  (X:InCallC s (callEnvC fd s.heap.objs.size a).locals (bindL (callEnvC fd s.heap.objs.size a).kindOf (fn.ps.zip ys) fun _=>none) (callEnvC fd s.heap.objs.size a).cells (bindC (callEnvC fd s.heap.objs.size a).kindOf (fn.ps.zip ys) fun _=>none) s'1):
  Rel g ⟨fn.sc,callEnvC fd s.heap.objs.size a,A.deeper (callEnvC fd s.heap.objs.size a),s,yI (callEnvC fd s.heap.objs.size a)⟩ M [] (bD fn.ps args) s'1:=by
 obtain ⟨hnd,hps,hfree,hkind,hco,hgen⟩:=aQt hok;have hko:∀x,(callEnvC fd s.heap.objs.size a).kindOf x=fn.sc.names.lookup x:=fun x=>by
  show fd.scope.names.lookup x=_;rw [hat.scope]
 have hcells:∀x,fn.sc.names.lookup x=some .cell->∃c,(callEnvC fd s.heap.objs.size a).cells.lookup x=some c:=fun x hx=>vQ hat.scope s.heap hx
 have fresh:∀b,s.heap.objs.size<=b->s.heap.get? b=none:=fun b hb=>by
  rcases e:s.heap.get? b with _ | o
  ·rfl
  ·exact absurd (Heap.lt_size e) (Nat.not_lt.mpr hb)
 obtain ⟨h'1,tk1,rfl⟩:=X.toInCall.same;have hexF:∀c,c∈yI (callEnvC fd s.heap.objs.size a)->s.heap.get? c=none/\∃o,h'1.get? c=some o:=fun c hc=>by
  rcases List.mem_cons.mp hc with rfl | hc
  ·exact ⟨fresh _ (Nat.le_refl _),X.toInCall.ns.imp fun o h=>h.elim fun _ h=>h.elim fun _ h=>h.1⟩
  ·obtain ⟨⟨x,c'⟩,h1,rfl⟩:=List.mem_map.mp hc;have hx:=beq_iff_eq.mp (List.mem_filter.mp h1).2;exact ⟨fresh _ (Nat.le_of_lt (X.above x c' (mem_of_lookup hx))),(X.cell x c' hx).imp fun o h=>h.1⟩
 have kp:Kp s {s with heap:=h'1,toks:=tk1}:=KW.of_keep X.toInCall.keep;refine ⟨⟨⟨fun x h=>(hko x).trans h,fun x h=>(hko x).trans h,fun x h=>(hko x).trans h,fun x h=>absurd rfl (hfree _ (mem_of_lookup h))⟩,hA.deeper,hS,by show fd.scope.kind=_;rw [hat.scope]; exact hkind,hat.globals,hat.builtins,fun c hc=>(hexF c hc).1,.head _,
  fun x c e=>⟨List.mem_cons_of_mem _ (List.mem_map.mpr ⟨(x,c),List.mem_filter.mpr ⟨mem_of_lookup e,beq_iff_eq.mpr e⟩,rfl⟩),Nat.ne_of_gt (X.above x c (mem_of_lookup e))⟩,fun x y c e e'=>name_of_addr X.apart (mem_of_lookup e) (mem_of_lookup e'),fun x hx=> ?_⟩,
  kp,(fun _ h=>nomatch h),(fun _ h=>nomatch h),fun b hb=> ?_,(fun _ h=>nomatch h),(fun _ h=>nomatch h),hZ,⟨_,X.toInCall.ns⟩,fun x c e=>⟨_,X.cell x c e⟩,fun x v e=> ?_,fun x v e=> ?_,fun x y v v' a e=> ?_⟩
 ·rw [hko] at hx;obtain ⟨c,hc⟩:=hcells x hx;rw [hc]; rfl
 ·rw [List.append_nil] at hb;exact (List.mem_append.mp hb).elim (fun q=>kp.ex (g.S.zok _ hS) (hM b q)) fun q=>(hexF b q).2
 ·refine kJ e fun v' h1 h2=> ?_
  obtain rfl:=Slot.val.inj h2;obtain ⟨u,g1,g2,g3⟩:=pN fn.ps ys args v' hd h1;refine ⟨u,?_,g2.keeps (aT (fun b h3 h4=> ?_) fun b o _ e=>X.toInCall.keep b o e)⟩
  ·have hv:=hps x g3;unfold bJ at hv;rw [Bool.or_eq_true,beq_iff_eq,beq_iff_eq] at hv
   rcases hv with hv | hv
   ·have hl:=(hko x).trans hv;exact .inl ⟨hl,_,X.toInCall.ns,yG hl _ _ _ _ hnd g1⟩
   ·have hl:=(hko x).trans hv;obtain ⟨c,hc⟩:=hcells x hv;refine .inr (.inl ⟨hl,c,hc,?_⟩);have:=X.cell x c hc
    rwa [yH (by rw [hl]; decide) _ _ _ _ hnd g1] at this
  ·rw [List.append_nil] at h3;exact (List.mem_append.mp h3).elim (fun q=>absurd q h4) fun q=>(hexF b q).1
 ·exact kJ e fun v' _ h2=>nomatch h2
 ·exact kJ e fun v' _ h2=>nomatch h2
theorem kO {o:Obj}{binds:List (Str × Value)}(ht:0<s.toks)
  (hroom:A.depth<recursionLimit) (ho:s.heap.get? a=some o) (hdata:o.data= .func fd) (hlim:s.heap.NoLimit) (hcd:s.heap.CodeRec fd.code fd.qualname)
  (hbody:fd.body= .stmts body) (hbind:bindArgs fd ⟨vals,[]⟩=pure binds) (hclo:fd.closure=[])
  (hkind:∀x∈binds,fd.scope.names.lookup x.1=some .local\/(fd.scope.names.lookup x.1=some .cell/\((cellsFrom (s.heap.objs.size+1) fd.scope.names []).lookup x.1).isSome=true))
  (h:∀s'1 E,0<s'1.toks->InCallC s (callEnvC fd s.heap.objs.size a).locals (bindL (callEnvC fd s.heap.objs.size a).kindOf binds fun _=>none) (callEnvC fd s.heap.objs.size a).cells
    (bindC (callEnvC fd s.heap.objs.size a).kindOf binds fun _=>none) s'1->
   wpAny (model prog w) (A.deeper (callEnvC fd s.heap.objs.size a)) (execs body (callEnvC fd s.heap.objs.size a)) (fun f s'=>R (.ok (.ret (match f with | .ret v=>v | _=> .none))) s') E s'1)
  (hco:fd.scope.isCoroutine=false) (hgen:fd.scope.isGenerator=false) (hk:fd.scope.kind= .function):
  codeAny (model prog w) A (.call (.ref a) ⟨vals,[]⟩) R s:=by
 refine codeAny_call_function hroom ho hdata hco hgen hbody hcd ?_;rw [hbind,hclo];refine wpAny_pure (wpAny_with_toks (n:=1) ht (wpAny_newFunctionEnv_cells hk hkind fun env he s' x ht'=> ?_));subst he;exact ⟨hlim.keeps x.toInCall.keep,codeAny_func (h s' _ ht' x)⟩
theorem aDy {fn:Fn}(hok:fn.ok=true){args:List AV}{R:Value->Shared->Prop}(hat:∀h,g.Sta h->aLm fn h a fd/\h.NoLimit)(hlen:fn.ps.length=args.length)
  (hA:cW A (g.d+1)) (hS:g.Sta s.heap) (hZ:∀y∈Zt,y∈M) (hM:∀a∈M,∃o,s.heap.get? a=some o) (ht:0<s.toks) (hd:bI (hide s.heap M) ys args)
  (k:∀b s'1 E,b.s'0=s->b.sc=fn.sc->Rel g b M [] (bD fn.ps args) s'1->0<s'1.toks->wpAny (model g.prog g.w) b.A (execs fn.body b.env) (fun f s'=>R (match f with | .ret v=>v | _=> .none) s') E s'1):wpAny (model g.prog g.w) A (call (.ref a) ys) R E s:=by
 obtain ⟨hnd,hps,hfree,hkind,hco,hgen⟩:=aQt hok;obtain ⟨hf,hlim⟩:=hat _ hS;obtain ⟨o,ho,hod⟩:=hf.data;refine wpAny_call (kO ht (binds:=fn.ps.zip ys) (Nat.lt_of_le_of_lt (Nat.le_add_right _ _) (Nat.lt_trans hA.depth (by decide))) ho hod hlim hf.code hf.body (hf.bind ys (by rw [hd.1]; exact hlen.symm)) hf.closure (fun x hx=> ?_)
  (fun s'1 E1 ht1 X=>k ⟨fn.sc,callEnvC fd s.heap.objs.size a,A.deeper (callEnvC fd s.heap.objs.size a),s,yI (callEnvC fd s.heap.objs.size a)⟩ s'1 E1 rfl rfl (yJ hok hf hA hS hZ hM hd X) ht1) (by rw [hf.scope]; exact hco) (by rw [hf.scope]; exact hgen) (by rw [hf.scope]; exact hkind))
 have hv:=hps x.1 (List.of_mem_zip hx).1;unfold bJ at hv;rw [Bool.or_eq_true,beq_iff_eq,beq_iff_eq] at hv;rw [hf.scope];refine hv.imp id fun hv=>⟨hv,?_⟩
 obtain ⟨c,hc⟩:=vQ hf.scope s.heap hv;rw [hf.scope] at hc;rw [hc]; rfl
theorem qV {fn:Fn}(hok:fn.ok=true){fuel:Nat}{args:List AV}(hat:∀h,g.Sta h->aLm fn h a fd/\h.NoLimit)(h:aZ g.cf fuel fn args=some v):bB g.prog g.w g.Sta (g.d+1) a args v:=fun A E s M ys hA hS hZ hM ht hd=>by
 refine cK h fun hlen h=>aDy hok hat hlen hA hS hZ hM ht hd fun b s'1 E1 e1 e2 R ht1=> ?_
 rw [<- e2] at h;subst e1
 rcases hb:exB g.cf fn.mu fuel b.sc (bD fn.ps args) fn.body with _ | ⟨f | f | u,ρ'⟩ <;> rw [hb] at h
 ·exact no1 h
 ·obtain rfl:=Option.some.inj h;exact (pM g b fn.mu fuel).2 fn.body _ _ hb M [] s'1 E1 _ R ht1 fun O' s' on=>⟨.none,on.rel.kp⟩
 ·exact no1 h
 ·obtain rfl:=Option.some.inj h;exact (pM g b fn.mu fuel).2 fn.body _ _ hb M [] s'1 E1 _ R ht1 fun y s' r=>⟨r.den,r.kp⟩
end
noncomputable def jZ (n:Str)(mu:List Str):List Stmt->Option Fn
 | []=>none
 | .FunctionDef m a b _ _ _ sc _ _ _::r=>if m==n then some ⟨a.args.map (·.arg),mu,b,sc⟩ else jZ n mu r
 | _::r=>jZ n mu r
noncomputable def gB:Bool->List Nat->List Nat
 | _,[]=>[]
 | b,c::r=>if c=10 then (if b then gB false r else 13::10::gB false r) else if c=13 then 13::10::gB true r else c::gB false r
noncomputable def cI (l:List Nat):List Nat:=gB false l
theorem aLn (b:Bool)(c:Nat)(r:List Nat):gB b (c::r)=if c=10 then (if b then gB false r else 13::10::gB false r) else if c=13 then 13::10::gB true r else c::gB false r:=rfl
theorem aOs {b:Bool}{c:Nat}{r:List Nat}(h1:c≠10)(h2:c≠13):gB b (c::r)=c::gB false r:=(if_neg h1).trans (if_neg h2)
noncomputable def dC (b:Bool):List Nat->List Nat
 | []=>[]
 | c::r=>if c=46/\b then 46::46::dC false r else c::dC (c==10) r
theorem gC:∀(b:Bool) (c:Nat) (r:List Nat),dC b (c::r)=if c=46/\b=true then 46::46::dC false r else c::dC (c==10) r:=fun _ _ _=>rfl
noncomputable def aJ8 (s:Str):Str:=⟨(dC true (cI s.cps.toList)).toArray⟩
noncomputable def quoteV:List AV->Option AV
 | [.str s]=>if s.length<=2^12 then some (.str (aJ8 s)) else none
 | _=>none
noncomputable def lB:List Nat->List Int->Int->Int->Int->List Int × Int × Int × Int
 | 32::r,count,b,n,nt=>lB r count (b+1) (n+1) nt
 | 9::r,count,b,n,nt=>
  let count:=if b>=count.length then count++List.replicate (b- count.length+1).toNat 0 else count
  lB r (count.set b.toNat (count.getD b.toNat 0+1)) 0 (n+1) (nt+1)
 | _,count,b,n,nt=>(count,b,n,nt)
noncomputable def aW (width:Int):List Str->Str->List Str->List Str
 | [],cur,lines=>lines++[cur]
 | p::r,cur,lines=>if cur.length=0 then aW width r (cur++p) lines else if (cur.length+p.length:Int)>width then aW width r p (lines++[cur]) else aW width r (cur++p) lines
theorem qW:∀(width:Int) (x:PySem.Str) (x_1:List PySem.Str) (p:PySem.Str) (r:List PySem.Str),aW width (p::r) x x_1=if PySem.Str.length x=0 then aW width r (x++p) x_1 else if ↑(PySem.Str.length x)+ ↑(PySem.Str.length p)>width then aW width r p (x_1++[x]) else aW width r (x++p) x_1:=fun _ _ _ _ _=>rfl
section
set_option genInjectivity false
set_option genSizeOfSpec false
variable {g:Eg}{b:Bk}{O':List Addr}{ρ':St}{t:Shared}
theorem Rel.rebase (R:Rel g b S O ρ s)(k:Kp t b.s'0)(hS:g.Sta t.heap):Rel g {b with s'0:=t} S O ρ s:=
 {R with
  ok:={R.ok with sta:=hS,new:=fun a ha=>k.none (g.S.zok _ hS) (R.ok.new a ha)}
  kp:=k.trans R.kp
  newO:=fun a ha=>k.none (g.S.zok _ hS) (R.newO a ha)}
theorem aOt (hS:g.Sta h):∀y∈Zt,∃o,h.get? y=some o:=fun y hy=>by
 obtain ⟨z,hz,rfl⟩:=List.mem_map.mp (show y∈Zs.map (·.2) from hy);obtain ⟨ps,hp⟩:=(g.S.zok _ hS).at' z hz;exact ⟨_,hp.2.2⟩
theorem mX {nm n:Str}(h:fs.lookup nm=none):(fs++[(nm,v)]).lookup n=if n=nm then some v else fs.lookup n:=by
 induction fs with
 | nil=>
  show List.lookup n [(nm,v)]=_;rw [List.lookup_cons]
  by_cases q:n=nm
  ·rw [if_pos q,beq_iff_eq.mpr q]
  ·rw [if_neg q,beq_eq_false_iff_ne.mpr q]
 | cons p r ih=>
  obtain ⟨k,u⟩:=p;rw [List.cons_append,List.lookup_cons,List.lookup_cons];rw [List.lookup_cons] at h
  rcases hk:nm==k with _ | _ <;> rw [hk] at h
  ·rcases hn:n==k with _ | _
   ·exact ih h
   ·rw [if_neg fun q=>by rw [<- q,hn] at hk;exact no4 hk]
  ·exact no2 h
structure Mk (g:Eg)(b:Bk)(S:List Addr)(x dx:Addr)(s:Shared)(O:List Addr)(ρ:St)(fs:List (Str × AV)):Prop where
 rel:Rel g b S O ρ s
 inst:∃mA,s.heap.Inst x g.cf.c mA/\(∀ n,(mA n).isSome=(fs.lookup n).isSome)/\∀n u v,mA n=some u->fs.lookup n=some v->Den (hide s.heap (S++b.F++O)) u v
 dict:∀o,s.heap.get? x=some o->o.dict=some dx
 toks:0<s.toks
 ap:∀y∈[x,dx],y∈S/\y∉b.F/\b.s'0.heap.get? y=none
theorem vR {x:Addr}(I:h.Inst x c mA)(hd:∀o,h.get? x=some o->o.dict=some dx)(k:∀y∈[x,dx], ∀o,h.get? y=some o->h'.get? y=some o):h'.Inst x c mA/\∀o,h'.get? x=some o->o.dict=some dx:=by
 obtain ⟨o,ho,hc,hcl,hod⟩:=I;have e:=hd o ho;have ho':=k x (.head _) o ho;refine ⟨⟨o,ho',hc,hcl,?_⟩,fun o' e'=>Option.some.inj (ho'.symm.trans e')▸e⟩
 rcases hod with ⟨hn,_⟩ | ⟨d2,hd2,hne,hns⟩
 ·exact no1 (hn.symm.trans e)
 ·obtain rfl:=Option.some.inj (hd2.symm.trans e);exact .inr ⟨d2,hd2,hne,hns.imp fun o=>Exists.imp fun _=>Exists.imp fun _=>And.imp (k d2 (.tail _ (.head _)) o) id⟩
variable {x:Addr}
theorem Mk.on (m:Mk g b S x dx s O ρ fs)(on:On g b S O s ρ' O' s'):Mk g b S x dx s' O' ρ' fs:=by
 obtain ⟨mA,hI,h1,h2⟩:=m.inst;have kk:∀y∈[x,dx], ∀o,s.heap.get? y=some o->s'.heap.get? y=some o:=fun y hy o e=>
  on.kw.keep y o (fun q=>(List.mem_append.mp q).elim (m.ap y hy).2.1 fun q=>m.rel.apS y q (m.ap y hy).1) (fun q=>(aOt m.rel.ok.sta y q).elim fun _ e=>no1 ((m.ap y hy).2.2.symm.trans e)) e
 obtain ⟨hI',hd'⟩:=vR hI m.dict kk;refine ⟨on.rel,⟨mA,hI',h1,fun n u v e1 e2=>(h2 n u v e1 e2).keeps fun p o e=> ?_⟩,hd',on.toks,m.ap⟩;have e':=aB.mp e;refine aB.mpr ⟨fun q=> ?_,on.kw.keep p o (fun q=>e'.1 ?_) (fun q=>e'.1 (List.mem_append_left _ (List.mem_append_left _ (m.rel.tabs p q)))) e'.2⟩
 ·rcases List.mem_append.mp q with q | q
  ·exact e'.1 (List.mem_append_left _ q)
  ·exact (on.new p q).elim (fun q=>e'.1 (List.mem_append_right _ q)) fun z=>no1 (z.symm.trans e'.2)
 ·exact (List.mem_append.mp q).elim (fun z=>List.mem_append_left _ (List.mem_append_right _ z)) (List.mem_append_right _)
structure aA1 (Sta:Heap->Prop)(mN:Str->Option Value)(c N:Addr):Prop where
 at':∀h,Sta h->ClsAt (hide h Zt) c N mN
 ga:mN "__getattribute__"=none
 sa:mN "__setattr__"=none
structure yK (mN:Str->Option Value)(n:Str):Prop where
 no:mN n=none
 lk:typeLookup (.type "object") n=pure none
theorem Mk.setattr {slf nm:Str}{Q:Flow->Shared->Prop}(m:Mk g b S x dx s O ρ fs)(K:aA1 g.Sta mN g.cf.c N)(nn:yK mN nm)(hxC:x≠g.cf.c)(hd:(slf==("__debug__":Str))=false)(hself:ρ slf=some (.val (.addr x)))(hfs:fs.lookup nm=none)(hfl:fs.length<=50)
  (hsw:swapsWith e (some (.Attribute (.Name slf p1) nm p2)) p3.line b.env=pure false) (hv:evE g.cf n b.sc ρ.all e=some v) (hf:fU v=true) (h:∀s',Mk g b S x dx s' O ρ (fs++[(nm,v)])->Q .next s'):
  wpAny (model g.prog g.w) b.A (exec (.Assign [.Attribute (.Name slf p1) nm p2] e p3) b.env) Q E s:=by
 refine plainObj_wpAny_Assign_Attribute (mQ (f:=⟨b.sc,b.env,ρ.all,b.A,S++b.F⟩) hv s E _ (m.rel.cxAll m.toks) fun y s'1 o'1 d'1 k'1=> ?_) hsw;have m'1:=m.on (.of m.rel k'1 o'1.ht);obtain ⟨us,hbs,hds⟩:=m'1.rel.vals slf _ hself
 cases hds with
 | addr=>
 refine dB m.rel.ok.kind hbs hd ?_;obtain ⟨mA,hI,h1,h2⟩:=m'1.inst;obtain ⟨ob,hob,_⟩:=id hI;have hobd:=m'1.dict ob hob;obtain ⟨cr,hC⟩:=mF (dX (K.at' _ m'1.rel.sta));have hy:=d'1.flat_hide m'1.rel.noTup hf;obtain ⟨hp,gs,dw,tk,os⟩:=s'1;refine wpAny_with_toks (n:=1) o'1.ht (store_attr PySem.F.store_object hC (dX (K.at' _ m'1.rel.sta)).ns K.sa nn.no nn.lk hxC hI (fun h' tk' hI' hk ho ht'=>h _ ?_) (ns:=fs.map (·.1)) (fun y hy=> ?_) (by rw [sizeLine_eq,List.length_map]; exact lit hfl rfl))
 ·obtain ⟨ob',hob',_,_,_,hd'⟩:=ho ob hob;have e':=hd' dx hobd;have hdx':∀o,h'.get? x=some o->o.dict=some dx:=fun o e=>Option.some.inj (hob'.symm.trans e)▸e'
  have kk:∀p o,p∉[x,dx]->hp.get? p=some o->h'.get? p=some o:=fun p o hn e=>hk p o (fun q=>hn (q▸ .head _)) (fun o0 dx0 e1 e2 q=>hn (by
   obtain rfl:=Option.some.inj (hob.symm.trans e1);obtain rfl:=Option.some.inj (hobd.symm.trans e2);exact q▸ .tail _ (.head _))) e
  have hex:∀y∈[x,dx],y∈S->∃o,h'.get? y=some o:=fun y hy _=>by
   rcases List.mem_cons.mp hy with rfl | hy
   ·exact ⟨_,hob'⟩
   ·obtain ⟨o2,ho2,_,_,hd2⟩:=hI';obtain rfl:=Option.some.inj (hob'.symm.trans ho2)
    rcases hd2 with ⟨hn,_⟩ | ⟨d2,hd2,_,o4,_,_,ho4,_⟩
    ·exact no1 (hn.symm.trans e')
    ·rw [List.mem_singleton.mp hy,Option.some.inj (e'.symm.trans hd2)];exact ⟨o4,ho4⟩
  have R':=m'1.rel.move (X:=[x,dx]) (h':=h') (tk:=tk') (fun _ q=>q) m.rel.tabs m.ap hex kk;refine ⟨R',⟨_,hI',fun n=> ?_,fun n u v' e1 e2=> ?_⟩,hdx',ht',m.ap⟩
  ·rw [mX hfs]
   by_cases q:n=nm
   ·rw [if_pos q,if_pos q]; rfl
   ·rw [if_neg q,if_neg q]; exact h1 n
  ·have up:∀p o,(hide hp (S++b.F++O)).get? p=some o->(hide h' (S++b.F++O)).get? p=some o:=aT (fun p z1 z2=>absurd z1 z2) fun p o hn e=>kk p o (fun q=>hn (List.mem_append_left _ (List.mem_append_left _ (m.ap p q).1))) e
   rw [mX hfs] at e2
   by_cases q:n=nm
   ·rw [if_pos q] at e1 e2;rw [<- Option.some.inj e1,<-Option.some.inj e2];exact hy.keeps up
   ·rw [if_neg q] at e1 e2;exact (h2 n u v' e1 e2).keeps up
 ·have hs:(fs.lookup y).isSome=true:=by
   rw [<- h1 y]
   rcases e:mA y with _ | _
   ·exact absurd e hy
   ·rfl
  obtain ⟨u,hu⟩:=Option.isSome_iff_exists.mp hs;exact List.mem_map.mpr ⟨(y,u),mem_of_lookup hu,rfl⟩
theorem Mk.next {st:Stmt}{rest:List Stmt}{Q:Flow->Shared->Prop}(m:Mk g b S x dx s O ρ fs)(hst:Ex g b (exec st b.env) ρ .next ρ')(h:∀s' O',Mk g b S x dx s' O' ρ' fs->wpAny (model g.prog g.w) b.A (execs rest b.env) Q E s'):wpAny (model g.prog g.w) b.A (execs (st::rest) b.env) Q E s:=
 wpAny_execs_cons (hst S O s E _ m.rel m.toks fun O' s' on=>h s' O' (m.on on))
theorem Mk.forRaw {slf nm ch:Str}{lb:List Stmt}{G:St->Option (Fl × St)}{Q:Flow->Shared->Prop}(m:Mk g b S x dx s O ρ fs)(K:aA1 g.Sta mN g.cf.c N)(nn:yK mN nm)(hd:(slf==("__debug__":Str))=false)(hself:ρ slf=some (.val (.addr x)))(hraw:fs.lookup nm=some (.str raw))(hch:bJ b.sc ch=true)
  (hbody:∀ρ'1 f ρ',G ρ'1=some (f,ρ')->Ex g b (execs lb b.env) ρ'1 f ρ') (hfor:jW (fun a ρ=>G (ρ.set ch (.val a))) (raw.cps.toList.map fun c=> .str ⟨#[c]⟩) ρ=some (.next,ρ')) (h:∀s' O',Mk g b S x dx s' O' ρ' fs->Q .next s'):
  wpAny (model g.prog g.w) b.A (exec (.For (.Name ch p1) (.Attribute (.Name slf p2) nm p3) lb [] p4) b.env) Q E s:=by
 obtain ⟨mA,hI,h1,h2⟩:=m.inst;obtain ⟨u,hu⟩:=Option.isSome_iff_exists.mp (show (mA nm).isSome=true by rw [h1,hraw]; rfl);have hden:=h2 nm u _ hu hraw;obtain ⟨us,hbs,hds⟩:=m.rel.vals slf _ hself
 cases hds with
 | addr=>
 refine wpAny_For ?_;rw [arm_eval_Attribute,iO rfl];refine wpAny_bind (dB m.rel.ok.kind hbs hd (wpAny_bind (wpAny_standAt (wpAny_bind (wpAny_holding (jX (dX (K.at' _ m.rel.sta)) K.ga nn.no nn.lk hI hu hden.handed (wpAny_bind (wpAny_letTemporaryGo (wpAny_pure ?_)))))))));have on:On g b S O s ρ O {s with toks:=s.toks+1}:= .of m.rel Kp.toks (Nat.succ_pos _);exact wpAny_with_toks (n:=1) (Nat.succ_pos _) (dU (s:={s with toks:=s.toks+1}) m.rel.ok.room.handled (x:= .str raw) rfl hden fun I fp wr P St s'2 src t'2=>yF src on.rel t'2 hch hbody hfor fun O' s' on'=>h s' O' (m.on (on.trans m.rel.zok on')))
theorem Mk.den {M:List Addr}(m:Mk g b S x dx s O ρ fs)(hM:∀a∈M,a∈S)(hn:∀y∈[x,dx],y∉M):Den (hide s.heap M) (.ref x) (.inst g.cf.c fs):=by
 obtain ⟨mA,hI,h1,h2⟩:=m.inst;have hI':=(vR (h':=hide s.heap M) hI m.dict fun y hy o e=>aB.mpr ⟨hn y hy,e⟩).1;exact .inst hI' h1 fun n u v e1 e2=>(h2 n u v e1 e2).keeps (aT (fun p z1 z2=>absurd (List.mem_append_left _ (List.mem_append_left _ (hM p z1))) z2) fun _ _ _ e=>e)
end
section
variable {g:Eg}{b:Bk}{O':List Addr}{ρ':St}{t:Shared}{x:Addr}
theorem Mk.store (m:Mk g b S x dx s O ρ fs){y:Str}{u:Value}{Q:Unit->Shared->Prop}(hy:bJ b.sc y=true)(hd:Den (hide s.heap (S++b.F++O)) u v)(h:∀s',Mk g b S x dx s' O (ρ.set y (.val v)) fs->Q () s'):wpAny (model g.prog g.w) b.A (storeName b.env y u) Q E s:=
 gT m.rel m.toks hy (sl:= .val v) hd fun s' on=>h s' (m.on on)
theorem aLo {vs:Array Value}{Q:List Value->Shared->Prop}(hh:A.handled=none)(ht:s.heap.IsTuple a vs)(hn:n=vs.size)(h:∀h',(∀ p o,s.heap.get? p=some o->h'.get? p=some o)->Q vs.toList {s with heap:=h'}):
  wpAny (model prog w) A (unpackItems (.ref a) n none) Q E s:=by
 subst hn;exact wpAny_unpackItems_tuple hh ht fun h' he=>h h' fun p o e=>he p o (Nat.ne_of_lt (Heap.lt_size e)) e
theorem Mk.swapTwo {cn a1 a2 n1 n2:Str}{k1 k2:Nat}{v1 v2:Str}{t1 t2:Tok}{Q:Flow->Shared->Prop}(m:Mk g b S x dx s O ρ fs)
  (hg:g.mg cn=some (.ref g.cf.c)) (hcn:b.sc.names.lookup cn=some .globalImplicit) (hcd:¬(cn==("__debug__":Str))=true) (hx1:bJ b.sc n1=true) (hx2:bJ b.sc n2=true)
  (hc1:∀(A:Around) (E:Value->Shared->Prop) (s:Shared) (Q:Value->Shared->Prop),g.Sta s.heap->Q (.str v1 t1) {s with toks:=s.toks+1}->wpAny (model g.prog g.w) A (getAttr (.ref g.cf.c) a1 true) Q E s)
  (hc2:∀(A:Around) (E:Value->Shared->Prop) (s:Shared) (Q:Value->Shared->Prop),g.Sta s.heap->Q (.str v2 t2) {s with toks:=s.toks+1}->wpAny (model g.prog g.w) A (getAttr (.ref g.cf.c) a2 true) Q E s)
  (hsw:swappedStores [.Tuple [.Name n1 q1,.Name n2 q2] k1 q3] (.Tuple [.Attribute (.Name cn q4) a1 q5,.Attribute (.Name cn q6) a2 q7] k2 q8) b.env=pure (some [n1,n2]))
  (h:∀s',Mk g b S x dx s' O ((ρ.set n2 (.val (.str v2))).set n1 (.val (.str v1))) fs->Q .next s'):
  wpAny (model g.prog g.w) b.A (exec (.Assign [.Tuple [.Name n1 q1,.Name n2 q2] k1 q3] (.Tuple [.Attribute (.Name cn q4) a1 q5,.Attribute (.Name cn q6) a2 q7] k2 q8) q9) b.env) Q E s:=by
 have one:∀{a:Str} {v:Str} {t:Tok} {p p':Pos} {s:Shared} {Q:Value->Shared->Prop} {E:Value->Shared->Prop},(∀ (A:Around) (E:Value->Shared->Prop) (s:Shared) (Q:Value->Shared->Prop),g.Sta s.heap->Q (.str v t) {s with toks:=s.toks+1}->wpAny (model g.prog g.w) A (getAttr (.ref g.cf.c) a true) Q E s)->
   g.Sta s.heap->Q (.str v t) {s with toks:=s.toks+1}->wpAny (model g.prog g.w) b.A (eval (.Attribute (.Name cn p) a p') b.env) Q E s:=by
  intro a v t p p' s Q E hc hs hq;rw [arm_eval_Attribute,iO rfl];refine wpAny_bind (Name_function_global m.rel.ok.kind (m.rel.ok.env.glob _ hcn) (loadGlobal_global (env:=b.env) (m.rel.ok.globals▸g.S.g _ hs) hg ?_) (Bool.eq_false_iff.mpr hcd));exact wpAny_bind (wpAny_standAt (wpAny_bind (wpAny_holding (hc _ _ _ _ hs (wpAny_bind (wpAny_letTemporaryGo (wpAny_pure hq)))))))
 refine Assign_Tuple_swapped (names:=[n1,n2]) ?_ rfl hsw;refine wpAny_Tuple (wpAny_items_cons (one hc1 m.rel.sta (wpAny_items_cons (one hc2 m.rel.sta (wpAny_items_nil ?_)) (dW rfl))) (dW rfl));refine ⟨by rw [sizeLine_eq]; exact Nat.le_of_ble_eq_true rfl,?_⟩;refine aLo m.rel.ok.room.handled (vs:= #[.str v1 t1,.str v2 t2]) ⟨_,Heap.get?_push_size _ rfl,rfl,0,rfl⟩ rfl fun h' hk=> ?_
 have m':Mk g b S x dx {s with heap:=h',toks:=s.toks+1+1} O ρ fs:=m.on (.of m.rel (KW.of_keep fun p o e=>hk p o (Heap.get?_push_of_some _ e)) (Nat.succ_pos _));show wpAny _ b.A (do holding [.str v1 t1] (bindName b.env n2 (.str v2 t2)); assignInOrder [fun v=>bindName b.env n1 v] [.str v1 t1]) _ _ _;refine wpAny_bind (wpAny_holding (wpAny_bindName (m'.store hx2 (.str _ _) fun s'1 m'1=> ?_)));show wpAny _ b.A (do holding [] (bindName b.env n1 (.str v1 t1)); assignInOrder [] []) _ _ _;exact wpAny_bind (wpAny_holding (wpAny_bindName (m'1.store hx1 (.str _ _) fun s'2 m'2=>wpAny_pure (h s'2 m'2))))
theorem Mk.three {n1 n2 n3:Str}{i:Int}{Q:Flow->Shared->Prop}(m:Mk g b S x dx s O ρ fs)(hx1:bJ b.sc n1=true)(hx2:bJ b.sc n2=true)(hx3:bJ b.sc n3=true)
  (h:∀s',Mk g b S x dx s' O (((ρ.set n1 (.val (.int i))).set n2 (.val (.int i))).set n3 (.val (.int i))) fs->Q .next s'):
  wpAny (model g.prog g.w) b.A (exec (.Assign [.Name n1 q1,.Name n2 q2,.Name n3 q3] (.Constant (.int i) k q4) q5) b.env) Q E s:=
 wpAny_Assign_three (wpAny_Constant_int (wpAny_assign_Name ((m.on (.of m.rel Kp.toks (Nat.succ_pos _))).store hx1 (.int _ _) fun _ m'1=>wpAny_assign_Name (m'1.store hx2 (.int _ _) fun _ m'2=>wpAny_assign_Name (m'2.store hx3 (.int _ _) fun s'3 m'3=>h s'3 m'3)))))
noncomputable def vS (ρ:St):St:=((((((ρ.set "T" (.val (.str "\t"))).set "S" (.val (.str " "))).set "count" (.own (.list []))).set "b" (.val (.int 0))).set "n" (.val (.int 0))).set "nt" (.val (.int 0)))
theorem aH3 {ρ5:St}{lb:List Stmt}{e6 e7 e8 e9:Expr}{v6 v7 v8 v9:AV}{tS tT:Tok}
  {k1 k2 k3:Nat}
  (m:Mk g b S x dx s [] ρ []) (K:aA1 g.Sta mN g.cf.c N) (hxC:x≠g.cf.c) (nn:∀y∈[ofString "raw",ofString "n",ofString "nt",ofString "norm",ofString "is_simple"],yK mN y)
  (hself:ρ "self"=some (.val (.addr x))) (hws:ρ "ws"=some (.val (.str raw)))
  (hg:g.mg "Whitespace"=some (.ref g.cf.c)) (hcn:b.sc.names.lookup (ofString "Whitespace")=some NameKind.globalImplicit)
  (hv:∀y∈([ofString "S",ofString "T",ofString "count",ofString "b",ofString "n",ofString "nt",ofString "ch"]),bJ b.sc y=true)
  (hc1:∀(A:Around) (E:Value->Shared->Prop) (s:Shared) (Q:Value->Shared->Prop),g.Sta s.heap->Q (.str " " tS) {s with toks:=s.toks+1}->wpAny (model g.prog g.w) A (getAttr (.ref g.cf.c) "S" true) Q E s)
  (hc2:∀(A:Around) (E:Value->Shared->Prop) (s:Shared) (Q:Value->Shared->Prop),g.Sta s.heap->Q (.str "\t" tT) {s with toks:=s.toks+1}->wpAny (model g.prog g.w) A (getAttr (.ref g.cf.c) "T" true) Q E s)
  (hsw:swappedStores [.Tuple [.Name "S" q1,.Name "T" q2] k1 q3] (.Tuple [.Attribute (.Name "Whitespace" q4) "S" q5,.Attribute (.Name "Whitespace" q6) "T" q7] k2 q8) b.env=pure (some [ofString "S",ofString "T"]))
  (hfor:jW (fun a ρ=>exB g.cf [ofString "count"] k b.sc (ρ.set "ch" (.val a)) lb) (raw.cps.toList.map fun c=> .str ⟨#[c]⟩) (vS ρ)=some (.next,ρ5)) (hself5:ρ5 "self"=some (.val (.addr x)))
  (h6:evE g.cf k b.sc ρ5.all e6=some v6/\fU v6=true) (h7:evE g.cf k b.sc ρ5.all e7=some v7/\fU v7=true) (h8:evE g.cf k b.sc ρ5.all e8=some v8/\fU v8=true) (h9:evE g.cf k b.sc ρ5.all e9=some v9/\fU v9=true)
  (w6:∀t l,swapsWith e6 (some (.Attribute (.Name "self" g1) t g2)) l b.env=pure false) (w7:∀t l,swapsWith e7 (some (.Attribute (.Name "self" g4) t g5)) l b.env=pure false)
  (w8:∀t l,swapsWith e8 (some (.Attribute (.Name "self" g7) t g8)) l b.env=pure false) (w9:∀t l,swapsWith e9 (some (.Attribute (.Name "self" g10) t g11)) l b.env=pure false)
  {Q:Flow->Shared->Prop} (h:∀s' O',Mk g b S x dx s' O' ρ5 [("raw",.str raw),("n",v6),("nt",v7),("norm",v8),("is_simple",v9)]->Q .next s'):
  wpAny (model g.prog g.w) b.A (execs [.Assign [.Attribute (.Name "self" p1) "raw" p2] (.Name "ws" p3) p4,
   .Assign [.Tuple [.Name "S" q1,.Name "T" q2] k1 q3] (.Tuple [.Attribute (.Name "Whitespace" q4) "S" q5,.Attribute (.Name "Whitespace" q6) "T" q7] k2 q8) q9,
   .Assign [.Name "count" r1] (.List [] r2) r3,
   .Assign [.Name "b" u1,.Name "n" u2,.Name "nt" u3] (.Constant (.int 0) k3 u4) u5,
   .For (.Name "ch" f1) (.Attribute (.Name "self" f2) "raw" f3) lb [] f4,
   .Assign [.Attribute (.Name "self" g1) "n" g2] e6 g3,.Assign [.Attribute (.Name "self" g4) "nt" g5] e7 g6,.Assign [.Attribute (.Name "self" g7) "norm" g8] e8 g9,.Assign [.Attribute (.Name "self" g10) "is_simple" g11] e9 g12] b.env) Q E s:=
 wpAny_execs_cons (m.setattr K (nn _ (by simp)) hxC rfl hself rfl (Nat.zero_le _) rfl (n:=1) (v:= .str raw) (by show Option.map Slot.av (ρ "ws")=_;rw [hws]; rfl) rfl fun s'1 m'1=>
 wpAny_execs_cons (m'1.swapTwo hg hcn (by decide) (hv _ (by simp)) (hv _ (by simp)) hc1 hc2 hsw fun s'2 m'2=>
 m'2.next (.assign (mu:=[ofString "count"]) (n:=2) (sl:= .own (.list [])) (hv _ (by simp)) rfl) fun s'3 O3 m'3=>
 wpAny_execs_cons (m'3.three (hv _ (by simp)) (hv _ (by simp)) (hv _ (by simp)) fun s4 m4=>
 wpAny_execs_cons (m4.forRaw K (nn _ (by simp)) rfl hself rfl (hv _ (by simp)) (G:=fun ρ=>exB g.cf [ofString "count"] k b.sc ρ lb) (fun ρ'1 f ρ' hg=>(pM g b [ofString "count"] k).2 lb ρ'1 (f,ρ') hg) hfor fun s5 O5 m5=>
 wpAny_execs_cons (m5.setattr K (nn _ (by simp)) hxC rfl hself5 rfl (Nat.le_of_ble_eq_true rfl) (w6 _ _) h6.1 h6.2 fun s6 m'6=>
 wpAny_execs_cons (m'6.setattr K (nn _ (by simp)) hxC rfl hself5 rfl (Nat.le_of_ble_eq_true rfl) (w7 _ _) h7.1 h7.2 fun s7 m7=>
 wpAny_execs_cons (m7.setattr K (nn _ (by simp)) hxC rfl hself5 rfl (Nat.le_of_ble_eq_true rfl) (w8 _ _) h8.1 h8.2 fun s8 m8=>
 wpAny_execs_cons (m8.setattr K (nn _ (by simp)) hxC rfl hself5 rfl (Nat.le_of_ble_eq_true rfl) (w9 _ _) h9.1 h9.2 fun s9 m9=>wpAny_execs_nil (h s9 O5 m9)))))))))
end
section
variable {g:Eg}
theorem aA2 (C:Addr)(vals:List Value):(Code.builtin "type.__call__" ⟨.ref C::vals,[]⟩).cUnits<=8:=by
 have h:(Code.builtin "type.__call__" ⟨.ref C::vals,[]⟩).frames=0:=rfl;simp [Code.cUnits,h]
theorem cW.under {d:Nat}(r:cW A (d+1)):cW (A.under (.builtin "type.__call__" ⟨.ref C::vals,[]⟩)) d:=by
 refine ⟨r.handled,?_,?_⟩
 ·have:=r.depth;show A.depth+1+d<990;exact sal this
 ·have h1:=r.units;have h2:=aA2 C vals;show A.units+(Code.builtin "type.__call__" ⟨.ref C::vals,[]⟩).cUnits+8*d+400<9900
  lia
theorem aA3 (K:aA1 g.Sta mN g.cf.c N){fI:Addr}{fn:Fn}{oI:Obj}(hi:mN "__init__"=some (.ref fI))(hok:fn.ok=true)(hcI:oI.cls= .type "function")(hoI:∀h,g.Sta h->h.get? fI=some oI)(hat:∀h,g.Sta h->aLm fn h fI fd/\h.NoLimit)
   (hps:fn.ps=[ofString "self",ofString "ws"])
  (hrun:∀(b:Bk) (E:Value->Shared->Prop) (s:Shared) (S:List Addr) (x dx:Addr) (Q:Flow->Shared->Prop),b.env=callEnvC fd b.env.locals fI->b.sc=fn.sc->x≠g.cf.c->Mk g b S x dx s [] (bD fn.ps [.addr x,.str raw]) []->
   (∀ s' O' ρ',Mk g b S x dx s' O' ρ' fs->Q .next s')->wpAny (model g.prog g.w) b.A (execs fn.body b.env) Q E s):bB g.prog g.w g.Sta (g.d+2) g.cf.c [.str raw] (.inst g.cf.c fs):=by
 intro A E s M ys hA hS hZ hM ht hd;refine hd.consE fun y ys' e hy hys=>hy.strE fun t e'=> ?_
 have e'':=hys.nil_inv;subst e e' e'';have hX:=dX (K.at' _ hS);obtain ⟨cr,hC⟩:=mF hX;obtain ⟨hp,gs,dw,tk,os⟩:=s;refine wpAny_call_obj_init PySem.F.objNew hC hX.ns hi (hoI _ hS) hcI fun h' x dx made=> ?_
 have kp:Kp ⟨hp,gs,dw,tk,os⟩ ⟨h',gs,dw,tk,os⟩:=KW.of_keep made.keeps;have hS':g.Sta h':=g.S.keeps _ _ kp hS;obtain ⟨hf,hlim⟩:=hat _ hS';obtain ⟨o,ho,hod⟩:=hf.data;obtain ⟨hnd,hpsv,hfree,hkind,hco,hgen⟩:=aQt hok;have hA':cW (A.under (.builtin "type.__call__" ⟨.ref g.cf.c::[.str raw t],[]⟩)) (g.d+1):=hA.under;have new:∀y∈[x,dx],hp.get? y=none:=fun y hy=>(List.mem_cons.mp hy).elim (fun q=>q▸made.newX) fun hy=>List.mem_singleton.mp hy▸made.newD
 have exs:∀y∈[x,dx], ∃o,h'.get? y=some o:=fun y hy=>by
  obtain ⟨ob,hob,hoc,hocl,hodd⟩:=id made.inst
  rcases List.mem_cons.mp hy with rfl | hy
  ·exact ⟨ob,hob⟩
  ·have hdo:=made.dict ob hob
   rcases hodd with ⟨hn,_⟩ | ⟨d2,hd2,_,o4,_,_,ho4,_⟩
   ·exact no1 (hn.symm.trans hdo)
   ·rw [List.mem_singleton.mp hy,Option.some.inj (hdo.symm.trans hd2)]; exact ⟨o4,ho4⟩
 have nM:∀y∈[x,dx],y∉M:=fun y hy q=>(hM y q).elim fun o e=>no1 ((new y hy).symm.trans e)
 have hMx:∀a∈M++[x,dx], ∃o,h'.get? a=some o:=fun a ha=>(List.mem_append.mp ha).elim (fun q=>kp.ex (g.S.zok _ hS) (hM a q)) (exs a)
 refine wpAny_call (kO (s:=⟨h',gs,dw,tk,os⟩) ht (binds:=fn.ps.zip [.ref x,.str raw t]) (Nat.lt_of_le_of_lt (Nat.le_add_right _ _) (Nat.lt_trans hA'.depth (by decide))) ho hod hlim hf.code hf.body (hf.bind _ (by rw [hps]; rfl)) hf.closure (fun z hz=> ?_) (fun s'1 E1 ht1 X=> ?_) (by rw [hf.scope]; exact hco) (by rw [hf.scope]; exact hgen) (by rw [hf.scope]; exact hkind))
 ·have hv:=hpsv z.1 (List.of_mem_zip hz).1;unfold bJ at hv;rw [Bool.or_eq_true,beq_iff_eq,beq_iff_eq] at hv;rw [hf.scope];refine hv.imp id fun hv=>⟨hv,?_⟩
  obtain ⟨c,hc⟩:=vQ hf.scope h' hv;rw [hf.scope] at hc;rw [hc]; rfl
 ·have R:=yJ (s:=⟨h',gs,dw,tk,os⟩) (M:=M++[x,dx]) (args:=[.addr x,.str raw]) hok hf hA' hS' (fun y hy=>List.mem_append_left _ (hZ y hy)) hMx (.cons (.addr x) (.cons (.str _ _) .nil)) X;obtain ⟨h'1,tk1,rfl⟩:=X.toInCall.same;have kk:=X.toInCall.keep;have ap:∀y∈[x,dx],y∉yI (callEnvC fd h'.objs.size fI):=fun y hy q=>(exs y hy).elim fun o e=>no1 ((R.ok.new y q).symm.trans e)
  obtain ⟨hI,hdi⟩:=vR (h':=h'1) made.inst made.dict fun y hy o e=>kk y o e
  refine hrun _ _ _ (M++[x,dx]) x dx _ rfl rfl (fun q=> ?_) ⟨R.rebase kp hS,⟨fun _=>none,hI,fun _=>rfl,fun _ _ _ e=>no1 e⟩,hdi,ht1,fun y hy=>⟨List.mem_append_right _ hy,ap y hy,new y hy⟩⟩ fun s' O' ρ' m=>⟨rfl,m.den (fun a ha=>List.mem_append_left _ ha) nM,m.rel.kp⟩
  have:=made.newX;rw [q] at this;exact no1 (this.symm.trans hC)
end
section
variable {csc:Scope}{ρ:Loc}{r:St} {l t i it elt hi:Expr}{f m:Str}{op:Operator}{cp:CmpOp}{bo:BoolOp}{c:Const}{u w:Expr}{a b:AV}{j v:Int}{ifs:List Expr}{s:Str}
theorem aOu:evE cf (n+1) sc ρ (.Name x p)=if (x==("__debug__":Str)) then none else ρ x:=rfl
theorem aQu:evE cf (n+1) sc ρ (.BinOp l op u p)=(evE cf n sc ρ l).bind fun a=>(evE cf n sc ρ u).bind fun b=>cO op a b:=rfl
theorem aQv:evE cf (n+1) sc ρ (.Compare l [cp] [u] p)=(evE cf n sc ρ l).bind fun a=>(evE cf n sc ρ u).bind fun b=>(cmp cp a b).bind fun z=>some (.bool z):=rfl
theorem aOv:evE cf (n+1) sc ρ (.BoolOp bo es p)=(evB cf n sc ρ bo es).bind fun z=>some (.bool z):=rfl
theorem aLp:evE cf (n+1) sc ρ (.Subscript (.Name x xp) (.Slice none (some hi) none p) q)=(evE cf n sc ρ (.Name x xp)).bind fun a=>(evE cf n sc ρ hi).bind fun b=>aDd a b:=rfl
noncomputable def aDz:Expr->Bool
 | .Slice _ _ _ _=>true
 | _=>false
theorem aJ9 (h:aDz i=false):evE cf (n+1) sc ρ (.Subscript e i p)=(evE cf n sc ρ e).bind fun a=>(evE cf n sc ρ i).bind fun b=>lX a b:=by
 rcases e with _ | _ | _ | _ | _ | _ | _ | _ | _ | _ | _ | _ | _ | _ | _ | _ | _ | _ | _ | _ | _ | _ | _ | ⟨x,xp⟩ | _ | _ | _ <;> first | rfl | (rcases i with _ | _ | _ | _ | _ | _ | _ | _ | _ | _ | _ | _ | _ | _ | _ | _ | _ | _ | _ | _ | _ | _ | _ | _ | _ | _ | _ <;> first | rfl | exact no4 h)
theorem aSf:evE cf (n+1) sc ρ (.Subscript e (.BinOp l op u xp) p)=(evE cf n sc ρ e).bind fun a=>(evE cf n sc ρ (.BinOp l op u xp)).bind fun b=>lX a b:=aJ9 rfl
theorem aKa:evE cf (n+1) sc ρ (.List es p)=if es.length<=1000 then (eC cf n sc ρ es).map .list else none:=rfl
theorem aLq:evE cf (n+1) sc ρ (.Tuple es k p)=if es.length<=1000 then (eC cf n sc ρ es).map .tup else none:=rfl
theorem yL:evE cf (n+1) sc ρ (.Call (.Name f q) as [] p)=match sc.names.lookup f with
  | some .globalImplicit=>if (f==("__debug__":Str)) then none else (eC cf n sc ρ as).bind fun vs=>match aI f vs with
   | some v=>some v
   | none=>match iK f vs with
    | some v=>some v
    | none=>match cf.fn f vs with
     | some v=>some v
     | none=>cf.cl f vs
  | _=>none:=rfl
theorem aOw:evE cf (n+1) sc ρ (.Attribute e x p)=if bY e then (evE cf n sc ρ e).bind fun a=>match a with
  | .inst c fs=>if c==cf.c&&cf.ats.contains x then fs.lookup x else none
  | _=>none
 else none:=rfl
theorem yM:evE cf (n+1) sc ρ (.Call (.Attribute o m ap) as [] p)=if bY o&&ap.endLine==p.line&&decide (as.length<30) then (evE cf n sc ρ o).bind fun a=>match a with
  | .inst c fs=>if c==cf.c&&(fs.lookup m).isNone then (eC cf n sc ρ as).bind fun vs=>cf.me m (.inst c fs::vs) else none
  | .str x=>if m==("replace":Str) then gQ x as else if m==("join":Str) then (eC cf n sc ρ as).bind fun vs=>aAp x vs else none
  | .dict l=>if m==("get":Str) then (eC cf n sc ρ as).bind fun vs=>aOh l vs else none
  | _=>none
 else none:=rfl
theorem aOx:evE cf (n+1) sc ρ (.ListComp elt [⟨.Name x px,it,ifs,0⟩] csc p)=if fT csc x&&cP sc ρ csc then (evE cf n sc ρ it).bind fun a=>(bL a).bind fun l=>
  if l.length<=2^20 then (iM (fun v=>(aLd cf n csc (bQ ρ csc x v) ifs).bind fun z=>if z then (evE cf n csc (bQ ρ csc x v) elt).bind fun v=>some (some v) else some none) l).map .list else none
 else none:=rfl
theorem aLr:eC cf (n+1) sc ρ (e::es)=(evE cf n sc ρ e).bind fun a=>(eC cf n sc ρ es).bind fun r=>some (a::r):=rfl
theorem aQw:evB cf (n+1) sc ρ bo [e]=(evE cf n sc ρ e).bind truth:=by rcases bo with _ | _ <;> rfl
theorem aQx:evB cf (n+1) sc ρ .And (e::u::es)=(evE cf n sc ρ e).bind fun a=>(truth a).bind fun z=>if z then evB cf n sc ρ .And (u::es) else some false:=rfl
theorem aQy:evT cf (n+1) sc ρ (.Compare l [cp] [u] p)=(evE cf n sc ρ l).bind fun a=>(evE cf n sc ρ u).bind fun b=>cmp cp a b:=rfl
theorem aD0:evT cf (n+1) sc ρ (.BoolOp bo es p)=evA cf n sc ρ bo es:=rfl
theorem aOy:evA cf (n+1) sc ρ bo []=some (bo== .And):=by rcases bo with _ | _ <;> rfl
theorem aLs:evA cf (n+1) sc ρ .And (e::es)=(evT cf n sc ρ e).bind fun z=>if z then evA cf n sc ρ .And es else some false:=rfl
theorem aSg:evA cf (n+1) sc ρ .Or (e::es)=(evT cf n sc ρ e).bind fun z=>if z then some true else evA cf n sc ρ .Or es:=rfl
theorem tC:exS cf mu (n+1) sc r (.Assign [t] e p)=vG cf mu n sc r e t:=rfl
theorem aQz:exS cf mu (n+1) sc r (.Expr e p)=aHn cf n sc r e:=rfl
theorem aQ0:exS cf mu (n+1) sc r (.Return (some e) p)=(evE cf n sc r.all e).bind fun v=>some (.ret v,r):=rfl
theorem aSh {y z:List Stmt}:exS cf mu (n+1) sc r (.If t y z p)=(evT cf n sc r.all t).bind fun c=>if c then exB cf mu n sc r y else exB cf mu n sc r z:=rfl
theorem aQ1 {y:List Stmt}:exS cf mu (n+1) sc r (.For (.Name x px) it y [] p)=if bJ sc x then (evE cf n sc r.frozen it).bind fun a=>(bL a).bind fun l=>jW (fun a ρ=>exB cf mu n sc (ρ.set x (.val a)) y) l r else none:=rfl
theorem aA4:exB cf mu (n+1) sc r []=some (.next,r):=rfl
theorem aD1 {st:Stmt}{y:List Stmt}:exB cf mu (n+1) sc r (st::y)=(exS cf mu n sc r st).bind fun z=>match z with
  | (.next,ρ')=>exB cf mu n sc ρ' y
  | (f,ρ')=>some (f,ρ'):=rfl
theorem jD:vG cf mu n sc r e (.Name x p)=if bJ sc x then match moved r e x with
   | some (y,v)=>some (.next,(r.del y).set x (.val v))
   | none=>(evS cf mu n sc r x e).bind fun s=>some (.next,r.set x s)
  else none:=rfl
theorem aLt:vG cf mu n sc r e (.Tuple es k p)=aHl cf n sc r e es:=rfl
theorem aD2:vG cf mu n sc r e (.Subscript (.Name x xp) i p)=aHm cf n sc r e i x:=rfl
theorem aSi:aHn cf n sc r (.Call (.Attribute (.Name x xp) m ap) [e] [] p)=if m==("append":Str)&&x !=("__debug__":Str)&&x !=("super":Str)&&ap.endLine==p.line then (evE cf n sc r.all e).bind fun v=>match r x with
   | some (.own (.list l))=>if fU v&&decide (l.length<=2^20) then some (.next,r.set x (.own (.list (l++[v])))) else none
   | _=>none
  else none:=rfl
theorem aLu {y:Str}{at':Str}:aHl cf n sc r (.Attribute e at' p) [.Name x xp,.Name y px]=if bJ sc x&&bJ sc y then (evE cf n sc r.all (.Attribute e at' p)).bind fun a=>match a with
   | .tup [v,u]=>if fU v&&fU u then some (.next,(r.set x (.val v)).set y (.val u)) else none
   | _=>none
  else none:=rfl
theorem aRz:cmp .NotEq a b=(cN a b).map (!·):=rfl
end
theorem St.set_ne {ρ:St}{y:Str}{v:Slot}{r:Option Slot}(h:y≠x)(e:ρ y=r):ρ.set x v y=r:=(if_neg h).trans e
theorem St.set_nb {ρ:St}{y:Str}{v:Slot}{r:Option Slot}(h:(y==x)=false)(e:ρ y=r):ρ.set x v y=r:=(if_neg (ne_of_beq_false h)).trans e
theorem tD {ρ:St}{s:Slot}(h:ρ x=some s):ρ.all x=some s.av:=congrArg (Option.map Slot.av) h
theorem aD {ρ:St}(h:ρ x=some (.val v)):ρ.all x=some v:=tD h
theorem bN {ρ:St}(h:ρ x=some (.val v)):ρ.frozen x=some v:=by
 show (match ρ x with | some (.val v)=>some v | _=>none)=_;rw [h]
section
variable {csc:Scope}
theorem aE {ρ ρ':St}{st:Stmt}{r:List Stmt}(h:exS cf mu k sc ρ st=some (.next,ρ')):exB cf mu (k+1) sc ρ (st::r)=exB cf mu k sc ρ' r:=by
 rw [aD1,h]; rfl
theorem jE {ρ:St}{t:Expr}{b o:List Stmt}{c:Bool}(h:evT cf k sc ρ.all t=some c):exS cf mu (k+1) sc ρ (.If t b o p)=if c then exB cf mu k sc ρ b else exB cf mu k sc ρ o:=by
 rw [aSh,h]; rfl
theorem aU {ρ ρ':St}{st:Stmt}(h:exS cf mu (k+1) sc ρ st=some (.next,ρ')):exB cf mu (k+2) sc ρ [st]=some (.next,ρ'):=(aE h).trans aA4
theorem cQ {ρ:St}{it:Expr}{xv:AV}{r:Fl × St}(hx:bJ sc x=true)(h1:evE cf k sc ρ.frozen it=some xv)(h2:bL xv=some l)
  (h3:jW (fun a ρ=>exB cf mu k sc (ρ.set x (.val a)) body) l ρ=some r):exS cf mu (k+1) sc ρ (.For (.Name x px) it body [] q)=some r:=by
 rw [aQ1,if_pos hx,h1];show (bL xv).bind _=_;rw [h2];exact h3
theorem cD {ρ:St}(hx:bJ sc x=true)(hm:moved ρ e x=none)(h:evE cf m sc ρ.all e=some v)(hf:fU v=true):exS cf mu (m+1) sc ρ (.Assign [.Name x px] e p)=some (.next,ρ.set x (.val v)):=by
 rw [tC,jD,if_pos hx,hm];have q:evS cf mu m sc ρ x e=some (.val v):=by unfold evS;rw [h]; exact if_pos hf
 exact congrArg (Option.bind · fun s=>some (Fl.next,ρ.set x s)) q
theorem aD3 {ρ:St}(hx:bJ sc x=true)(hm:moved ρ e x=none)(h:evE cf m sc ρ.all e=some (.list l))(hmu:(mu.contains x&&pF e)=true)(hl:eM l=true):exS cf mu (m+1) sc ρ (.Assign [.Name x px] e p)=some (.next,ρ.set x (.own (.list l))):=by
 rw [tC,jD,if_pos hx,hm];have q:evS cf mu m sc ρ x e=some (.own (.list l)):=by unfold evS;rw [h]; exact (if_pos hmu).trans (if_pos hl)
 exact congrArg (Option.bind · fun s=>some (Fl.next,ρ.set x s)) q
theorem aH4 {ρ:St}{l:List (Int × Int)}(hx:bJ sc x=true)(hm:moved ρ e x=none)(h:evE cf m sc ρ.all e=some (.dict l))(hmu:(mu.contains x&&pF e)=true):exS cf mu (m+1) sc ρ (.Assign [.Name x px] e p)=some (.next,ρ.set x (.own (.dict l))):=by
 rw [tC,jD,if_pos hx,hm];have q:evS cf mu m sc ρ x e=some (.own (.dict l)):=by unfold evS;rw [h]; exact if_pos hmu
 exact congrArg (Option.bind · fun s=>some (Fl.next,ρ.set x s)) q
theorem aD4 {ρ:St}{v':AV}(hx:bJ sc x=true)(hm:moved ρ e x=none)(h:evE cf m sc ρ.all e=some v)(hf:fU v=false)(hmu:(mu.contains x&&pF e)=false)(h':evE cf m sc ρ.frozen e=some v'):exS cf mu (m+1) sc ρ (.Assign [.Name x px] e p)=some (.next,ρ.set x (.val v')):=by
 rw [tC,jD,if_pos hx,hm];have q:evS cf mu m sc ρ x e=some (.val v'):=by unfold evS;rw [h]; refine (if_neg (Bool.eq_false_iff.mp hf)).trans ?_;rw [if_neg (Bool.eq_false_iff.mp hmu),h']; rfl
 exact congrArg (Option.bind · fun s=>some (Fl.next,ρ.set x s)) q
theorem aH5 {ρ:St}{y:Str}{py:Pos}(hx:bJ sc x=true)(hn:(y==x||y==("__debug__":Str))=false)(h:ρ y=some (.own v)):exS cf mu (m+1) sc ρ (.Assign [.Name x px] (.Name y py) p)=some (.next,(ρ.del y).set x (.val v)):=by
 have hm:moved ρ (.Name y py) x=some (y,v):=by
  show (if (y==x||y==("__debug__":Str)) then none else match ρ y with | some (.own v)=>some (y,v) | _=>none)=_;rw [hn,h]; rfl
 rw [tC,jD,if_pos hx,hm]
theorem vT {ρ:St}(hl:(ap.endLine==p.line)=true)(hx:(x !=("__debug__":Str)&&x !=("super":Str))=true)(h:evE cf m sc ρ.all e=some v)(hw:ρ x=some (.own (.list l)))(hf:fU v=true)(hn:l.length<=2^20):exS cf mu (m+1) sc ρ (.Expr (.Call (.Attribute (.Name x xp) "append" ap) [e] [] p) q)=some (.next,ρ.set x (.own (.list (l++[v])))):=by
 rw [Bool.and_eq_true] at hx;rw [aQz,aSi,if_pos (by rw [hx.1,hx.2,hl]; rfl),h,hw];exact if_pos (by rw [hf,decide_eq_true hn]; rfl)
theorem lG {ρ:St}{sp:Pos}{i:Expr}{k:Int}(hd:(x==("__debug__":Str))=false)(he:evE cf m sc ρ.all e=some v)(hi:evE cf m sc ρ.all i=some (.int k))(hx:ρ x=some (.own (.list l)))(hj:lZ l.length k=some j)(hv:fU v=true)(hn:l.length<=2^20):
  exS cf mu (m+1) sc ρ (.Assign [.Subscript (.Name x xp) i sp] e p)=some (.next,ρ.set x (.own (.list (l.set j v)))):=by
 rw [tC,aD2];unfold aHm;rw [hd,he,hi];show (match ρ x with | some (.own (.list l))=>_ | some (.own (.dict l))=>_ | _=>_)=_;rw [hx];show (match lZ l.length k with | some j=>_ | none=>_)=_;rw [hj];exact if_pos (by rw [hv,decide_eq_true hn]; rfl)
theorem aH6 {ρ:St}{sp:Pos}{i:Expr}{k j:Int}{l:List (Int × Int)}(hd:(x==("__debug__":Str))=false)(he:evE cf m sc ρ.all e=some (.int j))(hi:evE cf m sc ρ.all i=some (.int k))(hx:ρ x=some (.own (.dict l)))(hl:l.length<=2^20):exS cf mu (m+1) sc ρ (.Assign [.Subscript (.Name x xp) i sp] e p)=some (.next,ρ.set x (.own (.dict (kL l k j)))):=by
 rw [tC,aD2];unfold aHm;rw [hd,he,hi];show (match ρ x with | some (.own (.list l))=>_ | some (.own (.dict l))=>_ | _=>_)=_;rw [hx];exact if_pos (decide_eq_true hl)
theorem dD {ρ:St}{r:List Stmt}(h:evE cf m sc ρ.all e=some v):exB cf mu (m+2) sc ρ (.Return (some e) p::r)=some (.ret v,ρ):=by
 rw [aD1,aQ0,h]; rfl
variable {ρ:Loc}
theorem aD5 {α:Type}{F:AV->Option (Option AV)}{f g:α->AV}{l:List α}(h:∀a∈l,F (f a)=some (some (g a))):iM F (l.map f)=some (l.map g):=by
 induction l with
 | nil=>rfl
 | cons a r ih=>
  show ((F (f a)).bind fun z=>match z with | some v=>(iM F (r.map f)).bind fun y=>some (v::y) | none=>iM F (r.map f))=_;rw [h a (List.mem_cons_self ..)];show (iM F (r.map f)).bind (fun y=>some (g a::y))=_;rw [ih fun b hb=>h b (List.mem_cons_of_mem _ hb)]; rfl
theorem aH7 (hm:m≠0):aLd cf m sc ρ []=some true:=by
 rcases m with _ | m
 ·exact absurd rfl hm
 ·rfl
theorem eE {α:Type}{elt it:Expr}{xv:AV}{l:List α}{f:α->AV}(g:α->AV)(hm:m≠0)(hok:fT csc x=true)(hcl:cP sc ρ csc=true)(hit:evE cf m sc ρ it=some xv)(hl:bL xv=some (l.map f))(hn:l.length<=2^20)
  (hel:∀a∈l,evE cf m csc (bQ ρ csc x (f a)) elt=some (g a)):evE cf (m+1) sc ρ (.ListComp elt [⟨.Name x px,it,[],0⟩] csc p)=some (.list (l.map g)):=by
 rw [aOx,hok,hcl,hit];show ((bL xv).bind _)=_;rw [hl];refine (if_pos (by rw [List.length_map]; exact hn)).trans ?_;rw [aD5 (f:=f) (g:=g) fun a ha=> ?_]
 ·rfl
 ·rw [aH7 hm];show (evE cf m csc (bQ ρ csc x (f a)) elt).bind _=_;rw [hel a ha]; rfl
theorem cR {elt it:Expr}{xv a b u:AV}(hm:m≠0)(hok:fT csc x=true)(hcl:cP sc ρ csc=true)(hit:evE cf m sc ρ it=some xv)(hl:bL xv=some [a,b])
  (h1:evE cf m csc (bQ ρ csc x a) elt=some u) (h2:evE cf m csc (bQ ρ csc x b) elt=some v):evE cf (m+1) sc ρ (.ListComp elt [⟨.Name x px,it,[],0⟩] csc p)=some (.list [u,v]):=
 eE (l:=[(a,u),(b,v)]) (f:=Prod.fst) Prod.snd hm hok hcl hit hl (Nat.le_of_ble_eq_true rfl) (List.forall_mem_cons.mpr ⟨h1,List.forall_mem_cons.mpr ⟨h2,fun _ h=>nomatch h⟩⟩)
theorem aR0 {f:Str}(hf:sc.names.lookup f=some .globalImplicit)(hd:(f==("__debug__":Str))=false)(ha:eC cf n sc ρ as=some vs)(h:aI f vs=some v):evE cf (n+1) sc ρ (.Call (.Name f q) as [] p)=some v:=by
 rw [yL,hf,ha,hd];show (match aI f vs with | some v=>some v | none=>_)=_;rw [h]
theorem aQ2 {f:Str}(hf:sc.names.lookup f=some .globalImplicit)(hd:(f==("__debug__":Str))=false)(ha:eC cf n sc ρ as=some vs)(h1:aI f vs=none)(h:iK f vs=some v):evE cf (n+1) sc ρ (.Call (.Name f q) as [] p)=some v:=by
 rw [yL,hf,ha,hd];show (match aI f vs with | some v=>some v | none=>match iK f vs with | some v=>some v | none=>_)=_;rw [h1,h]
theorem aSj {f:Str}(hf:sc.names.lookup f=some .globalImplicit)(hd:(f==("__debug__":Str))=false)(ha:eC cf n sc ρ as=some vs)(h1:aI f vs=none)(h2:iK f vs=none)(h:cf.fn f vs=some v):evE cf (n+1) sc ρ (.Call (.Name f q) as [] p)=some v:=by
 rw [yL,hf,ha,hd];show (match aI f vs with | some v=>some v | none=>match iK f vs with | some v=>some v | none=>match cf.fn f vs with | some v=>some v | none=>_)=_;rw [h1,h2,h]
theorem iF {f:Str}{fp:Pos}(hf:sc.names.lookup f=some .globalImplicit)(hd:(f==("__debug__":Str))=false)(ha:eC cf k sc ρ as=some vs)(hb:f∉[ofString "len",ofString "chr",ofString "min",ofString "max",ofString "sum",ofString "sorted",ofString "range",ofString "tuple",ofString "dict"])
  (hv:cf.fn f vs=some v):evE cf (k+1) sc ρ (.Call (.Name f fp) as [] p)=some v:=by
 simp only [List.mem_cons,List.not_mem_nil,or_false,not_or] at hb;obtain ⟨h1,h2,h3,h4,h5,h6,h7,h8,h9⟩:=hb;exact aSj hf hd ha ((if_neg h1).trans ((if_neg h2).trans ((if_neg h3).trans ((if_neg h4).trans ((if_neg h5).trans (if_neg h6)))))) ((if_neg h7).trans ((if_neg h8).trans (if_neg h9))) hv
theorem cJ {f:Str}{fp:Pos}(hf:sc.names.lookup f=some .globalImplicit)(hd:(f==("__debug__":Str))=false)(ha:eC cf k sc ρ as=some vs)
  (hv:aI f vs=some v):evE cf (k+1) sc ρ (.Call (.Name f fp) as [] p)=some v:=aR0 hf hd ha hv
theorem bV {fp:Pos}(hf:sc.names.lookup (ofString "range")=some .globalImplicit)(ha:eC cf k sc ρ as=some vs)(hv:lY vs=some v):evE cf (k+1) sc ρ (.Call (.Name "range" fp) as [] p)=some v:=
 aQ2 hf rfl ha rfl hv
theorem dE (h:l.length<=2^20):aI "len" [.list l]=some (.int l.length):=if_pos h
theorem kA {l:Str}(h:l.length<=2^20):aI "len" [.str l]=some (.int l.length):=if_pos h
theorem aM {i:Int}(h1: -(2^32)<=i)(h2:i<=2^32):aQ i=true:=decide_eq_true ⟨h1,h2⟩
theorem cB (h:n<=2^32):bL (.range 0 (n:Int) 1)=some ((List.range n).map fun (i:Nat)=>AV.int (i:Int)):=by
 show bF _ _ _=_;unfold bF;rw [if_pos ⟨by decide,aM (by exact Int.natCast_nonneg _) (by exact Int.ofNat_le.mpr h)⟩,if_pos rfl];simp
theorem dS (hl:l.length<=2^20)(h:i<l.length):dZ l (i:Int)=some l[i]:=by
 unfold dZ;rw [if_pos hl,if_pos (Int.natCast_nonneg i),if_pos (Int.ofNat_lt.mpr h),Int.toNat_natCast,List.getElem?_eq_getElem h]
theorem qX {l:List Int}{j:Int}(hl:l.length<=2^20)(h0:0<=j)(h:j.toNat<l.length):lX (.list (l.map .int)) (.int j)=some (.int l[j.toNat]):=by
 have e:((j.toNat:Nat):Int)=j:=Int.toNat_of_nonneg h0;have:=dS (l:=l.map AV.int) (i:=j.toNat) (by rw [List.length_map]; exact hl) (by rw [List.length_map]; exact h);rw [e,List.getElem_map] at this;exact this
theorem aKb {j:Int}(h0:0<=j)(h:j<n):lZ n j=some j.toNat:=(if_pos h0).trans (if_pos h)
theorem lH (hm:m≠0):eC cf m sc ρ []=some []:=by
 rcases m with _ | m
 ·exact absurd rfl hm
 ·rfl
theorem jF (h:evE cf m sc ρ e=some v)(h':eC cf m sc ρ es=some vs):eC cf (m+1) sc ρ (e::es)=some (v::vs):=by
 rw [aLr,h,h']; rfl
theorem aG (hm:m≠0)(h:evE cf m sc ρ e=some v):eC cf (m+1) sc ρ [e]=some [v]:=jF h (lH hm)
theorem bC {e':Expr}{v':AV}(hm:m≠0)(h:evE cf (m+1) sc ρ e=some v)(h':evE cf m sc ρ e'=some v'):eC cf (m+2) sc ρ [e,e']=some [v,v']:=jF h (aG hm h')
theorem aC {l r:Expr}{op:Operator}{a b:AV}(h:evE cf m sc ρ l=some a)(h':evE cf m sc ρ r=some b)(hv:cO op a b=some v):evE cf (m+1) sc ρ (.BinOp l op r p)=some v:=by
 rw [aQu,h,h']; exact hv
theorem aA (h:ρ x=some v)(hd:(x==("__debug__":Str))=false):evE cf (m+1) sc ρ (.Name x p)=some v:=by
 rw [aOu,hd]; exact h
theorem aF {i:Int}:evE cf (m+1) sc ρ (.Constant (.int i) k p)=some (.int i):=rfl
theorem iP {i:Str}:evE cf (m+1) sc ρ (.Constant (.str i) k p)=some (.str i):=rfl
theorem mY {i:Expr}{a b:AV}(hs:aDz i=false)(h:evE cf m sc ρ e=some a)(h':evE cf m sc ρ i=some b)(hv:lX a b=some v):evE cf (m+1) sc ρ (.Subscript e i p)=some v:=by
 rw [aJ9 hs,h,h']; exact hv
theorem bZ {a b:AV}(h:evE cf m sc ρ e=some a)(h':evE cf m sc ρ (.Name x xp)=some b)(hv:lX a b=some v):evE cf (m+1) sc ρ (.Subscript e (.Name x xp) p)=some v:=mY rfl h h' hv
theorem bR {c:Const}{a b:AV}(h:evE cf m sc ρ e=some a)(h':evE cf m sc ρ (.Constant c k xp)=some b)(hv:lX a b=some v):evE cf (m+1) sc ρ (.Subscript e (.Constant c k xp) p)=some v:=mY rfl h h' hv
theorem iQ {l r:Expr}{op:CmpOp}{a b:AV}{v:Bool}(h:evE cf m sc ρ l=some a)(h':evE cf m sc ρ r=some b)(hv:cmp op a b=some v):evE cf (m+1) sc ρ (.Compare l [op] [r] p)=some (.bool v):=by
 rw [aQv,h,h']; exact congrArg (Option.bind · fun z=>some (AV.bool z)) hv
theorem bS {l r:Expr}{op:CmpOp}{a b:AV}{v:Bool}(h:evE cf m sc ρ l=some a)(h':evE cf m sc ρ r=some b)(hv:cmp op a b=some v):evT cf (m+1) sc ρ (.Compare l [op] [r] p)=some v:=by
 rw [aQy,h,h']; exact hv
theorem vU (hn:es.length<=1000)(h:eC cf m sc ρ es=some vs):evE cf (m+1) sc ρ (.Tuple es k p)=some (.tup vs):=by
 rw [aLq,if_pos hn,h]; rfl
end
noncomputable def eW:Stmt->List Stmt
 | .For _ _ b _ _=>b
 | _=>[]
noncomputable def nth (l:List Stmt)(i:Nat):Stmt:=l.getD i (.Pass default)
noncomputable def lb (fn:Fn)(i:Nat):List Stmt:=eW (nth fn.body i)
section
variable {csc:Scope}{i:Int}
theorem qY {t:Expr}{b o:List Stmt}(h:evT cf k sc ρ.all t=some true):exS cf mu (k+1) sc ρ (.If t b o p)=exB cf mu k sc ρ b:=jE h
theorem mZ {t:Expr}{b o:List Stmt}(h:evT cf k sc ρ.all t=some false):exS cf mu (k+1) sc ρ (.If t b o p)=exB cf mu k sc ρ o:=jE h
theorem vV {s'1 s'2:Stmt}{ρ'1 ρ'2:St}{b:List Stmt}(h'1:exS cf mu (k+2) sc ρ s'1=exB cf mu (k+1) sc ρ b)(h:exB cf mu (k+1) sc ρ b=some (.next,ρ'1))(h'2:exS cf mu (k+1) sc ρ'1 s'2=some (.next,ρ'2)):exB cf mu (k+3) sc ρ [s'1,s'2]=some (.next,ρ'2):=(aE (h'1.trans h)).trans (aU h'2)
theorem aD6 {ρ:Loc}{t:Expr}{ts:List Expr}(h:evT cf k sc ρ t=some false):evT cf (k+2) sc ρ (.BoolOp .And (t::ts) p)=some false:=by
 rw [aD0,aLs,h]; rfl
theorem aD7 {ρ:Loc}{t:Expr}{ts:List Expr}{b:Bool}(h:evT cf k sc ρ t=some true)(h':evA cf k sc ρ .And ts=some b):evT cf (k+2) sc ρ (.BoolOp .And (t::ts) p)=some b:=by
 rw [aD0,aLs,h]; exact h'
theorem vW {ρ:Loc}{t:Expr}{b:Bool}(h:evT cf (k+1) sc ρ t=some b):evA cf (k+2) sc ρ .And [t]=some b:=by
 rw [aLs,h,aOy]; cases b <;> rfl
theorem aKc {a b:AV}{c d:Bool}(h:cN a b=some c)(e:(!c)=d):cmp .NotEq a b=some d:=by
 rw [aRz,h,<-e]; rfl
theorem aH8 {st:Stmt}{r:List Stmt}{ρ':St}(h:exS cf mu k sc ρ st=some (.ret v,ρ')):exB cf mu (k+1) sc ρ (st::r)=some (.ret v,ρ'):=by
 rw [aD1,h]; rfl
theorem qZ {r t u:Pos}{c:Nat}(hx:bJ sc x=true)(hd:(x==("__debug__":Str))=false)(h:ρ x=some (.val (.int i))):exS cf mu (k+3) sc ρ (.Assign [.Name x p] (.BinOp (.Name x q) .Add (.Constant (.int 1) c r) t) u)=some (.next,ρ.set x (.val (.int (i+1)))):=
 cD hx rfl (aC (aA (aD h) hd) aF rfl) rfl
theorem gU {ρ:Loc}(hn:es.length<=1000)(h:eC cf k sc ρ es=some vs):evE cf (k+1) sc ρ (.List es p)=some (.list vs):=by
 rw [aKa,if_pos hn,h]; rfl
theorem rA {ρ:Loc}(hf:sc.names.lookup (ofString "len")=some .globalImplicit)(ha:eC cf k sc ρ as=some [.list l])(h:l.length<=2^20):evE cf (k+1) sc ρ (.Call (.Name "len" q) as [] p)=some (.int l.length):=
 aR0 hf rfl ha (dE h)
end
theorem nA {fn:Fn}{as:List AV}(hn:fn.ps.length=as.length)(h:exB cf fn.mu k fn.sc (bD fn.ps as) fn.body=some (.ret v,ρ)):aZ cf k fn as=some v:=by
 unfold aZ;rw [if_pos hn,h]
theorem aX {a:AV}{r:List AV}{ρ':St}(h:G a ρ=some (.next,ρ')):jW G (a::r) ρ=jW G r ρ':=by
 show (G a ρ).bind _=_;rw [h]; rfl
theorem dY {α β:Type}{f:α->β}{l:List α}(h:l.length<=n):(l.map f).length<=n:=by rw [List.length_map]; exact h
theorem aCr (h:n<=m)(hm:(m.ble 1048576)=true):n<=2^20:=Nat.le_trans h (Nat.le_of_ble_eq_true hm)
structure kB (ρ:St)(x:Addr)(cnt:List Int)(b n nt:Int):Prop where
 s:ρ "S"=some (.val (.str " "))
 t:ρ "T"=some (.val (.str "\t"))
 c:ρ "count"=some (.own (.list (cnt.map .int)))
 b:ρ "b"=some (.val (.int b))
 n:ρ "n"=some (.val (.int n))
 nt:ρ "nt"=some (.val (.int nt))
 self:ρ "self"=some (.val (.addr x))
theorem eY {a b:Str}(ha:PyData.strOk a=true)(hb:PyData.strOk b=true):cN (.str a) (.str b)=some (a==b):=
 if_pos (Bool.and_eq_true_iff.mpr ⟨by simp [SeqAt.shaped,PyData.canLay0,PyData.depth,ha],by simp [SeqAt.shaped,PyData.canLay0,PyData.depth,hb]⟩)
theorem aQ3:cN (.str ⟨#[32]⟩) (.str " ")=some true:=(eY (by decide+kernel) (by decide+kernel)).trans (by decide+kernel)
theorem aQ4:cN (.str ⟨#[9]⟩) (.str " ")=some false:=(eY (by decide+kernel) (by decide+kernel)).trans (by decide+kernel)
theorem aQ5:cN (.str ⟨#[9]⟩) (.str "\t")=some true:=(eY (by decide+kernel) (by decide+kernel)).trans (by decide+kernel)
noncomputable def vX:Fn:=((jZ "__init__" [ofString "count"] (findCls "Whitespace" PySem.Challenge.pw_re0160_01.main.body)).getD ⟨[],[],[],default⟩)
noncomputable def aD8:List Stmt:=lb vX 4
theorem aD9:vX.sc.names.lookup (ofString "len")=some NameKind.globalImplicit:=rfl
theorem aH9:vX.sc.names.lookup (ofString "tuple")=some NameKind.globalImplicit:=rfl
theorem eZ:∀l:List Int,eM (l.map .int)=true
 | []=>rfl
 | _::l=>eZ l
noncomputable def iG (cnt:List Int)(b:Int):List Int:=if b>=cnt.length then cnt++List.replicate (b- cnt.length+1).toNat 0 else cnt
theorem pO {b:Int}(h0:0<=b)(h1:b<=900)(h2:cnt.length<=901):(iG cnt b).length<=901:=by
 unfold iG
 split
 ·rw [List.length_append,List.length_replicate]; lia
 ·exact h2
theorem aEa {b:Int}(h0:0<=b):b<(iG cnt b).length:=by
 unfold iG
 split
 ·rw [List.length_append,List.length_replicate]; lia
 ·lia
section
variable {x:Addr}{b n nt:Int}(H:kB ρ x cnt b n nt)
include H
theorem kB.setch (v:Slot):kB (ρ.set "ch" v) x cnt b n nt:=
 ⟨St.set_nb rfl H.s,St.set_nb rfl H.t,St.set_nb rfl H.c,St.set_nb rfl H.b,St.set_nb rfl H.n,St.set_nb rfl H.nt,St.set_nb rfl H.self⟩
theorem kB.setn (i:Int):kB (ρ.set "n" (.val (.int i))) x cnt b i nt:=
 ⟨St.set_nb rfl H.s,St.set_nb rfl H.t,St.set_nb rfl H.c,St.set_nb rfl H.b,if_pos rfl,St.set_nb rfl H.nt,St.set_nb rfl H.self⟩
theorem kB.setnt (i:Int):kB (ρ.set "nt" (.val (.int i))) x cnt b n i:=
 ⟨St.set_nb rfl H.s,St.set_nb rfl H.t,St.set_nb rfl H.c,St.set_nb rfl H.b,St.set_nb rfl H.n,if_pos rfl,St.set_nb rfl H.self⟩
theorem kB.setb (i:Int):kB (ρ.set "b" (.val (.int i))) x cnt i n nt:=
 ⟨St.set_nb rfl H.s,St.set_nb rfl H.t,St.set_nb rfl H.c,if_pos rfl,St.set_nb rfl H.n,St.set_nb rfl H.nt,St.set_nb rfl H.self⟩
theorem kB.setc (l:List Int):kB (ρ.set "count" (.own (.list (l.map .int)))) x l b n nt:=
 ⟨St.set_nb rfl H.s,St.set_nb rfl H.t,if_pos rfl,St.set_nb rfl H.b,St.set_nb rfl H.n,St.set_nb rfl H.nt,St.set_nb rfl H.self⟩
theorem kB.evB:evE cf (k+1) sc ρ.all (.Name "b" p)=some (.int b):=aA (aD H.b) rfl
theorem kB.evC:evE cf (k+1) sc ρ.all (.Name "count" p)=some (.list (cnt.map .int)):=aA (tD H.c) rfl
theorem kB.evArg:eC cf (k+2) sc ρ.all [.Name "count" p]=some [.list (cnt.map .int)]:=aG (Nat.succ_ne_zero _) H.evC
end
theorem aIa {x:Addr}{b n nt:Int}(H:kB ρ x cnt b n nt):
  ∃ρ',exB cf [ofString "count"] (k+30) vX.sc (ρ.set "ch" (.val (.str ⟨#[32]⟩))) aD8=some (.next,ρ')/\kB ρ' x cnt (b+1) (n+1) nt:=by
 have H1:=H.setch (.val (.str ⟨#[32]⟩));refine ⟨_,aU (k:=k+28) ?_,(H1.setn (n+1)).setb (b+1)⟩;refine Eq.trans (qY (k:=k+28) ?_) ?_
 ·exact bS (aA (aD (if_pos rfl)) rfl) (aA (aD H1.s) rfl) aQ3
 ·exact Eq.trans (aE (k:=k+27) (qZ rfl rfl H1.n)) (aU (k:=k+25) (qZ rfl rfl (H1.setn (n+1)).b))
section
variable {x:Addr}{b n nt:Int}(H:kB ρ x cnt b n nt)
include H
theorem aOz (h0:0<=b)(h1:b<cnt.length)(h2:cnt.length<=901):
  exS cf [ofString "count"] (k+8) vX.sc ρ (.Assign [.Subscript (.Name "count" p0) (.Name "b" p1) p2] (.BinOp (.Subscript (.Name "count" p3) (.Name "b" p4) p5) .Add (.Constant (.int 1) 0 p6) p7) p8)=
   some (.next,ρ.set "count" (.own (.list ((cnt.set b.toNat (cnt.getD b.toNat 0+1)).map .int)))):=by
 have hb:b.toNat<cnt.length:=by lia
 have e:=qX (aCr h2 rfl) h0 hb;rw [List.getD_eq_getElem?_getD,List.getElem?_eq_getElem hb,List.map_set];exact lG rfl (aC (bZ H.evC H.evB e) aF rfl) H.evB H.c (by rw [List.length_map]; exact aKb h0 h1) rfl (dY (aCr h2 rfl))
theorem aLv (h0:0<=b)(h1:b<=900)(h2:cnt.length<=901):
  ∃ρ',exS cf [ofString "count"] (k+14) vX.sc ρ (.If (.Compare (.Name "b" p0) [.GtE] [.Call (.Name "len" p1) [.Name "count" p2] [] p3] p4)
   [.Assign [.Name "count" p5] (.BinOp (.Name "count" p6) .Add (.BinOp (.List [.Constant (.int 0) 0 p7] p8) .Mult (.BinOp (.BinOp (.Name "b" p9) .Sub (.Call (.Name "len" q0) [.Name "count" q1] [] q2) q3) .Add (.Constant (.int 1) 0 q4) q5) q6) q7) q8] [] q9)=some (.next,ρ')/\
   kB ρ' x (iG cnt b) b n nt:=by
 have hl:=dY (f:=AV.int) (aCr h2 rfl);have ht:evT cf (k+13) vX.sc ρ.all (.Compare (.Name "b" p0) [.GtE] [.Call (.Name "len" p1) [.Name "count" p2] [] p3] p4)=some (decide ((cnt.length:Int)<=b)):=by
  rw [bS H.evB (rA aD9 H.evArg hl) rfl,List.length_map]
 unfold iG
 by_cases hb:b>=cnt.length
 ·rw [if_pos hb,jE ht,if_pos (decide_eq_true hb)];refine ⟨_,aU (k:=k+11) (aD3 (l:=(cnt++List.replicate (b- cnt.length+1).toNat 0).map .int) rfl rfl ?_ rfl (eZ _)),H.setc _⟩;refine aC H.evC (aC (gU (Nat.succ_le_succ (Nat.zero_le _)) (aG (Nat.succ_ne_zero _) aF)) (aC (aC H.evB (rA aD9 H.evArg hl) rfl) aF rfl) (if_pos ⟨?_,?_,Nat.succ_le_succ (Nat.zero_le _)⟩)) ?_
  ·rw [List.length_map,List.flatten_replicate_singleton,<-List.map_replicate];exact (if_pos (by simp;lia)).trans (by rw [List.map_append])
  ·rw [List.length_map]; lia
  ·rw [List.length_map]; lia
 ·rw [if_neg hb,jE ht,if_neg (by rw [decide_eq_true_eq]; exact hb)];exact ⟨ρ,aA4,H⟩
theorem aO0 (h0:0<=b)(h1:b<=900)(h2:cnt.length<=901):
  ∃ρ',exB cf [ofString "count"] (k+30) vX.sc (ρ.set "ch" (.val (.str ⟨#[9]⟩))) aD8=some (.next,ρ')/\kB ρ' x ((iG cnt b).set b.toNat ((iG cnt b).getD b.toNat 0+1)) 0 (n+1) (nt+1):=by
 have H1:=H.setch (.val (.str ⟨#[9]⟩));have H3:=(H1.setn (n+1)).setnt (nt+1);obtain ⟨ρ4,a3,H4⟩:=aLv (cf:=cf) (k:=k+9) H3 h0 h1 h2;have H5:=H4.setc ((iG cnt b).set b.toNat ((iG cnt b).getD b.toNat 0+1));refine ⟨_,aU (k:=k+28) ?_,H5.setb 0⟩;refine Eq.trans (mZ (k:=k+28) ?_) (aU (k:=k+26) (Eq.trans (qY (k:=k+26) ?_) ?_))
 ·exact bS (aA (aD (if_pos rfl)) rfl) (aA (aD H1.s) rfl) aQ4
 ·exact bS (aA (aD (if_pos rfl)) rfl) (aA (aD H1.t) rfl) aQ5
 ·exact Eq.trans (aE (k:=k+25) (qZ rfl rfl H1.n)) (Eq.trans (aE (k:=k+24) (qZ rfl rfl (H1.setn (n+1)).nt)) (Eq.trans (aE (k:=k+23) a3) (Eq.trans (aE (k:=k+22) (aOz H4 h0 (aEa h0) (pO h0 h1 h2))) (aU (k:=k+20) (cD rfl rfl aF rfl)))))
end
theorem aLw:∀y∈([ofString "S",ofString "T",ofString "count",ofString "b",ofString "n",ofString "nt",ofString "ch"]),bJ vX.sc y=true:=List.all_eq_true.mp rfl
theorem aO1 (cf:CallF)(k:Nat)(x:Addr)(cs:List Nat)(hc:∀c∈cs,c=32\/c=9):∀(ρ:St) (cnt:List Int) (b n nt:Int),kB ρ x cnt b n nt->0<=b->b+cs.length<=900->cnt.length<=901->
  (∃ ρ5,jW (fun a ρ=>exB cf [ofString "count"] (k+30) vX.sc (ρ.set "ch" (.val a)) aD8) (cs.map fun c=> .str ⟨#[c]⟩) ρ=some (.next,ρ5)/\kB ρ5 x (lB cs cnt b n nt).1 (lB cs cnt b n nt).2.1 (lB cs cnt b n nt).2.2.1 (lB cs cnt b n nt).2.2.2)/\(lB cs cnt b n nt).1.length<=901:=by
 induction cs with
 | nil=>exact fun ρ cnt b n nt H _ _ h2=>⟨⟨ρ,rfl,H⟩,h2⟩
 | cons c cs ih=>
  intro ρ cnt b n nt H h0 h1 h2;have ih:=ih fun d hd=>hc d (List.mem_cons_of_mem _ hd)
  have hl:b+1+cs.length<=900:=by rw [List.length_cons] at h1;lia
  rcases hc c (List.mem_cons_self ..) with rfl | rfl
  ·obtain ⟨ρ',e,H'⟩:=aIa (cf:=cf) (k:=k) H;obtain ⟨⟨ρ5,e5,H5⟩,l⟩:=ih ρ' cnt (b+1) (n+1) nt H' (Int.add_nonneg h0 (by decide)) hl h2;exact ⟨⟨ρ5,(aX e).trans e5,H5⟩,l⟩
  ·have hb:b<=900:=by lia
   obtain ⟨ρ',e,H'⟩:=aO0 (cf:=cf) (k:=k) H h0 hb h2;obtain ⟨⟨ρ5,e5,H5⟩,l⟩:=ih ρ' _ 0 (n+1) (nt+1) H' (Int.le_refl 0) (by lia) (by rw [List.length_set]; exact pO h0 hb h2);exact ⟨⟨ρ5,(aX e).trans e5,H5⟩,l⟩
theorem aIb {x:Addr}(h:ρ "self"=some (.val (.addr x))):kB (vS ρ) x [] 0 0 0:=
 ⟨rfl,rfl,rfl,rfl,rfl,rfl,h⟩
section
variable {kt:Nat}{x:Addr}{b n nt:Int}{r t u:Pos}
theorem aEb:fU (.tup [.tup (cnt.map .int),.int b])=true:=(by rw [eZ]; rfl:(eM (cnt.map .int)&&(true&&true))=true)
variable (H:kB ρ x cnt b n nt)
include H
theorem kB.evN:evE cf (k+1) sc ρ.all (.Name "n" p)=some (.int n):=aA (aD H.n) rfl
theorem kB.evNt:evE cf (k+1) sc ρ.all (.Name "nt" p)=some (.int nt):=aA (aD H.nt) rfl
theorem kB.evNorm (h2:cnt.length<=901)(ht:sc.names.lookup (ofString "tuple")=some NameKind.globalImplicit):
  evE cf (k+7) sc ρ.all (.Tuple [.Call (.Name "tuple" p) [.Name "count" q] [] r,.Name "b" t] kt u)=some (.tup [.tup (cnt.map .int),.int b]):=
 vU (Nat.le_of_ble_eq_true rfl) (bC (Nat.succ_ne_zero _) (aQ2 ht rfl H.evArg rfl (if_pos (dY (aCr h2 rfl)))) H.evB)
theorem kB.evSimple (h2:cnt.length<=901)(hl:sc.names.lookup (ofString "len")=some NameKind.globalImplicit):
  evE cf (k+7) sc ρ.all (.Compare (.Call (.Name "len" p) [.Name "count" q] [] r) [.LtE] [.Constant (.int 1) 0 t] u)=some (.bool (decide (cnt.length<=1))):=by
 rw [iQ (rA hl H.evArg (dY (aCr h2 rfl))) aF rfl,List.length_map];exact congrArg (fun z=>some (AV.bool z)) (decide_eq_decide.mpr (Int.ofNat_le (n:=1)))
end
def nB (l:List Int)(m:Int):Prop:=l.length=7/\∀a∈l,0<=a/\a<=m
structure aO2 (ρ:St)(script:List Int)(l:List Int):Prop where
 s:ρ "script"=some (.val (.list (script.map .int)))
 h:ρ "heaps"=some (.own (.list (l.map .int)))
noncomputable def eN:Fn:=((jZ "_law_heaps" [ofString "heaps"] PySem.Challenge.pw_re0160_01.main.body).getD ⟨[],[],[],default⟩)
theorem aSk (i:Int):0<=i%7/\i%7<7:=⟨Int.emod_nonneg _ (by decide),Int.emod_lt_of_pos _ (by decide)⟩
section
variable {l:List Int}{m:Int}
theorem aA5 (H:aO2 ρ script l)(ho:nB l m)(hi:i<script.length)(hs:script.length<=63)(hm:0<=m):
  ∃ρ' l',exB cf [ofString "heaps"] (k+20) eN.sc (ρ.set "k" (.val (.int i))) (lb eN 1)=some (.next,ρ')/\aO2 ρ' script l'/\nB l' (m+1000000):=by
 obtain ⟨hl,ha⟩:=ho;have h7:=aSk i;have hj:((i:Int)%7).toNat<l.length:=by lia
 have g1:ρ.set "k" (.val (.int i)) (ofString "heaps")=some (.own (.list (l.map .int))):=St.set_nb rfl H.h;have g2:ρ.set "k" (.val (.int i)) (ofString "script")=some (.val (.list (script.map .int))):=St.set_nb rfl H.s;have g3:ρ.set "k" (.val (.int i)) (ofString "k")=some (.val (.int i)):=if_pos rfl;generalize ρ.set "k" (.val (.int i))=ρ1 at g1 g2 g3;have e:(l.map AV.int).length=7:=by rw [List.length_map,hl]
 refine ⟨ρ1.set "heaps" (.own (.list ((l.set ((i:Int)%7).toNat (l[((i:Int)%7).toNat]+script[i]%1000000)).map .int))),_,aU (k:=k+18) ?_,⟨St.set_nb rfl g2,if_pos rfl⟩,List.length_set.trans hl,fun a h=> ?_⟩
 ·rw [List.map_set];refine lG rfl (aC (mY rfl (aA (tD g1) rfl) (aC (aA (aD g3) rfl) aF rfl) (qX (by rw [hl]; decide) h7.1 hj)) (aC (bZ (aA (aD g2) rfl) (aA (aD g3) rfl) (qX (aCr hs rfl) (Int.natCast_nonneg i) hi)) aF rfl) rfl) (aC (aA (aD g3) rfl) aF rfl) g1 ?_ rfl (by rw [e]; decide);rw [e]; exact aKb h7.1 h7.2
 ·have hb:=Int.emod_nonneg script[i] (show (1000000:Int)≠0 by decide);have hb2:=Int.emod_lt_of_pos script[i] (show (0:Int)<1000000 by decide)
  rcases List.mem_or_eq_of_mem_set h with h | h
  ·have:=ha a h;lia
  ·have:=ha _ (List.getElem_mem hj);rw [h]; lia
theorem aEc (hs:script.length<=63)(is:List Nat)(hi:∀i∈is,i<script.length):∀(ρ:St) (l:List Int) (m:Int),aO2 ρ script l->nB l m->0<=m->
  ∃ρ' l',jW (fun a ρ=>exB cf [ofString "heaps"] (k+20) eN.sc (ρ.set "k" (.val a)) (lb eN 1)) (is.map fun (i:Nat)=>AV.int (i:Int)) ρ=some (.next,ρ')/\aO2 ρ' script l'/\nB l' (m+1000000*is.length):=by
 induction is with
 | nil=>exact fun ρ l m H ho _=>⟨ρ,l,rfl,H,(Int.add_zero m).symm▸ho⟩
 | cons i is ih=>
  intro ρ l m H ho hm;obtain ⟨ρ1,l1,e1,H1,o1⟩:=aA5 (cf:=cf) (k:=k) H ho (hi i (List.mem_cons_self ..)) hs hm;obtain ⟨ρ2,l2,e2,H2,o2⟩:=ih (fun j hj=>hi j (List.mem_cons_of_mem _ hj)) ρ1 l1 (m+1000000) H1 o1 (by exact Int.add_nonneg hm (of_decide_eq_true rfl));refine ⟨ρ2,l2,(aX e1).trans e2,H2,?_⟩;have:m+1000000*((i::is).length:Int)=m+1000000+1000000*(is.length:Int):=by rw [List.length_cons]; lia
  rw [this]; exact o2
end
theorem aQ6 (n:Nat):aI "min" [.int 42,.int n]=some (.int ((min 42 n:Nat):Int)):=by
 show some (AV.int (if (n:Int)<42 then (n:Int) else 42))=_
 congr 2
 split <;> lia
theorem aIc (cf:CallF)(script:List Int)(hs:script.length<=63):∃l,aZ cf 60 eN [.list (script.map .int)]=some (.list (l.map .int))/\nB l 50000000:=by
 have H0:aO2 ((bD eN.ps [.list (script.map .int)]).set "heaps" (.own (.list (([1,0,2,1,0,3,4]:List Int).map .int)))) script [1,0,2,1,0,3,4]:=⟨St.set_nb rfl rfl,if_pos rfl⟩;have hm:min 42 script.length<=42:=Nat.min_le_left ..;obtain ⟨ρ2,l2,hf,H2,o2⟩:=aEc (cf:=cf) (k:=37) hs (List.range (min 42 script.length)) (fun i hi=>Nat.lt_of_lt_of_le (List.mem_range.mp hi) (Nat.min_le_right ..)) _ [1,0,2,1,0,3,4] 4 H0 ⟨rfl,by decide⟩ (by decide);refine ⟨l2,nA (k:=60) rfl (ρ:=ρ2) ?_,o2.1,fun a ha=> ?_⟩
 ·refine Eq.trans (aE (k:=59) rfl) (Eq.trans (aE (k:=58) (cQ (k:=57) rfl ?_ (cB (n:=min 42 script.length) ?_) hf)) (dD (m:=56) (aA (tD H2.h) rfl)))
  ·exact bV rfl (aG (Nat.succ_ne_zero _) (cJ rfl rfl (bC (Nat.succ_ne_zero _) aF (rA rfl (aG (Nat.succ_ne_zero _) (aA (bN H0.s) rfl)) (dY (aCr hs rfl)))) (by rw [List.length_map]; exact aQ6 _))) (show lY [.int ((min 42 script.length:Nat):Int)]=_ from if_pos (aM (by exact ngl rfl) (by lia)))
  ·exact Nat.le_trans hm (Nat.le_of_ble_eq_true rfl)
 ·have:=o2.2 a ha;rw [List.length_range] at this
  lia
noncomputable def aO3:Expr->Expr
 | .ListComp e _ _ _=>e
 | e=>e
noncomputable def aId:Expr->Scope
 | .ListComp _ _ s _=>s
 | _=>default
noncomputable def pP:Stmt->Expr
 | .If (.Compare _ _ [c] _) _ _ _=>c
 | .Assign _ (.Call _ [c] _ _) _=>c
 | .Assign _ c _=>c
 | .Return (some c) _=>c
 | _=> .Constant .none 0 default
noncomputable def tF:Stmt->Expr
 | .Assign _ e _=>e
 | .If t _ _ _=>t
 | .Return (some e) _=>e
 | _=> .Constant .none 0 default
noncomputable def tG:Stmt->Expr
 | .For _ e _ _ _=>e
 | _=> .Constant .none 0 default
theorem tH {M:Model}{α:Type}{X:ClassData->Sem α}{Y:Sem α}{Q:α->Shared->Prop}{d:Data}(h:∀c,d≠ .cls c)(hy:wpAny M A Y Q E s):wpAny M A (match d with | .cls c=>X c | _=>Y) Q E s:=by
 cases d <;> first | exact hy | exact absurd rfl (h _)
theorem opq {α:Type}{M:Model}{c:Sem α}{Q:α->Shared->Prop}(h:∀Q':α->Shared->Prop,(∀ v s',Q v s'->Q' v s')->wpAny M A c Q' E s):wpAny M A c Q E s:=h Q fun _ _ q=>q
noncomputable abbrev gD (r:CR)(C N:Addr):Obj:=aG3 r C N [.type "list",.type "object"] false "list.__new__"
structure aEd (h:Heap)(C N:Addr)(mN:Str->Option Value):Prop where
 obj:∃r,h.get? C=some (gD r C N)
 ns:h.Ns N mN
theorem bO:mroOf (.type "list")=pure [.type "list",.type "object"]:=by rw [mroOf_type]; kernel_rfl
theorem gX:typeLookup (.type "list") "__getattribute__"=pure (some (.builtin "list.__getattribute__")):=by rw [typeLookup_type,builtinLookup_eq_fast]; kernel_rfl
theorem cS:typeLookup (.type "list") "__getattr__"=pure none:=by rw [typeLookup_type,builtinLookup_eq_fast]; kernel_rfl
theorem jG:(Manifest.canonical "list.__getattribute__" !="object.__getattribute__")=false:=by decide+kernel
theorem aA6:StoreFacts "list" [.type "list",.type "object"] "object.__setattr__" "object" where
 mro:=bO
 slot:= .of (owner:="object") (n:="__setattr__") (by rw [typeLookup_type,builtinLookup_eq_fast]; kernel_rfl) (by decide+kernel) (by decide+kernel) (by decide+kernel)
  (by first | exact .inl (by decide+kernel) | exact .inr (by decide+kernel)) (by rw [isSubtype_type]; kernel_rfl)
 entry:=F.entry_object_sa
 kind:=by decide+kernel
 split:=by decide+kernel
 hasOwner:=by decide+kernel
 args:=fun a b c=>by unfold argsOk;kernel_rfl
 passes:=fun self=>by kernel_rfl
section
variable {g:Array GenState}{d:Drawn}{t:Nat}{os:OsState}
variable {cr:CR}{x:Addr}{name:Str}{v:Value}
structure LM (id:String)(b:Builtin)(args:Args):Prop where
 plain:plainId id=true
 entry:entryFor table id=some b
 kind:builtinKind id=some .slot\/builtinKind id=some .method
 split:∃n,splitId id=some ("list",n)
 args:argsOk id args
theorem gY (C:Addr):(Value.ref C::[.type "list",.type "object"]).contains (.type "list")=true:=by
 rw [List.contains_cons,show ([Value.type "list",.type "object"]).contains (.type "list")=true from by decide+kernel,Bool.or_true]
theorem nE {M:Model}{b:Builtin}{o:Obj}{rest:List Value}{Q:Unit->Shared->Prop}(L:LM id b ⟨.ref x::rest,[]⟩)
  (hC:h.get? C=some (gD cr C N)) (hx:h.get? x=some o) (hc:o.cls= .ref C)
  (hq:Q () ⟨h,g,d,t,os⟩):wpAny M A (checkBuiltinCall id ⟨.ref x::rest,[]⟩) Q E ⟨h,g,d,t,os⟩:=by
 obtain ⟨n,hs⟩:=L.split;have ha:=L.args;have ho:=gY C
 rcases L.kind with hk | hk <;>
 ·simp only [checkBuiltinCall,hk,hs];refine wpAny_bind ?_;unfold isInstance
  repeat (first | (with_reducible refine wpAny_loadPart_at hx ?_;rw [hc]) | (with_reducible refine wpAny_isSubtype_exc hC ?_;rw [ho]) | wp_step)
  rcases hsig:Manifest.signature? id with _ | sig
  ·exact wpAny_pure hq
  ·simp only [argsOk,hsig] at ha;have h2:Bind.checkArgs id sig ⟨.ref x::rest,[]⟩=pure ():=ha;show wpAny _ _ (Bind.checkArgs id sig ⟨.ref x::rest,[]⟩) _ _ _;rw [h2];exact wpAny_pure hq
theorem jH {b:Builtin}{o:Obj}{rest:List Value}(L:LM id b ⟨.ref x::rest,[]⟩)
  (hC:h.get? C=some (gD cr C N)) (hx:h.get? x=some o) (hc:o.cls= .ref C)
  (hbody:wpAny (model prog w) A.in1 (b ⟨.ref x::rest,[]⟩) (fun fin s'=>∃v,fin= .done (.ret v)/\Q v s') E ⟨h,g,d,t,os⟩):
  wpAny (model prog w) A (call (.builtin id) (.ref x::rest)) Q E ⟨h,g,d,t,os⟩:=
 wpAny_call (codeAny_call_builtin L.plain L.entry (nE L hC hx hc (wpAny_mono hbody (fun f s' hf=>(by obtain ⟨v,rfl,hv⟩:=hf;exact hv)) fun _ _ e=>e)))
theorem vY {tk:Tok}{Q:Fin->Shared->Prop}
  (hC:h.get? C=some (gD cr C N)) (hn:h.Ns N mN) (hna:mN name=none)
  (hB:typeLookup (.type "list") name=pure none) (I:h.Inst x C mA) (hv:mA name=some v) (hq:Q (.done (.ret v)) ⟨h,g,d,t,os⟩):
  wpAny (model prog w) A (Builtin.«object.__getattribute__» ⟨[.ref x,.str name tk],[]⟩) Q E ⟨h,g,d,t,os⟩:=by
 obtain ⟨⟨oc,od,oda,osl⟩,hx,hc,hnc,hd⟩:=I;obtain rfl:oc= .ref C:=hc
 rcases hd with ⟨_,hmA⟩ | ⟨dx,hdx,hne,hns⟩
 ·rw [hmA name] at hv;exact no1 hv
 obtain rfl:od=some dx:=hdx;unfold Builtin.«object.__getattribute__»
 repeat (first | (with_reducible refine wpAny_loadPart_at hx ?_) | (with_reducible refine wpAny_typeLookup_exc hC hn bO hB ?_;rw [hna]) | wp_step)
 refine tH hnc ?_;unfold instanceDict
 repeat (first | (with_reducible refine wpAny_nsGet hns.ns ?_;rw [hv]) | (with_reducible refine wpAny_loadPart_at hx ?_) | with_reducible refine wpAny_loadPart_at hC ?_ | wp_step)
 exact hq
end
theorem aO4 (a b:Value):LM "list.__getattribute__" Builtin.«object.__getattribute__» ⟨a::[b],[]⟩:=
 ⟨F.slot_list_getattribute.plain,F.entry_list_ga,.inl (by decide+kernel),⟨"__getattribute__",by decide+kernel⟩,F.args_list_getattribute_2 _ _⟩
section
variable {g:Array GenState}{d:Drawn}{t:Nat}{os:OsState}
variable {cr:CR}{x:Addr}{name:Str}{v:Value}
set_option maxHeartbeats 1000000 in
theorem aA7 {expr:Bool}
  (hC:h.get? C=some (gD cr C N)) (hn:h.Ns N mN) (hng:mN "__getattribute__"=none) (hnh:mN "__getattr__"=none) (hna:mN name=none)
  (hB:typeLookup (.type "list") name=pure none) (I:h.Inst x C mA) (hv:mA name=some v) (hh:handedOut v=pure v) (hq:Q v ⟨h,g,d,t+1,os⟩):
  wpAny (model prog w) A (getAttr (.ref x) name expr) Q E ⟨h,g,d,t,os⟩:=by
 obtain ⟨o,hx,hc,_⟩:=id I;have f3:=F.slot_list_getattribute.bind (.ref x);have hx0:(expr&&onTheHeap (Value.builtin "list.__getattribute__"))=false:=by rcases expr with _ | _ <;> rfl
 have hx2:(Value.builtin "list.__getattribute__"==Value.builtin "object.__getattribute__")=false:=by decide+kernel
 have hx1:(onTheHeap (Value.ref C)&&Value.builtin "list.__getattribute__"==Value.builtin "object.__getattribute__")=false:=by rw [hx2]; rfl
 unfold getAttr getAttrBy
 repeat (any_goals (first | assumption | (with_reducible refine wpAny_loadPart_at hx ?_;rw [hc]) | (with_reducible refine wpAny_typeLookup_exc hC hn bO gX ?_;rw [hng]) | (with_reducible refine wpAny_typeLookup_exc hC hn bO cS ?_;rw [hnh]) | wp_step))
 have L:=aO4 (.ref x) (.str name t);refine codeAny_call_builtin L.plain L.entry ?_;refine nE (id:="list.__getattribute__") (b:=Builtin.«object.__getattribute__») (rest:=[.str name t]) (o:=o) L hC hx hc ?_;refine vY hC hn hna hB I hv ?_;show wpAny _ _ (handedOut v) _ _ _;rw [hh];exact wpAny_pure hq
set_option maxHeartbeats 1000000 in
theorem vZ {pl:Sem Bool}{f:Addr}{of:Obj}{Q:Value × List Value->Shared->Prop}
  (hC:h.get? C=some (gD cr C N)) (hn:h.Ns N mN) (hng:mN "__getattribute__"=none) (hnh:mN "__getattr__"=none)
  (hf:mN name=some (.ref f)) (hfo:h.get? f=some of) (hfc:of.cls= .type "function") {y:Option Value} (hB:typeLookup (.type "list") name=pure y)
  (I:h.Inst x C mA) (hsh:mA name=none) (hq:Q (.ref f,[.ref x]) ⟨h,g,d,t,os⟩):
  wpAny (model prog w) A (getMethod (.ref x) name pl) Q E ⟨h,g,d,t,os⟩:=by
 obtain ⟨⟨oc,od,oda,osl⟩,hx,hc,hnc,hd⟩:=I;obtain rfl:oc= .ref C:=hc;have hcan:=jG;unfold getMethod specialOf
 repeat (first | (with_reducible refine wpAny_loadPart_at hx ?_) | (with_reducible refine wpAny_typeLookup_exc hC hn bO gX ?_;rw [hng]) | (with_reducible refine wpAny_typeLookup_exc hC hn bO cS ?_;rw [hnh]) | (with_reducible refine wpAny_typeLookup_exc hC hn bO hB ?_;rw [hf]) | (with_reducible refine wpAny_typeOf (T:="function") ⟨_,hfo,hfc⟩ ?_) | (with_reducible refine bX (by rw [hcan]; exact Bool.false_ne_true) ?_) | wp_step)
 rcases hd with ⟨hdn,_⟩ | ⟨dx,hdx,_,hns⟩
 ·obtain rfl:od=none:=hdn
  repeat wp_step
  exact hq
 ·obtain rfl:od=some dx:=hdx
  repeat (first | (with_reducible refine wpAny_nsGet hns.ns ?_;rw [hsh]) | wp_step)
  exact hq
set_option maxHeartbeats 1000000 in
theorem tJ {pl:Sem Bool}{Q:Value × List Value->Shared->Prop}
  (hC:h.get? C=some (gD cr C N)) (hn:h.Ns N mN) (hng:mN "__getattribute__"=none) (hnh:mN "__getattr__"=none)
  (hf:mN name=none) (hB:typeLookup (.type "list") name=pure (some (.builtin id))) (hid:typeOf (.builtin id)=pure (.type "method_descriptor"))
  (I:h.Inst x C mA) (hsh:mA name=none) (hq:Q (.builtin id,[.ref x]) ⟨h,g,d,t,os⟩):
  wpAny (model prog w) A (getMethod (.ref x) name pl) Q E ⟨h,g,d,t,os⟩:=by
 obtain ⟨⟨oc,od,oda,osl⟩,hx,hc,hnc,hd⟩:=I;obtain rfl:oc= .ref C:=hc;have hcan:=jG;have hT:(⟨h,g,d,t,os⟩:Shared).TypeIs (.builtin id) "method_descriptor":=hid;unfold getMethod specialOf
 repeat (first | (with_reducible refine wpAny_loadPart_at hx ?_) | (with_reducible refine wpAny_typeLookup_exc hC hn bO gX ?_;rw [hng]) | (with_reducible refine wpAny_typeLookup_exc hC hn bO cS ?_;rw [hnh]) | (with_reducible refine wpAny_typeLookup_exc hC hn bO hB ?_;rw [hf]) | (with_reducible refine wpAny_typeOf (T:="method_descriptor") hT ?_) | (with_reducible refine bX (by rw [hcan]; exact Bool.false_ne_true) ?_) | wp_step)
 rcases hd with ⟨hdn,_⟩ | ⟨dx,hdx,_,hns⟩
 ·obtain rfl:od=none:=hdn
  repeat wp_step
  exact hq
 ·obtain rfl:od=some dx:=hdx
  repeat (first | (with_reducible refine wpAny_nsGet hns.ns ?_;rw [hsh]) | wp_step)
  exact hq
end
def gZ (h:Heap)(C c dc:Addr)(vs:Array Value):Prop:=∃n,h.get? c=some {cls:= .ref C,dict:=some dc,data:= .seq vs n}
theorem gZ.at {vs:Array Value}(x:gZ h C c dc vs)(k:∀o,h.get? c=some o->h'.get? c=some o):gZ h' C c dc vs:=by obtain ⟨n,e⟩:=x;exact ⟨n,k _ e⟩
theorem pQ (C dc:Addr)(its:Array Value)(n:Nat)(f:Array Value->Array Value):
  Obj.mapSeq f {cls:= .ref C,dict:=some dc,data:= .seq its n}={cls:= .ref C,dict:=some dc,data:= .seq (f its) (if (f its).size==its.size then n else n+1)}:=rfl
theorem aEe (a b:Value):LM "list.append" Builtin.«list.append» ⟨a::[b],[]⟩:=
 ⟨slot_list_append.plain,entry_list_append,.inr (by decide+kernel),⟨"append",by decide+kernel⟩,args_list_append _ _⟩
theorem aLx (a:Value):LM "list.__iter__" Builtin.«list.__iter__» ⟨a::[],[]⟩:=
 ⟨slot_list_iter.plain,entry_list_iter,.inl (by decide+kernel),⟨"__iter__",by decide+kernel⟩,args_list_iter _⟩
theorem pR (a b:Value):LM "list.__getitem__" Builtin.«list.__getitem__» ⟨a::[b],[]⟩:=
 ⟨slot_list_getitem.plain,entry_list_getitem,.inr (by decide+kernel),⟨"__getitem__",by decide+kernel⟩,args_list_getitem _ _⟩
theorem aA8 (a b c:Value):LM "list.__setitem__" Builtin.«list.__setitem__» ⟨a::[b,c],[]⟩:=
 ⟨slot_list_setitem.plain,entry_list_setitem,.inl (by decide+kernel),⟨"__setitem__",by decide+kernel⟩,args_list_setitem _ _ _⟩
section
variable {vs:Array Value}
theorem lI {M:Model}{f:Array Value->Array Value}{Q:Unit->Shared->Prop}(hl:gZ s.heap C c dc vs)(hQ:∀h',gZ h' C c dc (f vs)->Heap.SameBut c s.heap h'->Q () {s with heap:=h'})
  (h1:vs.size<=sizeLine) (h2:(f vs).size<=sizeLine+1):wpAny M A (updateSeq c f) Q E s:=by
 obtain ⟨n,ho⟩:=hl;refine wpAny_updateSeq ho rfl (hQ _ ⟨(if (f vs).size==vs.size then n else n+1),?_⟩ (Heap.SameBut.update ..)) h1 h2;rw [Heap.get?_update_self _ ho (by rw [pQ]; rfl),pQ]
theorem aIe {v:Value}(X:aEd s.heap C N mN)(hl:gZ s.heap C c dc vs)(h1:vs.size<=1000)
  (hQ:∀h',gZ h' C c dc (vs.push v)->Heap.SameBut c s.heap h'->Q .none {s with heap:=h'}):wpAny (model prog w) A (call (.builtin "list.append") [.ref c,v]) Q E s:=by
 obtain ⟨cr,hC⟩:=X.obj;obtain ⟨n,ho⟩:=id hl;obtain ⟨hp,g,d,t,os⟩:=s;refine jH (id:="list.append") (b:=Builtin.«list.append») (rest:=[v]) (aEe _ _) hC ho rfl ?_;show wpAny _ _ (updateSeq c (·.push v) >>= fun _=>ret .none) _ _ _;refine wpAny_bind (lI hl (fun h' a b=>wpAny_pure ⟨.none,rfl,hQ h' a b⟩) (by rw [sizeLine_eq]; exact lit h1 rfl) (by rw [sizeLine_eq]; simp;exact lit h1 rfl))
theorem gE {n:Str}{y:Option Value}{Q:Option Value->Shared->Prop}(X:aEd s.heap C N mN)(hl:gZ s.heap C c dc vs)(hm:mN n=none)(hB:typeLookup (.type "list") n=pure y)(hq:Q y s):wpAny (model prog w) A (specialOf (.ref c) n) Q E s:=by
 obtain ⟨cr,hC⟩:=X.obj;obtain ⟨m,ho⟩:=id hl;have hn:=X.ns;obtain ⟨hp,g,d,t,os⟩:=s;unfold specialOf;refine wpAny_bind ?_;have hc:({cls:= .ref C,dict:=some dc,data:= .seq vs m}:Obj).cls= .ref C:=rfl
 repeat (first | (with_reducible refine wpAny_loadPart_at ho ?_) | wp_step)
 refine wpAny_typeLookup_exc hC hn bO hB ?_;rw [hm];exact hq
theorem fL {n:Str}{args:List Value}{Q:Option Value->Shared->Prop}(X:aEd s.heap C N mN)(hl:gZ s.heap C c dc vs)(hm:mN n=none)(S:PySem.Slot "list" n id)
  (hq:wpAny (model prog w) A (call (.builtin id) (.ref c::args)) (fun v=>Q (some v)) E s):wpAny (model prog w) A (callSpecial? (.ref c) n args) Q E s:=by
 unfold callSpecial?;refine wpAny_bind (gE X hl hm S.lookup ?_);refine wpAny_holding ?_;refine wpAny_bind (wpAny_of_eq (S.bind _) ?_);exact wpAny_bind (wpAny_mono hq (fun v s' h=>wpAny_pure h) fun _ _ e=>e)
theorem yN {M:Model}(hC:∃cr:CR,s.heap.get? C=some (gD cr C N)){Q:Bool->Shared->Prop}(hq:Q false s):
  ∀l:List String,(∀ n∈l,([Value.type "list",.type "object"]).contains (.type n)=false)->wpAny M A (List.anyM (fun n=>isSubtype (.ref C) (.type n)) l) Q E s
 | [],_=>wpAny_pure hq
 | n::r,h=>by
  have ih:=yN (M:=M) hC hq r fun m hm=>h m (List.mem_cons_of_mem _ hm)
  obtain ⟨cr,hC⟩:=hC;obtain ⟨hp,g,d,t,os⟩:=s;refine wpAny_bind (m:=isSubtype (.ref C) (.type n)) (wpAny_isSubtype_exc hC ?_);have hf:(Value.ref C::[.type "list",.type "object"]).contains (.type n)=false:=by
   rw [List.contains_cons,h n List.mem_cons_self,Bool.or_false]; rfl
  rw [hf];exact ih
theorem fM {i:Value}{n:Str}(X:aEd s.heap C N mN)(hl:gZ s.heap C c dc vs)(hq:Q i s):wpAny (model prog w) A (sequenceKey (.ref c) i n) Q E s:=by
 obtain ⟨m,ho⟩:=id hl;unfold sequenceKey;refine wpAny_bind ?_;unfold typeOf;obtain ⟨hp,g,d,t,os⟩:=s;refine wpAny_bind (wpAny_loadPart_at ho (wpAny_pure ?_));refine wpAny_bind (yN X.obj ?_ _ (by decide+kernel));exact iV rfl (wpAny_pure hq)
theorem aEf {k:Int}{x:Value}(X:aEd s.heap C N mN)(hm:mN "__getitem__"=none)(hl:gZ s.heap C c dc vs)
  (h0:0<=k) (hfit:k<2^63) (hx:vs[k.toNat]? =some x) (h:Q x s):wpAny (model prog w) A (getItem (.ref c) (.int k t)) Q E s:=by
 obtain ⟨m,ho⟩:=id hl;unfold getItem
 try with_reducible refine wpAny_holding ?_
 first | refine wpAny_bind (wpAny_pure ?_) | skip
 refine wpAny_bind (fM X hl ?_);refine wpAny_bind (fL (n:=ofString "__getitem__") X hl hm slot_list_getitem ?_);obtain ⟨cr,hC⟩:=X.obj;obtain ⟨hp,g,d,tk,os⟩:=s;refine jH (id:="list.__getitem__") (b:=Builtin.«list.__getitem__») (rest:=[.int k t]) (pR _ _) hC ho rfl ?_;show wpAny _ _ (Builtin.List.listSubscript? (.int k t) >>= _) _ _ _;refine wpAny_bind (wpAny_listSubscript_int (fitsIndex_of h0 hfit) ?_)
 clear hfit
 obtain ⟨j,rfl⟩:=Int.eq_ofNat_of_zero_le h0;have hx':vs[j]? =some x:=hx;show wpAny _ _ ((seqItemAt c j >>= fun r=>pure (r.map (j,·))) >>= _) _ _ _;refine wpAny_bind (wpAny_bind (wpAny_seqItemAt ho rfl (wpAny_pure ?_)));rw [hx']
 first
  | exact wpAny_bind (wpAny_pure (wpAny_pure ⟨x,rfl,wpAny_pure h⟩))
  | exact wpAny_pure ⟨x,rfl,wpAny_pure h⟩
theorem aIf {vs us:Array Value}{a b:Nat}(h1:vs.size<=1000)(h2:us.size<=1000):(vs.extract 0 a++us++vs.extract b vs.size).size<=3000:=by
 rw [Array.size_append,Array.size_append,Array.size_extract,Array.size_extract];exact Nat.add_le_add (Nat.add_le_add (Nat.le_trans (Nat.sub_le _ _) (Nat.le_trans (Nat.min_le_right _ _) h1)) h2) (Nat.le_trans (Nat.sub_le _ _) (Nat.le_trans (Nat.min_le_right _ _) h1))
theorem aA9 {sl:Addr}{vl vu vst:Value}{lo hi st:Option Int}(X:aEd s.heap C N mN)(hm:mN "__getitem__"=none)(hl:gZ s.heap C c dc vs)
  (hs:s.heap.IsSliceOf sl vl vu vst) (pl:IsPart vl lo) (pu:IsPart vu hi) (ps:IsPart vst st) (h0:st≠some 0)
  (h:Q (.ref s.heap.objs.size) {s with heap:=s.heap.push {cls:= .type "list",data:= .seq (slicePick vs lo hi st)}})
  (hsz:vs.size<=1000):wpAny (model prog w) A (getItem (.ref c) (.ref sl)) Q E s:=by
 obtain ⟨m,ho⟩:=id hl;obtain ⟨os,hos,hcs,hds⟩:=id hs;have hTs:s.TypeIs (.ref sl) "slice":=⟨os,hos,hcs⟩;unfold getItem
 try with_reducible refine wpAny_holding ?_
 first | refine wpAny_bind (wpAny_pure ?_) | skip
 refine wpAny_bind (fM X hl ?_);refine wpAny_bind (fL (n:=ofString "__getitem__") X hl hm slot_list_getitem ?_);obtain ⟨cr,hC⟩:=X.obj;obtain ⟨hp,g,d,tk,os'⟩:=s;refine jH (id:="list.__getitem__") (b:=Builtin.«list.__getitem__») (rest:=[.ref sl]) (pR _ _) hC ho rfl ?_;show wpAny _ _ (Builtin.List.listSubscript? (.ref sl) >>= _) _ _ _;refine wpAny_bind (opq fun R n=> ?_)
 ·unfold Builtin.List.listSubscript?;refine wpAny_bind (wpAny_specialOf hTs slice_no_index ?_);refine iV rfl ?_;refine wpAny_pure (n _ _ ?_)
  clear n
  show wpAny _ _ (typeOf (.ref sl) >>= _) _ _ _;refine wpAny_bind (wpAny_typeOf hTs ?_);refine bX (by decide) ?_;rw [listSliceParts_eq];have hstep:¬((rawPart st==rawInt 0)=true):=by
   rcases st with _ | c
   ·exact Bool.false_ne_true
   ·intro hh;have:c=0:=by simpa [rawPart,rawInt] using hh
    exact h0 (by rw [this])
  refine wpAny_bind (opq fun R2 n2=>wpAny_bind (wpAny_field hos hds (x:=vst) rfl (wpAny_bind (wpAny_listPart ps ?_))));refine bX hstep ?_;refine wpAny_bind (wpAny_field hos hds (x:=vl) rfl (wpAny_bind (wpAny_listPart pl ?_)));refine wpAny_bind (wpAny_field hos hds (x:=vu) rfl (wpAny_bind (wpAny_listPart pu (wpAny_pure (n2 _ _ ?_)))));refine wpAny_bind (m:=Builtin.List.listItems (.ref c)) (opq fun R1 n1=> ?_)
  ·unfold Builtin.List.listItems;refine wpAny_bind (wpAny_seqItems ho rfl (wpAny_pure (n1 _ _ ?_)));refine wpAny_bind (wpAny_of_eq (sliceIndices_raw lo hi st vs.size h0) ?_);refine wpAny_bind (wpAny_newObj_type (wpAny_pure ⟨_,rfl,wpAny_pure h⟩) (Nat.le_trans (slicePick_size_le vs lo hi st) (by rw [sizeLine_eq]; exact lit hsz rfl)))
theorem aBa {sl:Addr}{vl vu:Value}{lo hi:Option Int}{us:Array Value}{Q:Unit->Shared->Prop}(X:aEd s.heap C N mN)(hm:mN "__setitem__"=none)(hl:gZ s.heap C c dc vs)(hL:s.heap.PlainList L us)
  (hs:s.heap.IsSliceOf sl vl vu .none) (pl:IsPart vl lo) (pu:IsPart vu hi) (hLc:L≠c)
  (h:∀h',gZ h' C c dc (vs.extract 0 (sliceBounds lo hi none vs.size).1.toNat++us++vs.extract (max (sliceBounds lo hi none vs.size).1 (sliceBounds lo hi none vs.size).2.1).toNat vs.size)->Heap.SameBut c s.heap h'->Q () {s with heap:=h'})
  (hsz:vs.size<=1000) (hsz2:us.size<=1000):wpAny (model prog w) A (setItem (.ref c) (.ref sl) (.ref L)) Q E s:=by
 obtain ⟨m,ho⟩:=id hl;obtain ⟨os,hos,hcs,hds⟩:=id hs;have hTs:s.TypeIs (.ref sl) "slice":=⟨os,hos,hcs⟩;unfold setItem
 try with_reducible refine wpAny_holding ?_
 first | refine wpAny_bind (wpAny_pure ?_) | skip
 refine wpAny_bind (fM X hl ?_);refine wpAny_bind (fL (n:=ofString "__setitem__") X hl hm slot_list_setitem ?_);obtain ⟨cr,hC⟩:=X.obj;obtain ⟨hp,g,d,tk,os'⟩:=s;refine jH (id:="list.__setitem__") (b:=Builtin.«list.__setitem__») (rest:=[.ref sl,.ref L]) (aA8 _ _ _) hC ho rfl ?_;show wpAny _ _ (Builtin.List.listSubscript? (.ref sl) >>= _) _ _ _;refine wpAny_bind (opq fun R n=> ?_)
 ·unfold Builtin.List.listSubscript?;refine wpAny_bind (wpAny_specialOf hTs slice_no_index ?_);refine iV rfl ?_;refine wpAny_pure (n _ _ ?_)
  clear n
  show wpAny _ _ (typeOf (.ref sl) >>= _) _ _ _;refine wpAny_bind (wpAny_typeOf hTs ?_);refine bX (by decide) ?_;rw [listSliceParts_eq];refine wpAny_bind (opq fun R2 n2=>wpAny_bind (wpAny_field hos hds (x:= .none) rfl (wpAny_bind (wpAny_listPart (k:=none) .none ?_))));refine bX (by exact Bool.false_ne_true) ?_;refine wpAny_bind (wpAny_field hos hds (x:=vl) rfl (wpAny_bind (wpAny_listPart pl ?_)));refine wpAny_bind (wpAny_field hos hds (x:=vu) rfl (wpAny_bind (wpAny_listPart pu (wpAny_pure (n2 _ _ ?_)))));have hne:Builtin.List.listSameRef (.ref c) (.ref L)=false:=by
   show (c==L)=false;exact beq_eq_false_iff_ne.mpr (Ne.symm hLc)
  rw [hne];obtain ⟨nL,hoL⟩:=hL;refine wpAny_bind (m:=Builtin.List.listAllItems (.ref L) _) (opq fun R1 n1=> ?_)
  ·unfold Builtin.List.listAllItems;refine wpAny_bind (wpAny_typeOf (T:="list") ⟨_,hoL,rfl⟩ ?_);refine iV (by decide) ?_;unfold Builtin.List.listItems;refine wpAny_bind (wpAny_seqItems hoL rfl (wpAny_pure (n1 _ _ ?_)))
   clear n1
   refine wpAny_bind (wpAny_bind (wpAny_seqItems ho rfl (wpAny_pure ?_)));refine wpAny_bind (wpAny_of_eq (sliceIndices_raw lo hi none vs.size (by simp)) ?_);generalize hb:sliceBounds lo hi none vs.size=b;rw [hb] at h;have hb1:b.2.2=1:=by rw [<- hb]; rfl
   have hlong:Builtin.List.listTooLong (vs.size+us.size)=false:=by
    unfold Builtin.List.listTooLong;rw [sizeLine_eq];exact decide_eq_false (Nat.not_lt_of_le (Nat.le_trans (Nat.add_le_add hsz hsz2) (by decide)))
   refine iV (by rw [hb1]; rfl) (bX (by rw [hlong]; exact Bool.false_ne_true) ?_);refine wpAny_bind (m:=Builtin.List.listUpdate _ _) ?_;refine lI hl (fun h' a b=>wpAny_bind (wpAny_letGo (wpAny_pure ⟨.none,rfl,wpAny_pure (h h' a b)⟩))) (Nat.le_trans hsz (by decide)) (Nat.le_trans (aIf hsz hsz2) (by decide))
end
theorem wA:PySem.Slot "method_descriptor" "__get__" "method_descriptor.__get__":= .of (owner:="method_descriptor") (n:="__get__") (by rw [typeLookup_type,builtinLookup_eq_fast]; kernel_rfl) (by decide+kernel) (by decide+kernel) (by decide+kernel)
 (by first | exact .inl (by decide+kernel) | exact .inr (by decide+kernel)) (by rw [isSubtype_type]; kernel_rfl)
theorem tK:entryFor table "method_descriptor.__get__"=some Builtin.«method_descriptor.__get__» :=entryFor_of_tree (by kernel_rfl)
theorem wB (a b c:Value):argsOk "method_descriptor.__get__" ⟨[a,b,c],[]⟩:=by unfold argsOk;kernel_rfl
theorem nG:PySem.Slot "wrapper_descriptor" "__get__" "wrapper_descriptor.__get__":= .of (owner:="wrapper_descriptor") (n:="__get__") (by rw [typeLookup_type,builtinLookup_eq_fast]; kernel_rfl) (by decide+kernel) (by decide+kernel) (by decide+kernel)
 (by first | exact .inl (by decide+kernel) | exact .inr (by decide+kernel)) (by rw [isSubtype_type]; kernel_rfl)
theorem kP:entryFor table "wrapper_descriptor.__get__"=some Builtin.«wrapper_descriptor.__get__» :=entryFor_of_tree (by kernel_rfl)
theorem nH (a b c:Value):argsOk "wrapper_descriptor.__get__" ⟨[a,b,c],[]⟩:=by unfold argsOk;kernel_rfl
structure pS (id:String)(name:Str)(T bt getId:String)(B:Builtin):Prop where
 own:classOwn (.type "list") name=pure (some (.builtin id))
 ty:typeOf (.builtin id)=pure (.type T)
 slot:PySem.Slot T "__get__" getId
 entry:entryFor table getId=some B
 args:∀a b c,argsOk getId ⟨[a,b,c],[]⟩
 ncls:(name==("__class__":Str))=false
 makes:∀{M:Model}{A:Around}{E:Value->Shared->Prop}{h:Heap}{g:Array GenState}{d:Drawn}{t:Nat}{os:OsState}{cr:CR}{C N x:Addr}{o:Obj}{Q:Fin->Shared->Prop},
  h.get? C=some (gD cr C N)->h.get? x=some o->o.cls= .ref C->
  Q (.done (.ret (.ref h.objs.size))) ⟨h.push {cls:= .type bt,data:= .fields #[.builtin id,.ref x]},g,d,t,os⟩->wpAny M A (B ⟨[.builtin id,.ref x,.ref C],[]⟩) Q E ⟨h,g,d,t,os⟩
theorem nI:typeOf (.builtin "list.pop")=pure (.type "method_descriptor"):=by show builtinType _=_;rw [builtinType_eq_fast]; kernel_rfl
theorem nJ:typeOf (.builtin "list.__len__")=pure (.type "wrapper_descriptor"):=by show builtinType _=_;rw [builtinType_eq_fast]; kernel_rfl
theorem lC:typeOf (.builtin "list.__init__")=pure (.type "wrapper_descriptor"):=by show builtinType _=_;rw [builtinType_eq_fast]; kernel_rfl
theorem tL:classOwn (.type "list") "pop"=pure (some (.builtin "list.pop")):=by kernel_rfl
theorem tM:classOwn (.type "list") "__len__"=pure (some (.builtin "list.__len__")):=by kernel_rfl
theorem rB:classOwn (.type "list") "__init__"=pure (some (.builtin "list.__init__")):=by kernel_rfl
theorem aEg:(".".intercalate ("list.pop".cutAt '.').dropLast)="list":=by decide+kernel
set_option maxHeartbeats 1000000 in
theorem aBb:pS "list.pop" "pop" "method_descriptor" "builtin_function_or_method" "method_descriptor.__get__" Builtin.«method_descriptor.__get__» where
 own:=tL
 ty:=nI
 slot:=wA
 entry:=tK
 args:=wB
 ncls:=by decide
 makes:=by
  intro M A E h g d t os cr C N x o Q hC hx hc hq;have ho:=gY C;have hw:=aEg;unfold Builtin.«method_descriptor.__get__»
  repeat (first | (with_reducible refine wpAny_loadPart_at hx ?_;rw [hc]) | (rw [hw]; with_reducible refine wpAny_isSubtype_exc hC ?_;rw [ho]) | (with_reducible refine wpAny_newObj_type ?_ (by size_fits)) | wp_step)
  all_goals (first | exact hq | (unfold newFields;repeat (first | (with_reducible refine wpAny_newObj_type ?_ (by size_fits)) | wp_step); exact hq))
theorem aEh:(".".intercalate ("list.__len__".cutAt '.').dropLast)="list":=by decide+kernel
set_option maxHeartbeats 1000000 in
theorem aBc:pS "list.__len__" "__len__" "wrapper_descriptor" "method-wrapper" "wrapper_descriptor.__get__" Builtin.«wrapper_descriptor.__get__» where
 own:=tM
 ty:=nJ
 slot:=nG
 entry:=kP
 args:=nH
 ncls:=by decide
 makes:=by
  intro M A E h g d t os cr C N x o Q hC hx hc hq;have ho:=gY C;have hw:=aEh;unfold Builtin.«wrapper_descriptor.__get__»
  repeat (first | (with_reducible refine wpAny_loadPart_at hx ?_;rw [hc]) | (rw [hw]; with_reducible refine wpAny_isSubtype_exc hC ?_;rw [ho]) | (with_reducible refine wpAny_newObj_type ?_ (by size_fits)) | wp_step)
  all_goals (first | exact hq | (unfold newFields;repeat (first | (with_reducible refine wpAny_newObj_type ?_ (by size_fits)) | wp_step); exact hq))
theorem aBd:(".".intercalate ("list.__init__".cutAt '.').dropLast)="list":=by decide+kernel
set_option maxHeartbeats 1000000 in
theorem wC:pS "list.__init__" "__init__" "wrapper_descriptor" "method-wrapper" "wrapper_descriptor.__get__" Builtin.«wrapper_descriptor.__get__» where
 own:=rB
 ty:=lC
 slot:=nG
 entry:=kP
 args:=nH
 ncls:=by decide
 makes:=by
  intro M A E h g d t os cr C N x o Q hC hx hc hq;have ho:=gY C;have hw:=aBd;unfold Builtin.«wrapper_descriptor.__get__»
  repeat (first | (with_reducible refine wpAny_loadPart_at hx ?_;rw [hc]) | (rw [hw]; with_reducible refine wpAny_isSubtype_exc hC ?_;rw [ho]) | (with_reducible refine wpAny_newObj_type ?_ (by size_fits)) | wp_step)
  all_goals (first | exact hq | (unfold newFields;repeat (first | (with_reducible refine wpAny_newObj_type ?_ (by size_fits)) | wp_step); exact hq))
section
variable {g:Array GenState}{d:Drawn}{t:Nat}{os:OsState}
variable {cr:CR}{x so:Addr}{name:Str}{v:Value}{T bt getId:String}{B:Builtin}
set_option maxHeartbeats 1000000 in
theorem aIg {o:Obj}{tk:Tok}{Q:Fin->Shared->Prop}(Bh:pS id name T bt getId B)
  (hso:h.get? so=some {cls:= .type "super",dict:=none,data:= .fields #[.ref C,.ref x,.ref C],slots:= #[]}) (hno:Looks (model prog w) h (opaqueClassAbove (.ref C)) none)
  (hC:h.get? C=some (gD cr C N)) (hx:h.get? x=some o) (hc:o.cls= .ref C) (hxC:x≠C)
  (hq:Q (.done (.ret (.ref h.objs.size))) ⟨h.push {cls:= .type bt,data:= .fields #[.builtin id,.ref x]},g,d,t,os⟩):
  wpAny (model prog w) A (Builtin.«super.__getattribute__» ⟨[.ref so,.str name tk],[]⟩) Q E ⟨h,g,d,t,os⟩:=by
 have hn:=Bh.ncls;have hlk:=Bh.slot.lookup;have hT0:(⟨h,g,d,t,os⟩:Shared).TypeIs (.builtin id) T:=Bh.ty;have hne:(Value.ref x==Value.ref C)=false:=by simp [hxC]
 have hdt:({cls:= .type "super",dict:=none,data:= .fields #[.ref C,.ref x,.ref C],slots:= #[]}:Obj).data= .fields #[.ref C,.ref x,.ref C]:=rfl;have f0:(#[.ref C,.ref x,.ref C]:Array Value)[0]? =some (.ref C):=rfl;have f1:(#[.ref C,.ref x,.ref C]:Array Value)[1]? =some (.ref x):=rfl;have f2:(#[.ref C,.ref x,.ref C]:Array Value)[2]? =some (.ref C):=rfl;have hdrop:List.drop 1 (List.dropWhile (fun x=>x !=Value.ref C) (Value.ref C::[.type "list",.type "object"]))=[.type "list",.type "object"]:=by
  rw [List.dropWhile_cons_of_neg (by simp)]; rfl
 have hown:=Bh.own;unfold Builtin.«super.__getattribute__»
 repeat (first
  | (with_reducible refine wpAny_field hso hdt f0 ?_) | (with_reducible refine wpAny_field hso hdt f1 ?_) | (with_reducible refine wpAny_field hso hdt f2 ?_)
  | (with_reducible refine ks_wpAny_notOpaque hno ?_)
  | (with_reducible refine wpAny_mroOf_exc hC ?_;rw [hdrop])
  | (with_reducible refine vB ?_) | (with_reducible refine aCs ?_) | (with_reducible refine bX (by rw [hn,Bool.or_false]; exact Bool.false_ne_true) ?_)
  | wp_step)
 rw [hne];refine codeAny_call_builtin Bh.slot.plain Bh.entry (Bh.slot.check _ _ _ _ _ _ _ _ hT0 (Bh.args _ _ _) (Bh.makes hC hx hc ?_));refine wpAny_bind (wpAny_pure (wpAny_pure (wpAny_pure (wpAny_pure hq))))
set_option maxHeartbeats 1000000 in
theorem gF {o:Obj}{pl:Sem Bool}{Q:Value × List Value->Shared->Prop}(Bh:pS id name T bt getId B)
  (hso:h.get? so=some {cls:= .type "super",dict:=none,data:= .fields #[.ref C,.ref x,.ref C],slots:= #[]}) (hno:Looks (model prog w) h (opaqueClassAbove (.ref C)) none)
  (hC:h.get? C=some (gD cr C N)) (hx:h.get? x=some o) (hc:o.cls= .ref C) (hxC:x≠C)
  (hq:Q (.ref h.objs.size,[]) ⟨h.push {cls:= .type bt,data:= .fields #[.builtin id,.ref x]},g,d,t+1,os⟩):
  wpAny (model prog w) A (getMethod (.ref so) name pl) Q E ⟨h,g,d,t,os⟩:=by
 have hlk:=F.ks_slot_super_ga.lookup;have hcan:=F.ks_canon_super_ga;have hT:∀t',(⟨h,g,d,t',os⟩:Shared).TypeIs (.ref so) "super":=fun _=>⟨_,hso,rfl⟩
 unfold getMethod;refine wpAny_bind (wpAny_specialOf (hT _) hlk ?_);show wpAny _ _ (if (Manifest.canonical "super.__getattribute__" !="object.__getattribute__")=true then _ else _) _ _ _;rw [if_pos hcan];unfold getAttr getAttrBy;refine wpAny_bind (wpAny_bind (wpAny_mkText (wpAny_holding (wpAny_bind (wpAny_typeOf (hT _) (wpAny_bind (wpAny_of_eq hlk ?_)))))));show wpAny _ _ (getAttrByItsOwn (.ref so) (.str name t) (.type "super") (.builtin "super.__getattribute__") true false) _ _ _;unfold getAttrByItsOwn hookBefore callGetattribute boundAndCalled;refine wpAny_bind (wpAny_of_eq (show (if onTheHeap (.type "super") then typeLookup (.type "super") "__getattr__" else pure none)=pure none from rfl) ?_);refine wpAny_bind (wpAny_attempt (wpAny_holding ?_));show wpAny _ _ (bindSpecial (.builtin "super.__getattribute__") (.ref so) >>= _) _ _ _;refine wpAny_bind (wpAny_of_eq (F.ks_slot_super_ga.bind _) ?_);refine wpAny_mono (Q:=fun v s'=>v= .ref h.objs.size/\s'=⟨h.push {cls:= .type bt,data:= .fields #[.builtin id,.ref x]},g,d,t+1,os⟩) (E:=fun _ _=>False)
  (wpAny_call_entry F.ks_slot_super_ga (hT _) F.ks_entry_super_ga (aIg Bh hso hno hC hx hc hxC ⟨_,rfl,rfl,rfl⟩) (F.ks_gaArgs_super _ _)) (fun v s' hv=> ?_) fun _ _ z=>z.elim
 obtain ⟨rfl,rfl⟩:=hv;exact wpAny_pure (wpAny_pure hq)
theorem kC {b:Addr}{self:Value}{rest:List Value}{Bi:Builtin}(hbt:bt="builtin_function_or_method"\/bt="method-wrapper")(hb:s.heap.get? b=some {cls:= .type bt,data:= .fields #[.builtin id,self]})(hplain:plainId id=true)(hbi:entryFor table id=some Bi)
  (hck:∀{Q':Unit->Shared->Prop}{E':Value->Shared->Prop}{A':Around},Q' () s->wpAny (model prog w) A' (checkBoundCall id ⟨self::rest,[]⟩) Q' E' s)
  (hbody:wpAny (model prog w) A.in1 (Bi ⟨self::rest,[]⟩) (fun fin s'=>∃v,fin= .done (.ret v)/\Q v s') E s):wpAny (model prog w) A (call (.ref b) rest) Q E s:=by
 refine wpAny_call (codeAny_of_tree ?_);show wpAny _ A.in1 (callAny (.ref b) ⟨rest,[]⟩) _ _ _;unfold callAny;refine wpAny_bind (wpAny_load hb ?_);have hc:(((Value.type bt==Value.type "method")||(Value.type bt==Value.type "builtin_function_or_method"))||(Value.type bt==Value.type "method-wrapper"))=true:=by
  rcases hbt with rfl | rfl <;> decide+kernel
 have hm:(Value.type bt !=Value.type "method")=true:=by
  rcases hbt with rfl | rfl <;> decide+kernel
 dsimp only;rw [if_pos hc];show wpAny _ _ (if (Value.type bt !=Value.type "method")=true then (checkBoundCall id ⟨self::rest,[]⟩ >>= fun _=>again (.builtin id ⟨self::rest,[]⟩)) else _) _ _ _;rw [if_pos hm];refine wpAny_bind (hck (wpAny_pure ⟨plainId_quiet hplain _,codeAny_builtin hbi ?_⟩));rw [Around.under_plainId hplain _];exact wpAny_mono hbody (fun f s' hf=>(by obtain ⟨v,rfl,hv⟩:=hf;exact hv)) fun _ _ e=>e
end
theorem oX:plainId "list.pop"=true:=by decide+kernel
theorem oY:plainId "list.__len__"=true:=by decide+kernel
theorem nK:plainId "list.__init__"=true:=by decide+kernel
section
variable {b:Addr}{vs:Array Value}
theorem aBe {M:Model}{self:Value}{Q:Unit->Shared->Prop}(hq:Q () s):wpAny M A (checkBoundCall "list.__len__" ⟨[self],[]⟩) Q E s:=by
 have:checkBoundCall "list.__len__" ⟨[self],[]⟩=pure ():=by kernel_rfl
 rw [this]; exact wpAny_pure hq
theorem wD {M:Model}{self:Value}{Q:Unit->Shared->Prop}(hq:Q () s):wpAny M A (checkBoundCall "list.__init__" ⟨[self],[]⟩) Q E s:=by
 have:checkBoundCall "list.__init__" ⟨[self],[]⟩=pure ():=by kernel_rfl
 rw [this]; exact wpAny_pure hq
theorem aLy:Manifest.signature? "list.pop"=some {machinery:= .positional,full:="list.pop",short:="pop",receiver:= .self,params:=[{name:="index",kind:= .posOnly,required:=false}]}:=by kernel_rfl
theorem aIh (X:String)(hX:(X !="*")=true)(a:Value):Bind.checkArgs "list.pop" {machinery:= .positional,full:=X,short:="pop",receiver:= .self,params:=[{name:="index",kind:= .posOnly,required:=false}]} ⟨[a],[]⟩=pure ():=by
 unfold Bind.checkArgs Bind.printed;rw [hX]; rfl
theorem aLz (own:String):((toString own++toString "."++toString "pop") !="*")=true:=by
 rw [bne_iff_ne];intro e;have:=congrArg String.length e;rw [String.length_append,String.length_append] at this;have h1:(toString ".").length=1:=by decide
 have h2:(toString "pop").length=3:=by decide
 have h3:"*".length=1:=by decide
 lia
theorem aIi:builtinKind "list.pop"=some .method:=by decide+kernel
theorem aBf:Manifest.varargsMethods.contains "list.pop"=false:=by decide+kernel
theorem aIj:Bind.lastOf "list.pop"="pop":=by decide+kernel
theorem aEi:([Value.type "list",.type "object"]).contains (.type "module")=false:=by decide+kernel
set_option maxHeartbeats 1000000 in
theorem aBg (X:aEd s.heap C N mN)(hl:gZ s.heap C c dc vs){M:Model}{Q:Unit->Shared->Prop}(hq:Q () s):wpAny M A (checkBoundCall "list.pop" ⟨[.ref c],[]⟩) Q E s:=by
 obtain ⟨cr,hC⟩:=X.obj;obtain ⟨n,ho⟩:=hl;obtain ⟨hp,g,d,t,os⟩:=s;unfold checkBoundCall isInstance classData;have hm:(Value.ref C::[.type "list",.type "object"]).contains (.type "module")=false:=by
  rw [List.contains_cons,aEi,Bool.or_false]; rfl
 have hnc:∀c',({cls:= .ref C,dict:=some dc,data:= .seq vs n}:Obj).data≠ .cls c':=fun _ e=>nomatch e
 rw [aLy,aIi,aIj]
 repeat (first | (with_reducible refine wpAny_loadPart_at ho ?_) | (with_reducible refine wpAny_isSubtype_exc hC ?_;rw [hm]) | (with_reducible refine ks_wpAny_isType_inst ho hnc ?_) | (with_reducible refine wpAny_load hC ?_) | (with_reducible refine wpAny_loadPart_at hC ?_) | (with_reducible refine bX (by rw [aBf]; exact Bool.false_ne_true) ?_) | (with_reducible refine vB ?_) | (with_reducible refine aCs ?_) | (with_reducible refine wpAny_of_eq (aIh _ (aLz _) _) ?_) | wp_step)
 exact hq
theorem aEj (hb:s.heap.get? b=some {cls:= .type "method-wrapper",data:= .fields #[.builtin "list.__len__",.ref c]})(hl:gZ s.heap C c dc vs)
  (hq:Q (.int vs.size s.toks) {s with toks:=s.toks+1}):wpAny (model prog w) A (call (.ref b) []) Q E s:=by
 obtain ⟨n,ho⟩:=hl;refine kC (.inr rfl) hb oY F.entry_list_len (fun h=>aBe h) ?_;show wpAny _ _ (seqSize c >>= fun n=>retInt n) _ _ _;obtain ⟨hp,g,d,t,os⟩:=s;unfold seqSize retInt;refine wpAny_bind (wpAny_bind (wpAny_loadPart_at ho (wpAny_pure ?_)));exact wpAny_bind (wpAny_mkInt (wpAny_pure ⟨_,rfl,hq⟩))
theorem aBh (hb:s.heap.get? b=some {cls:= .type "method-wrapper",data:= .fields #[.builtin "list.__init__",.ref c]})(hl:gZ s.heap C c dc vs)(hsz:vs.size<=1000)
  (hq:∀h',gZ h' C c dc #[]->Heap.SameBut c s.heap h'->Q .none {s with heap:=h'}):wpAny (model prog w) A (call (.ref b) []) Q E s:=by
 obtain ⟨n,ho⟩:=id hl;refine kC (.inr rfl) hb nK F.entry_list_init (fun h=>wD h) ?_;unfold Builtin.«list.__init__» Builtin.List.listItems;refine wpAny_bind (wpAny_bind (wpAny_seqItems ho rfl (wpAny_pure ?_)));refine wpAny_bind (m:=Builtin.List.listUpdate _ _) ?_;exact lI hl (fun h' a b=>wpAny_bind (wpAny_letGo (wpAny_pure ⟨.none,rfl,hq h' a b⟩))) (by rw [sizeLine_eq]; exact lit hsz rfl) (by rw [sizeLine_eq]; simp)
theorem aEk {v:Value}(X:aEd s.heap C N mN)(hb:s.heap.get? b=some {cls:= .type "builtin_function_or_method",data:= .fields #[.builtin "list.pop",.ref c]})(hl:gZ s.heap C c dc (vs.push v))(hsz:vs.size<=1000)
  (hq:∀h',gZ h' C c dc vs->Heap.SameBut c s.heap h'->Q v {s with heap:=h'}):wpAny (model prog w) A (call (.ref b) []) Q E s:=by
 obtain ⟨n,ho⟩:=id hl;refine kC (.inl rfl) hb oX F.entry_list_pop (fun h=>aBg X hl h) ?_;unfold Builtin.«list.pop»;refine wpAny_bind (wpAny_of_eq (a:=(Value.ref c,[])) (by rfl) ?_);have hidx:seqIndex? (-1) (vs.push v).size=some vs.size:=by
  rw [seqIndex_neg (by exact Int.natCast_nonneg _) (by rw [Array.size_push]; lia),Array.size_push]
  congr 1
  lia
 have hat:(vs.push v)[vs.size]? =some v:=by simp
 have herase:(vs.push v).eraseIdxIfInBounds vs.size=vs:=by
  unfold Array.eraseIdxIfInBounds;rw [dif_pos (by simp)]
  apply Array.ext'
  rw [Array.toList_eraseIdx,Array.toList_push,List.eraseIdx_append_of_length_le (by simp)];simp
 have hfit:Builtin.List.listFitsIndex (-1)=true:=by decide
 dsimp only;refine wpAny_bind (wpAny_pure ?_);refine bX (by rw [hfit]; exact Bool.false_ne_true) ?_;refine wpAny_bind (m:=Builtin.List.listItems (.ref c)) ?_;unfold Builtin.List.listItems;refine wpAny_bind (wpAny_seqItems ho rfl (wpAny_pure ?_));have hne:(vs.push v).isEmpty=false:=by simp
 refine bX (by rw [hne]; exact Bool.false_ne_true) ?_;rw [show ((seqIndex? (-1) (vs.push v).size).bind fun k=>Option.map (fun x=>(k,x)) (vs.push v)[k]?)=some (vs.size,v) by rw [hidx]; show Option.map _ _=_;rw [hat]; rfl];refine wpAny_bind (m:=Builtin.List.listUpdate _ _) ?_;refine lI hl (fun h' a b=>wpAny_pure ⟨v,rfl,hq h' (by rwa [herase] at a) b⟩) (by rw [sizeLine_eq]; simp;exact lit hsz rfl) (by rw [herase,sizeLine_eq]; exact lit hsz rfl)
end
section
variable {b:Addr}{vs:Array Value}
theorem wE {it:Addr}{x:Value}{Q:Option Value->Shared->Prop}(hit:s.heap.IsListIter it c i)
  (hl:gZ s.heap C c dc vs) (hx:vs[i]? =some x)
  (hQ:∀h',h'.IsListIter it c (i+1)->Heap.SameBut it s.heap h'->Q (some x) {s with heap:=h'}):
  wpAny (model prog w) A (pyNext (.ref it)) Q E s:=by
 obtain ⟨o,ho,hc,hd⟩:=id hit;obtain ⟨nl,hol⟩:=hl;unfold pyNext;refine wpAny_bind (wpAny_attempt (wpAny_callSpecial?_slot (name:=ofString "__next__") hit.typeIs slot_listiter_next
  (wpAny_call_entry slot_listiter_next hit.typeIs entry_listiter_next ?_ (args_listiter_next _))))
 show wpAny _ _ (field (.ref it) 0 >>= _) _ _ s;refine wpAny_bind (wpAny_field ho hd (x:= .ref c) rfl ?_);show wpAny _ _ (if (Value.ref c==Value.none)=true then _ else _) _ _ s;refine bX (show ¬((Value.ref c==Value.none)=true) from Bool.false_ne_true) ?_;show wpAny _ _ (field (.ref it) 1 >>= _) _ _ s;refine wpAny_bind (wpAny_field ho hd (x:= .int i 0) rfl ?_);show wpAny _ _ (seqItems? (.ref c) >>= _) _ _ s;refine wpAny_bind (wpAny_seqItems hol rfl ?_);dsimp only;rw [show vs[((i:Nat):Int).toNat]? =_ from hx];refine wpAny_bind (wpAny_setField ho hd (by simp) (wpAny_pure ⟨x,rfl,wpAny_pure (hQ _ ?_ (Heap.SameBut.update ..))⟩));exact ⟨_,Heap.get?_update_self _ ho (Obj.isFreed_of_fields (Obj.data_mapFields hd _)),(Obj.cls_mapFields ..).trans hc,by
  rw [Obj.data_mapFields hd]; simp [rawInt]⟩
theorem aBi {it:Addr}{Q:Option Value->Shared->Prop}(hh:A.handled=none)
  (hit:s.heap.IsListIter it c i) (hl:gZ s.heap C c dc vs) (hx:vs[i]? =none)
  (hQ:∀h',Heap.ExtBut it s.heap h'->Q none {s with heap:=h'}):wpAny (model prog w) A (pyNext (.ref it)) Q E s:=by
 obtain ⟨o,ho,hc,hd⟩:=id hit;obtain ⟨nl,hol⟩:=hl;unfold pyNext;refine wpAny_bind (wpAny_attempt (wpAny_callSpecial?_slot (name:=ofString "__next__") hit.typeIs slot_listiter_next
  (wpAny_call_entry slot_listiter_next hit.typeIs entry_listiter_next ?_ (args_listiter_next _))))
 show wpAny _ _ (field (.ref it) 0 >>= _) _ _ s;refine wpAny_bind (wpAny_field ho hd (x:= .ref c) rfl ?_);show wpAny _ _ (if (Value.ref c==Value.none)=true then _ else _) _ _ s;refine bX (show ¬((Value.ref c==Value.none)=true) from Bool.false_ne_true) ?_;show wpAny _ _ (field (.ref it) 1 >>= _) _ _ s;refine wpAny_bind (wpAny_field ho hd (x:= .int i 0) rfl ?_);show wpAny _ _ (seqItems? (.ref c) >>= _) _ _ s;refine wpAny_bind (wpAny_seqItems hol rfl ?_);dsimp only;rw [show vs[((i:Nat):Int).toNat]? =_ from hx];refine wpAny_bind (wpAny_rule (wpAny_bind (wpAny_setField ho hd (by simp) ?_)));show wpAny _ _ (newExc (.type "StopIteration") [] >>= _) _ _ _;refine wpAny_bind ?_;unfold newExc newTuple;refine wpAny_bind (wpAny_newObj_type ?_ (by size_fits));refine wpAny_bind (m:=firstArgMember _ _) (wpAny_of_eq (a:=Value.none) (by first | rfl | (simp only [firstArgMember]; rfl)) ?_);refine wpAny_newObj_type ?_ (by size_fits);unfold raiseNew;refine wpAny_bind (wpAny_handled ?_);rw [show A.in1.handled=none from hh];refine wpAny_bind (wpAny_pure (wpAny_throw ?_));refine wpAny_bind (wpAny_isInstance (T:="StopIteration") (b:=true) ⟨_,Heap.get?_push_size _ rfl,rfl⟩ isSubtype_stop ?_);exact wpAny_pure (hQ _ (((Heap.SameBut.update ..).extBut.push _).push _))
theorem aO5 (X:aEd s.heap C N mN)(hm:mN "__iter__"=none)(hl:gZ s.heap C c dc vs)
  (hQ:Q (.ref s.heap.objs.size) {s with heap:=s.heap.push {cls:= .type "list_iterator",data:= .fields #[.ref c,.int 0 0]}}):wpAny (model prog w) A (pyIter (.ref c)) Q E s:=by
 unfold pyIter;refine wpAny_bind (gE X hl hm slot_list_iter.lookup ?_);unfold callSpecialIfBoundUnlessNone? bindSpecialIfBound?;refine wpAny_bind (wpAny_holding ?_);refine wpAny_bind (wpAny_bind (gE X hl hm slot_list_iter.lookup ?_));dsimp only;rw [slot_list_iter.bind];refine wpAny_bind (wpAny_askSetting (wpAny_ite ?_));have body:wpAny (model prog w) A (call (.builtin "list.__iter__") [.ref c]) (fun it s'=>it= .ref s.heap.objs.size/\s'={s with heap:=s.heap.push {cls:= .type "list_iterator",data:= .fields #[.ref c,.int 0 0]}}) E s:=by
  obtain ⟨cr,hC⟩:=X.obj;obtain ⟨n,ho⟩:=hl;obtain ⟨hp,g,d,t,os⟩:=s;refine jH (id:="list.__iter__") (b:=Builtin.«list.__iter__») (rest:=[]) (aLx _) hC ho rfl ?_;show wpAny _ _ (do ret (<- newFields "list_iterator" [.ref c,rawInt 0])) _ _ _;exact wpAny_bind (wpAny_newObj_type (wpAny_pure ⟨_,rfl,rfl,rfl⟩))
 have fin:wpAny (model prog w) A (if (Value.builtin "list.__iter__"==Value.none)=true then ((do rule "iter.none";raiseError "TypeError" s!"'{← typeNameOf (.ref c)}' object is not iterable") >>= fun v=>pure (some v)) else (call (.builtin "list.__iter__") [.ref c] >>= fun v=>pure (some v)))
   (fun r s'=>r=some (.ref s.heap.objs.size)/\s'={s with heap:=s.heap.push {cls:= .type "list_iterator",data:= .fields #[.ref c,.int 0 0]}}) E s:=by
  refine bX (by rw [builtin_beq_none]; exact Bool.false_ne_true) ?_;exact wpAny_bind (wpAny_mono body (fun v s' h'=>wpAny_pure ⟨congrArg some h'.1,h'.2⟩) fun _ _ h'=>h')
 split
 ·refine wpAny_bind (wpAny_pure (wpAny_pure (wpAny_mono fin (fun r s' h=> ?_) fun _ _ e=>e)));obtain ⟨rfl,rfl⟩:=h;exact wpAny_bind (wpAny_specialOf (T:="list_iterator") ⟨_,Heap.get?_push_size _ rfl,rfl⟩ slot_listiter_next.lookup (wpAny_pure hQ))
 ·refine wpAny_tryCatch (wpAny_bind (wpAny_pure (wpAny_pure (wpAny_mono fin (fun r s' h=> ?_) fun _ _ e=>e))));obtain ⟨rfl,rfl⟩:=h;exact wpAny_bind (wpAny_specialOf (T:="list_iterator") ⟨_,Heap.get?_push_size _ rfl,rfl⟩ slot_listiter_next.lookup (wpAny_pure hQ))
theorem aBj (hh:A.handled=none)(I:Addr)(hne:c≠I)(Ts:Nat->Addr)(vals:Nat->Array Value)
  (hit:∀j,j<vs.size->vs[j]? =some (.ref (Ts j))) (hTI:∀j,j<vs.size->Ts j≠I):
  WalksU prog w A I (I::c::(List.range vs.size).map Ts) [I] vs.size (fun j v=>j<vs.size/\v=vals j)
   (fun j h=>h.IsListIter I c j/\gZ h C c dc vs/\∀k,k<vs.size->h.IsTuple (Ts k) (vals k))
   (fun j T h=>(j<vs.size/\T=Ts j)/\h.IsListIter I c (j+1)/\gZ h C c dc vs/\∀k,k<vs.size->h.IsTuple (Ts k) (vals k)) where
 sub:=fun b hb=>by simp at hb;simp [hb]
 frame:=fun _ _ _ st hk=>⟨st.1.at fun o e=>hk I (by simp) o e,st.2.1.at fun o e=>hk c (by simp) o e,
  fun k hk'=>(st.2.2 k hk').at fun o e=>hk (Ts k) (List.mem_cons_of_mem _ (List.mem_cons_of_mem _ (List.mem_map.mpr ⟨k,List.mem_range.mpr hk',rfl⟩))) o e⟩
 item:=fun i s Q E hi st hQ=>by
  refine wE st.1 st.2.1 (x:= .ref (Ts i)) (hit i hi) fun h' hit' hs'=> ?_
  have tup:∀k,k<vs.size->h'.IsTuple (Ts k) (vals k):=fun k hk'=>(st.2.2 k hk').extBut hs'.extBut (hTI k hk')
  exact hQ (Ts i) (vals i) h' s.toks ⟨hi,rfl⟩ (tup i hi) ⟨⟨hi,rfl⟩,hit',st.2.1.at fun o e=>hs'.extBut c o hne e,tup⟩ fun b o hb e=>hs'.extBut b o (fun h=>hb (by simp [h])) e
 go:=fun _ _ _ _ _ s Q _ hm hQ=>wpAny_letOwnedTupleGo_listiter hm.2.1 (hQ s.heap hm.2 fun _ _ _ e=>e)
 apart:=fun j T _ hm hmem=>by
  rcases List.mem_cons.mp hmem with e | e
  ·exact hTI j hm.1.1 (hm.1.2▸e)
  ·cases e
 done:=fun s Q E st hQ=>aBi hh st.1 st.2.1 (by simp) fun h' he'=>hQ h' s.toks fun b o hb e=>he' b o (fun h=>hb (by simp [h])) e
 self:=fun _ _ _ _ st hQ=>wpAny_pyIter_listiter st.1 hQ
end
structure Df (Sta:Heap->Prop)(a:Addr)(fd:FuncData):Prop where
 at':∀h,Sta h->(∃ o,h.get? a=some o/\o.cls= .type "function"/\o.data= .func fd)/\h.CodeRec fd.code fd.qualname/\h.NoLimit
 globals:fd.globals=mainGlobals
 builtins:fd.builtins=builtinsNs
 nocell:∀x∈fd.scope.names,x.2≠ .cell
 kind:fd.scope.kind= .function
 co:fd.scope.isCoroutine=false
 gen:fd.scope.isGenerator=false
theorem aKd {binds:List (Str × Value)}(D:Df Sta a fd)(hS:Sta s.heap)(hA:A.depth<990)(hbody:fd.body= .stmts body)(hbind:BindsTo s fd ⟨ys,[]⟩ binds)
  (hloc:∀x∈binds,fd.scope.names.lookup x.1=some .local)
  (h:∀(h'0:Heap)(tk:Nat)(E':Value->Shared->Prop)(env:Env),env=callEnv fd s.heap.objs.size a->env.locals=s.heap.objs.size->h'0.Ns env.locals (fun x=>binds.reverse.lookup x)->(∀ b o,s.heap.get? b=some o->h'0.get? b=some o)->
   _root_.PySem.wpAt (model prog w) (A.deeper env) (.func body env) (execs body env) (fun f s'=>R (.ok (.ret (match f with | .ret v=>v | _=> .none))) s') E' {s with heap:=h'0,toks:=tk}):
  codeAny (model prog w) A (.call (.ref a) ⟨ys,[]⟩) R s:=by
 obtain ⟨⟨o,ho,_,hod⟩,hcd,hlim⟩:=D.at' _ hS;exact ks_codeAny_call_defAt (by show A.depth<1000;exact lit hA rfl) ho hod hlim hcd hbody hbind D.nocell hloc (fun h'0 hn hk=>h h'0 _ _ _ rfl rfl hn hk) D.co D.gen D.kind
theorem aEl {binds:List (Str × Value)}(D:Df Sta a fd)(hS:Sta s.heap)(hA:A.depth<990)(hbody:fd.body= .stmts body)(hbind:BindsTo s fd ⟨ys,[]⟩ binds)
  (hloc:∀x∈binds,fd.scope.names.lookup x.1=some .local)
  (h:∀(h'0:Heap)(tk:Nat)(E':Value->Shared->Prop)(env:Env),env=callEnv fd s.heap.objs.size a->env.locals=s.heap.objs.size->h'0.Ns env.locals (fun x=>binds.reverse.lookup x)->(∀ b o,s.heap.get? b=some o->h'0.get? b=some o)->
   _root_.PySem.wpAt (model prog w) (A.deeper env) (.func body env) (execs body env) (fun f s'=>Q (match f with | .ret v=>v | _=> .none) s') E' {s with heap:=h'0,toks:=tk}):
  wpAny (model prog w) A (call (.ref a) ys) Q E s:=
 wpAny_call (aKd D hS hA hbody hbind hloc h)
structure InF (A A':Around):Prop where
 depth:A'.depth=A.depth+1
 units:A'.units=A.units+3
 handled:A'.handled=A.handled
theorem aEm {binds:List (Str × Value)}(D:Df Sta a fd)(hS:Sta s.heap)(hA:A.depth<990)(hbody:fd.body= .stmts body)(hbind:BindsTo s fd ⟨ys,[]⟩ binds)
  (hloc:∀x∈binds,fd.scope.names.lookup x.1=some .local)
  (h:∀(h'0:Heap)(tk:Nat)(E':Value->Shared->Prop)(env:Env)(b:List Stmt)(A':Around)(K:Flow->Shared->Prop),InF A A'->env=callEnv fd s.heap.objs.size a->env.locals=s.heap.objs.size->h'0.Ns env.locals (fun x=>binds.reverse.lookup x)->(∀ b o,s.heap.get? b=some o->h'0.get? b=some o)->
   (∀ v s',Q v s'->K (.ret v) s')->(∀ s',Q .none s'->K .next s')->_root_.PySem.wpAt (model prog w) A' (.func b env) (execs body env) K E' {s with heap:=h'0,toks:=tk}):
  wpAny (model prog w) A (call (.ref a) ys) Q E s:=
 aEl D hS hA hbody hbind hloc fun h'0 tk E' env e1 e2 e3 e4=>h h'0 tk E' env body _ _ ⟨rfl,rfl,rfl⟩ e1 e2 e3 e4 (fun _ _ q=>q) fun _ q=>q
theorem aO6 {c:Code}{st:Stmt}{rest:List Stmt}{K:Flow->Shared->Prop}(h:∀K':Flow->Shared->Prop,(∀ s',_root_.PySem.wpAt (model prog w) A c (execs rest env) K E s'->K' .next s')->(∀ v s',K (.ret v) s'->K' (.ret v) s')->_root_.PySem.wpAt (model prog w) A c (exec st env) K' E s):
  _root_.PySem.wpAt (model prog w) A c (execs (st::rest) env) K E s:=ks_wpAt_execs_cons (h _ (fun _ q=>q) fun _ _ q=>q)
theorem dF {st:Stmt}{rest:List Stmt}{K:Flow->Shared->Prop}(h:∀K':Flow->Shared->Prop,(∀ s',wpAny (model prog w) A (execs rest env) K E s'->K' .next s')->(∀ v s',K (.ret v) s'->K' (.ret v) s')->wpAny (model prog w) A (exec st env) K' E s):
  wpAny (model prog w) A (execs (st::rest) env) K E s:=wpAny_execs_cons (h _ (fun _ q=>q) fun _ _ q=>q)
theorem iC {st:Stmt}{l rest:List Stmt}{K:Flow->Shared->Prop}(e:l=st::rest)(h:∀K':Flow->Shared->Prop,(∀ s',wpAny (model prog w) A (execs rest env) K E s'->K' .next s')->(∀ f s',f≠ .next->K f s'->K' f s')->wpAny (model prog w) A (exec st env) K' E s):
  wpAny (model prog w) A (execs l env) K E s:=e▸wpAny_execs_cons (h _ (fun _ q=>q) fun f _ n q=>by cases f <;> first | exact (n rfl).elim | exact q)
theorem InF.room {A':Around}{d:Nat}(i:InF A A')(r:cW A (d+1)):cW A' d:=⟨i.handled.trans r.handled,by have:=r.depth;have:=i.depth;lia,by have:=r.units;have:=i.units;lia⟩
theorem aKe:typeLookup (.type "list") "_initial_size"=pure none:=by rw [typeLookup_type,builtinLookup_eq_fast]; kernel_rfl
structure AW (prog:Program)(w:World)(Sta:Heap->Prop)(C N:Addr)(mN:Str->Option Value):Prop where
 cls:∀h,Sta h->aEd h C N mN
 looks:∀h,Sta h->Looks (model prog w) h (opaqueClassAbove (.ref C)) none
 ga:mN "__getattribute__"=none
 gt:mN "__getattr__"=none
 sa:mN "__setattr__"=none
 gi:mN "__getitem__"=none
 si:mN "__setitem__"=none
 it:mN "__iter__"=none
 isz:mN "_initial_size"=none
 app:mN "append"=none
 bo:mN "__bool__"=none
def cA (h:Heap)(vs:List Value)(ps:List (Str × Str)):Prop:=vs.length=ps.length/\∀(i:Nat)(v:Value)(p:Str × Str),vs[i]? =some v->ps[i]? =some p->∃T t u,v= .ref T/\h.IsTuple T #[.str p.1 t,.str p.2 u]
structure Acc (C:Addr)(h:Heap)(c dc:Addr)(ps:List (Str × Str)):Prop where
 seq:∃vs,gZ h C c dc vs/\cA h vs.toList ps
 dict:∃t,h.Ns1 dc (fun n=>if n="_initial_size" then some (.int 0 t) else none)
 ne:dc≠c
def NT (h:Heap)(W:List Addr):Prop:=∀a∈W,∃o,h.get? a=some o/\(o.cls≠ .type "tuple"\/∀items n,o.data≠ .seq items n)
theorem cA.keeps {vs:List Value}(x:cA h vs ps)(k:∀T vals,h.IsTuple T vals->h'.IsTuple T vals):cA h' vs ps:=
 ⟨x.1,fun i v p h1 h2=>by obtain ⟨T,t,u,e,ht⟩:=x.2 i v p h1 h2;exact ⟨T,t,u,e,k _ _ ht⟩⟩
theorem cA.snoc {vs:List Value}(x:cA h vs ps){T:Addr}{a b:Str}{u:Tok}(hT:h.IsTuple T #[.str a t,.str b u]):cA h (vs++[.ref T]) (ps++[(a,b)]):=by
 refine ⟨by simp [x.1],fun i v p h1 h2=> ?_⟩
 rcases Nat.lt_trichotomy i vs.length with q | q | q
 ·rw [List.getElem?_append_left q] at h1;rw [List.getElem?_append_left (x.1▸q)] at h2;exact x.2 i v p h1 h2
 ·subst q;rw [List.getElem?_append_right (Nat.le_refl _),Nat.sub_self] at h1;rw [x.1,List.getElem?_append_right (Nat.le_refl _),Nat.sub_self] at h2
  (replace h1:=Option.some.inj h1;subst h1); (replace h2:=Option.some.inj h2;subst h2)
  exact ⟨T,t,u,rfl,hT⟩
 ·rw [List.getElem?_eq_none (by simp;exact q)] at h1;exact no1 h1
theorem KW.tup (k:KW W Z s s')(nt:NT s.heap W)(hz:Zok Z W s.heap){T:Addr}{vals:Array Value}(h:s.heap.IsTuple T vals):s'.heap.IsTuple T vals:=by
 obtain ⟨o,ho,hc,n,hd⟩:=id h;refine ⟨o,k.keep T o (fun q=> ?_) (fun q=> ?_) ho,hc,n,hd⟩
 ·obtain ⟨o',ho',r⟩:=nt T q;rw [ho] at ho';(replace ho':=Option.some.inj ho';subst ho')
  rcases r with r | r
  ·exact r hc
  ·exact r _ _ hd
 ·obtain ⟨z,hz1,rfl⟩:=List.mem_map.mp q;obtain ⟨ps,_,_,ht⟩:=hz.at' z hz1;rw [ho] at ht;(replace ht:=Option.some.inj ht;subst ht); exact nomatch hc
theorem Acc.nt (a:Acc C h c dc ps):NT h [c,dc]:=by
 intro y hy;obtain ⟨vs,⟨n,ho⟩,_⟩:=a.seq;obtain ⟨t,hd⟩:=a.dict
 rcases List.mem_cons.mp hy with rfl | hy
 ·exact ⟨_,ho,.inl (fun e=>nomatch e)⟩
 ·rw [List.mem_singleton.mp hy];obtain ⟨o,es,ep,h1,h2,_⟩:=hd;exact ⟨o,h1,.inr fun _ _ e=>by rw [h2] at e;exact nomatch e⟩
theorem Acc.inst (a:Acc C h c dc ps):∃t,h.Inst c C (fun n=>if n="_initial_size" then some (.int 0 t) else none):=by
 obtain ⟨vs,⟨n,ho⟩,_⟩:=a.seq;obtain ⟨t,hd⟩:=a.dict;exact ⟨t,_,ho,rfl,(fun _ e=>nomatch e),.inr ⟨dc,rfl,a.ne,hd⟩⟩
section
structure Bs (Sta:Heap->Prop)(Z:List (Addr × Addr))(W:List Addr)(hb h:Heap):Prop where
 sta:Sta hb
 keep:∀b o,b∉Z.map (·.2)->hb.get? b=some o->h.get? b=some o
 new:∀y∈W,hb.get? y=none
 z:Zok Z W h
def SZ (Sta:Heap->Prop)(Z:List (Addr × Addr)):Prop:=∀h h',(∀ b o,b∉Z.map (·.2)->h.get? b=some o->h'.get? b=some o)->Sta h->Sta h'
theorem Bs.of (x:Bs Sta Z W hb s.heap)(k:KW W Z s s'):Bs Sta Z W hb s'.heap where
 sta:=x.sta
 keep:=fun b o h e=>k.keep b o (fun q=>by rw [x.new b q] at e;exact no1 e) h (x.keep b o h e)
 new:=x.new
 z:=x.z.of k
theorem Bs.st (x:Bs Sta Z W hb h)(S:SZ Sta Z):Sta h:=S _ _ x.keep x.sta
theorem Bs.sub {W':List Addr}(x:Bs Sta Z W hb h)(hs:∀y∈W',y∈W):Bs Sta Z W' hb h:=
 ⟨x.sta,x.keep,fun y hy=>x.new y (hs y hy),x.z.at',fun z hz y hy=>x.z.apart z hz y (hs y hy)⟩
section
variable {m:Str->Option Value}
noncomputable def knd (fd:FuncData)(x:Str):Option NameKind:=fd.scope.names.lookup x
theorem nm {u:Value}(hk:env.scope.kind= .function)(hx:env.kindOf x=some .local)(hn:s.heap.Ns env.locals m)(hm:m x=some u)(hd:(x==("__debug__":Str))=false)(h:Q u s):
  wpAny (model prog w) A (eval (.Name x pos) env) Q E s:=wpAny_Name (wpAny_loadName_local hk hx hn hm h) hd
theorem Ns.kw (hn:s.heap.Ns L m)(k:KW W Z s s')(h1:L∉W)(h2:L∉Z.map (·.2)):s'.heap.Ns L m:=hn.at' fun o e=>k.keep L o h1 h2 e
theorem rC (hk:env.scope.kind= .function):interactive env=false:=by unfold interactive;rw [hk]; rfl
end
theorem Acc.keeps (X:Acc C h c dc ps)(k:∀b o,h.get? b=some o->h'.get? b=some o):Acc C h' c dc ps:=by
 obtain ⟨vs,hl,hp⟩:=X.seq;obtain ⟨t,hd⟩:=X.dict;exact ⟨⟨vs,hl.at fun o e=>k _ _ e,hp.keeps fun T vals h=>by obtain ⟨o,e,r⟩:=h;exact ⟨o,k _ _ e,r⟩⟩,⟨t,hd.at fun o e=>k _ _ e⟩,X.ne⟩
theorem Acc.fresh (X:Acc C h c dc ps):h.objs.size∉[c,dc]:=fun q=>by
 obtain ⟨o,e,_⟩:=X.nt _ q;exact absurd (Heap.lt_size e) (Nat.lt_irrefl _)
theorem Zok.fresh (z:Zok Z W h):h.objs.size∉Z.map (·.2):=fun q=>by
 obtain ⟨y,hy,e⟩:=List.mem_map.mp q;obtain ⟨ps,_,_,ht⟩:=z.at' y hy;rw [e] at ht;exact absurd (Heap.lt_size ht) (Nat.lt_irrefl _)
theorem jI {l:Addr}(hn:h.Ns l mm)(hs:Heap.SameBut l h h'){T:Addr}{vals:Array Value}(hT:h.IsTuple T vals):h'.IsTuple T vals:=by
 obtain ⟨o,e,hc,n,hd⟩:=hT;refine ⟨o,hs.extBut T o (fun q=> ?_) e,hc,n,hd⟩;obtain ⟨o',es,ep,e2,e3,_⟩:=hn;rw [q,e2] at e
 (replace e:=(Option.some.inj e).symm;subst e)
 rw [e3] at hd;exact nomatch hd
theorem Acc.loc {l:Addr}(X:Acc C h c dc ps)(hn:h.Ns l mm)(hs:Heap.SameBut l h h')(hl:l∉[c,dc]):Acc C h' c dc ps:=by
 obtain ⟨vs,h1,h2⟩:=X.seq;obtain ⟨t,h3⟩:=X.dict;exact ⟨⟨vs,h1.at fun o e=>hs.extBut _ _ (fun q=>hl (q▸ .head _)) e,h2.keeps fun T vals hT=>jI hn hs hT⟩,⟨t,h3.at fun o e=>hs.extBut _ _ (fun q=>hl (q▸ .tail _ (.head _))) e⟩,X.ne⟩
theorem Acc.kw (X:Acc C s.heap c dc ps)(z:Zok Z [c,dc] s.heap)(k:KW [] Z s s'):Acc C s'.heap c dc ps:=by
 have nz:∀y∈[c,dc],y∉Z.map (·.2):=fun y hy q=>by obtain ⟨v,hv,e⟩:=List.mem_map.mp q;exact (z.apart v hv y hy).2 e.symm
 obtain ⟨vs,hl,hp⟩:=X.seq;obtain ⟨t,hd⟩:=X.dict;exact ⟨⟨vs,hl.at fun o e=>k.keep c o (fun h=>nomatch h) (nz c (.head _)) e,hp.keeps fun T vals h=>k.tup (fun _ h=>nomatch h) ⟨z.at',fun _ _ _ h=>nomatch h⟩ h⟩,⟨t,hd.at fun o e=>k.keep dc o (fun h=>nomatch h) (nz dc (.tail _ (.head _))) e⟩,X.ne⟩
set_option genInjectivity false in
structure AX where
 prog:Program
 w:World
 Sta:Heap->Prop
 Z:List (Addr × Addr)
 C:Addr
 N:Addr
 c:Addr
 dc:Addr
 mN:Str->Option Value
 hb:Heap
 A:Around
 env:Env
 fd:FuncData
 f:Addr
 W:List Addr
 s0:Shared
namespace AX
structure Ok (X:AX):Prop where
 S:SZ X.Sta X.Z
 K:AW X.prog X.w X.Sta X.C X.N X.mN
 D:Df X.Sta X.f X.fd
 env:∃L,X.env=callEnv X.fd L X.f
 LF:X.env.locals∉[X.c,X.dc]
 LZ:X.env.locals∉X.Z.map (·.2)
 self:knd X.fd "self"=some .local
 B:Bs X.Sta X.Z [X.c,X.dc] X.hb X.s0.heap
 new:X.s0.heap.get? X.env.locals=none
 sub:∀y∈X.W,y∈[X.c,X.dc]
structure At (X:AX)(s:Shared)(mm:Str->Option Value)(ps:List (Str × Str)):Prop where
 ns:s.heap.Ns X.env.locals mm
 ac:Acc X.C s.heap X.c X.dc ps
 w:KW X.W X.Z X.s0 s
 me:mm "self"=some (.ref X.c)
variable {X:AX}{mm':Str->Option Value}
theorem Ok.kf (O:Ok X):X.env.scope.kind= .function:=by obtain ⟨L,e⟩:=O.env;rw [e]; exact O.D.kind
theorem Ok.ko (O:Ok X)(x:Str):X.env.kindOf x=knd X.fd x:=by obtain ⟨L,e⟩:=O.env;rw [e]; rfl
theorem Ok.ge (O:Ok X):X.env.globals=mainGlobals:=by obtain ⟨L,e⟩:=O.env;rw [e]; exact O.D.globals
theorem Ok.be (O:Ok X):X.env.builtins=builtinsNs:=by obtain ⟨L,e⟩:=O.env;rw [e]; exact O.D.builtins
theorem At.B (J:At X s mm ps)(O:Ok X):Bs X.Sta X.Z [X.c,X.dc] X.hb s.heap:=O.B.of (J.w.weaken O.sub)
theorem At.st (J:At X s mm ps)(O:Ok X):X.Sta s.heap:=(J.B O).st O.S
theorem At.keep (J:At X s mm ps)(k:∀b o,s.heap.get? b=some o->h'.get? b=some o):At X {s with heap:=h',toks:=t} mm ps:=⟨J.ns.keeps k,J.ac.keeps k,J.w.trans (KW.of_keep k),J.me⟩
theorem At.tok (J:At X s mm ps):At X {s with toks:=t} mm ps:=J.keep fun _ _ e=>e
theorem At.set (J:At X s mm ps)(O:Ok X)(hn:h'.Ns X.env.locals mm')(hs:Heap.SameBut X.env.locals s.heap h')(e:mm' "self"=some (.ref X.c)):At X {s with heap:=h',toks:=t} mm' ps:=⟨hn,J.ac.loc J.ns hs O.LF,KW.fresh J.w O.new hs,e⟩
theorem At.chg (J:At X s mm ps)(O:Ok X){us:Array Value}(hW:X.c∈X.W)(hl:gZ h' X.C X.c X.dc us)(hs:Heap.SameBut X.c s.heap h')(hp:(∀ T vals,s.heap.IsTuple T vals->h'.IsTuple T vals)->cA h' us.toList qs):At X {s with heap:=h',toks:=t} mm qs:=by
 have w:KW [X.c,X.dc] X.Z s {s with heap:=h',toks:=t}:=KW.change (.head _) (J.B O).z hs;have w2:KW X.W X.Z s {s with heap:=h',toks:=t}:=KW.change hW ⟨(J.B O).z.at',fun z hz y hy=>(J.B O).z.apart z hz y (O.sub y hy)⟩ hs;obtain ⟨n,e⟩:=hl;refine ⟨J.ns.at' fun o e=>hs.extBut _ o (fun q=>O.LF (q▸ .head _)) e,⟨⟨us,⟨n,e⟩,hp fun T vals h=>w.tup J.ac.nt (J.B O).z h⟩,?_,J.ac.ne⟩,J.w.trans w2,J.me⟩;obtain ⟨t,hd⟩:=J.ac.dict;exact ⟨t,hd.at fun o e=>hs.extBut _ _ J.ac.ne e⟩
theorem me (O:Ok X)(J:At X s mm ps)(h:Q (.ref X.c) s):wpAny (model X.prog X.w) X.A (eval (.Name "self" p) X.env) Q E s:=nm O.kf ((O.ko _).trans O.self) J.ns J.me rfl h
theorem name (O:Ok X)(J:At X s mm ps){v:Value}(k:knd X.fd x=some .local)(e:mm x=some v)(d:(x==("__debug__":Str))=false)(h:Q v s):wpAny (model X.prog X.w) X.A (eval (.Name x p) X.env) Q E s:=nm O.kf ((O.ko _).trans k) J.ns e d h
theorem store (O:Ok X)(J:At X s mm ps){v:Value}{Q:Unit->Shared->Prop}(k:knd X.fd x=some .local)(d:ofString "self"≠x)(h:∀s',Heap.SameBut X.env.locals s.heap s'.heap->At X s' (fun z=>if z=x then some v else mm z) ps->Q () s'):wpAny (model X.prog X.w) X.A (storeName X.env x v) Q E s:=
 wpAny_storeName_local ((O.ko _).trans k) J.ns (fun _ hn hs=>h _ hs (J.set O hn hs ((if_neg d).trans J.me))) (by rw [O.kf]; rfl)
end AX
theorem pT (S:SZ Sta Z)(K:AW prog w Sta C N mN){f:Addr}(D:Df Sta f fd)(ks:knd fd "self"=some .local)(W:List Addr)(hW:∀y∈W,y∈[c,dc]){vs:List Value}{binds:List (Str × Value)}
  (hbody:fd.body= .stmts body) (hbind:BindsTo s fd ⟨.ref c::vs,[]⟩ binds) (hloc:∀x∈binds,fd.scope.names.lookup x.1=some .local) (hme:binds.reverse.lookup (ofString "self")=some (.ref c)) (hA:A.depth<990) (B:Bs Sta Z [c,dc] hb s.heap) (X:Acc C s.heap c dc ps)
  {T:AX->Prop} (hT:∀A' env,InF A A'->T ⟨prog,w,Sta,Z,C,N,c,dc,mN,hb,A',env,fd,f,W,s⟩)
  (h:∀(X:AX)(s':Shared)(b:List Stmt)(K':Flow->Shared->Prop)(E':Value->Shared->Prop),(∀ {x v},knd fd x=v->knd X.fd x=v)->T X->AX.Ok X->AX.At X s' (fun x=>binds.reverse.lookup x) ps->(∀ b o,X.s0.heap.get? b=some o->s'.heap.get? b=some o)->
   (∀ s'2 mm p' v,AX.At X s'2 mm p'->(KW W Z s s'2->Acc C s'2.heap c dc p'->(∀ b,X.s0.heap.get? b=none->s.heap.get? b=none)->R (.ok (.ret v)) s'2)->K' (.ret v) s'2/\(v= .none->K' .next s'2))->
   _root_.PySem.wpAt (model X.prog X.w) X.A (.func b X.env) (execs body X.env) K' E' s'):
  codeAny (model prog w) A (.call (.ref f) ⟨.ref c::vs,[]⟩) R s:=by
 refine aKd D (B.st S) hA hbody hbind hloc fun h'0 tk E' env henv hL hns hk=> ?_
 have O:AX.Ok ⟨prog,w,Sta,Z,C,N,c,dc,mN,hb,A.deeper env,env,fd,f,W,s⟩:=⟨S,K,D,⟨_,henv⟩,by rw [hL]; exact X.fresh,by rw [hL]; exact B.z.fresh,ks,B,by rw [hL]; exact bG _,hW⟩;exact h _ _ body _ _ id (hT (A.deeper env) env ⟨rfl,rfl,rfl⟩) O ⟨hns,X.keeps hk,KW.of_keep hk,hme⟩ hk fun s'2 mm p' v J g=>⟨g J.w J.ac fun _ e=>e,fun e=>e▸g J.w J.ac fun _ e=>e⟩
theorem aEn (S:SZ Sta Z)(K:AW prog w Sta C N mN){f:Addr}(D:Df Sta f fd){k0:Nat}
  (hbody:fd.body= .stmts [.Expr (.Call (.Attribute (.Name "self" p0) "append" p1) [.Tuple [.Name "fws" p2,.Name "string" p3] k0 p4] [] p5) p6]) (hl:(p1.endLine==p5.line)=true)
  (hself:knd fd "self"=some .local) (hfws:knd fd "fws"=some .local) (hstr:knd fd "string"=some .local)
  (hbind:∀x y z:Value,bindArgs fd ⟨[x,y,z],[]⟩=pure [(ofString "self",x),(ofString "fws",y),(ofString "string",z)])
  (A:Around) (s:Shared) (hb:Heap) (a b:Str) (t u:Tok) (ps:List (Str × Str)) (hA:A.depth<980) (B:Bs Sta Z [c,dc] hb s.heap) (X:Acc C s.heap c dc ps) (hn:ps.length<=900)
   (hR:∀s',KW [c,dc] Z s s'->Acc C s'.heap c dc (ps++[(a,b)])->R (.ok (.ret .none)) s'):
  codeAny (model prog w) A (.call (.ref f) ⟨[.ref c,.str a t,.str b u],[]⟩) R s:=by
 refine pT S K D hself [c,dc] (fun _ h=>h) hbody (.of_eq (hbind _ _ _)) (aRn hself hfws hstr) rfl (Nat.lt_trans hA (by decide)) B X (T:=fun X=>X.c∈X.W) (fun _ _ _=> .head _) fun X s'0 bd K' E' hk hc O J _ hq=>wpAt_of_wpAny (dF fun R n _=>wpAny_Expr_any ?_ (rC O.kf) rfl)
 obtain ⟨tI,hI⟩:=J.ac.inst;obtain ⟨vs,hl0,hps⟩:=J.ac.seq;have hsz:vs.size=ps.length:=hps.1;refine bM rfl hl rfl (Nat.le_of_ble_eq_true rfl) (AX.me O J fun pl=> ?_);obtain ⟨cr,hC⟩:=(O.K.cls _ (J.st O)).obj;refine tJ (name:="append") hC (O.K.cls _ (J.st O)).ns O.K.ga O.K.gt O.K.app slot_list_append.lookup type_list_append hI rfl ?_;refine callWith_builtin rfl (aK rfl (spliced_cons (wpAny_Tuple (k:=k0) (wpAny_items_cons (AX.name O J (hk hfws) rfl rfl (wpAny_items_cons (AX.name O J (hk hstr) rfl rfl (wpAny_items_nil ?_))))))));refine ⟨by rw [sizeLine_eq]; show 2<=_;decide,spliced_nil ?_⟩;have J1:AX.At X {s'0 with heap:=s'0.heap.push {cls:= .type "tuple",data:= .seq #[.str a t,.str b u]}} _ ps:=J.keep (t:=s'0.toks) fun _ _ e=>Heap.get?_push_of_some _ e
 have hT:(s'0.heap.push {cls:= .type "tuple",data:= .seq #[.str a t,.str b u]}).IsTuple s'0.heap.objs.size #[.str a t,.str b u]:=⟨_,Heap.get?_push_size _ rfl,rfl,0,rfl⟩;have hTc:s'0.heap.objs.size≠X.c:=fun q=>J.ac.fresh (q▸ .head _)
 refine aIe (s:={s'0 with heap:=s'0.heap.push {cls:= .type "tuple",data:= .seq #[.str a t,.str b u]}}) (O.K.cls _ (J1.st O)) (hl0.at fun o e=>Heap.get?_push_of_some _ e) (Nat.le_trans (hsz▸hn) (by decide)) fun h' hl' hs'=> ?_
 refine n _ (wpAny_execs_nil ((hq _ _ (ps++[(a,b)]) _ (AX.At.chg (t:=s'0.toks) J1 O hc hl' hs' fun k=> ?_) fun w x _=>hR _ w x).2 rfl));rw [Array.toList_push];exact (hps.keeps fun T vals h=>k T vals (by obtain ⟨o,e,r⟩:=h;exact ⟨o,Heap.get?_push_of_some _ e,r⟩)).snoc (hT.extBut hs'.extBut hTc)
def tN (prog:Program)(w:World)(Sta:Heap->Prop)(Z:List (Addr × Addr))(C f:Addr):Prop:=
 ∀(c dc:Addr)(A:Around)(s:Shared)(hb:Heap)(a b:Str)(t u:Tok)(ps:List (Str × Str)),A.depth<980->Bs Sta Z [c,dc] hb s.heap->Acc C s.heap c dc ps->ps.length<=900->
  ∀{R:Result->Shared->Prop},(∀ s',KW [c,dc] Z s s'->Acc C s'.heap c dc (ps++[(a,b)])->R (.ok (.ret .none)) s')->codeAny (model prog w) A (.call (.ref f) ⟨[.ref c,.str a t,.str b u],[]⟩) R s
theorem tN.run {f:Addr}(h:tN prog w Sta Z C f){a b:Str}{u:Tok}(hA:A.depth<980)(B:Bs Sta Z [c,dc] hb s.heap)(X:Acc C s.heap c dc ps)(hn:ps.length<=900):
  wpAny (model prog w) A (call (.ref f) [.ref c,.str a t,.str b u]) (fun v s'=>v= .none/\KW [c,dc] Z s s'/\Acc C s'.heap c dc (ps++[(a,b)])) E s:=
 wpAny_call (h c dc A s hb a b t u ps hA B X hn fun s' k X'=>⟨rfl,k,X'⟩)
end
structure Sup (prog:Program)(Sta:Heap->Prop)(C:Addr)(fd:FuncData):Prop where
 clo:∃cl,fd.closure=[(ofString "__class__",cl)]/\∀h,Sta h->h.IsCell cl (some (.ref C))
 code:∃cc,fd.code= .ref cc/\∀h,Sta h->∃oc vs file tf,h.get? cc=some oc/\oc.data= .fields vs/\vs[2]? =some (.str file tf)/\((prog.main.file:Str)==file)=true
 top:(prog.main.scope.names.lookup ("super":Str)).isSome=false
 par:∃ar,(fd.params.posonlyargs++fd.params.args).head? =some ar/\ar.arg=ofString "self"
 sup:knd fd "super"=some .globalImplicit
 cls:knd fd "__class__"=some .free
 slf:knd fd "self"=some .local
theorem yO (G:∀h,Sta h->h.Ns mainGlobals mg/\h.Ns builtinsNs mb)(hg:mg "super"=none)(hb:mb "super"=some (.type "super"))(K:AW prog w Sta C N mN){f:Addr}(D:Df Sta f fd)(U:Sup prog Sta C fd)
     {m:Str->Option Value} {attr:Str} {whole:Sem Value} (henv:env=callEnv fd L f) (hS:Sta s.heap) (hns:s.heap.Ns env.locals m) (hm:m "self"=some (.ref c)) (I:s.heap.Inst c C mA)
  (hat:(attr==("__class__":Str))=false)
  (h:∀so h',h'.get? so=some {cls:= .type "super",data:= .fields #[.ref C,.ref c,.ref C]}->(∀ b o,s.heap.get? b=some o->h'.get? b=some o)->s.heap.get? so=none->Q (.ref so) {s with heap:=h'}):
  _root_.PySem.wpAt (model prog w) A (.func body env) (attributeBase (.Call (.Name "super" p0) [] [] p1) attr env whole) Q E s:=by
 obtain ⟨cl,hclo,hcell⟩:=U.clo;obtain ⟨cc,hcc,hcode⟩:=U.code;obtain ⟨oc,vs,file,tf,hoc,hod,hvs,hfile⟩:=hcode _ hS;obtain ⟨ar,hpar,har⟩:=U.par;obtain ⟨⟨of,hof,_,hofd⟩,_,_⟩:=D.at' _ hS;have hko:∀x,env.kindOf x=knd fd x:=fun x=>by rw [henv]; rfl
 have hkf:env.scope.kind= .function:=by rw [henv]; exact D.kind
 have X:=K.cls _ hS;obtain ⟨cr,hC⟩:=X.obj;obtain ⟨hg',hb'⟩:=G _ hS;refine ks_wpAt_super_base (cc:=cc) ((hko _).trans U.sup) ((hko _).trans U.cls) hat (by rw [henv]; rfl) hof hofd hpar (by rw [henv]; exact hcc) hoc hod hvs hfile U.top ?_;refine ks_loadName_global hkf ((hko _).trans U.sup) (loadGlobal_builtin (env:=env) (by rw [henv]; show s.heap.Ns fd.globals mg;rw [D.globals]; exact hg') hg (by rw [henv]; show s.heap.Ns fd.builtins mb;rw [D.builtins]; exact hb') hb ⟨rfl,?_⟩);refine wpAny_loadName_free hkf ((hko _).trans U.cls) (c:=cl) (by rw [henv]; show fd.closure.lookup _=_;rw [hclo]; rfl) (hcell _ hS) ?_;refine wpAny_loadName_local hkf ((hko _).trans (har▸U.slf)) hns (by rw [har]; exact hm) ?_;obtain ⟨hp,g,d,t,os⟩:=s;refine ks_wpAny_isType_cls hC rfl ⟨rfl,?_⟩;obtain ⟨ox,hox,hxc,hnc,_⟩:=I;refine ks_wpAny_call_super (C:=C) hC rfl hox hxc hnc ?_ (fun h' e k=>h _ h' e k ?_)
 ·intro A' Q' E' s' k q;obtain ⟨hp',g',d',t',os'⟩:=s';refine wpAny_isSubtype_exc (k _ _ hC) ?_;rw [List.contains_cons,beq_self_eq_true,Bool.true_or];exact q
 ·exact bG _
theorem nN {c:Code}{name:Str}(hline:(ap.endLine==pos.line)=true)(hstar:(backTo pos (starEach args env)).any (·.1)=false)(hlen:args.length<30)
  (h:_root_.PySem.wpAt (model prog w) A c (attributeBase o name env (eval o env)) (fun ov s'1=>∀pl,wpAny (model prog w) A (getMethod ov name pl) (fun fx s'2=>wpAny (model prog w) A (callWith pos fx.1 fx.2 (backTo pos (starEach args env)) []) Q E s'2) E s'1) E s):
  _root_.PySem.wpAt (model prog w) A c (eval (.Call (.Attribute o name ap) args [] pos) env) Q E s:=by
 rw [arm_eval_Call];refine _root_.PySem.wpAt_bind (ks_wpAt_mono h (fun ov s'1 h'1=>wpAt_of_wpAny ?_) fun _ _ e=>e);refine wpAny_bind (wpAny_standAt ?_);have hform:=sS hstar hlen;have hpos:methodCallPos true o env ap pos=pure pos:=by unfold methodCallPos;simp [hline]
 unfold methodCall;rw [hform];refine wpAny_bind (wpAny_holding ?_);unfold calleeOf;refine wpAny_mono (h'1 _) (fun fx s'2 h'2=> ?_) fun _ _ e=>e
 exact wpAny_bind (wpAny_of_eq hpos h'2)
theorem gH {b:Addr}{bt:String}{self:Value}(hbt:bt="builtin_function_or_method"\/bt="method-wrapper")(hb:s.heap.get? b=some {cls:= .type bt,data:= .fields #[.builtin id,self]})
  (h:wpAny (model prog w) A (call (.ref b) []) Q E s):wpAny (model prog w) A (callWith pos (.ref b) [] (backTo pos (starEach [] env)) []) Q E s:=by
 refine callWith_of (P:=fun h=>h.get? b=some {cls:= .type bt,data:= .fields #[.builtin id,self]}) rfl (fun h hh=>⟨.machine,.inr (.inl rfl),?_⟩) (evalArgs_nil3 ⟨hb,h⟩);have hc:(Value.type bt !=Value.type "method")=true:=by rcases hbt with rfl | rfl <;> decide+kernel
 have hc2:((Value.type bt==Value.type "builtin_function_or_method")||(Value.type bt==Value.type "method-wrapper"))=true:=by rcases hbt with rfl | rfl <;> decide+kernel
 intro A' Q' E' s' k q;unfold keeperOf;refine wpAny_bind (wpAny_load (k _ _ hh) ?_);dsimp only;rw [if_pos hc,if_pos hc2];exact wpAny_pure q
theorem AX.sup {X:AX}{bd:List Stmt}{name:Str}{T bt getId:String}{Bi:Args->Sem Fin}(O:AX.Ok X)(J:AX.At X s mm ps)(G:∀h,X.Sta h->h.Ns mainGlobals mg/\h.Ns builtinsNs mb)(hg:mg "super"=none)(hb:mb "super"=some (.type "super"))(U:Sup X.prog X.Sta X.C X.fd)
  (Bh:pS id name T bt getId Bi) (hbt:bt="builtin_function_or_method"\/bt="method-wrapper") (hat:(name==("__class__":Str))=false) (hl:(p2.endLine==p3.line)=true)
  (h:∀h' tk b,AX.At X {s with heap:=h',toks:=tk} mm ps->(∀ b o,s.heap.get? b=some o->h'.get? b=some o)->h'.get? b=some {cls:= .type bt,data:= .fields #[.builtin id,.ref X.c]}->wpAny (model X.prog X.w) X.A (call (.ref b) []) Q E {s with heap:=h',toks:=tk}):
  _root_.PySem.wpAt (model X.prog X.w) X.A (.func bd X.env) (eval (.Call (.Attribute (.Call (.Name "super" p0) [] [] p1) name p2) [] [] p3) X.env) Q E s:=by
 obtain ⟨L,henv⟩:=O.env;obtain ⟨tI,hI⟩:=J.ac.inst;refine nN hl rfl (Nat.le_of_ble_eq_true rfl) (yO G hg hb O.K O.D U henv (J.st O) J.ns J.me hI hat fun so h' hso k _ pl=> ?_);have J1:AX.At X {s with heap:=h'} mm ps:=J.keep (t:=s.toks) k;obtain ⟨cr,hC⟩:=(O.K.cls _ (J1.st O)).obj;obtain ⟨_,⟨_,ho⟩,_⟩:=J1.ac.seq;have hcC:X.c≠X.C:=fun e=>by rw [e,hC] at ho;cases ho
 refine gF Bh hso (O.K.looks _ (J1.st O)) hC ho rfl hcC ?_;have hb':(h'.push {cls:= .type bt,data:= .fields #[.builtin id,.ref X.c]}).get? h'.objs.size=some {cls:= .type bt,data:= .fields #[.builtin id,.ref X.c]}:=Heap.get?_push_size _ rfl;exact gH hbt hb' (h _ _ _ (AX.At.keep (s:={s with heap:=h'}) J1 fun _ _ e=>Heap.get?_push_of_some _ e) (fun b o e=>Heap.get?_push_of_some _ (k b o e)) hb')
theorem aEo (S:SZ Sta Z)(G:∀h,Sta h->h.Ns mainGlobals mg/\h.Ns builtinsNs mb)(hg:mg "super"=none)(hmb:mb "super"=some (.type "super"))(K:AW prog w Sta C N mN){f:Addr}(D:Df Sta f fd)(U:Sup prog Sta C fd)
  (hbody:fd.body= .stmts [.Return (some (.Call (.Attribute (.Call (.Name "super" p0) [] [] p1) "__len__" p2) [] [] p3)) p4]) (hl:(p2.endLine==p3.line)=true) (hbind:∀x:Value,bindArgs fd ⟨[x],[]⟩=pure [(ofString "self",x)])
  (A:Around) (E:Value->Shared->Prop) (s:Shared) (hb:Heap) (ps:List (Str × Str)) (hA:A.depth<980) (B:Bs Sta Z [c,dc] hb s.heap) (X:Acc C s.heap c dc ps):
  wpAny (model prog w) A (call (.ref f) [.ref c]) (fun v s'=>(∃ t,v= .int ps.length t)/\KW [] Z s s'/\Acc C s'.heap c dc ps) E s:=by
 refine wpAny_call (pT S K D U.slf [] (fun _ h=>nomatch h) hbody (.of_eq (hbind _)) (aQa U.slf) rfl (Nat.lt_trans hA (by decide)) B X (T:=fun X=>Sup X.prog X.Sta X.C X.fd/\∀h,X.Sta h->h.Ns mainGlobals mg/\h.Ns builtinsNs mb) (fun _ _ _=>⟨U,G⟩) fun X s'0 bd K' E' _ T O J _ hq=> ?_);refine ks_wpAt_execs_cons (ks_wpAt_Return_some (AX.sup O J T.2 hg hmb T.1 aBc (.inr rfl) rfl hl fun h' tk b J1 _ hb'=> ?_));obtain ⟨vs,hl1,hps⟩:=J1.ac.seq;exact aEj hb' hl1 (hq _ _ _ _ (AX.At.tok (s:={s'0 with heap:=h',toks:=tk}) J1) fun w x _=>⟨⟨_,by rw [show vs.size=ps.length from hps.1]⟩,w,x⟩).1
structure Mth (Sta:Heap->Prop)(mN:Str->Option Value)(name:Str)(f:Addr):Prop where
 at':mN name=some (.ref f)
 fn:∃o fd,o.cls= .type "function"/\o.data= .func fd/\∀h,Sta h->h.get? f=some o
 lk:∃y,typeLookup (.type "list") name=pure y
 ni:name≠"_initial_size"
theorem aL0 (K:AW prog w Sta C N mN){name:Str}{f:Addr}(F:Mth Sta mN name f)(hb:bY o=true)(hline:(ap.endLine==pos.line)=true)(hstar:(backTo pos (starEach args env)).any (·.1)=false)(hlen:args.length<30)
  (h:wpAny (model prog w) A (eval o env) (fun ov s'1=>ov= .ref c/\Sta s'1.heap/\(∃ t,s'1.heap.Inst c C (fun n=>if n="_initial_size" then some (.int 0 t) else none))/\
   wpAny (model prog w) A (spliced (backTo pos (starEach args env))) (fun vs s'2=>Sta s'2.heap/\wpAny (model prog w) A (call (.ref f) (.ref c::vs)) Q E s'2) E s'1) E s):
  wpAny (model prog w) A (eval (.Call (.Attribute o name ap) args [] pos) env) Q E s:=by
 refine bM hb hline hstar hlen (wpAny_mono h (fun ov s'1 h'1 pl=> ?_) fun _ _ e=>e);obtain ⟨rfl,hS,⟨t,I⟩,h'1⟩:=h'1;obtain ⟨cr,hC⟩:=(K.cls _ hS).obj;have hns:=(K.cls _ hS).ns;obtain ⟨of,fd,hfc,hfd,hfo⟩:=F.fn;obtain ⟨y,hy⟩:=F.lk;refine vZ hC hns K.ga K.gt F.at' (hfo _ hS) hfc hy I (if_neg F.ni) ?_;refine callWith_function (o:=of) (fd:=fd) (aK hstar (wpAny_mono h'1 (fun vs s'2 h'2=> ?_) fun _ _ e=>e));exact ⟨⟨hfo _ h'2.1,hfd⟩,h'2.2⟩
def rD (prog:Program)(w:World)(Sta:Heap->Prop)(Z:List (Addr × Addr))(C f:Addr):Prop:=
 ∀(c dc:Addr)(A:Around)(E:Value->Shared->Prop)(s:Shared)(hb:Heap)(ps:List (Str × Str)),A.depth<980->Bs Sta Z [c,dc] hb s.heap->Acc C s.heap c dc ps->
  wpAny (model prog w) A (call (.ref f) [.ref c]) (fun v s'=>(∃ t,v= .int ps.length t)/\KW [] Z s s'/\Acc C s'.heap c dc ps) E s
theorem aEp {α:Type}{l:List α}(h:l.length=n+1):∃k a,l=k++[a]:=by
 have hne:l≠[]:=fun q=>by rw [q] at h;cases h
 exact ⟨l.dropLast,l.getLast hne,(List.dropLast_concat_getLast hne).symm⟩
theorem cA.unsnoc {vs:List Value}{v:Value}{a b:Str}(x:cA h (vs++[v]) (ps++[(a,b)])):cA h vs ps/\∃T t u,v= .ref T/\h.IsTuple T #[.str a t,.str b u]:=by
 have hl:vs.length=ps.length:=by simpa using x.1
 refine ⟨⟨hl,fun i y p h1 h2=>x.2 i y p ?_ ?_⟩,x.2 vs.length v (a,b) ?_ ?_⟩
 ·obtain ⟨hi,_⟩:=List.getElem?_eq_some_iff.mp h1;rw [List.getElem?_append_left hi]; exact h1
 ·obtain ⟨hi,_⟩:=List.getElem?_eq_some_iff.mp h2;rw [List.getElem?_append_left hi]; exact h2
 ·simp
 ·rw [hl]; simp
theorem cA.unpush {vs:Array Value}{a b:Str}(x:cA h vs.toList (ps++[(a,b)])):∃(vl:Array Value) (v:Value),vs=vl.push v/\cA h vl.toList ps/\∃T t u,v= .ref T/\h.IsTuple T #[.str a t,.str b u]:=by
 obtain ⟨vl,v,hvl⟩:=aEp (x.1.trans (List.length_append ..));rw [hvl] at x;exact ⟨vl.toArray,v,Array.ext' (by rw [hvl,Array.toList_push]),x.unsnoc⟩
theorem aL3 (S:SZ Sta Z)(G:∀h,Sta h->h.Ns mainGlobals mg/\h.Ns builtinsNs mb)(hg:mg "super"=none)(hmb:mb "super"=some (.type "super"))(K:AW prog w Sta C N mN){f fc:Addr}(D:Df Sta f fd)(U:Sup prog Sta C fd)
  (F:Mth Sta mN "part_count" fc) (hc:rD prog w Sta Z C fc) {k0:Nat} {rb:List Stmt}
  (hbody:fd.body= .stmts [.If (.Compare (.Call (.Attribute (.Name "self" p0) "part_count" p1) [] [] p2) [.Eq] [.Constant (.int 0) k0 p3] p4) rb [] p5,
   .Return (some (.Call (.Attribute (.Call (.Name "super" q0) [] [] q1) "pop" q2) [] [] q3)) q4]) (hl:(p1.endLine==p2.line)=true) (hl2:(q2.endLine==q3.line)=true) (hbind:∀x:Value,bindArgs fd ⟨[x],[]⟩=pure [(ofString "self",x)])
  (A:Around) (E:Value->Shared->Prop) (s:Shared) (hb:Heap) (a b:Str) (ps:List (Str × Str)) (hA:A.depth<970) (B:Bs Sta Z [c,dc] hb s.heap) (X:Acc C s.heap c dc (ps++[(a,b)])) (hn:ps.length<=900):
  wpAny (model prog w) A (call (.ref f) [.ref c]) (fun v s'=>(∃ T t u,v= .ref T/\s'.heap.IsTuple T #[.str a t,.str b u])/\KW [c,dc] Z s s'/\Acc C s'.heap c dc ps) E s:=by
 refine wpAny_call (pT S K D U.slf [c,dc] (fun _ h=>h) hbody (.of_eq (hbind _)) (aQa U.slf) rfl (Nat.lt_trans hA (by decide)) B X (T:=fun X=>(Sup X.prog X.Sta X.C X.fd/\∀h,X.Sta h->h.Ns mainGlobals mg/\h.Ns builtinsNs mb)/\X.A.depth<980/\Mth X.Sta X.mN "part_count" fc/\rD X.prog X.w X.Sta X.Z X.C fc/\X.c∈X.W) (fun _ _ i=>⟨⟨U,G⟩,by rw [i.depth]; exact Nat.succ_lt_succ (Nat.lt_trans hA (by decide)),F,hc,.head _⟩) fun X s'0 bd K' E' _ T O J _ hq=> ?_);refine aO6 fun R n _=>wpAt_of_wpAny (wpAny_If (wpAny_isTrue_Compare1 (aL0 (c:=X.c) O.K T.2.2.1 rfl hl rfl (Nat.le_of_ble_eq_true rfl) (AX.me O J ⟨rfl,J.st O,J.ac.inst,wpAny_items_nil ⟨J.st O,wpAny_mono (T.2.2.2.1 X.c X.dc _ _ _ X.hb _ T.2.1 (J.B O) J.ac) (fun v s'1 h'1=> ?_) fun _ _ e=>e⟩⟩)) (by rfl)))
 obtain ⟨⟨t,e⟩,w1,X1⟩:=h'1;rw [e];have J1:AX.At X s'1 _ (ps++[(a,b)]):=⟨Ns.kw J.ns w1 (fun h=>nomatch h) O.LZ,X1,J.w.trans w1.wk,J.me⟩;refine wpAny_Constant_int (eq_int ?_);rw [show (((ps++[(a,b)]).length:Int)==0)=false from by rw [beq_eq_false_iff_ne,List.length_append]; exact Int.ofNat_ne_zero.mpr (Nat.succ_ne_zero _)];refine wpAny_truthy_bool (wpAny_execs_nil (n _ ?_));refine aO6 fun R1 _ r1=>ks_wpAt_Return_some (AX.sup O (AX.At.tok (s:=s'1) J1) T.1.2 hg hmb T.1.1 aBb (.inl rfl) rfl hl2 fun h' tk bd J2 k2 hb'=> ?_)
 obtain ⟨vs,hl0,hps⟩:=J2.ac.seq;obtain ⟨vl,v,hvs,hps1,T',t',u',e',hT⟩:=hps.unpush;have hlen:vl.size=ps.length:=hps1.1;rw [hvs] at hl0;refine aEk (O.K.cls _ (J2.st O)) hb' hl0 (hlen▸Nat.le_trans hn (by decide)) fun h'' hl'' hs''=>r1 _ _ (hq _ _ ps _ (AX.At.chg (s:={s'1 with heap:=h',toks:=tk}) J2 O T.2.2.2.2 hl'' hs'' hps1.keeps) fun w x _=>⟨⟨T',t',u',e',?_⟩,w,x⟩).1
 obtain ⟨o,e,hc,r⟩:=hT;refine ⟨o,hs''.extBut T' o (fun q=> ?_) e,hc,r⟩;obtain ⟨m,el⟩:=hl0;rw [q,el] at e;(replace e:=Option.some.inj e;subst e); exact nomatch hc
def ZU (Z:List (Addr × Addr)):Prop:=∀z∈Z,∀z'∈Z,z.2=z'.2->z=z'
theorem aIk {c' P':Addr}{ps ps':Array Value}(t:h.TableAt c P ps)(t':h.TableAt c' P' ps'):c≠P':=fun e=>by
 obtain ⟨⟨o,vs,h1,h2,_⟩,_⟩:=t;rw [e,t'.2] at h1
 (replace h1:=Option.some.inj h1;subst h1); exact nomatch h2
theorem KW.table {tk:Nat}{ps more:Array Value}(hu:ZU Z)(hz:(c,P)∈Z)(hx:Heap.ExtBut P s.heap h')(h0:s.heap.TableAt c P ps)(h1:h'.IsCode c P (ps++more))(h2:h'.TableAt c P (ps++more)):
  KW W Z s {s with heap:=h',toks:=tk} where
 keep:=fun b o _ hb e=>hx b o (fun q=>hb (List.mem_map.mpr ⟨_,hz,q.symm⟩)) e
 tab:=fun y hy qs hq=>by
  by_cases e:y.2=P
  ·obtain rfl:=hu y hy _ hz e;obtain rfl:qs=ps:=Data.fields.inj (congrArg Obj.data (Option.some.inj (hq.2.2.symm.trans h0.2)));exact ⟨more,h1,h2⟩
  ·exact ⟨#[],Array.append_empty.symm▸hq.at fun b o q e'=>hx b o (q.elim (fun q=>q▸aIk hq.2 h0) fun q=>q▸e) e'⟩
 bare:=fun h=>h
 drawn:=rfl
 os:=rfl
theorem aIl {qualname:Str}{scope:Scope}(hu:ZU Z)(hz:(c,P)∈Z)(z:Zok Z W s.heap)(hc:env.code= .ref c)
  (h:∀code h' tk,KW W Z s {s with heap:=h',toks:=tk}->s.heap.objs.size<=h'.objs.size->Q code {s with heap:=h',toks:=tk}):wpAny (model prog w) A (genexprCode env pos qualname scope) Q E s:=by
 obtain ⟨ps,h1,h2⟩:=z.at' _ hz
 rcases hf:codeAmong pos ps.toList with _ | c'
 ·exact wpAny_genexprCodeX hc h1 h2 hf fun c' h' tk hx hge hlt hi _ ht _=>h _ h' tk (KW.table hu hz hx h2 hi ht) (Nat.le_trans hge (Nat.le_of_lt hlt))
 ·exact wpAny_genexprCode_hit hc h1 hf (h c' s.heap s.toks (KW.refl s) (Nat.le_refl _))
theorem KW.moved {wr:List Addr}{g:Nat}(k:KW W Z s'0 s)(m:Moved wr (GenOnlyQ g) s s')(hw:∀b∈wr,s'0.heap.get? b=none):KW W Z s'0 s' where
 keep:=fun b o h1 h2 e=>m.heap b o (fun q=>no1 ((hw b q).symm.trans e)) (k.keep b o h1 h2 e)
 tab:=fun y hy ps h=>(k.tab y hy ps h).imp fun _ h1=>h1.at fun b o q e=>m.heap b o (fun z=>(h.ex b q).elim fun _ e=>no1 ((hw b z).symm.trans e)) e
 bare:=fun h=>(k.bare h).movedS m
 drawn:=m.drawn.trans k.drawn
 os:=m.os.trans k.os
theorem nP (n:Nat):passing (fun _=>true) n 0=List.range n:=by
 unfold passing;rw [List.drop_zero,List.filter_eq_self];simp
theorem cA.pick {vs:Array Value}(x:cA h vs.toList ps):∃(Ts:Nat->Addr) (vals:Nat->Array Value), ∀j,j<vs.size->vs[j]? =some (.ref (Ts j))/\h.IsTuple (Ts j) (vals j)/\∃p t u,ps[j]? =some p/\vals j= #[.str p.1 t,.str p.2 u]:=by
 have pick:∀j,∃(q:Addr × Array Value),j<vs.size->vs[j]? =some (.ref q.1)/\h.IsTuple q.1 q.2/\∃p t u,ps[j]? =some p/\q.2= #[.str p.1 t,.str p.2 u]:=fun j=>by
  by_cases hj:j<vs.size
  ·have hp:j<ps.length:=x.1▸hj;obtain ⟨T,t,u,e,ht⟩:=x.2 j vs[j] ps[j] (by rw [Array.getElem?_toList]; exact Array.getElem?_eq_getElem hj) (List.getElem?_eq_getElem hp);exact ⟨(T, #[.str ps[j].1 t,.str ps[j].2 u]),fun _=>⟨by rw [Array.getElem?_eq_getElem hj,e],ht,ps[j],t,u,List.getElem?_eq_getElem hp,rfl⟩⟩
  ·exact ⟨(0, #[]),fun h=>absurd h hj⟩
 exact ⟨fun j=>(pick j).choose.1,fun j=>(pick j).choose.2,fun j hj=>(pick j).choose_spec hj⟩
theorem aBk (h:(passing (fun _=>true) n 0)[j]? =some i):i=j:=by
 rw [nP] at h;obtain ⟨hj,e⟩:=List.getElem?_eq_some_iff.mp h;exact e.symm.trans (List.getElem_range ..)
theorem aIm {a b x:Value}(e: #[a,b]= #[x,y]):a=x/\b=y:=by
 injection e with e
 injection e with e1 e
 injection e with e2
 exact ⟨e1,e2⟩
theorem aQ7 {h'3:Heap}{I:Addr}{vs:Array Value}{Ts:Nat->Addr}{vals:Nat->Array Value}{P:Nat->Prop}{Q:Nat->Prop}(hI:h'3.IsListIter I c 0)(hl:gZ h C c dc vs)(hT:∀j,j<vs.size->P j/\h.IsTuple (Ts j) (vals j)/\Q j)(lt:∀b o,h.get? b=some o->b<h'3.objs.size):
  ∀b∈I::c::(List.range vs.size).map Ts,b<h'3.objs.size:=fun b hb=>by
 rcases List.mem_cons.mp hb with e | hb
 ·obtain ⟨o,e',_⟩:=hI;exact e▸Heap.lt_size e'
 ·rcases List.mem_cons.mp hb with e | hb
  ·obtain ⟨n,e'⟩:=hl;exact e▸lt _ _ e'
  ·obtain ⟨j,hj,e⟩:=List.mem_map.mp hb;obtain ⟨o,e',_⟩:=(hT j (List.mem_range.mp hj)).2.1;exact e▸lt _ _ e'
theorem aQ8 {scope:Scope}{cl:List (Str × Addr)}{bi:Addr}{code:Value}{xa xb:Str}{ifs:List Expr}{elt:Expr}{s4:Shared}{I:Addr}{fp wr:List Addr}{n'0:Nat}{Pt:Nat->Array Value->Prop}{St0:Nat->Heap->Prop}{Mid:Nat->Addr->Heap->Prop}{pz:Nat->Bool}{F:Nat->Value->Prop}
  (h1:∀A':Around,A'.handled=none->WalksU prog w A' I fp wr n'0 Pt St0 Mid) (h2:∀i vals,Pt i vals->∃va vb,vals= #[va,vb]) (h3:St0 0 s4.heap) (h4:∀b∈fp,b<s4.heap.objs.size) (h5:s4.heap.NoLimit) (h6:cStatics∉wr)
  (h7:∀href:Heap,(∀ b o,s4.heap.get? b=some o->href.get? b=some o)->QuietGenT prog w (genEnv scope cl s4.heap.objs.size code bi env) xa xb ifs elt (List.range s4.heap.objs.size) wr Pt pz F href)
  (h8:∀a h'5 tk gs,gs.bare=true->s4.heap.objs.size<a->h'5.objs.size=a+1->(∀ b o,s4.heap.get? b=some o->h'5.get? b=some o)->
   WalksS prog w A.in4 a (a::s4.heap.objs.size::List.range s4.heap.objs.size) (s4.heap.objs.size::wr) (GenOnlyQ s4.gens.size) (passing pz n'0 0).length (fun j y=>∃i,(passing pz n'0 0)[j]? =some i/\F i y) (GenAt prog w A.in4 a s4.gens.size s4.heap.objs.size (List.range s4.heap.objs.size) wr pz n'0 F)->
   GenAt prog w A.in4 a s4.gens.size s4.heap.objs.size (List.range s4.heap.objs.size) wr pz n'0 F 0 {s4 with gens:=s4.gens.push gs,toks:=tk,heap:=h'5}->Q (.ref a) {s4 with gens:=s4.gens.push gs,toks:=tk,heap:=h'5}):
  ∃I' fp wr n'0 Pt St0 Mid pz F,(Value.ref I)= .ref I'/\(∀ A':Around,A'.handled=none->WalksU prog w A' I' fp wr n'0 Pt St0 Mid)/\(∀ i vals,Pt i vals->∃va vb,vals= #[va,vb])/\St0 0 s4.heap/\(∀ b∈fp,b<s4.heap.objs.size)/\s4.heap.NoLimit/\cStatics∉wr/\
   (∀ href:Heap,(∀ b o,s4.heap.get? b=some o->href.get? b=some o)->QuietGenT prog w (genEnv scope cl s4.heap.objs.size code bi env) xa xb ifs elt (List.range s4.heap.objs.size) wr Pt pz F href)/\
   (∀ a h'5 tk gs,gs.bare=true->s4.heap.objs.size<a->h'5.objs.size=a+1->(∀ b o,s4.heap.get? b=some o->h'5.get? b=some o)->
    WalksS prog w A.in4 a (a::s4.heap.objs.size::List.range s4.heap.objs.size) (s4.heap.objs.size::wr) (GenOnlyQ s4.gens.size) (passing pz n'0 0).length (fun j y=>∃i,(passing pz n'0 0)[j]? =some i/\F i y) (GenAt prog w A.in4 a s4.gens.size s4.heap.objs.size (List.range s4.heap.objs.size) wr pz n'0 F)->
    GenAt prog w A.in4 a s4.gens.size s4.heap.objs.size (List.range s4.heap.objs.size) wr pz n'0 F 0 {s4 with gens:=s4.gens.push gs,toks:=tk,heap:=h'5}->Q (.ref a) {s4 with gens:=s4.gens.push gs,toks:=tk,heap:=h'5}):=
 ⟨I,fp,wr,n'0,Pt,St0,Mid,pz,F,rfl,h1,h2,h3,h4,h5,h6,h7,h8⟩
theorem aIn {vs:Array Value}(K:AW prog w Sta C N mN)(hS:Sta s.heap)(hl:gZ s.heap C c dc vs)
  (hQ:∀I h',I=s.heap.objs.size->s.heap.get? I=none->c≠I->(∀ b o,s.heap.get? b=some o->h'.get? b=some o/\b<h'.objs.size)->(∃ o,h'.get? I=some o/\o.cls= .type "list_iterator"/\o.data= .fields #[.ref c,.int 0 0])->Q (.ref I) {s with heap:=h'}):wpAny (model prog w) A (pyIter (.ref c)) Q E s:=
 aO5 (K.cls _ hS) K.it hl (hQ _ _ rfl (bG _) (fun q=>by obtain ⟨n,e⟩:=hl;rw [q,bG] at e;exact no1 e) (fun _ _ e=>⟨Heap.get?_push_of_some _ e,Heap.lt_size (Heap.get?_push_of_some _ e)⟩) ⟨_,Heap.get?_push_size _ rfl,rfl,rfl⟩)
theorem tO (S:SZ Sta Z)(hu:ZU Z)(K:AW prog w Sta C N mN)(BM:∀h,Sta h->∃bm ob,BMod h mainGlobals mg bm ob)(nl:∀h,Sta h->h.NoLimit)
     {m:Str->Option Value} {elt:Expr} {gsc:Scope} {xa xb slf:Str} {pa pb pt ps':Pos} {kt:Nat} {G:Str->Str->Value->Prop}
  (hh:A.handled=none) (hA:A.depth<980) (B:Bs Sta Z [c,dc] hb s.heap) (X:Acc C s.heap c dc ps)
  (hcode:env.code= .ref cc) (hz:(cc,P)∈Z) (hglob:env.globals=mainGlobals) (hkf:env.scope.kind= .function) (hks:env.kindOf slf=some .local) (hns:s.heap.Ns env.locals m) (hm:m slf=some (.ref c)) (hd:(slf==("__debug__":Str))=false)
  (hco:gsc.isCoroutine=false) (hclos:closureFor gsc env=pure []) (hcell:∀y∈gsc.names,y.2≠ .cell) (h0:gsc.names.lookup (".0":Str)=some NameKind.local)
  (hxa:gsc.names.lookup xa=some .local) (hxb:gsc.names.lookup xb=some .local) (hab:xa≠xb) (hkind:gsc.kind= .function)
  (helt:∀(D:Addr)(code:Value)(A':Around)(E':Value->Shared->Prop)(a b:Str)(t u:Tok)(s'2:Shared)(m'2:Str->Option Value),(a,b)∈ps->A'.handled=none->Sta s'2.heap->s'2.heap.Ns D m'2->m'2 xa=some (.str a t)->m'2 xb=some (.str b u)->
   wpAny (model prog w) A' (eval elt (genEnv gsc [] D code builtinsNs env)) (fun y s'3=>G a b y/\Keeps s'2 s'3) E' s'2)
  (hQ:∀(a:Addr)(s5:Shared)(fp wr:List Addr)(g:Nat)(F:Nat->Value->Prop)(St:Nat->Shared->Prop),KW [] Z s s5->Acc C s5.heap c dc ps->WalksS prog w A.in4 a fp wr (GenOnlyQ g) ps.length F St->St 0 s5->(∀ b∈fp,b<s5.heap.objs.size)->a∈fp->(∀ b∈wr,s.heap.get? b=none)->
   (∀ j y,F j y->∃p,ps[j]? =some p/\G p.1 p.2 y)->(∀ i s',St i s'->s'.TypeIs (.ref a) "generator")->Q (.ref a) s5):
  wpAny (model prog w) A (eval (.GeneratorExp elt [⟨.Tuple [.Name xa pa,.Name xb pb] kt pt,.Name slf ps',[],0⟩] gsc pos) env) Q E s:=by
 obtain ⟨vs,hl0,hps⟩:=X.seq;have hsz:vs.size=ps.length:=hps.1;obtain ⟨Ts,vals,hTs⟩:=hps.pick;have z0:Zok Z [] s.heap:=⟨B.z.at',fun _ _ _ h=>nomatch h⟩;refine wpAny_GeneratorExp_walksQT hh hco hclos hcell h0 hxa hxb hab hkind (Nat.lt_trans hA (by decide)) (opq fun R0 n0=>nm hkf hks hns hm hd (n0 _ _ (opq fun R1 n1=>aIn K (B.st S) hl0 fun I h'1 hIe hI0 hne k01 hI1=>n1 _ _ ?_))) (fun _=>rfl);have k1:KW [] Z s {s with heap:=h'1}:=KW.of_keep (tk:=s.toks) fun b o e=>(k01 b o e).1
 refine ⟨nl _ ((B.of k1.wk).st S),opq fun R2 n2=>aIl (W:=[]) (s:={s with heap:=h'1}) hu hz (z0.of k1) hcode fun code h'3 tk3 k3 hge=>n2 _ _ (opq fun R3 n3=> ?_)⟩
 clear n0 n1 n2
 have k13:=k1.trans k3;have B3:=B.of (k13.wk (W:=[c,dc]));obtain ⟨bm,ob,hbm⟩:=BM _ (B3.st S);refine wpAny_builtinsFor (hglob▸hbm.ns) hbm.name hbm.ne hbm.obj hbm.cls hbm.dict hbm.data (n3 _ _ ?_)
 clear n3
 have hIZ:I∉Z.map (·.2):=hIe▸B.z.fresh;have hcZ:c∉Z.map (·.2):=fun q=>by obtain ⟨y,hy,e⟩:=List.mem_map.mp q;exact (B.z.apart y hy c (.head _)).2 e.symm
 have hlt3:∀b o,s.heap.get? b=some o->b<h'3.objs.size:=fun b o e=>Nat.lt_of_lt_of_le (k01 b o e).2 hge
 have hIt:h'3.IsListIter I c 0:=hI1.imp fun o h=>⟨k3.keep I _ (fun h=>nomatch h) hIZ h.1,h.2⟩
 have hcs:cStatics∉[I]:=fun q=>by
  obtain ⟨mc,⟨o,es,ep,ho,_⟩,_⟩:=nl _ (B.st S);rw [List.mem_singleton.mp q,hI0] at ho;exact no1 ho
 refine aQ8 (I:=I) (fp:=I::c::(List.range vs.size).map Ts) (wr:=[I]) (pz:=fun _=>true) (F:=fun i y=>∃p,ps[i]? =some p/\G p.1 p.2 y) (fun A' hA'=>aBj (C:=C) (dc:=dc) (vs:=vs) hA' I hne Ts vals (fun j hj=>(hTs j hj).1) fun j hj q=> ?_) (fun i vals' h=> ?_)
  ⟨hIt,hl0.at fun o e=>k13.keep c o (fun h=>nomatch h) hcZ e,fun k hk=>k13.tup (fun _ h=>nomatch h) z0 (hTs k hk).2.1⟩ (aQ7 hIt hl0 hTs hlt3) (nl _ (B3.st S)) hcs (fun href hhref=>⟨fun A' E' i va vb s'2 m'2 _ _ _ _ _ _=>wpAny_pure ⟨rfl,eU.refl s'2⟩,fun A' E' i va vb s'2 m'2 hA' hPt _ hn'2 hma hmb' hk2=> ?_⟩) fun a h'5 tk gs hgb hag hsz5 hk'5 W hat=> ?_
 ·obtain ⟨o,e,_⟩:=(hTs j hj).2.1;rw [q,hI0] at e;exact no1 e
 ·obtain ⟨p,t,u,_,e⟩:=(hTs i h.1).2.2;exact ⟨_,_,h.2.trans e⟩
 ·obtain ⟨p,t,u,hp,e'⟩:=(hTs i hPt.1).2.2;obtain ⟨e1,e2⟩:=aIm (hPt.2.trans e');refine wpAny_mono (helt _ _ A' E' p.1 p.2 t u s'2 m'2 (List.mem_of_getElem? hp) hA' (S _ _ (fun b o hb e=> ?_) (B.st S)) hn'2 (hma.trans (congrArg some e1)) (hmb'.trans (congrArg some e2))) (fun y s'3 h=>⟨⟨p,hp,h.1⟩,h.2⟩) fun _ _ e=>e
  exact hk2 b (List.mem_range.mpr (hlt3 _ _ e)) (fun q=>by rw [List.mem_singleton.mp q,hI0] at e;exact no1 e) o (hhref _ _ (k13.keep b o (fun h=>nomatch h) hb e))
 ·have k4:KW [] Z s {s with heap:=h'5,toks:=tk}:=k13.trans (KW.of_keep (s:={s with heap:=h'3,toks:=tk3}) hk'5);have k5:KW [] Z s {s with heap:=h'5,toks:=tk,gens:=s.gens.push gs}:={k4 with bare:=fun h=>h.push hgb};have hlen:(passing (fun _=>true) vs.size 0).length=ps.length:=by rw [nP,List.length_range,hsz]
  rw [hlen] at W;refine hQ a _ _ _ _ _ _ k5 (X.kw B.z k5) W hat (fun b hb=>hsz5▸ ?_) (.head _) (fun b hb=> ?_) (fun j y ⟨i,hi,h⟩=>aBk hi▸h) fun i s' st=>st.1.typeIs
  ·rcases List.mem_cons.mp hb with e | hb
   ·exact e▸Nat.lt_succ_self _
   ·rcases List.mem_cons.mp hb with e | hb
    ·exact e▸Nat.lt_succ_of_lt hag
    ·exact Nat.lt_succ_of_lt (Nat.lt_trans (List.mem_range.mp hb) hag)
  ·rcases List.mem_cons.mp hb with e | hb
   ·rcases e':s.heap.get? b with _ | o
    ·rfl
    ·exact absurd (hlt3 _ _ e') (e▸Nat.lt_irrefl _)
   ·rw [List.mem_singleton.mp hb]; exact hI0
theorem tP (a b:Value):argsOk "sum" ⟨[a,b],[]⟩:=by unfold argsOk;kernel_rfl
theorem aEq {x:Value}{tt:Tok}
  (h:wpAny (model prog w) A.in1 (pyIter x) (fun it s'2=>∃I fp wr G n P St val,it= .ref I/\WalksS prog w A.in1 I fp wr G n P St/\St 0 s'2/\(∀ b∈fp,b<s'2.heap.objs.size)/\
   (∀ i v,P i v->∃t,v= .int (val i) t)/\(∀ j,j<n->InLong (val j)/\InLong (preSum val (j+1)))/\
   ∀s' t',Moved wr G s'2 s'->Q (.int (preSum val n) t') s') E s):
  wpAny (model prog w) A (call (.builtin "sum") [x,.int 0 tt]) Q E s:=by
 refine call_function_tree F.kind_sum F.plain_sum F.entry_sum (tP _ _) ?_;unfold Builtin.«sum»;refine bX (show ¬(1+1+0>2) by decide) ?_;refine wpAny_bind (wpAny_of_eq (show Builtin.Builtins.bindParams "sum" ["start"] 0 ⟨[.int 0 tt],[]⟩=pure [some (.int 0 tt)] from rfl) ?_);refine wpAny_bind (wpAny_mono h (fun it s'2 h'2=> ?_) fun _ _ e=>e);obtain ⟨I,fp,wr,G,n,P,St,val,rfl,W,hst,hfp,hval,hfit,hQ⟩:=h'2;refine iV (by decide) ?_;refine wpAny_bind (wpAny_rule (wpAny_bind (wpAny_mkInt ?_)));refine wpAny_bind (wpAny_pure ?_);dsimp only;simp-iota only [List.forIn_cons,List.forIn_nil];refine wpAny_bind (wpAny_bind (wpAny_bind (wpAny_isInstance (T:="int") (b:=false) (typeIs_int _ _ _) _root_.PySem.sub_int_str ?_)));refine vB ?_;refine wpAny_pure (wpAny_bind (wpAny_bind (wpAny_isInstance (T:="int") (b:=false) (typeIs_int _ _ _) _root_.PySem.sub_int_bytes ?_)));refine vB ?_;refine wpAny_pure (wpAny_bind (wpAny_bind (wpAny_isInstance (T:="int") (b:=false) (typeIs_int _ _ _) _root_.PySem.sub_int_bytearray ?_)));refine vB ?_;refine wpAny_pure (wpAny_pure ?_);refine wpAny_bind (wpAny_newObj_type ?_);have hSf:s'2.heap.objs.size∉fp:=fun hm=>Nat.lt_irrefl _ (hfp _ hm)
 refine wpAny_pure ⟨plainId_quiet F.plain_sum_loop _,codeAny_sum_loopS W val hval hfit s'2.heap.objs.size hSf n 0 _ s'2.toks 0 rfl (Nat.zero_le _)
  (W.frame 0 s'2 _ _ hst (by first | exact Nat.le_refl _ | exact Nat.le_succ _ | lia) fun b _ o e=>Heap.get?_push_of_some _ e) (Heap.get?_push_size _ rfl) fun s' t' hm=> ?_⟩
 exact hQ s' t' (hm.drop_new (by first | exact Nat.le_refl _ | exact Nat.le_succ _ | lia))
noncomputable def eQ (ps:List (Str × Str)):Int:=(ps.map fun p=>((p.1.length:Int)+p.2.length)).sum
noncomputable def aO7 (ps:List (Str × Str))(j:Nat):Int:=match ps[j]? with
 | some p=>(p.1.length:Int)+p.2.length
 | none=>0
theorem wF {p:Str × Str}(h:ps[j]? =some p):aO7 ps j=(p.1.length:Int)+p.2.length:=by unfold aO7;rw [h]
theorem gI (ps:List (Str × Str)):∀n,n<=ps.length->preSum (aO7 ps) n=eQ (ps.take n)
 | 0,_=>by simp [preSum,eQ]
 | n+1,h=>by
  rw [preSum,gI ps n (by exact Nat.le_of_lt h),List.take_add_one];have:ps[n]? =some ps[n]:=List.getElem?_eq_getElem (by exact h);rw [this,wF this];unfold eQ;rw [List.map_append,List.sum_append];simp
theorem hH:∀(ps:List (Str × Str))(M:Nat),(∀ p∈ps,p.1.length+p.2.length<=M)->0<=eQ ps/\eQ ps<=ps.length*M
 | [],M,_=>by simp [eQ]
 | p::ps,M,h=>by
  have h1:=h p List.mem_cons_self;have h2:=hH ps M fun q hq=>h q (List.mem_cons_of_mem _ hq)
  have e:eQ (p::ps)=((p.1.length:Int)+p.2.length)+eQ ps:=by simp [eQ]
  rw [e,List.length_cons];have:(((ps.length+1:Nat):Int)*(M:Int))=(ps.length:Int)*M+M:=by
   rw [Int.natCast_add,Int.add_mul]; simp
  rw [this]
  lia
def dM (ps:List (Str × Str)):Prop:=ps.length<=900/\∀p∈ps,p.1.length+p.2.length<=1000
structure FW (prog:Program)(w:World)(Sta:Heap->Prop)(Z:List (Addr × Addr))(mg mb:Str->Option Value):Prop where
 sz:SZ Sta Z
 zu:ZU Z
 ns:∀h,Sta h->h.Ns mainGlobals mg/\h.Ns builtinsNs mb
 bm:∀h,Sta h->∃bm ob,BMod h mainGlobals mg bm ob
 nl:∀h,Sta h->h.NoLimit
 sup:mg "super"=none/\mb "super"=some (.type "super")
 len:mg "len"=none/\mb "len"=some (.builtin "len")
 sum:mg "sum"=none/\mb "sum"=some (.builtin "sum")
 str:mg "str"=none/\mb "str"=some (.type "str")
 rng:mg "range"=none/\mb "range"=some (.type "range")
theorem dN {f:Str}(hkf:env.scope.kind= .function)(hf:env.kindOf f=some .globalImplicit)(hd:(f==("__debug__":Str))=false)
  (hg:s.heap.Ns env.globals mg) (hb:s.heap.Ns env.builtins mb) (h1:mg f=none) (h2:mb f=some (.builtin id)) (hstar:(backTo q (starEach args env)).any (·.1)=false)
  (h:wpAny (model prog w) A (spliced (backTo q (starEach args env))) (fun vs s'=>wpAny (model prog w) A (call (.builtin id) vs) Q E s') E s):
  wpAny (model prog w) A (eval (.Call (.Name f p) args [] q) env) Q E s:=by
 show wpAny _ A (eval (.Name f p) env >>= fun g=>callWith q g [] (backTo q (starEach args env)) []) _ _ s;refine wpAny_bind (Name_function_global hkf hf (loadGlobal_builtin (env:=env) hg h1 hb h2 ?_) hd);exact callWith_builtin hstar (aK hstar h)
theorem len_str (hx:x.length<=2^20)(h:∀h' tk,(∀ b o,s.heap.get? b=some o->h'.get? b=some o)->∀u,Q (.int x.length u) {s with heap:=h',toks:=tk}):
  wpAny (model prog w) A (call (.builtin "len") [.str x t]) Q E s:=by
 refine wpAny_mono (sK (M:=[]) (vs:=[.str x]) (v:= .int x.length) (by unfold aP4;exact if_pos hx) (.cons (.str _ _) .nil)) (fun v s' h'=> ?_) fun _ _ e=>e
 obtain ⟨h1,h',tk,rfl,hk⟩:=h';obtain ⟨u,rfl⟩:=h1.int_inv;exact h _ _ hk u
theorem rE (K:AW prog w Sta C N mN)(hb:bY o=true)
  (h:wpAny (model prog w) A (eval o env) (fun ov s'1=>ov= .ref c/\Sta s'1.heap/\Acc C s'1.heap c dc ps/\∀t,Q (.int 0 t) {s'1 with toks:=s'1.toks+1}) E s):
  wpAny (model prog w) A (eval (.Attribute o "_initial_size" p) env) Q E s:=by
 rw [arm_eval_Attribute,iO hb];refine wpAny_bind (wpAny_mono h (fun ov s'1 h'1=> ?_) fun _ _ e=>e);obtain ⟨rfl,hS,X,hQ⟩:=h'1;obtain ⟨t,I⟩:=X.inst;obtain ⟨cr,hC⟩:=(K.cls _ hS).obj;have hns:=(K.cls _ hS).ns;refine wpAny_bind (wpAny_standAt (wpAny_bind (wpAny_holding ?_)));refine aA7 hC hns K.ga K.gt K.isz aKe I (if_pos rfl) rfl ?_;exact wpAny_bind (wpAny_letTemporaryGo (wpAny_pure (hQ t)))
def aBl (prog:Program)(w:World)(Sta:Heap->Prop)(Z:List (Addr × Addr))(C f:Addr):Prop:=
 ∀(c dc:Addr)(A:Around)(E:Value->Shared->Prop)(s:Shared)(hb:Heap)(ps:List (Str × Str)),A.handled=none->A.depth<970->Bs Sta Z [c,dc] hb s.heap->Acc C s.heap c dc ps->dM ps->
  wpAny (model prog w) A (call (.ref f) [.ref c]) (fun v s'=>(∃ t,v= .int (eQ ps) t)/\KW [] Z s s'/\Acc C s'.heap c dc ps) E s
theorem aL4 (W:FW prog w Sta Z mg mb)(K:AW prog w Sta C N mN){f:Addr}(D:Df Sta f fd)(hcc:fd.code= .ref cc)(hz:(cc,P)∈Z){gsc:Scope}{kt:Nat}
  (hbody:fd.body= .stmts [.Return (some (.Call (.Name "sum" p0) [.GeneratorExp (.BinOp (.Call (.Name "len" e0) [.Name "fws" e1] [] e2) .Add (.Call (.Name "len" e3) [.Name "part" e4] [] e5) e6) [⟨.Tuple [.Name "fws" g0,.Name "part" g1] kt g2,.Name "self" g3,[],0⟩] gsc g4,
   .Attribute (.Name "self" a0) "_initial_size" a1] [] p1)) p2]) (hself:knd fd "self"=some .local) (hsum:knd fd "sum"=some .globalImplicit)
  (hgn:gsc.names=[(ofString ".0",.local),(ofString "fws",.local),(ofString "part",.local),(ofString "len",.globalImplicit)]) (hgk:gsc.kind= .function) (hgc:gsc.isCoroutine=false)
  (hbind:∀x:Value,bindArgs fd ⟨[x],[]⟩=pure [(ofString "self",x)]):aBl prog w Sta Z C f:=by
 intro c dc A E s hb ps hh hA B X hsm;refine opq fun R nR=> ?_
 refine aEl D (B.st W.sz) (by exact lit hA rfl) hbody (.of_eq (hbind _)) (fun x hx=> ?_) fun h'0 tk E' env henv hL hns hk=> ?_
 ·rw [List.mem_singleton.mp hx]; exact hself
 have hkf:env.scope.kind= .function:=by rw [henv]; exact D.kind
 have hko:∀x,env.kindOf x=knd fd x:=fun x=>by rw [henv]; rfl
 have hge:env.globals=mainGlobals:=by rw [henv]; exact D.globals
 have hbe:env.builtins=builtinsNs:=by rw [henv]; exact D.builtins
 have w0:KW [] Z s {s with heap:=h'0,toks:=tk}:=KW.of_keep hk;have B0:=B.of (w0.weaken fun _ h=>nomatch h);have X0:=X.keeps hk;have hLZ:env.locals∉Z.map (·.2):=by rw [hL]; exact B.z.fresh
 obtain ⟨hg0,hb0⟩:=W.ns _ (B0.st W.sz);refine wpAt_of_wpAny (wpAny_execs_cons (wpAny_Return_some (dN hkf ((hko _).trans hsum) rfl (hge▸hg0) (hbe▸hb0) W.sum.1 W.sum.2 rfl ?_)));refine wpAny_items_cons (tO (c:=c) (dc:=dc) (hb:=hb) (G:=fun a b y=>∃t,y= .int ((a.length:Int)+b.length) t) W.sz W.zu K W.bm W.nl (by show A.handled=none;exact hh) (by show A.depth+1<980;exact sll hA rfl) B0 X0 (by rw [henv]; exact hcc) hz hge hkf ((hko _).trans hself) hns (by rfl) rfl
  hgc ?_ ?_ (by rw [hgn]; rfl) (by rw [hgn]; rfl) (by rw [hgn]; rfl) (by decide) hgk ?_ fun a s5 fp wr g F St k5 X5 Wk hst hfp haf hwr hF hty=> ?_)
 ·unfold closureFor;rw [hgn]; rfl
 ·rw [hgn]; decide
 ·intro Dl code A' E'' a b t u s'2 m'2 hmem hh' hS hn'2 hma hmb';obtain ⟨hg2,hb2⟩:=W.ns _ hS;have hl:=hsm.2 _ hmem;have hke:∀x,(genEnv gsc [] Dl code builtinsNs env).kindOf x=gsc.names.lookup x:=fun _=>rfl
  refine wpAny_BinOp (dN (mg:=mg) (mb:=mb) hgk ((hke _).trans (by rw [hgn]; rfl)) rfl (by show s'2.heap.Ns env.globals mg;rw [hge]; exact hg2) hb2 W.len.1 W.len.2 rfl
   (wpAny_items_cons (nm (m:=m'2) hgk ((hke _).trans (by rw [hgn]; rfl)) hn'2 hma rfl (wpAny_items_nil (len_str (by simp only at hl;exact lit (aL1 hl) rfl) fun h' tk' hk' u'=> ?_)))))
  refine dN (mg:=mg) (mb:=mb) hgk ((hke _).trans (by rw [hgn]; rfl)) rfl (by show h'.Ns env.globals mg;rw [hge]; exact hg2.keeps hk') (hb2.keeps hk') W.len.1 W.len.2 rfl
   (wpAny_items_cons (nm (m:=m'2) hgk ((hke _).trans (by rw [hgn]; rfl)) (hn'2.keeps hk') hmb' rfl (wpAny_items_nil (len_str (by simp only at hl;exact lit (aL2 hl) rfl) fun h'' tk'' hk'' u''=> ?_))))
  exact wpAny_add_int ⟨⟨_,rfl⟩,eU.of (s:=s'2) fun b o e=>hk'' b o (hk' b o e)⟩
 ·have B5:Bs Sta Z [c,dc] hb s5.heap:=B0.of (k5.weaken fun _ h=>nomatch h);have hns5:s5.heap.Ns env.locals _:=Ns.kw hns k5 (fun h=>nomatch h) hLZ;refine wpAny_items_cons (rE (c:=c) (dc:=dc) (ps:=ps) K rfl (nm hkf ((hko _).trans hself) hns5 (u:= .ref c) (by rfl) rfl ⟨rfl,B5.st W.sz,X5,fun t=>wpAny_items_nil ?_⟩));have Wk1:=Wk.in4_1;have hst6:St 0 {s5 with toks:=s5.toks+1}:=Wk1.frame 0 s5 s5.heap _ hst (Nat.le_succ _) fun _ _ _ e=>e
  refine aEq (Wk1.self 0 _ _ _ hst6 ⟨a,fp,wr,_,ps.length,F,St,aO7 ps,rfl,Wk1,hst6,hfp,fun j v hv=> ?_,fun j hj=> ?_,fun s' t' hm=> ?_⟩)
  ·obtain ⟨p,hp,t,rfl⟩:=hF j v hv;exact ⟨t,by rw [wF hp]⟩
  ·have hp:ps[j]? =some ps[j]:=List.getElem?_eq_getElem hj;have hl:=hsm.2 _ (List.getElem_mem hj);have hb1:=hH (ps.take (j+1)) 1000 fun q hq=>hsm.2 q (List.mem_of_mem_take hq)
   have hb2:(ps.take (j+1)).length<=900:=Nat.le_trans (List.length_take_le' _ _) hsm.1;unfold InLong;rw [gI ps (j+1) hj,wF hp];refine ⟨⟨by exact Int.natCast_nonneg _,by lia⟩,⟨by exact jil hb1.1 rfl,?_⟩⟩;have:((ps.take (j+1)).length:Int)*1000<=900*1000:=by lia
   lia
  ·have hps:preSum (aO7 ps) ps.length=eQ ps:=by rw [gI ps ps.length (Nat.le_refl _),List.take_length]
   have k6:KW [] Z s s5:=w0.trans k5;have kz:Zok Z [] s.heap:=⟨B.z.at',fun _ _ _ h=>nomatch h⟩;have kf:KW [] Z s s':=KW.moved (k6.trans KW.toks) hm fun b hb'=>by
    have:=hwr b hb'
    cases e:s.heap.get? b with
    | none=>rfl
    | some o=>rw [hk b o e] at this;exact no2 this
   exact nR _ _ ⟨⟨_,by rw [hps]⟩,kf,X.kw B.z kf⟩
noncomputable def pjoin (p:Str × Str):Str:=Txt.join "" [p.1,p.2]
noncomputable def bK (ps:List (Str × Str)):Str:=Txt.join "" (ps.map pjoin)
theorem aEr (a b:Str):(a++b:Str).length=a.length+b.length:=Array.size_append ..
theorem aEs (p:Str × Str):(pjoin p).length=p.1.length+p.2.length:=by
 show (p.1++("":Str)++p.2:Str).length=_;rw [aEr,aEr];rfl
theorem aEt:∀(l:List Nat)(M:Nat),(∀ x∈l,x<=M)->l.sum<=l.length*M
 | [],_,_=>by simp
 | a::l,M,h=>by
  have h1:=h a List.mem_cons_self;have h2:=aEt l M fun x hx=>h x (List.mem_cons_of_mem _ hx)
  rw [List.sum_cons,List.length_cons,Nat.add_mul]
  lia
theorem aBm (h:dM ps):((ps.map pjoin).map (·.length)).sum+(ps.map pjoin).length*("":Str).length<=16777216:=by
 have h1:((ps.map pjoin).map (·.length)).sum<=900*1000:=by
  refine Nat.le_trans (aEt _ 1000 fun x hx=> ?_) ?_
  ·obtain ⟨y,hy,rfl⟩:=List.mem_map.mp hx;obtain ⟨p,hp,rfl⟩:=List.mem_map.mp hy;rw [aEs]; exact h.2 p hp
  ·rw [List.length_map,List.length_map];exact Nat.mul_le_mul_right _ h.1
 have h2:("":Str).length=0:=rfl;rw [h2];exact lit h1 rfl
def aEu (prog:Program)(w:World)(Sta:Heap->Prop)(Z:List (Addr × Addr))(C f:Addr):Prop:=
 ∀(c dc:Addr)(A:Around)(E:Value->Shared->Prop)(s:Shared)(hb:Heap)(ps:List (Str × Str)),A.handled=none->A.depth<970->Bs Sta Z [c,dc] hb s.heap->Acc C s.heap c dc ps->dM ps->
  wpAny (model prog w) A (call (.ref f) [.ref c]) (fun v s'=>(∃ t,v= .str (bK ps) t)/\KW [] Z s s'/\Acc C s'.heap c dc ps) E s
theorem aL5 (W:FW prog w Sta Z mg mb)(K:AW prog w Sta C N mN){tE:Tok}(hE:mg "EMPTYSTRING"=some (.str "" tE)){f:Addr}(D:Df Sta f fd)(hcc:fd.code= .ref cc)(hz:(cc,P)∈Z){gsc:Scope}{kt k1:Nat}
  (hbody:fd.body= .stmts [.Return (some (.Call (.Attribute (.Name "EMPTYSTRING" p0) "join" p1) [.GeneratorExp (.Call (.Attribute (.Name "EMPTYSTRING" e0) "join" e1) [.Tuple [.Name "fws" e2,.Name "part" e3] k1 e4] [] e5) [⟨.Tuple [.Name "fws" g0,.Name "part" g1] kt g2,.Name "self" g3,[],0⟩] gsc g4] [] p2)) p3])
  (hl1:(p1.endLine==p2.line)=true) (hl2:(e1.endLine==e5.line)=true) (hself:knd fd "self"=some .local) (hes:knd fd "EMPTYSTRING"=some .globalImplicit)
  (hgn:gsc.names=[(ofString ".0",.local),(ofString "fws",.local),(ofString "part",.local),(ofString "EMPTYSTRING",.globalImplicit)]) (hgk:gsc.kind= .function) (hgc:gsc.isCoroutine=false)
  (hbind:∀x:Value,bindArgs fd ⟨[x],[]⟩=pure [(ofString "self",x)]):aEu prog w Sta Z C f:=by
 intro c dc A E s hb ps hh hA B X hsm;refine opq fun R nR=> ?_
 refine aEl D (B.st W.sz) (by exact lit hA rfl) hbody (.of_eq (hbind _)) (fun x hx=> ?_) fun h'0 tk E' env henv hL hns hk=> ?_
 ·rw [List.mem_singleton.mp hx]; exact hself
 have hkf:env.scope.kind= .function:=by rw [henv]; exact D.kind
 have hko:∀x,env.kindOf x=knd fd x:=fun x=>by rw [henv]; rfl
 have hge:env.globals=mainGlobals:=by rw [henv]; exact D.globals
 have w0:KW [] Z s {s with heap:=h'0,toks:=tk}:=KW.of_keep hk;have B0:=B.of (w0.weaken fun _ h=>nomatch h);have X0:=X.keeps hk;obtain ⟨hg0,hb0⟩:=W.ns _ (B0.st W.sz);refine wpAt_of_wpAny (wpAny_execs_cons (wpAny_Return_some (bM rfl hl1 rfl (by simp) (Name_function_global hkf ((hko _).trans hes) (loadGlobal_global (env:=env) (hge▸hg0) hE fun pl=> ?_) rfl))));refine GM.join (callWith_builtin rfl (aK rfl ?_));refine wpAny_items_cons (tO (c:=c) (dc:=dc) (hb:=hb) (G:=fun a b y=>∃t,y= .str (pjoin (a,b)) t) W.sz W.zu K W.bm W.nl (by show A.handled=none;exact hh) (by show A.depth+1<980;exact sll hA rfl) B0 X0 (by rw [henv]; exact hcc) hz hge hkf ((hko _).trans hself) hns (by rfl) rfl
  hgc ?_ ?_ (by rw [hgn]; rfl) (by rw [hgn]; rfl) (by rw [hgn]; rfl) (by decide) hgk ?_ fun a s5 fp wr g F St k5 X5 Wk hst hfp haf hwr hF hty=>wpAny_items_nil ?_)
 ·unfold closureFor;rw [hgn]; rfl
 ·rw [hgn]; decide
 ·intro Dl code A' E'' a b t u s'2 m'2 hmem hh' hS hn'2 hma hmb';obtain ⟨hg2,hb2⟩:=W.ns _ hS;have hl:=hsm.2 _ hmem;have hke:∀x,(genEnv gsc [] Dl code builtinsNs env).kindOf x=gsc.names.lookup x:=fun _=>rfl
  refine bM rfl hl2 rfl (by simp) (Name_function_global hgk ((hke _).trans (by rw [hgn]; rfl)) (loadGlobal_global (env:=genEnv gsc [] Dl code builtinsNs env) (by show s'2.heap.Ns env.globals mg;rw [hge]; exact hg2) hE fun pl=> ?_) rfl);refine GM.join (callWith_builtin rfl (aK rfl ?_));refine wpAny_items_cons (wpAny_Tuple (k:=k1) (wpAny_items_cons (nm (m:=m'2) hgk ((hke _).trans (by rw [hgn]; rfl)) hn'2 hma rfl (wpAny_items_cons (nm (m:=m'2) hgk ((hke _).trans (by rw [hgn]; rfl)) hn'2 hmb' rfl (wpAny_items_nil ⟨by rw [sizeLine_eq]; simp,wpAny_items_nil ?_⟩))))));refine PyProof.Rows.join_tuple (ys:=[a,b]) (items:= #[.str a t,.str b u]) ⟨_,Heap.get?_push_size _ rfl,rfl,0,rfl⟩ (.cons _ _ (.cons _ _ .nil)) ?_ fun t' k=>⟨⟨t',rfl⟩,eU.of (s:=s'2) fun b o e=>Heap.get?_push_of_some _ e⟩
  have h2:("":Str).length=0:=rfl;simp only at hl;simp [h2];exact lit hl rfl
 ·have hn:ps.length<=sizeLine:=by rw [sizeLine_eq]; have:=hsm.1;exact lit this rfl
  refine SC.joinGen Wk.in4_2 hty hst hfp haf (fun i v hv=> ?_) (fun s' l hm hit=> ?_) hn
  ·obtain ⟨p,_,t,rfl⟩:=hF i v hv;exact ⟨_,_,rfl⟩
  ·have hl:l.map (·.1)=ps.map pjoin:=by
    have hsz:l.length=ps.length:=by simpa [strValues] using hit.1
    apply List.ext_getElem?
    intro i;rw [List.getElem?_map,List.getElem?_map]
    by_cases hi:i<l.length
    ·have hv:(strValues l).toArray[i]? =some (.str l[i].1 l[i].2):=by simp [strValues,hi]
     obtain ⟨p,hp,t,e⟩:=hF i _ (hit.2 i _ hv);rw [hp,List.getElem?_eq_getElem hi]
     injection e with e1 _
     simp [e1]
    ·rw [List.getElem?_eq_none (by exact Nat.le_of_not_lt hi),List.getElem?_eq_none (by lia)];rfl
   rw [hl];refine ⟨joinOk_of (aBm hsm),fun t' k=> ?_⟩;have kz:Zok Z [] s.heap:=⟨B.z.at',fun _ _ _ h=>nomatch h⟩;have kf:KW [] Z s {s' with toks:=k}:=(KW.moved (w0.trans k5) hm fun b hb'=>by
    have:=hwr b hb'
    cases e:s.heap.get? b with
    | none=>rfl
    | some o=>rw [hk b o e] at this;exact no2 this).trans KW.toks
   exact nR _ _ ⟨⟨_,rfl⟩,kf,X.kw B.z kf⟩
theorem cW.in1 {d:Nat}(r:cW A (d+1)):cW A.in1 d:=
 ⟨r.handled,by have:=r.depth;show A.depth+d<990;exact Nat.le_of_lt this,by have:=r.units;show A.units+1+8*d+400<9900;lia⟩
theorem cW.less {d e:Nat}(r:cW A d)(h:e<=d):cW A e:=
 ⟨r.handled,by have:=r.depth;lia,by have:=r.units;lia⟩
theorem aL6 (K:AW prog w Sta C N mN){name:Str}{f:Addr}(F:Mth Sta mN name f)(hS:Sta h)(X:Acc C h c dc ps):h.OwnSpecial c C f "list" name:=by
 obtain ⟨cr,hC⟩:=(K.cls _ hS).obj;obtain ⟨of,fd,hfc,hfd,hfo⟩:=F.fn;obtain ⟨vs,⟨n,ho⟩,_⟩:=X.seq;obtain ⟨y,hy⟩:=F.lk;exact ⟨_,of,cr.nm,cr.q,N,cr.bs,[.type "list",.type "object"],true,cr.sn,cr.sub,false,cr.col,cr.dd,cr.k0,cr.k1,cr.k2,cr.k3,cr.k5,"list.__new__",mN,y,ho,rfl,hC,(K.cls _ hS).ns,F.at',hfo _ hS,hfc,bO,hy⟩
theorem aQ9 (W:FW prog w Sta Z mg mb)(K:AW prog w Sta C N mN){f:Addr}(F:Mth Sta mN "__len__" f)(hf:aBl prog w Sta Z C f)(hA:cW A 25)(B:Bs Sta Z [c,dc] hb s.heap)(X:Acc C s.heap c dc ps)(hs:dM ps):
  wpAny (model prog w) A (call (.builtin "len") [.ref c]) (fun v s'=>(∃ t,v= .int (eQ ps) t)/\KW [] Z s s'/\Acc C s'.heap c dc ps) E s:=by
 have O:=aL6 K F (B.st W.sz) X;have hA':=cW.in1 (d:=24) hA;have hbd:=hH ps 1000 hs.2;have h9:(ps.length:Int)*1000<=900*1000:=by have:=hs.1;lia
 obtain ⟨hp,g,d,t,os⟩:=s;refine len_own O (wpAny_mono (hf c dc _ _ _ hb ps hA'.handled (by have:=hA'.depth;lia) B X hs) (fun r s' h=> ?_) fun _ _ e=>e);obtain ⟨⟨u,rfl⟩,k,X'⟩:=h;exact ⟨_,u,rfl,hbd.1,by lia,⟨_,rfl⟩,k.trans KW.toks,X'⟩
theorem aO8 (W:FW prog w Sta Z mg mb)(K:AW prog w Sta C N mN){f:Addr}(F:Mth Sta mN "__str__" f)(hf:aEu prog w Sta Z C f)(hA:cW A 25)(B:Bs Sta Z [c,dc] hb s.heap)(X:Acc C s.heap c dc ps)(hs:dM ps):
  wpAny (model prog w) A (call (.type "str") [.ref c]) (fun v s'=>(∃ t,v= .str (bK ps) t)/\KW [] Z s s'/\Acc C s'.heap c dc ps) E s:=by
 have O:=aL6 K F (B.st W.sz) X;have hA2:cW A.in1.in1 22:=cW.in1 (cW.in1 (d:=23) (hA.less (by exact Nat.le_add_left _ _)));refine callType_codes (T:="str") (Bi:=Builtin.«object.__init__») (Q₁:=fun r s'1=>(∃ t,r= .str (bK ps) t)/\KW [] Z s s'1/\Acc C s'1.heap c dc ps) PySem.F.called_str (PySem.F.typeCall_str_1 _) PySem.F.entry_object_init ?_ ?_
 ·refine codeAny_of_tree ?_;show wpAny _ A.in1.in1 (do checkBuiltinCall "str.__new__" ⟨[.type "str",.ref c],[]⟩; again (.builtin "str.__new__" ⟨[.type "str",.ref c],[]⟩)) _ _ s;refine wpAny_bind (wpAny_of_eq (PySem.F.newCall_str_1 _) (wpAny_pure ⟨plainId_quiet (by decide+kernel) _,codeAny_builtin PySem.F.entry_str_new ?_⟩));rw [Around.under_plainId (by decide+kernel) _];rw [str_new_tree];refine wpAny_bind (wpAny_pure ?_);refine wpAny_bind (wpAny_of_eq isSubtype_str_str ?_);refine wpAny_bind ?_;unfold PySem.Builtin.Str.strOf;rw [show PySem.Builtin.Str.isExactStr (.ref c)=false from rfl];refine wpAny_bind (m:=cRoomFor _ _) (wpAny_cRoomFor (by have:=hA2.units;unfold cLine;exact bsl this) ?_);obtain ⟨hp,g,d,t,os⟩:=s;refine wpAny_bind (m:=callSpecial? (.ref c) (ofString "__str__")) (wpAny_callSpecial?_own O (wpAny_mono (hf c dc _ _ _ hb ps hA2.handled (by have:=hA2.depth;lia) B X hs) (fun r s' h=> ?_) fun _ _ e=>e));obtain ⟨⟨u,rfl⟩,k,X'⟩:=h;exact wpAny_pure (wpAny_pure ⟨⟨u,rfl⟩,k,X'⟩)
 ·rintro obj s'1 ⟨⟨u,rfl⟩,k,X'⟩
  exact ⟨typeIs_str _ _ _,PySem.F.args_object_init_2 _ _,object_init_meets PySem.F.called_str.init.lookup PySem.F.called_str.made (by decide) prog w A.in1 _ s'1 ⟨typeIs_str _ _ _,rfl,⟨u,rfl⟩,k,X'⟩⟩
theorem tQ:typeLookup (.type "list") "__bool__"=pure none:=by rw [typeLookup_type,builtinLookup_eq_fast]; kernel_rfl
theorem aL7 (W:FW prog w Sta Z mg mb)(K:AW prog w Sta C N mN){f:Addr}(F:Mth Sta mN "__len__" f)(hf:aBl prog w Sta Z C f)(hA:cW A 26)(B:Bs Sta Z [c,dc] hb s.heap)(X:Acc C s.heap c dc ps)(hs:dM ps):
  wpAny (model prog w) A (truthy (.ref c)) (fun v s'=>v=(eQ ps !=0)/\KW [] Z s s'/\Acc C s'.heap c dc ps) E s:=by
 have O:=aL6 K F (B.st W.sz) X;have hA':=cW.in1 (d:=25) hA;have hbd:=hH ps 1000 hs.2;have h9:(ps.length:Int)*1000<=900*1000:=by have:=hs.1;lia
 obtain ⟨vs,hl,hp⟩:=id X.seq;unfold truthy;refine wpAny_bind ?_;unfold callSpecial?;refine wpAny_bind (gE (K.cls _ (B.st W.sz)) hl K.bo tQ ?_);refine wpAny_pure ?_;obtain ⟨hp,g,d,t,os⟩:=s;refine wpAny_bind (wpAny_specialOf_own O ?_);show wpAny _ _ (if (some (Value.ref f)).isNone=true then _ else _) _ _ _;rw [if_neg (by simp)];refine wpAny_bind (wpAny_runValue (codeAny_builtin entry_len ?_));rw [Around.under_plainId plain_len _];unfold Builtin.«len»;refine wpAny_bind (m:=oneArg "len" _) (wpAny_pure ?_);refine wpAny_bind (m:=callSpecial? (.ref c) (ofString "__len__")) (wpAny_callSpecial?_own O (wpAny_mono (hf c dc _ _ _ hb ps hA'.handled (by have:=hA'.depth;lia) B X hs) (fun r s' h=> ?_) fun _ _ e=>e));obtain ⟨⟨u,rfl⟩,k,X'⟩:=h;refine wpAny_bind (wpAny_holding (wpAny_pure ?_));refine wpAny_bind (wpAny_letGo ?_);show wpAny _ _ (if eQ ps<0 then _ else _) _ _ _;rw [if_neg (by exact Int.not_lt.mpr hbd.1)];show wpAny _ _ (if eQ ps>=2^63 then _ else _) _ _ _;rw [if_neg (by lia)];refine wpAny_bind (wpAny_mkInt (wpAny_pure ?_));exact wpAny_pure ⟨rfl,k.trans KW.toks,X'⟩
theorem aO9 {value slice:Expr}{vs:Array Value}(K:AW prog w Sta C N mN)
  (h:wpAny (model prog w) A (eval value env) (fun o s'1=>wpAny (model prog w) A (eval slice env) (fun i s'2=>o= .ref c/\Sta s'2.heap/\gZ s'2.heap C c dc vs/\wpAny (model prog w) A (getItem o i) Q E s'2) E s'1) E s):
  wpAny (model prog w) A (eval (.Subscript value slice pos) env) Q E s:=by
 rw [eval_Subscript];refine wpAny_bind (wpAny_mono h (fun o s'1 h'1=>wpAny_bind (wpAny_holding (wpAny_mono h'1 (fun i s'2 h'2=>wpAny_bind (wpAny_standAt ?_)) fun _ _ x=>x))) fun _ _ x=>x);obtain ⟨rfl,hS,hl,hg⟩:=h'2;refine wpAny_bind ?_;rw [getitemInPython_of_ne (o:= .ref c) (by intro e;exact nomatch e)];refine wpAny_bind (gE (K.cls _ hS) hl K.gi slot_list_getitem.lookup (wpAny_pure ?_));obtain ⟨ops,ho⟩:=aJ2 slice (.ref c) i;rw [ho];exact wpAny_bind (wpAny_operating (wpAny_mono hg (fun r s'3 h'3=>wpAny_bind (wpAny_letTemporaryGo (wpAny_pure h'3))) fun _ _ x=>x))
theorem wG {k:Int}(h0:0<=k)(h1:k<=n):sliceBounds (some k) none none n=(k,(n:Int),1):=by
 unfold sliceBounds;simp only [Option.getD_none];rw [if_pos (by decide),if_neg (by exact Int.not_lt.mpr h0)];simp only [show ((1:Int)>0)=True from by simp,if_true]
 congr 1
 lia
theorem cA.drop {vs:List Value}(x:cA h vs ps)(j:Nat):cA h (vs.drop j) (ps.drop j):=
 ⟨by simp [x.1],fun i v p h1 h2=>x.2 (j+i) v p (by rwa [List.getElem?_drop] at h1) (by rwa [List.getElem?_drop] at h2)⟩
theorem cA.take {vs:List Value}(x:cA h vs ps)(j:Nat):cA h (vs.take j) (ps.take j):=by
 refine ⟨by simp [x.1],fun i v p h1 h2=> ?_⟩
 by_cases q:i<j
 ·rw [List.getElem?_take_of_lt q] at h1 h2;exact x.2 i v p h1 h2
 ·rw [List.getElem?_take,if_neg q] at h1;exact no1 h1
theorem AX.slice {X:AX}{k:Int}(O:AX.Ok X)(J:AX.At X s mm ps)(kx:knd X.fd x=some .local)(mx:mm x=some (.int k t))(d:(x==("__debug__":Str))=false)
  (h:∀sl h',AX.At X {s with heap:=h'} mm ps->(∀ b o,s.heap.get? b=some o->h'.get? b=some o)->h'.IsSliceOf sl (.int k t) .none .none->Q (.ref sl) {s with heap:=h'}):wpAny (model X.prog X.w) X.A (eval (.Slice (some (.Name x p2)) none none p3) X.env) Q E s:=by
 refine wpAny_Slice ?_;rw [evalPart_some,evalPart_none];exact AX.name O J kx mx d (wpAny_pure (wpAny_pure (h _ _ (J.keep (t:=s.toks) fun _ _ e=>Heap.get?_push_of_some _ e) (fun _ _ e=>Heap.get?_push_of_some _ e) (Heap.IsSliceOf.new ..))))
theorem AX.from {X:AX}(O:AX.Ok X)(J:AX.At X s mm ps)(hj:j<=ps.length)(hn:ps.length<=900)(ki:knd X.fd "i"=some .local)(mi:mm "i"=some (.int j t))
  (h:∀R us h',AX.At X {s with heap:=h'} mm ps->s.heap.get? R=none->h'.PlainList R us->cA h' us.toList (ps.drop j)->Q (.ref R) {s with heap:=h'}):wpAny (model X.prog X.w) X.A (eval (.Subscript (.Name "self" p1) (.Slice (some (.Name "i" p2)) none none p3) p4) X.env) Q E s:=by
 obtain ⟨vs,hl0,hps⟩:=J.ac.seq;have hsz:vs.size=ps.length:=hps.1;refine aO9 (c:=X.c) (dc:=X.dc) (vs:=vs) O.K (AX.me O J (AX.slice O J ki mi rfl fun sl h'1 J1 k1 hsl=>⟨rfl,J1.st O,hl0.at fun o e=>k1 _ o e,?_⟩));refine aA9 (s:={s with heap:=h'1}) (O.K.cls _ (J1.st O)) O.K.gi (hl0.at fun o e=>k1 _ o e) hsl (.int _ _) .none .none (by simp) ?_ (hsz▸Nat.le_trans hn (by decide));rw [show slicePick vs (some (j:Int)) none none=(vs.toList.drop j).toArray from slicePick_from vs j (hsz▸hj)];have k2:∀b o,h'1.get? b=some o->(h'1.push {cls:= .type "list",data:= .seq (vs.toList.drop j).toArray}).get? b=some o:=fun _ _ e=>Heap.get?_push_of_some _ e
 refine h _ _ _ (AX.At.keep (s:={s with heap:=h'1}) J1 k2) ?_ ⟨0,Heap.get?_push_size _ rfl⟩ ((hps.drop j).keeps fun T vals h=>by obtain ⟨o,e,r⟩:=h;exact ⟨o,k2 _ _ (k1 _ _ e),r⟩)
 rcases e:s.heap.get? h'1.objs.size with _ | o
 ·rfl
 ·exact absurd (Heap.lt_size (k1 _ _ e)) (Nat.lt_irrefl _)
theorem AX.put {X:AX}{Q:Unit->Shared->Prop}{vs us:Array Value}{sl:Addr}{vl:Value}{lo:Option Int}(O:AX.Ok X)(hW:X.c∈X.W)(J:AX.At X s mm ps)(hl:gZ s.heap X.C X.c X.dc vs)(hn:vs.size<=900)(hL:s.heap.PlainList L us)(hn2:us.size<=900)(hLc:L≠X.c)(hs:s.heap.IsSliceOf sl vl .none .none)(pl:IsPart vl lo)
  {ws:List Value} (he:(vs.extract 0 (sliceBounds lo none none vs.size).1.toNat++us++vs.extract (max (sliceBounds lo none none vs.size).1 (sliceBounds lo none none vs.size).2.1).toNat vs.size).toList=ws) (hp:cA s.heap ws qs)
  (h:∀h',AX.At X {s with heap:=h'} mm qs->Heap.SameBut X.c s.heap h'->(∀ T vals,s.heap.IsTuple T vals->h'.IsTuple T vals)->Q () {s with heap:=h'}):wpAny (model X.prog X.w) X.A (setItem (.ref X.c) (.ref sl) (.ref L)) Q E s:=
 aBa (O.K.cls _ (J.st O)) O.K.si hl hL hs pl .none hLc (fun h' hl' hs'=>h h' (AX.At.chg (t:=s.toks) J O hW hl' hs' fun k=>he.symm▸hp.keeps k) hs' fun _ _ hT=>KW.tup (s':={s with heap:=h'}) (KW.change (tk:=s.toks) (.head _) (J.B O).z hs') J.ac.nt (J.B O).z hT) (Nat.le_trans hn (by decide)) (Nat.le_trans hn2 (by decide))
theorem aIo {vs:Array Value}(hj:j<=vs.size):(vs.extract 0 (sliceBounds (some (j:Int)) none none vs.size).1.toNat++ #[]++vs.extract (max (sliceBounds (some (j:Int)) none none vs.size).1 (sliceBounds (some (j:Int)) none none vs.size).2.1).toNat vs.size).toList=vs.toList.take j:=by
 rw [wG (Int.natCast_nonneg _) (Int.ofNat_le.mpr hj)];have h2:(max (j:Int) (vs.size:Int)).toNat=vs.size:=by lia
 show (vs.extract 0 (j:Int).toNat++ #[]++vs.extract (max (j:Int) (vs.size:Int)).toNat vs.size).toList=_;rw [h2,Int.toNat_natCast];simp
theorem wH (S:SZ Sta Z)(K:AW prog w Sta C N mN){f:Addr}(D:Df Sta f fd){l1 l2:List Stmt}
  (hbody:fd.body= .stmts (.Assign [.Name "popped" p0] (.Subscript (.Name "self" p1) (.Slice (some (.Name "i" p2)) none none p3) p4) p5::l1))
  (e1:l1= .Assign [.Subscript (.Name "self" q0) (.Slice (some (.Name "i" q1)) none none q2) q3] (.List [] q4) q5::l2) (e2:l2=[.Return (some (.Name "popped" r0)) r1])
  (hself:knd fd "self"=some .local) (hi:knd fd "i"=some .local) (hpop:knd fd "popped"=some .local)
  (hbind:∀(s:Shared)(x y:Value),Sta s.heap->BindsTo s fd ⟨[x,y],[]⟩ [(ofString "self",x),(ofString "i",y)])
  (A:Around) (E:Value->Shared->Prop) (s:Shared) (hb:Heap) (ps:List (Str × Str)) (j:Nat) (t:Tok) (hj:j<=ps.length) (hA:A.depth<980) (B:Bs Sta Z [c,dc] hb s.heap) (X:Acc C s.heap c dc ps) (hn:ps.length<=900):
  wpAny (model prog w) A (call (.ref f) [.ref c,.int j t]) (fun v s'=>(∃ R us,v= .ref R/\s'.heap.PlainList R us/\cA s'.heap us.toList (ps.drop j)/\s.heap.get? R=none)/\KW [c,dc] Z s s'/\Acc C s'.heap c dc (ps.take j)) E s:=by
 refine wpAny_call (pT S K D hself [c,dc] (fun _ h=>h) hbody (hbind _ _ _ (B.st S)) (aNq hself hi) rfl (Nat.lt_trans hA (by decide)) B X (T:=fun X=>X.c∈X.W) (fun _ _ _=> .head _) fun X s'0 bd K' E' hk hc O J k0 hq=>wpAt_of_wpAny ?_);refine dF fun R n _=>wpAny_Assign_Name (AX.from O J hj hn (hk hi) rfl fun P us h'1 J1 hP0 hP hus=>AX.store O J1 (hk hpop) (by decide) fun s'2 hs2 J2=>n _ ?_)
 have hPl:P≠X.env.locals:=fun q=>by obtain ⟨o,es,ep,e,_⟩:=J.ns;rw [<- q,hP0] at e;exact no1 e
 have hPc:P≠X.c:=fun q=>by obtain ⟨_,⟨n,e⟩,_⟩:=J.ac.seq;rw [<- q,hP0] at e;exact no1 e
 have hP2:s'2.heap.PlainList P us:=hP.at fun o e=>hs2.extBut P o hPl e
 have hus2:cA s'2.heap us.toList (ps.drop j):=hus.keeps fun T vals h=>jI J1.ns hs2 h
 have hP0':X.s0.heap.get? P=none:=by
  rcases e:X.s0.heap.get? P with _ | o
  ·rfl
  ·exact no1 (hP0.symm.trans (k0 _ _ e))
 obtain ⟨vs,hl0,hps⟩:=J2.ac.seq;have hsz:vs.size=ps.length:=hps.1;have k3:∀b o,s'2.heap.get? b=some o->(s'2.heap.push {cls:= .type "list",data:= .seq ([]:List Value).toArray}).get? b=some o:=fun _ _ e=>Heap.get?_push_of_some _ e
 have J3:AX.At X {s'2 with heap:=s'2.heap.push {cls:= .type "list",data:= .seq ([]:List Value).toArray}} _ ps:=J2.keep (t:=s'2.toks) k3;have hLc:s'2.heap.objs.size≠X.c:=fun q=>J2.ac.fresh (q▸ .head _)
 refine iC e1 fun R1 n1 _=>wpAny_Assign_Subscript (wpAny_List (wpAny_items_nil ⟨Nat.zero_le _,AX.me O J3 (AX.slice O J3 (hk hi) rfl rfl fun sl h'4 J4 k4 hsl=> ?_)⟩)) (mS ..)
 have k5:=fun b o e=>k4 b o (k3 b o e)
 refine AX.put (s:={s'2 with heap:=h'4}) (us:= #[]) (qs:=ps.take j) O hc J4 (hl0.at fun o e=>k5 _ o e) (hsz▸hn) ⟨0,k4 _ _ (Heap.get?_push_size _ rfl)⟩ (Nat.zero_le _) hLc hsl (.int _ _) (aIo (hsz▸hj)) ((hps.take j).keeps fun T vals h=>by obtain ⟨o,e,r⟩:=h;exact ⟨o,k5 _ _ e,r⟩) fun h'5 J5 hs5 kt=>n1 _ ?_
 refine iC e2 fun R2 _ r2=>wpAny_Return_some (AX.name (s:={s'2 with heap:=h'5}) O J5 (hk hpop) (v:= .ref P) (if_pos rfl) rfl (r2 _ _ nofun (hq _ _ _ _ J5 fun w x g=>⟨⟨P,us,rfl,(hP2.at fun o e=>hs5.extBut _ o hPc (k5 _ o e)),hus2.keeps fun T vals h=>kt T vals (by obtain ⟨o,e,r⟩:=h;exact ⟨o,k5 _ _ e,r⟩),g _ hP0'⟩,w,x⟩).1))
structure aRa (C:Addr)(h:Heap)(c dc:Addr)(ps:List (Str × Str)):Prop where
 seq:∃vs,gZ h C c dc vs/\cA h vs.toList ps
 dict:∃mA,h.Ns1 dc mA/\∀n:Str,n≠ofString "_initial_size"->mA n=none
 ne:dc≠c
theorem Acc.acc0 (X:Acc C h c dc ps):aRa C h c dc ps:=⟨X.seq,by obtain ⟨_,hd⟩:=X.dict;exact ⟨_,hd,fun _ h=>if_neg h⟩,X.ne⟩
theorem aEv (S:SZ Sta Z)(K:AW prog w Sta C N mN){Q:Unit->Shared->Prop}(B:Bs Sta Z [c,dc] hb s.heap)(X:aRa C s.heap c dc ps)
  (h:∀s',KW [c,dc] Z s s'->Acc C s'.heap c dc ps->(∀ b o,b≠c->b≠dc->s.heap.get? b=some o->s'.heap.get? b=some o)->Q () s'):wpAny (model prog w) A (setAttr (.ref c) "_initial_size" (.int 0 t)) Q E s:=by
 obtain ⟨cr,hC⟩:=(K.cls _ (B.st S)).obj;have hns:=(K.cls _ (B.st S)).ns;obtain ⟨vs,⟨n,ho⟩,hps⟩:=X.seq;obtain ⟨mA,hd,hA⟩:=X.dict;have hcC:c≠C:=fun e=>by rw [e,hC] at ho;cases ho
 have I:s.heap.Inst c C mA:=⟨_,ho,rfl,(fun _ e=>nomatch e),.inr ⟨dc,rfl,X.ne,hd⟩⟩;obtain ⟨hp,g,d,tk,os⟩:=s;refine store_attr aA6 hC hns K.sa K.isz aKe hcC I (fun h' tk' hI' hk ho'=> ?_) (ns:=[ofString "_initial_size"]) (fun y hy=> ?_) (by rw [sizeLine_eq]; simp)
 ·obtain ⟨o'1,ho1,hc'1,hd'1,hsl1,hdi1⟩:=ho' _ ho;have hdi:=hdi1 dc rfl;have e1:o'1={cls:= .ref C,dict:=some dc,data:= .seq vs n}:=by
   obtain ⟨a,b,e,f⟩:=o'1;simp only at hc'1 hd'1 hsl1 hdi;subst hc'1 hd'1 hsl1 hdi;rfl
  subst e1;have hkk:∀b o,b≠c->b≠dc->hp.get? b=some o->h'.get? b=some o:=fun b o h1 h2 e=>hk b o h1 (fun o0 dx e1 e2=>by
   have e1:hp.get? c=some o0:=e1;have ho:hp.get? c=_:=ho;rw [ho] at e1;(replace e1:=Option.some.inj e1;subst e1); (replace e2:=Option.some.inj e2;subst e2); exact h2) e
  have w1:KW [c,dc] Z ⟨hp,g,d,tk,os⟩ ⟨h',g,d,tk',os⟩:=KW.out (s:=⟨hp,g,d,tk,os⟩) B.z.out fun b o hb' e=>hkk b o (fun q=>hb' (by simp [q])) (fun q=>hb' (by simp [q])) e
  have hnt:NT hp [c,dc]:=by
   intro y hy
   rcases List.mem_cons.mp hy with rfl | hy
   ·exact ⟨_,ho,.inl (fun e=>nomatch e)⟩
   ·rw [List.mem_singleton.mp hy];obtain ⟨o,es,ep,h1,h2,_⟩:=hd;exact ⟨o,h1,.inr fun _ _ e=>by rw [h2] at e;exact nomatch e⟩
  refine h _ w1 ⟨⟨vs,⟨n,ho1⟩,hps.keeps fun T vals h=>w1.tup hnt B.z h⟩,⟨t,?_⟩,X.ne⟩ hkk;obtain ⟨o2,ho2,_,_,hd2⟩:=hI';rw [ho1] at ho2;(replace ho2:=Option.some.inj ho2;subst ho2)
  rcases hd2 with ⟨hn,_⟩ | ⟨d2,hd2,_,hns2⟩
  ·exact no2 hn
  ·(replace hd2:=Option.some.inj hd2;subst hd2)
   have:(fun y:Str=>if y=ofString "_initial_size" then some (Value.int 0 t) else mA y)=fun y=>if y=ofString "_initial_size" then some (.int 0 t) else none:=by
    funext y
    by_cases e:y=ofString "_initial_size"
    ·rw [if_pos e,if_pos e]
    ·rw [if_neg e,if_neg e]; exact hA y e
   rw [<- this];exact hns2
 ·refine List.mem_singleton.mpr ?_;refine Decidable.byContradiction fun q=>hy (hA y q)
theorem aBn (n:Nat):sliceBounds none none none n=(0,(n:Int),1):=rfl
theorem aL8 {vs us:Array Value}:(vs.extract 0 (sliceBounds none none none vs.size).1.toNat++us++vs.extract (max (sliceBounds none none none vs.size).1 (sliceBounds none none none vs.size).2.1).toNat vs.size).toList=us.toList:=by
 rw [aBn];have h2:(max (0:Int) (vs.size:Int)).toNat=vs.size:=by exact Nat.add_zero _
 show (vs.extract 0 (0:Int).toNat++us++vs.extract (max (0:Int) (vs.size:Int)).toNat vs.size).toList=_;rw [h2];simp
theorem AX.reset {X:AX}{Q:Flow->Shared->Prop}{k1:Nat}{l:List Stmt}{R:Addr}{us:Array Value}(O:AX.Ok X)(hW:X.W=[X.c,X.dc])(J:AX.At X s mm ps)
  (e1:l=[.Assign [.Subscript (.Name "self" q0) (.Slice none none none q1) q2] (.Name "startval" q3) q4,.Assign [.Attribute (.Name "self" r0) "_initial_size" r1] (.Constant (.int 0) k1 r2) r3])
  (ks:knd X.fd "startval"=some .local) (m2:mm "startval"=some (.ref R)) (hn:ps.length<=900) (hR:s.heap.PlainList R us) (hqs:cA s.heap us.toList qs) (hn2:qs.length<=900) (hRc:R≠X.c)
  (h:∀s' mm',AX.At X s' mm' qs->Q .next s'):wpAny (model X.prog X.w) X.A (execs l X.env) Q E s:=by
 obtain ⟨vs,hl0,hps⟩:=J.ac.seq;have hsz:vs.size=ps.length:=hps.1;have hsz2:us.size=qs.length:=hqs.1;have k1:∀b o,s.heap.get? b=some o->(s.heap.push {cls:= .type "slice",data:= .fields #[.none,.none,.none]}).get? b=some o:=fun b o e=>Heap.get?_push_of_some _ e
 have J1:AX.At X {s with heap:=s.heap.push {cls:= .type "slice",data:= .fields #[.none,.none,.none]}} mm ps:=J.keep (t:=s.toks) k1;refine iC e1 fun R1 n1 _=>wpAny_Assign_Subscript (AX.name O J ks m2 rfl (AX.me O J (wpAny_Slice ?_))) (mS ..)
 rw [evalPart_none];refine wpAny_pure (wpAny_pure (wpAny_pure ?_));refine AX.put (s:={s with heap:=s.heap.push {cls:= .type "slice",data:= .fields #[.none,.none,.none]}}) (us:=us) (qs:=qs) O (hW▸ .head _) J1 (hl0.at fun o e=>k1 _ o e) (hsz▸hn) (hR.at fun o e=>k1 _ o e) (hsz2▸hn2) hRc (Heap.IsSliceOf.new ..) .none aL8 (hqs.keeps fun T vals h=>by obtain ⟨o,e,r⟩:=h;exact ⟨o,k1 _ _ e,r⟩) fun h'2 J2 _ _=>n1 _ ?_
 refine dF fun R2 n2 _=>plainObj_wpAny_Assign_Attribute (wpAny_Constant_int (AX.me O (AX.At.tok (s:={s with heap:=h'2}) J2) ?_))
 have J3:AX.At X {s with heap:=h'2,toks:=s.toks+1} mm qs:=AX.At.tok (s:={s with heap:=h'2}) J2;exact aEv (hb:=X.hb) (ps:=qs) O.S O.K (J3.B O) J3.ac.acc0 fun s' k x _=>n2 _ (wpAny_execs_nil (h _ _ ⟨Ns.kw J3.ns k O.LF O.LZ,x,J3.w.trans (hW▸k),J3.me⟩))
theorem aBo (S:SZ Sta Z)(K:AW prog w Sta C N mN){f:Addr}(D:Df Sta f fd){k0 k1:Nat}{l:List Stmt}
  (hbody:fd.body= .stmts (.If (.Compare (.Name "startval" p0) [.Is] [.Constant .none k0 p1] p2) [.Assign [.Name "startval" p3] (.List [] p4) p5] [] p6::l))
  (e1:l=[.Assign [.Subscript (.Name "self" q0) (.Slice none none none q1) q2] (.Name "startval" q3) q4,.Assign [.Attribute (.Name "self" r0) "_initial_size" r1] (.Constant (.int 0) k1 r2) r3])
  (hself:knd fd "self"=some .local) (hst:knd fd "startval"=some .local) (hbind:∀(s:Shared)(x y:Value),Sta s.heap->BindsTo s fd ⟨[x,y],[]⟩ [(ofString "self",x),(ofString "startval",y)])
  (A:Around) (E:Value->Shared->Prop) (s:Shared) (hb:Heap) (R:Addr) (us:Array Value) (ps qs:List (Str × Str)) (hA:A.depth<980) (B:Bs Sta Z [c,dc] hb s.heap) (X:Acc C s.heap c dc ps) (hn:ps.length<=900) (hR:s.heap.PlainList R us) (hqs:cA s.heap us.toList qs) (hn2:qs.length<=900) (hRc:R≠c):
  wpAny (model prog w) A (call (.ref f) [.ref c,.ref R]) (fun v s'=>v= .none/\KW [c,dc] Z s s'/\Acc C s'.heap c dc qs) E s:=by
 refine wpAny_call (pT S K D hself [c,dc] (fun _ h=>h) hbody (hbind _ _ _ (B.st S)) (aNq hself hst) rfl (Nat.lt_trans hA (by decide)) B X (T:=fun X=>X.W=[X.c,X.dc]/\R≠X.c/\X.s0.heap.PlainList R us/\cA X.s0.heap us.toList qs) (fun _ _ _=>⟨rfl,hRc,hR,hqs⟩) fun X s'0 bd K' E' hk T O J k0 hq=>wpAt_of_wpAny ?_);refine dF fun R0 n _=>wpAny_If (wpAny_isTrue_Compare1 (AX.name O J (hk hst) (v:= .ref R) rfl rfl (wpAny_Constant_none (wpAny_is_other (by rfl) (fun e=>nomatch e) (wpAny_truthy_bool (wpAny_execs_nil (n _ ?_)))))) (by rfl))
 exact AX.reset O T.1 J e1 (hk hst) rfl hn (T.2.2.1.at fun o e=>k0 _ o e) (T.2.2.2.keeps fun T vals h=>by obtain ⟨o,e,r⟩:=h;exact ⟨o,k0 _ _ e,r⟩) hn2 T.2.1 fun s' mm' J'=>(hq _ _ _ _ J' fun w x _=>⟨rfl,w,x⟩).2 rfl
theorem aBp (S:SZ Sta Z)(K:AW prog w Sta C N mN){f:Addr}(D:Df Sta f fd){k0 k1:Nat}{l:List Stmt}
  (hbody:fd.body= .stmts (.If (.Compare (.Name "startval" p0) [.Is] [.Constant .none k0 p1] p2) [.Assign [.Name "startval" p3] (.List [] p4) p5] [] p6::l))
  (e1:l=[.Assign [.Subscript (.Name "self" q0) (.Slice none none none q1) q2] (.Name "startval" q3) q4,.Assign [.Attribute (.Name "self" r0) "_initial_size" r1] (.Constant (.int 0) k1 r2) r3])
  (hself:knd fd "self"=some .local) (hst:knd fd "startval"=some .local) (hbind:∀(s:Shared)(x:Value),Sta s.heap->BindsTo s fd ⟨[x],[]⟩ [(ofString "self",x),(ofString "startval",.none)])
  (A:Around) (E:Value->Shared->Prop) (s:Shared) (hb:Heap) (ps:List (Str × Str)) (hA:A.depth<980) (B:Bs Sta Z [c,dc] hb s.heap) (X:Acc C s.heap c dc ps) (hn:ps.length<=900):
  wpAny (model prog w) A (call (.ref f) [.ref c]) (fun v s'=>v= .none/\KW [c,dc] Z s s'/\Acc C s'.heap c dc []) E s:=by
 refine wpAny_call (pT S K D hself [c,dc] (fun _ h=>h) hbody (hbind _ _ (B.st S)) (aNq hself hst) rfl (Nat.lt_trans hA (by decide)) B X (T:=fun X=>X.W=[X.c,X.dc]) (fun _ _ _=>rfl) fun X s'0 bd K' E' hk T O J k0 hq=>wpAt_of_wpAny ?_);have k1:∀b o,s'0.heap.get? b=some o->(s'0.heap.push {cls:= .type "list",data:= .seq ([]:List Value).toArray}).get? b=some o:=fun b o e=>Heap.get?_push_of_some _ e
 have J1:AX.At X {s'0 with heap:=s'0.heap.push {cls:= .type "list",data:= .seq ([]:List Value).toArray}} _ ps:=J.keep (t:=s'0.toks) k1;have hRc:s'0.heap.objs.size≠X.c:=fun q=>J.ac.fresh (q▸ .head _)
 have hRl:s'0.heap.objs.size≠X.env.locals:=fun q=>by obtain ⟨o,es,ep,e,_⟩:=J.ns;exact absurd (Heap.lt_size e) (q▸Nat.lt_irrefl _)
 refine dF fun R0 n _=>wpAny_If (wpAny_isTrue_Compare1 (AX.name O J (hk hst) (v:= .none) rfl rfl (wpAny_Constant_none (wpAny_is_self (by rfl) (wpAny_truthy_bool (dF fun R1 n1 _=>wpAny_Assign_Name (wpAny_List (wpAny_items_nil ⟨Nat.zero_le _,AX.store O J1 (hk hst) (by decide) fun s'2 hs2 J2=>n1 _ (wpAny_execs_nil (n _ ?_))⟩))))))) (by rfl))
 exact AX.reset (R:=s'0.heap.objs.size) (us:= #[]) (qs:=[]) O T J2 e1 (hk hst) (if_pos rfl) hn (Heap.PlainList.at ⟨0,Heap.get?_push_size _ rfl⟩ fun o e=>hs2.extBut _ o hRl e) ⟨rfl,fun _ _ _ h=>nomatch h⟩ (Nat.zero_le _) hRc fun s' mm' J'=>(hq _ _ _ _ J' fun w x _=>⟨rfl,w,x⟩).2 rfl
theorem nQ {f:Str}{T:String}(hkf:env.scope.kind= .function)(hf:env.kindOf f=some .globalImplicit)(hd:(f==("__debug__":Str))=false)
  (hg:s.heap.Ns env.globals mg) (hb:s.heap.Ns env.builtins mb) (h1:mg f=none) (h2:mb f=some (.type T)) (hstar:(backTo q (starEach args env)).any (·.1)=false)
  (h:wpAny (model prog w) A (spliced (backTo q (starEach args env))) (fun vs s'=>wpAny (model prog w) A (call (.type T) vs) Q E s') E s):
  wpAny (model prog w) A (eval (.Call (.Name f p) args [] q) env) Q E s:=by
 show wpAny _ A (eval (.Name f p) env >>= fun g=>callWith q g [] (backTo q (starEach args env)) []) _ _ s;refine wpAny_bind (Name_function_global hkf hf (loadGlobal_builtin (env:=env) hg h1 hb h2 ?_) hd);exact PySem.callWith_type hstar (aK hstar h)
theorem and_true {e2:Expr}(h:wpAny (model prog w) A (eval e env) (fun y s'1=>y= .bool true/\wpAny (model prog w) A (eval e2 env) Q E s'1) E s):
  wpAny (model prog w) A (eval (.BoolOp .And [e,e2] pos) env) Q E s:=by
 show wpAny _ A (do
  let v <-eval e env
  standAt pos
  let t <-holding [v] (truthy v)
  match BoolOp.And,t with
  | .And,false | .Or,true=>pure v
  | _,_=>boolOp pos .And (evalEach [e2] env)) _ _ s
 refine wpAny_bind (wpAny_mono h (fun y s'1 h'1=> ?_) fun _ _ x=>x);obtain ⟨rfl,h'1⟩:=h'1;exact wpAny_bind (wpAny_standAt (wpAny_bind (wpAny_holding (wpAny_truthy_bool h'1))))
theorem aEw {e2:Expr}(h:wpAny (model prog w) A (eval e env) (fun y s'1=>y= .bool false/\wpAny (model prog w) A (eval e2 env) Q E s'1) E s):
  wpAny (model prog w) A (eval (.BoolOp .Or [e,e2] pos) env) Q E s:=by
 show wpAny _ A (do
  let v <-eval e env
  standAt pos
  let t <-holding [v] (truthy v)
  match BoolOp.Or,t with
  | .And,false | .Or,true=>pure v
  | _,_=>boolOp pos .Or (evalEach [e2] env)) _ _ s
 refine wpAny_bind (wpAny_mono h (fun y s'1 h'1=> ?_) fun _ _ x=>x);obtain ⟨rfl,h'1⟩:=h'1;exact wpAny_bind (wpAny_standAt (wpAny_bind (wpAny_holding (wpAny_truthy_bool h'1))))
theorem aIp (W:FW prog w Sta Z mg mb)(K:AW prog w Sta C N mN){fl fs:Addr}(Fl:Mth Sta mN "__len__" fl)(hfl:aBl prog w Sta Z C fl)(Fs:Mth Sta mN "__str__" fs)(hfs:aEu prog w Sta Z C fs){f:Addr}(D:Df Sta f fd){k0:Nat}
  (hbody:fd.body= .stmts [.Return (some (.BoolOp .And [.Compare (.Attribute (.Name "self" p0) "_initial_size" p1) [.Eq] [.Constant (.int 0) k0 p2] p3,
   .BoolOp .Or [.UnaryOp .Not (.Name "self" p4) p5,.Call (.Attribute (.Call (.Name "str" p6) [.Name "self" p7] [] p8) "isspace" p9) [] [] q0] q1] q2)) q3])
  (hl:(p9.endLine==q0.line)=true) (hself:knd fd "self"=some .local) (hstr:knd fd "str"=some .globalImplicit) (hbind:∀x:Value,bindArgs fd ⟨[x],[]⟩=pure [(ofString "self",x)])
  (A:Around) (E:Value->Shared->Prop) (s:Shared) (hb:Heap) (ps:List (Str × Str)) (hA:cW A 28) (B:Bs Sta Z [c,dc] hb s.heap) (X:Acc C s.heap c dc ps) (hs:dM ps) (hne:eQ ps≠0) (hsp:Txt.isspace (bK ps)=false):
  wpAny (model prog w) A (call (.ref f) [.ref c]) (fun v s'=>v= .bool false/\KW [] Z s s'/\Acc C s'.heap c dc ps) E s:=by
 refine aEl D (B.st W.sz) (by have:=hA.depth;exact bsl this) hbody (.of_eq (hbind _)) (fun x hx=> ?_) fun h'0 tk E' env henv hL hns hk=> ?_
 ·rw [List.mem_singleton.mp hx]; exact hself
 have hkf:env.scope.kind= .function:=by rw [henv]; exact D.kind
 have hko:∀x,env.kindOf x=knd fd x:=fun x=>by rw [henv]; rfl
 have hge:env.globals=mainGlobals:=by rw [henv]; exact D.globals
 have hbe:env.builtins=builtinsNs:=by rw [henv]; exact D.builtins
 have w0:KW [] Z s {s with heap:=h'0,toks:=tk}:=KW.of_keep hk;have hLZ:env.locals∉Z.map (·.2):=by rw [hL]; exact B.z.fresh
 have B0:=B.of (w0.weaken fun _ h=>nomatch h);have hA':cW (A.deeper env) 27:=cW.deeper hA;refine wpAt_of_wpAny (wpAny_execs_cons (wpAny_Return_some (and_true (wpAny_Compare1 (rE (c:=c) (dc:=dc) (ps:=ps) K rfl (nm hkf ((hko _).trans hself) hns (u:= .ref c) (by rfl) rfl ⟨rfl,B0.st W.sz,X.keeps hk,fun t=> ?_⟩)) (by rfl)))));refine wpAny_Constant_int (eq_int ⟨by decide,?_⟩);have w1:KW [] Z s {s with heap:=h'0,toks:=tk+1+1}:=KW.of_keep hk;have B1:=B.of (w1.weaken fun _ h=>nomatch h);refine aEw (wpAny_UnaryOp (nm (m:=_) hkf ((hko _).trans hself) hns (u:= .ref c) (by rfl) rfl (not_of ?_)));refine wpAny_mono (aL7 (s:={s with heap:=h'0,toks:=tk+1+1}) (hb:=hb) W K Fl hfl (hA'.less (by exact Nat.le_add_left _ _)) B1 (X.keeps hk) hs) (fun b s'2 h'2=> ?_) fun _ _ e=>e
 obtain ⟨rfl,k2,X2⟩:=h'2;refine ⟨by rw [bne_iff_ne.mpr hne]; rfl,?_⟩;have w2:=w1.trans k2;have B2:=B.of (w2.weaken fun _ h=>nomatch h);have hns2:s'2.heap.Ns env.locals _:=Ns.kw hns k2 (fun h=>nomatch h) hLZ;obtain ⟨hg2,hb2⟩:=W.ns _ (B2.st W.sz);refine bM rfl hl rfl (by simp) (nQ hkf ((hko _).trans hstr) rfl (hge▸hg2) (hbe▸hb2) W.str.1 W.str.2 rfl (wpAny_items_cons (nm hkf ((hko _).trans hself) hns2 (u:= .ref c) (by rfl) rfl (wpAny_items_nil ?_))));refine wpAny_mono (aO8 (hb:=hb) W K Fs hfs (hA'.less (by exact Nat.le_add_left _ _)) B2 X2 hs) (fun v s'3 h'3 pl=> ?_) fun _ _ e=>e
 obtain ⟨⟨t,rfl⟩,k3,X3⟩:=h'3;refine GM.isspace (callWith_builtin rfl (aK rfl (wpAny_items_nil ?_)));exact SC.isspace ⟨by rw [hsp],w2.trans k3,X3⟩
theorem aEx:builtinKind "list.__new__"=some .builtinFn:=by decide+kernel
theorem aBq:splitId "list.__new__"=some ("list","__new__"):=by decide+kernel
theorem aIq:Manifest.signature? "list.__new__"=some {machinery:= .any,full:="list",short:="list",receiver:= .cls,params:=[{name:="args",kind:= .varPos,required:=false},{name:="kwargs",kind:= .varKw,required:=false}]}:=by kernel_rfl
theorem aEy (C v:Value):Bind.checkArgs "list.__new__" {machinery:= .any,full:="list",short:="list",receiver:= .cls,params:=[{name:="args",kind:= .varPos,required:=false},{name:="kwargs",kind:= .varKw,required:=false}]} ⟨[C,v],[]⟩=pure ():=by kernel_rfl
section
variable {g:Array GenState}{d:Drawn}{t:Nat}{os:OsState}
variable {cr:CR}
set_option maxHeartbeats 1000000 in
theorem oZ {M:Model}{v:Value}{Q:Unit->Shared->Prop}
  (hC:h.get? C=some (gD cr C N)) (hq:Q () ⟨h,g,d,t,os⟩):
  wpAny M A (checkBuiltinCall "list.__new__" ⟨.ref C::[v],[]⟩) Q E ⟨h,g,d,t,os⟩:=by
 have hcont:=gY C;have hargs:=aEy (.ref C) v;unfold checkBuiltinCall;rw [aEx,aBq,aIq]
 repeat (first | (with_reducible refine ks_wpAny_isType_cls hC rfl ?_) | (with_reducible refine wpAny_loadPart_at hC ?_) | (with_reducible refine wpAny_isSubtype_exc hC ?_;rw [hcont]) | (with_reducible refine wpAny_staticBase_exc hC ?_) | (with_reducible refine wpAny_madeBy_exc hC ?_) | (with_reducible refine vB ?_) | (with_reducible refine aCs ?_) | (with_reducible refine bX (by decide+kernel) ?_) | wp_step | (with_reducible refine wpAny_of_eq hargs ?_))
 exact hq
set_option maxHeartbeats 1000000 in
theorem aEz {v:Value}
  (hC:h.get? C=some (gD cr C N))
  (hq:R (.ok (.ret (.ref (h.objs.size+1)))) ⟨(h.push {cls:= .type "dict",data:= .dict #[]}).push {cls:= .ref C,dict:=some h.objs.size,data:= .seq #[]},g,d,t,os⟩):
  codeAny (model prog w) A (.builtin "list.__new__" ⟨.ref C::[v],[]⟩) R ⟨h,g,d,t,os⟩:=by
 refine codeAny_builtin_stack F.entry_list_new rfl fun p st=> ?_
 rw [Around.under_plainId F.plain_list_new _];have hown:=owner_list_new;have hcont:=gY C;dsimp only;rw [hown]
 repeat (first | (with_reducible refine ks_wpAny_isType_cls hC rfl ?_) | (with_reducible refine wpAny_isSubtype_exc hC ?_;rw [hcont]) | wp_step)
 show R _ _;rw [Heap.size_push];exact hq
structure aPa (h h':Heap)(x dx C:Addr):Prop where
 keeps:∀b o,h.get? b=some o->h'.get? b=some o
 newX:h.get? x=none
 newD:h.get? dx=none
 obj:gZ h' C x dx #[]
 dict:h'.Ns1 dx fun _=>none
 ne:dx≠x
theorem tR:typeLookup (.type "list") "__init__"=pure (some (.builtin "list.__init__")):=by rw [typeLookup_type,builtinLookup_eq_fast]; kernel_rfl
set_option maxHeartbeats 1000000 in
theorem pA {v:Value}{fI:Addr}{oI:Obj}{Q:Fin->Shared->Prop}
  (hC:h.get? C=some (gD cr C N)) (hn:h.Ns N mN) (hi:mN "__init__"=some (.ref fI))
  (hfI:h.get? fI=some oI) (hfc:oI.cls= .type "function")
  (hq:∀h' x dx,aPa h h' x dx C->wpAny (model prog w) A (call (.ref fI) [.ref x,v]) (fun r s'=>r= .none/\Q (.done (.ret (.ref x))) s') E ⟨h',g,d,t,os⟩):
  wpAny (model prog w) A (Builtin.«type.__call__» ⟨.ref C::[v],[]⟩) Q E ⟨h,g,d,t,os⟩:=by
 repeat (first | with_reducible refine wpAny_loadPart_at hC ?_ | with_reducible refine wpAny_madeBy_exc hC ?_ | wp_step)
 refine codeAny_call_builtin_code (plainId_quiet F.plain_list_new _) (oZ hC ?_);refine aEz hC ?_;show wpAny _ _ _ _ _ _;have keep2:∀b o,h.get? b=some o->((h.push {cls:= .type "dict",data:= .dict #[]}).push {cls:= .ref C,dict:=some h.objs.size,data:= .seq #[]}).get? b=some o:=fun b o hb=>Heap.get?_push_of_some _ (Heap.get?_push_of_some _ hb)
 have hget:((h.push {cls:= .type "dict",data:= .dict #[]}).push {cls:= .ref C,dict:=some h.objs.size,data:= .seq #[]}).get? (h.objs.size+1)=some {cls:= .ref C,dict:=some h.objs.size,data:= .seq #[]}:=by heap_get
 have hgd:((h.push {cls:= .type "dict",data:= .dict #[]}).push {cls:= .ref C,dict:=some h.objs.size,data:= .seq #[]}).get? h.objs.size=some {cls:= .type "dict",data:= .dict #[]}:=Heap.get?_push_of_some _ (Heap.get?_push_at rfl rfl);generalize (h.push {cls:= .type "dict",data:= .dict #[]}).push {cls:= .ref C,dict:=some h.objs.size,data:= .seq #[]}=h2 at keep2 hget hgd ⊢;have hC1:=keep2 _ _ hC;have hfI1:=keep2 _ _ hfI;have hn'1:h2.Ns N mN:=by obtain ⟨o,es,ep,e,r⟩:=hn;exact ⟨o,es,ep,keep2 _ _ e,r⟩
 have hcC:(Value.ref C::[Value.type "list",.type "object"]).contains (.ref C)=true:=by simp
 unfold isInstance
 repeat (first | with_reducible refine wpAny_loadPart_at hget ?_ | (with_reducible refine wpAny_isSubtype_exc hC1 ?_;rw [hcC]) | wp_step)
 show wpAny _ _ (typeLookup (.ref C) _) _ _ _;refine wpAny_typeLookup_exc hC1 hn'1 bO tR ?_;rw [hi];refine wpAny_holding (wpAny_bind ?_);unfold bindSpecial;refine wpAny_bind (wpAny_typeOf (T:="function") ⟨_,hfI1,hfc⟩ ?_);refine iV (by decide) ?_;refine wpAny_pure (wpAny_bind (wpAny_mono (hq _ (h.objs.size+1) h.objs.size ⟨keep2,Heap.get?_none_of_le (Nat.le_succ _),Heap.get?_none_of_le (Nat.le_refl _),
  ⟨0,hget⟩,Heap.Ns1.of_empty ⟨_, #[],_,hgd,rfl,fun e he=>absurd he (by simp),fun _=>rfl⟩,Nat.ne_of_lt (Nat.lt_succ_self _)⟩) (fun r s' hr=> ?_) fun _ _ x=>x))
 obtain ⟨rfl,hQ⟩:=hr
 wp_walk
 exact hQ
theorem rF {v:Value}{fI:Addr}{oI:Obj}
  (hC:h.get? C=some (gD cr C N)) (hn:h.Ns N mN) (hi:mN "__init__"=some (.ref fI))
  (hfI:h.get? fI=some oI) (hfc:oI.cls= .type "function")
  (hq:∀h' x dx,aPa h h' x dx C->wpAny (model prog w) (A.under (.builtin "type.__call__" ⟨.ref C::[v],[]⟩)) (call (.ref fI) [.ref x,v]) (fun r s'=>r= .none/\Q (.ref x) s') E ⟨h',g,d,t,os⟩):
  wpAny (model prog w) A (call (.ref C) [v]) Q E ⟨h,g,d,t,os⟩:=by
 have f1:=tc_lookup;have f2:=tc_bind (.ref C);have hT:(⟨h,g,d,t,os⟩:Shared).TypeIs (.ref C) "type":=⟨_,hC,rfl⟩;refine wpAny_call (codeAny_of_tree ?_);show wpAny _ _ (callAny (.ref C) _) _ _ _
 repeat (any_goals (first | assumption | with_reducible refine wpAny_loadPart_at hC ?_ | wp_step))
 refine ⟨rfl,?_⟩;refine codeAny_call_builtin_at (Code.quiet_builtin _ (by decide+kernel)) entry_typeCall (wpAny_check_type_call_sub hC (pA hC hn hi hfI hfc fun h' x dx hm=> ?_));exact hq h' x dx hm
end
theorem Zok.add (z:Zok Z [] h)(hk:∀b o,h.get? b=some o->h'.get? b=some o)(hW:∀y∈W,h.get? y=none):Zok Z W h' where
 at':=fun y hy=>by obtain ⟨ps,h1,h2⟩:=z.at' y hy;exact ⟨ps,h1.keeps hk,h2.keeps hk⟩
 apart:=fun y hy a ha=>by
  obtain ⟨ps,h1,⟨⟨o,_,e,_⟩,t⟩⟩:=z.at' y hy;have:=hW a ha;refine ⟨fun q=> ?_,fun q=> ?_⟩
  ·rw [<- q,this] at e;exact no1 e
  ·rw [<- q,this] at t;exact no1 t
theorem aIr (W:FW prog w Sta Z mg mb)(K:AW prog w Sta C N mN){f:Addr}(hi:mN "__init__"=some (.ref f))(D:Df Sta f fd)(U:Sup prog Sta C fd)
  (hbody:fd.body= .stmts [.Assign [.Attribute (.Name "self" p0) "_initial_size" p1] (.Name "initial_size" p2) p3,.Expr (.Call (.Attribute (.Call (.Name "super" q0) [] [] q1) "__init__" q2) [] [] q3) q4])
  (hl:(q2.endLine==q3.line)=true) (his:knd fd "initial_size"=some .local) (hbind:∀(s:Shared)(x y:Value),Sta s.heap->BindsTo s fd ⟨[x,y],[]⟩ [(ofString "self",x),(ofString "initial_size",y)])
  (A:Around) (E:Value->Shared->Prop) (s:Shared) (hb:Heap) (t:Tok) (hA:cW A 10) (B:Bs Sta Z [] hb s.heap) (hbs:∀b,s.heap.get? b=none->hb.get? b=none):
  wpAny (model prog w) A (call (.ref C) [.int 0 t]) (fun v s'=>∃x dx,v= .ref x/\KW [] Z s s'/\Acc C s'.heap x dx []/\s.heap.get? x=none/\s.heap.get? dx=none) E s:=by
 refine opq fun R nR=> ?_
 obtain ⟨cr,hC⟩:=(K.cls _ (B.st W.sz)).obj;have hNs:=(K.cls _ (B.st W.sz)).ns;obtain ⟨⟨of,hof,hofc,hofd⟩,_,_⟩:=D.at' _ (B.st W.sz);obtain ⟨hp,g,d,tk0,os⟩:=s;refine rF hC hNs hi hof hofc fun h' x dx made=> ?_
 have hW:∀y∈[x,dx],hp.get? y=none:=fun y hy=>by
  rcases List.mem_cons.mp hy with rfl | hy
  ·exact made.newX
  ·rw [List.mem_singleton.mp hy]; exact made.newD
 have w1:KW [] Z ⟨hp,g,d,tk0,os⟩ ⟨h',g,d,tk0,os⟩:=KW.of_keep (s:=⟨hp,g,d,tk0,os⟩) made.keeps;have B1:Bs Sta Z [x,dx] hb h':=⟨B.sta,fun b o hz e=>made.keeps b o (B.keep b o hz e),fun y hy=>hbs y (hW y hy),B.z.add made.keeps hW⟩;refine aEl (s:=⟨h',g,d,tk0,os⟩) D (B1.st W.sz) (by have:=hA.depth;show A.depth+1<990;lia) hbody (hbind _ _ _ (B1.st W.sz)) (fun y hy=> ?_) fun h'0 tk E' env henv hL hns hk=> ?_
 ·simp only [List.mem_cons,List.not_mem_nil,or_false] at hy
  rcases hy with rfl | rfl
  ·exact U.slf
  ·exact his
 have hkf:env.scope.kind= .function:=by rw [henv]; exact D.kind
 have hko:∀x,env.kindOf x=knd fd x:=fun x=>by rw [henv]; rfl
 have w0:KW [] Z ⟨h',g,d,tk0,os⟩ ⟨h'0,g,d,tk,os⟩:=KW.of_keep (s:=⟨h',g,d,tk0,os⟩) hk;have B2:Bs Sta Z [x,dx] hb h'0:=B1.of (w0.weaken fun _ h=>nomatch h);have X2:aRa C h'0 x dx []:=⟨⟨#[],made.obj.at fun o e=>hk _ o e,⟨rfl,fun i v p h=>by simp at h⟩⟩,⟨_,made.dict.at fun o e=>hk _ o e,fun _ _=>rfl⟩,made.ne⟩;refine ks_wpAt_execs_cons (wpAt_of_wpAny (plainObj_wpAny_Assign_Attribute (nm hkf ((hko _).trans his) hns (u:= .int 0 t) (by rfl) rfl (nm hkf ((hko _).trans U.slf) hns (u:= .ref x) (by rfl) rfl ?_))));have hLfresh:h'.get? env.locals=none:=by rw [hL]; exact bG _
 have hexx:∀y∈[x,dx], ∃o,h'.get? y=some o:=fun y hy=>by
  rcases List.mem_cons.mp hy with rfl | hy
  ·obtain ⟨n,e⟩:=made.obj;exact ⟨_,e⟩
  ·rw [List.mem_singleton.mp hy]; obtain ⟨o,es,ep,e,_⟩:=made.dict;exact ⟨o,e⟩
 have hLW:env.locals∉[x,dx]:=fun q=>by obtain ⟨o,e⟩:=hexx _ q;rw [hLfresh] at e;exact no1 e
 have hLZ:env.locals∉Z.map (·.2):=by rw [hL]; exact B1.z.fresh
 refine aEv (s:=⟨h'0,g,d,tk,os⟩) (hb:=hb) (ps:=[]) W.sz K B2 X2 fun s'3 k3 X3 _=> ?_
 have B3:Bs Sta Z [x,dx] hb s'3.heap:=B2.of k3;have hns3:s'3.heap.Ns env.locals _:=Ns.kw hns k3 hLW hLZ;obtain ⟨tI,hI⟩:=X3.inst;refine ks_wpAt_execs_cons (ks_wpAt_Expr_any (nN hl rfl (by simp) (yO (c:=x) W.ns W.sup.1 W.sup.2 K D U henv (B3.st W.sz) hns3 rfl hI rfl fun so h4 hso k hnew pl=> ?_)) (rC hkf) rfl);obtain ⟨h'3,g'3,d'3,t'3,o3⟩:=s'3;have hS':Sta h4:=W.sz _ _ (fun b o _ e=>k b o e) (B3.st W.sz);obtain ⟨cr,hC⟩:=(K.cls _ hS').obj;obtain ⟨vs,hl0,hps⟩:=X3.seq;obtain ⟨n,ho⟩:=hl0.at fun o e=>k _ o e
 have hxC:x≠C:=fun e=>by rw [e,hC] at ho;cases ho
 refine gF wC hso (K.looks _ hS') hC ho rfl hxC ?_;have hb':(h4.push {cls:= .type "method-wrapper",data:= .fields #[.builtin "list.__init__",.ref x]}).get? h4.objs.size=some {cls:= .type "method-wrapper",data:= .fields #[.builtin "list.__init__",.ref x]}:=Heap.get?_push_size _ rfl;have kk:∀b o,h'3.get? b=some o->(h4.push {cls:= .type "method-wrapper",data:= .fields #[.builtin "list.__init__",.ref x]}).get? b=some o:=fun b o e=>Heap.get?_push_of_some _ (k _ _ e)
 generalize h4.push {cls:= .type "method-wrapper",data:= .fields #[.builtin "list.__init__",.ref x]}=h6 at hb' kk ⊢;refine gH (.inr rfl) hb' ?_;have hsz:vs.size=0:=by simpa using hps.1
 refine aBh (s:=⟨h6,g'3,d'3,t'3+1,o3⟩) hb' (hl0.at fun o e=>kk _ o e) (by exact lef hsz rfl) fun h5 hl5 hs5=> ?_
 have w4:KW [x,dx] Z ⟨h'3,g'3,d'3,t'3,o3⟩ ⟨h6,g'3,d'3,t'3+1,o3⟩:=KW.of_keep (s:=⟨h'3,g'3,d'3,t'3,o3⟩) kk;have w5:=w4.trans (KW.change (s:=⟨h6,g'3,d'3,t'3+1,o3⟩) (tk:=t'3+1) (by simp) (B3.of w4).z hs5);have wall:KW [x,dx] Z ⟨h',g,d,tk0,os⟩ ⟨h5,g'3,d'3,t'3+1,o3⟩:=((w0.weaken fun _ h=>nomatch h).trans k3).trans w5;refine wpAt_of_wpAny (wpAny_execs_nil ⟨rfl,nR _ _ ⟨x,dx,rfl,?_,⟨⟨#[],hl5,⟨rfl,fun i v p h=>by simp at h⟩⟩,?_,X3.ne⟩,made.newX,made.newD⟩⟩)
 ·have hz':Zok Z [] hp:=⟨B.z.at',fun _ _ _ h=>nomatch h⟩;exact KW.after (c:=⟨h',g,d,tk0,os⟩) (fun b o e=>⟨fun q=>no1 ((hW b q).symm.trans e),made.keeps b o e⟩) rfl rfl rfl wall
 ·obtain ⟨t',hd⟩:=X3.dict;exact ⟨t',hd.at fun o e=>hs5.extBut _ _ X3.ne (kk _ _ e)⟩
theorem aE0:typeLookup (.type "function") "__set__"=pure none:=by rw [typeLookup_type,builtinLookup_eq_fast]; kernel_rfl
theorem tU:typeLookup (.type "function") "__delete__"=pure none:=by rw [typeLookup_type,builtinLookup_eq_fast]; kernel_rfl
section
variable {g:Array GenState}{d:Drawn}{t:Nat}{os:OsState}
variable {cr:CR}{x:Addr}{name:Str}{v:Value}
set_option maxHeartbeats 1000000 in
theorem tV {tk:Tok}{f:Addr}{of:Obj}{y:Option Value}{Q:Fin->Shared->Prop}
  (hC:h.get? C=some (gD cr C N)) (hn:h.Ns N mN) (hna:mN name=some (.ref f)) (hfo:h.get? f=some of) (hfc:of.cls= .type "function")
  (hB:typeLookup (.type "list") name=pure y) (I:h.Inst x C mA) (hv:mA name=none) (hne0:∃n,mA n≠none) (hg:(["__module__","__name__","__qualname__","__doc__","__annotations__"]:List Str).contains name=false)
  (hq:Q (.done (.ret (.ref h.objs.size))) ⟨h.push {cls:= .type "method",data:= .fields #[.ref f,.ref x]},g,d,t,os⟩):
  wpAny (model prog w) A (Builtin.«object.__getattribute__» ⟨[.ref x,.str name tk],[]⟩) Q E ⟨h,g,d,t,os⟩:=by
 obtain ⟨⟨oc,od,oda,osl⟩,hx,hc,hnc,hd⟩:=I;obtain rfl:oc= .ref C:=hc;obtain ⟨dx,rfl,hns1⟩:∃dx,od=some dx/\h.Ns1 dx mA:=by
  rcases hd with ⟨_,hall⟩ | ⟨dx,hdx,_,hns1⟩
  ·obtain ⟨n,hn0⟩:=hne0;exact absurd (hall n) hn0
  ·exact ⟨dx,hdx,hns1⟩
 have hTf:(⟨h,g,d,t,os⟩:Shared).TypeIs (.ref f) "function":=⟨_,hfo,hfc⟩;have hlk:=F.ks_slot_function_get.lookup;have hns:=aE0;have hnd:=tU;unfold Builtin.«object.__getattribute__»
 repeat (first | (with_reducible refine wpAny_loadPart_at hx ?_) | (with_reducible refine wpAny_typeLookup_exc hC hn bO hB ?_;rw [hna]) | (with_reducible refine wpAny_typeOf hTf ?_) | (with_reducible refine wpAny_loadPart_at hfo ?_;rw [hfc]) | wp_step)
 refine tH hnc ?_;unfold instanceDict
 repeat (first | (with_reducible refine wpAny_nsGet hns1.ns ?_;rw [hv]) | (with_reducible refine wpAny_loadPart_at hx ?_) | with_reducible refine wpAny_loadPart_at hC ?_ | wp_step)
 ·repeat (first | (with_reducible refine wpAny_nsGet hns1.ns ?_;rw [hv]) | (with_reducible refine bX (by rw [hg]; exact Bool.false_ne_true) ?_) | (with_reducible refine vB ?_) | (with_reducible refine wpAny_call_entry F.ks_slot_function_get hTf F.ks_entry_function_get ?_ (F.ks_getArgs_function _ _ _)) | (with_reducible refine ⟨_,rfl,?_⟩) | wp_step)
  exact hq
set_option maxHeartbeats 1000000 in
theorem wI {expr:Bool}{f:Addr}{of:Obj}{y:Option Value}
  (hC:h.get? C=some (gD cr C N)) (hn:h.Ns N mN) (hng:mN "__getattribute__"=none) (hnh:mN "__getattr__"=none) (hna:mN name=some (.ref f)) (hfo:h.get? f=some of) (hfc:of.cls= .type "function")
  (hB:typeLookup (.type "list") name=pure y) (I:h.Inst x C mA) (hv:mA name=none) (hne0:∃n,mA n≠none) (hg:(["__module__","__name__","__qualname__","__doc__","__annotations__"]:List Str).contains name=false)
  (hq:Q (.ref h.objs.size) ⟨h.push {cls:= .type "method",data:= .fields #[.ref f,.ref x]},g,d,t+1,os⟩):
  wpAny (model prog w) A (getAttr (.ref x) name expr) Q E ⟨h,g,d,t,os⟩:=by
 obtain ⟨o,hx,hc,_⟩:=id I;have f3:=F.slot_list_getattribute.bind (.ref x);have hx0:(expr&&onTheHeap (Value.builtin "list.__getattribute__"))=false:=by rcases expr with _ | _ <;> rfl
 have hx2:(Value.builtin "list.__getattribute__"==Value.builtin "object.__getattribute__")=false:=by decide+kernel
 have hx1:(onTheHeap (Value.ref C)&&Value.builtin "list.__getattribute__"==Value.builtin "object.__getattribute__")=false:=by rw [hx2]; rfl
 unfold getAttr getAttrBy
 repeat (any_goals (first | assumption | (with_reducible refine wpAny_loadPart_at hx ?_;rw [hc]) | (with_reducible refine wpAny_typeLookup_exc hC hn bO gX ?_;rw [hng]) | (with_reducible refine wpAny_typeLookup_exc hC hn bO cS ?_;rw [hnh]) | wp_step))
 have L:=aO4 (.ref x) (.str name t);refine codeAny_call_builtin L.plain L.entry ?_;refine nE (id:="list.__getattribute__") (b:=Builtin.«object.__getattribute__») (rest:=[.str name t]) (o:=o) L hC hx hc ?_;refine tV hC hn hna hfo hfc hB I hv hne0 hg ?_;show wpAny _ _ (handedOut (.ref h.objs.size)) _ _ _;exact wpAny_pure hq
end
theorem aE1 (K:AW prog w Sta C N mN){name:Str}{f:Addr}{sp:Pos}(F:Mth Sta mN name f)(hb:bY o=true)(hg:(["__module__","__name__","__qualname__","__doc__","__annotations__"]:List Str).contains name=false)
  (h:wpAny (model prog w) A (eval o env) (fun ov s'1=>ov= .ref c/\Sta s'1.heap/\Acc C s'1.heap c dc ps/\
   ∀q,q=s'1.heap.objs.size->wpAny (model prog w) A (eval e env) (fun v s'2=>StarOf (model prog w) A E v (fun vs s'3=>(s'3.heap.get? q=some {cls:= .type "method",data:= .fields #[.ref f,.ref c]}/\Sta s'3.heap)/\codeAny (model prog w) A (.call (.ref f) ⟨.ref c::vs,[]⟩) (fun r s'=>match r with | .ok (.ret v)=>Q v s' | .ok _=>False | .error e=>E e s') s'3) s'2) E
    {s'1 with heap:=s'1.heap.push {cls:= .type "method",data:= .fields #[.ref f,.ref c]},toks:=s'1.toks+1}) E s):
  wpAny (model prog w) A (eval (.Call (.Attribute o name ap) [.Starred e sp] [] pos) env) Q E s:=by
 rw [arm_eval_Call,iO hb];refine wpAny_bind (wpAny_mono h (fun ov s'1 h'1=> ?_) fun _ _ e=>e);obtain ⟨rfl,hS,X,h'1⟩:=h'1;obtain ⟨cr,hC⟩:=(K.cls _ hS).obj;have hns:=(K.cls _ hS).ns;obtain ⟨of,fd,hfc,hfd,hfo⟩:=F.fn;obtain ⟨y,hy⟩:=F.lk;obtain ⟨t,I⟩:=X.inst;refine wpAny_bind (wpAny_standAt ?_);have hform:methodCallForm (([.Starred e sp]:List Expr).length+([]:List Keyword).length) (backTo pos (starEach [.Starred e sp] env)) (backToKw pos (keywordEach [] env))=false:=rfl;unfold methodCall;rw [hform];refine wpAny_bind (wpAny_holding ?_);unfold calleeOf;obtain ⟨hp,g,d,tk,os⟩:=s'1;refine wpAny_bind (wI hC hns K.ga K.gt F.at' (hfo _ hS) hfc hy I (if_neg F.ni) ⟨ofString "_initial_size",by rw [if_pos rfl]; exact fun e=>nomatch e⟩ hg ?_);refine wpAny_pure ?_;refine wpAny_bind (wpAny_of_eq (show methodCallPos false o env ap pos=pure pos from rfl) ?_);refine ks_call (P:=fun h=>h.get? hp.objs.size=some {cls:= .type "method",data:= .fields #[.ref f,.ref c]}/\Sta h) rfl (fun h hh=>⟨.boundFrame,.inr (.inr rfl),?_⟩) (ks_lone ?_)
 ·intro A' Q' E' s' k q;unfold keeperOf;refine wpAny_bind (wpAny_load (k _ _ hh.1) ?_);dsimp only;rw [if_neg (by decide)];refine wpAny_bind (wpAny_load (k _ _ (hfo _ hh.2)) ?_);rw [hfd];exact wpAny_pure q
 ·refine wpAny_mono (h'1 _ rfl) (fun v s'2 h'2=> ?_) fun _ _ e=>e
  refine wpAny_mono h'2 (fun b s'3 h'3=>⟨h'3.1,wpAny_mono h'3.2 (fun vs s4 h'4=>⟨h'4.1,?_⟩) fun _ _ e=>e⟩) fun _ _ e=>e
  exact wpAny_call (method_call h'4.1.1 h'4.2)
noncomputable def fB:List Str:=[ofString "_maxlen",ofString "_continuation_ws",ofString "_continuation_ws_len",ofString "_splitchars",ofString "_lines",ofString "_current_line"]
structure VW (Sta:Heap->Prop)(C N:Addr)(mN:Str->Option Value):Prop where
 cls:∀h,Sta h->ClsAt h C N mN
 ga:mN "__getattribute__"=none
 gt:mN "__getattr__"=none
 sa:mN "__setattr__"=none
 att:∀n∈fB,mN n=none/\typeLookup (.type "object") n=pure none
structure Fat (mA:Str->Option Value)(wd:Int)(sp:Str)(L c:Addr):Prop where
 mx:∃t,mA "_maxlen"=some (.int wd t)
 sp:∃t,mA "_splitchars"=some (.str sp t)
 ls:mA "_lines"=some (.ref L)
 cl:mA "_current_line"=some (.ref c)
 no:∀n,n∉fB->mA n=none
structure Fm (V C:Addr)(h:Heap)(m dm L c dc:Addr)(wd:Int)(sp:Str)(lines:List Str)(ps:List (Str × Str)):Prop where
 obj:∃o,h.get? m=some o/\o.cls= .ref V/\(∀ c,o.data≠ .cls c)/\o.dict=some dm/\dm≠m
 att:∃mA,h.Ns1 dm mA/\Fat mA wd sp L c
 lines:∃us,h.PlainList L us/\StrsAre us.toList lines
 acc:Acc C h c dc ps
 ap:m∉[L,c,dc]/\dm∉[L,c,dc]/\L∉[c,dc]
section
variable {m:Addr}
theorem Fm.inst (F:Fm V C h m dm L c dc wd sp lines ps):∃mA,h.Inst m V mA/\Fat mA wd sp L c:=by
 obtain ⟨o,h1,h2,h3,h4,h5⟩:=F.obj;obtain ⟨mA,h6,h7⟩:=F.att;exact ⟨mA,⟨o,h1,h2,h3,.inr ⟨dm,h4,h5,h6⟩⟩,h7⟩
theorem Fm.step (F:Fm V C s.heap m dm L c dc wd sp lines ps)(B:Bs Sta Z [m,dm,L,c,dc] hb s.heap)(k:KW [c,dc] Z s s')(X:Acc C s'.heap c dc qs):Fm V C s'.heap m dm L c dc wd sp lines qs:=by
 have nz:∀y∈[m,dm,L,c,dc],y∉Z.map (·.2):=fun y hy q=>by obtain ⟨v,hv,e⟩:=List.mem_map.mp q;exact (B.z.apart v hv y hy).2 e.symm
 obtain ⟨o,h1,h2,h3,h4,h5⟩:=F.obj;obtain ⟨mA,h6,h7⟩:=F.att;obtain ⟨us,h8,h9⟩:=F.lines;have hm:m∉[c,dc]:=fun q=>F.ap.1 (List.mem_cons_of_mem _ q)
 have hdm:dm∉[c,dc]:=fun q=>F.ap.2.1 (List.mem_cons_of_mem _ q)
 exact ⟨⟨o,k.keep _ _ hm (nz m (by simp)) h1,h2,h3,h4,h5⟩,⟨mA,h6.at fun o e=>k.keep _ _ hdm (nz dm (by simp)) e,h7⟩,⟨us,h8.at fun o e=>k.keep _ _ F.ap.2.2 (nz L (by simp)) e,h9⟩,X,F.ap⟩
theorem Fm.keeps (F:Fm V C h m dm L c dc wd sp lines ps)(k:∀b o,h.get? b=some o->h'.get? b=some o):Fm V C h' m dm L c dc wd sp lines ps:=by
 obtain ⟨o,h1,h2,h3,h4,h5⟩:=F.obj;obtain ⟨mA,h6,h7⟩:=F.att;obtain ⟨us,h8,h9⟩:=F.lines;exact ⟨⟨o,k _ _ h1,h2,h3,h4,h5⟩,⟨mA,h6.at fun o e=>k _ _ e,h7⟩,⟨us,h8.at fun o e=>k _ _ e,h9⟩,F.acc.keeps k,F.ap⟩
theorem Fm.exs (F:Fm V C h m dm L c dc wd sp lines ps):∀y∈[m,dm,L,c,dc], ∃o,h.get? y=some o:=fun y hy=>by
 simp only [List.mem_cons,List.not_mem_nil,or_false] at hy
 rcases hy with rfl | rfl | rfl | rfl | rfl
 ·obtain ⟨o,h1,_⟩:=F.obj;exact ⟨o,h1⟩
 ·obtain ⟨mA,⟨o,es,ep,h1,_⟩,_⟩:=F.att;exact ⟨o,h1⟩
 ·obtain ⟨us,⟨n,h1⟩,_⟩:=F.lines;exact ⟨_,h1⟩
 ·obtain ⟨_,⟨n,h1⟩,_⟩:=F.acc.seq;exact ⟨_,h1⟩
 ·obtain ⟨_,⟨o,es,ep,h1,_⟩⟩:=F.acc.dict;exact ⟨o,h1⟩
theorem Fm.fresh (F:Fm V C h m dm L c dc wd sp lines ps):h.objs.size∉[m,dm,L,c,dc]:=fun q=>by
 have ex:∀y∈[m,dm,L,c,dc], ∃o,h.get? y=some o:=fun y hy=>by
  simp only [List.mem_cons,List.not_mem_nil,or_false] at hy
  rcases hy with rfl | rfl | rfl | rfl | rfl
  ·obtain ⟨o,h1,_⟩:=F.obj;exact ⟨o,h1⟩
  ·obtain ⟨mA,⟨o,es,ep,h1,_⟩,_⟩:=F.att;exact ⟨o,h1⟩
  ·obtain ⟨us,⟨n,h1⟩,_⟩:=F.lines;exact ⟨_,h1⟩
  ·obtain ⟨_,⟨n,h1⟩,_⟩:=F.acc.seq;exact ⟨_,h1⟩
  ·obtain ⟨_,⟨o,es,ep,h1,_⟩⟩:=F.acc.dict;exact ⟨o,h1⟩
 obtain ⟨o,e⟩:=ex _ q;exact absurd (Heap.lt_size e) (Nat.lt_irrefl _)
theorem aIs (VV:VW Sta V NV mV){n:Str}(hn:n∈fB)(hb:bY o=true)
  (h:wpAny (model prog w) A (eval o env) (fun ov s'1=>ov= .ref m/\Sta s'1.heap/\Fm V C s'1.heap m dm L c dc wd sp lines ps/\∀mA v,Fat mA wd sp L c->mA n=some v->handedOut v=pure v->Q v {s'1 with toks:=s'1.toks+1}) E s)
  (hv:∀mA,Fat mA wd sp L c->∃v,mA n=some v/\handedOut v=pure v):
  wpAny (model prog w) A (eval (.Attribute o n p) env) Q E s:=by
 rw [arm_eval_Attribute,iO hb];refine wpAny_bind (wpAny_mono h (fun ov s'1 h'1=> ?_) fun _ _ e=>e);obtain ⟨rfl,hS,F,hQ⟩:=h'1;obtain ⟨mA,I,hA⟩:=F.inst;obtain ⟨v,hmv,hh⟩:=hv mA hA;refine wpAny_bind (wpAny_standAt (wpAny_bind (wpAny_holding ?_)));refine jX (VV.cls _ hS) VV.ga (VV.att n hn).1 (VV.att n hn).2 I hmv hh ?_;exact wpAny_bind (wpAny_letTemporaryGo (wpAny_pure (hQ mA v hA hmv hh)))
theorem rG (VV:VW Sta V NV mV)(hb:bY o=true)
  (h:wpAny (model prog w) A (eval o env) (fun ov s'1=>ov= .ref m/\Sta s'1.heap/\Fm V C s'1.heap m dm L c dc wd sp lines ps/\Q (.ref c) {s'1 with toks:=s'1.toks+1}) E s):
  wpAny (model prog w) A (eval (.Attribute o "_current_line" p) env) Q E s:=
 aIs VV (by simp [fB]) hb (wpAny_mono h (fun ov s'1 h'1=>⟨h'1.1,h'1.2.1,h'1.2.2.1,fun mA v hA hv _=>by rw [hA.cl] at hv;(replace hv:=Option.some.inj hv;subst hv); exact h'1.2.2.2⟩) fun _ _ e=>e) fun mA hA=>⟨_,hA.cl,rfl⟩
theorem tX (VV:VW Sta V NV mV)(hb:bY o=true)
  (h:wpAny (model prog w) A (eval o env) (fun ov s'1=>ov= .ref m/\Sta s'1.heap/\Fm V C s'1.heap m dm L c dc wd sp lines ps/\Q (.ref L) {s'1 with toks:=s'1.toks+1}) E s):
  wpAny (model prog w) A (eval (.Attribute o "_lines" p) env) Q E s:=
 aIs VV (by simp [fB]) hb (wpAny_mono h (fun ov s'1 h'1=>⟨h'1.1,h'1.2.1,h'1.2.2.1,fun mA v hA hv _=>by rw [hA.ls] at hv;(replace hv:=Option.some.inj hv;subst hv); exact h'1.2.2.2⟩) fun _ _ e=>e) fun mA hA=>⟨_,hA.ls,rfl⟩
theorem aL9 (VV:VW Sta V NV mV)(hb:bY o=true)
  (h:wpAny (model prog w) A (eval o env) (fun ov s'1=>ov= .ref m/\Sta s'1.heap/\Fm V C s'1.heap m dm L c dc wd sp lines ps/\∀t,Q (.int wd t) {s'1 with toks:=s'1.toks+1}) E s):
  wpAny (model prog w) A (eval (.Attribute o "_maxlen" p) env) Q E s:=
 aIs VV (by simp [fB]) hb (wpAny_mono h (fun ov s'1 h'1=>⟨h'1.1,h'1.2.1,h'1.2.2.1,fun mA v hA hv _=>by obtain ⟨t,e⟩:=hA.mx;rw [e] at hv;(replace hv:=Option.some.inj hv;subst hv); exact h'1.2.2.2 t⟩) fun _ _ e=>e) fun mA hA=>by obtain ⟨t,e⟩:=hA.mx;exact ⟨_,e,rfl⟩
theorem wJ (VV:VW Sta V NV mV)(hb:bY o=true)
  (h:wpAny (model prog w) A (eval o env) (fun ov s'1=>ov= .ref m/\Sta s'1.heap/\Fm V C s'1.heap m dm L c dc wd sp lines ps/\∀t,Q (.str sp t) {s'1 with toks:=s'1.toks+1}) E s):
  wpAny (model prog w) A (eval (.Attribute o "_splitchars" p) env) Q E s:=
 aIs VV (by simp [fB]) hb (wpAny_mono h (fun ov s'1 h'1=>⟨h'1.1,h'1.2.1,h'1.2.2.1,fun mA v hA hv _=>by obtain ⟨t,e⟩:=hA.sp;rw [e] at hv;(replace hv:=Option.some.inj hv;subst hv); exact h'1.2.2.2 t⟩) fun _ _ e=>e) fun mA hA=>by obtain ⟨t,e⟩:=hA.sp;exact ⟨_,e,rfl⟩
end
section
variable {m:Addr}
def aPb (prog:Program)(w:World)(Sta:Heap->Prop)(Z:List (Addr × Addr))(C f:Addr):Prop:=
 ∀(c dc:Addr)(A:Around)(E:Value->Shared->Prop)(s:Shared)(hb:Heap)(a b:Str)(ps:List (Str × Str)),A.depth<970->Bs Sta Z [c,dc] hb s.heap->Acc C s.heap c dc (ps++[(a,b)])->ps.length<=900->
  wpAny (model prog w) A (call (.ref f) [.ref c]) (fun v s'=>(∃ T t u,v= .ref T/\s'.heap.IsTuple T #[.str a t,.str b u])/\KW [c,dc] Z s s'/\Acc C s'.heap c dc ps) E s
def aKf (prog:Program)(w:World)(Sta:Heap->Prop)(Z:List (Addr × Addr))(C f:Addr):Prop:=
 ∀(c dc:Addr)(A:Around)(E:Value->Shared->Prop)(s:Shared)(hb:Heap)(ps:List (Str × Str)),cW A 28->Bs Sta Z [c,dc] hb s.heap->Acc C s.heap c dc ps->dM ps->eQ ps≠0->Txt.isspace (bK ps)=false->
  wpAny (model prog w) A (call (.ref f) [.ref c]) (fun v s'=>v= .bool false/\KW [] Z s s'/\Acc C s'.heap c dc ps) E s
def aE2 (prog:Program)(w:World)(Sta:Heap->Prop)(Z:List (Addr × Addr))(C f:Addr):Prop:=
 (∀ (c dc:Addr) (A:Around) (E:Value->Shared->Prop) (s:Shared) (hb:Heap) (ps:List (Str × Str)),A.depth<980->Bs Sta Z [c,dc] hb s.heap->Acc C s.heap c dc ps->ps.length<=900->
  wpAny (model prog w) A (call (.ref f) [.ref c]) (fun v s'=>v= .none/\KW [c,dc] Z s s'/\Acc C s'.heap c dc []) E s)/\
 ∀(c dc:Addr)(A:Around)(E:Value->Shared->Prop)(s:Shared)(hb:Heap)(R:Addr)(us:Array Value)(ps qs:List (Str × Str)),A.depth<980->Bs Sta Z [c,dc] hb s.heap->Acc C s.heap c dc ps->ps.length<=900->s.heap.PlainList R us->cA s.heap us.toList qs->qs.length<=900->R≠c->
  wpAny (model prog w) A (call (.ref f) [.ref c,.ref R]) (fun v s'=>v= .none/\KW [c,dc] Z s s'/\Acc C s'.heap c dc qs) E s
theorem aMa {T T2:Addr}{a b y:Str}{u t2 u2:Tok}(hA:A.units+64<cLine)(h1:s.heap.IsTuple T #[.str a t,.str b u])(h2:s.heap.IsTuple T2 #[.str x t2,.str y u2])(ha:PySem.PyData.strOk a=true)(hb:PySem.PyData.strOk b=true)(hx:PySem.PyData.strOk x=true)(hy:PySem.PyData.strOk y=true)(hne:b≠y)(h:Q (.bool true) s):
  wpAny (model prog w) A (compareOp .NotEq (.ref T) (.ref T2)) Q E s:=by
 have d1:Den s.heap (.ref T) (.tup [.str a,.str b]):= .mkTup h1 (.cons (.str _ _) (.cons (.str _ _) .nil));have d2:Den s.heap (.ref T2) (.tup [.str x,.str y]):= .mkTup h2 (.cons (.str _ _) (.cons (.str _ _) .nil));obtain ⟨as,ra⟩:=lF d1 (.tuple [.str a,.str b]) rfl;obtain ⟨bs,rb⟩:=lF d2 (.tuple [.str x,.str y]) rfl;refine ne_dataH ra rb (by simp [SeqAt.shaped,PyData.canLay0,PyData.canLayAll0,PyData.depth,PyData.depthAll,ha,hb]) (by simp [SeqAt.shaped,PyData.canLay0,PyData.canLayAll0,PyData.depth,PyData.depthAll,hx,hy]) hA ?_;have:PyData.eqv (.tuple [.str a,.str b]) (.tuple [.str x,.str y])=false:=by
  simp [PyData.eqv,PyData.eqvAll,hne]
 rw [this];exact h
set_option genInjectivity false in
structure FA where
 push:Addr
 pop:Addr
 len:Addr
 str:Addr
 only:Addr
 reset:Addr
 count:Addr
 pf:Addr
def tY (prog:Program)(w:World)(Sta:Heap->Prop)(Z:List (Addr × Addr))(C f:Addr):Prop:=
 ∀(c dc:Addr)(A:Around)(E:Value->Shared->Prop)(s:Shared)(hb:Heap)(ps:List (Str × Str))(j:Nat)(t:Tok),j<=ps.length->A.depth<980->Bs Sta Z [c,dc] hb s.heap->Acc C s.heap c dc ps->ps.length<=900->
  wpAny (model prog w) A (call (.ref f) [.ref c,.int j t]) (fun v s'=>(∃ R us,v= .ref R/\s'.heap.PlainList R us/\cA s'.heap us.toList (ps.drop j)/\s.heap.get? R=none)/\KW [c,dc] Z s s'/\Acc C s'.heap c dc (ps.take j)) E s
structure pU (prog:Program)(w:World)(Sta:Heap->Prop)(Z:List (Addr × Addr))(C:Addr)(mN:Str->Option Value)(f:FA):Prop where
 mpush:Mth Sta mN "push" f.push
 mpop:Mth Sta mN "pop" f.pop
 mlen:Mth Sta mN "__len__" f.len
 mstr:Mth Sta mN "__str__" f.str
 monly:Mth Sta mN "is_onlyws" f.only
 mreset:Mth Sta mN "reset" f.reset
 mcount:Mth Sta mN "part_count" f.count
 mpf:Mth Sta mN "pop_from" f.pf
 push:tN prog w Sta Z C f.push
 pop:aPb prog w Sta Z C f.pop
 len:aBl prog w Sta Z C f.len
 str:aEu prog w Sta Z C f.str
 only:aKf prog w Sta Z C f.only
 reset:aE2 prog w Sta Z C f.reset
 count:rD prog w Sta Z C f.count
 pf:tY prog w Sta Z C f.pf
theorem aBr {T:Addr}{vals:Array Value}{Q:List Value->Shared->Prop}(h:s.heap.IsTuple T vals)(hsz:vals.size<=1000)(hQ:∀h',(∀ b o,s.heap.get? b=some o->h'.get? b=some o)->Q vals.toList {s with heap:=h'}):
  StarOf (model prog w) A E (.ref T) Q s:=by
 obtain ⟨o,ho,hc,n,hd⟩:=h;unfold StarOf notIterableAtAll;refine wpAny_bind (wpAny_specialOf (T:="tuple") ⟨o,ho,hc⟩ PySem.F.slot_tuple_iter.lookup (wpAny_pure ⟨rfl,?_⟩));exact wpAny_collect_seq T (.inr rfl) ho hc hd hQ (by rw [sizeLine_eq]; exact lit hsz rfl)
def jJ (prog:Program)(w:World)(Sta:Heap->Prop)(Z:List (Addr × Addr))(V C f:Addr):Prop:=
 ∀(m dm L c dc:Addr)(wd:Int)(sp:Str)(lines:List Str)(A:Around)(E:Value->Shared->Prop)(s:Shared)(hb:Heap)(a b:Str)(ps:List (Str × Str)),cW A 35->Bs Sta Z [m,dm,L,c,dc] hb s.heap->Fm V C s.heap m dm L c dc wd sp lines (ps++[(a,b)])->
  dM (ps++[(a,b)])->lines.length<=900->PyData.strOk a=true->PyData.strOk b=true->b≠""->eQ (ps++[(a,b)])>0->Txt.isspace (bK (ps++[(a,b)]))=false->
  wpAny (model prog w) A (call (.ref f) [.ref m]) (fun v s'=>v= .none/\KW [L,c,dc] Z s s'/\Fm V C s'.heap m dm L c dc wd sp (lines++[bK (ps++[(a,b)])]) []) E s
theorem Fm.loc {l:Addr}(F:Fm V C h m dm L c dc wd sp lines ps)(hn:h.Ns l mm)(hs:Heap.SameBut l h h')(hl:l∉[m,dm,L,c,dc]):Fm V C h' m dm L c dc wd sp lines ps:=by
 obtain ⟨o,h1,h2,h3,h4,h5⟩:=F.obj;obtain ⟨mA,h6,h7⟩:=F.att;obtain ⟨us,h8,h9⟩:=F.lines;have ne:∀y∈[m,dm,L,c,dc],y≠l:=fun y hy q=>hl (q▸hy)
 exact ⟨⟨o,hs.extBut _ _ (ne m (by simp)) h1,h2,h3,h4,h5⟩,⟨mA,h6.at fun o e=>hs.extBut _ _ (ne dm (by simp)) e,h7⟩,⟨us,h8.at fun o e=>hs.extBut _ _ (ne L (by simp)) e,h9⟩,F.acc.loc hn hs (fun q=>hl (by simp only [List.mem_cons,List.not_mem_nil,or_false] at q ⊢; rcases q with q | q <;> simp [q])),F.ap⟩
theorem Fm.append {us:Array Value}(F:Fm V C h m dm L c dc wd sp lines ps)(hL:h.PlainList L us)(hu:StrsAre us.toList lines)(hL':h'.PlainList L (us.push (.str x t)))(hs:Heap.SameBut L h h'):Fm V C h' m dm L c dc wd sp (lines++[x]) ps:=by
 obtain ⟨o,h1,h2,h3,h4,h5⟩:=F.obj;obtain ⟨mA,h6,h7⟩:=F.att;have ap:=F.ap;refine ⟨⟨o,hs.extBut _ _ (fun q=>ap.1 (by simp [q])) h1,h2,h3,h4,h5⟩,⟨mA,h6.at fun o e=>hs.extBut _ _ (fun q=>ap.2.1 (by simp [q])) e,h7⟩,⟨_,hL',?_⟩,?_,F.ap⟩
 ·exact strsAre_push hu
 ·obtain ⟨vs,x1,x2⟩:=F.acc.seq;obtain ⟨t',x3⟩:=F.acc.dict;obtain ⟨n,hl⟩:=hL;exact ⟨⟨vs,x1.at fun o e=>hs.extBut _ _ (fun q=>ap.2.2 (by simp [q])) e,x2.keeps fun T vals zz=>by obtain ⟨o,e,hc,r⟩:=zz;exact ⟨o,hs.extBut T o (fun q=>by rw [q,hl] at e;(replace e:=Option.some.inj e;subst e); exact absurd (show Value.type "list"=Value.type "tuple" from hc) (by decide)) e,hc,r⟩⟩,⟨t',x3.at fun o e=>hs.extBut _ _ (fun q=>ap.2.2 (by simp [q])) e⟩,F.acc.ne⟩
end
section
variable {orelse:List Stmt}{M:List Addr}{xv:AV}{m:Str->Option Value}{Q:Flow->Shared->Prop}{QE:Value->Shared->Prop}
theorem aIt (hh:A.handled=none)(hi:bL xv=some [])(hd:Den (hide s'1.heap M) y xv)
  (h:∀(s'2:Shared)(E':Value->Shared->Prop),eU s'1 s'2->wpAny (model prog w) A (execs orelse env) Q E' s'2):
  wpAny (model prog w) A (pyIter y) (fun itv s'2=>codeAny (model prog w) A (.forLoop (.Name x px) itv body orelse env) (fun r s'=>match r with
   | .ok fl=>Q fl s'
   | .error e=>QE e s') s'2) E s'1:=by
 refine dU hh hi hd fun I fp wr P St0 s'2 src=> ?_
 obtain ⟨W,hst,hfp,hwr,k12,hP,hex,hvis⟩:=src;refine codeAny_forLoop_any (fun k s'=>k=0/\s'=s'2) ?_ 0 ⟨rfl,rfl⟩
 rintro k s' ⟨rfl,rfl⟩
 refine W.done _ _ _ hst fun h'3 tk3 hk3=> ?_
 obtain ⟨h'2,tk'2,rfl,k⟩:=id k12;exact h _ _ ⟨h'3,tk3,rfl,fun b o e=>hk3 b o (fun q=>by rw [hwr b q] at e;exact no1 e) (k b o e)⟩
theorem aE3 (hh:A.handled=none){a:AV}(hi:bL xv=some (a::l))(hd:Den (hide s'1.heap M) y xv)(hx:env.kindOf x=some .local)(hp:(env.scope.kind== .class||(env.scope.kind== .module&&env.locals !=env.globals))=false)(hns:s'1.heap.Ns env.locals m)
  (h:∀(v:Value)(h'2 h'3:Heap)(tk:Tok)(E':Value->Shared->Prop),Den (hide s'1.heap M) v a->(∀ b o,s'1.heap.get? b=some o->h'2.get? b=some o)->Heap.SameBut env.locals h'2 h'3->h'3.Ns env.locals (fun z=>if z=x then some v else m z)->
   wpAny (model prog w) A (execs body env) (fun f s'=>f= .brk/\Q .next s') E' {s'1 with heap:=h'3,toks:=tk}):
  wpAny (model prog w) A (pyIter y) (fun itv s'2=>codeAny (model prog w) A (.forLoop (.Name x px) itv body orelse env) (fun r s'=>match r with
   | .ok fl=>Q fl s'
   | .error e=>QE e s') s'2) E s'1:=by
 refine dU hh hi hd fun I fp wr P St0 s'2 src=> ?_
 obtain ⟨W,hst,hfp,hwr,k12,hP,hex,hvis⟩:=src;obtain ⟨h'2,tk'2,rfl,kg⟩:=k12;refine codeAny_forLoop_any (fun k s'=>k=0/\s'=_) ?_ 0 ⟨rfl,rfl⟩
 rintro k s' ⟨rfl,rfl⟩
 refine W.item 0 _ _ _ (by simp) hst fun v h'3 tk3 hPv hst3 hk3=> ?_
 refine wpAny_pure ?_;have k13:∀b o,s'1.heap.get? b=some o->h'3.get? b=some o:=fun b o e=>hk3 b o (fun q=>by rw [hwr b q] at e;exact no1 e) (kg b o e)
 refine wpAny_assign_Name (wpAny_storeName_local hx (hns.keeps k13) (fun h'4 hns'4 hs4=> ?_) hp);refine wpAny_mono (h v h'3 h'4 _ _ (hP 0 v a hPv rfl) k13 hs4 hns'4) (fun f s5 h'5=> ?_) fun _ _ q=>q
 obtain ⟨rfl,h'5⟩:=h'5;exact h'5
theorem aMb (hh:A.handled=none){a:AV}(hi:bL xv=some [a])(hd:Den (hide s'1.heap M) y xv)(hx:env.kindOf x=some .local)(hp:(env.scope.kind== .class||(env.scope.kind== .module&&env.locals !=env.globals))=false)(hns:s'1.heap.Ns env.locals m)
  (hM:∀b∈M,∃o,s'1.heap.get? b=some o) (hL:env.locals∈M)
  (h:∀(v:Value)(h'2 h'3:Heap)(tk:Tok)(E':Value->Shared->Prop),Den (hide s'1.heap M) v a->(∀ b o,s'1.heap.get? b=some o->h'2.get? b=some o)->Heap.SameBut env.locals h'2 h'3->h'3.Ns env.locals (fun z=>if z=x then some v else m z)->
   wpAny (model prog w) A (execs body env) (fun f s'=>(f= .next\/f= .cont)/\(∀ b o,b∉M->h'3.get? b=some o->s'.heap.get? b=some o)/\
    ∀(h'4:Heap)(tk4:Tok)(E'':Value->Shared->Prop),(∀ b o,(∃ o',s'1.heap.get? b=some o')->s'.heap.get? b=some o->h'4.get? b=some o)->wpAny (model prog w) A (execs orelse env) Q E'' {s' with heap:=h'4,toks:=tk4}) E' {s'1 with heap:=h'3,toks:=tk}):
  wpAny (model prog w) A (pyIter y) (fun itv s'2=>codeAny (model prog w) A (.forLoop (.Name x px) itv body orelse env) (fun r s'=>match r with
   | .ok fl=>Q fl s'
   | .error e=>QE e s') s'2) E s'1:=by
 refine dU hh hi hd fun I fp wr P St0 s'2 src=> ?_
 obtain ⟨W,hst,hfp,hwr,k12,hP,hex,hvis⟩:=src;obtain ⟨h'2,tk'2,rfl,kg⟩:=k12;have hfM:∀b∈fp,b∉M:=fun b q r=>by
  by_cases hb:b∈wr
  ·obtain ⟨o,e⟩:=hM b r;rw [hwr b hb] at e;exact no1 e
  ·obtain ⟨o,e⟩:=hvis b q hb;exact (aB.mp e).1 r
 refine codeAny_forLoop_any (fun k s'=>(k=1/\s'={s'1 with heap:=h'2,toks:=tk'2})\/(k=0/\St0 1 s'.heap/\∀(h'4:Heap)(tk4:Tok)(E'':Value->Shared->Prop),(∀ b o,(∃ o',s'1.heap.get? b=some o')->s'.heap.get? b=some o->h'4.get? b=some o)->wpAny (model prog w) A (execs orelse env) Q E'' {s' with heap:=h'4,toks:=tk4})) ?_ 1 (.inl ⟨rfl,rfl⟩)
 rintro k s' (⟨rfl,rfl⟩ | ⟨rfl,hst',hq⟩)
 ·refine W.item 0 _ _ _ (by simp) hst fun v h'3 tk3 hPv hst3 hk3=> ?_
  refine wpAny_pure ?_;have k13:∀b o,s'1.heap.get? b=some o->h'3.get? b=some o:=fun b o e=>hk3 b o (fun q=>by rw [hwr b q] at e;exact no1 e) (kg b o e)
  refine wpAny_assign_Name (wpAny_storeName_local hx (hns.keeps k13) (fun h'4 hns'4 hs4=> ?_) hp);refine wpAny_mono (h v h'3 h'4 _ _ (hP 0 v a hPv rfl) k13 hs4 hns'4) (fun f s5 h'5=> ?_) fun _ _ q=>q
  obtain ⟨hf,hk5,h'5⟩:=h'5;have hst5:St0 1 s5.heap:=W.frame _ _ _ hst3 fun b hb o e=>hk5 b o (hfM b hb) (hs4.extBut b o (fun q=>hfM b hb (q▸hL)) e)
  rcases hf with rfl | rfl
  ·exact ⟨0,by exact Nat.le_refl _,.inr ⟨rfl,hst5,h'5⟩⟩
  ·exact ⟨0,by exact Nat.le_refl _,.inr ⟨rfl,hst5,h'5⟩⟩
 ·refine W.done _ _ _ hst' fun h'3 tk3 hk3=> ?_
  exact hq h'3 tk3 _ fun b o ⟨o',e'⟩ e=>hk3 b o (fun q=>by rw [hwr b q] at e';exact no1 e') e
end
section
theorem up5 {m:Addr}:∀y,y∈[c,dc]->y∈[m,dm,L,c,dc]:=fun _ h=> .tail _ (.tail _ (.tail _ h))
theorem aIu {m:Addr}:∀y,y∈[L,c,dc]->y∈[m,dm,L,c,dc]:=fun _ h=> .tail _ (.tail _ h)
theorem up3:∀y,y∈[c,dc]->y∈[L,c,dc]:=fun _ h=> .tail _ h
set_option genInjectivity false in
structure FX where
 prog:Program
 w:World
 Sta:Heap->Prop
 Z:List (Addr × Addr)
 V:Addr
 NV:Addr
 C:Addr
 N:Addr
 m:Addr
 dm:Addr
 L:Addr
 c:Addr
 dc:Addr
 mV:Str->Option Value
 mN:Str->Option Value
 mg:Str->Option Value
 mb:Str->Option Value
 wd:Int
 sp:Str
 hb:Heap
 f:FA
 A:Around
 env:Env
 fd:FuncData
 s0:Shared
namespace FX
noncomputable abbrev all (X:FX):List Addr:=[X.m,X.dm,X.L,X.c,X.dc]
structure Ok (X:FX):Prop where
 W:FW X.prog X.w X.Sta X.Z X.mg X.mb
 K:AW X.prog X.w X.Sta X.C X.N X.mN
 VV:VW X.Sta X.V X.NV X.mV
 LK:pU X.prog X.w X.Sta X.Z X.C X.mN X.f
 kf:X.env.scope.kind= .function
 ko:∀x,X.env.kindOf x=knd X.fd x
 ge:X.env.globals=mainGlobals
 be:X.env.builtins=builtinsNs
 LF:X.env.locals∉X.all
 LZ:X.env.locals∉X.Z.map (·.2)
 self:knd X.fd "self"=some .local
 B:Bs X.Sta X.Z X.all X.hb X.s0.heap
 new:X.s0.heap.get? X.env.locals=none
 R:cW X.A 34
structure At (X:FX)(s:Shared)(mm:Str->Option Value)(ln:List Str)(ps:List (Str × Str)):Prop where
 ns:s.heap.Ns X.env.locals mm
 F:Fm X.V X.C s.heap X.m X.dm X.L X.c X.dc X.wd X.sp ln ps
 w:KW [X.L,X.c,X.dc] X.Z X.s0 s
 me:mm "self"=some (.ref X.m)
variable {X:FX}{mm':Str->Option Value}{ln:List Str}
theorem At.B (J:At X s mm ln ps)(O:Ok X):Bs X.Sta X.Z X.all X.hb s.heap:=O.B.of (J.w.weaken aIu)
theorem At.st (J:At X s mm ln ps)(O:Ok X):X.Sta s.heap:=(J.B O).st O.W.sz
theorem At.keep (J:At X s mm ln ps)(k:∀b o,s.heap.get? b=some o->h'.get? b=some o):At X {s with heap:=h',toks:=t} mm ln ps:=⟨J.ns.keeps k,J.F.keeps k,J.w.trans (KW.of_keep k),J.me⟩
theorem At.tok (J:At X s mm ln ps):At X {s with toks:=t} mm ln ps:=J.keep fun _ _ e=>e
theorem At.call (J:At X s mm ln ps)(O:Ok X)(k:KW [X.c,X.dc] X.Z s s')(x:Acc X.C s'.heap X.c X.dc qs):At X s' mm ln qs:=⟨Ns.kw J.ns k (fun q=>O.LF (up5 _ q)) O.LZ,J.F.step (J.B O) k x,J.w.trans (k.weaken up3),J.me⟩
theorem At.set (J:At X s mm ln ps)(O:Ok X)(hn:h'.Ns X.env.locals mm')(hs:Heap.SameBut X.env.locals s.heap h')(e:mm' "self"=some (.ref X.m)):At X {s with heap:=h',toks:=t} mm' ln ps:=⟨hn,J.F.loc J.ns hs O.LF,KW.fresh J.w O.new hs,e⟩
theorem Ok.sub (O:Ok X)(J:At X s mm ln ps):Bs X.Sta X.Z [X.c,X.dc] X.hb s.heap:=(J.B O).sub up5
theorem me (O:Ok X)(J:At X s mm ln ps)(h:Q (.ref X.m) s):wpAny (model X.prog X.w) X.A (eval (.Name "self" p) X.env) Q E s:=nm O.kf ((O.ko _).trans O.self) J.ns J.me rfl h
theorem name (O:Ok X)(J:At X s mm ln ps){v:Value}(k:knd X.fd x=some .local)(e:mm x=some v)(d:(x==("__debug__":Str))=false)(h:Q v s):wpAny (model X.prog X.w) X.A (eval (.Name x p) X.env) Q E s:=nm O.kf ((O.ko _).trans k) J.ns e d h
theorem line (O:Ok X)(J:At X s mm ln ps)(h:∀s',s'.heap=s.heap->At X s' mm ln ps->Q (.ref X.c) s'):wpAny (model X.prog X.w) X.A (eval (.Attribute (.Name "self" p) "_current_line" q) X.env) Q E s:=
 rG O.VV rfl (me O J ⟨rfl,J.st O,J.F,h _ rfl J.tok⟩)
theorem store (O:Ok X)(J:At X s mm ln ps){v:Value}{Q:Unit->Shared->Prop}(k:knd X.fd x=some .local)(d:ofString "self"≠x)(h:∀s',Heap.SameBut X.env.locals s.heap s'.heap->At X s' (fun z=>if z=x then some v else mm z) ln ps->Q () s'):wpAny (model X.prog X.w) X.A (storeName X.env x v) Q E s:=
 wpAny_storeName_local ((O.ko _).trans k) J.ns (fun _ hn hs=>h _ hs (J.set O hn hs ((if_neg d).trans J.me))) (by rw [O.kf]; rfl)
theorem meth (O:Ok X)(J:At X s mm ln ps){n:Str}{f:Addr}(M:Mth X.Sta X.mN n f)(hl:(p2.endLine==p3.line)=true)(hs:(backTo p3 (starEach args X.env)).any (·.1)=false)(hn:args.length<30)
  (h:∀s',s'.heap=s.heap->At X s' mm ln ps->wpAny (model X.prog X.w) X.A (spliced (backTo p3 (starEach args X.env))) (fun vs s'2=>X.Sta s'2.heap/\wpAny (model X.prog X.w) X.A (call (.ref f) (.ref X.c::vs)) Q E s'2) E s'):
  wpAny (model X.prog X.w) X.A (eval (.Call (.Attribute (.Attribute (.Name "self" p0) "_current_line" p1) n p2) args [] p3) X.env) Q E s:=
 aL0 (c:=X.c) O.K M rfl hl hs hn (line O J fun s' e J'=>⟨rfl,J'.st O,J'.F.acc.inst,h s' e J'⟩)
theorem aMc (O:Ok X)(J:At X s mm ln ps){n:Str}{f:Addr}(M:Mth X.Sta X.mN n f)(hl:(p2.endLine==p3.line)=true)
  (h:∀s',s'.heap=s.heap->At X s' mm ln ps->wpAny (model X.prog X.w) X.A (call (.ref f) [.ref X.c]) Q E s'):
  wpAny (model X.prog X.w) X.A (eval (.Call (.Attribute (.Attribute (.Name "self" p0) "_current_line" p1) n p2) [] [] p3) X.env) Q E s:=
 meth O J M hl rfl (Nat.le_of_ble_eq_true rfl) fun s' e J'=>wpAny_items_nil ⟨J'.st O,h s' e J'⟩
theorem Ok.dp (O:Ok X)(h:956<=n):X.A.depth<n:=Nat.lt_of_lt_of_le (Nat.lt_of_add_lt_add_right (n:=34) O.R.depth) h
theorem pop (O:Ok X){a b:Str}(J:At X s mm ln (ps++[(a,b)]))(hn:ps.length<=900)(hl:(p2.endLine==p3.line)=true)(h:∀s' T t u,s'.heap.IsTuple T #[.str a t,.str b u]->At X s' mm ln ps->Q (.ref T) s'):
  wpAny (model X.prog X.w) X.A (eval (.Call (.Attribute (.Attribute (.Name "self" p0) "_current_line" p1) "pop" p2) [] [] p3) X.env) Q E s:=
 aMc O J O.LK.mpop hl fun s'1 _ J=>wpAny_mono (O.LK.pop X.c X.dc _ _ _ X.hb a b ps (O.dp (Nat.le_of_ble_eq_true rfl)) (O.sub J) J.F.acc hn) (fun v s'2 h'2=>by
  obtain ⟨⟨T,t,u,e,hT⟩,k,x⟩:=h'2;exact e▸h s'2 T t u hT (J.call O k x)) fun _ _ e=>e
theorem only (O:Ok X)(J:At X s mm ln ps)(hs:dM ps)(hp:eQ ps>0)(hw:Txt.isspace (bK ps)=false)(hl:(p2.endLine==p3.line)=true)(h:∀s',At X s' mm ln ps->Q (.bool false) s'):
  wpAny (model X.prog X.w) X.A (eval (.Call (.Attribute (.Attribute (.Name "self" p0) "_current_line" p1) "is_onlyws" p2) [] [] p3) X.env) Q E s:=
 aMc O J O.LK.monly hl fun s'1 _ J=>wpAny_mono (O.LK.only X.c X.dc _ _ _ X.hb ps (O.R.less (Nat.le_of_ble_eq_true rfl)) (O.sub J) J.F.acc hs (Int.ne_of_gt hp) hw) (fun v s'2 h'2=>by
  obtain ⟨e,k,x⟩:=h'2;exact e▸h s'2 (J.call O k.wk x)) fun _ _ e=>e
theorem count (O:Ok X)(J:At X s mm ln ps)(hl:(p2.endLine==p3.line)=true)(h:∀s' t,KW [] X.Z s s'->At X s' mm ln ps->Q (.int ps.length t) s'):
  wpAny (model X.prog X.w) X.A (eval (.Call (.Attribute (.Attribute (.Name "self" p0) "_current_line" p1) "part_count" p2) [] [] p3) X.env) Q E s:=by
 refine aL0 (c:=X.c) O.K O.LK.mcount rfl hl rfl (Nat.le_of_ble_eq_true rfl) (rG O.VV rfl (me O J ⟨rfl,J.st O,J.F,rfl,J.st O,J.F.acc.inst,wpAny_items_nil ⟨J.st O,?_⟩⟩));have J':At X {s with toks:=s.toks+1} mm ln ps:=J.tok;refine wpAny_mono (O.LK.count X.c X.dc _ _ _ X.hb ps (O.dp (Nat.le_of_ble_eq_true rfl)) (O.sub J') J'.F.acc) (fun v s'2 h'2=> ?_) fun _ _ e=>e
 obtain ⟨⟨t,e⟩,k,x⟩:=h'2;exact e▸h s'2 t (KW.toks.trans k) (J'.call O k.wk x)
theorem aPc (O:Ok X)(J:At X s mm ln ps)(hn:ps.length<=900)(hl:(p2.endLine==p3.line)=true)(h:∀s',At X s' mm ln []->Q .none s'):
  wpAny (model X.prog X.w) X.A (eval (.Call (.Attribute (.Attribute (.Name "self" p0) "_current_line" p1) "reset" p2) [] [] p3) X.env) Q E s:=
 aMc O J O.LK.mreset hl fun s'1 _ J=>wpAny_mono (O.LK.reset.1 X.c X.dc _ _ _ X.hb ps (O.dp (Nat.le_of_ble_eq_true rfl)) (O.sub J) J.F.acc hn) (fun v s'2 h'2=>by
  obtain ⟨e,k,x⟩:=h'2;exact e▸h s'2 (J.call O k x)) fun _ _ e=>e
theorem len (O:Ok X)(J:At X s mm ln ps)(hs:dM ps)(kl:knd X.fd "len"=some .globalImplicit)(h:∀s' t,At X s' mm ln ps->Q (.int (eQ ps) t) s'):
  wpAny (model X.prog X.w) X.A (eval (.Call (.Name "len" p0) [.Attribute (.Name "self" p1) "_current_line" p2] [] p3) X.env) Q E s:=by
 obtain ⟨hg,hb⟩:=O.W.ns _ (J.st O);refine dN O.kf ((O.ko _).trans kl) rfl (O.ge▸hg) (O.be▸hb) O.W.len.1 O.W.len.2 rfl (wpAny_items_cons (line O J fun s'1 _ J=>wpAny_items_nil (wpAny_mono (aQ9 (hb:=X.hb) O.W O.K O.LK.mlen O.LK.len (O.R.less (Nat.le_of_ble_eq_true rfl)) (O.sub J) J.F.acc hs) (fun v s'2 h'2=> ?_) fun _ _ e=>e)));obtain ⟨⟨t,e⟩,k,x⟩:=h'2;exact e▸h s'2 t (J.call O k.wk x)
theorem str (O:Ok X)(J:At X s mm ln ps)(hs:dM ps)(kl:knd X.fd "str"=some .globalImplicit)(h:∀s' t,KW [] X.Z s s'->At X s' mm ln ps->Q (.str (bK ps) t) s'):
  wpAny (model X.prog X.w) X.A (eval (.Call (.Name "str" p0) [.Attribute (.Name "self" p1) "_current_line" p2] [] p3) X.env) Q E s:=by
 obtain ⟨hg,hb⟩:=O.W.ns _ (J.st O);refine nQ O.kf ((O.ko _).trans kl) rfl (O.ge▸hg) (O.be▸hb) O.W.str.1 O.W.str.2 rfl (wpAny_items_cons (rG O.VV rfl (me O J ⟨rfl,J.st O,J.F,wpAny_items_nil ?_⟩)));have J':At X {s with toks:=s.toks+1} mm ln ps:=J.tok;refine wpAny_mono (aO8 (hb:=X.hb) O.W O.K O.LK.mstr O.LK.str (O.R.less (Nat.le_of_ble_eq_true rfl)) (O.sub J') J'.F.acc hs) (fun v s'2 h'2=> ?_) fun _ _ e=>e
 obtain ⟨⟨t,e⟩,k,x⟩:=h'2;exact e▸h s'2 t (KW.toks.trans k) (J'.call O k.wk x)
end FX
end
section
namespace FX
variable {X:FX}{ln:List Str}{Q:Flow->Shared->Prop}
theorem append (O:Ok X)(J:At X s mm ln ps)(hs:dM ps)(hn:ln.length<=900)(kl:knd X.fd "str"=some .globalImplicit)(hl:(p44.endLine==p49.line)=true)
  (h:∀s',(∀ b o,b≠X.L->b∉X.Z.map (·.2)->s.heap.get? b=some o->s'.heap.get? b=some o)->At X s' mm (ln++[bK ps]) ps->Q .next s'):
  wpAny (model X.prog X.w) X.A (exec (.Expr ((((Name "self" p42).Attribute "_lines" p43).Attribute "append" p44).Call [(Name "str" p45).Call [(Name "self" p46).Attribute "_current_line" p47] [] p48] [] p49) p50) X.env) Q E s:=by
 obtain ⟨us,hL,hu⟩:=J.F.lines;obtain ⟨k,e⟩:=id hL;refine wpAny_Expr_any (wpAny_Call_append rfl rfl hl rfl (tX O.VV rfl (me O J ⟨rfl,J.st O,J.F,_,_,rfl,⟨_,k,e,rfl,rfl,rfl⟩,?_⟩))) (rC O.kf) rfl;have J1:At X {s with toks:=s.toks+1} mm ln ps:=J.tok;refine str O J1 hs kl fun s4 t kw J4=> ?_
 have nz:X.L∉X.Z.map (·.2):=fun q=>by obtain ⟨v,hv,e⟩:=List.mem_map.mp q;exact ((J.B O).z.apart v hv X.L (.tail _ (.tail _ (.head _)))).2 e.symm
 have hL4:s4.heap.PlainList X.L us:=hL.at fun o e=>kw.keep X.L o (fun h=>nomatch h) nz e
 have hus:=strsAre_size hu;refine wpAny_list_append_plain hL4 (fun h' hL5 hs5=> ?_) (by rw [sizeLine_eq]; exact lit (hus▸hn) rfl);have w5:KW [X.L,X.c,X.dc] X.Z X.s0 {s4 with heap:=h'}:=J4.w.trans (KW.change (tk:=s4.toks) (.head _) ((J4.B O).sub aIu).z hs5);exact h _ (fun b o h1 h2 e=>hs5.extBut b o h1 (kw.keep b o (fun h=>nomatch h) h2 e)) ⟨J4.ns.at' fun o e=>hs5.extBut _ o (fun q=>O.LF (q▸ .tail _ (.tail _ (.head _)))) e,J4.F.append hL4 hu hL5 hs5,w5,J4.me⟩
theorem newline_tail (O:Ok X)(J:At X s mm ln ps){aug l rest:List Stmt}
  (el:l=Stmt.If (((Name "len" p19).Call [(Name "self" p20).Attribute "_current_line" p21] [] p22).Compare [.Gt] [Constant (.int 0) 0 p23] p24) [Stmt.If (Expr.BoolOp .And [(((Name "self" p25).Attribute "_current_line" p26).Attribute "is_onlyws" p27).Call [] [] p28,(Name "self" p29).Attribute "_lines" p30] p31) aug
    [Stmt.Expr ((((Name "self" p42).Attribute "_lines" p43).Attribute "append" p44).Call [(Name "str" p45).Call [(Name "self" p46).Attribute "_current_line" p47] [] p48] [] p49) p50] p51] [] p52::rest)
  (hr:rest=[Stmt.Expr ((((Name "self" p53).Attribute "_current_line" p54).Attribute "reset" p55).Call [] [] p56) p57])
  (hl2:(p27.endLine==p28.line)=true) (hl3:(p44.endLine==p49.line)=true) (hl4:(p55.endLine==p56.line)=true) (hlen:knd X.fd "len"=some .globalImplicit) (hstr:knd X.fd "str"=some .globalImplicit)
  (hsm:dM ps) (hln:ln.length<=900) (hpl:eQ ps>0) (hsp:Txt.isspace (bK ps)=false)
  (h:∀s',At X s' mm (ln++[bK ps]) []->Q .next s'):
  wpAny (model X.prog X.w) X.A (execs l X.env) Q E s:=
 iC el fun R n _=>wpAny_If (wpAny_isTrue_Compare1 (len O J hsm hlen fun s'1 t J=>wpAny_Constant_int (gt_int (by
  rw [decide_eq_true hpl];refine wpAny_truthy_bool (dF fun R1 n1 _=>wpAny_If (wpAny_isTrue_BoolOp (wpAny_allTrue_And_cons (isTrue_plain (only O J.tok hsm hpl hsp hl2 fun s'2 J=>wpAny_truthy_bool ?_) rfl))));refine dF fun R2 n2 _=>append O J hsm hln hstr hl3 fun s'3 _ J=>n2 _ (wpAny_execs_nil (n1 _ (wpAny_execs_nil (n _ ?_))))
  exact iC hr fun R3 n3 _=>wpAny_Expr_any (aPc O J hsm.1 hl4 fun s4 J=>n3 _ (wpAny_execs_nil (h s4 J))) (rC O.kf) rfl))) (by rfl))
end FX
end
theorem rH (k:∀b o,h.get? b=some o->h'.get? b=some o){T:Addr}{vals:Array Value}(x:h.IsTuple T vals):h'.IsTuple T vals:=by
 obtain ⟨o,e,r⟩:=x;exact ⟨o,k _ _ e,r⟩
namespace FX
section
variable {X:FX}{ln:List Str}{Q:Flow->Shared->Prop}
theorem eol_test (O:Ok X)(J:At X s mm ln ps){T:Addr}{a b:Str}{u:Tok}{whole:Sem Value}{Q:Bool->Shared->Prop}(kx:knd X.fd "end_of_line"=some .local)(m1:mm "end_of_line"=some (.ref T))(hT:s.heap.IsTuple T #[.str a t,.str b u])(hoa:PyData.strOk a=true)(hob:PyData.strOk b=true)(hbe:b≠"")
  (h:∀s',s'.heap.IsTuple T #[.str a t,.str b u]->At X s' mm ln ps->Q true s'):
  wpAny (model X.prog X.w) X.A (isTrue ((Name "end_of_line" p6).Compare [.NotEq] [Expr.Tuple [Constant (.str " ") 0 p7,Constant (.str "") 0 p8] 0 p9] p10) X.env whole) Q E s:=by
 refine wpAny_isTrue_Compare1 (name O J kx m1 rfl (wpAny_Tuple (wpAny_items_cons (wpAny_Constant_str (wpAny_items_cons (wpAny_Constant_str (wpAny_items_nil ⟨by rw [sizeLine_eq]; show 2<=_;decide,?_⟩))))))) (by rfl);refine aMa (by have:=O.R.units;unfold cLine;lia) (rH (fun _ _ e=>Heap.get?_push_of_some _ e) hT) ⟨_,Heap.get?_push_size _ rfl,rfl,_,rfl⟩ hoa hob (by decide+kernel) (by decide+kernel) hbe (wpAny_truthy_bool (h _ ?_ ?_))
 ·exact rH (fun _ _ e=>Heap.get?_push_of_some _ e) hT
 ·exact (At.keep (t:=s.toks+1+1) J fun _ _ e=>Heap.get?_push_of_some _ e).tok
theorem push_star (O:Ok X)(J:At X s mm ln ps){T:Addr}{a b:Str}{u:Tok}{Q:Value->Shared->Prop}(kx:knd X.fd "end_of_line"=some .local)(m1:mm "end_of_line"=some (.ref T))(hT:s.heap.IsTuple T #[.str a t,.str b u])(hn:ps.length<=900)
  (h:∀s',At X s' mm ln (ps++[(a,b)])->Q .none s'):
  wpAny (model X.prog X.w) X.A (eval ((((Name "self" p11).Attribute "_current_line" p12).Attribute "push" p13).Call [(Name "end_of_line" p14).Starred p15] [] p16) X.env) Q E s:=by
 refine aE1 (c:=X.c) (dc:=X.dc) (ps:=ps) O.K O.LK.mpush rfl rfl (line O J fun s'1 e J=>⟨rfl,J.st O,J.F.acc,fun q hq=> ?_⟩);have k:∀b o,s'1.heap.get? b=some o->(s'1.heap.push {cls:= .type "method",data:= .fields #[.ref X.f.push,.ref X.c]}).get? b=some o:=fun _ _ e=>Heap.get?_push_of_some _ e
 have hq1:(s'1.heap.push {cls:= .type "method",data:= .fields #[.ref X.f.push,.ref X.c]}).get? q=some {cls:= .type "method",data:= .fields #[.ref X.f.push,.ref X.c]}:=hq▸Heap.get?_push_size _ rfl;have J2:At X {s'1 with heap:=s'1.heap.push {cls:= .type "method",data:= .fields #[.ref X.f.push,.ref X.c]},toks:=s'1.toks+1} mm ln ps:=J.keep k;refine name O J2 kx m1 rfl (aBr (rH k (e▸hT)) (by show 2<=1000;decide) fun h'6 k6=> ?_);have J3:At X {s'1 with heap:=h'6,toks:=s'1.toks+1} mm ln ps:=At.keep (s:={s'1 with heap:=s'1.heap.push _,toks:=s'1.toks+1}) J2 k6;exact ⟨⟨k6 _ _ hq1,J3.st O⟩,O.LK.push X.c X.dc _ _ X.hb a b t u ps (O.dp (Nat.le_of_ble_eq_true rfl)) (O.sub J3) J3.F.acc hn fun s' w x=>h s' (J3.call O w x)⟩
end
section
variable {f:Addr}{q:FA}
theorem enterF (W:FW prog w Sta Z mg mb)(K:AW prog w Sta C N mN)(VV:VW Sta V NV mV)(LK:pU prog w Sta Z C mN q)(D:Df Sta f fd)(ks:knd fd "self"=some .local)
  {m:Addr} {vs:List Value} {binds:List (Str × Value)} {Q:Value->Shared->Prop}
  (hbody:fd.body= .stmts body) (hbind:BindsTo s fd ⟨.ref m::vs,[]⟩ binds) (hloc:∀x∈binds,fd.scope.names.lookup x.1=some .local) (hme:binds.reverse.lookup (ofString "self")=some (.ref m)) (hA:cW A 35) (B:Bs Sta Z [m,dm,L,c,dc] hb s.heap) (F:Fm V C s.heap m dm L c dc wd sp lines ps)
  {T:FX->Prop} (hT:∀A' env,InF A A'->T ⟨prog,w,Sta,Z,V,NV,C,N,m,dm,L,c,dc,mV,mN,mg,mb,wd,sp,hb,q,A',env,fd,s⟩)
  (h:∀(X:FX)(s':Shared)(K':Flow->Shared->Prop)(E':Value->Shared->Prop),(∀ {x v},knd fd x=v->knd X.fd x=v)->X.wd=wd->X.sp=sp->T X->Ok X->At X s' (fun x=>binds.reverse.lookup x) lines ps->(∀ s'2 mm l' p' v,At X s'2 mm l' p'->(KW [L,c,dc] Z s s'2->Fm V C s'2.heap m dm L c dc wd sp l' p'->Q v s'2)->K' (.ret v) s'2/\(v= .none->K' .next s'2))->
   wpAny (model X.prog X.w) X.A (execs body X.env) K' E' s'):
  wpAny (model prog w) A (call (.ref f) (.ref m::vs)) Q E s:=by
 refine aEm D (B.st W.sz) (by have:=hA.depth;exact bsl this) hbody hbind hloc fun h'0 tk E' env bb A' R hA' henv hL hns hk hret hnext=>wpAt_of_wpAny ?_
 have O:Ok ⟨prog,w,Sta,Z,V,NV,C,N,m,dm,L,c,dc,mV,mN,mg,mb,wd,sp,hb,q,A',env,fd,s⟩:=
  ⟨W,K,VV,LK,by rw [henv]; exact D.kind,fun x=>by rw [henv]; rfl,by rw [henv]; exact D.globals,by rw [henv]; exact D.builtins,by rw [hL]; exact F.fresh,by rw [hL]; exact B.z.fresh,ks,B,by rw [hL]; exact bG _,hA'.room hA⟩
 exact h _ _ R _ id rfl rfl (hT _ _ hA') O ⟨hns,F.keeps hk,KW.of_keep hk,hme⟩ fun s'2 mm l' p' v J g=>⟨hret _ _ (g J.w J.F),fun e=>hnext _ (e▸g J.w J.F)⟩
end
end FX
theorem wK (W:FW prog w Sta Z mg mb)(K:AW prog w Sta C N mN)(VV:VW Sta V NV mV){q:FA}(LK:pU prog w Sta Z C mN q){f:Addr}(D:Df Sta f fd)
  {aug r1 r2 r3:List Stmt}
  (hbody:fd.body= .stmts (Stmt.Assign [Name "end_of_line" p0] ((((Name "self" p1).Attribute "_current_line" p2).Attribute "pop" p3).Call [] [] p4) p5::r1))
  (e1:r1=Stmt.If ((Name "end_of_line" p6).Compare [.NotEq] [Expr.Tuple [Constant (.str " ") 0 p7,Constant (.str "") 0 p8] 0 p9] p10) [Stmt.Expr ((((Name "self" p11).Attribute "_current_line" p12).Attribute "push" p13).Call [(Name "end_of_line" p14).Starred p15] [] p16) p17] [] p18::r2)
  (e2:r2=Stmt.If (((Name "len" p19).Call [(Name "self" p20).Attribute "_current_line" p21] [] p22).Compare [.Gt] [Constant (.int 0) 0 p23] p24) [Stmt.If (Expr.BoolOp .And [(((Name "self" p25).Attribute "_current_line" p26).Attribute "is_onlyws" p27).Call [] [] p28,(Name "self" p29).Attribute "_lines" p30] p31) aug
    [Stmt.Expr ((((Name "self" p42).Attribute "_lines" p43).Attribute "append" p44).Call [(Name "str" p45).Call [(Name "self" p46).Attribute "_current_line" p47] [] p48] [] p49) p50] p51] [] p52::r3)
  (e3:r3=[Stmt.Expr ((((Name "self" p53).Attribute "_current_line" p54).Attribute "reset" p55).Call [] [] p56) p57])
  (hl1:(p3.endLine==p4.line)=true) (hl2:(p27.endLine==p28.line)=true) (hl3:(p44.endLine==p49.line)=true) (hl4:(p55.endLine==p56.line)=true)
  (hself:knd fd "self"=some .local) (heol:knd fd "end_of_line"=some .local) (hlen:knd fd "len"=some .globalImplicit) (hstr:knd fd "str"=some .globalImplicit) (hbind:∀x:Value,bindArgs fd ⟨[x],[]⟩=pure [(ofString "self",x)]):jJ prog w Sta Z V C f:=by
 intro m dm L c dc wd sp lines A E s hb a b ps hA B F hsm hln hoa hob hbe hpl hsp;refine FX.enterF W K VV LK D hself hbody (.of_eq (hbind _)) (fun x hx=>List.mem_singleton.mp hx▸hself) rfl hA B F (T:=fun _=>True) (fun _ _ _=>trivial) fun X s'0 K' E' hk _ _ _ O J hq=> ?_
 have hn:ps.length<=900:=Nat.le_trans (by rw [List.length_append]; exact Nat.le_add_right _ _) hsm.1;refine dF fun R n _=>wpAny_Assign_Name (FX.pop O J hn hl1 fun s'1 T t u hT J1=>FX.store O J1 (hk heol) (by decide) fun s'2 hs J2=>n _ ?_)
 have hT2:=jI J1.ns hs hT;refine iC e1 fun R n _=>wpAny_If (FX.eol_test O J2 (hk heol) (if_pos rfl) hT2 hoa hob hbe fun s'3 hT3 J3=>dF fun R1 n1 _=>wpAny_Expr_any (FX.push_star O J3 (hk heol) (if_pos rfl) hT3 hn fun s4 J4=>n1 _ (wpAny_execs_nil (n _ ?_))) (rC O.kf) rfl)
 exact FX.newline_tail O J4 e2 e3 hl2 hl3 hl4 (hk hlen) (hk hstr) hsm hln hpl hsp fun s5 J5=>(hq s5 _ _ _ _ J5 fun w F=>⟨rfl,w,F⟩).2 rfl
section
theorem dM.take (h:dM ps)(j:Nat):dM (ps.take j):=⟨by have:=h.1;rw [List.length_take]; lia,fun p hp=>h.2 p (List.mem_of_mem_take hp)⟩
theorem dM.drop (h:dM ps)(j:Nat):dM (ps.drop j):=⟨by have:=h.1;rw [List.length_drop]; exact Nat.le_trans (Nat.sub_le _ _) this,fun p hp=>h.2 p (List.mem_of_mem_drop hp)⟩
theorem cA.get {vs:List Value}(x:cA h vs ps){p:Str × Str}(hi:ps[i]? =some p):∃T t u,vs[i]? =some (.ref T)/\h.IsTuple T #[.str p.1 t,.str p.2 u]:=by
 have hlt:i<vs.length:=by rw [x.1]; exact (List.getElem?_eq_some_iff.mp hi).1
 obtain ⟨T,t,u,e,hT⟩:=x.2 i _ p (List.getElem?_eq_getElem hlt) hi;exact ⟨T,t,u,by rw [List.getElem?_eq_getElem hlt,e],hT⟩
namespace FX
variable {X:FX}{ln:List Str}{Q:Flow->Shared->Prop}
theorem push (O:Ok X)(J:At X s mm ln ps){x1 x2:Str}{a b:Str}{u:Tok}(hl:(p2.endLine==p5.line)=true)(h1:knd X.fd x1=some .local)(h2:knd X.fd x2=some .local)(hd1:(x1==("__debug__":Str))=false)(hd2:(x2==("__debug__":Str))=false)(m1:mm x1=some (.str a t))(m2:mm x2=some (.str b u))(hn:ps.length<=900)
  (h:∀s',At X s' mm ln (ps++[(a,b)])->Q .next s'):
  wpAny (model X.prog X.w) X.A (exec (.Expr (.Call (.Attribute (.Attribute (.Name "self" p0) "_current_line" p1) "push" p2) [.Name x1 p3,.Name x2 p4] [] p5) p6) X.env) Q E s:=
 wpAny_Expr_any (meth O J O.LK.mpush hl rfl (Nat.le_of_ble_eq_true rfl) fun s'1 _ J=>wpAny_items_cons (name O J h1 m1 hd1 (wpAny_items_cons (name O J h2 m2 hd2 (wpAny_items_nil ⟨J.st O,wpAny_mono (tN.run O.LK.push (O.dp (Nat.le_of_ble_eq_true rfl)) (O.sub J) J.F.acc hn) (fun v s'2 h'2=>by
  obtain ⟨e,k,x⟩:=h'2;exact h s'2 (J.call O k x)) fun _ _ e=>e⟩))))) (rC O.kf) rfl
theorem over (O:Ok X)(J:At X s mm ln ps){whole:Sem Value}{Q:Bool->Shared->Prop}(kl:knd X.fd "len"=some .globalImplicit)(hs:dM ps)(h:∀s',At X s' mm ln ps->Q (decide (eQ ps>X.wd)) s'):
  wpAny (model X.prog X.w) X.A (isTrue (.Compare (.Call (.Name "len" p0) [.Attribute (.Name "self" p1) "_current_line" p2] [] p3) [.Gt] [.Attribute (.Name "self" p4) "_maxlen" p5] p6) X.env whole) Q E s:=
 wpAny_isTrue_Compare1 (len O J hs kl fun s'2 t J=>aL9 O.VV rfl (me O J ⟨rfl,J.st O,J.F,fun t=>gt_int (wpAny_truthy_bool (h _ J.tok))⟩)) (by rfl)
theorem aSl (O:Ok X){a b:Str}(J:At X s mm ln (ps++[(a,b)]))(hn:ps.length<=900){y:Str}(hl:(p78.endLine==p79.line)=true)(hx:knd X.fd x=some .local)(hy:knd X.fd y=some .local)(hxs:ofString "self"≠x)(hys:ofString "self"≠y)(hyx:x≠y)
  (h:∀s' t u,At X s' (fun z=>if z=y then some (.str b u) else if z=x then some (.str a t) else mm z) ln ps->Q .next s'):
  wpAny (model X.prog X.w) X.A (exec (Stmt.Assign [Expr.Tuple [Name x p73,Name y p74] 0 p75] ((((Name "self" p76).Attribute "_current_line" p77).Attribute "pop" p78).Call [] [] p79) p80) X.env) Q E s:=by
 refine Assign_Tuple (pop O J hn hl fun s'2 T t u hT J2=>wpAny_assign_Tuple O.R.handled hT rfl rfl fun h' he=> ?_) rfl rfl;have J3:At X {s'2 with heap:=h',toks:=s'2.toks} mm ln ps:=J2.keep fun b o e=>he b o (Nat.ne_of_lt (Heap.lt_size e)) e
 show wpAny _ X.A (do holding [Value.str b u] (assign (.Name x p73) X.env (.str a t)); assignInOrder [assign (.Name y p74) X.env] [Value.str b u]) _ _ _;refine wpAny_bind (wpAny_holding (wpAny_assign_Name (store O J3 hx hxs fun s4 _ J4=> ?_)));show wpAny _ X.A (do holding [] (assign (.Name y p74) X.env (.str b u)); assignInOrder [] []) _ _ _;exact wpAny_bind (wpAny_holding (wpAny_assign_Name (store O J4 hy hys fun s5 _ J5=>wpAny_pure (h _ t u J5))))
theorem back_tail (O:Ok X){a b:Str}(J:At X s mm ln (ps++[(a,b)]))(hn:ps.length<=900)
  {nl l:List Stmt}
  (hl:l=[Stmt.Assign [Expr.Tuple [Name "fws" p73,Name "part" p74] 0 p75] ((((Name "self" p76).Attribute "_current_line" p77).Attribute "pop" p78).Call [] [] p79) p80,
   Stmt.If ((((Name "self" p81).Attribute "_current_line" p82).Attribute "_initial_size" p83).Compare [.Gt] [Constant (.int 0) 0 p84] p85) nl [] p96,
   Stmt.Expr ((((Name "self" p97).Attribute "_current_line" p98).Attribute "push" p99).Call [Name "fws" p100,Name "part" p101] [] p102) p103,Stmt.Return none p104])
  (hl1:(p78.endLine==p79.line)=true) (hl2:(p99.endLine==p102.line)=true) (hx:knd X.fd "fws"=some .local) (hy:knd X.fd "part"=some .local)
  (h:∀s' mm',At X s' mm' ln (ps++[(a,b)])->Q (.ret .none) s'):wpAny (model X.prog X.w) X.A (execs l X.env) Q E s:=by
 refine iC hl fun R n r=>aSl O J hn hl1 hx hy (by decide) (by decide) (by decide) fun s'1 t u J=>n _ (dF fun R1 n1 r1=>wpAny_If (wpAny_isTrue_Compare1 (rE (c:=X.c) (dc:=X.dc) (ps:=ps) O.K rfl (line O J fun s'2 _ J=>⟨rfl,J.st O,J.F.acc,fun t=>wpAny_Constant_int (gt_int (wpAny_truthy_bool (wpAny_execs_nil (n1 _ ?_))))⟩)) (by rfl)))
 exact dF fun R2 n2 r2=>push O (At.tok (t:=s'2.toks+1+1) J) hl2 hx hy rfl rfl ((if_neg (by decide)).trans (if_pos rfl)) (if_pos rfl) hn fun s'3 J=>n2 _ (dF fun R3 n3 r3=>wpAny_Return_none (r3 _ _ (h _ _ J)))
theorem cut_tail (O:Ok X)(J:At X s mm ln qs){ti:Tok}{l:List Stmt}
  (e:l=[Stmt.Assign [Name "remainder" p106] ((((Name "self" p107).Attribute "_current_line" p108).Attribute "pop_from" p109).Call [Name "i" p110] [] p111) p112,
   Stmt.Expr ((((Name "self" p113).Attribute "_lines" p114).Attribute "append" p115).Call [(Name "str" p116).Call [(Name "self" p117).Attribute "_current_line" p118] [] p119] [] p120) p121,
   Stmt.Expr ((((Name "self" p122).Attribute "_current_line" p123).Attribute "reset" p124).Call [Name "remainder" p125] [] p126) p127])
  (hl1:(p109.endLine==p111.line)=true) (hl2:(p115.endLine==p120.line)=true) (hl3:(p124.endLine==p126.line)=true) (hi:knd X.fd "i"=some .local) (hr:knd X.fd "remainder"=some .local) (hstr:knd X.fd "str"=some .globalImplicit)
  (m2:mm "i"=some (.int j ti)) (hj:j<=qs.length) (hsm:dM qs) (hln:ln.length<=900)
  (h:∀s' mm',At X s' mm' (ln++[bK (qs.take j)]) (qs.drop j)->Q .next s'):wpAny (model X.prog X.w) X.A (execs l X.env) Q E s:=by
 refine iC e fun R n r=>wpAny_Assign_Name (meth O J O.LK.mpf hl1 rfl (Nat.le_of_ble_eq_true rfl) fun s'1 _ J=>wpAny_items_cons (name O J hi m2 rfl (wpAny_items_nil ⟨J.st O,wpAny_mono (O.LK.pf X.c X.dc _ _ _ X.hb qs j ti hj (O.dp (Nat.le_of_ble_eq_true rfl)) (O.sub J) J.F.acc hsm.1) (fun v s'2 h'2=> ?_) fun _ _ e=>e⟩)))
 obtain ⟨⟨P,us,ev,hP,hus,hP0⟩,k,x⟩:=h'2;rw [ev];have hPF:P∉X.all:=fun q=>by obtain ⟨o,e⟩:=J.F.exs P q;rw [hP0] at e;exact no1 e
 have hPl:P≠X.env.locals:=fun q=>by obtain ⟨o,es,ep,e,_⟩:=J.ns;rw [<- q,hP0] at e;exact no1 e
 have J2:=J.call O k x;refine store O J2 hr (by decide) fun s'3 hs J3=>n _ ?_
 have hP3:s'3.heap.PlainList P us:=hP.at fun o e=>hs.extBut P o hPl e
 have hus3:cA s'3.heap us.toList (qs.drop j):=hus.keeps fun T vals hT=>jI J2.ns hs hT
 refine dF fun R1 n1 r1=>append O J3 (hsm.take j) hln hstr hl2 fun s4 kk J4=>n1 _ ?_
 have noZ:∀{b o},s'3.heap.get? b=some o->(∃ items n,o.data= .seq items n)->b∉X.Z.map (·.2):=fun e ⟨items,n,hd⟩ q=>by
  obtain ⟨z,hz1,rfl⟩:=List.mem_map.mp q;obtain ⟨ps,_,_,ht⟩:=(J3.B O).z.at' z hz1;rw [e] at ht;(replace ht:=Option.some.inj ht;subst ht); exact nomatch hd
 have hP4:s4.heap.PlainList P us:=hP3.at fun o e=>kk P o (fun q=>hPF (q▸ .tail _ (.tail _ (.head _)))) (noZ e (by obtain ⟨n,e'⟩:=hP3;rw [e'] at e;(replace e:=Option.some.inj e;subst e); exact ⟨_,_,rfl⟩)) e
 have hus4:cA s4.heap us.toList (qs.drop j):=hus3.keeps fun T vals zz=>by
  obtain ⟨o,e,hc,n,hd⟩:=zz;refine ⟨o,kk T o (fun q=> ?_) (noZ e ⟨_,_,hd⟩) e,hc,n,hd⟩;obtain ⟨us',⟨n',e'⟩,_⟩:=J3.F.lines;rw [q,e'] at e;(replace e:=Option.some.inj e;subst e); exact absurd (show Value.type "list"=Value.type "tuple" from hc) (by decide)
 have hlt:(qs.take j).length<=900:=(hsm.take j).1;refine dF fun R2 n2 r2=>wpAny_Expr_any (meth O J4 O.LK.mreset hl3 rfl (Nat.le_of_ble_eq_true rfl) fun s5 e5 J5=>wpAny_items_cons (name O J5 hr (v:= .ref P) (if_pos rfl) rfl (wpAny_items_nil ⟨J5.st O,wpAny_mono (O.LK.reset.2 X.c X.dc _ _ _ X.hb P us (qs.take j) (qs.drop j) (O.dp (Nat.le_of_ble_eq_true rfl)) (O.sub J5) J5.F.acc hlt (e5▸hP4) (e5▸hus4) (hsm.drop j).1 (fun q=>hPF (q▸ .tail _ (.tail _ (.tail _ (.head _)))))) (fun v s6 h'6=> ?_) fun _ _ e=>e⟩))) (rC O.kf) rfl
 obtain ⟨_,k,x⟩:=h'6;exact n2 _ (wpAny_execs_nil (h _ _ (J5.call O k x)))
end FX
end
section
noncomputable def bT (wd:Int)(lines:List Str)(ps:List (Str × Str))(p:Str × Str):List Str × List (Str × Str):=
 if eQ (ps++[p])>wd then (match ps with | []=>(lines,[p]) | _=>(lines++[bK ps],[p])) else (lines,ps++[p])
def nS (prog:Program)(w:World)(Sta:Heap->Prop)(Z:List (Addr × Addr))(V C f:Addr):Prop:=
 ∀(m dm L c dc:Addr)(wd:Int)(sp:Str)(cc:Nat)(lines:List Str)(A:Around)(E:Value->Shared->Prop)(s:Shared)(hb:Heap)(a b:Str)(t u:Tok)(ps:List (Str × Str)),cW A 35->Bs Sta Z [m,dm,L,c,dc] hb s.heap->Fm V C s.heap m dm L c dc wd sp lines ps->
  dM (ps++[(a,b)])->lines.length<=900->sp.cps= #[cc]->Txt.isspace sp=false->(∀ p∈ps,∃ini,p.2.cps.toList=ini++[cc])->
  wpAny (model prog w) A (call (.ref f) [.ref m,.str a t,.str b u]) (fun v s'=>v= .none/\KW [L,c,dc] Z s s'/\Fm V C s'.heap m dm L c dc wd sp (bT wd lines ps (a,b)).1 (bT wd lines ps (a,b)).2) E s
theorem aMd {y:Str}{ini:List Nat}{cc:Nat}(hy:y.cps.toList=ini++[cc])(hyl:y.length<=1000):y.length=ini.length+1/\seqIndex? (-1) y.length=some ini.length/\y.cps[ini.length]? =some cc:=by
 have hyn:y.length=ini.length+1:=by show y.cps.size=_;rw [<- Array.length_toList,hy,List.length_append]; rfl
 refine ⟨hyn,?_,?_⟩
 ·unfold seqIndex?;rw [hyn];have:(0<=(-1:Int)+((ini.length+1:Nat):Int))/\((-1:Int)+((ini.length+1:Nat):Int))<((ini.length+1:Nat):Int):=by lia
  simp [this]
  lia
 ·rw [<- Array.getElem?_toList,hy,List.getElem?_append_right (Nat.le_refl _),Nat.sub_self]; rfl
theorem wL {cc:Nat}(h:x.cps= #[cc]):x=⟨#[cc]⟩:=by cases x;cases h;rfl
namespace FX
variable {X:FX}{ln:List Str}{Q:Flow->Shared->Prop}
theorem rng (O:Ok X)(J:At X s mm ln qs){Q:Value->Shared->Prop}(hl1:(p21.endLine==p22.line)=true)(hr:knd X.fd "range"=some .globalImplicit)
  (h:∀s' r t u v,(∀ b o,b∉X.Z.map (·.2)->s.heap.get? b=some o->s'.heap.get? b=some o)->At X s' mm ln qs->IsRange s'.heap r ((qs.length:Int)- 1) 0 (-1) t u v->Q (.ref r) s'):
  wpAny (model X.prog X.w) X.A (eval ((Name "range" p18).Call [((((Name "self" p19).Attribute "_current_line" p20).Attribute "part_count" p21).Call [] [] p22).BinOp .Sub (Constant (.int 1) 0 p23) p24,Constant (.int 0) 0 p25,Expr.UnaryOp .USub (Constant (.int 1) 0 p26) p27] [] p28) X.env) Q E s:=by
 obtain ⟨hg,hb⟩:=O.W.ns _ (J.st O);refine nQ O.kf ((O.ko _).trans hr) rfl (O.ge▸hg) (O.be▸hb) O.W.rng.1 O.W.rng.2 rfl (wpAny_items_cons (wpAny_BinOp (count O J hl1 fun s'2 t k J=>wpAny_Constant_int (sub_int (wpAny_items_cons (wpAny_Constant_int (wpAny_items_cons (wpAny_UnaryOp (wpAny_Constant_int (neg_int (wpAny_items_nil ?_)))))))))));refine call_range_3 (by decide) ?_ (.inl (PyProof.noPylong_small (by decide)));exact h _ _ _ _ _ (fun b o h2 e=>Heap.get?_push_of_some _ (k.keep b o (fun h=>nomatch h) h2 e)) (J.keep fun b o e=>Heap.get?_push_of_some _ e) (Heap.get?_push_size _ rfl)
theorem aSm (O:Ok X)(J:At X s mm ln qs){Q:Value->Shared->Prop}{g y:Str}{ti:Tok}(hi:knd X.fd "i"=some .local)(m2:mm "i"=some (.int ((j:Int)+1) ti))(hq:qs[j]? =some (g,y))(hn:qs.length<=900)(h:∀s' u,At X s' mm ln qs->Q (.str y u) s'):
  wpAny (model X.prog X.w) X.A (eval ((((Name "self" p51).Attribute "_current_line" p52).Subscript ((Name "i" p53).BinOp .Sub (Constant (.int 1) 0 p54) p55) p56).Subscript (Constant (.int 1) 0 p57) p58) X.env) Q E s:=by
 obtain ⟨vs,hls,hps⟩:=id J.F.acc.seq;obtain ⟨T,t,u,hT,hTT⟩:=hps.get hq;rw [Array.getElem?_toList] at hT;have hj:j<qs.length:=(List.getElem?_eq_some_iff.mp hq).1;refine vM (aO9 (c:=X.c) (dc:=X.dc) (vs:=vs) O.K (line O J fun s'1 e J1=> ?_));have hls1:gZ s'1.heap X.C X.c X.dc vs:=e▸hls;have hT1:s'1.heap.IsTuple T #[.str g t,.str y u]:=e▸hTT;refine wpAny_BinOp (name O J1 hi m2 rfl (wpAny_Constant_int (sub_int ⟨rfl,J1.st O,hls1,?_⟩)));refine aEf (O.K.cls _ (J1.st O)) O.K.gi hls1 (by lia) (by lia) (x:= .ref T) (by rw [<- hT]; congr 1;lia) ?_;exact wpAny_Constant_int ⟨"tuple",_,Heap.IsTuple.typeIs hT1,slot_tuple_getitem.lookup,getItem_tuple hT1 (j:=1) (by decide) (by decide) (by rfl) (by rfl) (h _ u (At.tok (s:=s'1) J1))⟩
theorem aE4 (O:Ok X)(J:At X s mm ln qs){whole:Sem Value}{ch y:Str}{tc u:Tok}{cc:Nat}{ini:List Nat}{Q:Bool->Shared->Prop}(hpp:knd X.fd "prevpart"=some .local)(hch:knd X.fd "ch"=some .local)
  (m0:mm "prevpart"=some (.str y u)) (m1:mm "ch"=some (.str ch tc)) (hc1:ch.cps= #[cc]) (hy:y.cps.toList=ini++[cc]) (hyl:y.length<=1000) (h:∀s',At X s' mm ln qs->Q true s'):
  wpAny (model X.prog X.w) X.A (isTrue (Expr.BoolOp .And [Name "prevpart" p60,((Name "prevpart" p61).Subscript (Expr.UnaryOp .USub (Constant (.int 1) 0 p62) p63) p64).Compare [.Eq] [Name "ch" p65] p66] p67) X.env whole) Q E s:=by
 obtain ⟨hyn,hx1,hx2⟩:=aMd hy hyl;refine wpAny_isTrue_BoolOp (wpAny_allTrue_And_cons (isTrue_plain (name O J hpp m0 rfl (P.truthy_str (by lia) ?_)) rfl));rw [show (((y.length:Int)) !=0)=true from by rw [bne_iff_ne]; lia];refine wpAny_allTrue_And_cons (wpAny_isTrue_Compare1 (vM (name O (At.tok (s:=s) J) hpp m0 rfl (wpAny_UnaryOp (wpAny_Constant_int (neg_int ⟨"str",_,typeIs_str _ _ _,slot_str_getitem.lookup,PyProof.Rows.getItem_str (c:=cc) (by decide) (by rw [hx1]; exact hx2) ?_⟩))))) (by rfl));refine name O (At.tok (s:=s) J) hch m1 rfl (eq_str ?_);rw [wL hc1,beq_self_eq_true];exact wpAny_truthy_bool (wpAny_allTrue_And_nil (h _ J.tok))
theorem aBs (O:Ok X)(J:At X s mm ln qs){l:List Stmt}{ch g y:Str}{tc ti:Tok}{cc:Nat}{ini:List Nat}
  (el:l=[Stmt.If (((Name "ch" p29).Attribute "isspace" p30).Call [] [] p31) blank [] p49,Stmt.Assign [Name "prevpart" p50] ((((Name "self" p51).Attribute "_current_line" p52).Subscript ((Name "i" p53).BinOp .Sub (Constant (.int 1) 0 p54) p55) p56).Subscript (Constant (.int 1) 0 p57) p58) p59,
   Stmt.If (Expr.BoolOp .And [Name "prevpart" p60,((Name "prevpart" p61).Subscript (Expr.UnaryOp .USub (Constant (.int 1) 0 p62) p63) p64).Compare [.Eq] [Name "ch" p65] p66] p67) [Stmt.Break p68] [] p69])
  (hl:(p30.endLine==p31.line)=true) (hch:knd X.fd "ch"=some .local) (hi:knd X.fd "i"=some .local) (hpp:knd X.fd "prevpart"=some .local)
  (m1:mm "ch"=some (.str ch tc)) (m2:mm "i"=some (.int ((j:Int)+1) ti)) (hchs:Txt.isspace ch=false) (hc1:ch.cps= #[cc]) (hq:qs[j]? =some (g,y)) (hy:y.cps.toList=ini++[cc]) (hyl:y.length<=1000) (hn:qs.length<=900)
  (h:∀s' mm',At X s' mm' ln qs->mm' "i"=some (.int ((j:Int)+1) ti)->Q .brk s'):wpAny (model X.prog X.w) X.A (execs l X.env) Q E s:=by
 refine iC el fun R n r=>wpAny_If (isTrue_plain (bM rfl hl rfl (Nat.le_of_ble_eq_true rfl) (name O J hch m1 rfl fun pl=>GM.isspace (callWith_builtin rfl (aK rfl (wpAny_items_nil (SC.isspace ?_)))))) rfl)
 rw [hchs];refine wpAny_truthy_bool (wpAny_execs_nil (n _ ?_));refine dF fun R1 n1 r1=>wpAny_Assign_Name (aSm O (At.tok (s:=s) J) hi m2 hq hn fun s'1 u J1=>store O J1 hpp (by decide) fun s'2 _ J2=>n1 _ ?_)
 exact iC rfl fun R2 n2 r2=>wpAny_If (aE4 O J2 hpp hch (if_pos rfl) ((if_neg (by decide)).trans m1) hc1 hy hyl fun s'3 J3=>wpAny_execs_cons (wpAny_Break (r2 _ _ nofun (h _ _ J3 ((if_neg (by decide)).trans m2)))))
section
variable {m0:Str->Option Value}
theorem aE5 (O:Ok X)(J:At X s mm ln qs)
  {l els:List Stmt} {ch g y:Str} {tc:Tok} {cc:Nat} {ini:List Nat}
  (el:l=[Stmt.If (((Name "ch" p29).Attribute "isspace" p30).Call [] [] p31) blank [] p49,Stmt.Assign [Name "prevpart" p50] ((((Name "self" p51).Attribute "_current_line" p52).Subscript ((Name "i" p53).BinOp .Sub (Constant (.int 1) 0 p54) p55) p56).Subscript (Constant (.int 1) 0 p57) p58) p59,
   Stmt.If (Expr.BoolOp .And [Name "prevpart" p60,((Name "prevpart" p61).Subscript (Expr.UnaryOp .USub (Constant (.int 1) 0 p62) p63) p64).Compare [.Eq] [Name "ch" p65] p66] p67) [Stmt.Break p68] [] p69])
  (hl0':(p21.endLine==p22.line)=true) (hl:(p30.endLine==p31.line)=true) (hr:knd X.fd "range"=some .globalImplicit) (hch:knd X.fd "ch"=some .local) (hi:knd X.fd "i"=some .local) (hpp:knd X.fd "prevpart"=some .local)
  (m1:mm "ch"=some (.str ch tc)) (hchs:Txt.isspace ch=false) (hc1:ch.cps= #[cc]) (hq:qs[j]? =some (g,y)) (hjl:qs.length=j+2) (hy:y.cps.toList=ini++[cc]) (hyl:y.length<=1000) (hn:qs.length<=900)
  (h:∀s' mm' ti,At X s' mm' ln qs->mm' "i"=some (.int ((j:Int)+1) ti)->Q .next s'):
  wpAny (model X.prog X.w) X.A (exec (Stmt.For (Name "i" p17) ((Name "range" p18).Call [((((Name "self" p19).Attribute "_current_line" p20).Attribute "part_count" p21).Call [] [] p22).BinOp .Sub (Constant (.int 1) 0 p23) p24,Constant (.int 0) 0 p25,Expr.UnaryOp .USub (Constant (.int 1) 0 p26) p27] [] p28) l els p71) X.env) Q E s:=by
 refine wpAny_For (rng O J hl0' hr fun s'1 r t u v _ J1 hr1=> ?_) (fun _=>rfl);have e1:(((qs.length:Int)- 1- 0).toNat)=j+1:=by lia
 have hit:bL (.range ((qs.length:Int)- 1) 0 (-1))=some (.int ((qs.length:Int)- 1+((0:Nat):Int)*(-1))::((List.range j).map Nat.succ).map fun (i:Nat)=>AV.int ((qs.length:Int)- 1+(i:Int)*(-1))):=by
  show bF _ _ _=_;unfold bF aQ;rw [if_pos ⟨decide_eq_true ⟨by lia,by lia⟩,by decide⟩,if_neg (by decide),if_pos rfl,e1,List.range_succ_eq_map,List.map_cons]
 refine aE3 (M:=[]) O.R.handled hit (Den.range hr1) ((O.ko _).trans hi) (by rw [O.kf]; rfl) J1.ns fun v' h'2 h'3 tk E' hv k12 hs3 hns'3=> ?_
 obtain ⟨ti,ev⟩:=hv.int_inv;have J2:At X {s'1 with heap:=h'2,toks:=tk} mm ln qs:=J1.keep k12;have J3:=At.set (t:=tk) J2 O hns'3 hs3 ((if_neg (by decide)).trans J2.me);refine aBs O J3 el hl hch hi hpp ((if_neg (by decide)).trans m1) ((if_pos rfl).trans (congrArg some (ev.trans (congrArg (fun x=>Value.int x ti) (by lia))))) hchs hc1 hq hy hyl hn fun s' mm' J' e=>⟨rfl,h s' mm' ti J' e⟩
end
end FX
end
section
theorem Fm.kz {m l:Addr}(F:Fm V C h m dm L c dc wd sp lines ps)(hz:Zok Z [m,dm,L,c,dc] h)(hns:h.Ns l mm)(hl:l∉[m,dm,L,c,dc])
  (k:∀b o,b≠l->b∉Z.map (·.2)->h.get? b=some o->h'.get? b=some o):Fm V C h' m dm L c dc wd sp lines ps:=by
 have kk:∀y∈[m,dm,L,c,dc], ∀o,h.get? y=some o->h'.get? y=some o:=fun y hy o e=>k y o (fun q=>hl (q▸hy)) (fun q=>by obtain ⟨z,hz1,e1⟩:=List.mem_map.mp q;exact (hz.apart z hz1 y hy).2 e1.symm) e
 have kt:∀T vals,h.IsTuple T vals->h'.IsTuple T vals:=fun T vals zz=>by obtain ⟨o,e,hc,n,hd⟩:=zz;exact ⟨o,k T o (fun q=>by
  obtain ⟨o',es,ep,e2,e3,_⟩:=hns;rw [q,e2] at e;(replace e:=(Option.some.inj e).symm;subst e); rw [e3] at hd;exact nomatch hd) (fun q=>by
  obtain ⟨z,hz1,rfl⟩:=List.mem_map.mp q;obtain ⟨ps,_,_,ht⟩:=hz.at' z hz1;rw [e] at ht;(replace ht:=Option.some.inj ht;subst ht); exact nomatch hc) e,hc,n,hd⟩
 obtain ⟨o,h1,h2,h3,h4,h5⟩:=F.obj;obtain ⟨mA,h6,h7⟩:=F.att;obtain ⟨us,h8,h9⟩:=F.lines;obtain ⟨vs,x1,x2⟩:=F.acc.seq;obtain ⟨t,x3⟩:=F.acc.dict;exact ⟨⟨o,kk m (by simp) _ h1,h2,h3,h4,h5⟩,⟨mA,h6.at fun o e=>kk dm (by simp) o e,h7⟩,⟨us,h8.at fun o e=>kk L (by simp) o e,h9⟩,⟨⟨vs,x1.at fun o e=>kk c (by simp) o e,x2.keeps kt⟩,⟨t,x3.at fun o e=>kk dc (by simp) o e⟩,F.acc.ne⟩,F.ap⟩
namespace FX
variable {X:FX}{ln:List Str}{Q:Flow->Shared->Prop}
theorem At.ex (J:At X s mm ln qs)(O:Ok X){b:Addr}(hb:b∈X.env.locals::([X.c,X.dc]++X.Z.map (·.2))):∃o,s.heap.get? b=some o:=by
 rcases List.mem_cons.mp hb with e | hb
 ·obtain ⟨o,es,ep,e',_⟩:=J.ns;exact ⟨o,e▸e'⟩
 ·rcases List.mem_append.mp hb with hb | hb
  ·exact J.F.exs b (up5 b hb)
  ·obtain ⟨z,hz,e⟩:=List.mem_map.mp hb;obtain ⟨ps,_,_,ht⟩:=(J.B O).z.at' z hz;exact ⟨_,e▸ht⟩
theorem At.skip (J:At X s mm ln qs)(O:Ok X){mm':Str->Option Value}{h'3 h'4:Heap}{tk:Tok}(kk:∀b o,b≠X.env.locals->s.heap.get? b=some o->h'3.get? b=some o)(hn:h'3.Ns X.env.locals mm')(hm:mm' "self"=some (.ref X.m))(w:KW [X.L,X.c,X.dc] X.Z X.s0 s'2)
  (k:∀b o,b∉X.Z.map (·.2)->h'3.get? b=some o->s'2.heap.get? b=some o) (k4:∀b o,(∃ o',s.heap.get? b=some o')->s'2.heap.get? b=some o->h'4.get? b=some o):At X {s'2 with heap:=h'4,toks:=tk} mm' ln qs:=by
 have hl:∃o,s.heap.get? X.env.locals=some o:=J.ex O (.head _);have hn4:h'4.Ns X.env.locals mm':=hn.at' fun o e=>k4 _ o hl (k _ o O.LZ e)
 refine ⟨hn4,J.F.kz (J.B O).z J.ns O.LF fun b o h1 h2 e=>k4 b o ⟨o,e⟩ (k b o h2 (kk b o h1 e)),w.skip (P:=fun b=>∃o',s.heap.get? b=some o') k4 fun b o e=> ?_,hm⟩
 by_cases h1:b∈X.all
 ·exact J.F.exs b h1
 by_cases h2:b∈X.Z.map (·.2)
 ·exact J.ex O (.tail _ (List.mem_append_right _ h2))
 ·exact ⟨o,J.w.keep b o (fun q=>h1 (aIu _ q)) h2 e⟩
theorem aPd (O:Ok X)(J:At X s mm ln qs){Q:Value->Shared->Prop}(h:∀t,Q (.str X.sp t) {s with toks:=s.toks+1}):wpAny (model X.prog X.w) X.A (eval ((Name "self" p).Attribute "_splitchars" q) X.env) Q E s:=
 wJ O.VV rfl (me O J ⟨rfl,J.st O,J.F,h⟩)
theorem outer_cut (O:Ok X)(J:At X s mm ln qs)
  {l l2 els els2:List Stmt} {g y:Str} {cc:Nat} {ini:List Nat}
  (el:l=[Stmt.If (((Name "ch" p29).Attribute "isspace" p30).Call [] [] p31) blank [] p49,Stmt.Assign [Name "prevpart" p50] ((((Name "self" p51).Attribute "_current_line" p52).Subscript ((Name "i" p53).BinOp .Sub (Constant (.int 1) 0 p54) p55) p56).Subscript (Constant (.int 1) 0 p57) p58) p59,
   Stmt.If (Expr.BoolOp .And [Name "prevpart" p60,((Name "prevpart" p61).Subscript (Expr.UnaryOp .USub (Constant (.int 1) 0 p62) p63) p64).Compare [.Eq] [Name "ch" p65] p66] p67) [Stmt.Break p68] [] p69])
  (el2:l2=[Stmt.For (Name "i" p17) ((Name "range" p18).Call [((((Name "self" p19).Attribute "_current_line" p20).Attribute "part_count" p21).Call [] [] p22).BinOp .Sub (Constant (.int 1) 0 p23) p24,Constant (.int 0) 0 p25,Expr.UnaryOp .USub (Constant (.int 1) 0 p26) p27] [] p28) l els p71,Stmt.Break p72])
  (hl0':(p21.endLine==p22.line)=true) (hl:(p30.endLine==p31.line)=true) (hr:knd X.fd "range"=some .globalImplicit) (hch:knd X.fd "ch"=some .local) (hi:knd X.fd "i"=some .local) (hpp:knd X.fd "prevpart"=some .local)
  (hchs:Txt.isspace X.sp=false) (hc1:X.sp.cps= #[cc]) (hq:qs[j]? =some (g,y)) (hjl:qs.length=j+2) (hy:y.cps.toList=ini++[cc]) (hyl:y.length<=1000) (hn:qs.length<=900)
  (h:∀s' mm' ti,At X s' mm' ln qs->mm' "i"=some (.int ((j:Int)+1) ti)->Q .next s'):
  wpAny (model X.prog X.w) X.A (exec (Stmt.For (Name "ch" p14) ((Name "self" p15).Attribute "_splitchars" p16) l2 els2 p105) X.env) Q E s:=by
 refine wpAny_For (aPd O J fun t=> ?_) (fun _=>rfl);have hit:bL (.str X.sp)=some (.str X.sp::[]):=by rw [wL hc1]; rfl
 refine aE3 (M:=[]) O.R.handled hit (Den.str _ _) ((O.ko _).trans hch) (by rw [O.kf]; rfl) J.ns fun v' h'2 h'3 tk E' hv k12 hs3 hns'3=> ?_
 obtain ⟨tc,ev⟩:=hv.str_inv;have J2:At X {s with heap:=h'2,toks:=tk} mm ln qs:=J.keep k12;have J3:=At.set (t:=tk) J2 O hns'3 hs3 ((if_neg (by decide)).trans J2.me);exact iC el2 fun R n r=>aE5 O J3 el hl0' hl hr hch hi hpp ((if_pos rfl).trans (congrArg some ev)) hchs hc1 hq hjl hy hyl hn fun s' mm' ti J' e=>n _ (wpAny_execs_cons (wpAny_Break ⟨rfl,h s' mm' ti J' e⟩))
theorem outer_back (O:Ok X){a b:Str}(J:At X s mm ln [(a,b)]){l l2 els2 r:List Stmt}
  (el2:l2=Stmt.For (Name "i" p17) ((Name "range" p18).Call [((((Name "self" p19).Attribute "_current_line" p20).Attribute "part_count" p21).Call [] [] p22).BinOp .Sub (Constant (.int 1) 0 p23) p24,Constant (.int 0) 0 p25,Expr.UnaryOp .USub (Constant (.int 1) 0 p26) p27] [] p28) l [Stmt.Continue p70] p71::r)
  (hl0':(p21.endLine==p22.line)=true) (hr:knd X.fd "range"=some .globalImplicit) (hch:knd X.fd "ch"=some .local) {cc:Nat} (hc1:X.sp.cps= #[cc])
  (h:∀s' mm' E',At X s' mm' ln [(a,b)]->wpAny (model X.prog X.w) X.A (execs els2 X.env) Q E' s'):
  wpAny (model X.prog X.w) X.A (exec (Stmt.For (Name "ch" p14) ((Name "self" p15).Attribute "_splitchars" p16) l2 els2 p105) X.env) Q E s:=by
 refine wpAny_For (aPd O J fun t=> ?_) (fun _=>rfl);have hit:bL (.str X.sp)=some [.str X.sp]:=by rw [wL hc1]; rfl
 have J0:At X {s with toks:=s.toks+1} mm ln [(a,b)]:=J.tok;refine aMb (M:=X.env.locals::([X.c,X.dc]++X.Z.map (·.2))) O.R.handled hit (Den.str _ _) ((O.ko _).trans hch) (by rw [O.kf]; rfl) J0.ns (fun b hb=>J0.ex O hb) (List.mem_cons_self ..) fun v' h'2 h'3 tk E' hv k12 hs3 hns'3=> ?_
 have J2:At X {s with heap:=h'2,toks:=tk} mm ln [(a,b)]:=J.keep k12;have hm:(fun z=>if z=ofString "ch" then some v' else mm z) (ofString "self")=some (.ref X.m):=(if_neg (by decide)).trans J2.me;have J3:=At.set (t:=tk) J2 O hns'3 hs3 hm;refine iC el2 fun R n r=>wpAny_For (rng O J3 hl0' hr fun s'1 _ t u v k3 J4 hr1=> ?_) (fun _=>rfl)
 refine aIt (M:=[]) O.R.handled (xv:= .range ((([(a,b)]:List (Str × Str)).length:Int)- 1) 0 (-1)) (by rfl) (Den.range hr1) fun s'2 E'' k2=> ?_
 have k5:∀b o,b∉X.Z.map (·.2)->h'3.get? b=some o->s'2.heap.get? b=some o:=fun b o hb e=>k2.get b o (k3 b o hb e)
 have J5:KW [X.L,X.c,X.dc] X.Z X.s0 s'2:=J4.w.trans (by obtain ⟨h'5,t'5,rfl,k⟩:=k2;exact KW.of_keep k);exact wpAny_execs_cons (wpAny_Continue (r _ _ nofun ⟨.inr rfl,fun b o hb e=>k5 b o (fun q=>hb (.tail _ (List.mem_append_right _ q))) e,fun h'4 tk4 E3 k4=>h _ _ _ (J.skip O (fun b o h1 e=>hs3.extBut b o h1 (k12 b o e)) hns'3 hm J5 k5 k4)⟩))
end FX
end
theorem wM {p:Str × Str}(h:eQ (ps++[p])>wd)(e:ps=[]):bT wd lines ps p=(lines,[p]):=by subst e;exact if_pos h
theorem wN {p:Str × Str}(h:eQ (ps++[p])>wd)(e:ps≠[]):bT wd lines ps p=(lines++[bK ps],[p]):=by
 cases ps
 ·exact absurd rfl e
 ·exact if_pos h
theorem aE6 {p:Str × Str}{cc:Nat}(hsm:dM (ps++[p]))(hcut:∀p∈ps,∃ini,p.2.cps.toList=ini++[cc])(hne:ps≠[]):∃k g y ini,ps.length=k+1/\(ps++[p])[k]? =some (g,y)/\y.cps.toList=ini++[cc]/\y.length<=1000:=by
 obtain ⟨ini,hini⟩:=hcut _ (List.getLast_mem hne);have hlp:=List.length_pos_iff.mpr hne;refine ⟨ps.length- 1,(ps.getLast hne).1,(ps.getLast hne).2,ini,(Nat.sub_add_cancel hlp).symm,?_,hini,Nat.le_trans (Nat.le_add_left _ _) (hsm.2 _ (List.mem_append_left _ (List.getLast_mem hne)))⟩;rw [List.getElem?_append_left (Nat.sub_lt hlp Nat.one_pos),List.getLast_eq_getElem hne];exact List.getElem?_eq_getElem _
theorem aE7 (W:FW prog w Sta Z mg mb)(K:AW prog w Sta C N mN)(VV:VW Sta V NV mV){q:FA}(LK:pU prog w Sta Z C mN q)
  {f:Addr} (D:Df Sta f fd) {nl r1 th l2 els2 r4 l:List Stmt}
  (hbody:fd.body= .stmts (Stmt.Expr ((((Name "self" p0).Attribute "_current_line" p1).Attribute "push" p2).Call [Name "fws" p3,Name "string" p4] [] p5) p6::r1))
  (e1:r1=[Stmt.If (((Name "len" p7).Call [(Name "self" p8).Attribute "_current_line" p9] [] p10).Compare [.Gt] [(Name "self" p11).Attribute "_maxlen" p12] p13) th [] p128])
  (e2:th=Stmt.For (Name "ch" p14) ((Name "self" p15).Attribute "_splitchars" p16) l2 els2 p105::r4)
  (e3:l2=[Stmt.For (Name "i" p17) ((Name "range" p18).Call [((((Name "self" p19).Attribute "_current_line" p20).Attribute "part_count" p21).Call [] [] p22).BinOp .Sub (Constant (.int 1) 0 p23) p24,Constant (.int 0) 0 p25,Expr.UnaryOp .USub (Constant (.int 1) 0 p26) p27] [] p28) l [Stmt.Continue p70] p71,Stmt.Break p72])
  (e4:l=[Stmt.If (((Name "ch" p29).Attribute "isspace" p30).Call [] [] p31) blank [] p49,Stmt.Assign [Name "prevpart" p50] ((((Name "self" p51).Attribute "_current_line" p52).Subscript ((Name "i" p53).BinOp .Sub (Constant (.int 1) 0 p54) p55) p56).Subscript (Constant (.int 1) 0 p57) p58) p59,Stmt.If (Expr.BoolOp .And [Name "prevpart" p60,((Name "prevpart" p61).Subscript (Expr.UnaryOp .USub (Constant (.int 1) 0 p62) p63) p64).Compare [.Eq] [Name "ch" p65] p66] p67) [Stmt.Break p68] [] p69])
  (e5:els2=[Stmt.Assign [Expr.Tuple [Name "fws" p73,Name "part" p74] 0 p75] ((((Name "self" p76).Attribute "_current_line" p77).Attribute "pop" p78).Call [] [] p79) p80,Stmt.If ((((Name "self" p81).Attribute "_current_line" p82).Attribute "_initial_size" p83).Compare [.Gt] [Constant (.int 0) 0 p84] p85) nl [] p96,Stmt.Expr ((((Name "self" p97).Attribute "_current_line" p98).Attribute "push" p99).Call [Name "fws" p100,Name "part" p101] [] p102) p103,Stmt.Return none p104])
  (e6:r4=[Stmt.Assign [Name "remainder" p106] ((((Name "self" p107).Attribute "_current_line" p108).Attribute "pop_from" p109).Call [Name "i" p110] [] p111) p112,Stmt.Expr ((((Name "self" p113).Attribute "_lines" p114).Attribute "append" p115).Call [(Name "str" p116).Call [(Name "self" p117).Attribute "_current_line" p118] [] p119] [] p120) p121,Stmt.Expr ((((Name "self" p122).Attribute "_current_line" p123).Attribute "reset" p124).Call [Name "remainder" p125] [] p126) p127])
  (hl1:(p2.endLine==p5.line)=true) (hl2:(p21.endLine==p22.line)=true) (hl3:(p30.endLine==p31.line)=true) (hl4:(p78.endLine==p79.line)=true) (hl5:(p99.endLine==p102.line)=true) (hl6:(p109.endLine==p111.line)=true) (hl7:(p115.endLine==p120.line)=true) (hl8:(p124.endLine==p126.line)=true)
  (kself:knd fd "self"=some .local) (kfws:knd fd "fws"=some .local) (kstring:knd fd "string"=some .local) (klen:knd fd "len"=some .globalImplicit) (kr:knd fd "range"=some .globalImplicit) (kstr:knd fd "str"=some .globalImplicit) (kch:knd fd "ch"=some .local) (ki:knd fd "i"=some .local) (kpp:knd fd "prevpart"=some .local) (kpart:knd fd "part"=some .local) (krem:knd fd "remainder"=some .local)
  (hbind:∀x y z:Value,bindArgs fd ⟨[x,y,z],[]⟩=pure [(ofString "self",x),(ofString "fws",y),(ofString "string",z)]):nS prog w Sta Z V C f:=by
 intro m dm L c dc wd sp cc lines A E s hb a b t u ps hA B F hsm hln hsp hsps hcut;refine FX.enterF W K VV LK D kself hbody (.of_eq (hbind _ _ _)) (aRn kself kfws kstring) rfl hA B F (T:=fun _=>True) (fun _ _ _=>trivial) fun X s'0 K' E' hk ew es _ O J hq=> ?_
 have hn:ps.length<=900:=Nat.le_trans (by rw [List.length_append]; exact Nat.le_add_right _ _) hsm.1;have fin:∀{l' p'},bT wd lines ps (a,b)=(l',p')->∀s'2 mm,FX.At X s'2 mm l' p'->K' (.ret .none) s'2/\(Value.none= .none->K' .next s'2):=fun e s'2 mm J=>hq s'2 mm _ _ _ J fun w F=>⟨rfl,w,by rw [e]; exact F⟩
 refine dF fun R n _=>FX.push O J hl1 (hk kfws) (hk kstring) rfl rfl rfl rfl hn fun s'1 J=>n _ ?_
 refine iC e1 fun R1 n1 r1=>wpAny_If (FX.over O J (hk klen) hsm fun s'2 J=> ?_)
 rw [ew]
 by_cases hov:eQ (ps++[(a,b)])>wd
 ·rw [decide_eq_true hov]
  by_cases hne:ps=[]
  ·refine iC e2 fun R2 n2 r2=>FX.outer_back (a:=a) (b:=b) O (hne▸J) e3 hl2 (hk kr) (hk kch) (es▸hsp) fun s'3 mm E' J=> ?_
   exact FX.back_tail (ps:=[]) O J (Nat.zero_le _) e5 hl4 hl5 (hk kfws) (hk kpart) fun s4 mm J=>r2 _ _ nofun (r1 _ _ nofun (fin (wM hov hne) s4 mm J).1)
  ·obtain ⟨k,g,y,ini,hl',hq,hini,hyl⟩:=aE6 hsm hcut hne;refine iC e2 fun R2 n2 r2=>FX.outer_cut O J e4 e3 hl2 hl3 (hk kr) (hk kch) (hk ki) (hk kpp) (es▸hsps) (es▸hsp) hq (by rw [List.length_append,hl']; rfl) hini hyl hsm.1 fun s'3 mm3 ti J m2=>n2 _ ?_
   exact FX.cut_tail (j:=k+1) O J e6 hl6 hl7 hl8 (hk ki) (hk krem) (hk kstr) m2 (by rw [List.length_append,hl']; exact Nat.le_add_right _ _) hsm hln fun s4 mm4 J=>n1 _ (wpAny_execs_nil ((fin ((wN hov hne).trans (by rw [<- hl',List.take_left,List.drop_left])) s4 mm4 J).2 rfl))
 ·rw [decide_eq_false hov];exact wpAny_execs_nil (n1 _ (wpAny_execs_nil ((fin (if_neg hov) _ _ J).2 rfl)))
structure aIv (Sta:Heap->Prop)(mV:Str->Option Value)(name:Str)(f:Addr):Prop where
 at':mV name=some (.ref f)
 fn:∃o fd,o.cls= .type "function"/\o.data= .func fd/\∀h,Sta h->h.get? f=some o
 lk:∃y,typeLookup (.type "object") name=pure y
 ni:name∉fB
section
variable {m:Addr}
variable {f:Addr}
theorem aMe (VV:VW Sta V NV mV){name:Str}(F:aIv Sta mV name f)(hb:bY o=true)(hline:(ap.endLine==pos.line)=true)(hstar:(backTo pos (starEach args env)).any (·.1)=false)(hlen:args.length<30)
  (h:wpAny (model prog w) A (eval o env) (fun ov s'1=>ov= .ref m/\Sta s'1.heap/\(∃ mA,s'1.heap.Inst m V mA/\Fat mA wd sp L c)/\
   wpAny (model prog w) A (spliced (backTo pos (starEach args env))) (fun vs s'2=>Sta s'2.heap/\wpAny (model prog w) A (call (.ref f) (.ref m::vs)) Q E s'2) E s'1) E s):
  wpAny (model prog w) A (eval (.Call (.Attribute o name ap) args [] pos) env) Q E s:=by
 refine bM hb hline hstar hlen (wpAny_mono h (fun ov s'1 h'1 pl=> ?_) fun _ _ e=>e);obtain ⟨rfl,hS,⟨mA,I,hA⟩,h'1⟩:=h'1;obtain ⟨of,fd,hfc,hfd,hfo⟩:=F.fn;obtain ⟨y,hy⟩:=F.lk;refine pH (VV.cls _ hS) VV.ga VV.gt F.at' (hfo _ hS) hfc hy I (hA.no _ F.ni) ?_;refine callWith_function (o:=of) (fd:=fd) (aK hstar (wpAny_mono h'1 (fun vs s'2 h'2=> ?_) fun _ _ e=>e));exact ⟨⟨hfo _ h'2.1,hfd⟩,h'2.2⟩
def yP (prog:Program)(w:World)(Sta:Heap->Prop)(Z:List (Addr × Addr))(V C f:Addr):Prop:=
 ∀(m dm L c dc:Addr)(wd:Int)(sp:Str)(lines:List Str)(A:Around)(E:Value->Shared->Prop)(s:Shared)(hb:Heap)(a b sep:Str)(t:Tok)(ps:List (Str × Str)),cW A 37->Bs Sta Z [m,dm,L,c,dc] hb s.heap->Fm V C s.heap m dm L c dc wd sp lines (ps++[(a,b)])->
  dM (ps++[(a,b)])->lines.length<=900->PyData.strOk a=true->PyData.strOk b=true->b≠""->eQ (ps++[(a,b)])>0->Txt.isspace (bK (ps++[(a,b)]))=false->
  ((lines++[bK (ps++[(a,b)])]).map (·.length)).sum+(lines++[bK (ps++[(a,b)])]).length*sep.length<=16777216->
  wpAny (model prog w) A (call (.ref f) [.ref m,.str sep t]) (fun v s'=>(∃ t',v= .str (Txt.join sep (lines++[bK (ps++[(a,b)])])) t')/\KW [L,c,dc] Z s s') E s
theorem aIw (W:FW prog w Sta Z mg mb)(K:AW prog w Sta C N mN)(VV:VW Sta V NV mV){q:FA}(LK:pU prog w Sta Z C mN q){fnl:Addr}(hM:aIv Sta mV "newline" fnl)(hnl:jJ prog w Sta Z V C fnl)(D:Df Sta f fd)
  {r1:List Stmt} (hbody:fd.body= .stmts (Stmt.Expr (((Name "self" p0).Attribute "newline" p1).Call [] [] p2) p3::r1)) (e1:r1=[Stmt.Return (some (((Name "linesep" p4).Attribute "join" p5).Call [(Name "self" p6).Attribute "_lines" p7] [] p8)) p9])
  (hl1:(p1.endLine==p2.line)=true) (hl2:(p5.endLine==p8.line)=true) (kself:knd fd "self"=some .local) (ksep:knd fd "linesep"=some .local)
  (hbind:∀x y:Value,bindArgs fd ⟨[x,y],[]⟩=pure [(ofString "self",x),(ofString "linesep",y)]):yP prog w Sta Z V C f:=by
 intro m dm L c dc wd sp lines A E s hb a b sep t ps hA B F hsm hln hoa hob hbe hpl hsp hsum;refine FX.enterF W K VV LK D kself hbody (.of_eq (hbind _ _)) (aNq kself ksep) rfl (hA.less (Nat.le_of_ble_eq_true rfl)) B F (T:=fun X=>cW X.A 36/\jJ X.prog X.w X.Sta X.Z X.V X.C fnl/\aIv X.Sta X.mV "newline" fnl) (fun _ _ i=>⟨i.room hA,hnl,hM⟩) fun X s'0 K' E' hk ew es T O J hq=> ?_
 refine dF fun R n _=>wpAny_Expr_any (aMe O.VV T.2.2 rfl hl1 rfl (by simp) (FX.me O J ⟨rfl,J.st O,J.F.inst,wpAny_items_nil ⟨J.st O,wpAny_mono (T.2.1 _ _ _ _ _ _ _ _ _ _ _ X.hb a b ps (T.1.less (Nat.le_of_ble_eq_true rfl)) (J.B O) J.F hsm hln hoa hob hbe hpl hsp) (fun v s'2 h'2=> ?_) fun _ _ e=>e⟩⟩)) (rC O.kf) rfl
 obtain ⟨_,k2,F2⟩:=h'2;have J2:FX.At X s'2 _ (lines++[bK (ps++[(a,b)])]) []:=⟨Ns.kw J.ns k2 (fun q=>O.LF (aIu _ q)) O.LZ,F2,J.w.trans k2,J.me⟩;refine n _ (iC e1 fun R1 n1 r1=>wpAny_Return_some (bM rfl hl2 rfl (by simp) (FX.name O J2 (hk ksep) rfl rfl fun pl=>GM.join (callWith_builtin rfl (aK rfl (wpAny_items_cons (tX O.VV rfl (FX.me O J2 ⟨rfl,J2.st O,J2.F,wpAny_items_nil ?_⟩))))))));obtain ⟨us,hLL,hus⟩:=J2.F.lines;exact PyProof.Rows.join_list hLL.isList hus hsum fun t' k=>r1 _ _ nofun (hq _ _ _ _ _ (J2.tok (t:=k)) fun w F=>⟨⟨t',rfl⟩,w⟩).1
end
section
variable {m:Addr}
variable {f:Addr}
theorem jK {rest:List Expr}
  (h:wpAny (model prog w) A (spliced (backTo pos (starEach (e::rest) env))) (fun vs s'1=>(∃ cr N bm ab ni,s'1.heap.get? C=some (aG3 cr C N bm ab ni))/\wpAny (model prog w) A (call (.ref C) vs) Q E s'1) E s)
  (he:starEach (e::rest) env=(false,eval e env)::starEach rest env:=by rfl)
  (hplain:(backTo pos (starEach rest env)).any (·.1)=false:=by rfl):
  wpAny (model prog w) A (callWith pos (.ref C) [] (backTo pos (starEach (e::rest) env)) []) Q E s:=by
 rw [he] at h ⊢;have hst:((backTo pos ((false,eval e env)::starEach rest env)).any (fun x=>x.fst)||([]:List (Option Str × Sem Value)).any fun x=>x.fst.isNone)=false:=by
  show ((false||(backTo pos (starEach rest env)).any (·.1))||false)=false;rw [hplain]; rfl
 unfold callWith;refine wpAny_bind (wpAny_holding (Calls.evalArgs_plain (wpAny_mono h (fun vs s'1 h'1=> ?_) fun _ _ x=>x)));obtain ⟨hh,g,d,t,os⟩:=s'1;obtain ⟨⟨cr,N,bm,ab,ni,hC⟩,h'1⟩:=h'1;have f1:=tc_lookup;have hT:(⟨hh,g,d,t,os⟩:Shared).TypeIs (.ref C) "type":=⟨_,hC,rfl⟩;refine wpAny_bind (wpAny_standAt ?_);show wpAny _ _ (keeperOf (.ref C) >>= _) _ _ _;unfold keeperOf specialOf
 repeat (any_goals (first | assumption | with_reducible refine wpAny_loadPart_at hC ?_ | with_reducible refine wpAny_load' hC ?_ | wp_step))
 rw [if_pos (by rfl),hst];show wpAny _ _ (call (.ref C) vs [] >>= fun r=>do holding [r] point;pure r) _ _ _;exact wpAny_bind (wpAny_mono h'1 (fun r s' hr=>wpAny_bind (wpAny_holding (wpAny_point (wpAny_pure hr)))) fun _ _ x=>x)
theorem Bs.none (B:Bs Sta Z W hb h){b:Addr}(e:h.get? b=Option.none):hb.get? b=Option.none:=by
 cases e':hb.get? b with
 | none=>rfl
 | some o=>
  by_cases hz:b∈Z.map (·.2)
  ·obtain ⟨z,hz1,rfl⟩:=List.mem_map.mp hz;obtain ⟨ps,_,_,ht⟩:=B.z.at' z hz1;rw [e] at ht;exact no1 ht
  ·rw [B.keep b o hz e'] at e;exact no2 e
structure Fo (V:Addr)(h:Heap)(x dx:Addr)(mA:Str->Option Value):Prop where
 obj:∃o,h.get? x=some o/\o.cls= .ref V/\(∀ c,o.data≠ .cls c)/\o.dict=some dx/\dx≠x
 att:h.Ns1 dx mA
 no:∀n,n∉fB->mA n=none
theorem Fo.inst {x:Addr}(X:Fo V h x dx mA):h.Inst x V mA:=by
 obtain ⟨o,h1,h2,h3,h4,h5⟩:=X.obj;exact ⟨o,h1,h2,h3,.inr ⟨dx,h4,h5,X.att⟩⟩
theorem Fo.at' {x:Addr}(X:Fo V h x dx mA)(k:∀b o,b=x\/b=dx->h.get? b=some o->h'.get? b=some o):Fo V h' x dx mA:=by
 obtain ⟨o,h1,h2⟩:=X.obj;exact ⟨⟨o,k _ _ (.inl rfl) h1,h2⟩,X.att.at fun o e=>k _ o (.inr rfl) e,X.no⟩
noncomputable def upd (mA:Str->Option Value)(n:Str)(v:Value):Str->Option Value:=fun y=>if y=n then some v else mA y
theorem aRb (VV:VW Sta V NV mV){name:Str}(hn:name∈fB){x:Addr}{v:Value}{Q:Unit->Shared->Prop}(hS:Sta s.heap)(hz:Zok Z [x,dx] s.heap)(X:Fo V s.heap x dx mA)
  (h:∀s',KW [x,dx] Z s s'->(∀ b o,b≠x->b≠dx->s.heap.get? b=some o->s'.heap.get? b=some o)->Fo V s'.heap x dx (upd mA name v)->Q () s'):wpAny (model prog w) A (setAttr (.ref x) name v) Q E s:=by
 obtain ⟨cr,hC⟩:=mF (VV.cls _ hS);have hns:=(VV.cls _ hS).ns;obtain ⟨o,ho,hoc,hod,hdi,hne⟩:=X.obj;have hxV:x≠V:=fun e=>by rw [e,hC] at ho;(replace ho:=Option.some.inj ho;subst ho); exact nomatch hoc
 obtain ⟨hp,g,d,tk,os⟩:=s;refine store_attr PySem.F.store_object hC hns VV.sa (VV.att _ hn).1 (VV.att _ hn).2 hxV X.inst (fun h' tk' hI' hk ho'=> ?_) (ns:=fB) (fun y hy=> ?_) (by rw [sizeLine_eq]; decide)
 ·obtain ⟨o'1,ho1,hc'1,hd'1,hsl1,hdi1⟩:=ho' _ ho;have hkk:∀b o,b≠x->b≠dx->hp.get? b=some o->h'.get? b=some o:=fun b o h1 h2 e=>hk b o h1 (fun o0 d2 e1 e2=>by
   have e1:hp.get? x=some o0:=e1;have ho:hp.get? x=_:=ho;rw [ho] at e1;(replace e1:=Option.some.inj e1;subst e1); rw [hdi] at e2;(replace e2:=Option.some.inj e2;subst e2); exact h2) e
  have w1:KW [x,dx] Z ⟨hp,g,d,tk,os⟩ ⟨h',g,d,tk',os⟩:=KW.out (s:=⟨hp,g,d,tk,os⟩) hz.out fun b o hb' e=>hkk b o (fun q=>hb' (by simp [q])) (fun q=>hb' (by simp [q])) e
  refine h _ w1 hkk ⟨⟨o'1,ho1,hc'1.trans hoc,fun c=>by rw [hd'1]; exact hod c,hdi1 dx hdi,hne⟩,?_,fun n hn'=> ?_⟩
  ·obtain ⟨o2,ho2,_,_,hd2⟩:=hI';rw [ho1] at ho2;(replace ho2:=Option.some.inj ho2;subst ho2)
   rcases hd2 with ⟨hn,_⟩ | ⟨d2,hd2,_,hns2⟩
   ·rw [hdi1 dx hdi] at hn;exact no2 hn
   ·rw [hdi1 dx hdi] at hd2;(replace hd2:=Option.some.inj hd2;subst hd2); exact hns2
  ·show (if n=name then _ else mA n)=none;rw [if_neg (show ¬n=name from fun q=>hn' (by rw [q]; exact hn)),X.no n hn']
 ·refine Decidable.byContradiction fun q=>hy (X.no y q)
end
def nT (prog:Program)(w:World)(Sta:Heap->Prop)(Z:List (Addr × Addr))(C:Addr):Prop:=
 ∀(A:Around)(E:Value->Shared->Prop)(s:Shared)(hb:Heap)(t:Tok),cW A 10->Bs Sta Z [] hb s.heap->
  wpAny (model prog w) A (call (.ref C) [.int 0 t]) (fun v s'=>∃x dx,v= .ref x/\KW [] Z s s'/\Acc C s'.heap x dx []/\s.heap.get? x=none/\s.heap.get? dx=none) E s
structure I0 (Sta:Heap->Prop)(Z:List (Addr × Addr))(fd:FuncData)(env:Env)(x dx:Addr)(s:Shared)(hb:Heap)(mm:Str->Option Value):Prop where
 kf:env.scope.kind= .function
 ko:∀x,env.kindOf x=knd fd x
 ge:env.globals=mainGlobals
 be:env.builtins=builtinsNs
 LW:env.locals∉[x,dx]
 LZ:env.locals∉Z.map (·.2)
 B:Bs Sta Z [x,dx] hb s.heap
 ks:knd fd "self"=some .local
 self:mm "self"=some (.ref x)
structure I1 (Z:List (Addr × Addr))(V:Addr)(env:Env)(x dx:Addr)(s:Shared)(mm mA:Str->Option Value)(s':Shared):Prop where
 kw:KW [x,dx] Z s s'
 X:Fo V s'.heap x dx mA
 ns:s'.heap.Ns env.locals mm
section
variable {x:Addr}{at':Str}{u:Value}{K:Flow->Shared->Prop}
theorem I1.keeps (I:I1 Z V env x dx s mm mA s'){tk:Nat}(k:∀b o,s'.heap.get? b=some o->h'.get? b=some o):I1 Z V env x dx s mm mA {s' with heap:=h',toks:=tk}:=⟨I.kw.trans (KW.of_keep k),I.X.at' fun b o _ e=>k b o e,I.ns.keeps k⟩
theorem I1.kw0 (H:I0 Sta Z fd env x dx s hb mm)(I:I1 Z V env x dx s mm mA s')(k:KW [] Z s' s'2):I1 Z V env x dx s mm mA s'2:=
 ⟨I.kw.trans k.wk,I.X.at' fun b o hb' e=>k.keep b o (nomatch ·) (fun q=>by
  obtain ⟨z,hz,e⟩:=List.mem_map.mp q;exact (H.B.z.apart z hz b (List.mem_cons.mpr (hb'.imp id List.mem_singleton.mpr))).2 e.symm) e,Ns.kw I.ns k (nomatch ·) H.LZ⟩
theorem I1.nil (H:I0 Sta Z fd env x dx s hb mm)(I:I1 Z V env x dx s mm mA s'){y:Addr}(e:s'.heap.get? y=none):s.heap.get? y=none:=by
 rcases h:s.heap.get? y with _ | o
 ·rfl
 by_cases h3:y∈Z.map (·.2)
 ·obtain ⟨z,hz,rfl⟩:=List.mem_map.mp h3;obtain ⟨ps,_,_,ht⟩:=(H.B.of I.kw).z.at' z hz;exact no1 (e.symm.trans ht)
 ·refine no1 (e.symm.trans (I.kw.keep y o (fun q=> ?_) h3 h))
  rcases List.mem_cons.mp q with q | q
  ·obtain ⟨o',e',_⟩:=I.X.obj;exact no1 (e.symm.trans (q▸e'))
  ·obtain ⟨o',_,_,e',_⟩:=I.X.att;exact no1 (e.symm.trans (List.mem_singleton.mp q▸e'))
theorem I1.old (I:I1 Z V env x dx s mm mA s'){y:Addr}(e:s'.heap.get? y=none):y≠x/\y≠dx:=by
 obtain ⟨o,e1,_⟩:=I.X.obj;obtain ⟨o',_,_,e2,_⟩:=I.X.att;exact ⟨fun q=>no1 (e.symm.trans (q▸e1)),fun q=>no1 (e.symm.trans (q▸e2))⟩
theorem I1.put (S:SZ Sta Z)(VV:VW Sta V NV mV)(H:I0 Sta Z fd env x dx s hb mm)(I:I1 Z V env x dx s mm mA s')(hn:at'∈fB){Q:Unit->Shared->Prop}
  (h:∀s'2,I1 Z V env x dx s mm (upd mA at' u) s'2->(∀ b o,b≠x->b≠dx->s'.heap.get? b=some o->s'2.heap.get? b=some o)->Q () s'2):wpAny (model prog w) A (eval (.Name "self" p) env) (fun o s''=>wpAny (model prog w) A (setAttr o at' u) Q E s'') E s':=
 nm H.kf ((H.ko _).trans H.ks) I.ns H.self rfl (aRb VV hn ((H.B.of I.kw).st S) (H.B.of I.kw).z I.X fun s'2 k kk X=>h s'2 ⟨I.kw.trans k,X,Ns.kw I.ns k H.LW H.LZ⟩ kk)
theorem I1.setn (S:SZ Sta Z)(VV:VW Sta V NV mV)(H:I0 Sta Z fd env x dx s hb mm)(I:I1 Z V env x dx s mm mA s'){n:Str}(hn:at'∈fB)(kn:knd fd n=some .local)(hm:mm n=some u)(hd:(n==("__debug__":Str))=false)
  (h:∀s'2,I1 Z V env x dx s mm (upd mA at' u) s'2->K .next s'2):wpAny (model prog w) A (exec (Stmt.Assign [(Name "self" p0).Attribute at' p1] (Name n p2) p3) env) K E s':=
 plainObj_wpAny_Assign_Attribute (nm H.kf ((H.ko _).trans kn) I.ns hm hd (I.put S VV H hn fun s'2 J _=>h s'2 J))
theorem I1.setlen (W:FW prog w Sta Z mg mb)(VV:VW Sta V NV mV)(H:I0 Sta Z fd env x dx s hb mm)(I:I1 Z V env x dx s mm mA s'){n cw:Str}(hn:at'∈fB)(kn:knd fd n=some .local)(kl:knd fd "len"=some .globalImplicit)(hm:mm n=some (.str cw t))(hd:(n==("__debug__":Str))=false)(hcw:¬(cw.length:Int)>=2^63)
  (h:∀s'2 u,I1 Z V env x dx s mm (upd mA at' u) s'2->K .next s'2):wpAny (model prog w) A (exec (Stmt.Assign [(Name "self" p0).Attribute at' p1] ((Name "len" p2).Call [Name n p3] [] p4) p5) env) K E s':=by
 obtain ⟨hg,hbb⟩:=W.ns _ ((H.B.of I.kw).st W.sz);exact plainObj_wpAny_Assign_Attribute (dN H.kf ((H.ko _).trans kl) rfl (H.ge▸hg) (H.be▸hbb) W.len.1 W.len.2 rfl (wpAny_items_cons (nm H.kf ((H.ko _).trans kn) I.ns hm hd (wpAny_items_nil (PyProof.Rows.len_str hcw ((I.keeps fun _ _ e=>e).put W.sz VV H hn fun s'2 J _=>h s'2 _ J))))))
theorem I1.setlist (S:SZ Sta Z)(VV:VW Sta V NV mV)(H:I0 Sta Z fd env x dx s hb mm)(I:I1 Z V env x dx s mm mA s')(hn:at'∈fB)
  (h:∀s'2 L,I1 Z V env x dx s mm (upd mA at' (.ref L)) s'2->s'2.heap.PlainList L #[]->s.heap.get? L=none->L≠x->L≠dx->K .next s'2):wpAny (model prog w) A (exec (Stmt.Assign [(Name "self" p0).Attribute at' p1] (Expr.List [] p2) p3) env) K E s':=by
 have hL:s'.heap.get? s'.heap.objs.size=none:=bG _;obtain ⟨h1,h2⟩:=I.old hL;exact plainObj_wpAny_Assign_Attribute (wpAny_List (wpAny_items_nil ⟨Nat.le_of_ble_eq_true rfl,(I.keeps (tk:=s'.toks) fun _ _ e=>Heap.get?_push_of_some _ e).put S VV H hn fun s'2 J kk=>h s'2 _ J ⟨0,kk _ _ h1 h2 (Heap.get?_push_size _ rfl)⟩ (I.nil H hL) h1 h2⟩))
theorem Fm.made {x:Addr}(X:Fo V h x dx mA)(ft:Fat mA wd sp L c)(hL:h.PlainList L #[])(ac:Acc C h c dc [])(e1:L≠x)(e2:L≠dx)(e3:c≠x)(e4:c≠dx)(e5:dc≠x)(e6:dc≠dx)(e7:L≠c)(e8:L≠dc):Fm V C h x dx L c dc wd sp [] []:=
 ⟨X.obj,⟨mA,X.att,ft⟩,⟨#[],hL,.nil⟩,ac,by simp [e1.symm,e3.symm,e5.symm],by simp [e2.symm,e4.symm,e6.symm],by simp [e7,e8]⟩
theorem Acc.empty (X:Acc C h c dc [])(k:∀b o,b=c\/b=dc->h.get? b=some o->h'.get? b=some o):Acc C h' c dc []:=by
 obtain ⟨vs,x1,x2⟩:=X.seq;have hvs:vs.toList=[]:=List.eq_nil_of_length_eq_zero x2.1;exact ⟨⟨vs,x1.at fun o e=>k _ o (.inl rfl) e,hvs▸⟨rfl,fun i v p h=>nomatch h⟩⟩,X.dict.imp fun _ d=>d.at fun o e=>k _ o (.inr rfl) e,X.ne⟩
theorem I1.setacc (W:FW prog w Sta Z mg mb)(K':AW prog w Sta C N mN)(VV:VW Sta V NV mV)(hmk:nT prog w Sta Z C)(hgA:mg "_Accumulator"=some (.ref C))(H:I0 Sta Z fd env x dx s hb mm)(I:I1 Z V env x dx s mm mA s'){n:Str}(hn:at'∈fB)(kn:knd fd n=some .local)(ka:knd fd "_Accumulator"=some .globalImplicit)
  (hm:mm n=some (.int 0 t)) (hd:(n==("__debug__":Str))=false) (hA:cW A 10) (hL:s'.heap.PlainList L #[]) (hLs:s.heap.get? L=none) (e1:L≠x) (e2:L≠dx) (ft:∀c,Fat (upd mA at' (.ref c)) wd sp L c)
  (h:∀s'2 c dc,KW [x,dx] Z s s'2->Fm V C s'2.heap x dx L c dc wd sp [] []->s.heap.get? c=none->s.heap.get? dc=none->K .next s'2):wpAny (model prog w) A (exec (Stmt.Assign [(Name "self" p0).Attribute at' p1] ((Name "_Accumulator" p2).Call [Name n p3] [] p4) p5) env) K E s':=by
 have B:=H.B.of I.kw;have hS:=B.st W.sz;refine plainObj_wpAny_Assign_Attribute ?_;show wpAny _ _ (eval (.Name "_Accumulator" p2) env >>= fun g=>callWith p4 g [] (backTo p4 (starEach [Name n p3] env)) []) _ _ _;refine wpAny_bind (Name_function_global H.kf ((H.ko _).trans ka) (loadGlobal_global (env:=env) (H.ge▸(W.ns _ hS).1) hgA ?_) (by decide+kernel));refine jK (wpAny_items_cons (nm H.kf ((H.ko _).trans kn) I.ns hm hd (wpAny_items_nil ⟨?_,?_⟩))) rfl rfl
 ·obtain ⟨cr,hC⟩:=(K'.cls _ hS).obj;exact ⟨_,_,_,_,_,hC⟩
 refine wpAny_mono (hmk _ _ _ hb t hA (B.sub fun _ h=>nomatch h)) (fun v s'1 h'1=> ?_) fun _ _ e=>e
 obtain ⟨c,dc,e,k7,X7,hc,hdc⟩:=h'1;subst e;obtain ⟨nl,el⟩:=hL;have ne:∀b o,s'.heap.get? b=some o->b≠c/\b≠dc:=fun b o e=>⟨fun q=>no1 (hc.symm.trans (q▸e)),fun q=>no1 (hdc.symm.trans (q▸e))⟩
 obtain ⟨c1,c2⟩:=I.old hc;obtain ⟨d1,d2⟩:=I.old hdc;refine (I.kw0 H k7).put W.sz VV H hn fun s'2 J kk=>h s'2 c dc J.kw (Fm.made J.X (ft c) ⟨nl,kk _ _ e1 e2 (k7.keep L _ (fun h=>nomatch h) (B.z.not el fun vs q=>nomatch q) el)⟩ (X7.empty fun b o q e=>kk b o (q.elim (fun q=>q▸c1) fun q=>q▸d1) (q.elim (fun q=>q▸c2) fun q=>q▸d2) e) e1 e2 c1 c2 d1 d2 (ne L _ el).1 (ne L _ el).2) (I.nil H hc) (I.nil H hdc)
end
theorem aMf (W:FW prog w Sta Z mg mb)(K:AW prog w Sta C N mN)(VV:VW Sta V NV mV)(hmk:nT prog w Sta Z C)(hgA:mg "_Accumulator"=some (.ref C)){f:Addr}(D:Df Sta f fd)
  (hbody:fd.body= .stmts [Stmt.Assign [(Name "self" p0).Attribute "_maxlen" p1] (Name "maxlen" p2) p3,Stmt.Assign [(Name "self" p4).Attribute "_continuation_ws" p5] (Name "continuation_ws" p6) p7,Stmt.Assign [(Name "self" p8).Attribute "_continuation_ws_len" p9] ((Name "len" p10).Call [Name "continuation_ws" p11] [] p12) p13,Stmt.Assign [(Name "self" p14).Attribute "_splitchars" p15] (Name "splitchars" p16) p17,Stmt.Assign [(Name "self" p18).Attribute "_lines" p19] (Expr.List [] p20) p21,Stmt.Assign [(Name "self" p22).Attribute "_current_line" p23] ((Name "_Accumulator" p24).Call [Name "headerlen" p25] [] p26) p27])
  (ks:knd fd "self"=some .local) (kh:knd fd "headerlen"=some .local) (km:knd fd "maxlen"=some .local) (kc:knd fd "continuation_ws"=some .local) (kp:knd fd "splitchars"=some .local) (kl:knd fd "len"=some .globalImplicit) (ka:knd fd "_Accumulator"=some .globalImplicit)
  (hbind:∀x y z u v:Value,bindArgs fd ⟨[x,y,z,u,v],[]⟩=pure [(ofString "self",x),(ofString "headerlen",y),(ofString "maxlen",z),(ofString "continuation_ws",u),(ofString "splitchars",v)])
  (A:Around) (E:Value->Shared->Prop) (s:Shared) (hb:Heap) (x dx:Addr) (wd:Int) (cw sp:Str) (t0 t1 t2 t3:Tok) (hA:cW A 15) (B:Bs Sta Z [x,dx] hb s.heap) (X:Fo V s.heap x dx fun _=>none) (hcw:cw.length<=1000):
  wpAny (model prog w) A (call (.ref f) [.ref x,.int 0 t0,.int wd t1,.str cw t2,.str sp t3]) (fun v s'=>v= .none/\∃L c dc,KW [x,dx] Z s s'/\Fm V C s'.heap x dx L c dc wd sp [] []/\s.heap.get? L=none/\s.heap.get? c=none/\s.heap.get? dc=none) E s:=by
 refine aEm D (B.st W.sz) (by have:=hA.depth;exact bsl this) hbody (.of_eq (hbind _ _ _ _ _)) (fun y hy=> ?_) fun h'0 tk E' env bb A' R hA' henv hL hns hk hret hnext=> ?_
 ·simp only [List.mem_cons,List.not_mem_nil,or_false] at hy
  rcases hy with rfl | rfl | rfl | rfl | rfl <;> assumption
 have hLs:s.heap.get? env.locals=none:=hL▸bG _;have hLW:env.locals∉[x,dx]:=fun q=>by
  rcases List.mem_cons.mp q with q | q
  ·obtain ⟨o,e,_⟩:=X.obj;exact no1 (hLs.symm.trans (q▸e))
  ·obtain ⟨o,es,ep,e,_⟩:=X.att;exact no1 (hLs.symm.trans (List.mem_singleton.mp q▸e))
 have H:∀mm,mm "self"=some (.ref x)->I0 Sta Z fd env x dx s hb mm:=fun mm hs=>⟨by rw [henv]; exact D.kind,fun x=>by rw [henv]; rfl,by rw [henv]; exact D.globals,by rw [henv]; exact D.builtins,hLW,hL▸B.z.fresh,B,ks,hs⟩
 have J:I1 Z V env x dx s _ (fun _=>none) {s with heap:=h'0,toks:=tk}:=⟨KW.of_keep hk,X.at' fun b o _ e=>hk b o e,hns⟩;refine wpAt_of_wpAny (dF fun _ n1 _=>J.setn W.sz VV (H _ rfl) (.head _) km rfl rfl fun _ J=>n1 _ (dF fun _ n2 _=>J.setn W.sz VV (H _ rfl) (.tail _ (.head _)) kc rfl rfl fun _ J=>n2 _ (dF fun _ n3 _=>J.setlen W VV (H _ rfl) (.tail _ (.tail _ (.head _))) kc kl rfl rfl (by lia) fun _ u J=>n3 _
  (dF fun _ n4 _=>J.setn W.sz VV (H _ rfl) (.tail _ (.tail _ (.tail _ (.head _)))) kp rfl rfl fun _ J=>n4 _ (dF fun _ n5 _=>J.setlist W.sz VV (H _ rfl) (.tail _ (.tail _ (.tail _ (.tail _ (.head _))))) fun _ L J hL hLs e1 e2=>n5 _
  (dF fun _ n6 _=>J.setacc W K VV hmk hgA (H _ rfl) (.tail _ (.tail _ (.tail _ (.tail _ (.tail _ (.head _)))))) kh ka rfl rfl ((hA'.room hA).less (Nat.le_of_ble_eq_true rfl)) hL hLs e1 e2 (wd:=wd) (sp:=sp) (fun c=>⟨⟨t1,rfl⟩,⟨t3,rfl⟩,rfl,rfl,fun n hn=> ?_⟩) fun s'2 c dc k F h1 h2=>n6 _ (wpAny_execs_nil (hnext _ ⟨rfl,L,c,dc,k,F,hLs,h1,h2⟩))))))))
 have hn':∀y∈fB,n≠y:=fun y hy q=>hn (q▸hy)
 simp only [upd]
 repeat rw [if_neg (hn' _ (by simp [fB]))]
end Mine
section
open Builtin Builtin.Str
namespace Mine
theorem tZ {α:Type}{c:α}:∀{x y a b:List α},c∉x->c∉y->x++c::a=y++c::b->x=y/\a=b
 | [],[],_,_,_,_,h=>by simpa using h
 | [],y::ys,_,_,_,h2,h=>by
  have h:=(List.cons.inj (show c::_=y::(ys++c::_) from h)).1;exact absurd (by rw [h]; exact List.mem_cons_self ..) h2
 | x::xs,[],_,_,h1,_,h=>by
  have h:=(List.cons.inj (show x::(xs++c::_)=c::_ from h)).1;exact absurd (by rw [<- h]; exact List.mem_cons_self ..) h1
 | x::xs,y::ys,a,b,h1,h2,h=>by
  have h:=List.cons.inj (show x::(xs++c::a)=y::(ys++c::b) from h);obtain ⟨e,e'⟩:=tZ (fun q=>h1 (List.mem_cons_of_mem _ q)) (fun q=>h2 (List.mem_cons_of_mem _ q)) h.2;exact ⟨by rw [h.1,e],e'⟩
theorem dP {y:Str}(h:x.cps.toList=y.cps.toList):x=y:=by
 cases x;cases y
 congr 1
 exact Array.toList_inj.mp h
theorem dJ (c:Nat)(x y:Str)(r:List Str):(Str.join ⟨#[c]⟩ (x::y::r)).cps.toList=x.cps.toList++c::(Str.join ⟨#[c]⟩ (y::r)).cps.toList:=by
 show ((x++(⟨#[c]⟩:Str)++Str.join ⟨#[c]⟩ (y::r)):Str).cps.toList=_;show ((x.cps++ #[c])++(Str.join ⟨#[c]⟩ (y::r)).cps).toList=_;simp
theorem nU (c:Nat):∀{xs ys:List Str},xs≠[]->ys≠[]->(∀ p∈xs,c∉p.cps.toList)->(∀ p∈ys,c∉p.cps.toList)->Str.join ⟨#[c]⟩ xs=Str.join ⟨#[c]⟩ ys->xs=ys
 | [],_,h,_,_,_,_=>absurd rfl h
 | _,[],_,h,_,_,_=>absurd rfl h
 | [x],[y],_,_,_,_,h=>by rw [show x=y from h]
 | [x],y::z::r,_,_,h1,_,h=>by
  have:=congrArg (fun s:Str=>s.cps.toList) h;rw [dJ] at this;exact absurd (by show c∈(Str.join ⟨#[c]⟩ [x]).cps.toList;rw [this]; simp) (h1 x (by simp))
 | x::z::r,[y],_,_,_,h2,h=>by
  have:=congrArg (fun s:Str=>s.cps.toList) h;rw [dJ] at this;exact absurd (by show c∈(Str.join ⟨#[c]⟩ [y]).cps.toList;rw [<- this]; simp) (h2 y (by simp))
 | x::z::r,y::u::q,_,_,h1,h2,h=>by
  have:=congrArg (fun s:Str=>s.cps.toList) h;rw [dJ,dJ] at this;obtain ⟨e,e'⟩:=tZ (h1 x (by simp)) (h2 y (by simp)) this;rw [dP e,nU c (xs:=z::r) (ys:=u::q) (by simp) (by simp) (fun p hp=>h1 p (List.mem_cons_of_mem _ hp)) (fun p hp=>h2 p (List.mem_cons_of_mem _ hp)) (dP e')]
theorem aBt (c:Nat){xs:List Str}(h0:xs≠[])(h:∀p∈xs,c∉p.cps.toList):Txt.split (Txt.join ⟨#[c]⟩ xs) ⟨#[c]⟩=xs:=by
 have e:Txt.join ⟨#[c]⟩ xs=Str.join ⟨#[c]⟩ xs:=StrLaws.glued_eq_join _ _;refine nU c (fun q=> ?_) h0 (StrLaws.split_free _ c) h ?_
 ·have:=split_pos (Txt.join ⟨#[c]⟩ xs) ⟨#[c]⟩;rw [q] at this;simp at this
 ·rw [StrLaws.join_split,e]
section
variable {y:Str}{u:Tok}
theorem aE8 (hy:(y.length==0)=false)
  (h:∀l k,l.map (·.1)=Txt.split x y->Q (.ref s.heap.objs.size) {s with heap:=s.heap.push {cls:= .type "list",data:= .seq (strValues l).toArray},toks:=k})
  (hsz:x.length+2<=sizeLine):
  wpAny (model prog w) A (call (.builtin "str.split") [.str x t,.str y u]) Q E s:=by
 have hn:(partsBetween x (occurrences x y 0 x.length (x.length+1)) y.length).length<=sizeLine:=by
  have e1:=StrLaws.occ_length_le x y 0 x.length (x.length+1);rw [length_partsBetween]; exact Nat.lt_of_le_of_lt e1 hsz
 rcases h1:(decide (x.length<y.length)||decide (strKind x<strKind y)) with _ | _
 ·rcases hf:(occurrences x y 0 x.length (x.length+1)).isEmpty with _ | _
  ·refine call_meets PySem.F.slot_str_split (typeIs_str _ _ _) PySem.F.entry_str_split (PySem.F.args_str_split_2 _ _) (meets_str_split_sep x y t u h1 hy hf (by exact aL1 hsz) hn) ?_;show wants Q E _ {s with toks:=_,heap:=s.heap.push {cls:= .type "list",data:= .seq (strsFrom s.toks (partsBetween x (occurrences x y 0 x.length (x.length+1)) y.length)).toArray}};rw [strsFrom_eq];exact h (numbered s.toks _) _ ((numbered_texts _ _).trans ((if_neg (ne_true_of_eq_false h1)).trans (if_neg (ne_true_of_eq_false hf))).symm)
  ·exact call_meets PySem.F.slot_str_split (typeIs_str _ _ _) PySem.F.entry_str_split (PySem.F.args_str_split_2 _ _) (meets_str_split_not_found x y t u h1 hy hf)
    (h [(x,t)] s.toks ((if_neg (ne_true_of_eq_false h1)).trans (if_pos hf)).symm)
 ·exact call_meets PySem.F.slot_str_split (typeIs_str _ _ _) PySem.F.entry_str_split (PySem.F.args_str_split_2 _ _) (meets_str_split_cannot_occur x y t u h1)
   (h [(x,t)] s.toks (if_pos h1).symm)
end
end Mine
end
namespace Mine
theorem wO (C:Addr)(vals:List Value):(Code.builtin "type.__call__" ⟨.ref C::vals,[]⟩).cUnits<=8:=by
 have h:(Code.builtin "type.__call__" ⟨.ref C::vals,[]⟩).frames=0:=rfl;simp [Code.cUnits,h]
theorem cW.underF {d:Nat}(r:cW A (d+1)):cW (A.under (.builtin "type.__call__" ⟨.ref C::vals,[]⟩)) d:=by
 refine ⟨r.handled,?_,?_⟩
 ·have:=r.depth;show A.depth+1+d<990;exact sal this
 ·have h1:=r.units;have h2:=wO C vals;show A.units+(Code.builtin "type.__call__" ⟨.ref C::vals,[]⟩).cUnits+8*d+400<9900
  lia
def aKg (prog:Program)(w:World)(Sta:Heap->Prop)(Z:List (Addr × Addr))(V C f:Addr):Prop:=
 ∀(A:Around)(E:Value->Shared->Prop)(s:Shared)(hb:Heap)(x dx:Addr)(wd:Int)(cw sp:Str)(t0 t1 t2 t3:Tok),cW A 15->Bs Sta Z [x,dx] hb s.heap->Fo V s.heap x dx (fun _=>none)->cw.length<=1000->
  wpAny (model prog w) A (call (.ref f) [.ref x,.int 0 t0,.int wd t1,.str cw t2,.str sp t3]) (fun v s'=>v= .none/\∃L c dc,KW [x,dx] Z s s'/\Fm V C s'.heap x dx L c dc wd sp [] []/\s.heap.get? L=none/\s.heap.get? c=none/\s.heap.get? dc=none) E s
theorem aMg (W:FW prog w Sta Z mg mb)(VV:VW Sta V NV mV){fi:Addr}(hi:mV "__init__"=some (.ref fi))(hf:∀h,Sta h->∃o,h.get? fi=some o/\o.cls= .type "function")(hin:aKg prog w Sta Z V C fi)
  (A:Around) (E:Value->Shared->Prop) (s:Shared) (hb:Heap) (wd:Int) (cw sp:Str) (t0 t1 t2 t3:Tok) (hA:cW A 17) (B:Bs Sta Z [] hb s.heap) (hcw:cw.length<=1000):
  wpAny (model prog w) A (call (.ref V) [.int 0 t0,.int wd t1,.str cw t2,.str sp t3]) (fun v s'=>∃x dx L c dc,v= .ref x/\KW [] Z s s'/\Fm V C s'.heap x dx L c dc wd sp [] []/\∀y∈[x,dx,L,c,dc],s.heap.get? y=none) E s:=by
 obtain ⟨cr,hC⟩:=mF (VV.cls _ (B.st W.sz));have hns:=(VV.cls _ (B.st W.sz)).ns;obtain ⟨oI,hoI,hcI⟩:=hf _ (B.st W.sz);obtain ⟨hp,g,d,tk,os⟩:=s;refine wpAny_call_obj_init PySem.F.objNew hC hns hi hoI hcI fun h' x dx made=> ?_
 have hW:∀y∈[x,dx],hp.get? y=none:=fun y hy=>by
  rcases List.mem_cons.mp hy with rfl | hy
  ·exact made.newX
  ·rw [List.mem_singleton.mp hy]; exact made.newD
 have w1:KW [] Z ⟨hp,g,d,tk,os⟩ ⟨h',g,d,tk,os⟩:=KW.of_keep (s:=⟨hp,g,d,tk,os⟩) made.keeps;have B1:Bs Sta Z [x,dx] hb h':=⟨B.sta,fun b o hz e=>made.keeps b o (B.keep b o hz e),fun y hy=>B.none (hW y hy),B.z.add made.keeps hW⟩;have X1:Fo V h' x dx (fun _=>none):=by
  obtain ⟨o,h1,h2,h3,h4⟩:=made.inst;have hd:=made.dict o h1
  rcases h4 with ⟨hn,_⟩ | ⟨d2,hd2,hne,hn1⟩
  ·rw [hd] at hn;exact no2 hn
  ·rw [hd] at hd2;(replace hd2:=Option.some.inj hd2;subst hd2);exact ⟨⟨o,h1,h2,h3,hd,hne⟩,hn1,fun _ _=>rfl⟩
 have hA':cW (A.under (.builtin "type.__call__" ⟨.ref V::[.int 0 t0,.int wd t1,.str cw t2,.str sp t3],[]⟩)) 16:=cW.underF hA;refine wpAny_mono (hin _ _ ⟨h',g,d,tk,os⟩ hb x dx wd cw sp t0 t1 t2 t3 (hA'.less (by exact Nat.le_add_left _ _)) B1 X1 hcw) (fun v s'2 h'2=> ?_) fun _ _ e=>e
 obtain ⟨rfl,L,c,dc,k2,F2,n1,n2,n3⟩:=h'2;have nn:∀y,h'.get? y=none->hp.get? y=none:=fun y e=>by
  cases e':hp.get? y with
  | none=>rfl
  | some o=>rw [made.keeps y o e'] at e;exact no2 e
 refine ⟨rfl,x,dx,L,c,dc,rfl,?_,F2,fun y hy=> ?_⟩
 ·exact KW.after (c:=⟨h',g,d,tk,os⟩) (fun b o e=>⟨fun q=>no1 ((hW b q).symm.trans e),made.keeps b o e⟩) rfl rfl rfl k2
 ·simp only [List.mem_cons,List.not_mem_nil,or_false] at hy
  rcases hy with rfl | rfl | rfl | rfl | rfl
  ·exact made.newX
  ·exact made.newD
  ·exact nn _ n1
  ·exact nn _ n2
  ·exact nn _ n3
theorem kD:∀xs:List Str,(Txt.join "" xs).cps.toList=xs.flatMap (·.cps.toList):=by
 intro xs;have e:Txt.join "" xs=Str.join "" xs:=StrLaws.glued_eq_join _ _;rw [e]
 induction xs with
 | nil=>rfl
 | cons x r ih=>
  rcases r with _ | ⟨y,r⟩
  ·show x.cps.toList=_;simp
  ·show ((x++("":Str)++Str.join "" (y::r)):Str).cps.toList=_;have e2:((x++("":Str)++Str.join "" (y::r)):Str).cps.toList=x.cps.toList++(Str.join "" (y::r)).cps.toList:=by
    show ((x.cps++ #[])++(Str.join "" (y::r)).cps).toList=_;simp
   rw [e2,ih (StrLaws.glued_eq_join _ _)];simp
theorem aBu (p:Str × Str):(pjoin p).cps.toList=p.1.cps.toList++p.2.cps.toList:=by
 unfold pjoin;rw [kD]; simp
theorem cE (ps:List (Str × Str)):(bK ps).cps.toList=ps.flatMap fun p=>p.1.cps.toList++p.2.cps.toList:=by
 unfold bK;rw [kD,List.flatMap_map]
 congr 1
 funext p
 exact aBu p
def kE (p:Str):Prop:=p.length<=100/\PyData.strOk p=true/\(∃ ini,p.cps.toList=ini++[59])/\10∉p.cps.toList
def gJ (ps:List (Str × Str)):Prop:=∀q∈ps,q.1=""/\kE q.2
noncomputable def yQ (wd:Int)(pieces:List Str):List Str × List (Str × Str):=pieces.foldl (fun st p=>bT wd st.1 st.2 ("",p)) ([],[])
theorem uA (wd:Int)(a:List Str)(p:Str):yQ wd (a++[p])=bT wd (yQ wd a).1 (yQ wd a).2 ("",p):=by
 unfold yQ;rw [List.foldl_append]; rfl
structure jL (k:Nat)(st:List Str × List (Str × Str)):Prop where
 nice:gJ st.2
 len:st.2.length<=k
 lines:st.1.length<=k
 each:∀l∈st.1,∃ps,l=bK ps/\gJ ps/\ps.length<=k
theorem jL.step {st:List Str × List (Str × Str)}{p:Str}(G:jL k st)(hp:kE p):jL (k+1) (bT wd st.1 st.2 ("",p))/\∃ps,(bT wd st.1 st.2 ("",p)).2=ps++[(ofString "",p)]:=by
 have up:∀l∈st.1,∃ps,l=bK ps/\gJ ps/\ps.length<=k+1:=fun l hl=>by obtain ⟨ps,h1,h2,h3⟩:=G.each l hl;exact ⟨ps,h1,h2,by exact Nat.le_succ_of_le h3⟩
 have n1:gJ [(ofString "",p)]:=fun q hq=>by rw [List.mem_singleton.mp hq]; exact ⟨rfl,hp⟩
 have hl:=G.len;have hl':=G.lines;unfold bT
 split
 ·split
  ·exact ⟨⟨n1,by simp,by show st.1.length<=_;exact Nat.le_succ_of_le hl',up⟩,[],rfl⟩
  ·refine ⟨⟨n1,by simp,by simp;exact hl',fun l hl=> ?_⟩,[],rfl⟩
   rcases List.mem_append.mp hl with hl | hl
   ·exact up l hl
   ·exact ⟨st.2,List.mem_singleton.mp hl,G.nice,by lia⟩
 ·refine ⟨⟨fun q hq=> ?_,by simp;exact hl,by show st.1.length<=_;exact Nat.le_succ_of_le hl',up⟩,st.2,rfl⟩
  rcases List.mem_append.mp hq with hq | hq
  ·exact G.nice q hq
  ·exact n1 q hq
theorem gJ.text_len (h:gJ ps):(bK ps).length<=100*ps.length:=by
 show (bK ps).cps.size<=_;rw [<- Array.length_toList,cE]
 induction ps with
 | nil=>simp
 | cons q r ih=>
  obtain ⟨h1,h2⟩:=h q (List.mem_cons_self ..);have ih:=ih fun q hq=>h q (List.mem_cons_of_mem _ hq)
  have h2:q.2.cps.size<=100:=h2.1;simp only [List.flatMap_cons,List.length_append,List.length_cons,Array.length_toList,h1];have:("":Str).cps.size=0:=rfl
  lia
theorem gJ.no10 (h:gJ ps):10∉(bK ps).cps.toList:=by
 rw [cE];intro q;obtain ⟨p,hp,hq⟩:=List.mem_flatMap.mp q;obtain ⟨h1,h2⟩:=h p hp
 rcases List.mem_append.mp hq with hq | hq
 ·rw [h1] at hq;exact absurd hq (by decide)
 ·exact h2.2.2.2 hq
theorem gJ.has59 {p:Str}(h:kE p):59∈(bK (ps++[(ofString "",p)])).cps.toList:=by
 rw [cE];refine List.mem_flatMap.mpr ⟨("",p),by simp,List.mem_append_right _ ?_⟩;obtain ⟨ini,e⟩:=h.2.2.1;show 59∈p.cps.toList;rw [e]; simp
theorem aE9 (h:59∈x.cps.toList):Txt.isspace x=false:=by
 unfold Txt.isspace;rw [Bool.and_eq_false_iff]
 right
 rw [Array.all_eq_false];obtain ⟨i,hi,e⟩:=List.getElem_of_mem h;refine ⟨i,by simpa using hi,?_⟩;rw [Array.getElem_toList] at e;rw [e]
 decide+kernel
theorem kE.ne {p:Str}(h:kE p):p≠"":=fun q=>by
 obtain ⟨ini,e⟩:=h.2.2.1;rw [q] at e;have:(("":Str).cps.toList).length=0:=rfl;rw [e] at this;simp at this
theorem gJ.small (h:gJ ps)(hn:ps.length<=900):dM ps:=⟨hn,fun p hp=>by
 obtain ⟨h1,h2⟩:=h p hp;rw [h1];have:=h2.1;have:("":Str).length=0:=rfl
 lia⟩
theorem aIx {p:Str}(h:kE p):eQ (ps++[(ofString "",p)])>0:=by
 have h0:∀l:List (Str × Str),0<=eQ l:=fun l=>by
  unfold eQ
  induction l with
  | nil=>simp
  | cons q r ih=>simp only [List.map_cons,List.sum_cons]; lia
 have h1:eQ (ps++[(ofString "",p)])=eQ ps+p.length:=by
  unfold eQ;rw [List.map_append,List.sum_append];have:("":Str).length=0:=rfl;simp [this]
 have h2:p.length≠0:=fun q=>h.ne (by
  obtain ⟨cps⟩:=p
  ·have:cps= #[]:=Array.eq_empty_of_size_eq_zero q;rw [this]; rfl)
 have:=h0 ps
 lia
theorem gK {V:Heap}:∀{vs:List Value}{xs:List Str},StrsAre vs xs->bI V vs (xs.map .str)
 | _,_,.nil=> .nil
 | _,_,.cons y t r=> .cons (.str _ _) (gK r)
def aFa (prog:Program)(w:World)(Sta:Heap->Prop)(Z:List (Addr × Addr))(V C:Addr):Prop:=
 ∀(A:Around)(E:Value->Shared->Prop)(s:Shared)(hb:Heap)(wd:Int)(cw sp:Str)(t0 t1 t2 t3:Tok),cW A 17->Bs Sta Z [] hb s.heap->cw.length<=1000->
  wpAny (model prog w) A (call (.ref V) [.int 0 t0,.int wd t1,.str cw t2,.str sp t3]) (fun v s'=>∃x dx L c dc,v= .ref x/\KW [] Z s s'/\Fm V C s'.heap x dx L c dc wd sp [] []/\∀y∈[x,dx,L,c,dc],s.heap.get? y=none) E s
noncomputable def cX (wd:Int)(pieces:List Str):List Str:=(yQ wd pieces).1++[bK (yQ wd pieces).2]
def rI (prog:Program)(w:World)(Sta:Heap->Prop)(Z:List (Addr × Addr))(f:Addr):Prop:=
 ∀(A:Around)(E:Value->Shared->Prop)(s:Shared)(hb:Heap)(P:Addr)(us:Array Value)(pieces:List Str)(wd:Int)(t:Tok),cW A 42->Bs Sta Z [] hb s.heap->s.heap.PlainList P us->StrsAre us.toList pieces->pieces≠[]->pieces.length<=100->(∀ p∈pieces,kE p)->
  wpAny (model prog w) A (call (.ref f) [.ref P,.int wd t]) (fun v s'=>∃R vs,v= .ref R/\s'.heap.PlainList R vs/\StrsAre vs.toList (cX wd pieces)/\s.heap.get? R=none/\KW [] Z s s') E s
theorem jL.fold {wd:Int}:∀(l:List Str){k:Nat}{st:List Str × List (Str × Str)},jL k st->(∀ p∈l,kE p)->jL (k+l.length) (l.foldl (fun st p=>bT wd st.1 st.2 (ofString "",p)) st)
 | [],_,_,G,_=>G
 | p::l,k,st,G,h=>by
  have:=jL.fold (wd:=wd) l ((G.step (wd:=wd) (h p (List.mem_cons_self ..))).1) fun q hq=>h q (List.mem_cons_of_mem _ hq)
  rw [List.length_cons,show k+(l.length+1)=k+1+l.length from by exact (Nat.succ_add _ _).symm];exact this
theorem jM (wd:Int)(pieces:List Str)(h:∀p∈pieces,kE p):jL pieces.length (yQ wd pieces):=by
 have:=jL.fold (wd:=wd) pieces (k:=0) (st:=([],[])) ⟨fun q hq=>(by exact nomatch hq),Nat.le_refl _,Nat.le_refl _,fun l hl=>(by exact nomatch hl)⟩ h;rw [Nat.zero_add] at this;exact this
theorem aFb (wd:Int){a:List Str}{p:Str}(h:∀q∈a++[p],kE q):∃ps,(yQ wd (a++[p])).2=ps++[(ofString "",p)]:=by
 rw [uA];exact ((jM wd a fun q hq=>h q (List.mem_append_left _ hq)).step (h p (by simp))).2
theorem pV:∀l:List (Str × Tok),StrsAre (strValues l) (l.map (·.1))
 | []=> .nil
 | p::l=> .cons p.1 p.2 (pV l)
theorem kQ (h:∀p∈pieces,kE p)(hn:pieces.length<=100):(cX wd pieces).length<=101/\(∀ l∈cX wd pieces,l.length<=10000/\10∉l.cps.toList):=by
 have G:=jM wd pieces h;refine ⟨by unfold cX;have:=G.lines;simp;exact Nat.le_trans this hn,fun l hl=> ?_⟩;unfold cX at hl
 rcases List.mem_append.mp hl with hl | hl
 ·obtain ⟨ps,rfl,h1,h2⟩:=G.each l hl;exact ⟨Nat.le_trans h1.text_len (by lia),h1.no10⟩
 ·rw [List.mem_singleton.mp hl];exact ⟨Nat.le_trans G.nice.text_len (by have:=G.len;lia),G.nice.no10⟩
theorem Fm.but {m I:Addr}(F:Fm V C h m dm L c dc wd sp lines ps)(hI:I∉[m,dm,L,c,dc])(hnt:∀items,¬h.IsTuple I items)
  (k:∀b o,b≠I->h.get? b=some o->h'.get? b=some o):Fm V C h' m dm L c dc wd sp lines ps:=by
 have kk:∀y∈[m,dm,L,c,dc], ∀o,h.get? y=some o->h'.get? y=some o:=fun y hy o e=>k y o (fun q=>hI (q▸hy)) e
 obtain ⟨o,h1,h2,h3,h4,h5⟩:=F.obj;obtain ⟨mA,h6,h7⟩:=F.att;obtain ⟨us,h8,h9⟩:=F.lines;obtain ⟨vs,x1,x2⟩:=F.acc.seq;obtain ⟨t,x3⟩:=F.acc.dict;exact ⟨⟨o,kk m (by simp) _ h1,h2,h3,h4,h5⟩,⟨mA,h6.at fun o e=>kk dm (by simp) o e,h7⟩,⟨us,h8.at fun o e=>kk L (by simp) o e,h9⟩,⟨⟨vs,x1.at fun o e=>kk c (by simp) o e,x2.keeps fun T vals hT=>let ⟨o,e,r⟩:=hT;⟨o,k T o (fun q=>hnt vals (q▸hT)) e,r⟩⟩,⟨t,x3.at fun o e=>kk dc (by simp) o e⟩,F.acc.ne⟩,F.ap⟩
structure FQ where
 V:Addr
 C:Addr
 x:Addr
 dx:Addr
 L:Addr
 c:Addr
 dc:Addr
 wd:Int
noncomputable abbrev FQ.all (q:FQ):List Addr:=[q.x,q.dx,q.L,q.c,q.dc]
abbrev FQ.At (q:FQ)(h:Heap)(st:List Str × List (Str × Str)):Prop:=Fm q.V q.C h q.x q.dx q.L q.c q.dc q.wd (ofString ";") st.1 st.2
structure FF (Sta:Heap->Prop)(Z:List (Addr × Addr))(fd:FuncData)(env:Env)(q:FQ)(s:Shared)(hb:Heap):Prop where
 kf:env.scope.kind= .function
 ko:∀x,env.kindOf x=knd fd x
 LF:env.locals∉q.all
 LZ:env.locals∉Z.map (·.2)
 Ls:s.heap.get? env.locals=none
 new:∀y∈q.all,s.heap.get? y=none
 B:Bs Sta Z [] hb s.heap
structure FI (Z:List (Addr × Addr))(env:Env)(q:FQ)(s:Shared)(done:List Str)(s':Shared):Prop where
 kw:KW [] Z s s'
 fm:q.At s'.heap (yQ q.wd done)
 ns:∃mm,s'.heap.Ns env.locals mm/\mm "maker"=some (.ref q.x)
section
variable {q:FQ}{K:Flow->Shared->Prop}{f:Addr}
theorem FF.bs (H:FF Sta Z fd env q s hb)(k:KW [] Z s s'):Bs Sta Z q.all hb s'.heap:=⟨H.B.sta,(H.B.of k).keep,fun y hy=>H.B.none (H.new y hy),(H.B.of k).z.at',((⟨H.B.z.at',fun _ _ _ h=>nomatch h⟩:Zok Z [] s.heap).add (fun _ _ e=>e) H.new).apart⟩
theorem FF.none (H:FF Sta Z fd env q s hb)(k:KW [] Z s s'){y:Addr}(e:s'.heap.get? y=none):s.heap.get? y=none:=by
 rcases h:s.heap.get? y with _ | o
 ·rfl
 ·by_cases hz:y∈Z.map (·.2)
  ·obtain ⟨z,hz1,rfl⟩:=List.mem_map.mp hz;obtain ⟨ps,_,_,ht⟩:=(H.bs k).z.at' z hz1;exact no1 (e.symm.trans ht)
  ·exact no1 (e.symm.trans (k.keep y o (nomatch ·) hz h))
theorem yR (hn:∀p∈pieces,kE p)(hpl:pieces.length<=100):((cX wd pieces).map (·.length)).sum<=101*10000/\(cX wd pieces).length<=101:=by
 obtain ⟨hr1,hr2⟩:=kQ (wd:=wd) hn hpl;refine ⟨Nat.le_trans (aEt _ 10000 fun x hx=> ?_) (by rw [List.length_map]; exact Nat.mul_le_mul_right _ hr1),hr1⟩;obtain ⟨l,hl,rfl⟩:=List.mem_map.mp hx;exact (hr2 l hl).1
theorem aBv (hn:∀p∈pieces,kE p)(hpl:pieces.length<=100):Txt.split (Txt.join (ofString "\n") (cX wd pieces)) (ofString "\n")=cX wd pieces:=
 aBt 10 (fun q=>List.append_ne_nil_of_right_ne_nil _ (List.cons_ne_nil _ _) q) fun q hq=>((kQ (wd:=wd) hn hpl).2 q hq).2
theorem aFc (hn:∀p∈pieces,kE p)(hpl:pieces.length<=100):(Txt.join (ofString "\n") (cX wd pieces)).length+2<=sizeLine:=by
 obtain ⟨h1,h2⟩:=yR (wd:=wd) hn hpl;have h3:=StrLaws.join_length_le (ofString "\n") (cX wd pieces);rw [<- StrLaws.glued_eq_join,show (ofString "\n").length=1 from rfl] at h3;rw [sizeLine_eq];have h4:(Txt.join (ofString "\n") (cX wd pieces)).length<=_:=h3
 lia
theorem aFd (hne:pieces≠[])(hn:∀p∈pieces,kE p):∃ps p,kE p/\(yQ wd pieces).2=ps++[(ofString "",p)]/\cX wd pieces=(yQ wd pieces).1++[bK (ps++[(ofString "",p)])]:=by
 rcases List.eq_nil_or_concat pieces with h | ⟨a,p,h⟩
 ·exact absurd h hne
 ·rw [List.concat_eq_append] at h;obtain ⟨ps,hps⟩:=aFb wd (a:=a) (p:=p) (h▸hn);rw [<- h] at hps;exact ⟨ps,p,hn p (h▸List.mem_append_right _ (List.mem_singleton.mpr rfl)),hps,by rw [<- hps]; rfl⟩
theorem aIy (W:FW prog w Sta Z mg mb){ftx:Addr}(VV:VW Sta q.V NV mV)(htx:aIv Sta mV "_str" ftx)(htxo:yP prog w Sta Z q.V q.C ftx)(H:FF Sta Z fd env q s hb)(I:FI Z env q s pieces s')(hne:pieces≠[])(hpl:pieces.length<=100)(hn:∀p∈pieces,kE p)(hA:cW A 37)
  (km:knd fd "maker"=some .local) (hl2:(p18.endLine==p20.line)=true) (hl3:(p21.endLine==p23.line)=true)
  (hK:∀R vs s'2,s'2.heap.PlainList R vs->StrsAre vs.toList (cX q.wd pieces)->s.heap.get? R=none->KW [] Z s s'2->K (.ret (.ref R)) s'2):
  wpAny (model prog w) A (exec (Stmt.Return (some (((((Name "maker" p17).Attribute "_str" p18).Call [Constant (.str "\n") 0 p19] [] p20).Attribute "split" p21).Call [Constant (.str "\n") 0 p22] [] p23)) p24) env) K E s':=by
 obtain ⟨mm,hns,hm⟩:=I.ns;obtain ⟨ps,p,hp,hps,hrows⟩:=aFd (wd:=q.wd) hne hn;have B:=H.bs I.kw;have G:=jM q.wd pieces hn;have F:Fm q.V q.C s'.heap q.x q.dx q.L q.c q.dc q.wd (ofString ";") (yQ q.wd pieces).1 (ps++[(ofString "",p)]):=hps▸I.fm;refine wpAny_Return_some (bM rfl hl3 rfl (Nat.le_of_ble_eq_true rfl) (aMe VV htx rfl hl2 rfl (Nat.le_of_ble_eq_true rfl) (nm H.kf ((H.ko _).trans km) hns hm rfl ⟨rfl,B.st W.sz,F.inst,wpAny_items_cons (wpAny_Constant_str (wpAny_items_nil ⟨B.st W.sz,?_⟩))⟩)));refine wpAny_mono (htxo q.x q.dx q.L q.c q.dc q.wd _ _ _ _ {s' with toks:=s'.toks+1} hb _ _ _ _ ps hA B F ((hps▸G.nice).small (hps▸by have:=G.len;exact lit (Nat.le_trans this hpl) rfl)) (by have:=G.lines;exact lit (Nat.le_trans this hpl) rfl) (by decide+kernel) hp.2.1 hp.ne (aIx hp) (aE9 (gJ.has59 hp)) (hrows▸ ?_)) (fun v s'2 h'2=> ?_) fun _ _ e=>e
 ·obtain ⟨h1,h2⟩:=yR (wd:=q.wd) hn hpl;rw [show (ofString "\n").length=1 from rfl]
  lia
 rw [<- hrows] at h'2;obtain ⟨⟨t',e⟩,k2⟩:=h'2;subst e;have w2:KW [] Z s s'2:=(I.kw.trans (KW.toks (n:=s'.toks+1))).into k2 fun y hy=>H.new y (aIu y hy)
 intro pl;refine GM.split (callWith_builtin rfl (aK rfl (wpAny_items_cons (wpAny_Constant_str (wpAny_items_nil ?_)))));refine aE8 (by rfl) (fun l k hl=> ?_) (aFc hn hpl);exact hK _ _ _ ⟨0,Heap.get?_push_size _ rfl⟩ ((hl.trans (aBv hn hpl))▸pV l) (H.none w2 (bG _)) (w2.trans (KW.of_keep fun b o e=>Heap.get?_push_of_some _ e))
theorem aBw (W:FW prog w Sta Z mg mb){fch:Addr}(VV:VW Sta q.V NV mV)(hch:aIv Sta mV "_append_chunk" fch)(hcho:nS prog w Sta Z q.V q.C fch)(H:FF Sta Z fd env q s hb){done:List Str}{p:Str}{tp:Tok}(kw:KW [] Z s s')(fm:q.At s'.heap (yQ q.wd done))
  (hns:s'.heap.Ns env.locals mm) (hm:mm "maker"=some (.ref q.x)) (hm':mm "piece"=some (.str p tp)) (hdl:done.length<100) (hn:∀q∈done,kE q) (hp:kE p) (hA:cW A 35) (hl1:(p11.endLine==p14.line)=true) (km:knd fd "maker"=some .local) (kpc:knd fd "piece"=some .local)
  (hK:∀s'2,FI Z env q s (done++[p]) s'2->KW [q.L,q.c,q.dc] Z s' s'2->K .next s'2):
  wpAny (model prog w) A (exec (Stmt.Expr (((Name "maker" p10).Attribute "_append_chunk" p11).Call [Constant (.str "") 0 p12,Name "piece" p13] [] p14) p15) env) K E s':=by
 have B:=H.bs kw;have hG:=jM q.wd done hn;refine wpAny_Expr_any ?_ (rC H.kf) rfl;refine aMe VV hch rfl hl1 rfl (Nat.le_of_ble_eq_true rfl) (nm H.kf ((H.ko _).trans km) hns hm rfl ⟨rfl,B.st W.sz,fm.inst,wpAny_items_cons (wpAny_Constant_str (wpAny_items_cons (nm H.kf ((H.ko _).trans kpc) hns hm' rfl (wpAny_items_nil ⟨B.st W.sz,?_⟩))))⟩);have hnp:gJ ((yQ q.wd done).2++[(ofString "",p)]):=fun y hy=>(List.mem_append.mp hy).elim (hG.nice y) fun hy=>(List.mem_singleton.mp hy)▸⟨rfl,hp⟩
 refine wpAny_mono (hcho q.x q.dx q.L q.c q.dc q.wd _ 59 _ _ _ {s' with toks:=s'.toks+1} hb _ _ _ _ _ hA B fm (hnp.small (by have:=hG.len;rw [List.length_append]; show _+1<=_;lia)) (by have:=hG.lines;lia) (by rfl) (by decide+kernel) fun y hy=>(hG.nice y hy).2.2.2.1) (fun v s'2 h'2=> ?_) fun _ _ e=>e
 exact hK s'2 ⟨(kw.trans (KW.toks (n:=s'.toks+1))).into h'2.2.1 fun y hy=>H.new y (aIu y hy),uA q.wd done p▸h'2.2.2,_,Ns.kw (s:={s' with toks:=s'.toks+1}) hns h'2.2.1 (fun y=>H.LF (aIu _ y)) H.LZ,hm⟩ (KW.toks.trans h'2.2.1)
end
theorem aR1 {b:Addr}{o:Obj}(hz:Zok Z [] h)(e:h.get? b=some o)(hc:o.cls≠ .none):b∉Z.map (·.2):=fun q=>by
 obtain ⟨z,hz1,rfl⟩:=List.mem_map.mp q;obtain ⟨ps,_,_,ht⟩:=hz.at' z hz1;exact hc (Option.some.inj (ht.symm.trans e)▸rfl)
structure FL0 (env:Env)(q:FQ)(s:Shared)(us:Array Value)(P I:Addr):Prop where
 PI:P≠I
 I5:I∉q.all
 IL:I≠env.locals
 P5:P∉q.all
 PL:P≠env.locals
 Is:s.heap.get? I=none
theorem Fm.iter {m I:Addr}(F:Fm V C h m dm L c dc wd sp lines ps)(hI:I∉[m,dm,L,c,dc])(hit:h.IsListIter I P i)(k:∀b o,b∉[I]->h.get? b=some o->h'.get? b=some o):Fm V C h' m dm L c dc wd sp lines ps:=
 F.but hI (fun items x=>by
  obtain ⟨o,e,_,n,hd⟩:=x;obtain ⟨o',e',_,hd'⟩:=hit;obtain rfl:=Option.some.inj (e.symm.trans e');exact nomatch hd.symm.trans hd') fun b o hb e=>k b o (fun q=>hb (List.mem_singleton.mp q)) e
theorem aMh {I:Addr}{us:Array Value}(x:h.IsListIter I P i/\h.IsList P us):∀b∈[I,P], ∃o,h.get? b=some o/\o.cls≠ .none:=fun b hb=>by
 obtain ⟨⟨o,e,hc,_⟩,⟨o',e',hc',_⟩⟩:=x
 rcases List.mem_cons.mp hb with q | hb
 ·exact q▸⟨o,e,fun q=>nomatch hc.symm.trans q⟩
 ·exact (List.mem_singleton.mp hb)▸⟨o',e',fun q=>nomatch hc'.symm.trans q⟩
section
variable {q:FQ}{K:Flow->Shared->Prop}{f:Addr}{us:Array Value}{I:Addr}
structure FJ (Z:List (Addr × Addr))(env:Env)(q:FQ)(s:Shared)(us:Array Value)(P I:Addr)(pieces:List Str)(k:Nat)(s':Shared)(done rest:List Str):Prop where
 e:pieces=done++rest
 k:k=rest.length+1
 it:s'.heap.IsListIter I P done.length/\s'.heap.IsList P us
 J:FI Z env q s done s'
theorem aFe (W:FW prog w Sta Z mg mb){fch:Addr}(VV:VW Sta q.V NV mV)(hch:aIv Sta mV "_append_chunk" fch)(hcho:nS prog w Sta Z q.V q.C fch)(H:FF Sta Z fd env q s hb)(hus:StrsAre us.toList pieces)(L0:FL0 env q s us P I)(hpl:pieces.length<=100)(hn:∀p∈pieces,kE p)(hA:cW A 35)
  (hl1:(p11.endLine==p14.line)=true) (km:knd fd "maker"=some .local) (kpc:knd fd "piece"=some .local) (it:s'.heap.IsListIter I P 0/\s'.heap.IsList P us) (J:FI Z env q s [] s')
   (hR:∀s'2,FI Z env q s pieces s'2->R (.ok .next) s'2):
  codeAny (model prog w) A (.forLoop (.Name "piece" p8) (.ref I) [Stmt.Expr (((Name "maker" p10).Attribute "_append_chunk" p11).Call [Constant (.str "") 0 p12,Name "piece" p13] [] p14) p15] [] env) R s':=by
 have Wk:=Walks.list (prog:=prog) (w:=w) (A:=A) hA.handled I P L0.PI us;have hsz:=strsAre_size hus;have stepJ:∀{h':Heap}{s':Shared}{tk':Nat}{done:List Str},s'.heap.IsListIter I P done.length->FI Z env q s done s'->(∀ b o,b∉[I]->s'.heap.get? b=some o->h'.get? b=some o)->FI Z env q s done {s' with heap:=h',toks:=tk'}:=fun it J hk'=>
  ⟨J.kw.skip (P:=fun b=>b≠I) (fun b o hb e=>hk' b o (fun q=>hb (List.mem_singleton.mp q)) e) (fun b o e q=>no1 (L0.Is.symm.trans (q▸e))),J.fm.iter L0.I5 it hk',J.ns.imp fun _ y=>⟨y.1.at' fun o e=>hk' _ o (fun q=>L0.IL (List.mem_singleton.mp q).symm) e,y.2⟩⟩
 refine codeAny_forLoop_any (fun k s'=>∃done rest,FJ Z env q s us P I pieces k s' done rest) (fun k s' j=> ?_) (pieces.length+1) ⟨[],pieces,rfl,rfl,it,J⟩;obtain ⟨done,rest,j⟩:=j
 rcases rest with _ | ⟨p,rest⟩
 ·have e:done=pieces:=by rw [j.e,List.append_nil]
  refine Wk.done _ _ _ (show _/\_ from (show done.length=us.size from e▸hsz.symm)▸j.it) fun h'4 tk4 hk4=>wpAny_execs_nil ?_
  exact hR _ (e▸stepJ j.it.1 j.J hk4)
 ·have hlt:done.length<us.size:=by rw [hsz,j.e,List.length_append]; exact Nat.lt_add_of_pos_right (Nat.succ_pos _)
  refine Wk.item done.length _ _ _ hlt j.it fun v h'4 tk4 hv hst4 hk4=> ?_
  have hpi:(pieces.map AV.str)[done.length]? =some (.str p):=by rw [j.e]; simp
  obtain ⟨tp,e⟩:=((gK (V:=h'4) hus).2 done.length v (.str p) (by rw [Array.getElem?_toList]; exact hv) hpi).str_inv;subst e;have J4:=stepJ (tk':=tk4) j.it.1 j.J hk4;obtain ⟨mm,hns4,hm⟩:=J4.ns;have hin:∀y∈pieces,y∈done++p::rest:=fun y hy=>j.e▸hy
  have hp:p∈pieces:=j.e▸List.mem_append_right _ (List.mem_cons_self ..);have hlen:done.length+(rest.length+1)<=100:=by rw [j.e,List.length_append] at hpl;exact hpl
  refine wpAny_pure (wpAny_assign_Name (wpAny_storeName_local ((H.ko _).trans kpc) hns4 (fun h'5 hns'5 hs'5=> ?_) (by rw [H.kf]; rfl)));refine wpAny_execs_cons (aBw (s':={s' with heap:=h'5,toks:=tk4+1}) W VV hch hcho H (done:=done) (KW.fresh (s':={s' with heap:=h'4,toks:=tk4}) J4.kw H.Ls hs'5) (J4.fm.loc hns4 hs'5 H.LF) hns'5 ((if_neg (by decide)).trans hm) (if_pos rfl) (by exact bsl hlen) (fun y hy=>hn y (j.e▸List.mem_append_left _ hy)) (hn p hp) hA hl1 km kpc fun s'2 J'2 k'2=>wpAny_execs_nil ?_);refine ⟨rest.length+1,j.k▸Nat.lt_succ_self _,done++[p],rest,by rw [j.e,List.append_assoc]; rfl,rfl,?_,J'2⟩;rw [List.length_append];have st5:=Wk.frame (done.length+1) h'4 h'5 hst4 fun b hb o e=>hs'5.extBut b o ((List.mem_cons.mp hb).elim (fun q=>q▸L0.IL) fun hb=>(List.mem_singleton.mp hb)▸L0.PL) e
  have B5:=H.bs (KW.fresh (tk:=0) (s':={s' with heap:=h'4,toks:=tk4}) J4.kw H.Ls hs'5);exact Wk.frame (done.length+1) h'5 s'2.heap st5 fun b hb o e=>k'2.keep b o (fun q=>(List.mem_cons.mp hb).elim (fun y=>L0.I5 (y▸aIu _ q)) fun hb=>L0.P5 ((List.mem_singleton.mp hb)▸aIu _ q)) (aR1 (h:=h'5) ⟨B5.z.at',fun _ _ _ h=>nomatch h⟩ e (by obtain ⟨o',e',hc⟩:=aMh st5 b hb;exact Option.some.inj (e'.symm.trans e)▸hc)) e
theorem aFf (W:FW prog w Sta Z mg mb)(VV:VW Sta V NV mV)(hmk:aFa prog w Sta Z V C)(hgV:mg "_ValueFormatter"=some (.ref V))(kf:env.scope.kind= .function)(ko:∀x,env.kindOf x=knd fd x)(hge:env.globals=mainGlobals)(hL:env.locals=s.heap.objs.size)(B:Bs Sta Z [] hb s.heap)
  (k0:KW [] Z s s') (hns:s'.heap.Ns env.locals mm) (hm:mm "width"=some (.int wd t)) (hA:cW A 17) (kw:knd fd "width"=some .local) (km:knd fd "maker"=some .local) (kv:knd fd "_ValueFormatter"=some .globalImplicit)
  (hK:∀(q:FQ)(s'2:Shared),q.V=V->q.C=C->q.wd=wd->FF Sta Z fd env q s hb->FI Z env q s [] s'2->s'2.heap.Ns env.locals (fun z=>if z=ofString "maker" then some (.ref q.x) else mm z)->K .next s'2):
  wpAny (model prog w) A (exec (Stmt.Assign [Name "maker" p0] ((Name "_ValueFormatter" p1).Call [Constant (.int 0) 0 p2,Name "width" p3,Constant (.str " ") 0 p4,Constant (.str ";") 0 p5] [] p6) p7) env) K E s':=by
 have B0:=B.of k0;have hLs:s.heap.get? env.locals=none:=hL▸bG _;have hLZ:env.locals∉Z.map (·.2):=hL▸B.z.fresh;refine wpAny_Assign_Name ?_;show wpAny _ _ (eval (.Name "_ValueFormatter" p1) env >>= fun g=>callWith p6 g [] (backTo p6 (starEach [Constant (.int 0) 0 p2,Name "width" p3,Constant (.str " ") 0 p4,Constant (.str ";") 0 p5] env)) []) _ _ _;refine wpAny_bind (Name_function_global kf ((ko _).trans kv) (loadGlobal_global (env:=env) (hge▸(W.ns _ (B0.st W.sz)).1) hgV ?_) (by decide+kernel));refine jK (wpAny_items_cons (wpAny_Constant_int (wpAny_items_cons (nm kf ((ko _).trans kw) hns hm rfl (wpAny_items_cons (wpAny_Constant_str (wpAny_items_cons (wpAny_Constant_str (wpAny_items_nil ⟨?_,?_⟩))))))))) rfl rfl
 ·obtain ⟨cr,hC⟩:=mF (VV.cls _ (B0.st W.sz));exact ⟨_,_,_,_,_,hC⟩
 refine wpAny_mono (hmk _ _ {s' with toks:=s'.toks+1+1+1} hb wd _ _ _ _ _ _ hA B0 (Nat.le_of_ble_eq_true rfl)) (fun v s'1 h'1=> ?_) fun _ _ e=>e
 obtain ⟨x,dx,L,c,dc,e,k1,F1,hn1⟩:=h'1;subst e;have w1:KW [] Z s s'1:=k0.trans (KW.toks.trans k1);have hns1:s'1.heap.Ns env.locals mm:=Ns.kw (s:={s' with toks:=s'.toks+1+1+1}) hns k1 (fun h=>nomatch h) hLZ;have new:∀y∈[x,dx,L,c,dc],s.heap.get? y=none:=fun y hy=>by
  rcases e:s.heap.get? y with _ | o
  ·rfl
  ·by_cases hz:y∈Z.map (·.2)
   ·obtain ⟨z,hz1,rfl⟩:=List.mem_map.mp hz;obtain ⟨ps,_,_,ht⟩:=B0.z.at' z hz1;exact no1 ((hn1 _ hy).symm.trans ht)
   ·exact no1 ((hn1 _ hy).symm.trans (k0.keep y o (nomatch ·) hz e))
 have hLF:env.locals∉[x,dx,L,c,dc]:=fun q=>by
  obtain ⟨o,es,ep,e,_⟩:=hns;exact no1 ((hn1 _ q).symm.trans e)
 refine wpAny_storeName_local ((ko _).trans km) hns1 (fun h'2 hns'2 hs'2=> ?_) (by rw [kf]; rfl);exact hK ⟨V,C,x,dx,L,c,dc,wd⟩ _ rfl rfl rfl ⟨kf,ko,hLF,hLZ,hLs,new,B⟩ ⟨KW.fresh w1 hLs hs'2,F1.loc hns1 hs'2 hLF,_,hns'2,if_pos rfl⟩ hns'2
theorem aBx (W:FW prog w Sta Z mg mb)(VV:VW Sta V NV mV)(hmk:aFa prog w Sta Z V C)(hgV:mg "_ValueFormatter"=some (.ref V)){fch ftx:Addr}(hch:aIv Sta mV "_append_chunk" fch)(hcho:nS prog w Sta Z V C fch)(htx:aIv Sta mV "_str" ftx)(htxo:yP prog w Sta Z V C ftx)
  {f:Addr} (D:Df Sta f fd)
  (hbody:fd.body= .stmts [Stmt.Assign [Name "maker" p0] ((Name "_ValueFormatter" p1).Call [Constant (.int 0) 0 p2,Name "width" p3,Constant (.str " ") 0 p4,Constant (.str ";") 0 p5] [] p6) p7,Stmt.For (Name "piece" p8) (Name "pieces" p9) [Stmt.Expr (((Name "maker" p10).Attribute "_append_chunk" p11).Call [Constant (.str "") 0 p12,Name "piece" p13] [] p14) p15] [] p16,Stmt.Return (some (((((Name "maker" p17).Attribute "_str" p18).Call [Constant (.str "\n") 0 p19] [] p20).Attribute "split" p21).Call [Constant (.str "\n") 0 p22] [] p23)) p24])
  (hl1:(p11.endLine==p14.line)=true) (hl2:(p18.endLine==p20.line)=true) (hl3:(p21.endLine==p23.line)=true)
  (kp:knd fd "pieces"=some .local) (kw:knd fd "width"=some .local) (km:knd fd "maker"=some .local) (kpc:knd fd "piece"=some .local) (kv:knd fd "_ValueFormatter"=some .globalImplicit)
  (hbind:∀x y:Value,bindArgs fd ⟨[x,y],[]⟩=pure [(ofString "pieces",x),(ofString "width",y)]):rI prog w Sta Z f:=fun A E s hb P us pieces wd t hA B hP hus hne hpl hn=>by
 refine aEm D (B.st W.sz) (by have:=hA.depth;exact bsl this) hbody (.of_eq (hbind _ _)) (fun x hx=>(List.mem_cons.mp hx).elim (fun e=>e▸kp) fun hx=>List.mem_singleton.mp hx▸kw) fun h'0 tk E' env bb A' R hA' henv hL hns hk hret _=> ?_
 have kf:env.scope.kind= .function:=by rw [henv]; exact D.kind
 have ko:∀x,env.kindOf x=knd fd x:=fun x=>by rw [henv]; rfl
 have hA1:cW A' 41:=hA'.room hA;refine wpAt_of_wpAny (dF fun R1 hn1 _=>aFf (s':={s with heap:=h'0,toks:=tk}) W VV hmk hgV kf ko (by rw [henv]; exact D.globals) hL B (KW.of_keep hk) hns rfl (hA1.less (by exact Nat.le_add_left _ _)) kw km kv fun q s'2 e1 e2 e3 H J hns'2=>hn1 _ ?_);subst e1 e2 e3;have hPn:∃n,s.heap.get? P=some {cls:= .type "list",data:= .seq us n}:=hP;obtain ⟨n,e⟩:=hPn;have hP2:s'2.heap.PlainList P us:=⟨n,J.kw.keep P _ (fun h=>nomatch h) (aR1 B.z e fun q=>nomatch q) e⟩;refine dF fun R2 hn2 _=>wpAny_For (nm kf ((ko _).trans kp) hns'2 (u:= .ref P) ((if_neg (by decide)).trans rfl) rfl ?_) (fun _=>rfl)
 refine wpAny_pyIter_list (PySem.Heap.PlainList.isList hP2) ?_;have hI:s'2.heap.get? s'2.heap.objs.size=none:=bG _;have Jm:=J.ns;refine aFe (I:=s'2.heap.objs.size) (P:=P) W VV hch hcho H hus ⟨fun q=>no1 (hI.symm.trans ((congrArg s'2.heap.get? q).symm.trans hP2.choose_spec)),fun q=> ?_,fun q=> ?_,fun q=>no1 ((H.new P q).symm.trans e),fun q=>no1 (H.Ls.symm.trans ((congrArg s.heap.get? q).symm.trans e)),H.none J.kw hI⟩ hpl hn (hA1.less (by exact Nat.le_add_left _ _)) hl1 km kpc
  ⟨⟨_,Heap.get?_push_size _ rfl,rfl,rfl⟩,(PySem.Heap.PlainList.isList hP2).at fun o e=>Heap.get?_push_of_some _ e⟩ ⟨J.kw.trans KW.push,J.fm.keeps fun _ _ e=>Heap.get?_push_of_some _ e,J.ns.imp fun _ y=>⟨y.1.keeps fun _ _ e=>Heap.get?_push_of_some _ e,y.2⟩⟩ fun s'3 J3=>hn2 _ ?_
 ·obtain ⟨o,e⟩:=J.fm.exs _ q;exact no1 (hI.symm.trans e)
 ·obtain ⟨o,es,ep,e,_⟩:=hns'2;exact no1 (hI.symm.trans (q▸e))
 exact dF fun R3 _ hr=>aIy W VV htx htxo H J3 hne hpl hn (hA1.less (by exact Nat.le_add_left _ _)) km hl2 hl3 fun R vs s4 h1 h2 h3 h4=>hr _ _ (hret _ _ ⟨R,vs,rfl,h1,h2,h3,h4⟩)
end
theorem uB:∀ps:List (Str × Str),eQ ps=((bK ps).length:Int):=by
 intro ps;show eQ ps=(((bK ps).cps.size:Nat):Int);rw [<- Array.length_toList,cE]
 induction ps with
 | nil=>rfl
 | cons q r ih=>
  have e1:eQ (q::r)=((q.1.length:Int)+q.2.length)+eQ r:=by unfold eQ;simp
  rw [e1,ih,List.flatMap_cons,List.length_append,List.length_append,Array.length_toList,Array.length_toList];rw [Int.natCast_add,Int.natCast_add];rfl
theorem uC (ps:List (Str × Str))(p:Str):eQ (ps++[(ofString "",p)])=eQ ps+(p.length:Int):=by
 unfold eQ;rw [List.map_append,List.sum_append];have:(ofString "").length=0:=rfl;simp [this]
theorem kF (ps:List (Str × Str))(p:Str):bK (ps++[(ofString "",p)])=bK ps++p:=by
 refine dP ?_;rw [cE,List.flatMap_append,<-cE];show _=((bK ps).cps++p.cps).toList;rw [Array.toList_append]
 congr 1
 rw [List.flatMap_cons,List.flatMap_nil,List.append_nil];show (ofString "").cps.toList++p.cps.toList=_;rfl
theorem aIz {p:Str}(h:kE p):p.length≠0:=by
 obtain ⟨ini,e⟩:=h.2.2.1;show p.cps.size≠0;rw [<- Array.length_toList,e];simp
theorem wP (h:gJ ps)(hne:ps≠[]):(bK ps).length≠0:=by
 rcases ps with _ | ⟨q,r⟩
 ·exact absurd rfl hne
 ·have h1:=aIz (h q (List.mem_cons_self ..)).2;show (bK (q::r)).cps.size≠0;rw [<- Array.length_toList,cE,List.flatMap_cons,List.length_append,List.length_append,Array.length_toList,Array.length_toList];have h1:q.2.cps.size≠0:=h1
  lia
theorem rJ (wd:Int):∀(l:List Str)(ps:List (Str × Str))(lines:List Str),gJ ps->(∀ p∈l,kE p)->
  aW wd l (bK ps) lines=(l.foldl (fun st p=>bT wd st.1 st.2 (ofString "",p)) (lines,ps)).1++[bK (l.foldl (fun st p=>bT wd st.1 st.2 (ofString "",p)) (lines,ps)).2]
 | [],ps,lines,_,_=>rfl
 | p::l,ps,lines,hn,h=>by
  have hp:=h p (List.mem_cons_self ..);have h':∀q∈l,kE q:=fun q hq=>h q (List.mem_cons_of_mem _ hq)
  have n1:gJ [(ofString "",p)]:=fun q hq=>by rw [List.mem_singleton.mp hq]; exact ⟨rfl,hp⟩
  have n2:gJ (ps++[(ofString "",p)]):=fun q hq=>by
   rcases List.mem_append.mp hq with q1 | q1
   ·exact hn q q1
   ·exact n1 q q1
  have t1:bK [(ofString "",p)]=p:=by
   have:=kF [] p;rw [List.nil_append] at this;rw [this];refine dP ?_;show ((bK []).cps++p.cps).toList=_;rw [Array.toList_append,cE]; rfl
  rw [List.foldl_cons];rw [qW]
  by_cases he:ps=[]
  ·subst he;have hc:bT wd lines [] (ofString "",p)=(lines,[(ofString "",p)]):=by unfold bT;split <;> rfl
   rw [if_pos (by rfl), <-kF,hc];exact rJ wd l _ lines n2 h'
  ·rw [if_neg (wP hn he)]
   by_cases ho:eQ (ps++[(ofString "",p)])>wd
   ·have hc:bT wd lines ps (ofString "",p)=(lines++[bK ps],[(ofString "",p)]):=by
     unfold bT;rw [if_pos ho]
     rcases ps with _ | ⟨a,b⟩
     ·exact absurd rfl he
     ·rfl
    rw [if_pos (by rw [uC,uB] at ho;exact ho)];show aW wd l p (lines++[bK ps])=_;dsimp only;rw [hc];have:=rJ wd l [(ofString "",p)] (lines++[bK ps]) n1 h';rw [t1] at this;exact this
   ·have hc:bT wd lines ps (ofString "",p)=(lines,ps++[(ofString "",p)]):=by unfold bT;rw [if_neg ho]
    rw [if_neg (by rw [uC,uB] at ho;exact ho), <-kF];dsimp only;rw [hc];exact rJ wd l _ lines n2 h'
theorem aFg (wd:Int)(pieces:List Str)(h:∀p∈pieces,kE p):cX wd pieces=aW wd pieces ⟨#[]⟩ []:=by
 have:=rJ wd pieces [] [] (fun q hq=>(nomatch hq)) h;have e:bK []=⟨#[]⟩:=dP (by rw [cE]; rfl);rw [e] at this;exact this.symm
def aBy (vs:List AV)(q:List Str × Int):Prop:=vs=[.list (q.1.map .str),.int q.2]/\q.1≠[]/\q.1.length<=100/\∀p∈q.1,kE p
open Classical in
noncomputable def pB (vs:List AV):Option AV:=if h:∃q,aBy vs q then some (.list ((cX h.choose.2 h.choose.1).map .str)) else none
theorem yS:∀{a b:List Str},a.map AV.str=b.map AV.str->a=b
 | [],[],_=>rfl
 | [],_::_,h=>nomatch h
 | _::_,[],h=>nomatch h
 | _::_,_::_,h=>by
  have h:=List.cons.inj h;rw [AV.str.inj h.1,yS h.2]
theorem aFh {q q':List Str × Int}(h:aBy vs q)(h':aBy vs q'):q=q':=by
 have e:=List.cons.inj (h.1.symm.trans h'.1);exact Prod.ext (yS (AV.list.inj e.1)) (AV.int.inj (List.cons.inj e.2).1)
theorem yT {q:List Str × Int}(h:aBy vs q):pB vs=some (.list ((cX q.2 q.1).map .str)):=by
 have hx:∃q,aBy vs q:=⟨q,h⟩;rw [pB,dif_pos hx,aFh hx.choose_spec h]
theorem yU {V:Heap}:∀{xs:List Str}{vs:List Value},bI V vs (xs.map .str)->StrsAre vs xs
 | [],_,h=>h.nil_inv▸ .nil
 | _::_,_,h=>h.consE fun y ys e d r=>d.strE fun t e'=>e▸e'▸ .cons _ _ (yU r)
theorem nV {Sta0:Heap->Prop}{f:Addr}(S:aNl Sta mg mb)(h'0:∀h,Sta h->Sta0 h)(h:rI prog w Sta0 Zs f)(hv:pB vs=some v):bB prog w Sta 42 f vs v:=by
 intro A E s M ys hA hS hM hex ht hd;have hx:∃q,aBy vs q:=Classical.byContradiction fun q=>no1 ((dif_neg q).symm.trans hv)
 obtain ⟨⟨ps,wd⟩,F⟩:=hx
 replace hv:=Option.some.inj ((yT F).symm.trans hv)
 subst hv;obtain ⟨e,hne,hlen,hn⟩:=F;subst e;refine hd.consE fun y ys e d r=> ?_
 refine d.listE fun P us e1 hp dl=>r.int1 fun t e2=> ?_
 subst e;subst e1;subst e2;refine wpAny_mono (h A E s s.heap P us ps wd t hA ⟨h'0 _ hS,fun _ _ _ e=>e,fun _ h=>(nomatch h),S.zok _ hS⟩ (hp.at fun o e=>(aB.mp e).2) (yU dl) hne hlen hn) (fun v s' q=> ?_) fun _ _ e=>e
 obtain ⟨R,us',e,hp',hs',hR,k⟩:=q;subst e;refine ⟨.mkList (hp'.at fun o e=>aB.mpr ⟨fun q=> ?_,e⟩) (gK hs'),k⟩;obtain ⟨o,e'⟩:=hex R q;exact no1 (hR.symm.trans e')
theorem aI0 {n1 n2:Str}{k1 k2:Nat}{e1 e2:Expr}(hb:env.blockKind= .function)(h1:env.kindOf n1=some .local)(h2:env.kindOf n2=some .local)(hl:(q2.line==q1.line)=true)(hne:n1≠n2)
  (s1:(match e1 with | .Starred .. =>true | _=>false)=false) (s2:(match e2 with | .Starred .. =>true | _=>false)=false) (f:foldedForSure 8 e1=false) (c:constantsAlone 8 e1=false):
  swappedStores [.Tuple [.Name n1 q1,.Name n2 q2] k1 q3] (.Tuple [e1,e2] k2 q8) env=pure (some [n1,n2]):=by
 have hd:[n1,n2].eraseDups=[n1,n2]:=by
  rw [List.eraseDups_cons];have:(n2==n1)=false:=beq_eq_false_iff_ne.mpr fun q=>hne q.symm
  simp only [List.filter,this,Bool.not_false];rfl
 have hn:[Name n1 q1,Name n2 q2].filterMap (fun | .Name id pos=>if env.kindOf id==some .local&&pos.line==q1.line then some id else none | _=>none)=[n1,n2]:=by
  simp only [List.filterMap,h1,h2,hl,beq_self_eq_true,Bool.and_self,if_true]
 have hv:([e1,e2].any fun | .Starred .. =>true | _=>false)=false:=by rw [List.any_cons,List.any_cons,s1,s2]; rfl
 have hf:[e1,e2].all (foldedForSure 8)=false:=by rw [List.all_cons,f]; rfl
 have hc:[e1,e2].all (constantsAlone 8)=false:=by rw [List.all_cons,c]; rfl
 unfold swappedStores;refine (if_neg (Bool.eq_false_iff.mp ?_)).trans ((if_neg (Bool.eq_false_iff.mp hv)).trans ((if_neg (Bool.eq_false_iff.mp ((congrArg (fun l:List Str=>(l.length !=2||l.eraseDups.length !=l.length)) hn).trans ?_))).trans
  ((if_neg (Bool.eq_false_iff.mp hf)).trans ((if_neg (Bool.eq_false_iff.mp hc)).trans (congrArg (fun l=>pure (some l)) hn)))))
 ·rw [hb]; rfl
 ·show ([n1,n2].length !=2||[n1,n2].eraseDups.length !=2)=false;rw [hd]; rfl
theorem wQ (g:Eg)(K:aA1 g.Sta mN g.cf.c N){fI:Addr}{oI:Obj}(hi:mN "__init__"=some (.ref fI))(hcI:oI.cls= .type "function")(hoI:∀h,g.Sta h->h.get? fI=some oI)(hat:∀h,g.Sta h->aLm vX h fI fd/\h.NoLimit)
  (nn:∀y∈[ofString "raw",ofString "n",ofString "nt",ofString "norm",ofString "is_simple"],yK mN y) (hg:g.mg "Whitespace"=some (.ref g.cf.c)) {tS tT:Tok}
  (hc1:∀(A:Around)(E:Value->Shared->Prop)(s:Shared)(Q:Value->Shared->Prop),g.Sta s.heap->Q (.str " " tS) {s with toks:=s.toks+1}->wpAny (model g.prog g.w) A (getAttr (.ref g.cf.c) "S" true) Q E s)
  (hc2:∀(A:Around)(E:Value->Shared->Prop)(s:Shared)(Q:Value->Shared->Prop),g.Sta s.heap->Q (.str "\t" tT) {s with toks:=s.toks+1}->wpAny (model g.prog g.w) A (getAttr (.ref g.cf.c) "T" true) Q E s)
   (hr:∀c∈raw.cps.toList,c=32\/c=9) (hlen:raw.length<=900):
  bB g.prog g.w g.Sta (g.d+2) g.cf.c [.str raw] (.inst g.cf.c [("raw",.str raw),("n",.int (lB raw.cps.toList [] 0 0 0).2.2.1),("nt",.int (lB raw.cps.toList [] 0 0 0).2.2.2),("norm",.tup [.tup ((lB raw.cps.toList [] 0 0 0).1.map .int),.int (lB raw.cps.toList [] 0 0 0).2.1]),("is_simple",.bool (decide ((lB raw.cps.toList [] 0 0 0).1.length<=1)))]):=by
 refine aA3 K (fn:=vX) hi (by decide+kernel) hcI hoI hat rfl fun b E s S x dx Q hbe hsc hxc m k=> ?_
 obtain ⟨sc,env,A,s'0,F⟩:=b;obtain rfl:sc=vX.sc:=hsc;have hl0:0+(raw.cps.toList.length:Int)<=900:=by rw [Array.length_toList]; have:raw.cps.size<=900:=hlen;lia
 obtain ⟨⟨ρ5,hf,H5⟩,hw⟩:=aO1 g.cf 0 x raw.cps.toList hr (vS (bD vX.ps [.addr x,.str raw])) [] 0 0 0 (aIb rfl) (Int.le_refl 0) hl0 (Nat.zero_le _);have e:=m.rel.ok.env;have hbk:env.blockKind= .function:=by unfold Env.blockKind;rw [m.rel.ok.kind]; rfl
 exact aH3 (k:=30) m K hxc nn rfl rfl hg rfl aLw hc1 hc2 (aI0 hbk (e.loc _ rfl) (e.loc _ rfl) rfl (by decide) rfl rfl rfl rfl) hf H5.self ⟨H5.evN,rfl⟩ ⟨H5.evNt,rfl⟩ ⟨H5.evNorm hw aH9,aEb⟩ ⟨H5.evSimple hw aD9,rfl⟩
  (fun _ _=>rfl) (fun _ _=>rfl) (fun _ _=>rfl) (fun _ _=>rfl) fun s' O' m'=>k s' O' ρ5 m'
end Mine
section
open PySem PySem.Builtin PySem.Builtin.Re PyProof.Rows
namespace Mine
theorem uD:∀(ps:List Str)(acc:Array Nat),(ps.foldl (fun acc p=>acc++(#[]:Array Nat)++p.cps) acc).toList=acc.toList++(ps.map (·.cps.toList)).flatten
 | [],acc=>by simp
 | p::r,acc=>by rw [List.foldl_cons,uD r]; simp
theorem uE (ps:List Str):(Txt.join ⟨#[]⟩ ps).cps.toList=(ps.map (·.cps.toList)).flatten:=by
 show ((ps.drop 1).foldl (fun acc p=>acc++(#[]:Array Nat)++p.cps) (ps.headD Str.empty).cps).toList=_;rw [uD]
 rcases ps with _ | ⟨p,r⟩
 ·rfl
 ·simp
noncomputable def dK (text:Array Nat)(r:Str)(F:Nat->Option Nat)(G:Nat->Nat)(p:Nat):List Nat:=((bW text r F G (text.size- p+1) p).map (·.cps.toList)).flatten
theorem eF {p s:Nat}(h:p<s)(hs:s<=text.size):(text.extract p s).toList=text.getD p 0::(text.extract (p+1) s).toList:=by
 have hp:p<text.size:=by exact Nat.le_trans h hs
 rw [Array.toList_extract,Array.toList_extract,List.extract_eq_take_drop,List.extract_eq_take_drop];have h1:text.toList.drop p=text.getD p 0::text.toList.drop (p+1):=by
  rw [List.drop_eq_getElem_cons (by simpa using hp)];simp [Array.getD,hp]
 rw [h1,show s- p=(s- (p+1))+1 from by lia,List.take_succ_cons]
section
variable {code:Array Nat}{r:Str}{F:Nat->Option Nat}{G:Nat->Nat}{hit:Nat->Bool}
theorem yV (hF:oO code text F G){p:Nat}(hp:text.size<=p)(hp':p<=text.size):dK text r F G p=[]:=by
 have e:p=text.size:=by exact Nat.le_antisymm hp' hp
 subst e;unfold dK
 rcases hf:F text.size with _ | s
 ·rw [cM hf,if_neg (Nat.lt_irrefl _)]; rfl
 ·obtain ⟨h1,h2,h3,_⟩:=hF.hit _ s (Nat.le_refl _) hf;lia
theorem yW (hF:oO code text F G){p:Nat}(hp:p<text.size)(h:F p=some p):dK text r F G p=r.cps.toList++dK text r F G (G p):=by
 obtain ⟨h1,h2,h3,_⟩:=hF.hit _ p (by exact Nat.le_of_lt hp) h;unfold dK;rw [cL h,if_neg (by exact Nat.lt_irrefl _),fS hF (text.size- p) (text.size- G p+1) (G p) h3 (by lia) (by exact Nat.le_refl _)];simp
theorem uF (hF:oO code text F G){p:Nat}(hp:p<text.size)(h:F p=F (p+1)):dK text r F G p=text.getD p 0::dK text r F G (p+1):=by
 unfold dK
 rcases hf:F p with _ | s
 ·rw [cM hf,cM (h▸hf),if_pos hp]
  by_cases hq:p+1<text.size
  ·rw [if_pos hq];simp only [List.map_cons,List.map_nil,List.flatten_cons,List.flatten_nil,List.append_nil];exact eF hp (Nat.le_refl _)
  ·rw [if_neg hq];have e:text.size=p+1:=by lia
   simp only [List.map_cons,List.map_nil,List.flatten_cons,List.flatten_nil,List.append_nil];rw [eF hp (Nat.le_refl _),e];simp
 ·have hf':=hf;rw [h] at hf;obtain ⟨h1,h2,h3,_⟩:=hF.hit _ s (by exact hp) hf;rw [cL hf',cL hf,if_pos (by exact h1),fS hF (text.size- p) (text.size- (p+1)) (G s) h3 (by lia) (by lia)]
  by_cases hq:p+1<s
  ·rw [if_pos hq];simp only [List.cons_append,List.nil_append,List.map_cons,List.flatten_cons];rw [eF (by exact Nat.le_of_lt hq) (by exact Nat.le_of_lt (Nat.lt_of_lt_of_le h2 h3))];simp
  ·rw [if_neg hq];have e:s=p+1:=by lia
   subst e;simp only [List.cons_append,List.nil_append,List.map_cons,List.flatten_cons];rw [eF (by exact Nat.le_refl _) (by exact Nat.le_of_lt (Nat.lt_of_lt_of_le h2 h3))];simp
end
theorem aBz {p:Nat}(hp:p<text.size)(h:fP (text.getD p 0)=false):iJ text (text.size+1- p) p=iJ text (text.size+1- (p+1)) (p+1):=by
 rw [show text.size+1- p=(text.size+1- (p+1))+1 from by lia];rw [lT,if_neg (by exact Nat.not_le_of_lt hp),h];simp
theorem aFi {p:Nat}(hp:p<text.size)(h:fP (text.getD p 0)=true):iJ text (text.size+1- p) p=some p:=by
 rw [show text.size+1- p=(text.size- p)+1 from by lia];rw [lT,if_neg (by exact Nat.not_le_of_lt hp),h];simp
theorem aB0 {p:Nat}(hp:p<text.size)(h:hV text p=false):eK text (text.size- p+1) p=eK text (text.size- (p+1)+1) (p+1):=by
 rw [fR,h,show text.size- p=text.size- (p+1)+1 from by lia];simp [hp]
theorem aFj {p:Nat}(h:hV text p=true):eK text (text.size- p+1) p=some p:=by
 rw [fR,h]; simp
theorem eA {p:Nat}(hp:p<text.size):text.toList.drop p=text.getD p 0::text.toList.drop (p+1):=by
 rw [List.drop_eq_getElem_cons (by simpa using hp)];simp [Array.getD,hp]
theorem aFk {c:Nat}{r:List Nat}(h:fP c=false):cI (c::r)=c::cI r:=by
 unfold fP at h;rw [Bool.or_eq_false_iff,beq_eq_false_iff_ne,beq_eq_false_iff_ne] at h;exact aOs h.1 h.2
theorem aRc (text:Array Nat):∀(d p:Nat),text.size- p=d->p<=text.size->dK text ⟨#[13,10]⟩ (fun p=>iJ text (text.size+1- p) p) (qI text) p=cI (text.toList.drop p):=by
 intro d
 induction d using Nat.strongRecOn with
 | ind d ih=>
  intro p hd hp
  by_cases hlt:p<text.size
  ·rcases he:fP (text.getD p 0) with _ | _
   ·rw [uF (xU text) hlt (aBz hlt he),eA hlt,aFk he,ih (text.size- (p+1)) (by lia) (p+1) rfl (by exact hlt)]
   ·rw [yW (xU text) hlt (aFi hlt he)];unfold fP at he;rw [Bool.or_eq_true,beq_iff_eq,beq_iff_eq] at he
    by_cases hc:text.getD p 0=13/\p+1<text.size/\text.getD (p+1) 0=10
    ·have e2:qI text p=p+2:=by unfold qI;rw [if_pos hc]
     rw [e2,ih (text.size- (p+2)) (by lia) (p+2) rfl (by exact hc.2.1),eA hlt,eA hc.2.1,hc.1,hc.2.2];rfl
    ·have e2:qI text p=p+1:=by unfold qI;rw [if_neg hc]
     rw [e2,ih (text.size- (p+1)) (by lia) (p+1) rfl (by lia),eA hlt]
     rcases he with he | he
     ·rw [he]; rfl
     ·rw [he]
      by_cases hq:p+1<text.size
      ·rw [eA hq];have hn:text.getD (p+1) 0≠10:=fun z=>hc ⟨he,hq,z⟩
       generalize text.getD (p+1) 0=c at hn;generalize text.toList.drop (p+1+1)=l;show 13::10::cI (c::l)=cI (13::c::l);show _=13::10::gB true (c::l);unfold cI;rw [aLn,aLn,if_neg hn,if_neg hn]
      ·have:text.toList.drop (p+1)=[]:=by simp;exact Nat.le_of_not_lt hq
       rw [this]; rfl
  ·rw [yV (xU text) (by exact Nat.le_of_not_lt hlt) hp];have:text.toList.drop p=[]:=by simp;exact Nat.le_of_not_lt hlt
   rw [this]; rfl
theorem aRd (text:Array Nat)(hx:text.size<=2^14):∀(d p:Nat),text.size- p=d->p<=text.size->dK text ⟨#[46,46]⟩ (fun p=>eK text (text.size- p+1) p) (fun s=>s+1) p=dC (bol text p) (text.toList.drop p):=by
 intro d
 induction d with
 | zero=>
  intro p hd hp;rw [yV (xX text hx) (by omega) hp];have:text.toList.drop p=[]:=by simp;omega
  rw [this]; rfl
 | succ d ih=>
  intro p hd hp;have hlt:p<text.size:=by omega
  have hb:bol text (p+1)=(text.getD p 0==10):=by unfold bol;simp
  rcases he:hV text p with _ | _
  ·rw [uF (xX text hx) hlt (aB0 hlt he),eA hlt,ih (p+1) (by omega) (by exact hlt),hb];unfold hV at he;rw [gC];rw [if_neg];intro q;rw [q.2,q.1] at he;simp [hlt] at he
  ·rw [yW (xX text hx) hlt (aFj he),eA hlt,ih (p+1) (by omega) (by exact hlt),hb];unfold hV at he;simp only [Bool.and_eq_true,decide_eq_true_eq,beq_iff_eq] at he;rw [he.2,he.1.1];rfl
end Mine
end
namespace Mine
theorem aMi (l:List Nat):(cI l).length<=2*l.length:=go false l
where go:∀(b:Bool)(l:List Nat),(gB b l).length<=2*l.length
 | _,[]=>Nat.le_refl _
 | b,c::r=>by
  have h1:=go false r;have h2:=go true r;have e:(c::r).length=r.length+1:=rfl;rw [aLn]
  split
  ·split
   ·lia
   ·show (gB false r).length+1+1<=_;lia
  ·split
   ·show (gB true r).length+1+1<=_;lia
   ·show (gB false r).length+1<=_;lia
noncomputable def aFl (p1 p2 p3 p4 p5 p6 p7 p8 a1 a2:Pos):List Stmt:=
 [.Return (some (.Call (.Attribute (.Name "_twin_re_1" p1) "sub" a1) [.Constant (.str "..") 0 p2,.Call (.Attribute (.Name "_twin_re_2" p3) "sub" a2) [.Name "CRLF" p4,.Name "data" p5] [] p6] [] p7)) p8]
theorem aKh {e1 e2:Expr}{code:Array Nat}{y r:Str}{F:Array Nat->Nat->Option Nat}{G:Array Nat->Nat->Nat}(hline:(ap.endLine==p.line)=true)
  (hst:starEach [e1,e2] env=[(false,eval e1 env),(false,eval e2 env)])
  (hname:∀Q':Value->Shared->Prop,Q' (.ref a) s->wpAny (model prog w) A (eval (.Name x xp) env) Q' E s) (hp:lU s.heap a code) (hF:oO code y.cps (F y.cps) (G y.cps)) (hr:r.length<=2) (hb:r.cps.contains 92=false) (hy:y.cps.size<=2^14)
  (h:wpAny (model prog w) A (eval e1 env) (fun v1 s'1=>(∃ u,v1= .str r u)/\wpAny (model prog w) A (eval e2 env) (fun v2 s'2=>(∃ t,v2= .str y t)/\(∀ b o,s.heap.get? b=some o->s'2.heap.get? b=some o)/\
   ∀h' t' tk,(∀ b o,s'2.heap.get? b=some o->h'.get? b=some o)->Q (.str (Txt.join ⟨#[]⟩ (bW y.cps r (F y.cps) (G y.cps) (y.cps.size+1) 0)) t') {s'2 with heap:=h',toks:=tk}) E s'1) E s):
  wpAny (model prog w) A (eval (.Call (.Attribute (.Name x xp) "sub" ap) [e1,e2] [] p) env) Q E s:=by
 have hany:(backTo p (starEach [e1,e2] env)).any (·.1)=false:=by rw [hst]; rfl
 refine bM rfl hline hany (by simp) (hname _ fun pl=> ?_);obtain ⟨pq,⟨g1,_⟩,k⟩:=id hp;refine getMethod_builtin ⟨_,g1,k.cls⟩ oR xT aHi (fun b e=>by (replace e:=Value.ref.inj e;subst e); exact ⟨_,g1,k.dict⟩) (callWith_builtin hany (aK hany ?_));rw [hst];refine spliced_cons (wpAny_mono h (fun v1 s'1 h'1=> ?_) fun _ _ x=>x);obtain ⟨⟨u,rfl⟩,h'1⟩:=h'1;refine spliced_cons (wpAny_mono h'1 (fun v2 s'2 h'2=>spliced_nil ?_) fun _ _ x=>x);obtain ⟨⟨t,rfl⟩,hk,hQ⟩:=h'2;exact aHk hF hy hr hb (hp.keeps hk) hQ
noncomputable def aI1 (x:Str):Str:=Txt.join ⟨#[]⟩ (bW x.cps ⟨#[13,10]⟩ (fun p=>iJ x.cps (x.cps.size+1- p) p) (qI x.cps) (x.cps.size+1) 0)
theorem yX (x:Str):(aI1 x).cps.toList=cI x.cps.toList:=
 (uE _).trans (aRc x.cps (x.cps.size- 0) 0 rfl (Nat.zero_le _))
theorem rK (h:x.length<=2^12):(aI1 x).cps.size<=2^14:=by
 have h1:=aMi x.cps.toList;rw [<- yX,Array.length_toList,Array.length_toList] at h1;have h:x.cps.size<=2^12:=h
 lia
theorem aI2 {a b:Str}(h:a.cps.toList=b.cps.toList):a=b:=congrArg Str.mk (Array.toList_inj.mp h)
theorem aB1 (h:x.length<=2^12):Txt.join ⟨#[]⟩ (bW (aI1 x).cps ⟨#[46,46]⟩ (fun p=>eK (aI1 x).cps ((aI1 x).cps.size- p+1) p) (fun s=>s+1) ((aI1 x).cps.size+1) 0)=aJ8 x:=
 aI2 (((uE _).trans (aRd (aI1 x).cps (rK h) ((aI1 x).cps.size- 0) 0 rfl (Nat.zero_le _))).trans (congrArg (dC true) (yX x)))
theorem pC (g:Eg){fn:Fn}{fq:Addr}{a1 a2:Addr} {p1 p2 p3 p4 p5 p6 p7 p8 ap1 ap2:Pos}(hps:fn.ps=[ofString "data"])(hbody:fn.body=aFl p1 p2 p3 p4 p5 p6 p7 p8 ap1 ap2)(hl1:(ap1.endLine==p7.line)=true)(hl2:(ap2.endLine==p6.line)=true)
  (hok:fn.ok=true) (hat:∀h,g.Sta h->aLm fn h fq fd/\h.NoLimit) (hP:∀h,g.Sta h->lU h a1 lP/\lU h a2 cY)
  (n1:fn.sc.names.lookup (ofString "_twin_re_1")=some NameKind.globalImplicit) (n2:fn.sc.names.lookup (ofString "_twin_re_2")=some NameKind.globalImplicit) (n3:fn.sc.names.lookup (ofString "CRLF")=some NameKind.globalImplicit)
  (hg1:g.mg "_twin_re_1"=some (.ref a1)) (hg2:g.mg "_twin_re_2"=some (.ref a2)) {tc:Tok} (hgc:g.mg "CRLF"=some (.str ⟨#[13,10]⟩ tc)) (hv:quoteV vs=some v):bB g.prog g.w g.Sta (g.d+1) fq vs v:=by
 rcases vs with _ | ⟨v0,_ | ⟨v1,vs⟩⟩ <;> first | exact no1 hv | skip
 ·rcases v0 with _ | _ | _ | x <;> first | exact no1 hv | skip
  refine cK hv fun hx hv=> ?_
  replace hv:=Option.some.inj hv
  subst hv;intro A E s M ys hA hS hM hex ht hd;refine aDy hok hat (by rw [hps]; rfl) hA hS hM hex ht hd fun b s'1 E1 e1 e2 R _=> ?_
  rw [<- e2] at n1 n2 n3;subst e1;obtain ⟨u,hb,hu⟩:=R.vals (ofString "data") (.str x) (by rw [hps]; rfl);refine hu.strE fun t e=> ?_
  subst e;obtain ⟨hP1,hP2⟩:=hP _ R.sta;have glob:∀{s'2:Shared}{y:Str}{u:Value}{p:Pos}{Q:Value->Shared->Prop},s'2.heap=s'1.heap->b.sc.names.lookup y=some NameKind.globalImplicit->g.mg y=some u->(y==ofString "__debug__")=false->Q u s'2->wpAny (model g.prog g.w) b.A (eval (.Name y p) b.env) Q E1 s'2:=fun e h1 h2 h3 q=>
   Name_function_global R.ok.kind (R.ok.env.glob _ h1) (loadGlobal_global (env:=b.env) (by rw [R.ok.globals,e]; exact g.S.g _ R.sta) h2 q) h3
  rw [hbody];refine wpAny_execs_cons (wpAny_Return_some ?_);refine aKh (a:=a1) (code:=lP) (y:=aI1 x) (r:=⟨#[46,46]⟩) (F:=fun text p=>eK text (text.size- p+1) p) (G:=fun _ s=>s+1) hl1 rfl (fun Q' hq=>glob rfl n1 hg1 (by decide) hq) hP1 (xX _ (rK hx)) (by decide) (by simp) (rK hx) ?_;refine wpAny_Constant_str ⟨⟨_,rfl⟩,?_⟩;refine aKh (a:=a2) (code:=cY) (y:=x) (r:=⟨#[13,10]⟩) (F:=fun text p=>iJ text (text.size+1- p) p) (G:=qI) hl2 rfl (fun Q' hq=>glob rfl n2 hg2 (by decide) hq) hP2 (xU _) (by decide) (by simp) (Nat.le_trans hx (by decide)) ?_;refine glob rfl n3 hgc (by decide) ⟨⟨_,rfl⟩,?_⟩;refine dB R.ok.kind hb (by decide) ⟨⟨_,rfl⟩,fun _ _ e=>e,fun h' t' tk hk=>⟨⟨_,rfl⟩,hk,fun h'' t'' tk'' hk''=> ?_⟩⟩;rw [aB1 hx];exact ⟨.str _ _,R.kp.trans (KW.of_keep (s:=s'1) fun b o e=>hk'' b o (hk b o e))⟩
 ·rcases v0 <;> exact no1 hv
theorem kR {K:Frag}(x:aG6 K a=true)(X:K.In h):h.Ns a (mOf K a):=by
 refine aNr x fun e he x=>aL he fun o ho hd=> ?_
 refine ⟨o,e.1,e.2,X _ _ ho,diE hd,fun b hb=> ?_,fun m=>by unfold mOf;rw [he]; rfl⟩;obtain ⟨s,hs⟩:=Option.isSome_iff_exists.mp (List.all_eq_true.mp x b (Array.mem_toList_iff.mpr hb));exact ⟨_,_,stE hs⟩
theorem aI3 {v:Option Value}(h:aNs v a=true):v=some (.ref a):=
 aNr h fun _ hb e=>aL hb fun _ hv r=>hv.trans (congrArg some ((reE r).trans (congrArg _ (beq_iff_eq.mp e))))
structure Grd (K:Frag)(mb:Str->Option Value)(ob:Obj)(h:Heap):Prop where
 X:K.In h
 b:h.Ns builtinsNs mb
 bm:BMod h mainGlobals (mOf K mainGlobals) 4 ob
 nl:h.NoLimit
structure pD (K:Frag)(mb:Str->Option Value)(ob:Obj)(h:Heap):Prop extends Grd K mb ob h where
 z:Zok Zs [] h
theorem nW {K:Frag}{l:List (Str × Addr)}(h:qG K a l=true){n:Str}{b:Addr}(hm:(n,b)∈l):mOf K a n=some (.ref b):=aI3 (List.all_eq_true.mp h _ hm)
theorem bH {K:Frag}{l:List Str}(h:iW K a l=true){n:Str}(hm:n∈l):mOf K a n=none:=Option.isNone_iff_eq_none.mp (List.all_eq_true.mp h _ hm)
structure KOk (K:Frag):Prop where
 t1:K.lookup 223=none
 t2:K.lookup 230=none
 nsG:aG6 K 3=true
 nsW:aG6 K 99=true
 nsV:aG6 K 176=true
 nsA:aG6 K 260=true
 fG:iW K 3 lO=true
 gG:qG K 3 aNt=true
 gW:qG K 99 aQc=true
 fW:iW K 99 aNu=true
 gV:qG K 176 aQd=true
 fV:iW K 176 aNv=true
 gA:qG K 260 aQe=true
 fA:iW K 260 aNw=true
 empty:∃t,mOf K 3 "EMPTYSTRING"=some (.str "" t)
 crlf:∃t,mOf K 3 "CRLF"=some (.str "\r\n" t)
 third:nsIn K cStatics "thirdparty.any"=some none
 clsW:aG7 K 100 99 [.type "object"] "object.__new__"
 clsV:aG7 K 177 176 [.type "object"] "object.__new__"
 clsA:aG7 K 261 260 [.type "list",.type "object"] "list.__new__"
 cell:∃c d sl,K.lookup 185=some ⟨c,d,.cell (some (.ref 261)),sl⟩
 d198:∃t,xO K 190 (.int 0 t)
 d213:∃t,xO K 206 (.int 0 t)
 d243:xO K 236 .none
 p270:aG8 K 270 lP
 p275:aG8 K 275 cY
 rdW:readsIn K 100 (.type "type")=true
 sW:∃t,PySem.W.findCls K (.ref 100) (.type "type") "S"=some (.val (.str " " t))
 tW:∃t,PySem.W.findCls K (.ref 100) (.type "type") "T"=some (.val (.str "\t" t))
 fs:aCw.map (fun t=>fnV K t.1)=aCw.map aK1
theorem aFm {α:Type}{a b:List α}(e:a=b)(i:Nat){x y:α}(ha:a[i]? =some x)(hb:b[i]? =some y):x=y:=Option.some.inj (ha.symm.trans ((congrArg (fun l:List α=>l[i]?) e).trans hb))
theorem KOk.f {K:Frag}(k:KOk K)(i:Nat){t:Addr × Txt0 × List (Str × Addr) × Value × Addr}(h:aCw[i]? =some t):aG5 K t.1 t.2.1 t.2.2.1 t.2.2.2.1 t.2.2.2.2:=
 aQg (aFm k.fs i (List.getElem?_map.trans (congrArg (Option.map _) h)) (List.getElem?_map.trans (congrArg (Option.map aK1) h)))
theorem yY {K:Frag}{n:Str}(h:aK0 K n x=true):∃t,mOf K 3 n=some (.str x t):=
 aNr h fun y hy e=>aL hy fun v hv r=>⟨y.2,hv.trans (congrArg some ((stE r).trans (congrArg (fun z=>Value.str z y.2) (beq_iff_eq.mp e).symm)))⟩
theorem uG {K:Frag}{n:Str}(h:aCv K n x=true):∃t,PySem.W.findCls K (.ref 100) (.type "type") n=some (.val (.str x t)):=
 aNr h fun y hy e=>aL hy fun v hv r=>aL hv fun c hc hv=>⟨y.2,hc.trans (congrArg some ((aR7 hv).trans (congrArg PySem.W.CFound.val ((stE r).trans (congrArg (fun z=>Value.str z y.2) (beq_iff_eq.mp e).symm)))))⟩
theorem aPe {tk:Nat}(e:aHb (KA lS h) h tk=qH):KOk (KA lS h):=by
 obtain ⟨e1,e⟩:=Prod.mk.inj e;obtain ⟨_,e⟩:=Prod.mk.inj e;obtain ⟨e3,e⟩:=Prod.mk.inj e;obtain ⟨e4,e⟩:=Prod.mk.inj e;obtain ⟨_,e⟩:=Prod.mk.inj e;obtain ⟨e6,e⟩:=Prod.mk.inj e;obtain ⟨e7,e⟩:=Prod.mk.inj e;obtain ⟨e8,e⟩:=Prod.mk.inj e;obtain ⟨e9,_⟩:=Prod.mk.inj e;obtain ⟨b1,e1⟩:=Bool.and_eq_true_iff.mp e1;obtain ⟨b2,e1⟩:=Bool.and_eq_true_iff.mp e1;obtain ⟨b3,e1⟩:=Bool.and_eq_true_iff.mp e1;obtain ⟨b4,e1⟩:=Bool.and_eq_true_iff.mp e1;obtain ⟨b5,e1⟩:=Bool.and_eq_true_iff.mp e1;obtain ⟨b6,e1⟩:=Bool.and_eq_true_iff.mp e1;obtain ⟨b7,e1⟩:=Bool.and_eq_true_iff.mp e1;obtain ⟨b8,e1⟩:=Bool.and_eq_true_iff.mp e1;obtain ⟨b9,e1⟩:=Bool.and_eq_true_iff.mp e1;obtain ⟨b10,e1⟩:=Bool.and_eq_true_iff.mp e1;obtain ⟨b11,e1⟩:=Bool.and_eq_true_iff.mp e1;obtain ⟨b12,e1⟩:=Bool.and_eq_true_iff.mp e1;obtain ⟨b13,e1⟩:=Bool.and_eq_true_iff.mp e1;obtain ⟨b14,e1⟩:=Bool.and_eq_true_iff.mp e1;obtain ⟨b15,e1⟩:=Bool.and_eq_true_iff.mp e1;obtain ⟨b16,b17⟩:=Bool.and_eq_true_iff.mp e1;obtain ⟨v1,d1,aCx⟩:=vC (aFm e8 0 rfl rfl);obtain ⟨t1,aCx⟩:=aCu aCx;obtain ⟨v2,d2,q2⟩:=vC (aFm e8 1 rfl rfl);obtain ⟨t2,q2⟩:=aCu q2;obtain ⟨v3,d3,q3⟩:=vC (aFm e8 2 rfl rfl);exact {
  t1:=rfl,t2:=rfl,nsG:=b1,nsW:=b2,nsV:=b3,nsA:=b4,fG:=b5,gG:=b6,gW:=b7,fW:=b8,gV:=b9,fV:=b10,gA:=b11,fA:=b12,empty:=yY b13,crlf:=yY b14,third:=e7
  clsW:=aCt (aFm e4 0 rfl rfl),clsV:=aCt (aFm e4 1 rfl rfl),clsA:=aCt (aFm e4 2 rfl rfl),cell:=aKx e6,d198:=⟨t1,aCx▸d1⟩,d213:=⟨t2,q2▸d2⟩,d243:=aKy q3▸d3,p270:=aJv (aFm e9 0 rfl rfl),p275:=aJv (aFm e9 1 rfl rfl),rdW:=b15,sW:=uG b16,tW:=uG b17,
  fs:=e3}
theorem aPf:∀{l:List Addr},(l.all fun a=>(h.get? a).isSome)=true->(KA l h).In h
 | [],_,a,o,e=>nomatch e
 | b::l,q,a,o,e=>by
  obtain ⟨aCx,q2⟩:=Bool.and_eq_true_iff.mp q
  by_cases x:a=b
  ·subst x;obtain ⟨o',ho⟩:=Option.isSome_iff_exists.mp aCx;have e':some ((h.get? a).getD default)=some o:=(List.lookup_cons_self ..).symm.trans e;rw [ho] at e' ⊢; exact e'
  ·have x':(a==b)=false:=beq_eq_false_iff_ne.mpr x;refine aPf q2 a o (Eq.trans ?_ e);show _=List.lookup a ((b,_)::KA l h);rw [List.lookup_cons,x']
theorem aFn {K:Frag}(X:K.In h)(hc:c≠P)(e:aQh K h c P=some (.type "code",.ref P,⟨.none,none,.fields #[], #[]⟩)):aQf h c P:=
 aL e fun o hk e=>aL e fun vs hf e=>aL e fun p h1 e=>aL e fun a h2 e=>aL e fun b h3 e=>aL e fun i h4 e=>aL e fun d h5 e=>kJ e fun q ho e=>by
  have ep:p= .ref P:=congrArg (fun t:Value × Value × Obj=>t.2.1) e;have eo:q=⟨.none,none,.fields #[], #[]⟩:=congrArg (fun t:Value × Value × Obj=>t.2.2) e;rw [ep] at h1;rw [eo] at ho;exact ⟨#[],⟨o,vs,a.1,a.2,b.1,b.2,i,d.1,d.2,_,X _ _ hk,fiE hf,by rw [Array.getD_eq_getD_getElem?,h1]; rfl,stE h2,inE h3,boE h4,inE h5,ho,rfl,trivial,hc⟩,⟨o,vs,X _ _ hk,congrArg (fun t:Value × Value × Obj=>t.1) e,fiE hf,h1⟩,ho⟩
theorem aPg {tk:Nat}(e:aHb (KA lS h) h tk=qH):(KA lS h).In h/\Zok Zs [] h/\0<tk:=by
 obtain ⟨_,e⟩:=Prod.mk.inj e;obtain ⟨e2,e⟩:=Prod.mk.inj e;obtain ⟨_,e⟩:=Prod.mk.inj e;obtain ⟨_,e⟩:=Prod.mk.inj e;obtain ⟨e5,e⟩:=Prod.mk.inj e;obtain ⟨_,e⟩:=Prod.mk.inj e;obtain ⟨_,e⟩:=Prod.mk.inj e;obtain ⟨_,e⟩:=Prod.mk.inj e;obtain ⟨_,e⟩:=Prod.mk.inj e;have X:=aPf e2;refine ⟨X,⟨fun z hz=> ?_,fun _ _ _ h=>nomatch h⟩,Nat.le_of_ble_eq_true e⟩
 rcases List.mem_cons.mp hz with q | hz
 ·exact q▸aFn X (by decide) (aFm e5 0 rfl rfl)
 ·exact (List.mem_singleton.mp hz)▸aFn X (by decide) (aFm e5 1 rfl rfl)
end Mine
section
set_option maxHeartbeats 1000000
namespace Mine
section
variable {K:Frag}{ob:Obj}
noncomputable abbrev P1:Program:=PySem.Challenge.rw_re0160_01.row.prog
def dQ (mb:Str->Option Value):Prop:=∀x:Str,x≠"__name__"->mb x=bootBuiltins x
theorem aFo {m:Str->Option Value}(x:h.Ns a m)(ha:a∉Zs.map (·.2))(k:∀b o,b∉Zs.map (·.2)->h.get? b=some o->h'.get? b=some o):h'.Ns a m:=
 by obtain ⟨o,es,ep,e,r⟩:=x;exact ⟨o,es,ep,k _ _ ha e,r⟩
theorem jN (k:KOk K):SZ (Grd K mb ob) Zs:=fun h h' kk g=>by
 refine ⟨fun a o e=>kk a o (fun q=> ?_) (g.X a o e),aFo g.b (by decide) kk,⟨aFo g.bm.ns (by decide) kk,g.bm.name,g.bm.ne,kk _ _ (by decide) g.bm.obj,g.bm.cls,g.bm.dict,g.bm.data⟩,by obtain ⟨mc,a,b⟩:=g.nl;exact ⟨mc,aFo a (by decide) kk,b⟩⟩;simp only [List.map_cons,List.map_nil,List.mem_cons,List.not_mem_nil,or_false] at q
 rcases q with rfl | rfl
 ·rw [k.t1] at e;exact no1 e
 ·rw [k.t2] at e;exact no1 e
theorem aMj {T:Txt0}{clo:List (Str × Addr)}{dV:Value}(x:aG5 K a T clo dV cc)(g:Grd K mb ob h):∃o fd,h.get? a=some o/\o.cls= .type "function"/\o.data= .func fd:=
 x.elim fun _ e=>⟨_,_,g.X _ _ e.1,rfl,rfl⟩
theorem cT {T:Txt0}{clo:List (Str × Addr)}{dV:Value}(x:aG5 K a T clo dV cc)(h1:∀n∈T.scope.names,n.2≠ .cell)(h2:T.scope.kind= .function)(h3:T.scope.isCoroutine=false)(h4:T.scope.isGenerator=false):
  ∃r,Df (Grd K mb ob) a (aG4 r T clo dV cc)/\sB K cc P1.main.file=true:=
 x.imp fun _ e=>⟨⟨fun _ g=>⟨⟨_,g.X _ _ e.1,rfl,rfl⟩,codeRec_of g.X e.2.1,g.nl⟩,rfl,rfl,h1,h2,h3,h4⟩,e.2.2⟩
def At0 (K:Frag)(mb:Str->Option Value)(ob:Obj)(fn:Fn)(a:Addr):Prop:=∃o fd,o.cls= .type "function"/\o.data= .func fd/\(∀ h,pD K mb ob h->h.get? a=some o)/\∀h,pD K mb ob h->aLm fn h a fd/\h.NoLimit
theorem uH {T:Txt0}{fn:Fn}(x:aG5 K a T [] .none cc)(hb:fn.body=T.body)(hs:fn.sc=T.scope)(hbind:∀(r:FR)(vals:List Value),vals.length=fn.ps.length->bindArgs (aG4 r T [] .none cc) ⟨vals,[]⟩=pure (fn.ps.zip vals)):At0 K mb ob fn a:=
 x.elim fun r e=>⟨_,_,rfl,rfl,fun _ g=>g.X _ _ e.1,fun _ g=>⟨⟨⟨_,g.X _ _ e.1,rfl⟩,by rw [hb],by rw [hs],rfl,rfl,rfl,codeRec_of g.X e.2.1,hbind r⟩,g.nl⟩⟩
theorem iR (k:KOk K){n:Str}(h:n∈lO):mOf K mainGlobals n=none:=bH k.fG h
theorem nX (k:KOk K){n:Str}(h:(n,a)∈aNt):mOf K mainGlobals n=some (.ref a):=nW k.gG h
theorem yZ (k:KOk K)(hmb:dQ mb):aNl (pD K mb ob) (mOf K mainGlobals) mb where
 keeps:=fun a b kp g=>⟨jN k _ _ kp.get g.toGrd,g.z.of kp⟩
 zok:=fun h g=>g.z
 g:=fun h g=>kR k.nsG g.X
 b:=fun h g=>g.b
 bi:=fun f id hm=>by
  simp only [qR,List.mem_cons,Prod.mk.injEq,List.not_mem_nil,or_false] at hm
  rcases hm with ⟨rfl,rfl⟩ | ⟨rfl,rfl⟩ | ⟨rfl,rfl⟩ | ⟨rfl,rfl⟩ | ⟨rfl,rfl⟩ | ⟨rfl,rfl⟩ <;>
   exact ⟨iR k (by decide),(hmb _ (by decide)).trans (by boot_by_name)⟩
 ty:=fun f id hm=>by
  simp only [tyTable,List.mem_cons,Prod.mk.injEq,List.not_mem_nil,or_false] at hm
  rcases hm with ⟨rfl,rfl⟩ | ⟨rfl,rfl⟩ | ⟨rfl,rfl⟩ | ⟨rfl,rfl⟩ <;>
   exact ⟨iR k (by decide),(hmb _ (by decide)).trans (by boot_by_name)⟩
 sm:=fun h g=>by
  obtain ⟨_,e⟩:=k.f 20 rfl;exact Nat.lt_trans (by decide) (Heap.lt_size (g.X _ _ e.1))
theorem eG (k:KOk K)(hmb:dQ mb):FW P1 w (Grd K mb ob) Zs (mOf K mainGlobals) mb where
 sz:=jN k
 zu:=by unfold ZU;decide
 ns:=fun h g=>⟨kR k.nsG g.X,g.b⟩
 bm:=fun h g=>⟨_,_,g.bm⟩
 nl:=fun h g=>g.nl
 sup:=⟨iR k (by decide),(hmb _ (by decide)).trans (by boot_by_name)⟩
 len:=⟨iR k (by decide),(hmb _ (by decide)).trans (by boot_by_name)⟩
 sum:=⟨iR k (by decide),(hmb _ (by decide)).trans (by boot_by_name)⟩
 str:=⟨iR k (by decide),(hmb _ (by decide)).trans (by boot_by_name)⟩
 rng:=⟨iR k (by decide),(hmb _ (by decide)).trans (by boot_by_name)⟩
theorem eH (k:KOk K):AW P1 w (Grd K mb ob) 261 260 (mOf K 260) where
 cls:=fun h g=>by
  exact ⟨k.clsA.imp fun _ e=>g.X _ _ e,kR k.nsA g.X⟩
 looks:=fun h g=>looks_opaque g.X k.third
 ga:=bH k.fA (by decide)
 gt:=bH k.fA (by decide)
 sa:=bH k.fA (by decide)
 gi:=bH k.fA (by decide)
 si:=bH k.fA (by decide)
 it:=bH k.fA (by decide)
 isz:=bH k.fA (by decide)
 app:=bH k.fA (by decide)
 bo:=bH k.fA (by decide)
theorem pW (k:KOk K):VW (Grd K mb ob) 177 176 (mOf K 176) where
 cls:=fun h g=>by
  obtain ⟨r,e⟩:=k.clsV;exact ⟨⟨r.nm,r.q,r.bs,r.sn,r.sub,r.col,r.dd,r.k0,r.k1,r.k2,r.k3,r.k5,g.X _ _ e⟩,kR k.nsV g.X⟩
 ga:=bH k.fV (by decide)
 gt:=bH k.fV (by decide)
 sa:=bH k.fV (by decide)
 att:=fun n hn=>by
  simp only [fB,List.mem_cons,List.not_mem_nil,or_false] at hn
  rcases hn with rfl | rfl | rfl | rfl | rfl | rfl <;>
   exact ⟨bH k.fV (by decide),by rw [typeLookup_type,builtinLookup_eq_fast]; kernel_rfl⟩
theorem kS (k:KOk K){name:Str}{f:Addr}{T:Txt0}{clo:List (Str × Addr)}{dV:Value}(hm:(name,f)∈aQe)(x:aG5 K f T clo dV cc){y:Option Value}(hl:typeLookup (.type "list") name=pure y)(hn:name≠"_initial_size"):Mth (Grd K mb ob) (mOf K 260) name f:=
 ⟨nW k.gA hm,x.elim fun _ e=>⟨_,_,rfl,rfl,fun h g=>g.X _ _ e.1⟩,⟨_,hl⟩,hn⟩
theorem wR (k:KOk K){name:Str}{f:Addr}{T:Txt0}{clo:List (Str × Addr)}{dV:Value}(hm:(name,f)∈aQd)(x:aG5 K f T clo dV cc){y:Option Value}(hl:typeLookup (.type "object") name=pure y)(hn:name∉fB):aIv (Grd K mb ob) (mOf K 176) name f:=
 ⟨nW k.gV hm,x.elim fun _ e=>⟨_,_,rfl,rfl,fun h g=>g.X _ _ e.1⟩,⟨_,hl⟩,hn⟩
theorem aFp (k:KOk K){r:FR}{T:Txt0}{dV:Value}(hf:sB K cc P1.main.file=true)(hpar:∃ar,(T.params.posonlyargs++T.params.args).head? =some ar/\ar.arg=ofString "self")
  (h1:T.scope.names.lookup (ofString "super")=some NameKind.globalImplicit) (h2:T.scope.names.lookup (ofString "__class__")=some NameKind.free) (h3:T.scope.names.lookup (ofString "self")=some NameKind.local):Sup P1 (Grd K mb ob) 261 (aG4 r T [("__class__",185)] dV cc) where
 clo:=⟨185,rfl,fun h g=>by obtain ⟨_,_,_,e⟩:=k.cell;exact ⟨_,g.X _ _ e,rfl⟩⟩
 code:=⟨cc,rfl,fun h g=>aQb hf fun o vs f t ho h1 h2 h3=>⟨o,vs,f,t,g.X _ _ ho,h1,h2,h3⟩⟩
 top:=by kernel_rfl
 par:=hpar
 sup:=h1
 cls:=h2
 slf:=h3
end
end Mine
end
section
set_option maxHeartbeats 2000000
namespace Mine
section
variable {K:Frag}{ob:Obj}
theorem aMk (k:KOk K):tN P1 w (Grd K mb ob) Zs 261 205:=by
 obtain ⟨r,D,hf⟩:=cT (mb:=mb) (ob:=ob) (k.f 11 rfl) (by decide+kernel) rfl rfl rfl;intro c dc A s hb a b t u ps hA B X hn R hR;exact aEn (jN k) (eH k) D rfl rfl rfl rfl rfl (fun _ _ _=>rfl) A s hb a b t u ps hA B X hn hR
theorem zA (k:KOk K)(hmb:dQ mb):rD P1 w (Grd K mb ob) Zs 261 258:=by
 obtain ⟨r,D,hf⟩:=cT (mb:=mb) (ob:=ob) (k.f 18 rfl) (by decide+kernel) rfl rfl rfl;intro c dc A E s hb ps hA B X;exact aEo (jN k) (fun h g=>⟨kR k.nsG g.X,g.b⟩) (eG (w:=w) (ob:=ob) k hmb).sup.1 (eG (w:=w) (ob:=ob) k hmb).sup.2 (eH k) D (aFp k hf ⟨_,rfl,rfl⟩ rfl rfl rfl) rfl rfl (fun _=>rfl) A E s hb ps hA B X
theorem aFq (k:KOk K):Mth (Grd K mb ob) (mOf K 260) "part_count" 258:=kS k (by decide) (k.f 18 rfl) (y:=none) (by rw [typeLookup_type,builtinLookup_eq_fast]; kernel_rfl) (by decide)
theorem aPh (k:KOk K):Mth (Grd K mb ob) (mOf K 260) "push" 205:=kS k (by decide) (k.f 11 rfl) (y:=none) (by rw [typeLookup_type,builtinLookup_eq_fast]; kernel_rfl) (by decide)
theorem aRe (k:KOk K):Mth (Grd K mb ob) (mOf K 260) "pop" 221:=kS k (by decide) (k.f 13 rfl) (y:=some (.builtin "list.pop")) (by rw [typeLookup_type,builtinLookup_eq_fast]; kernel_rfl) (by decide)
theorem aPi (k:KOk K):Mth (Grd K mb ob) (mOf K 260) "__len__" 228:=kS k (by decide) (k.f 14 rfl) (y:=some (.builtin "list.__len__")) (by rw [typeLookup_type,builtinLookup_eq_fast]; kernel_rfl) (by decide)
theorem aPj (k:KOk K):Mth (Grd K mb ob) (mOf K 260) "__str__" 235:=kS k (by decide) (k.f 15 rfl) (y:=some (.builtin "object.__str__")) (by rw [typeLookup_type,builtinLookup_eq_fast]; kernel_rfl) (by decide)
theorem aPk (k:KOk K):Mth (Grd K mb ob) (mOf K 260) "is_onlyws" 250:=kS k (by decide) (k.f 17 rfl) (y:=none) (by rw [typeLookup_type,builtinLookup_eq_fast]; kernel_rfl) (by decide)
theorem aMl (k:KOk K):Mth (Grd K mb ob) (mOf K 260) "reset" 243:=kS k (by decide) (k.f 16 rfl) (y:=none) (by rw [typeLookup_type,builtinLookup_eq_fast]; kernel_rfl) (by decide)
theorem aFr (k:KOk K):Mth (Grd K mb ob) (mOf K 260) "pop_from" 213:=kS k (by decide) (k.f 12 rfl) (y:=none) (by rw [typeLookup_type,builtinLookup_eq_fast]; kernel_rfl) (by decide)
theorem aPl (k:KOk K)(hmb:dQ mb):aPb P1 w (Grd K mb ob) Zs 261 221:=by
 obtain ⟨r,D,hf⟩:=cT (mb:=mb) (ob:=ob) (k.f 13 rfl) (by decide+kernel) rfl rfl rfl;intro c dc A E s hb a b ps hA B X hn;exact aL3 (jN k) (fun h g=>⟨kR k.nsG g.X,g.b⟩) (eG (w:=w) (ob:=ob) k hmb).sup.1 (eG (w:=w) (ob:=ob) k hmb).sup.2 (eH k) D (aFp k hf ⟨_,rfl,rfl⟩ rfl rfl rfl) (aFq k) (zA k hmb) rfl rfl rfl (fun _=>rfl) A E s hb a b ps hA B X hn
theorem aB2 (k:KOk K):tY P1 w (Grd K mb ob) Zs 261 213:=by
 obtain ⟨r,D,hf⟩:=cT (mb:=mb) (ob:=ob) (k.f 12 rfl) (by decide+kernel) rfl rfl rfl;obtain ⟨td,_,_,_,_,ed⟩:=k.d213;intro c dc A E s hb ps j t hj hA B X hn;exact wH (jN k) (eH k) D rfl rfl rfl rfl rfl rfl (fun s x y g=> .of_defaults rfl (g.X _ _ ed) rfl rfl rfl) A E s hb ps j t hj hA B X hn
theorem aKi (k:KOk K)(hmb:dQ mb):aBl P1 w (Grd K mb ob) Zs 261 228:=by
 obtain ⟨r,D,hf⟩:=cT (mb:=mb) (ob:=ob) (k.f 14 rfl) (by decide+kernel) rfl rfl rfl;exact aL4 (eG k hmb) (eH k) D rfl (.head _) rfl rfl rfl rfl rfl rfl (fun _=>rfl)
theorem aKj (k:KOk K)(hmb:dQ mb):aEu P1 w (Grd K mb ob) Zs 261 235:=by
 obtain ⟨r,D,hf⟩:=cT (mb:=mb) (ob:=ob) (k.f 15 rfl) (by decide+kernel) rfl rfl rfl;obtain ⟨tE,hE⟩:=k.empty;exact aL5 (eG k hmb) (eH k) hE D rfl (.tail _ (.head _)) rfl rfl rfl rfl rfl rfl rfl rfl (fun _=>rfl)
theorem aI4 (k:KOk K):aE2 P1 w (Grd K mb ob) Zs 261 243:=by
 obtain ⟨r,D,hf⟩:=cT (mb:=mb) (ob:=ob) (k.f 16 rfl) (by decide+kernel) rfl rfl rfl;obtain ⟨_,_,_,_,ed⟩:=k.d243;exact ⟨fun c dc A E s hb ps hA B X hn=>aBp (jN k) (eH k) D rfl rfl rfl rfl (fun s x g=> .of_defaults rfl (g.X _ _ ed) rfl rfl rfl) A E s hb ps hA B X hn,
  fun c dc A E s hb R us ps qs hA B X hn hR hq hn2 hne=>aBo (jN k) (eH k) D rfl rfl rfl rfl (fun s x y g=> .of_defaults rfl (g.X _ _ ed) rfl rfl rfl) A E s hb R us ps qs hA B X hn hR hq hn2 hne⟩
theorem aMm (k:KOk K)(hmb:dQ mb):aKf P1 w (Grd K mb ob) Zs 261 250:=by
 obtain ⟨r,D,hf⟩:=cT (mb:=mb) (ob:=ob) (k.f 17 rfl) (by decide+kernel) rfl rfl rfl;intro c dc A E s hb ps hA B X hs hne hsp;exact aIp (eG k hmb) (eH k) (aPi k) (aKi k hmb) (aPj k) (aKj k hmb) D rfl rfl rfl rfl (fun _=>rfl) A E s hb ps hA B X hs hne hsp
theorem wS (k:KOk K)(hmb:dQ mb):nT P1 w (Grd K mb ob) Zs 261:=by
 obtain ⟨r,D,hf⟩:=cT (mb:=mb) (ob:=ob) (k.f 10 rfl) (by decide+kernel) rfl rfl rfl;obtain ⟨td,_,_,_,_,ed⟩:=k.d198;intro A E s hb t hA B;exact aIr (eG k hmb) (eH k) (nW k.gA (by decide)) D (aFp k hf ⟨_,rfl,rfl⟩ rfl rfl rfl) rfl rfl rfl (fun s x y g=> .of_defaults rfl (g.X _ _ ed) rfl rfl rfl) A E s s.heap t hA
  ⟨B.st (jN k),fun _ _ _ e=>e,fun _ h=>(nomatch h),B.z⟩ (fun _ e=>e)
theorem wT (k:KOk K)(hmb:dQ mb):pU P1 w (Grd K mb ob) Zs 261 (mOf K 260) ⟨205,221,228,235,250,243,258,213⟩:=
 ⟨aPh k,aRe k,aPi k,aPj k,aPk k,aMl k,aFq k,aFr k,aMk k,aPl k hmb,aKi k hmb,aKj k hmb,aMm k hmb,aI4 k,zA k hmb,aB2 k⟩
theorem aB3 (k:KOk K)(hmb:dQ mb):jJ P1 w (Grd K mb ob) Zs 177 261 139:=by
 obtain ⟨r,D,hf⟩:=cT (mb:=mb) (ob:=ob) (k.f 8 rfl) (by decide+kernel) rfl rfl rfl;exact wK (eG k hmb) (eH k) (pW k) (wT k hmb) D rfl rfl rfl rfl rfl rfl rfl rfl rfl rfl rfl rfl (fun _=>rfl)
theorem aI5 (k:KOk K)(hmb:dQ mb):nS P1 w (Grd K mb ob) Zs 177 261 174:=by
 obtain ⟨r,D,hf⟩:=cT (mb:=mb) (ob:=ob) (k.f 9 rfl) (by decide+kernel) rfl rfl rfl;exact aE7 (eG k hmb) (eH k) (pW k) (wT k hmb) D rfl rfl rfl rfl rfl rfl rfl rfl rfl rfl rfl rfl rfl rfl rfl rfl rfl rfl rfl rfl rfl rfl rfl rfl rfl rfl (fun _ _ _=>rfl)
theorem aMn (k:KOk K)(hmb:dQ mb):yP P1 w (Grd K mb ob) Zs 177 261 125:=by
 obtain ⟨r,D,hf⟩:=cT (mb:=mb) (ob:=ob) (k.f 7 rfl) (by decide+kernel) rfl rfl rfl;exact aIw (eG k hmb) (eH k) (pW k) (wT k hmb) (wR k (by decide) (k.f 8 rfl) (y:=none) (by rw [typeLookup_type,builtinLookup_eq_fast]; kernel_rfl) (by decide)) (aB3 k hmb) D rfl rfl rfl rfl rfl rfl (fun _ _=>rfl)
theorem aMo (k:KOk K)(hmb:dQ mb):aKg P1 w (Grd K mb ob) Zs 177 261 118:=by
 obtain ⟨r,D,hf⟩:=cT (mb:=mb) (ob:=ob) (k.f 6 rfl) (by decide+kernel) rfl rfl rfl;intro A E s hb x dx wd cw sp t0 t1 t2 t3 hA B X hcw;exact aMf (eG k hmb) (eH k) (pW k) (wS k hmb) (nX k (by decide)) D rfl rfl rfl rfl rfl rfl rfl rfl (fun _ _ _ _ _=>rfl) A E s hb x dx wd cw sp t0 t1 t2 t3 hA B X hcw
theorem aMp (k:KOk K)(hmb:dQ mb):aFa P1 w (Grd K mb ob) Zs 177 261:=by
 intro A E s hb wd cw sp t0 t1 t2 t3 hA B hcw;exact aMg (eG k hmb) (pW k) (nW k.gV (by decide)) (fun h g=>by obtain ⟨o,_,h1,h2,_⟩:=aMj (k.f 6 rfl) g;exact ⟨o,h1,h2⟩) (aMo k hmb) A E s hb wd cw sp t0 t1 t2 t3 hA B hcw
theorem aFs (k:KOk K)(hmb:dQ mb):rI P1 w (Grd K mb ob) Zs 296:=by
 obtain ⟨r,D,hf⟩:=cT (mb:=mb) (ob:=ob) (k.f 21 rfl) (by decide+kernel) rfl rfl rfl;exact aBx (eG k hmb) (pW k) (aMp k hmb) (nX k (by decide)) (wR k (by decide) (k.f 9 rfl) (y:=none) (by rw [typeLookup_type,builtinLookup_eq_fast]; kernel_rfl) (by decide)) (aI5 k hmb)
  (wR k (by decide) (k.f 7 rfl) (y:=none) (by rw [typeLookup_type,builtinLookup_eq_fast]; kernel_rfl) (by decide)) (aMn k hmb) D rfl rfl rfl rfl rfl rfl rfl rfl rfl (fun _ _=>rfl)
end
noncomputable def aNn:List Str:=[ofString "raw",ofString "n",ofString "nt",ofString "norm",ofString "is_simple"]
noncomputable def fnW (n:Str)(mu:List Str):Fn:=(jZ n mu (findCls "Whitespace" aAk)).getD ⟨[],[],[],default⟩
noncomputable def fnF (n:Str)(mu:List Str):Fn:=(jZ n mu aAk).getD ⟨[],[],[],default⟩
noncomputable def iH:Fn:=fnW (ofString "longest_run_of_spaces") []
noncomputable def bP:Fn:=fnW (ofString "indent_level") []
noncomputable def rL:Fn:=fnW (ofString "equal") []
noncomputable def aN:Fn:=fnW (ofString "not_equal_witness") [ofString "a"]
noncomputable def zB:Fn:=fnW (ofString "less") []
noncomputable def cF:Fn:=fnF (ofString "_law_filled") [ofString "rows"]
noncomputable def cU:Fn:=fnF (ofString "_law_mail") []
noncomputable def aO:Fn:=fnF (ofString "_law_rooks") [ofString "more",ofString "told"]
noncomputable def aS:Fn:=fnF (ofString "_law_placed") []
noncomputable def aY:Fn:=fnF (ofString "_law_product") []
noncomputable def lJ:Fn:=fnF (ofString "_law_column") []
noncomputable def aJ:Fn:=fnF (ofString "law") [ofString "witness"]
noncomputable def aFt:Fn:=fnF (ofString "quotedata") []
noncomputable def cfN:CallF:=⟨fun _ _=>none,fun _ _=>none,fun _ _=>none,100,aNn⟩
noncomputable def cf0:CallF:=⟨fun f vs=>if f=ofString "quotedata" then quoteV vs else none,
 fun m vs=>if m=ofString "longest_run_of_spaces" then aZ cfN 100 iH vs else if m=ofString "indent_level" then aZ cfN 100 bP vs else none,fun _ _=>none,100,aNn⟩
noncomputable def wsT:List AV->Option AV
 | [.str s]=>if (∀ c∈s.cps.toList,c=32\/c=9)/\s.length<=900 then
   some (.inst 100 [("raw",.str s),("n",.int (lB s.cps.toList [] 0 0 0).2.2.1),("nt",.int (lB s.cps.toList [] 0 0 0).2.2.2),("norm",.tup [.tup ((lB s.cps.toList [] 0 0 0).1.map .int),.int (lB s.cps.toList [] 0 0 0).2.1]),("is_simple",.bool (decide ((lB s.cps.toList [] 0 0 0).1.length<=1)))])
  else none
 | _=>none
noncomputable def cf1:CallF:=⟨fun f vs=>if f=ofString "_law_heaps" then aZ cf0 60 eN vs else if f=ofString "_law_filled" then aZ cf0 100 cF vs else if f=ofString "_law_mail" then aZ cf0 100 cU vs
  else if f=ofString "_law_rooks" then aZ cf0 100 aO vs else if f=ofString "_law_placed" then aZ cf0 100 aS vs else if f=ofString "_law_product" then aZ cf0 100 aY vs else if f=ofString "_law_column" then aZ cf0 100 lJ vs else if f=ofString "_law_folded" then pB vs else none,
 fun m vs=>if m=ofString "equal" then aZ cf0 100 rL vs else if m=ofString "not_equal_witness" then aZ cf0 100 aN vs else if m=ofString "less" then aZ cf0 100 zB vs else none,
 fun f vs=>if f=ofString "Whitespace" then wsT vs else none,100,aNn⟩
section
variable {K:Frag}{ob:Obj}
theorem bB.up {d d':Nat}(h:bB prog w Sta d a vs v)(hd:d<=d'):bB prog w Sta d' a vs v:=
 fun A E s M ys hA hS hM ht hden=>h A E s M ys (hA.less hd) hS hM ht hden
theorem aSn (h:vals.length=1):∃x,vals=[x]:=by
 rcases vals with _ | ⟨x,_ | ⟨y,r⟩⟩
 ·cases h
 ·exact ⟨x,rfl⟩
 ·simp at h
theorem aSo (h:vals.length=2):∃x y,vals=[x,y]:=by
 rcases vals with _ | ⟨x,_ | ⟨y,_ | ⟨z,r⟩⟩⟩
 ·cases h
 ·simp at h
 ·exact ⟨x,y,rfl⟩
 ·simp at h
theorem aPm {T:Txt0}{fn:Fn}(x:aG5 K a T [] .none cc)(hb:fn.body=T.body:=by rfl)(hs:fn.sc=T.scope:=by rfl)(hbind:∀(r:FR)(x:Value),bindArgs (aG4 r T [] .none cc) ⟨[x],[]⟩=pure (fn.ps.zip [x]):=by intros;rfl)(hl:fn.ps.length=1:=by rfl):At0 K mb ob fn a:=
 uH x hb hs fun _ vals h=>by obtain ⟨x,rfl⟩:=aSn (h.trans hl); exact hbind ..
theorem aG1 {T:Txt0}{fn:Fn}(x:aG5 K a T [] .none cc)(hb:fn.body=T.body:=by rfl)(hs:fn.sc=T.scope:=by rfl)(hbind:∀(r:FR)(x y:Value),bindArgs (aG4 r T [] .none cc) ⟨[x,y],[]⟩=pure (fn.ps.zip [x,y]):=by intros;rfl)(hl:fn.ps.length=2:=by rfl):At0 K mb ob fn a:=
 uH x hb hs fun _ vals h=>by obtain ⟨x,y,rfl⟩:=aSo (h.trans hl); exact hbind ..
theorem a62 (k:KOk K):At0 K mb ob iH 62:=aPm (k.f 1 rfl)
theorem a69 (k:KOk K):At0 K mb ob bP 69:=aG1 (k.f 2 rfl)
theorem a76 (k:KOk K):At0 K mb ob rL 76:=aG1 (k.f 3 rfl)
theorem a83 (k:KOk K):At0 K mb ob aN 83:=aG1 (k.f 4 rfl)
theorem a90 (k:KOk K):At0 K mb ob zB 90:=aG1 (k.f 5 rfl)
theorem a55 (k:KOk K):At0 K mb ob vX 55:=aG1 (k.f 0 rfl)
theorem aSp (k:KOk K):At0 K mb ob aFt 282:=aPm (k.f 19 rfl)
theorem aSq (k:KOk K):At0 K mb ob eN 289:=aPm (k.f 20 rfl)
theorem aSr (k:KOk K):At0 K mb ob cF 303:=aG1 (k.f 22 rfl)
theorem aSs (k:KOk K):At0 K mb ob cU 310:=aG1 (k.f 23 rfl)
theorem aSt (k:KOk K):At0 K mb ob aO 315:=aPm (k.f 24 rfl)
theorem aSu (k:KOk K):At0 K mb ob aS 322:=aG1 (k.f 25 rfl)
theorem aSv (k:KOk K):At0 K mb ob aY 329:=aG1 (k.f 26 rfl)
theorem aSw (k:KOk K):At0 K mb ob lJ 334:=aG1 (k.f 27 rfl)
theorem aSx (k:KOk K):At0 K mb ob aJ 339:=aPm (k.f 28 rfl)
theorem uI (k:KOk K):∀n∈aNn,mOf K 99 n=none/\typeLookup (.type "object") n=pure none:=fun n hn=>by
 simp only [aNn,List.mem_cons,List.not_mem_nil,or_false] at hn
 rcases hn with rfl | rfl | rfl | rfl | rfl <;> exact ⟨bH k.fW (by decide),by rw [typeLookup_type,builtinLookup_eq_fast]; kernel_rfl⟩
theorem zC (k:KOk K):aA1 (pD K mb ob) (mOf K 99) 100 99:=⟨fun h g=>by
  obtain ⟨r,e⟩:=k.clsW;refine ⟨⟨r.nm,r.q,r.bs,r.sn,r.sub,r.col,r.dd,r.k0,r.k1,r.k2,r.k3,r.k5,aB.mpr ⟨by decide,g.X _ _ e⟩⟩,?_⟩;obtain ⟨o,es,ep,e,r⟩:=kR k.nsW g.X;exact ⟨o,es,ep,aB.mpr ⟨by decide,e⟩,r⟩,
 bH k.fW (by decide),bH k.fW (by decide)⟩
noncomputable abbrev aPn (k:KOk K)(hmb:dQ mb){w:World}{ob:Obj}{cf:CallF}{d:Nat}(C:aLh P1 w (pD K mb ob) (mOf K mainGlobals) cf d):Eg:=⟨P1,w,pD K mb ob,mOf K mainGlobals,mb,cf,d,yZ k hmb,C⟩
theorem zD (k:KOk K):aLh P1 w (pD K mb ob) (mOf K mainGlobals) cfN 0 where
 fn:=fun f vs v h=>nomatch h
 cls:=⟨99,mOf K 99,(zC k).at',bH k.fW (by decide),bH k.fW (by decide),uI k,fun m vs v h=>nomatch h⟩
 cl:=fun f vs v h=>nomatch h
theorem aKk {code:Array Nat}(x:aG8 K a code)(X:K.In h):lU h a code:=
 by obtain ⟨f,ca,oc,ci,n,e,h1,h2,h3,e2,h4,h5⟩:=x;exact ⟨⟨_,f,ca,oc,ci,n⟩,⟨X _ _ e,X _ _ e2⟩,rfl,rfl,rfl,h1,h2,h3,h4,h5⟩
theorem nY (k:KOk K)(hmb:dQ mb){d d':Nat}(C:aLh P1 w (pD K mb ob) (mOf K mainGlobals) cf d){fn:Fn}(hok:fn.ok=true){f:Str}(hm:(f,a)∈aNt)(x:At0 K mb ob fn a)(hd:d+1<=d'){fuel:Nat}(h:aZ cf fuel fn vs=some v):
  ∃a o fd,mOf K mainGlobals f=some (.ref a)/\o.data= .func fd/\(∀ h,pD K mb ob h->h.get? a=some o)/\bB P1 w (pD K mb ob) d' a vs v:=
 by obtain ⟨o,fd,_,h2,h3,h4⟩:=x;exact ⟨a,o,fd,nX k hm,h2,h3,(qV (g:=aPn k hmb C) hok h4 h).up hd⟩
theorem nZ (k:KOk K)(hmb:dQ mb){d d':Nat}(C:aLh P1 w (pD K mb ob) (mOf K mainGlobals) cf d){fn:Fn}(hok:fn.ok=true){m:Str}{f:Addr}(hm:(m,f)∈aQc){y:Option Value}(hl:typeLookup (.type "object") m=pure y)(x:At0 K mb ob fn f)(hd:d+1<=d'){fuel:Nat}(h:aZ cf fuel fn vs=some v):
  ∃f y o fd,mOf K 99 m=some (.ref f)/\typeLookup (.type "object") m=pure y/\o.cls= .type "function"/\o.data= .func fd/\(∀ h,pD K mb ob h->h.get? f=some o)/\bB P1 w (pD K mb ob) d' f vs v:=
 by obtain ⟨o,fd,h1,h2,h3,h4⟩:=x;exact ⟨f,y,o,fd,nW k.gW hm,hl,h1,h2,h3,(qV (g:=aPn k hmb C) hok h4 h).up hd⟩
theorem aI6 (k:KOk K)(hmb:dQ mb)(h:quoteV vs=some v):∃a o fd,mOf K mainGlobals (ofString "quotedata")=some (.ref a)/\o.data= .func fd/\(∀ h,pD K mb ob h->h.get? a=some o)/\bB P1 w (pD K mb ob) 1 a vs v:=by
 obtain ⟨o,fd,_,h2,h3,h4⟩:=aSp (mb:=mb) (ob:=ob) k;obtain ⟨tc,hc⟩:=k.crlf;exact ⟨282,o,fd,nX k (by decide),h2,h3,pC (aPn k hmb (zD k)) (fn:=aFt) rfl rfl rfl rfl (by kernel_rfl) h4 (fun h g=>⟨aKk k.p270 g.X,aKk k.p275 g.X⟩) rfl rfl rfl (nX k (by decide)) (nX k (by decide)) hc h⟩
theorem aKl (k:KOk K)(hmb:dQ mb):aLh P1 w (pD K mb ob) (mOf K mainGlobals) cf0 1 where
 fn:=fun f vs v h=>cK h fun e h=>e▸aI6 k hmb h
 cls:=⟨99,mOf K 99,(zC k).at',bH k.fW (by decide),bH k.fW (by decide),uI k,fun m vs v h=>kZ h
  (fun e h=>e▸nZ k hmb (zD k) (by kernel_rfl) (by decide) (y:=none) (by rw [typeLookup_type,builtinLookup_eq_fast]; kernel_rfl) (a62 k) (Nat.le_refl _) h)
  fun _ h=>cK h fun e h=>e▸nZ k hmb (zD k) (by kernel_rfl) (by decide) (y:=none) (by rw [typeLookup_type,builtinLookup_eq_fast]; kernel_rfl) (a69 k) (Nat.le_refl _) h⟩
 cl:=fun f vs v h=>nomatch h
end
end Mine
end
namespace Mine
theorem uJ {a:AV}(h:l.length<2^20):dZ (l++[a]) (-1)=some a:=by
 unfold dZ;have e:(-1+((l++[a]).length:Int)).toNat=l.length:=by rw [List.length_append,List.length_singleton]; lia
 rw [if_pos (by rw [List.length_append,List.length_singleton]; exact h),if_neg (by exact of_decide_eq_true rfl),if_pos (by rw [List.length_append,List.length_singleton]; lia),e];simp
theorem aI7:lZ (n+1) (-1)=some n:=by
 unfold lZ;rw [if_neg (by exact of_decide_eq_true rfl),if_pos (by lia)]
 congr 1
 lia
theorem aI8 {a b:AV}:(l++[a]).set l.length b=l++[b]:=by
 rw [List.set_append_right _ _ (Nat.le_refl _),Nat.sub_self]; rfl
structure wU (ρ:St)(w:Int)(lines:List Str)(cur:Str):Prop where
 r:ρ "rows"=some (.own (.list (lines.map AV.str++[AV.str cur])))
 w:ρ "width"=some (.val (.int w))
theorem eI {a b:Str}(h1:PyData.strOk a=true)(h2:PyData.strOk b=true):PyData.strOk (a++b)=true:=by
 unfold PyData.strOk at*;show (a.cps++b.cps).all _=true;rw [Array.all_append,h1,h2]; rfl
theorem eO (a b:Str):(a++b).length=a.length+b.length:=by
 show (a.cps++b.cps).size=_;rw [Array.size_append]; rfl
theorem zE {a:Str}:a.length=0↔a=ofString "":=by
 constructor
 ·intro h;obtain ⟨cps⟩:=a
  ·have:cps= #[]:=Array.eq_empty_of_size_eq_zero h;rw [this]; rfl
 ·rintro rfl;rfl
theorem lD (a:Str):ofString ""++a=a:=by
 refine dP ?_;show ((ofString "").cps++a.cps).toList=_;rw [Array.toList_append]; rfl
section
variable {w:Int}{cur p:Str}
theorem wV (h1:ρ "rows"=some (.own (.list (l++[AV.str cur]))))(h2:ρ "piece"=some (.val (.str p)))(h3:l.length<=2000)(h4:cur.length+p.length<=2^20):
  exS cf [ofString "rows"] (k+10) cF.sc ρ (.Assign [.Subscript (.Name "rows" a1) (.UnaryOp .USub (.Constant (.int 1) 0 a2) a3) a4] (.BinOp (.Subscript (.Name "rows" a5) (.UnaryOp .USub (.Constant (.int 1) 0 a6) a7) a8) .Add (.Name "piece" a9) b1) b2)=some (.next,ρ.set "rows" (.own (.list (l++[AV.str (cur++p)])))):=by
 have hl:(l++[AV.str cur]).length=l.length+1:=List.length_append;have e:=lG (cf:=cf) (sc:=cF.sc) (mu:=[ofString "rows"]) (m:=k+9) (sp:=a4) (p:=b2) (xp:=a1) (i:= .UnaryOp .USub (.Constant (.int 1) 0 a2) a3) (e:= .BinOp (.Subscript (.Name "rows" a5) (.UnaryOp .USub (.Constant (.int 1) 0 a6) a7) a8) .Add (.Name "piece" a9) b1) (v:= .str (cur++p)) (j:=l.length) (k:= -1) rfl
  (aC (mY rfl (aA (tD h1) rfl) rfl (uJ (Nat.lt_of_le_of_lt h3 (by decide)))) (aA (aD h2) rfl) (if_pos h4)) rfl h1 (by rw [hl]; exact aI7) rfl (by rw [hl]; exact aCr (Nat.succ_le_succ h3) rfl)
 rw [aI8] at e;exact e
theorem aI9 (H:wU ρ w lines cur)(hl:lines.length<=1000)(hc:cur.length<=100000)(hp:p.length<=1000)(oc:PyData.strOk cur=true):
  ∃ρ',exB cf [ofString "rows"] (k+30) cF.sc (ρ.set "piece" (.val (.str p))) (lb cF 1)=some (.next,ρ')/\
   ((cur.length=0/\wU ρ' w lines (cur++p))\/(cur.length≠0/\((cur.length:Int)+p.length>w/\wU ρ' w (lines++[cur]) p\/¬(cur.length:Int)+p.length>w/\wU ρ' w lines (cur++p)))):=by
 have g1:ρ.set "piece" (.val (.str p)) (ofString "rows")=some (.own (.list (lines.map AV.str++[AV.str cur]))):=St.set_nb rfl H.r;have g2:ρ.set "piece" (.val (.str p)) (ofString "width")=some (.val (.int w)):=St.set_nb rfl H.w;have g3:ρ.set "piece" (.val (.str p)) (ofString "piece")=some (.val (.str p)):=if_pos rfl;generalize ρ.set "piece" (.val (.str p))=ρ1 at g1 g2 g3;have hn:(lines.map AV.str).length<=1000:=dY hl;have er:∀{m:Nat}{a1 a2 a3 a4:Pos},evE cf (m+3) cF.sc ρ1.all (.Subscript (.Name "rows" a1) (.UnaryOp .USub (.Constant (.int 1) 0 a2) a3) a4)=some (.str cur):=mY rfl (aA (tD g1) rfl) rfl (uJ (Nat.lt_of_le_of_lt hn (by decide)));have hs:cur.length+p.length<=2^20:=by exact lit (Nat.add_le_add hc hp) rfl
 by_cases z:cur.length=0
 ·refine ⟨_,vV (k:=k+27) (mZ (k:=k+28) ?_) aA4 (wV (k:=k+18) g1 g3 (Nat.le_trans hn (by decide)) hs),.inl ⟨z,if_pos rfl,St.set_nb rfl g2⟩⟩;exact aD6 (bS er iP (aKc (eY oc (by decide+kernel)) (by rw [beq_iff_eq.mpr (zE.mp z)]; rfl)))
 ·have t1:(cur==ofString "")=false:=beq_eq_false_iff_ne.mpr fun q=>z (zE.mpr q)
  have ht:∀{m:Nat}{b:Bool}{a1 a2 a3 a4 a5 a6 a7 a8 a9 b1 b2 b3 b4 b5 b6 b7 b8 b9:Pos},decide (w<(cur.length:Int)+p.length)=b->evT cf (m+10) cF.sc ρ1.all (.BoolOp .And [.Compare (.Subscript (.Name "rows" a1) (.UnaryOp .USub (.Constant (.int 1) 0 a2) a3) a4) [.NotEq] [.Constant (.str "") 0 a5] a6,
    .Compare (.BinOp (.Call (.Name "len" a7) [.Subscript (.Name "rows" a8) (.UnaryOp .USub (.Constant (.int 1) 0 a9) b1) b2] [] b3) .Add (.Call (.Name "len" b4) [.Name "piece" b5] [] b6) b7) [.Gt] [.Name "width" b8] b9] b9)=some b:=fun hb=>by
   refine aD7 (bS er iP (aKc (eY oc (by decide+kernel)) (by rw [t1]; rfl))) (vW ?_);exact bS (aC (cJ rfl rfl (aG (Nat.succ_ne_zero _) er) (kA (Nat.le_trans hc (by decide)))) (cJ rfl rfl (aG (Nat.succ_ne_zero _) (aA (aD g3) rfl)) (kA (aCr hp rfl))) rfl) (aA (aD g2) rfl) (congrArg some hb)
  by_cases y:(cur.length:Int)+p.length>w
  ·have e5:(lines.map AV.str++[AV.str cur]).length=lines.length+1:=List.length_append.trans (by rw [List.length_map]; rfl);refine ⟨_,vV (k:=k+27) (qY (k:=k+28) (ht (decide_eq_true y))) (aU (k:=k+26) (vT rfl rfl iP g1 rfl (by rw [e5]; exact aCr (Nat.succ_le_succ hl) rfl))) (wV (k:=k+18) (cur:=ofString "") (if_pos rfl) (St.set_nb rfl g3) (by rw [e5]; exact sll hl rfl) (Nat.le_trans (Nat.le_of_eq (Nat.zero_add _)) (aCr hp rfl))),.inr ⟨z,.inl ⟨y,?_,St.set_nb rfl (St.set_nb rfl g2)⟩⟩⟩;refine (if_pos rfl).trans ?_;rw [lD,List.map_append]; rfl
  ·refine ⟨_,vV (k:=k+27) (mZ (k:=k+28) (ht (decide_eq_false y))) aA4 (wV (k:=k+18) g1 g3 (Nat.le_trans hn (by decide)) hs),.inr ⟨z,.inr ⟨y,if_pos rfl,St.set_nb rfl g2⟩⟩⟩
theorem aMq (ps:List Str):∀(ρ:St)(lines:List Str)(cur:Str),wU ρ w lines cur->(∀ p∈ps,p.length<=1000/\PyData.strOk p=true)->lines.length+ps.length<=100->cur.length+1000*ps.length<=100000->PyData.strOk cur=true->
   ∃ρ' l c,jW (fun a ρ=>exB cf [ofString "rows"] (k+30) cF.sc (ρ.set "piece" (.val a)) (lb cF 1)) (ps.map .str) ρ=some (.next,ρ')/\wU ρ' w l c/\l++[c]=aW w ps cur lines:=by
 induction ps with
 | nil=>exact fun ρ lines cur H _ _ _ _=>⟨ρ,lines,cur,rfl,H,rfl⟩
 | cons p ps ih=>
  intro ρ lines cur H hp h1 h2 oc;rw [List.length_cons] at h1 h2;obtain ⟨hp1,hp2⟩:=hp p (List.mem_cons_self ..);obtain ⟨ρ1,e,hc⟩:=aI9 (cf:=cf) (k:=k) H (by exact lit (aL1 h1) rfl) (by exact aL1 h2) hp1 oc;have hr:∀q∈ps,q.length<=1000/\PyData.strOk q=true:=fun q hq=>hp q (List.mem_cons_of_mem _ hq)
  have hal:=eO cur p
  rcases hc with ⟨z,F⟩ | ⟨z,⟨y,F⟩ | ⟨y,F⟩⟩
  ·obtain ⟨ρ',l,c,e2,F2,e3⟩:=ih ρ1 lines (cur++p) F hr (by exact Nat.le_of_lt h1) (by lia) (eI oc hp2);exact ⟨ρ',l,c,(aX e).trans e2,F2,e3.trans (if_pos z).symm⟩
  ·obtain ⟨ρ',l,c,e2,F2,e3⟩:=ih ρ1 (lines++[cur]) p F hr (by rw [List.length_append]; simp only [List.length_singleton]; exact sal h1) (by lia) hp2;exact ⟨ρ',l,c,(aX e).trans e2,F2,e3.trans ((if_neg z).trans (if_pos y)).symm⟩
  ·obtain ⟨ρ',l,c,e2,F2,e3⟩:=ih ρ1 lines (cur++p) F hr (by lia) (by lia) (eI oc hp2);exact ⟨ρ',l,c,(aX e).trans e2,F2,e3.trans ((if_neg z).trans (if_neg y)).symm⟩
end
theorem aB4 (cf:CallF){ps:List Str}{w:Int}(hp:∀p∈ps,p.length<=1000/\PyData.strOk p=true)(hl:ps.length<=90):aZ cf 100 cF [.list (ps.map .str),.int w]=some (.list ((aW w ps (ofString "") []).map .str)):=by
 have H0:wU ((bD cF.ps [.list (ps.map .str),.int w]).set "rows" (.own (.list (([]:List Str).map AV.str++[AV.str ""])))) w [] (ofString ""):=⟨if_pos rfl,St.set_nb rfl rfl⟩;obtain ⟨ρ2,l,c,hf,F,e⟩:=aMq (cf:=cf) (k:=67) ps _ [] (ofString "") H0 hp (by rw [List.length_nil]; lia) (by have:(ofString "").length=0:=rfl;lia) (by decide+kernel);refine nA (k:=100) rfl (ρ:=ρ2) ?_;rw [<- e,List.map_append];exact Eq.trans (aE (k:=99) rfl) (Eq.trans (aE (k:=98) (cQ (k:=97) rfl (aA rfl rfl) rfl hf)) (dD (m:=96) (aA (tD F.r) rfl)))
end Mine
namespace Mine.Pl
noncomputable def dG:List Nat->List Nat
 | []=>[]
 | a::r=>List.replicate a 46++13::10::dG r
theorem kT:∀(c:Nat)(r:List Nat),dG (c::r)=List.replicate c 46++13::10::dG r:=fun _ _=>rfl
theorem oA:∀(l m:List Nat),dG (l++m)=dG l++dG m
 | [],m=>rfl
 | a::l,m=>by rw [List.cons_append,kT,kT,oA l m]; simp
theorem wW:∀(a:Nat)(r:List Nat),cI (List.replicate a 46++r)=List.replicate a 46++cI r
 | 0,r=>rfl
 | a+1,r=>by
  rw [List.replicate_succ,List.cons_append,List.cons_append,<-wW a r];exact aOs (by decide) (by decide)
theorem zF:∀(l r:List Nat),cI (dG l++r)=dG l++cI r
 | [],r=>rfl
 | a::l,r=>by
  rw [kT,List.append_assoc,wW,List.cons_append,List.cons_append,List.append_assoc,List.cons_append,List.cons_append,<-zF l r]; rfl
theorem aFu:∀(a:Nat)(r:List Nat),dC false (List.replicate a 46++r)=List.replicate a 46++dC false r
 | 0,r=>rfl
 | a+1,r=>by
  rw [List.replicate_succ,List.cons_append,List.cons_append,gC,if_neg (by simp)];rw [show ((46:Nat)==10)=false from rfl,aFu a r]
theorem zG:∀(l:List Nat),(∀ a∈l,1<=a)->dC true (dG l)=dG (l.map (· +1))
 | [],_=>rfl
 | a::l,h=>by
  have ha:=h a (List.mem_cons_self ..);obtain ⟨b,rfl⟩:∃b,a=b+1:=⟨a- 1,by lia⟩;rw [kT,List.replicate_succ,List.cons_append,gC,if_pos ⟨rfl,rfl⟩,aFu,gC,if_neg (by simp),show ((13:Nat)==10)=false from rfl,gC,if_neg (by simp),show ((10:Nat)==10)=true from rfl,zG l fun x hx=>h x (List.mem_cons_of_mem _ hx)];rfl
def fP (e:List Nat):Prop:=e=[10]\/e=[13,10]\/e=[13]
theorem aB5 {l:List Nat}{b:Nat}{e:List Nat}(h:∀a∈l,1<=a)(hb:1<=b)(he:fP e):dC true (cI (dG l++(List.replicate b 46++e)))=dG (l.map (· +1)++[b+1]):=by
 have e1:cI e=[13,10]:=by rcases he with rfl | rfl | rfl <;> rfl
 rw [zF,wW,e1];have e2:dG l++(List.replicate b 46++[13,10])=dG (l++[b]):=by rw [oA]; rfl
 rw [e2,zG _ fun a ha=> ?_,List.map_append]
 ·rfl
 ·rcases List.mem_append.mp ha with q | q
  ·exact h a q
  ·rw [List.mem_singleton.mp q]; exact hb
theorem rM:∀(l:List Nat)(B:Nat),(∀ a∈l,a<=B)->(dG l).length<=l.length*(B+2)
 | [],_,_=>Nat.zero_le _
 | a::l,B,h=>by
  have h1:=h a (List.mem_cons_self ..);have h2:=rM l B fun x hx=>h x (List.mem_cons_of_mem _ hx)
  rw [kT,List.length_append,List.length_replicate,List.length_cons,List.length_cons,List.length_cons,Nat.succ_mul]
  lia
noncomputable def txt (l:List Nat):Str:=⟨l.toArray⟩
theorem hJ (a b:List Nat):txt a++txt b=txt (a++b):=dP (by show ((txt a).cps++(txt b).cps).toList=_;simp [txt])
theorem dR (l:List Nat):(txt l).length=l.length:=rfl
theorem fX (c:Nat):∀(n:Nat)(acc:Array Nat),((List.replicate n #[c]).foldl (· ++ ·) acc).toList=acc.toList++List.replicate n c
 | 0,acc=>by simp
 | n+1,acc=>by
  rw [List.replicate_succ,List.foldl_cons,fX c n,Array.toList_append,List.replicate_succ]; simp
theorem aFv (c n:Nat):Txt.mul ⟨#[c]⟩ (n:Int)=txt (List.replicate n c):=by
 refine dP ?_;unfold Txt.mul
 by_cases h:(n:Int)<1
 ·rw [if_pos h];have:n=0:=by lia
  subst this;rfl
 ·rw [if_neg h]
  split
  ·rename_i q;have:n=1:=by
    rw [Bool.or_eq_true] at q
    rcases q with q | q
    ·have:=beq_iff_eq.mp q;exact Int.ofNat.inj this
    ·exact absurd q (by simp [Str.length])
   subst this;rfl
  ·rw [Int.toNat_natCast];show ((List.replicate n #[c]).foldl (· ++ ·) #[]).toList=_;rw [fX]; rfl
noncomputable def eJ (board:List Nat):List Nat:=board.foldl (fun M b=>M.map (· +1)++[b+2]) []
structure oB (ρ:St)(board:List Nat)(ends:List (List Nat))(M:List Nat):Prop where
 b:ρ "board"=some (.val (.list (board.map fun (i:Nat)=>AV.int (i:Int))))
 e:ρ "ends"=some (.val (.list (ends.map fun l=>AV.str (txt l))))
 m:ρ "mail"=some (.val (.str (txt (dG M))))
theorem aFw {board:List Nat}{M:List Nat}
  (H:oB ρ board ends M) (hq:cf.fn "quotedata"=quoteV) (hi:i<board.length) (hie:i<ends.length) (hbl:board.length<=10) (hel:ends.length<=100) (hbe:∀b∈board,b<=100) (hee:∀e∈ends,fP e) (hM:M.length<=10) (hM1:∀a∈M,1<=a/\a<=112):
  ∃ρ',exB cf [] (k+30) cU.sc (ρ.set "k" (.val (.int (i:Int)))) (lb cU 1)=some (.next,ρ')/\oB ρ' board ends (M.map (· +1)++[board[i]+2]):=by
 have g1:ρ.set "k" (.val (.int (i:Int))) (ofString "board")=_:=St.set_nb rfl H.b;have g2:ρ.set "k" (.val (.int (i:Int))) (ofString "ends")=_:=St.set_nb rfl H.e;have g3:ρ.set "k" (.val (.int (i:Int))) (ofString "mail")=_:=St.set_nb rfl H.m;have g4:ρ.set "k" (.val (.int (i:Int))) (ofString "k")=some (.val (.int (i:Int))):=if_pos rfl;generalize ρ.set "k" (.val (.int (i:Int)))=ρ1 at g1 g2 g3 g4;have c1:ρ1.all "board"=some (.list (board.map fun (i:Nat)=>AV.int (i:Int))):=by unfold St.all;rw [g1]; rfl
 have c2:ρ1.all "ends"=some (.list (ends.map fun l=>AV.str (txt l))):=by unfold St.all;rw [g2]; rfl
 have c3:ρ1.all "mail"=some (.str (txt (dG M))):=by unfold St.all;rw [g3]; rfl
 have c4:ρ1.all "k"=some (.int (i:Int)):=by unfold St.all;rw [g4]; rfl
 have e1:lX (.list (board.map fun (i:Nat)=>AV.int (i:Int))) (.int (i:Int))=some (.int (board[i]:Int)):=by
  refine (dS (by rw [List.length_map]; exact lit hbl rfl) (by rw [List.length_map]; exact hi)).trans ?_;rw [List.getElem_map]
 have e2:lX (.list (ends.map fun l=>AV.str (txt l))) (.int (i:Int))=some (.str (txt ends[i])):=by
  refine (dS (by rw [List.length_map]; exact lit hel rfl) (by rw [List.length_map]; exact hie)).trans ?_;rw [List.getElem_map]
 have hb:=hbe _ (List.getElem_mem hi);have he:=hee _ (List.getElem_mem hie);have hel2:ends[i].length<=2:=by rcases he with h | h | h <;> rw [h] <;> decide
 have hd:=rM M 112 fun a ha=>(hM1 a ha).2
 have hd2:(dG M).length<=1140:=Nat.le_trans hd (Nat.mul_le_mul_right _ hM);have e3:cO .Mult (.str ".") (.int ((board[i]:Int)+1))=some (.str (txt (List.replicate (board[i]+1) 46))):=by
  show (if 0<=(board[i]:Int)+1/\(board[i]:Int)+1<=1000/\(ofString ".").length<=1000 then _ else _)=_;rw [if_pos ⟨by exact Int.natCast_nonneg _,by exact aRo hb rfl,by decide⟩];have:=aFv 46 (board[i]+1);rw [show ((board[i]+1:Nat):Int)=(board[i]:Int)+1 by push_cast;rfl] at this;exact congrArg (fun z=>some (AV.str z)) this
 have e4:cO .Add (.str (txt (dG M))) (.str (txt (List.replicate (board[i]+1) 46)))=some (.str (txt (dG M++List.replicate (board[i]+1) 46))):=by
  show (if (txt (dG M)).length+(txt (List.replicate (board[i]+1) 46)).length<=2^20 then _ else _)=_;rw [dR,dR,List.length_replicate,if_pos (by lia),hJ]
 have e5:cO .Add (.str (txt (dG M++List.replicate (board[i]+1) 46))) (.str (txt ends[i]))=some (.str (txt (dG M++(List.replicate (board[i]+1) 46++ends[i])))):=by
  show (if (txt (dG M++List.replicate (board[i]+1) 46)).length+(txt ends[i]).length<=2^20 then _ else _)=_;rw [dR,dR,List.length_append,List.length_replicate,if_pos (by lia),hJ,List.append_assoc]
 have e6:quoteV [.str (txt (dG M++(List.replicate (board[i]+1) 46++ends[i])))]=some (.str (txt (dG (M.map (· +1)++[board[i]+2])))):=by
  show (if (txt (dG M++(List.replicate (board[i]+1) 46++ends[i]))).length<=2^12 then _ else _)=_;rw [dR,List.length_append,List.length_append,List.length_replicate,if_pos (by lia)];have:=aB5 (fun a ha=>(hM1 a ha).1) (b:=board[i]+1) (by exact Nat.succ_pos _) he;show some (AV.str ⟨(dC true (cI _)).toArray⟩)=_;rw [show (txt (dG M++(List.replicate (board[i]+1) 46++ends[i]))).cps.toList=dG M++(List.replicate (board[i]+1) 46++ends[i]) from rfl,this]; rfl
 have hcall:∀k,evE cf (k+20) cU.sc ρ1.all (tF (nth (lb cU 1) 0))=some (.str (txt (dG (M.map (· +1)++[board[i]+2])))):=by
  intro k;refine iF rfl rfl (vs:=[.str (txt (dG M++(List.replicate (board[i]+1) 46++ends[i])))]) ?_ (by decide) (by rw [hq]; exact e6);exact aG (by exact Nat.succ_ne_zero _) (aC (aC (aA c3 rfl) (aC iP (aC (bZ (aA c1 rfl) (aA c4 rfl) e1) aF rfl) e3) e4) (bZ (aA c2 rfl) (aA c4 rfl) e2) e5)
 exact ⟨_,aU (cD rfl rfl (hcall (k+8)) rfl),⟨St.set_nb rfl g1,St.set_nb rfl g2,if_pos rfl⟩⟩
theorem uK {board:List Nat}(hb:∀b∈board,b<=100)(hl:board.length<=10)
  (hG:∀ρ M i (hi:i<board.length),oB ρ board ends M->M.length<=10->(∀ a∈M,1<=a/\a<=112)->∃ρ',G (.int (i:Int)) ρ=some (.next,ρ')/\oB ρ' board ends (M.map (· +1)++[board[i]+2])):
  ∀(m i:Nat)(M:List Nat)(ρ:St),i+m=board.length->M.length=i->(∀ a∈M,1<=a/\a<=102+i)->oB ρ board ends M->
   ∃ρ',jW G ((List.range' i m).map fun (i:Nat)=>AV.int (i:Int)) ρ=some (.next,ρ')/\oB ρ' board ends ((board.drop i).foldl (fun M b=>M.map (· +1)++[b+2]) M)
 | 0,i,M,ρ,h,_,_,H=>⟨ρ,rfl,by rw [List.drop_eq_nil_of_le (by exact Nat.le_of_eq h.symm)]; exact H⟩
 | m+1,i,M,ρ,h,hM,ha,H=>by
  have hi:i<board.length:=by exact asl h
  obtain ⟨ρ1,e1,H1⟩:=hG ρ M i hi H (by lia) (fun a q=>by have:=ha a q;lia);have hbi:=hb _ (List.getElem_mem hi);have hbd:∀a∈M.map (· +1)++[board[i]+2],1<=a/\a<=102+(i+1):=fun a q=>by
   rcases List.mem_append.mp q with q | q
   ·obtain ⟨b,hb',rfl⟩:=List.mem_map.mp q;have:=ha b hb';lia
   ·rw [List.mem_singleton.mp q]; lia
  obtain ⟨ρ2,e2,H2⟩:=uK hb hl hG m (i+1) _ ρ1 (by exact sad h) (by simp [hM]) hbd H1;refine ⟨ρ2,?_,?_⟩
  ·rw [List.range'_succ,List.map_cons]; exact (aX e1).trans e2
  ·rw [List.drop_eq_getElem_cons hi,List.foldl_cons]; exact H2
theorem aJa (cf:CallF)(hq:cf.fn "quotedata"=quoteV){board:List Nat}(hb:∀b∈board,b<=100)(hl:board.length<=10)(hel:ends.length<=100)(hle:board.length<=ends.length)(hee:∀e∈ends,fP e):
  aZ cf 100 cU [.list (board.map fun (i:Nat)=>AV.int (i:Int)),.list (ends.map fun l=>AV.str (txt l))]=some (.str (txt (dG (eJ board)))):=by
 have H0:oB ((bD cU.ps [.list (board.map fun (i:Nat)=>AV.int (i:Int)),.list (ends.map fun l=>AV.str (txt l))]).set "mail" (.val (.str (txt (dG []))))) board ends []:=⟨St.set_nb rfl rfl,St.set_nb rfl rfl,if_pos rfl⟩;generalize hρ:(bD cU.ps [.list (board.map fun (i:Nat)=>AV.int (i:Int)),.list (ends.map fun l=>AV.str (txt l))]).set "mail" (.val (.str (txt (dG []))))=ρ1 at H0;have c1:ρ1.frozen "board"=some (.list (board.map fun (i:Nat)=>AV.int (i:Int))):=by unfold St.frozen;rw [H0.b]
 obtain ⟨ρ2,hf,F⟩:=uK (G:=fun a ρ=>exB cf [] 97 cU.sc (ρ.set "k" (.val a)) (lb cU 1)) (ends:=ends) hb hl (fun ρ M i hi H h1 h2=>aFw (k:=67) H hq hi (by exact Nat.le_trans hi hle) hl hel hb hee h1 h2) board.length 0 [] ρ1 (by exact Nat.zero_add _) rfl (fun _ h=>nomatch h) H0;have hr:evE cf 97 cU.sc ρ1.frozen (tG (nth cU.body 1))=some (.range 0 (board.length:Int) 1):=by
  have b1:=dE (l:=board.map fun (i:Nat)=>AV.int (i:Int)) (by rw [List.length_map]; exact lit hl rfl);rw [List.length_map] at b1;exact bV (k:=96) rfl (aG (m:=95) (by exact Nat.succ_ne_zero _) (cJ (k:=94) rfl rfl (aG (m:=93) (by exact Nat.succ_ne_zero _) (aA (m:=92) c1 rfl)) b1)) (if_pos (aM (by exact ngl rfl) (by exact aCq (Nat.le_trans hle hel) rfl)))
 unfold aZ;rw [if_pos (show cU.ps.length=[AV.list (board.map fun (i:Nat)=>AV.int (i:Int)),.list (ends.map fun l=>AV.str (txt l))].length from rfl)];have key:exB cf cU.mu 100 cU.sc (bD cU.ps [.list (board.map fun (i:Nat)=>AV.int (i:Int)),.list (ends.map fun l=>AV.str (txt l))]) cU.body=some (.ret (.str (txt (dG (eJ board)))),ρ2):=by
  refine (aE (k:=99) (ρ':=ρ1) (by rw [<- hρ]; rfl)).trans ?_;refine (aE (k:=98) (ρ':=ρ2) (cQ (k:=97) (by rfl) hr (cB (by exact lit (Nat.le_trans hle hel) rfl)) ?_)).trans ?_
  ·rw [List.range_eq_range']; exact hf
  ·have c2:ρ2.all "mail"=some (.str (txt (dG (eJ board)))):=by unfold St.all;rw [F.m]; rfl
   exact dD (m:=96) (aA c2 rfl)
 rw [key]
theorem jO:∀l:List Int,lW (l.map AV.int)=some l
 | []=>rfl
 | a::r=>congrArg (Option.map (a:: ·)) (jO r)
theorem zH (l:List Int):aI "sum" [.list (l.map AV.int)]=some (.int l.sum):=congrArg (Option.map fun ns:List Int=>AV.int ns.sum) (jO l)
noncomputable def bU (runs:List Int)(size:Int):Int:=size*(runs.map fun r=>r/size+1).sum
theorem aB6 (cf:CallF){runs:List Int}{size:Int}(h1:0<size)(h2:size<=1000)(hl:runs.length<=1000):aZ cf 100 lJ [.list (runs.map AV.int),.int size]=some (.int (bU runs size)):=by
 have hs:size<=1000000:=Int.le_trans h2 (by decide);refine nA (k:=100) rfl (dD (m:=98) ?_);refine aC (m:=97) (a:= .int size) (aA rfl rfl) (cJ (k:=96) rfl rfl (aG (m:=95) (by decide) ?_) (zH (runs.map fun r=>r/size+1))) (if_pos (aM (by exact jil h1 rfl) (by exact ijl hs rfl)));rw [List.map_map];exact eE (m:=94) (l:=runs) (f:=AV.int) (AV.int∘fun r=>r/size+1) (by decide) (by kernel_rfl) rfl (aA rfl rfl) rfl (aCr hl rfl) fun r _=>aC (aC (aA rfl rfl) (aA rfl rfl) (if_pos ⟨h1,hs⟩)) aF rfl
noncomputable def oC (less:Int):List Int->Int->Int->Option Int
 | [],_,acc=>some acc
 | c::cs,run,acc=>if aQ acc/\(aQ (run- less)/\0<=c/\c<=64) then oC less cs (run+1) (acc*(run- less)^c.toNat) else none
theorem aJb:∀(less x x_1 c:Int)(cs:List Int),oC less (c::cs) x x_1=if aQ x_1=true/\aQ (x- less)=true/\0<=c/\c<=64 then oC less cs (x+1) (x_1*(x- less)^Int.toNat c) else none:=fun _ _ _ _ _=>rfl
structure aMr (ρ:St)(counts:List Int)(less acc:Int):Prop where
 c:ρ "counts"=some (.val (.tup (counts.map AV.int)))
 l:ρ "less"=some (.val (.int less))
 p:ρ "product"=some (.val (.int acc))
theorem aFx {counts:List Int}{less acc:Int}(H:aMr ρ counts less acc)(hi:i<counts.length)(hl:counts.length<=1000)(hg:aQ acc=true/\(aQ ((i:Int)- less)=true/\0<=counts[i]/\counts[i]<=64)):
  ∃ρ',exB cf [] (k+30) aY.sc (ρ.set "run" (.val (.int (i:Int)))) (lb aY 1)=some (.next,ρ')/\aMr ρ' counts less (acc*((i:Int)- less)^counts[i].toNat):=by
 have g1:ρ.set "run" (.val (.int (i:Int))) (ofString "counts")=_:=St.set_nb rfl H.c;have g2:ρ.set "run" (.val (.int (i:Int))) (ofString "less")=_:=St.set_nb rfl H.l;have g3:ρ.set "run" (.val (.int (i:Int))) (ofString "product")=_:=St.set_nb rfl H.p;have g4:ρ.set "run" (.val (.int (i:Int))) (ofString "run")=some (.val (.int (i:Int))):=if_pos rfl;generalize ρ.set "run" (.val (.int (i:Int)))=ρ1 at g1 g2 g3 g4;have e1:lX (.tup (counts.map AV.int)) (.int (i:Int))=some (.int counts[i]):=by
  show (if (0:Int)<=(i:Int) then dZ _ _ else none)=_;rw [if_pos (by exact Int.natCast_nonneg _),dS (by rw [List.length_map]; exact lit hl rfl) (by rw [List.length_map]; exact hi),List.getElem_map]
 refine ⟨_,aU (k:=k+28) (cD (m:=k+28) rfl rfl (aC (m:=k+27) (aA (aD g3) rfl) (aC (m:=k+26) (aC (m:=k+25) (aA (aD g4) rfl) (aA (aD g2) rfl) rfl)
  (bZ (m:=k+25) (aA (aD g1) rfl) (aA (aD g4) rfl) e1) (if_pos ⟨hg.2.1,hg.2.2⟩)) (if_pos hg.1)) rfl),⟨St.set_nb rfl g1,St.set_nb rfl g2,if_pos rfl⟩⟩
theorem uL {counts:List Int}{less:Int}
  (hG:∀ρ acc i (hi:i<counts.length),aMr ρ counts less acc->(aQ acc=true/\(aQ ((i:Int)- less)=true/\0<=counts[i]/\counts[i]<=64))->∃ρ',G (.int (i:Int)) ρ=some (.next,ρ')/\aMr ρ' counts less (acc*((i:Int)- less)^counts[i].toNat)):
  ∀(m i:Nat)(acc r:Int)(ρ:St),i+m=counts.length->aMr ρ counts less acc->oC less (counts.drop i) i acc=some r->
   ∃ρ',jW G ((List.range' i m).map fun (i:Nat)=>AV.int (i:Int)) ρ=some (.next,ρ')/\aMr ρ' counts less r
 | 0,i,acc,r,ρ,h,H,hr=>by
  rw [List.drop_eq_nil_of_le (by exact Nat.le_of_eq h.symm)] at hr
  (replace hr:=Option.some.inj hr;subst hr)
  exact ⟨ρ,rfl,H⟩
 | m+1,i,acc,r,ρ,h,H,hr=>by
  have hi:i<counts.length:=by exact asl h
  rw [List.drop_eq_getElem_cons hi,aJb] at hr
  split at hr
  ·rename_i q;obtain ⟨ρ1,e1,H1⟩:=hG ρ acc i hi H q;obtain ⟨ρ2,e2,H2⟩:=uL hG m (i+1) _ r ρ1 (by exact sad h) H1 (by push_cast;exact hr);exact ⟨ρ2,by rw [List.range'_succ,List.map_cons]; exact (aX e1).trans e2,H2⟩
  ·exact no1 hr
theorem wX (cf:CallF){counts:List Int}{less r:Int}(hl:counts.length<=1000)(hr:oC less counts 0 1=some r):aZ cf 100 aY [.tup (counts.map AV.int),.int less]=some (.int r):=by
 have H0:aMr ((bD aY.ps [.tup (counts.map AV.int),.int less]).set "product" (.val (.int 1))) counts less 1:=⟨St.set_nb rfl rfl,St.set_nb rfl rfl,if_pos rfl⟩;generalize hρ:(bD aY.ps [.tup (counts.map AV.int),.int less]).set "product" (.val (.int 1))=ρ1 at H0;obtain ⟨ρ2,hf,F⟩:=uL (G:=fun a ρ=>exB cf [] 97 aY.sc (ρ.set "run" (.val a)) (lb aY 1)) (fun ρ acc i hi H hg=>aFx (k:=67) H hi hl hg) counts.length 0 1 r ρ1 (by exact Nat.zero_add _) H0 hr;have b1:aI "len" [.tup (counts.map AV.int)]=some (.int counts.length):=by
  unfold aI;rw [if_pos rfl];show (if (counts.map AV.int).length<=2^20 then some (AV.int (counts.map AV.int).length) else none)=_;rw [List.length_map,if_pos (by exact lit hl rfl)]
 have hrg:evE cf 97 aY.sc ρ1.frozen (tG (nth aY.body 1))=some (.range 0 (counts.length:Int) 1):=
  bV (k:=96) rfl (aG (m:=95) (by decide) (cJ (k:=94) rfl rfl (aG (m:=93) (by decide) (aA (bN H0.c) rfl)) b1)) (if_pos (aM (by exact ngl rfl) (by exact aCq hl rfl)))
 unfold aZ;rw [if_pos (show aY.ps.length=[AV.tup (counts.map AV.int),.int less].length from rfl)];have key:exB cf aY.mu 100 aY.sc (bD aY.ps [.tup (counts.map AV.int),.int less]) aY.body=some (.ret (.int r),ρ2):=by
  refine (aE (k:=99) (ρ':=ρ1) (by rw [<- hρ]; rfl)).trans ?_;refine (aE (k:=98) (ρ':=ρ2) (cQ (k:=97) (by rfl) hrg (cB (by exact lit hl rfl)) ?_)).trans ?_
  ·rw [List.range_eq_range']; exact hf
  ·exact dD (m:=96) (aA (aD F.p) rfl)
 rw [key]
noncomputable def aMs (x:Int):List Int->Int->Int->Int->Option Int
 | [],_,p,_=>some p
 | t::r,j,p,f=>if aQ t/\aQ f then aMs x r (j+1) (p+t*f) (f*(x- j)) else none
theorem aPo:∀(x x_1 x_2 x_3 t:Int)(r:List Int),aMs x (t::r) x_1 x_2 x_3=if aQ t=true/\aQ x_3=true then aMs x r (x_1+1) (x_2+t*x_3) (x_3*(x- x_1)) else none:=fun _ _ _ _ _ _=>rfl
structure aMt (ρ:St)(told:List Int)(x p f:Int):Prop where
 t:ρ "told"=some (.val (.list (told.map AV.int)))
 n:ρ "n"=some (.val (.int ((told.length:Int)- 1)))
 x:ρ "x"=some (.val (.int x))
 p:ρ "placed"=some (.val (.int p))
 f:ρ "factors"=some (.val (.int f))
theorem wY {told:List Int}{x p f:Int}(H:aMt ρ told x p f)(hi:i<told.length)(hl:told.length<=1000)(hg:aQ told[told.length- 1- i]=true/\aQ f=true):
  ∃ρ',exB cf [] (k+30) aS.sc (ρ.set "k" (.val (.int ((told.length:Int)- 1+(i:Int)*(-1))))) (lb aS 3)=some (.next,ρ')/\aMt ρ' told x (p+told[told.length- 1- i]*f) (f*(x- i)):=by
 have ek:(told.length:Int)- 1+(i:Int)*(-1)=((told.length- 1- i:Nat):Int):=by omega
 rw [ek];have g1:ρ.set "k" (.val (.int ((told.length- 1- i:Nat):Int))) (ofString "told")=_:=St.set_nb rfl H.t;have g2:ρ.set "k" (.val (.int ((told.length- 1- i:Nat):Int))) (ofString "n")=_:=St.set_nb rfl H.n;have g3:ρ.set "k" (.val (.int ((told.length- 1- i:Nat):Int))) (ofString "x")=_:=St.set_nb rfl H.x;have g5:ρ.set "k" (.val (.int ((told.length- 1- i:Nat):Int))) (ofString "placed")=_:=St.set_nb rfl H.p;have g6:ρ.set "k" (.val (.int ((told.length- 1- i:Nat):Int))) (ofString "factors")=_:=St.set_nb rfl H.f;have g4:ρ.set "k" (.val (.int ((told.length- 1- i:Nat):Int))) (ofString "k")=some (.val (.int ((told.length- 1- i:Nat):Int))):=if_pos rfl;generalize ρ.set "k" (.val (.int ((told.length- 1- i:Nat):Int)))=ρ1 at g1 g2 g3 g4 g5 g6;have hj:told.length- 1- i<told.length:=by omega
 have e1:lX (.list (told.map AV.int)) (.int ((told.length- 1- i:Nat):Int))=some (.int told[told.length- 1- i]):=by
  show dZ _ _=_;rw [dS (by rw [List.length_map]; exact lit hl rfl) (by rw [List.length_map]; exact hj),List.getElem_map]
 refine ⟨_,(aE (k:=k+29) (cD (m:=k+28) rfl rfl (aC (m:=k+27) (op:= .Add) (aA (aD g5) rfl) (aC (m:=k+26) (op:= .Mult) (bZ (m:=k+25) (aA (aD g1) rfl) (aA (aD g4) rfl) e1) (aA (aD g6) rfl) (if_pos hg.1)) rfl) rfl)).trans (aU (k:=k+27) (cD (m:=k+27) rfl rfl (aC (m:=k+26) (aA (aD (St.set_nb rfl g6)) rfl) (aC (m:=k+25) (aA (aD (St.set_nb rfl g3)) rfl) (aC (m:=k+24) (aA (aD (St.set_nb rfl g2)) rfl) (aA (aD (St.set_nb rfl g4)) rfl) rfl) rfl) (if_pos hg.2)) rfl)),
  ⟨St.set_nb rfl (St.set_nb rfl g1),St.set_nb rfl (St.set_nb rfl g2),St.set_nb rfl (St.set_nb rfl g3),St.set_nb rfl (if_pos rfl),(if_pos rfl).trans ?_⟩⟩
 congr 4
 omega
theorem oD {told:List Int}{x:Int}
  (hG:∀ρ p f i (hi:i<told.length),aMt ρ told x p f->aQ told[told.length- 1- i]=true/\aQ f=true->∃ρ',G (.int ((told.length:Int)- 1+(i:Int)*(-1))) ρ=some (.next,ρ')/\aMt ρ' told x (p+told[told.length- 1- i]*f) (f*(x- i))):
  ∀(m i:Nat)(p f r:Int)(ρ:St),i+m=told.length->aMt ρ told x p f->aMs x (told.reverse.drop i) i p f=some r->
   ∃ρ' f',jW G ((List.range' i m).map fun (i:Nat)=>AV.int ((told.length:Int)- 1+(i:Int)*(-1))) ρ=some (.next,ρ')/\aMt ρ' told x r f'
 | 0,i,p,f,r,ρ,h,H,hr=>by
  rw [List.drop_eq_nil_of_le (by simp;exact Nat.le_of_eq h.symm)] at hr
  (replace hr:=Option.some.inj hr;subst hr)
  exact ⟨ρ,f,rfl,H⟩
 | m+1,i,p,f,r,ρ,h,H,hr=>by
  have hi:i<told.length:=by exact asl h
  rw [List.drop_eq_getElem_cons (by simp;exact hi),aPo,List.getElem_reverse] at hr
  split at hr
  ·rename_i q;obtain ⟨ρ1,e1,H1⟩:=hG ρ p f i hi H q;obtain ⟨ρ2,f2,e2,H2⟩:=oD hG m (i+1) _ _ r ρ1 (by lia) H1 (by push_cast;exact hr);exact ⟨ρ2,f2,by rw [List.range'_succ,List.map_cons]; exact (aX e1).trans e2,H2⟩
  ·exact no1 hr
theorem aB7 (cf:CallF){told:List Int}{x r:Int}(hl:told.length<=1000)(h1:1<=told.length)(hr:aMs x told.reverse 0 0 1=some r):aZ cf 100 aS [.list (told.map AV.int),.int x]=some (.int r):=by
 have H0:aMt ((((bD aS.ps [.list (told.map AV.int),.int x]).set "n" (.val (.int ((told.length:Int)- 1)))).set "placed" (.val (.int 0))).set "factors" (.val (.int 1))) told x 0 1:=
  ⟨St.set_nb rfl (St.set_nb rfl (St.set_nb rfl rfl)),St.set_nb rfl (St.set_nb rfl (if_pos rfl)),St.set_nb rfl (St.set_nb rfl (St.set_nb rfl rfl)),St.set_nb rfl (if_pos rfl),if_pos rfl⟩
 have b1:=dE (l:=told.map AV.int) (by rw [List.length_map]; exact lit hl rfl);rw [List.length_map] at b1;have s1:exS cf aS.mu 99 aS.sc (bD aS.ps [.list (told.map AV.int),.int x]) (nth aS.body 0)=some (.next,(bD aS.ps [.list (told.map AV.int),.int x]).set "n" (.val (.int ((told.length:Int)- 1)))):=
  cD (m:=98) rfl rfl (aC (m:=97) (op:= .Sub) (cJ (k:=96) rfl rfl (aG (m:=95) (by decide) (aA (aD rfl) rfl)) b1) aF rfl) rfl
 generalize hρ0:(bD aS.ps [.list (told.map AV.int),.int x]).set "n" (.val (.int ((told.length:Int)- 1)))=ρ0 at H0 s1;generalize hρ:(ρ0.set "placed" (.val (.int 0))).set "factors" (.val (.int 1))=ρ1 at H0;obtain ⟨ρ2,f',hf,F⟩:=oD (G:=fun a ρ=>exB cf [] 95 aS.sc (ρ.set "k" (.val a)) (lb aS 3)) (fun ρ p f i hi H hg=>wY (k:=65) H hi hl hg) told.length 0 0 1 r ρ1 (by exact Nat.zero_add _) H0 hr;have hit:bL (.range ((told.length:Int)- 1) (-1) (-1))=some ((List.range told.length).map fun (i:Nat)=>AV.int ((told.length:Int)- 1+(i:Int)*(-1))):=by
  show bF _ _ _=_;unfold bF;rw [if_pos ⟨aM (by lia) (by lia),by decide⟩,if_neg (by decide),if_pos rfl];have:((told.length:Int)- 1- (-1)).toNat=told.length:=by lia
  rw [this]
 have hrg:evE cf 95 aS.sc ρ1.frozen (tG (nth aS.body 3))=some (.range ((told.length:Int)- 1) (-1) (-1)):=by
  have u:∀(m:Nat) p q,evE cf (m+2) aS.sc ρ1.frozen (Expr.UnaryOp .USub (Constant (.int 1) 0 p) q)=some (.int (-1)):=fun _ _ _=>rfl
  exact bV (k:=94) rfl (jF (m:=93) (aA (bN H0.n) rfl) (bC (m:=91) (by decide) (u _ _ _) (u _ _ _))) (if_pos ⟨aM (by lia) (by lia),by decide,rfl⟩)
 unfold aZ;rw [if_pos (show aS.ps.length=[AV.list (told.map AV.int),.int x].length from rfl)];have key:exB cf aS.mu 100 aS.sc (bD aS.ps [.list (told.map AV.int),.int x]) aS.body=some (.ret (.int r),ρ2):=by
  refine (aE (k:=99) (ρ':=ρ0) s1).trans ?_;refine (aE (k:=98) (ρ':=ρ0.set "placed" (.val (.int 0))) (by rfl)).trans ?_;refine (aE (k:=97) (ρ':=ρ1) (by rw [<- hρ]; rfl)).trans ?_;refine (aE (k:=96) (ρ':=ρ2) (cQ (k:=95) (by rfl) hrg hit ?_)).trans ?_
  ·rw [List.range_eq_range']; exact hf
  ·exact dD (m:=94) (aA (aD F.p) rfl)
 rw [key]
theorem zI (l:List Int):fU (.tup (l.map AV.int))=true:=eZ l
noncomputable def wsI (raw:Str)(n nt:Int)(cnt:List Int)(tr:Int)(sb:Bool):AV:= .inst 100 [("raw",.str raw),("n",.int n),("nt",.int nt),("norm",.tup [.tup (cnt.map .int),.int tr]),("is_simple",.bool sb)]
section
variable {ρ:Loc}
theorem eB (hb:bY e=true)(h:evE cf m sc ρ e=some (.inst 100 fs))(hc:cf.c=100)(ha:cf.ats.contains x=true)(hv:fs.lookup x=some v):evE cf (m+1) sc ρ (.Attribute e x p)=some v:=by
 rw [aOw,hb,h,ha,hc];exact hv
theorem kU {f:Str}(hb:bY o=true)(hl:(ap.endLine==p.line)=true)(hn:as.length<30)(h:evE cf m sc ρ o=some (.inst 100 fs))(hc:cf.c=100)(hf:fs.lookup f=none)(ha:eC cf m sc ρ as=some vs)(hv:cf.me f (.inst 100 fs::vs)=some v):evE cf (m+1) sc ρ (.Call (.Attribute o f ap) as [] p)=some v:=by
 rw [yM,hb,hl,decide_eq_true hn,h,hc];show (if ((100:Nat)==100&&(fs.lookup f).isNone)=true then ((eC cf m sc ρ as).bind fun z=>cf.me f (AV.inst 100 fs::z)) else none)=_;rw [hf,ha];exact hv
theorem aFy {ρ:St}{y:Str}{py pt:Pos}{a:Str}{u:AV}(hx:bJ sc x=true)(hy:bJ sc y=true)(h:evE cf m sc ρ.all (.Attribute e a ap)=some (.tup [v,u]))(hv:fU v=true)(hu:fU u=true):
  exS cf mu (m+1) sc ρ (.Assign [.Tuple [.Name x px,.Name y py] k pt] (.Attribute e a ap) p)=some (.next,(ρ.set x (.val v)).set y (.val u)):=by
 rw [tC,aLt,aLu,hx,hy,h];show (if (fU v&&fU u)=true then some (Fl.next,(ρ.set x (.val v)).set y (.val u)) else none)=_;rw [hv,hu]; rfl
end
structure CfW (cf:CallF):Prop where
 c:cf.c=100
 a:cf.ats=aNn
theorem zJ (C:CfW cf){n nt tr:Int}{sb:Bool}(hl:cnt.length<=1000):aZ cf 100 iH [wsI raw n nt cnt tr sb]=some (.int (if tr>(cnt.length:Int)- 1 then tr else (cnt.length:Int)- 1)):=by
 unfold aZ;rw [if_pos (show iH.ps.length=[wsI raw n nt cnt tr sb].length from rfl)];have h0:(bD iH.ps [wsI raw n nt cnt tr sb]) (ofString "self")=some (.val (wsI raw n nt cnt tr sb)):=rfl;generalize bD iH.ps [wsI raw n nt cnt tr sb]=ρ0 at h0;have b1:aI "len" [.tup (cnt.map AV.int)]=some (.int cnt.length):=by
  unfold aI;rw [if_pos rfl];show (if (cnt.map AV.int).length<=2^20 then some (AV.int (cnt.map AV.int).length) else none)=_;rw [List.length_map,if_pos (by exact lit hl rfl)]
 have b2:∀a b:Int,aI "max" [.int a,.int b]=some (.int (if b>a then b else a)):=fun a b=>by
  unfold aI;rw [if_neg (by decide),if_neg (by decide),if_neg (by decide),if_pos rfl]; rfl
 have c1:((ρ0.set "count" (.val (.tup (cnt.map AV.int)))).set "trailing" (.val (.int tr))) (ofString "count")=some (.val (.tup (cnt.map AV.int))):=St.set_nb rfl (if_pos rfl);have c2:((ρ0.set "count" (.val (.tup (cnt.map AV.int)))).set "trailing" (.val (.int tr))) (ofString "trailing")=some (.val (.int tr)):=if_pos rfl;have key:exB cf iH.mu 100 iH.sc ρ0 iH.body=some (.ret (.int (if tr>(cnt.length:Int)- 1 then tr else (cnt.length:Int)- 1)),_):=
  (aE (k:=99) (aFy (m:=98) rfl rfl (eB (m:=97) rfl (aA (aD h0) rfl) C.c (by rw [C.a]; rfl) rfl) (zI _) rfl)).trans
   (dD (m:=97) (cJ (k:=96) rfl rfl (bC (m:=94) (by decide) (aC (m:=94) (op:= .Sub) (cJ (k:=93) rfl rfl (aG (m:=92) (by decide) (aA (aD c1) rfl)) b1) aF rfl) (aA (aD c2) rfl)) (b2 _ _)))
 rw [key]
noncomputable def aNo (size:Int):List Int->Int->Int->Int
 | [],_,acc=>acc
 | c::r,i,acc=>aNo size r (i+1) (acc+i/size*c)
theorem aPp:∀(size x x_1 c:Int)(cs:List Int),aNo size (c::cs) x x_1=aNo size cs (x+1) (x_1+x/size*c):=fun _ _ _ _ _=>rfl
noncomputable def aV (cnt:List Int)(nt tr:Int)(size:Nat):Int:=tr+size*(aNo size (cnt.drop size) size 0+nt)
structure aKm (ρ:St)(raw:Str)(n nt:Int)(cnt:List Int)(tr:Int)(sb:Bool)(size:Nat)(il:Int):Prop where
 s:ρ "self"=some (.val (wsI raw n nt cnt tr sb))
 z:ρ "tabsize"=some (.val (.int size))
 c:ρ "count"=some (.val (.tup (cnt.map AV.int)))
 t:ρ "trailing"=some (.val (.int tr))
 i:ρ "il"=some (.val (.int il))
theorem aB8 {ρ:St}{n nt tr il:Int}{sb:Bool}{size:Nat}(H:aKm ρ raw n nt cnt tr sb size il)(hi:i<cnt.length)(hl:cnt.length<=1000)(h1:1<=size)(h2:size<=1000):
  ∃ρ',exB cf [] (k+30) bP.sc (ρ.set "i" (.val (.int (i:Int)))) (lb bP 2)=some (.next,ρ')/\aKm ρ' raw n nt cnt tr sb size (il+(i:Int)/(size:Int)*cnt[i]):=by
 have g1:ρ.set "i" (.val (.int (i:Int))) (ofString "self")=_:=St.set_nb rfl H.s;have g2:ρ.set "i" (.val (.int (i:Int))) (ofString "tabsize")=_:=St.set_nb rfl H.z;have g3:ρ.set "i" (.val (.int (i:Int))) (ofString "count")=_:=St.set_nb rfl H.c;have g4:ρ.set "i" (.val (.int (i:Int))) (ofString "trailing")=_:=St.set_nb rfl H.t;have g5:ρ.set "i" (.val (.int (i:Int))) (ofString "il")=_:=St.set_nb rfl H.i;have g6:ρ.set "i" (.val (.int (i:Int))) (ofString "i")=some (.val (.int (i:Int))):=if_pos rfl;generalize ρ.set "i" (.val (.int (i:Int)))=ρ1 at g1 g2 g3 g4 g5 g6;have e1:lX (.tup (cnt.map AV.int)) (.int (i:Int))=some (.int cnt[i]):=by
  show (if (0:Int)<=(i:Int) then dZ _ _ else none)=_;rw [if_pos (by exact Int.natCast_nonneg _),dS (by rw [List.length_map]; exact lit hl rfl) (by rw [List.length_map]; exact hi),List.getElem_map]
 have hq:aQ ((i:Int)/(size:Int))=true:=by
  have h3:(i:Int)/(size:Int)<=(i:Int):=Int.ediv_le_self _ (by exact Int.natCast_nonneg _);have h4:0<=(i:Int)/(size:Int):=Int.ediv_nonneg (by exact Int.natCast_nonneg _) (by exact Int.natCast_nonneg _);exact aM (by exact ngl rfl) (by lia)
 exact ⟨_,aU (cD rfl rfl (aC (aA (aD g5) rfl) (aC (aC (aA (aD g6) rfl) (aA (aD g2) rfl) (if_pos ⟨by exact Int.ofNat_lt.mpr h1,by exact aCq h2 rfl⟩))
  (bZ (aA (aD g3) rfl) (aA (aD g6) rfl) e1) (if_pos hq)) rfl) rfl),⟨St.set_nb rfl g1,St.set_nb rfl g2,St.set_nb rfl g3,St.set_nb rfl g4,if_pos rfl⟩⟩
theorem pX {n nt tr:Int}{sb:Bool}{size:Nat}
  (hG:∀ρ il i (hi:i<cnt.length),aKm ρ raw n nt cnt tr sb size il->∃ρ',G (.int (i:Int)) ρ=some (.next,ρ')/\aKm ρ' raw n nt cnt tr sb size (il+(i:Int)/(size:Int)*cnt[i])):
  ∀(m i:Nat)(il:Int)(ρ:St),i+m=cnt.length->aKm ρ raw n nt cnt tr sb size il->
   ∃ρ',jW G ((List.range' i m).map fun (i:Nat)=>AV.int (i:Int)) ρ=some (.next,ρ')/\aKm ρ' raw n nt cnt tr sb size (aNo size (cnt.drop i) i il)
 | 0,i,il,ρ,h,H=>⟨ρ,rfl,by rw [List.drop_eq_nil_of_le (by exact Nat.le_of_eq h.symm)]; exact H⟩
 | m+1,i,il,ρ,h,H=>by
  have hi:i<cnt.length:=by exact asl h
  obtain ⟨ρ1,e1,H1⟩:=hG ρ il i hi H;obtain ⟨ρ2,e2,H2⟩:=pX hG m (i+1) _ ρ1 (by exact sad h) H1;refine ⟨ρ2,by rw [List.range'_succ,List.map_cons]; exact (aX e1).trans e2,?_⟩;rw [List.drop_eq_getElem_cons hi,aPp]
  push_cast at H2
  exact H2
theorem uM (C:CfW cf){n nt tr:Int}{sb:Bool}{size:Nat}(hl:cnt.length<=1000)(h1:1<=size)(h2:size<=1000):aZ cf 100 bP [wsI raw n nt cnt tr sb,.int size]=some (.int (aV cnt nt tr size)):=by
 unfold aZ;rw [if_pos (show bP.ps.length=[wsI raw n nt cnt tr sb,.int size].length from rfl)];have h0:(bD bP.ps [wsI raw n nt cnt tr sb,.int size]) (ofString "self")=some (.val (wsI raw n nt cnt tr sb)):=rfl;have hz:(bD bP.ps [wsI raw n nt cnt tr sb,.int size]) (ofString "tabsize")=some (.val (.int size)):=rfl;generalize bD bP.ps [wsI raw n nt cnt tr sb,.int size]=ρ0 at h0 hz;have b1:aI "len" [.tup (cnt.map AV.int)]=some (.int cnt.length):=by
  unfold aI;rw [if_pos rfl];show (if (cnt.map AV.int).length<=2^20 then some (AV.int (cnt.map AV.int).length) else none)=_;rw [List.length_map,if_pos (by exact lit hl rfl)]
 have H0:aKm (((ρ0.set "count" (.val (.tup (cnt.map AV.int)))).set "trailing" (.val (.int tr))).set "il" (.val (.int 0))) raw n nt cnt tr sb size 0:=
  ⟨St.set_nb rfl (St.set_nb rfl (St.set_nb rfl h0)),St.set_nb rfl (St.set_nb rfl (St.set_nb rfl hz)),St.set_nb rfl (St.set_nb rfl (if_pos rfl)),St.set_nb rfl (if_pos rfl),if_pos rfl⟩
 have s1:exS cf bP.mu 99 bP.sc ρ0 (nth bP.body 0)=some (.next,(ρ0.set "count" (.val (.tup (cnt.map AV.int)))).set "trailing" (.val (.int tr))):=
  aFy (m:=98) rfl rfl (eB (m:=97) rfl (aA (aD h0) rfl) C.c (by rw [C.a]; rfl) rfl) (zI _) rfl
 generalize (ρ0.set "count" (.val (.tup (cnt.map AV.int)))).set "trailing" (.val (.int tr))=ρa at H0 s1;generalize hρ:ρa.set "il" (.val (.int 0))=ρ1 at H0;have hrg:evE cf 96 bP.sc ρ1.frozen (tG (nth bP.body 2))=some (.range size (cnt.length:Int) 1):=
  bV (k:=95) rfl (bC (m:=93) (by decide) (aA (bN H0.z) rfl) (cJ (k:=92) rfl rfl (aG (m:=91) (by decide) (aA (bN H0.c) rfl)) b1)) (if_pos ⟨aM (by exact ngl rfl) (by exact aCq h2 rfl),aM (by exact ngl rfl) (by exact aCq hl rfl)⟩)
 have hit:bL (.range size (cnt.length:Int) 1)=some ((List.range' size (cnt.length- size)).map fun (i:Nat)=>AV.int (i:Int)):=by
  show bF _ _ _=_;unfold bF;rw [if_pos ⟨aM (by exact ngl rfl) (by exact aCq h2 rfl),aM (by exact ngl rfl) (by exact aCq hl rfl)⟩,if_pos rfl];have:((cnt.length:Int)- (size:Int)).toNat=cnt.length- size:=by lia
  rw [this,List.range'_eq_map_range,List.map_map]
  congr 2
  funext i
  simp
 have hloop:∃ρ2,jW (fun a ρ=>exB cf [] 96 bP.sc (ρ.set "i" (.val a)) (lb bP 2)) ((List.range' size (cnt.length- size)).map fun (i:Nat)=>AV.int (i:Int)) ρ1=some (.next,ρ2)/\aKm ρ2 raw n nt cnt tr sb size (aNo size (cnt.drop size) size 0):=by
  rcases Nat.lt_or_ge size cnt.length with q | q
  ·exact pX (fun ρ il i hi H=>aB8 (k:=66) H hi hl h1 h2) (cnt.length- size) size 0 ρ1 (by lia) H0
  ·refine ⟨ρ1,?_,?_⟩
   ·rw [show cnt.length- size=0 by exact Nat.sub_eq_zero_of_le q]; rfl
   ·rw [List.drop_eq_nil_of_le q]; exact H0
 obtain ⟨ρ2,hf,F⟩:=hloop;have key:exB cf bP.mu 100 bP.sc ρ0 bP.body=some (.ret (.int (aV cnt nt tr size)),ρ2):=by
  refine (aE (k:=99) (ρ':=ρa) s1).trans ?_;refine (aE (k:=98) (ρ':=ρ1) (by rw [<- hρ]; rfl)).trans ?_;refine (aE (k:=97) (ρ':=ρ2) (cQ (k:=96) (by rfl) hrg hit hf)).trans ?_;exact dD (m:=95) (aC (m:=94) (aA (aD F.t) rfl) (aC (m:=93) (aA (aD F.z) rfl) (aC (m:=92) (aA (aD F.i) rfl) (eB (m:=91) rfl (aA (aD F.s) rfl) C.c (by rw [C.a]; rfl) rfl) rfl) (if_pos (aM (by exact ngl rfl) (by exact aCq h2 rfl)))) rfl)
 rw [key]
def okD (k:Nat)(a:AV):Prop:=∃x,a.toData=some x/\x.canLay0=true/\x.depth<=k/\PyData.eqv x x=true
theorem aFz (i:Int)(k:Nat):okD k (.int i):=⟨.int i,rfl,by rw [PyData.canLay0],by simp [PyData.depth],by simp [PyData.eqv]⟩
theorem wZ (h:PyData.strOk x=true)(k:Nat):okD k (.str x):=⟨.str x,rfl,by rw [PyData.canLay0]; exact h,by simp [PyData.depth],by simp [PyData.eqv]⟩
theorem rN:∀{l:List AV},(∀ a∈l,okD k a)->∃xs,AV.toDataL l=some xs/\PyData.canLayAll0 xs=true/\PyData.depthAll xs<=k/\PyData.eqvAll xs xs=true
 | [],_=>⟨[],rfl,by rw [PyData.canLayAll0],by simp [PyData.depthAll],by rw [PyData.eqvAll]⟩
 | a::r,h=>by
  obtain ⟨x,h1,h2,h3,h4⟩:=h a (List.mem_cons_self ..);obtain ⟨xs,g1,g2,g3,g4⟩:=rN fun b hb=>h b (List.mem_cons_of_mem _ hb)
  refine ⟨x::xs,dT h1 g1,by rw [PyData.canLayAll0,h2,g2]; rfl,?_,by rw [PyData.eqvAll,h4,g4]; rfl⟩;rw [PyData.depthAll];exact Nat.max_le.mpr ⟨h3,g3⟩
theorem lK (h:∀a∈l,okD k a):okD (k+1) (.list l):=by
 obtain ⟨xs,g1,g2,g3,g4⟩:=rN h;exact ⟨.list xs,fE g1,by rw [PyData.canLay0]; exact g2,by rw [PyData.depth]; exact Nat.lt_succ_of_le g3,by rw [PyData.eqv]; exact g4⟩
theorem aMu (h:∀a∈l,okD k a):okD (k+1) (.tup l):=by
 obtain ⟨xs,g1,g2,g3,g4⟩:=rN h;exact ⟨.tuple xs,eR g1,by rw [PyData.canLay0]; exact g2,by rw [PyData.depth]; exact Nat.lt_succ_of_le g3,by rw [PyData.eqv]; exact g4⟩
theorem aF0 {a b:AV}{x y:PyData}(ha:a.toData=some x)(hb:b.toData=some y)(h1:x.canLay0=true)(h2:y.canLay0=true)(h3:x.depth<=64)(h4:y.depth<=64):cN a b=some (PyData.eqv x y):=by
 unfold cN;rw [ha,hb];show (if (SeqAt.shaped x&&SeqAt.shaped y)=true then _ else _)=_;rw [if_pos];unfold SeqAt.shaped;rw [h1,h2,decide_eq_true h3,decide_eq_true h4]; rfl
theorem aMv {a:AV}(h:okD k a)(hk:k<=64):cN a a=some true:=by
 obtain ⟨x,h1,h2,h3,h4⟩:=h;rw [aF0 h1 h1 h2 h2 (by exact Nat.le_trans h3 hk) (by exact Nat.le_trans h3 hk),h4]
theorem aF1 (i j:Int):cN (.int i) (.int j)=some (decide (i=j)):=by
 rw [aF0 (x:= .int i) (y:= .int j) rfl rfl (by rw [PyData.canLay0]) (by rw [PyData.canLay0]) (by simp [PyData.depth]) (by simp [PyData.depth]),PyData.eqv]
 congr 1
theorem gL:∀l:List Int,AV.toDataL (l.map AV.int)=some (l.map PyData.int)
 | []=>rfl
 | a::r=>dT rfl (gL r)
theorem jP:∀l:List Int,PyData.canLayAll0 (l.map PyData.int)=true/\PyData.depthAll (l.map PyData.int)=0
 | []=>⟨by simp [PyData.canLayAll0],by simp [PyData.depthAll]⟩
 | a::r=>by
  obtain ⟨h1,h2⟩:=jP r;rw [List.map_cons,PyData.canLayAll0,PyData.depthAll,PyData.canLay0,PyData.depth,h1,h2];exact ⟨rfl,rfl⟩
theorem rO:∀l m:List Int,PyData.eqvAll (l.map PyData.int) (m.map PyData.int)=decide (l=m)
 | [],[]=>by simp [PyData.eqvAll]
 | [],b::m=>by simp [PyData.eqvAll]
 | a::l,[]=>by simp [PyData.eqvAll]
 | a::l,b::m=>by
  rw [List.map_cons,List.map_cons,PyData.eqvAll,PyData.eqv,rO l m]
  by_cases h1:a=b <;> by_cases h2:l=m <;> simp [h1,h2]
theorem aMw (l m:List Int):cN (.list (l.map AV.int)) (.list (m.map AV.int))=some (decide (l=m)):=by
 obtain ⟨h1,h2⟩:=jP l;obtain ⟨h3,h4⟩:=jP m;rw [aF0 (x:= .list (l.map .int)) (y:= .list (m.map .int)) (fE (gL l)) (fE (gL m)) (by rw [PyData.canLay0]; exact h1) (by rw [PyData.canLay0]; exact h3) (by rw [PyData.depth,h2]; decide) (by rw [PyData.depth,h4]; decide),PyData.eqv,rO]
theorem aMx (l m:List Int)(i j:Int):cN (.tup [.tup (l.map AV.int),.int i]) (.tup [.tup (m.map AV.int),.int j])=some (decide (l=m)&&decide (i=j)):=by
 obtain ⟨h1,h2⟩:=jP l;obtain ⟨h3,h4⟩:=jP m;rw [aF0 (x:= .tuple [.tuple (l.map .int),.int i]) (y:= .tuple [.tuple (m.map .int),.int j]) (eR (dT (eR (gL l)) (dT rfl rfl))) (eR (dT (eR (gL m)) (dT rfl rfl)))
  (by simp [PyData.canLay0,PyData.canLayAll0,h1]) (by simp [PyData.canLay0,PyData.canLayAll0,h3]) (by simp [PyData.depth,PyData.depthAll,h2]) (by simp [PyData.depth,PyData.depthAll,h4])]
 simp [PyData.eqv,PyData.eqvAll,rO];rfl
theorem aPq (h:∀a∈l,okD k a)(hk:k<60):cN (.list l) (.list [])=some l.isEmpty:=by
 obtain ⟨xs,g1,g2,g3,g4⟩:=rN h;rw [aF0 (x:= .list xs) (y:= .list []) (fE g1) rfl (by rw [PyData.canLay0]; exact g2) (by rw [PyData.canLay0,PyData.canLayAll0]) (by rw [PyData.depth]; lia) (by simp [PyData.depth,PyData.depthAll]),PyData.eqv]
 cases l with
 | nil=>(replace g1:=Option.some.inj g1;subst g1); rw [PyData.eqvAll]; rfl
 | cons a r=>
  refine kK g1 fun x z _ _ e=> ?_
  subst e;rw [PyData.eqvAll]; rfl
theorem aF2 (C:CfW cf){raw':Str} {n nt tr n' nt' tr':Int}{cnt':List Int}{sb sb':Bool}:aZ cf 100 rL [wsI raw n nt cnt tr sb,wsI raw' n' nt' cnt' tr' sb']=some (.bool (decide (cnt=cnt')&&decide (tr=tr'))):=
 nA (k:=100) rfl (dD (m:=98) (iQ (m:=97) (eB (m:=96) rfl (aA rfl rfl) C.c (by rw [C.a]; rfl) rfl) (eB (m:=96) rfl (aA rfl rfl) C.c (by rw [C.a]; rfl) rfl) (aMx _ _ _ _)))
theorem zK (C:CfW cf){raw':Str} {n nt tr n' nt' tr':Int}{cnt':List Int}{sb sb':Bool}(h:n'<=n):aZ cf 100 zB [wsI raw n nt cnt tr sb,wsI raw' n' nt' cnt' tr' sb']=some (.bool false):=by
 refine nA (k:=100) rfl (aH8 (k:=99) (Eq.trans (qY (k:=98) ?_) (dD (m:=96) rfl)));exact bS (m:=97) (eB (m:=96) rfl (aA rfl rfl) C.c (by rw [C.a]; rfl) rfl) (eB (m:=96) rfl (aA rfl rfl) C.c (by rw [C.a]; rfl) rfl) (congrArg some (decide_eq_true h))
noncomputable def gM (f g:Nat->Int)(ss:List Nat):List AV:=(ss.filter fun s=>decide (f s≠g s)).map fun (s:Nat)=>AV.tup [.int (s:Int),.int (f s),.int (g s)]
theorem aF3 (f g:Nat->Int)(ss:List Nat):∀a∈gM f g ss,okD 1 a:=fun a ha=>by
 obtain ⟨s,_,rfl⟩:=List.mem_map.mp ha;exact aMu fun b hb=>by
  simp only [List.mem_cons,List.not_mem_nil,or_false] at hb
  rcases hb with rfl | rfl | rfl <;> exact aFz _ _
theorem zL (f g:Nat->Int)(ss:List Nat):(gM f g ss).length<=ss.length:=by
 unfold gM;rw [List.length_map];exact List.length_filter_le ..
theorem aRf:CfW cf0:=⟨rfl,rfl⟩
theorem aP6:CfW cfN:=⟨rfl,rfl⟩
theorem zM (vs:List AV):cf0.me "longest_run_of_spaces" vs=aZ cfN 100 iH vs:=by
 unfold cf0;dsimp only;rw [if_pos rfl]
theorem uN (vs:List AV):cf0.me "indent_level" vs=aZ cfN 100 bP vs:=by
 unfold cf0;dsimp only;rw [if_neg (by decide),if_pos rfl]
theorem dH (a b:Int):cO .Add (.int a) (.int b)=some (.int (a+b)):=rfl
theorem aKn {a b:Int}(ha:aQ a=true)(hb:aQ b=true):lY [.int a,.int b]=some (.range a b 1):=if_pos ⟨ha,hb⟩
structure aMy (ρ:St)(d1 d2:AV)(l:List AV):Prop where
 s:ρ "self"=some (.val d1)
 o:ρ "other"=some (.val d2)
 a:ρ "a"=some (.own (.list l))
section
variable {raw':Str}{n nt n' nt':Int}{cnt':List Int}{sb sb':Bool}
theorem aJc {ts:Nat}(H:aMy ρ (wsI raw n nt cnt 0 sb) (wsI raw' n' nt' cnt' 0 sb') l)(hl:l.length<=1000)(h1:1<=ts)(h2:ts<=1000)(hc:cnt.length<=1000)(hc':cnt'.length<=1000):
  ∃ρ',exB cf0 [ofString "a"] (k+30) aN.sc (ρ.set "ts" (.val (.int (ts:Int)))) (lb aN 2)=some (.next,ρ')/\
   aMy ρ' (wsI raw n nt cnt 0 sb) (wsI raw' n' nt' cnt' 0 sb') (l++gM (aV cnt nt 0) (aV cnt' nt' 0) [ts]):=by
 have g1:ρ.set "ts" (.val (.int (ts:Int))) (ofString "self")=_:=St.set_nb rfl H.s;have g2:ρ.set "ts" (.val (.int (ts:Int))) (ofString "other")=_:=St.set_nb rfl H.o;have g3:ρ.set "ts" (.val (.int (ts:Int))) (ofString "a")=_:=St.set_nb rfl H.a;have g4:ρ.set "ts" (.val (.int (ts:Int))) (ofString "ts")=some (.val (.int (ts:Int))):=if_pos rfl;generalize ρ.set "ts" (.val (.int (ts:Int)))=ρ1 at g1 g2 g3 g4;have L1:∀m pa pb pc pd,(pb.endLine==pd.line)=true->evE cf0 (m+10) aN.sc ρ1.all (((Name "self" pa).Attribute "indent_level" pb).Call [Name "ts" pc] [] pd)=some (.int (aV cnt nt 0 ts)):=fun m pa pb pc pd hq=>
  kU rfl hq (by simp) (aA (aD g1) rfl) rfl rfl (aG (by exact Nat.succ_ne_zero _) (aA (aD g4) rfl)) ((uN _).trans (uM aP6 hc h1 h2))
 have L2:∀m pa pb pc pd,(pb.endLine==pd.line)=true->evE cf0 (m+10) aN.sc ρ1.all (((Name "other" pa).Attribute "indent_level" pb).Call [Name "ts" pc] [] pd)=some (.int (aV cnt' nt' 0 ts)):=fun m pa pb pc pd hq=>
  kU rfl hq (by simp) (aA (aD g2) rfl) rfl rfl (aG (by exact Nat.succ_ne_zero _) (aA (aD g4) rfl)) ((uN _).trans (uM aP6 hc' h1 h2))
 have ht:evT cf0 (k+28) aN.sc ρ1.all (tF (nth (lb aN 2) 0))=some (!(decide (aV cnt nt 0 ts=aV cnt' nt' 0 ts))):=
  bS (L1 (k+17) _ _ _ _ rfl) (L2 (k+17) _ _ _ _ rfl) (congrArg (Option.map (!·)) (aF1 _ _))
 by_cases q:aV cnt nt 0 ts=aV cnt' nt' 0 ts
 ·refine ⟨ρ1,aU ((jE ht).trans ?_),⟨g1,g2,?_⟩⟩
  ·rw [decide_eq_true q]; rfl
  ·rw [g3]; simp [gM,q]
 ·refine ⟨ρ1.set "a" (.own (.list (l++[.tup [.int ts,.int (aV cnt nt 0 ts),.int (aV cnt' nt' 0 ts)]]))),aU ((jE ht).trans ?_),⟨St.set_nb rfl g1,St.set_nb rfl g2,(if_pos rfl).trans ?_⟩⟩
  ·rw [decide_eq_false q];exact aU (k:=k+26) (vT (m:=k+26) rfl (by decide) (vU (m:=k+25) (by simp) (jF (m:=k+24) (aA (m:=k+23) (aD g4) rfl) (bC (m:=k+22) (by exact Nat.succ_ne_zero _) (L1 (k+13) _ _ _ _ rfl) (L2 (k+12) _ _ _ _ rfl)))) g3 rfl (by exact lit hl rfl))
  ·simp [gM,q]
theorem zN {d1 d2:AV}{f g:Nat->Int}(hG:∀ρ l (ts:Nat),aMy ρ d1 d2 l->l.length<=1000->1<=ts->ts<=1000->∃ρ',G (.int (ts:Int)) ρ=some (.next,ρ')/\aMy ρ' d1 d2 (l++gM f g [ts])):
  ∀(ss:List Nat)(ρ:St)(l:List AV),aMy ρ d1 d2 l->(∀ s∈ss,1<=s/\s<=1000)->l.length+ss.length<=1000->∃ρ',jW G (ss.map fun (i:Nat)=>AV.int (i:Int)) ρ=some (.next,ρ')/\aMy ρ' d1 d2 (l++gM f g ss)
 | [],ρ,l,H,_,_=>⟨ρ,rfl,by unfold gM;simpa using H⟩
 | s::ss,ρ,l,H,hs,hl=>by
  simp only [List.length_cons] at hl;have h0:=hs s (List.mem_cons_self ..);obtain ⟨ρ1,e1,H1⟩:=hG ρ l s H (by exact aL1 hl) h0.1 h0.2;have h3:=zL f g [s];simp only [List.length_singleton] at h3;obtain ⟨ρ2,e2,H2⟩:=zN hG ss ρ1 _ H1 (fun t ht=>hs t (List.mem_cons_of_mem _ ht)) (by rw [List.length_append]; lia);refine ⟨ρ2,by exact (aX e1).trans e2,?_⟩;have:l++gM f g [s]++gM f g ss=l++gM f g (s::ss):=by
   unfold gM;rw [List.append_assoc,<-List.map_append,<-List.filter_append]; rfl
  rw [<- this]; exact H2
theorem xA (hc:cnt.length<=900)(hc':cnt'.length<=900)(h1:1<=cnt.length)(h1':1<=cnt'.length):aZ cf0 100 aN [wsI raw n nt cnt 0 sb,wsI raw' n' nt' cnt' 0 sb']=some (.list (gM (aV cnt nt 0) (aV cnt' nt' 0) (List.range' 1 (max cnt.length cnt'.length)))):=by
 unfold aZ;rw [if_pos (show aN.ps.length=[wsI raw n nt cnt 0 sb,wsI raw' n' nt' cnt' 0 sb'].length from rfl)];have h0:(bD aN.ps [wsI raw n nt cnt 0 sb,wsI raw' n' nt' cnt' 0 sb']) (ofString "self")=some (.val (wsI raw n nt cnt 0 sb)):=rfl;have h2:(bD aN.ps [wsI raw n nt cnt 0 sb,wsI raw' n' nt' cnt' 0 sb']) (ofString "other")=some (.val (wsI raw' n' nt' cnt' 0 sb')):=rfl;generalize bD aN.ps [wsI raw n nt cnt 0 sb,wsI raw' n' nt' cnt' 0 sb']=ρ0 at h0 h2;have bm:∀a b:Int,aI "max" [.int a,.int b]=some (.int (if b>a then b else a)):=fun a b=>by
  unfold aI;rw [if_neg (by decide),if_neg (by decide),if_neg (by decide),if_pos rfl]; rfl
 have r1:=(zM _).trans (zJ aP6 (raw:=raw) (n:=n) (nt:=nt) (tr:=0) (cnt:=cnt) (sb:=sb) (by exact lit hc rfl));have r2:=(zM _).trans (zJ aP6 (raw:=raw') (n:=n') (nt:=nt') (tr:=0) (cnt:=cnt') (sb:=sb') (by exact lit hc' rfl));rw [if_neg (by lia)] at r1 r2;have hM:(if ((cnt'.length:Int)- 1)>((cnt.length:Int)- 1) then ((cnt'.length:Int)- 1) else ((cnt.length:Int)- 1))+1=((max cnt.length cnt'.length:Nat):Int):=by
  rw [Nat.max_def]; split <;> split <;> lia
 have s1:exS cf0 aN.mu 99 aN.sc ρ0 (nth aN.body 0)=some (.next,ρ0.set "n" (.val (.int ((max cnt.length cnt'.length:Nat):Int)))):=by
  refine cD (m:=98) (v:= .int ((max cnt.length cnt'.length:Nat):Int)) rfl rfl (aC (m:=97) (op:= .Add) (cJ (k:=96) rfl rfl (bC (m:=94) (by decide) (kU (m:=94) rfl rfl (by decide+kernel) (aA (aD h0) rfl) rfl rfl (lH (by decide)) r1) (kU (m:=93) rfl rfl (by decide+kernel) (aA (aD h2) rfl) rfl rfl (lH (by decide)) r2)) (bm _ _)) aF ?_) rfl;rw [<- hM]; rfl
 have H0:aMy ((ρ0.set "n" (.val (.int ((max cnt.length cnt'.length:Nat):Int)))).set "a" (.own (.list []))) (wsI raw n nt cnt 0 sb) (wsI raw' n' nt' cnt' 0 sb') []:=⟨St.set_nb rfl (St.set_nb rfl h0),St.set_nb rfl (St.set_nb rfl h2),if_pos rfl⟩;have hn:((ρ0.set "n" (.val (.int ((max cnt.length cnt'.length:Nat):Int)))).set "a" (.own (.list []))) (ofString "n")=some (.val (.int ((max cnt.length cnt'.length:Nat):Int))):=St.set_nb rfl (if_pos rfl);generalize ρ0.set "n" (.val (.int ((max cnt.length cnt'.length:Nat):Int)))=ρa at H0 hn s1;generalize hρ:ρa.set "a" (.own (.list []))=ρ1 at H0 hn;have hmx:max cnt.length cnt'.length<=900:=by rw [Nat.max_def]; split <;> lia
 generalize max cnt.length cnt'.length=M at hn hmx;obtain ⟨ρ2,hf,F⟩:=zN (G:=fun a ρ=>exB cf0 [ofString "a"] 96 aN.sc (ρ.set "ts" (.val a)) (lb aN 2)) (f:=aV cnt nt 0) (g:=aV cnt' nt' 0) (fun ρ l ts H h3 h4 h5=>aJc (k:=66) H h3 h4 h5 (by exact lit hc rfl) (by exact lit hc' rfl)) (List.range' 1 M) ρ1 [] H0 (fun s hs=>by have:=List.mem_range'_1.mp hs;lia) (by simp;exact lit hmx rfl);have hrg:evE cf0 96 aN.sc ρ1.frozen (tG (nth aN.body 2))=some (.range 1 ((M:Int)+1) 1):=
  bV (k:=95) rfl (bC (m:=93) (by decide) aF (aC (m:=92) (op:= .Add) (aA (bN hn) rfl) aF (dH _ _))) (aKn (aM (by exact ngl rfl) (by decide)) (aM (by exact ngl rfl) (by lia)))
 have hit:bL (.range 1 ((M:Int)+1) 1)=some ((List.range' 1 M).map fun (i:Nat)=>AV.int (i:Int)):=by
  show bF _ _ _=_;unfold bF;rw [if_pos ⟨by decide,aM (by exact ngl rfl) (by lia)⟩,if_pos rfl];have:((M:Int)+1- 1).toNat=M:=by lia
  rw [this,List.range'_eq_map_range,List.map_map]
  congr 2
  funext i
  simp
 have key:exB cf0 aN.mu 100 aN.sc ρ0 aN.body=some (.ret (.list (gM (aV cnt nt 0) (aV cnt' nt' 0) (List.range' 1 M))),ρ2):=by
  refine (aE (k:=99) (ρ':=ρa) s1).trans ?_;refine (aE (k:=98) (ρ':=ρ1) (by rw [<- hρ]; rfl)).trans ?_;refine (aE (k:=97) (ρ':=ρ2) (cQ (k:=96) (by rfl) hrg hit hf)).trans ?_;have c1:ρ2.all "a"=some (.list (gM (aV cnt nt 0) (aV cnt' nt' 0) (List.range' 1 M))):=by unfold St.all;rw [F.a]; rfl
  exact dD (m:=95) (aA c1 rfl)
 rw [key]
end
noncomputable abbrev DN:=List (Nat × Nat)
noncomputable def bA (l:DN):List (Int × Int):=l.map fun p=>((p.1:Int),(p.2:Int))
noncomputable def lkN:DN->Nat->Option Nat
 | [],_=>none
 | p::r,k=>match Nat.beq p.1 k with
  | true=>some p.2
  | false=>lkN r k
theorem aF4:∀(x:Nat)(p:Nat × Nat)(r:List (Nat × Nat)),lkN (p::r) x=match Nat.beq (Prod.fst p) x with | true=>some (Prod.snd p) | false=>lkN r x:=fun _ _ _=>rfl
noncomputable def aKo:DN->Nat->Bool
 | [],_=>false
 | p::r,k=>match Nat.beq p.1 k with
  | true=>true
  | false=>aKo r k
theorem aKp:∀(x:Nat)(p:Nat × Nat)(r:List (Nat × Nat)),aKo (p::r) x=match Nat.beq (Prod.fst p) x with | true=>true | false=>aKo r x:=fun _ _ _=>rfl
noncomputable def aKq (l:DN)(k v:Nat):DN:=match aKo l k with
 | true=>l.map fun p=>match Nat.beq p.1 k with
  | true=>(p.1,v)
  | false=>p
 | false=>l++[(k,v)]
theorem fN {a b:Nat}(h:a≠b):Nat.beq a b=false:=by
 rcases e:Nat.beq a b with _ | _
 ·rfl
 ·exact absurd (Nat.eq_of_beq_eq_true e) h
theorem rP:∀(l:DN)(k:Nat),(bA l).lookup (k:Int)=(lkN l k).map fun (i:Nat)=>(i:Int)
 | [],_=>rfl
 | (a,b)::r,k=>by
  show ((((a:Int),(b:Int))::bA r).lookup (k:Int))=_;rw [List.lookup_cons,aF4]
  by_cases h:a=k
  ·subst h;have h1:((a:Int)==(a:Int))=true:=beq_self_eq_true _;rw [h1,Nat.beq_refl]; rfl
  ·have h1:((k:Int)==(a:Int))=false:=by rw [beq_eq_false_iff_ne]; lia
   have h2:Nat.beq a k=false:=fN h;rw [h1,h2]; exact rP r k
theorem zO:∀(l:DN)(k:Nat),((bA l).any fun p=>decide (p.1=(k:Int)))=aKo l k
 | [],_=>rfl
 | (a,b)::r,k=>by
  show ((((a:Int),(b:Int))::bA r).any fun p=>decide (p.1=(k:Int)))=_;rw [List.any_cons,aKp,zO r k]
  by_cases h:a=k
  ·subst h;rw [Nat.beq_refl]; simp
  ·have h2:Nat.beq a k=false:=fN h;have h3:¬((a:Int)=(k:Int)):=by lia
   rw [h2]; simp [h3]
theorem aJd (l:DN)(k v:Nat):kL (bA l) (k:Int) (v:Int)=bA (aKq l k v):=by
 unfold kL aKq;rw [zO]
 rcases aKo l k with _ | _
 ·show bA l++_=bA (l++[(k,v)]);unfold bA;rw [List.map_append]; rfl
 ·rw [if_pos rfl];show List.map _ (bA l)=bA (l.map _);unfold bA;rw [List.map_map,List.map_map]
  congr 1
  funext p
  obtain ⟨a,b⟩:=p;show (if (a:Int)=(k:Int) then ((a:Int),(v:Int)) else ((a:Int),(b:Int)))=_
  by_cases h:a=k
  ·subst h;rw [if_pos rfl];simp [Nat.beq_refl]
  ·have h2:Nat.beq a k=false:=fN h;rw [if_neg (by lia)];simp [h2]
theorem aMz (l:DN)(k v:Nat):(aKq l k v).length<=l.length+1:=by
 unfold aKq
 split <;> simp
theorem rQ (l:DN):(bA l).length=l.length:=by unfold bA;rw [List.length_map]
theorem aJe {ρ:Loc}{l:List (Int × Int)}{k n:Int}(hb:bY o=true)(hl:(ap.endLine==p.line)=true)(hn:as.length<30)(h:evE cf m sc ρ o=some (.dict l))(ha:eC cf m sc ρ as=some [.int k,.int n]):evE cf (m+1) sc ρ (.Call (.Attribute o (ofString "get") ap) as [] p)=some (.int ((l.lookup k).getD n)):=by
 rw [yM,hb,hl,decide_eq_true hn,h];show (if (ofString "get"==("get":Str))=true then ((eC cf m sc ρ as).bind fun z=>aOh l z) else none)=_;rw [ha,if_pos (by decide)]; rfl
noncomputable def oE (v t:Nat)(more:DN)(c:Nat):DN:=match Nat.beq (t/2^c%2) 0 with
 | true=>aKq more (t+2^c) ((lkN more (t+2^c)).getD 0+v)
 | false=>more
theorem uO (v t:Nat)(more:DN)(c:Nat):(oE v t more c).length<=more.length+1:=by
 unfold oE
 split
 ·exact aMz ..
 ·exact Nat.le_add_right _ _
structure aKr (ρ:St)(ways more:DN)(t:Nat):Prop where
 w:ρ "ways"=some (.val (.dict (bA ways)))
 m:ρ "more"=some (.own (.dict (bA more)))
 t:ρ "taken"=some (.val (.int (t:Int)))
noncomputable abbrev lb0 (s:Stmt):List Stmt:=eW s
theorem aB9 {ways more:DN}{t v c:Nat}(H:aKr ρ ways more t)(hv:lkN ways t=some v)(hc:c<=60)(hl:more.length<=1000000):
  ∃ρ',exB cf [ofString "more",ofString "told"] (k+30) aO.sc (ρ.set "column" (.val (.int (c:Int)))) (lb0 (nth (lb0 (nth (lb aO 1) 1)) 0))=some (.next,ρ')/\aKr ρ' ways (oE v t more c) t/\∀x,x≠ofString "column"->x≠ofString "more"->ρ' x=ρ x:=by
 have g1:ρ.set "column" (.val (.int (c:Int))) (ofString "ways")=_:=St.set_nb rfl H.w;have g2:ρ.set "column" (.val (.int (c:Int))) (ofString "more")=_:=St.set_nb rfl H.m;have g3:ρ.set "column" (.val (.int (c:Int))) (ofString "taken")=_:=St.set_nb rfl H.t;have g4:ρ.set "column" (.val (.int (c:Int))) (ofString "column")=some (.val (.int (c:Int))):=if_pos rfl;have g5:∀x,x≠ofString "column"->ρ.set "column" (.val (.int (c:Int))) x=ρ x:=fun x hx=>if_neg hx
 generalize ρ.set "column" (.val (.int (c:Int)))=ρ1 at g1 g2 g3 g4 g5;have gm:ρ1.all "more"=some (.dict (bA more)):=by unfold St.all;rw [g2]; rfl
 have b1:cO .RShift (.int (t:Int)) (.int (c:Int))=some (.int ((t/2^c:Nat):Int)):=by
  show (if (0:Int)<=(t:Int)/\(0:Int)<=(c:Int)/\(c:Int)<=64 then some (AV.int ((t:Int)/2^(c:Int).toNat)) else none)=_;rw [if_pos ⟨by exact Int.natCast_nonneg _,by exact Int.natCast_nonneg _,by exact aCq hc rfl⟩,Int.toNat_natCast]
  push_cast;rfl
 have b2:cO .BitAnd (.int ((t/2^c:Nat):Int)) (.int 1)=some (.int ((t/2^c%2:Nat):Int)):=by
  show (if (1:Int)=1 then some (AV.int (((t/2^c:Nat):Int)%2)) else none)=_;rw [if_pos rfl]
  push_cast;rfl
 have b3:cO .Pow (.int 2) (.int (c:Int))=some (.int ((2^c:Nat):Int)):=by
  show (if aQ 2=true/\(0:Int)<=(c:Int)/\(c:Int)<=64 then some (AV.int ((2:Int)^(c:Int).toNat)) else none)=_;rw [if_pos ⟨aM (by exact ngl rfl) (by decide),by exact Int.natCast_nonneg _,by exact aCq hc rfl⟩,Int.toNat_natCast]
  push_cast;rfl
 have hkey:∀m pa pb pc pd pe,evE cf (m+5) aO.sc ρ1.all ((Name "taken" pa).BinOp .Add ((Constant (.int 2) 0 pb).BinOp .Pow (Name "column" pc) pd) pe)=some (.int ((t+2^c:Nat):Int)):=fun m pa pb pc pd pe=>
  aC (aA (aD g3) rfl) (aC aF (aA (aD g4) rfl) b3) (by rw [dH]; push_cast;rfl)
 have ht:evT cf (k+28) aO.sc ρ1.all (tF (nth (lb0 (nth (lb0 (nth (lb aO 1) 1)) 0)) 0))=some (Nat.beq (t/2^c%2) 0):=by
  refine bS (aC (aC (aA (aD g3) rfl) (aA (aD g4) rfl) b1) aF b2) aF ((aF1 _ _).trans ?_)
  congr 1
  by_cases h:t/2^c%2=0
  ·rw [h]; rfl
  ·have:Nat.beq (t/2^c%2) 0=false:=fN h;rw [this,decide_eq_false (by lia)]
 unfold oE
 cases hb:Nat.beq (t/2^c%2) 0 with
 | false=>
  rw [hb] at ht;exact ⟨ρ1,aU ((mZ ht).trans aA4),⟨g1,g2,g3⟩,fun x h1 _=>g5 x h1⟩
 | true=>
  rw [hb] at ht;have hw:lX (.dict (bA ways)) (.int (t:Int))=some (.int (v:Int)):=by
   show ((bA ways).lookup (t:Int)).map AV.int=_;rw [rP,hv]; rfl
  have hadd:cO .Add (.int (((bA more).lookup ((t+2^c:Nat):Int)).getD 0)) (.int (v:Int))=some (.int (((lkN more (t+2^c)).getD 0+v:Nat):Int)):=by
   rw [dH,rP]
   rcases lkN more (t+2^c) with _ | _ <;> simp
  refine ⟨_,aU ((jE ht).trans ?_),⟨St.set_nb rfl g1,if_pos rfl,St.set_nb rfl g3⟩,fun x h1 h2=>(if_neg h2).trans (g5 x h1)⟩;rw [if_pos rfl];refine aU ((aH6 (by decide) (aC (m:=k+25) (aJe (m:=k+24) rfl rfl (by simp) (aA (m:=k+23) gm rfl) (bC (by exact Nat.succ_ne_zero _) (hkey (k+18) _ _ _ _ _) aF)) (bZ (m:=k+24) (aA (m:=k+23) (aD g1) rfl) (aA (aD g3) rfl) hw) hadd) (hkey (k+21) _ _ _ _ _) g2 (by rw [rQ]; exact lit hl rfl)).trans ?_);rw [aJd]
noncomputable def fD (v t:Nat):List Nat->DN->DN
 | [],more=>more
 | c::r,more=>fD v t r (oE v t more c)
theorem zP:∀(v t:Nat)(x:DN)(c:Nat)(r:List Nat),fD v t (c::r) x=fD v t r (oE v t x c):=fun _ _ _ _ _=>rfl
theorem kG (v t:Nat):∀(cs:List Nat)(more:DN),(fD v t cs more).length<=more.length+cs.length
 | [],_=>Nat.le_refl _
 | c::r,more=>by
  have h1:=kG v t r (oE v t more c);have h2:=uO v t more c;rw [zP,List.length_cons]; lia
theorem uP {ways:DN}{t v:Nat}
  (hG:∀ρ more (c:Nat),aKr ρ ways more t->c<=60->more.length<=1000000->∃ρ',G (.int (c:Int)) ρ=some (.next,ρ')/\aKr ρ' ways (oE v t more c) t/\∀x,x≠ofString "column"->x≠ofString "more"->ρ' x=ρ x):
  ∀(cs:List Nat)(more:DN)(ρ:St),aKr ρ ways more t->(∀ c∈cs,c<=60)->more.length+cs.length<=1000000->
   ∃ρ',jW G (cs.map fun (i:Nat)=>AV.int (i:Int)) ρ=some (.next,ρ')/\aKr ρ' ways (fD v t cs more) t/\∀x,x≠ofString "column"->x≠ofString "more"->ρ' x=ρ x
 | [],more,ρ,H,_,_=>⟨ρ,rfl,H,fun _ _ _=>rfl⟩
 | c::r,more,ρ,H,hc,hl=>by
  simp only [List.length_cons] at hl;obtain ⟨ρ1,e1,H1,k1⟩:=hG ρ more c H (hc c (List.mem_cons_self ..)) (by exact aL1 hl);have h2:=uO v t more c;obtain ⟨ρ2,e2,H2,k2⟩:=uP hG r _ ρ1 H1 (fun d hd=>hc d (List.mem_cons_of_mem _ hd)) (by lia);exact ⟨ρ2,by exact (aX e1).trans e2,H2,fun x h1 h2=>(k2 x h1 h2).trans (k1 x h1 h2)⟩
noncomputable def gN (ways:DN)(sq:Nat):DN->DN->DN
 | [],more=>more
 | p::r,more=>gN ways sq r (fD ((lkN ways p.1).getD 0) p.1 (List.range sq) more)
theorem oF:∀(ways:DN)(sq:Nat)(x:DN)(p:Nat × Nat)(r:List (Nat × Nat)),gN ways sq (p::r) x=gN ways sq r (fD (Option.getD (lkN ways (Prod.fst p)) 0) (Prod.fst p) (List.range sq) x):=fun _ _ _ _ _=>rfl
theorem oG (ways:DN)(sq:Nat):∀(l more:DN),(gN ways sq l more).length<=more.length+l.length*sq
 | [],_=>Nat.le_add_right _ _
 | p::r,more=>by
  have h1:=oG ways sq r (fD ((lkN ways p.1).getD 0) p.1 (List.range sq) more);have h2:=kG ((lkN ways p.1).getD 0) p.1 (List.range sq) more;rw [List.length_range] at h2;rw [oF,List.length_cons,Nat.succ_mul]; lia
structure aJf (ρ:St)(ways more:DN)(sq:Nat):Prop where
 w:ρ "ways"=some (.val (.dict (bA ways)))
 m:ρ "more"=some (.own (.dict (bA more)))
 s:ρ "squares"=some (.val (.int (sq:Int)))
theorem aCa {ways more:DN}{sq t v:Nat}{lb:List Stmt}(H:aJf ρ ways more sq)(hv:lkN ways t=some v)(hsq:sq<=60)(hl:more.length+sq<=1000000)(kr:sc.names.lookup (ofString "range")=some NameKind.globalImplicit)(kc:bJ sc "column"=true)
  (hG:∀ρ more (c:Nat),aKr ρ ways more t->c<=60->more.length<=1000000->∃ρ',exB cf [ofString "more",ofString "told"] (k+30) sc (ρ.set "column" (.val (.int (c:Int)))) lb=some (.next,ρ')/\aKr ρ' ways (oE v t more c) t/\∀x,x≠ofString "column"->x≠ofString "more"->ρ' x=ρ x):
  ∃ρ',exB cf [ofString "more",ofString "told"] (k+32) sc (ρ.set "taken" (.val (.int (t:Int)))) [Stmt.For (Name "column" p14) ((Name "range" p15).Call [Name "squares" p16] [] p17) lb [] p48]=some (.next,ρ')/\aJf ρ' ways (fD v t (List.range sq) more) sq/\∀x,x≠ofString "column"->x≠ofString "more"->x≠ofString "taken"->ρ' x=ρ x:=by
 have g1:ρ.set "taken" (.val (.int (t:Int))) (ofString "ways")=_:=St.set_nb rfl H.w;have g2:ρ.set "taken" (.val (.int (t:Int))) (ofString "more")=_:=St.set_nb rfl H.m;have g3:ρ.set "taken" (.val (.int (t:Int))) (ofString "squares")=_:=St.set_nb rfl H.s;have g4:ρ.set "taken" (.val (.int (t:Int))) (ofString "taken")=some (.val (.int (t:Int))):=if_pos rfl;have g5:∀x,x≠ofString "taken"->ρ.set "taken" (.val (.int (t:Int))) x=ρ x:=fun x hx=>if_neg hx
 generalize ρ.set "taken" (.val (.int (t:Int)))=ρ1 at g1 g2 g3 g4 g5;obtain ⟨ρ2,e2,H2,k2⟩:=uP (G:=fun a ρ=>exB cf [ofString "more",ofString "told"] (k+30) sc (ρ.set "column" (.val a)) lb) hG (List.range sq) more ρ1 ⟨g1,g2,g4⟩ (fun c hc=>by have:=List.mem_range.mp hc;exact Nat.le_of_lt (Nat.lt_of_lt_of_le this hsq)) (by rw [List.length_range]; exact hl);refine ⟨ρ2,aU (cQ kc (bV kr (aG (by exact Nat.succ_ne_zero _) (aA (bN g3) rfl)) (if_pos (aM (by exact ngl rfl) (by lia)))) (cB (by exact lit (aL2 hl) rfl)) e2),⟨H2.w,H2.m,(k2 _ (by decide) (by decide)).trans g3⟩,fun x h1 h2 h3=>(k2 x h1 h2).trans (g5 x h3)⟩
theorem pY {ways:DN}{sq:Nat}(hsq:sq<=60)
  (hG:∀ρ more (t v:Nat),aJf ρ ways more sq->lkN ways t=some v->more.length+sq<=1000000->∃ρ',G (.int (t:Int)) ρ=some (.next,ρ')/\aJf ρ' ways (fD v t (List.range sq) more) sq/\∀x,x≠ofString "column"->x≠ofString "more"->x≠ofString "taken"->ρ' x=ρ x):
  ∀(l more:DN)(ρ:St),aJf ρ ways more sq->(∀ p∈l,∃v,lkN ways p.1=some v)->more.length+l.length*sq<=1000000->
   ∃ρ',jW G ((bA l).map fun p=>AV.int p.1) ρ=some (.next,ρ')/\aJf ρ' ways (gN ways sq l more) sq/\∀x,x≠ofString "column"->x≠ofString "more"->x≠ofString "taken"->ρ' x=ρ x
 | [],more,ρ,H,_,_=>⟨ρ,rfl,H,fun _ _ _ _=>rfl⟩
 | p::r,more,ρ,H,hp,hl=>by
  rw [List.length_cons,Nat.succ_mul] at hl;obtain ⟨v,hv⟩:=hp p (List.mem_cons_self ..);obtain ⟨ρ1,e1,H1,k1⟩:=hG ρ more p.1 v H hv (by lia);have h2:=kG v p.1 (List.range sq) more;rw [List.length_range] at h2;obtain ⟨ρ2,e2,H2,k2⟩:=pY hsq hG r _ ρ1 H1 (fun d hd=>hp d (List.mem_cons_of_mem _ hd)) (by lia);refine ⟨ρ2,?_,?_,fun x h1 h2 h3=>(k2 x h1 h2 h3).trans (k1 x h1 h2 h3)⟩
  ·show jW G (AV.int (p.1:Int)::(bA r).map fun p=>AV.int p.1) ρ=_;exact (aX e1).trans e2
  ·rw [oF,hv]; exact H2
theorem aF5:∀(l:DN)(p:Nat × Nat),p∈l->∃v,lkN l p.1=some v
 | a::r,p,h=>by
  rw [aF4]
  cases e:Nat.beq a.1 p.1 with
  | true=>exact ⟨_,rfl⟩
  | false=>
   rcases List.mem_cons.mp h with rfl | h
   ·rw [Nat.beq_refl] at e;exact no4 e
   ·exact aF5 r p h
noncomputable def jQ (ways:DN)(sq:Nat):DN:=gN ways sq ways ways
noncomputable def jR:List Nat->DN->DN
 | [],w=>w
 | b::r,w=>jR r (jQ w b)
theorem aJg:∀(x:DN)(c:Nat)(r:List Nat),jR (c::r) x=jR r (jQ x c):=fun _ _ _=>rfl
theorem aF6 {ways:DN}{sq:Nat}{tb:List Stmt}(Hw:ρ "ways"=some (.val (.dict (bA ways))))(hsq:sq<=60)(hl:ways.length+ways.length*sq<=1000000)
  (k1:bJ sc "more"=true) (k2:bJ sc "taken"=true) (k3:bJ sc "ways"=true) (kd:sc.names.lookup (ofString "dict")=some NameKind.globalImplicit)
  (hG:∀ρ more (t v:Nat),aJf ρ ways more sq->lkN ways t=some v->more.length+sq<=1000000->∃ρ',exB cf [ofString "more",ofString "told"] (k+32) sc (ρ.set "taken" (.val (.int (t:Int)))) tb=some (.next,ρ')/\aJf ρ' ways (fD v t (List.range sq) more) sq/\∀x,x≠ofString "column"->x≠ofString "more"->x≠ofString "taken"->ρ' x=ρ x):
  ∃ρ',exB cf [ofString "more",ofString "told"] (k+35) sc (ρ.set "squares" (.val (.int (sq:Int)))) [Stmt.Assign [Name "more" p7] ((Name "dict" p8).Call [Name "ways" p9] [] p10) p11,
    Stmt.For (Name "taken" p12) (Name "ways" p13) tb [] p48,Stmt.Assign [Name "ways" p49] (Name "more" p50) p51]=some (.next,ρ')/\ρ' (ofString "ways")=some (.val (.dict (bA (jQ ways sq))))/\∀x,x≠ofString "column"->x≠ofString "more"->x≠ofString "taken"->x≠ofString "squares"->x≠ofString "ways"->ρ' x=ρ x:=by
 have g1:ρ.set "squares" (.val (.int (sq:Int))) (ofString "ways")=_:=St.set_nb rfl Hw;have g2:ρ.set "squares" (.val (.int (sq:Int))) (ofString "squares")=some (.val (.int (sq:Int))):=if_pos rfl;have g5:∀x,x≠ofString "squares"->ρ.set "squares" (.val (.int (sq:Int))) x=ρ x:=fun x hx=>if_neg hx
 generalize ρ.set "squares" (.val (.int (sq:Int)))=ρ1 at g1 g2 g5;have hle:(bA ways).length<=1048576:=by rw [rQ]; exact lit (aL1 hl) rfl
 have s1:exS cf [ofString "more",ofString "told"] (k+34) sc ρ1 (Stmt.Assign [Name "more" p7] ((Name "dict" p8).Call [Name "ways" p9] [] p10) p11)=some (.next,ρ1.set "more" (.own (.dict (bA ways)))):=by
  exact aH4 k1 rfl (aQ2 kd rfl (aG (Nat.succ_ne_zero _) (aA (aD g1) rfl)) rfl (if_pos hle)) rfl
 have F1:aJf (ρ1.set "more" (.own (.dict (bA ways)))) ways ways sq:=⟨St.set_nb rfl g1,if_pos rfl,St.set_nb rfl g2⟩;have g6:∀x,x≠ofString "more"->ρ1.set "more" (.own (.dict (bA ways))) x=ρ1 x:=fun x hx=>if_neg hx
 generalize ρ1.set "more" (.own (.dict (bA ways)))=ρ2 at s1 F1 g6;obtain ⟨ρ3,e3,H3,k3'⟩:=pY (G:=fun a ρ=>exB cf [ofString "more",ofString "told"] (k+32) sc (ρ.set "taken" (.val a)) tb) hsq hG ways ways ρ2 F1 (fun p hp=>aF5 ways p hp) hl;have hit:bL (.dict (bA ways))=some ((bA ways).map fun p=>AV.int p.1):=if_pos hle;have s3:exS cf [ofString "more",ofString "told"] (k+32) sc ρ3 (Stmt.Assign [Name "ways" p49] (Name "more" p50) p51)=some (.next,(ρ3.del "more").set "ways" (.val (.dict (bA (jQ ways sq))))):=by
  exact aH5 k3 (by decide) H3.m
 refine ⟨(ρ3.del "more").set "ways" (.val (.dict (bA (jQ ways sq)))),(aE s1).trans ((aE (ρ':=ρ3) (cQ k2 (aA (bN F1.w) rfl) hit e3)).trans (aU s3)),if_pos rfl,fun x h1 h2 h3 h4 h5=> ?_⟩;refine (if_neg h5).trans ((if_neg h2).trans ?_);exact (k3' x h1 h2 h3).trans ((g6 x h2).trans (g5 x h4))
theorem pZ (hG:∀ρ ways (sq:Nat),ρ "ways"=some (.val (.dict (bA ways)))->sq<=60->ways.length+ways.length*sq<=1000000->∃ρ',G (.int (sq:Int)) ρ=some (.next,ρ')/\ρ' (ofString "ways")=some (.val (.dict (bA (jQ ways sq))))/\∀x,x≠ofString "column"->x≠ofString "more"->x≠ofString "taken"->x≠ofString "squares"->x≠ofString "ways"->ρ' x=ρ x):
  ∀(bs:List Nat)(i:Nat)(ways:DN)(ρ:St),ρ "ways"=some (.val (.dict (bA ways)))->(∀ b∈bs,b<=6)->ways.length<=7^i->i+bs.length<=6->
   ∃ρ',jW G (bs.map fun (i:Nat)=>AV.int (i:Int)) ρ=some (.next,ρ')/\ρ' (ofString "ways")=some (.val (.dict (bA (jR bs ways))))/\(∀ x,x≠ofString "column"->x≠ofString "more"->x≠ofString "taken"->x≠ofString "squares"->x≠ofString "ways"->ρ' x=ρ x)/\(jR bs ways).length<=7^(i+bs.length)
 | [],i,ways,ρ,H,_,hl,_=>⟨ρ,rfl,H,fun _ _ _ _ _ _=>rfl,hl⟩
 | b::r,i,ways,ρ,H,hb,hl,hi=>by
  simp only [List.length_cons] at hi;have hb0:=hb b (List.mem_cons_self ..);have h7:(7:Nat)^i<=7^5:=Nat.pow_le_pow_right (by decide) (by lia);have hw:ways.length*b<=ways.length*6:=Nat.mul_le_mul_left _ hb0;have h75:(7:Nat)^5=16807:=by decide
  obtain ⟨ρ1,e1,H1,k1⟩:=hG ρ ways b H (by exact lit hb0 rfl) (by lia);have hlen:(jQ ways b).length<=7^(i+1):=by
   have:=oG ways b ways ways;rw [Nat.pow_succ];unfold jQ
   lia
  obtain ⟨ρ2,e2,H2,k2,l2⟩:=pZ hG r (i+1) _ ρ1 H1 (fun d hd=>hb d (List.mem_cons_of_mem _ hd)) hlen (by exact sal hi);exact ⟨ρ2,by exact (aX e1).trans e2,H2,fun x h1 h2 h3 h4 h5=>(k2 x h1 h2 h3 h4 h5).trans (k1 x h1 h2 h3 h4 h5),by rw [List.length_cons,show i+(r.length+1)=i+1+r.length by exact (Nat.succ_add _ _).symm]; exact l2⟩
noncomputable def iU (t:Nat):Nat:=((List.range 6).map fun c=>t/2^c%2).sum
noncomputable def aCb (ways:DN):DN->List Nat->Option (List Nat)
 | [],told=>some told
 | p::r,told=>match Nat.blt (iU p.1) told.length with
  | true=>aCb ways r (told.set (iU p.1) (told.getD (iU p.1) 0+(lkN ways p.1).getD 0))
  | false=>none
theorem aF7:∀(ways:DN)(x:List Nat)(p:Nat × Nat)(r:List (Nat × Nat)),aCb ways (p::r) x=match Nat.blt (iU (Prod.fst p)) (List.length x) with | true=>aCb ways r (List.set x (iU (Prod.fst p)) (List.getD x (iU (Prod.fst p)) 0+Option.getD (lkN ways (Prod.fst p)) 0)) | false=>none:=fun _ _ _ _=>rfl
noncomputable abbrev aH (l:List Nat):List AV:=l.map fun (i:Nat)=>AV.int (i:Int)
theorem aCc {t c:Nat}(hc:c<=60):cO .RShift (.int (t:Int)) (.int (c:Int))=some (.int ((t/2^c:Nat):Int)):=by
 show (if (0:Int)<=(t:Int)/\(0:Int)<=(c:Int)/\(c:Int)<=64 then some (AV.int ((t:Int)/2^(c:Int).toNat)) else none)=_;rw [if_pos ⟨by exact Int.natCast_nonneg _,by exact Int.natCast_nonneg _,by exact aCq hc rfl⟩,Int.toNat_natCast]
 push_cast;rfl
theorem aM0 {a:Nat}:cO .BitAnd (.int (a:Int)) (.int 1)=some (.int ((a%2:Nat):Int)):=by
 show (if (1:Int)=1 then some (AV.int ((a:Int)%2)) else none)=_;rw [if_pos rfl]
 push_cast;rfl
theorem zQ (l:List Nat):aI "sum" [.list (aH l)]=some (.int (l.sum:Nat)):=by
 have h1:aH l=(l.map fun (i:Nat)=>(i:Int)).map AV.int:=by rw [List.map_map]; rfl
 have h2:(l.map fun (i:Nat)=>(i:Int)).sum=((l.sum:Nat):Int):=by
  induction l with
  | nil=>rfl
  | cons a r ih=>rw [List.map_cons,List.sum_cons,List.sum_cons,ih (by rw [List.map_map]; rfl)]; push_cast;rfl
 rw [h1,zH,h2]
theorem zR {a:Int}(ha:aQ a=true):lY [.int a]=some (.range 0 a 1):=if_pos ha
structure aM1 (ρ:St)(ways:DN)(told:List Nat):Prop where
 w:ρ "ways"=some (.val (.dict (bA ways)))
 d:ρ "told"=some (.own (.list (aH told)))
theorem aF8 {ways:DN}{told:List Nat}{t v:Nat}(H:aM1 ρ ways told)(hv:lkN ways t=some v)(hp:iU t<told.length)(hl:told.length<=1000):
  ∃ρ',exB cf [ofString "more",ofString "told"] (k+30) aO.sc (ρ.set "taken" (.val (.int (t:Int)))) (lb aO 3)=some (.next,ρ')/\aM1 ρ' ways (told.set (iU t) (told.getD (iU t) 0+v)):=by
 have g1:ρ.set "taken" (.val (.int (t:Int))) (ofString "ways")=_:=St.set_nb rfl H.w;have g2:ρ.set "taken" (.val (.int (t:Int))) (ofString "told")=_:=St.set_nb rfl H.d;have g3:ρ.set "taken" (.val (.int (t:Int))) (ofString "taken")=some (.val (.int (t:Int))):=if_pos rfl;generalize ρ.set "taken" (.val (.int (t:Int)))=ρ1 at g1 g2 g3;have hcl:cP aO.sc ρ1.all (aId (pP (nth (lb aO 3) 0)))=true:=by
  unfold cP;rw [List.all_eq_true];intro y hy;have:y∈[(ofString ".0",NameKind.local),(ofString "column",NameKind.local),(ofString "taken",NameKind.free)]:=hy;simp only [List.mem_cons,List.not_mem_nil,or_false] at this;have c1:=aD g3
  rcases this with rfl | rfl | rfl
  ·rfl
  ·rfl
  ·rw [c1]; rfl
 have hsum:evE cf (k+28) aO.sc ρ1.all (tF (nth (lb aO 3) 0))=some (.int (iU t:Int)):=by
  refine cJ rfl rfl (aG (by exact Nat.succ_ne_zero _) ?_) (zQ _);refine (eE (xv:= .range 0 6 1) (l:=List.range 6) (f:=fun (i:Nat)=>AV.int (i:Int)) (fun i=> .int ((t/2^i%2:Nat):Int)) (by exact Nat.succ_ne_zero _) (by kernel_rfl) hcl ?_ (cB (n:=6) (by exact Nat.le_add_left _ _)) (by simp) fun c hc=> ?_).trans ?_
  ·exact bV rfl (aG (by exact Nat.succ_ne_zero _) (aF)) (zR (aM (by exact ngl rfl) (by decide)))
  ·have hc:=List.mem_range.mp hc;have c1:=aD g3;refine aC (aC (aA ?_ rfl) (aA ?_ rfl) (aCc (by exact lit (Nat.le_of_lt hc) rfl))) aF aM0
   ·exact (if_neg (by decide)).trans ((if_pos rfl).trans c1)
   ·exact if_pos rfl
  ·unfold aH;rw [List.map_map]; rfl
 have s1:exS cf [ofString "more",ofString "told"] (k+29) aO.sc ρ1 (nth (lb aO 3) 0)=_:=cD rfl rfl hsum rfl;have f1:∀x,x≠ofString "rooks"->ρ1.set "rooks" (.val (.int (iU t:Int))) x=ρ1 x:=fun x hx=>if_neg hx
 have f2:ρ1.set "rooks" (.val (.int (iU t:Int))) (ofString "rooks")=some (.val (.int (iU t:Int))):=if_pos rfl;generalize ρ1.set "rooks" (.val (.int (iU t:Int)))=ρ2 at s1 f1 f2;have e1:=(f1 _ (by decide)).trans g1;have e2:=(f1 _ (by decide)).trans g2;have e3:=(f1 _ (by decide)).trans g3;have a2:ρ2.all "told"=some (.list (aH told)):=by exact tD e2
 have q1:lX (.list (aH told)) (.int (iU t:Int))=some (.int (told[iU t]:Int)):=by
  refine (dS (by rw [List.length_map]; exact lit hl rfl) (by rw [List.length_map]; exact hp)).trans ?_;rw [List.getElem_map]
 have q2:lX (.dict (bA ways)) (.int (t:Int))=some (.int (v:Int)):=by
  show ((bA ways).lookup (t:Int)).map AV.int=_;rw [rP,hv]; rfl
 have q3:lZ (aH told).length (iU t:Int)=some (iU t):=by
  unfold lZ;rw [if_pos (by exact Int.natCast_nonneg _),if_pos (by rw [List.length_map]; lia),Int.toNat_natCast]
 refine ⟨_,(aE s1).trans (aU (lG (by decide) (aC (bZ (aA a2 rfl) (aA (aD f2) rfl) q1) (bZ (aA (aD e1) rfl) (aA (aD e3) rfl) q2) (dH _ _)) (aA (aD f2) rfl) e2 q3 rfl (by rw [List.length_map]; exact lit hl rfl))),⟨St.set_nb rfl e1,(if_pos rfl).trans ?_⟩⟩;have e4:told.getD (iU t) 0=told[iU t]:=by rw [List.getD_eq_getElem?_getD,List.getElem?_eq_getElem hp]; rfl
 rw [e4]
 congr 3
 unfold aH;rw [List.map_set]
 push_cast
 rfl
theorem uQ {ways:DN}(hG:∀ρ told (t v:Nat),aM1 ρ ways told->lkN ways t=some v->iU t<told.length->told.length<=1000->∃ρ',G (.int (t:Int)) ρ=some (.next,ρ')/\aM1 ρ' ways (told.set (iU t) (told.getD (iU t) 0+v))):
  ∀(l:DN)(told r:List Nat)(ρ:St),aM1 ρ ways told->(∀ p∈l,∃v,lkN ways p.1=some v)->told.length<=1000->aCb ways l told=some r->∃ρ',jW G ((bA l).map fun p=>AV.int p.1) ρ=some (.next,ρ')/\aM1 ρ' ways r
 | [],told,r,ρ,H,_,_,h=>by (replace h:=Option.some.inj h;subst h); exact ⟨ρ,rfl,H⟩
 | p::l,told,r,ρ,H,hp,hl,h=>by
  rw [aF7] at h
  split at h
  ·rename_i q;obtain ⟨v,hv⟩:=hp p (List.mem_cons_self ..);obtain ⟨ρ1,e1,H1⟩:=hG ρ told p.1 v H hv (by have:=Nat.le_of_ble_eq_true q;exact this) hl;rw [hv] at h;obtain ⟨ρ2,e2,H2⟩:=uQ hG l _ r ρ1 H1 (fun q hq=>hp q (List.mem_cons_of_mem _ hq)) (by rw [List.length_set]; exact hl) h;refine ⟨ρ2,?_,H2⟩;show jW G (AV.int (p.1:Int)::(bA l).map fun p=>AV.int p.1) ρ=_;exact (aX e1).trans e2
  ·exact no1 h
noncomputable def kW (board:List Nat):Option (List Nat):=aCb (jR board [(0,1)]) (jR board [(0,1)]) (List.replicate (board.length+1) 0)
theorem aF9 (cf:CallF){board told:List Nat}(hb:∀b∈board,b<=6)(hl:board.length<=5)(h:kW board=some told):aZ cf 100 aO [.list (aH board)]=some (.list (aH told)):=by
 unfold aZ;rw [if_pos (show aO.ps.length=[AV.list (aH board)].length from rfl)];have h0:(bD aO.ps [.list (aH board)]) (ofString "board")=some (.val (.list (aH board))):=rfl;generalize bD aO.ps [.list (aH board)]=ρ0 at h0;have s1:∀p0 p1 p2 p3 p4,exS cf aO.mu 99 aO.sc ρ0 (Stmt.Assign [Name "ways" p0] (Expr.Dict [some (Constant (.int 0) 0 p1)] [Constant (.int 1) 0 p2] p3) p4)=some (.next,ρ0.set "ways" (.val (.dict (bA [(0,1)])))):=fun p0 p1 p2 p3 p4=>rfl
 have w1:ρ0.set "ways" (.val (.dict (bA [(0,1)]))) (ofString "ways")=some (.val (.dict (bA [(0,1)]))):=if_pos rfl;have b1:ρ0.set "ways" (.val (.dict (bA [(0,1)]))) (ofString "board")=some (.val (.list (aH board))):=St.set_nb rfl h0;generalize ρ0.set "ways" (.val (.dict (bA [(0,1)])))=ρ1 at s1 w1 b1;obtain ⟨ρ2,e2,H2,k2,l2⟩:=pZ (G:=fun a ρ=>exB cf [ofString "more",ofString "told"] 97 aO.sc (ρ.set "squares" (.val a)) (lb aO 1)) (fun ρ ways sq hw hsq hlen=>aF6 (k:=62) hw hsq hlen rfl rfl rfl rfl fun ρ more t v H hv hl=>aCa (k:=62) H hv hsq hl rfl rfl fun ρ more c H hc hl=>aB9 (k:=62) H hv hc hl) board 0 [(0,1)] ρ1 w1 hb (by decide) (by lia);generalize hW:jR board [(0,1)]=W at H2 l2;have hWl:W.length<=16807:=by
  have:(7:Nat)^(0+board.length)<=7^5:=Nat.pow_le_pow_right (by decide) (by exact Nat.add_le_add_left hl _);have h75:(7:Nat)^5=16807:=by decide
  exact Nat.le_trans l2 this
 have b2:=(k2 (ofString "board") (by decide) (by decide) (by decide) (by decide) (by decide)).trans b1;have s3:exS cf aO.mu 97 aO.sc ρ2 (nth aO.body 2)=some (.next,ρ2.set "told" (.own (.list (aH (List.replicate (board.length+1) 0))))):=by
  have bl:=dE (l:=aH board) (by rw [List.length_map]; exact lit hl rfl);rw [List.length_map] at bl;have hv:evE cf 96 aO.sc ρ2.all (tF (nth aO.body 2))=some (.list (aH (List.replicate (board.length+1) 0))):=by
   refine aC (m:=95) (a:= .list [.int 0]) (b:= .int ((board.length:Int)+1)) (by rfl) (aC (m:=94) (cJ (k:=93) rfl rfl (aG (m:=92) (by decide) (aA (m:=91) (aD b2) rfl)) bl) aF (dH _ _)) ?_;show (if (0:Int)<=(board.length:Int)+1/\(board.length:Int)+1<=1000/\([AV.int 0]:List AV).length<=1000 then some (AV.list (List.replicate ((board.length:Int)+1).toNat [AV.int 0]).flatten) else none)=_;rw [if_pos ⟨by exact Int.natCast_nonneg _,by exact aRo hl rfl,by decide⟩,show ((board.length:Int)+1).toNat=board.length+1 by exact Nat.add_zero _]
   congr 2
   unfold aH;rw [List.map_replicate];generalize board.length+1=n
   induction n with
   | zero=>rfl
   | succ n ih=>rw [List.replicate_succ,List.replicate_succ,List.flatten_cons,ih]; rfl
  have hfl:eM (aH (List.replicate (board.length+1) 0))=true:=by
   have:aH (List.replicate (board.length+1) 0)=((List.replicate (board.length+1) 0).map fun (i:Nat)=>(i:Int)).map AV.int:=by rw [List.map_map]; rfl
   rw [this]; exact eZ _
  exact aD3 rfl rfl hv rfl hfl
 have F3:aM1 (ρ2.set "told" (.own (.list (aH (List.replicate (board.length+1) 0))))) W (List.replicate (board.length+1) 0):=⟨St.set_nb rfl H2,if_pos rfl⟩;generalize ρ2.set "told" (.own (.list (aH (List.replicate (board.length+1) 0))))=ρ3 at s3 F3;unfold kW at h;rw [hW] at h;obtain ⟨ρ4,e4,H4⟩:=uQ (G:=fun a ρ=>exB cf [ofString "more",ofString "told"] 95 aO.sc (ρ.set "taken" (.val a)) (lb aO 3)) (fun ρ told t v H hv hp hl=>aF8 (k:=65) H hv hp hl) W (List.replicate (board.length+1) 0) told ρ3 F3 (fun p hp=>aF5 W p hp) (by rw [List.length_replicate]; exact sll hl rfl) h;have hit:bL (.dict (bA W))=some ((bA W).map fun p=>AV.int p.1):=if_pos (by rw [rQ]; exact lit hWl rfl);have key:exB cf aO.mu 100 aO.sc ρ0 aO.body=some (.ret (.list (aH told)),ρ4):=by
  refine (aE (k:=99) (ρ':=ρ1) (s1 _ _ _ _ _)).trans ?_;refine (aE (k:=98) (ρ':=ρ2) (cQ (k:=97) (xv:= .list (aH board)) (by rfl) (aA (m:=96) (bN b1) rfl) rfl e2)).trans ?_;refine (aE (k:=97) (ρ':=ρ3) s3).trans ?_;refine (aE (k:=96) (ρ':=ρ4) (cQ (k:=95) (xv:= .dict (bA W)) (by rfl) (aA (m:=94) (bN F3.w) rfl) hit e4)).trans ?_;have c1:ρ4.all "told"=some (.list (aH told)):=by unfold St.all;rw [H4.d]; rfl
  exact dD (m:=94) (aA c1 rfl)
 rw [key]
end Mine.Pl
section
open Builtin Builtin.Str
namespace Mine.Pl
noncomputable def rp (y z:List Nat):List Nat->Nat->List Nat
 | [],_=>[]
 | _::r,s+1=>rp y z r s
 | c::r,0=>match y.isPrefixOf (c::r) with
  | true=>z++rp y z r (y.length- 1)
  | false=>c::rp y z r 0
theorem aR2 (y z:List Nat)(c:Nat)(r:List Nat):rp y z (c::r) 0=match y.isPrefixOf (c::r) with
  | true=>z++rp y z r (y.length- 1)
  | false=>c::rp y z r 0:=rfl
theorem aGa (y z:List Nat):∀(l:List Nat)(s:Nat),rp y z l s=rp y z (l.drop s) 0
 | [],s=>by rw [List.drop_nil]; rfl
 | c::r,0=>rfl
 | c::r,s+1=>aGa y z r s
theorem aGb {y z l:List Nat}(hy:y≠[])(h:y.isPrefixOf l=true):rp y z l 0=z++rp y z (l.drop y.length) 0:=by
 cases l with
 | nil=>cases y with
  | nil=>exact absurd rfl hy
  | cons a t=>exact no3 h
 | cons c r=>
  rw [aR2,h];show z++rp y z r (y.length- 1)=_;rw [aGa]
  rcases y with _ | ⟨a,t⟩
  ·exact absurd rfl hy
  ·rfl
theorem xB {y z:List Nat}{c:Nat}{r:List Nat}(h:y.isPrefixOf (c::r)=false):rp y z (c::r) 0=c::rp y z r 0:=by rw [aR2,h]
theorem aGc (x y:Str)(k:Nat)(hk:1<=y.length):StrLaws.At x y x.length k↔y.cps.toList.isPrefixOf (x.cps.toList.drop k)=true:=by
 unfold StrLaws.At;rw [StrLaws.subAt_eq,List.isPrefixOf_iff_prefix,List.prefix_iff_eq_take,beq_iff_eq];have e1:y.cps.toList.length=y.length:=by simp [Str.length]
 have e2:x.cps.toList.length=x.length:=by simp [Str.length]
 rw [e1]
 constructor
 ·rintro ⟨_,h⟩; exact h.symm
 ·intro h;refine ⟨?_,h.symm⟩;have:=congrArg List.length h;rw [e1,List.length_take,List.length_drop,e2] at this
  lia
theorem aGd {y z:List Nat}(L:List Nat):∀(m a:Nat),a+m<=L.length->(∀ k,a<=k->k<a+m->y.isPrefixOf (L.drop k)=false)->rp y z (L.drop a) 0=(L.drop a).take m++rp y z (L.drop (a+m)) 0
 | 0,a,_,_=>by simp
 | m+1,a,h,hn=>by
  have ha:a<L.length:=by exact bsl h
  have h0:=hn a (Nat.le_refl _) (by exact Nat.lt_succ_of_le (Nat.le_add_right _ _));rw [List.drop_eq_getElem_cons ha] at h0 ⊢;rw [xB h0,aGd L m (a+1) (by exact sal h) fun k h1 h2=>hn k (by exact Nat.le_of_lt h1) (by lia),List.take_succ_cons,List.cons_append,show a+1+m=a+(m+1) by exact Nat.succ_add _ _]
theorem zS (x y:Str)(z:Str)(hy:1<=y.length):∀(cuts:List Nat)(a f:Nat),a<=x.length->StrLaws.ChainG x y x.length a cuts f->(∀ k,f<=k->¬StrLaws.At x y x.length k)->(Str.join z (StrLaws.partsFrom x y.length a cuts)).cps.toList=rp y.cps.toList z.cps.toList (x.cps.toList.drop a) 0
 | [],a,f,ha,h,hn=>by
  have hf:f=a:=h;subst hf;have e2:x.cps.toList.length=x.length:=by simp [Str.length]
  show (strSub x f x.length).cps.toList=_;rw [StrLaws.strSub_toList,aGd x.cps.toList (x.length- f) f (by lia) fun k h1 _=> ?_]
  ·rw [show f+(x.length- f)=x.length by exact Nat.add_sub_cancel' ha,List.drop_eq_nil_of_le (Nat.le_of_eq e2),List.take_of_length_le (by rw [List.length_drop]; lia)];exact (List.append_nil _).symm
  ·have:=hn k h1;rw [aGc x y k hy] at this;exact (Bool.not_eq_true _▸this)
 | c::r,a,f,ha,h,hn=>by
  obtain ⟨h1,h2,h3,h4⟩:=h;obtain ⟨p,q,e⟩:=StrLaws.partsFrom_ne x y.length (c+y.length) r;have hc:=h2.1;have ih:=zS x y z hy r (c+y.length) f (by exact hc) h4 hn;have e2:x.cps.toList.length=x.length:=by simp [Str.length]
  show (Str.join z (strSub x a c::StrLaws.partsFrom x y.length (c+y.length) r)).cps.toList=_;rw [e] at ih ⊢;show ((strSub x a c++z++Str.join z (p::q)):Str).cps.toList=_;have hpre:=(aGc x y c hy).mp h2;have hno:∀k,a<=k->k<a+(c- a)->y.cps.toList.isPrefixOf (x.cps.toList.drop k)=false:=fun k q1 q2=>by
   have:=h3 k q1 (by lia);rw [aGc x y k hy] at this;exact (Bool.not_eq_true _▸this)
  have hy0:y.cps.toList≠[]:=fun q=>by
   have e1:y.cps.toList.length=y.length:=by simp [Str.length]
   rw [q] at e1;simp at e1;lia
  rw [aGd x.cps.toList (c- a) a (by lia) hno,show a+(c- a)=c by exact Nat.add_sub_cancel' h1,aGb hy0 hpre,List.drop_drop];simp only [Str.cps_append,Array.toList_append,StrLaws.strSub_toList];rw [ih,List.append_assoc];have e1:y.cps.toList.length=y.length:=by simp [Str.length]
  rw [e1]
theorem kH (x y z:Str)(hy:1<=y.length):(Txt.replace x y z).cps.toList=rp y.cps.toList z.cps.toList x.cps.toList 0:=by
 obtain ⟨f,h1,h2⟩:=StrLaws.occ_tight x y hy;have key:=zS x y z hy _ 0 f (Nat.zero_le _) h1 h2;rw [List.drop_zero] at key;unfold Txt.replace;have h10:(y.length==0)=false:=by rw [beq_eq_false_iff_ne]; exact Nat.ne_of_gt hy
 rw [h10,Bool.false_and,Bool.or_false]
 rcases he:(occurrences x y 0 x.length (x.length+1)).isEmpty with _ | _
 ·rw [if_neg Bool.false_ne_true,StrLaws.glued_eq_join,StrLaws.partsBetween_eq]; exact key
 ·rw [if_pos rfl,<-key];have:occurrences x y 0 x.length (x.length+1)=[]:=List.isEmpty_iff.mp he;rw [this];show _=(strSub x 0 x.length).cps.toList;rw [StrLaws.sub_whole]
noncomputable def cV:List Nat->List Nat
 | []=>[]
 | a::r=>List.replicate a 32++9::cV r
theorem rR:∀(c:Nat)(r:List Nat),cV (c::r)=List.replicate c 32++9::cV r:=fun _ _=>rfl
noncomputable def kX:List Nat->List Nat
 | []=>[]
 | a::r=>List.replicate a 46++9::kX r
theorem rS:∀(c:Nat)(r:List Nat),kX (c::r)=List.replicate c 46++9::kX r:=fun _ _=>rfl
theorem aR3:∀(n:Nat)(t:List Nat),rp [13,10] [9] (List.replicate n 46++t) 0=List.replicate n 46++rp [13,10] [9] t 0
 | 0,_=>rfl
 | n+1,t=>by rw [List.replicate_succ,List.cons_append,xB rfl,aR3 n t]; rfl
theorem aR4:∀(n:Nat)(t:List Nat),rp [46] [32] (List.replicate n 46++t) 0=List.replicate n 32++rp [46] [32] t 0
 | 0,_=>rfl
 | n+1,t=>by
  rw [List.replicate_succ,List.cons_append,aGb (by simp) rfl];show 32::rp [46] [32] (List.replicate n 46++t) 0=_;rw [aR4 n t]; rfl
theorem xC:∀l:List Nat,rp [13,10] [9] (dG l) 0=kX l
 | []=>rfl
 | a::l=>by rw [kT,aR3,aGb (by simp) rfl,rS,<-xC l]; rfl
theorem aGe:∀l:List Nat,rp [46] [32] (kX l) 0=cV l
 | []=>rfl
 | a::l=>by rw [rS,aR4,xB rfl,aGe l,rR]
theorem aGf (l:List Nat):Txt.replace (Txt.replace (txt (dG l)) (ofString "\r\n") (ofString "\t")) (ofString ".") (ofString " ")=txt (cV l):=by
 have e1:Txt.replace (txt (dG l)) (ofString "\r\n") (ofString "\t")=txt (kX l):=dP ((kH _ _ _ (by decide)).trans (xC l));rw [e1];exact dP ((kH _ _ _ (by decide)).trans (aGe l))
theorem qA:∀(l:List Nat)(B:Nat),(∀ a∈l,a<=B)->(cV l).length<=l.length*(B+1)
 | [],_,_=>Nat.zero_le _
 | a::l,B,h=>by
  have h1:=h a (List.mem_cons_self ..);have h2:=qA l B fun x hx=>h x (List.mem_cons_of_mem _ hx)
  rw [rR,List.length_append,List.length_replicate,List.length_cons,List.length_cons,Nat.succ_mul]
  lia
theorem uR:∀(l:List Nat), ∀c∈cV l,c=32\/c=9
 | a::l,c,h=>by
  rw [rR] at h
  rcases List.mem_append.mp h with h | h
  ·exact .inl (List.mem_replicate.mp h).2
  ·rcases List.mem_cons.mp h with h | h
   ·exact .inr h
   ·exact uR l c h
end Mine.Pl
end
namespace Mine.Pl
noncomputable def aG2:DN->Nat->Nat->DN
 | [],k,v=>[(k,v)]
 | p::r,k,v=>match Nat.beq p.1 k with
  | true=>(p.1,p.2+v)::r
  | false=>p::aG2 r k v
theorem aGg:∀(x x_1:Nat)(p:Nat × Nat)(r:List (Nat × Nat)),aG2 (p::r) x x_1=match Nat.beq (Prod.fst p) x with | true=>(Prod.fst p,Prod.snd p+x_1)::r | false=>p::aG2 r x x_1:=fun _ _ _ _=>rfl
def ND (l:DN):Prop:=(l.map (·.1)).Nodup
theorem xD:∀(l:DN)(k:Nat),aKo l k=true↔k∈l.map (·.1)
 | [],k=>⟨no3,fun h=>nomatch h⟩
 | p::r,k=>by
  rw [aKp]
  cases e:Nat.beq p.1 k with
  | true=>
   have:=Nat.eq_of_beq_eq_true e;simp [this]
  | false=>
   have:¬k=p.1:=fun q=>by rw [q,Nat.beq_refl] at e;exact no4 e
   simp only [List.map_cons,List.mem_cons,this,false_or];exact xD r k
theorem zT:∀(l:DN)(k v:Nat),k∉l.map (·.1)->(l.map fun p=>match Nat.beq p.1 k with | true=>(p.1,v) | false=>p)=l
 | [],_,_,_=>rfl
 | p::r,k,v,h=>by
  simp only [List.map_cons,List.mem_cons,not_or] at h;rw [List.map_cons,zT r k v h.2,fN (fun q=>h.1 q.symm)]
theorem aGh:∀(l:DN)(k:Nat),k∉l.map (·.1)->lkN l k=none
 | [],_,_=>rfl
 | p::r,k,h=>by
  simp only [List.map_cons,List.mem_cons,not_or] at h;rw [aF4,fN (fun q=>h.1 q.symm)];exact aGh r k h.2
theorem rT:∀(l:DN)(k v:Nat),k∉l.map (·.1)->aG2 l k v=l++[(k,v)]
 | [],_,_,_=>rfl
 | p::r,k,v,h=>by
  simp only [List.map_cons,List.mem_cons,not_or] at h;rw [aGg,fN (fun q=>h.1 q.symm)];show p::aG2 r k v=_;rw [rT r k v h.2]; rfl
theorem aM2:∀(l:DN)(k v:Nat),ND l->aKq l k ((lkN l k).getD 0+v)=aG2 l k v:=by
 intro l k v h
 by_cases hk:k∈l.map (·.1)
 ·unfold aKq;rw [(xD l k).mpr hk];show (l.map fun p=>match Nat.beq p.1 k with | true=>(p.1,(lkN l k).getD 0+v) | false=>p)=_
  induction l with
  | nil=>cases hk
  | cons p r ih=>
   unfold ND at h;rw [List.map_cons,List.nodup_cons] at h;rw [List.map_cons,aF4,aGg]
   cases e:Nat.beq p.1 k with
   | true=>
    have e':=Nat.eq_of_beq_eq_true e;show (p.1,p.2+v)::_=_;rw [zT r k _ (by rw [<- e']; exact h.1)]
   | false=>
    have:¬k=p.1:=fun q=>by rw [q,Nat.beq_refl] at e;exact no4 e
    simp only [List.map_cons,List.mem_cons,this,false_or] at hk;show p::_=p::_;rw [<- ih h.2 hk]
 ·unfold aKq;rw [(Bool.not_eq_true _▸fun q=>hk ((xD l k).mp q):aKo l k=false),aGh l k hk,rT l k v hk];show l++[(k,0+v)]=_;rw [Nat.zero_add]
theorem aPr:∀(l:DN)(k v:Nat),ND l->ND (aG2 l k v):=by
 intro l k v h
 by_cases hk:k∈l.map (·.1)
 ·have:(aG2 l k v).map (·.1)=l.map (·.1):=by
   clear h
   induction l with
   | nil=>cases hk
   | cons p r ih=>
    rw [aGg]
    cases e:Nat.beq p.1 k with
    | true=>rfl
    | false=>
     have:¬k=p.1:=fun q=>by rw [q,Nat.beq_refl] at e;exact no4 e
     simp only [List.map_cons,List.mem_cons,this,false_or] at hk;show p.1::(aG2 r k v).map (·.1)=p.1::r.map (·.1);rw [ih hk]
  unfold ND;rw [this]; exact h
 ·rw [rT l k v hk];unfold ND at*;rw [List.map_append,List.nodup_append];refine ⟨h,by simp,fun a ha b hb q=> ?_⟩;simp only [List.map_cons,List.map_nil,List.mem_singleton] at hb;rw [q,hb] at ha;exact hk ha
noncomputable def aPs (v t:Nat)(more:DN)(c:Nat):DN:=match Nat.beq (t/2^c%2) 0 with
 | true=>aG2 more (t+2^c) v
 | false=>more
noncomputable def rU (v t:Nat):List Nat->DN->DN
 | [],more=>more
 | c::r,more=>rU v t r (aPs v t more c)
theorem aM3:∀(v t:Nat)(x:DN)(c:Nat)(r:List Nat),rU v t (c::r) x=rU v t r (aPs v t x c):=fun _ _ _ _ _=>rfl
noncomputable def kY (cs:List Nat):DN->DN->DN
 | [],more=>more
 | p::r,more=>kY cs r (rU p.2 p.1 cs more)
theorem zU:∀(cs:List Nat)(x:DN)(p:Nat × Nat)(r:List (Nat × Nat)),kY cs (p::r) x=kY cs r (rU (Prod.snd p) (Prod.fst p) cs x):=fun _ _ _ _=>rfl
noncomputable def xE:List Nat->DN->DN
 | [],w=>w
 | b::r,w=>xE r (kY (List.range b) w w)
theorem aGi:∀(x:DN)(c:Nat)(r:List Nat),xE (c::r) x=xE r (kY (List.range c) x x):=fun _ _ _=>rfl
noncomputable def aCd:DN->List Nat->Option (List Nat)
 | [],told=>some told
 | p::r,told=>match Nat.blt (iU p.1) told.length with
  | true=>aCd r (told.set (iU p.1) (told.getD (iU p.1) 0+p.2))
  | false=>none
theorem aM4:∀(x:List Nat)(p:Nat × Nat)(r:List (Nat × Nat)),aCd (p::r) x=match Nat.blt (iU (Prod.fst p)) (List.length x) with | true=>aCd r (List.set x (iU (Prod.fst p)) (List.getD x (iU (Prod.fst p)) 0+Prod.snd p)) | false=>none:=fun _ _ _=>rfl
noncomputable def aGj (board:List Nat):Option (List Nat):=aCd (xE board [(0,1)]) (List.replicate (board.length+1) 0)
theorem aM5 (v t:Nat)(more:DN)(c:Nat)(h:ND more):oE v t more c=aPs v t more c/\ND (aPs v t more c):=by
 unfold oE aPs
 rcases Nat.beq (t/2^c%2) 0 with _ | _
 ·exact ⟨rfl,h⟩
 ·exact ⟨aM2 _ _ _ h,aPr _ _ _ h⟩
theorem zV (v t:Nat):∀(cs:List Nat)(more:DN),ND more->fD v t cs more=rU v t cs more/\ND (rU v t cs more)
 | [],_,h=>⟨rfl,h⟩
 | c::r,more,h=>by
  obtain ⟨e1,n1⟩:=aM5 v t more c h;rw [zP,aM3,e1];exact zV v t r _ n1
theorem aM6:∀(l:DN)(p:Nat × Nat),ND l->p∈l->lkN l p.1=some p.2
 | a::r,p,h,hm=>by
  unfold ND at h;rw [List.map_cons,List.nodup_cons] at h;rw [aF4]
  rcases List.mem_cons.mp hm with rfl | hm
  ·rw [Nat.beq_refl]
  ·have:a.1≠p.1:=fun q=>h.1 (q▸List.mem_map_of_mem hm)
   rw [fN this];exact aM6 r p h.2 hm
theorem uS (ways:DN)(hw:ND ways)(sq:Nat):∀(l more:DN),(∀ p∈l,p∈ways)->ND more->gN ways sq l more=kY (List.range sq) l more/\ND (kY (List.range sq) l more)
 | [],_,_,h=>⟨rfl,h⟩
 | p::r,more,hl,h=>by
  obtain ⟨e1,n1⟩:=zV p.2 p.1 (List.range sq) more h;rw [oF,zU,aM6 ways p hw (hl p (List.mem_cons_self ..))];show gN ways sq r (fD p.2 p.1 (List.range sq) more)=_/\_;rw [e1];exact uS ways hw sq r _ (fun q hq=>hl q (List.mem_cons_of_mem _ hq)) n1
theorem zW:∀(bs:List Nat)(w:DN),ND w->jR bs w=xE bs w/\ND (xE bs w)
 | [],_,h=>⟨rfl,h⟩
 | b::r,w,h=>by
  obtain ⟨e1,n1⟩:=uS w h b w w (fun p hp=>hp) h;rw [aJg,aGi,jQ,e1];exact zW r _ n1
theorem zX (ways:DN)(hw:ND ways):∀(l:DN)(told:List Nat),(∀ p∈l,p∈ways)->aCb ways l told=aCd l told
 | [],_,_=>rfl
 | p::r,told,hl=>by
  rw [aF7,aM4,aM6 ways p hw (hl p (List.mem_cons_self ..))]
  rcases Nat.blt (iU p.1) told.length with _ | _
  ·rfl
  ·exact zX ways hw r _ fun q hq=>hl q (List.mem_cons_of_mem _ hq)
theorem aCe (board:List Nat):kW board=aGj board:=by
 obtain ⟨e1,n1⟩:=zW board [(0,1)] (by unfold ND;simp);unfold kW aGj;rw [e1];exact zX _ n1 _ _ fun p hp=>hp
structure Cls where
 told:List Nat
 cnt:List Nat
 bs:List (List Nat)
noncomputable def aRg:List Cls:=[⟨[1,5],[0,0,0,0,0,0,0,1],[[5]]⟩,
 ⟨[1,6],[0,0,0,0,0,0,0,0,1],[[6]]⟩]
noncomputable def aRh:List Cls:=[⟨[1,5,0],[0,0,0,1,0,0,0,1],[[0,5]]⟩,
 ⟨[1,5,3],[0,0,0,0,1,0,1],[[1,4]]⟩,
 ⟨[1,5,4],[0,0,0,0,0,2],[[2,3]]⟩,
 ⟨[1,6,0],[0,0,0,1,0,0,0,0,1],[[0,6]]⟩,
 ⟨[1,6,4],[0,0,0,0,1,0,0,1],[[1,5]]⟩,
 ⟨[1,6,6],[0,0,0,0,0,1,1],[[2,4],[3,3]]⟩,
 ⟨[1,7,5],[0,0,0,0,1,0,0,0,1],[[1,6]]⟩,
 ⟨[1,7,8],[0,0,0,0,0,1,0,1],[[2,5]]⟩,
 ⟨[1,7,9],[0,0,0,0,0,0,2],[[3,4]]⟩,
 ⟨[1,8,10],[0,0,0,0,0,1,0,0,1],[[2,6]]⟩,
 ⟨[1,8,12],[0,0,0,0,0,0,1,1],[[3,5],[4,4]]⟩,
 ⟨[1,9,15],[0,0,0,0,0,0,1,0,1],[[3,6]]⟩,
 ⟨[1,9,16],[0,0,0,0,0,0,0,2],[[4,5]]⟩,
 ⟨[1,10,20],[0,0,0,0,0,0,0,1,1],[[4,6],[5,5]]⟩,
 ⟨[1,11,25],[0,0,0,0,0,0,0,0,2],[[5,6]]⟩,
 ⟨[1,12,30],[0,0,0,0,0,0,0,0,1,1],[[6,6]]⟩]
noncomputable def aRi:List Cls:=[⟨[1,5,0,0],[0,0,0,1,1,0,0,1],[[0,0,5]]⟩,
 ⟨[1,5,3,0],[0,0,0,0,2,0,1],[[0,1,4]]⟩,
 ⟨[1,5,4,0],[0,0,0,0,1,2],[[0,2,3],[1,2,2]]⟩,
 ⟨[1,6,0,0],[0,0,0,1,1,0,0,0,1],[[0,0,6]]⟩,
 ⟨[1,6,4,0],[0,0,0,0,2,0,0,1],[[0,1,5]]⟩,
 ⟨[1,6,6,0],[0,0,0,0,1,1,1],[[0,2,4],[0,3,3],[2,2,2]]⟩,
 ⟨[1,6,7,1],[0,0,0,0,0,3],[[1,2,3]]⟩,
 ⟨[1,7,5,0],[0,0,0,0,2,0,0,0,1],[[0,1,6]]⟩,
 ⟨[1,7,8,0],[0,0,0,0,1,1,0,1],[[0,2,5]]⟩,
 ⟨[1,7,9,0],[0,0,0,0,1,0,2],[[0,3,4]]⟩,
 ⟨[1,7,10,2],[0,0,0,0,0,2,1],[[1,2,4],[1,3,3],[2,2,3]]⟩,
 ⟨[1,8,10,0],[0,0,0,0,1,1,0,0,1],[[0,2,6]]⟩,
 ⟨[1,8,12,0],[0,0,0,0,1,0,1,1],[[0,3,5],[0,4,4]]⟩,
 ⟨[1,8,14,4],[0,0,0,0,0,1,2],[[1,3,4],[2,2,4],[2,3,3]]⟩,
 ⟨[1,9,15,0],[0,0,0,0,1,0,1,0,1],[[0,3,6]]⟩,
 ⟨[1,9,16,0],[0,0,0,0,1,0,0,2],[[0,4,5]]⟩,
 ⟨[1,9,18,6],[0,0,0,0,0,1,1,1],[[1,3,5],[1,4,4],[3,3,3]]⟩,
 ⟨[1,9,19,8],[0,0,0,0,0,0,3],[[2,3,4]]⟩,
 ⟨[1,10,20,0],[0,0,0,0,1,0,0,1,1],[[0,4,6],[0,5,5]]⟩,
 ⟨[1,10,23,9],[0,0,0,0,0,1,0,2],[[1,4,5]]⟩,
 ⟨[1,10,24,12],[0,0,0,0,0,0,2,1],[[2,3,5],[2,4,4],[3,3,4]]⟩,
 ⟨[1,11,25,0],[0,0,0,0,1,0,0,0,2],[[0,5,6]]⟩,
 ⟨[1,11,28,12],[0,0,0,0,0,1,0,1,1],[[1,4,6],[1,5,5]]⟩,
 ⟨[1,11,30,18],[0,0,0,0,0,0,1,2],[[2,4,5],[3,3,5],[3,4,4]]⟩,
 ⟨[1,12,30,0],[0,0,0,0,1,0,0,0,1,1],[[0,6,6]]⟩,
 ⟨[1,12,34,16],[0,0,0,0,0,1,0,0,2],[[1,5,6]]⟩,
 ⟨[1,12,36,24],[0,0,0,0,0,0,1,1,1],[[2,4,6],[2,5,5]]⟩,
 ⟨[1,12,37,27],[0,0,0,0,0,0,0,3],[[3,4,5]]⟩,
 ⟨[1,13,40,20],[0,0,0,0,0,1,0,0,1,1],[[1,6,6]]⟩,
 ⟨[1,13,43,32],[0,0,0,0,0,0,1,0,2],[[2,5,6]]⟩,
 ⟨[1,13,44,36],[0,0,0,0,0,0,0,2,1],[[3,4,6],[3,5,5]]⟩,
 ⟨[1,14,50,40],[0,0,0,0,0,0,1,0,1,1],[[2,6,6]]⟩,
 ⟨[1,14,52,48],[0,0,0,0,0,0,0,1,2],[[3,5,6]]⟩,
 ⟨[1,15,60,60],[0,0,0,0,0,0,0,1,1,1],[[3,6,6]]⟩]
noncomputable def aRj:List Cls:=[⟨[1,6,0,0,0],[0,0,0,1,1,1,0,0,1],[[0,0,0,6]]⟩,
 ⟨[1,6,4,0,0],[0,0,0,0,2,1,0,1],[[0,0,1,5]]⟩,
 ⟨[1,6,6,0,0],[0,0,0,0,1,2,1],[[0,0,2,4],[0,0,3,3],[1,1,2,2]]⟩,
 ⟨[1,7,5,0,0],[0,0,0,0,2,1,0,0,1],[[0,0,1,6]]⟩,
 ⟨[1,7,8,0,0],[0,0,0,0,1,2,0,1],[[0,0,2,5]]⟩,
 ⟨[1,7,9,0,0],[0,0,0,0,1,1,2],[[0,0,3,4],[1,2,2,2]]⟩,
 ⟨[1,7,10,2,0],[0,0,0,0,0,3,1],[[0,1,3,3],[0,2,2,3],[1,1,2,3]]⟩,
 ⟨[1,8,10,0,0],[0,0,0,0,1,2,0,0,1],[[0,0,2,6]]⟩,
 ⟨[1,8,12,0,0],[0,0,0,0,1,1,1,1],[[0,0,3,5],[0,0,4,4],[2,2,2,2]]⟩,
 ⟨[1,8,14,4,0],[0,0,0,0,0,2,2],[[0,1,3,4],[0,2,2,4],[0,2,3,3],[1,1,3,3],[1,2,2,3]]⟩,
 ⟨[1,9,15,0,0],[0,0,0,0,1,1,1,0,1],[[0,0,3,6]]⟩,
 ⟨[1,9,16,0,0],[0,0,0,0,1,1,0,2],[[0,0,4,5]]⟩,
 ⟨[1,9,18,6,0],[0,0,0,0,0,2,1,1],[[0,1,3,5],[0,1,4,4],[0,3,3,3],[2,2,2,3]]⟩,
 ⟨[1,9,19,8,0],[0,0,0,0,0,1,3],[[0,2,3,4],[1,2,3,3]]⟩,
 ⟨[1,10,20,0,0],[0,0,0,0,1,1,0,1,1],[[0,0,4,6],[0,0,5,5]]⟩,
 ⟨[1,10,23,9,0],[0,0,0,0,0,2,0,2],[[0,1,4,5]]⟩,
 ⟨[1,10,24,12,0],[0,0,0,0,0,1,2,1],[[0,2,3,5],[0,2,4,4],[0,3,3,4],[1,3,3,3],[2,2,3,3]]⟩,
 ⟨[1,10,25,15,1],[0,0,0,0,0,0,4],[[1,2,3,4]]⟩,
 ⟨[1,11,25,0,0],[0,0,0,0,1,1,0,0,2],[[0,0,5,6]]⟩,
 ⟨[1,11,28,12,0],[0,0,0,0,0,2,0,1,1],[[0,1,5,5]]⟩,
 ⟨[1,11,30,18,0],[0,0,0,0,0,1,1,2],[[0,2,4,5],[0,3,3,5],[0,3,4,4],[2,3,3,3]]⟩,
 ⟨[1,11,31,22,2],[0,0,0,0,0,0,3,1],[[1,3,3,4],[2,2,3,4]]⟩,
 ⟨[1,12,30,0,0],[0,0,0,0,1,1,0,0,1,1],[[0,0,6,6]]⟩,
 ⟨[1,12,34,16,0],[0,0,0,0,0,2,0,0,2],[[0,1,5,6]]⟩,
 ⟨[1,12,36,24,0],[0,0,0,0,0,1,1,1,1],[[0,2,4,6],[0,2,5,5],[3,3,3,3]]⟩,
 ⟨[1,12,37,27,0],[0,0,0,0,0,1,0,3],[[0,3,4,5]]⟩,
 ⟨[1,12,38,32,4],[0,0,0,0,0,0,2,2],[[1,3,3,5],[2,3,3,4]]⟩,
 ⟨[1,13,40,20,0],[0,0,0,0,0,2,0,0,1,1],[[0,1,6,6]]⟩,
 ⟨[1,13,43,32,0],[0,0,0,0,0,1,1,0,2],[[0,2,5,6]]⟩,
 ⟨[1,13,44,36,0],[0,0,0,0,0,1,0,2,1],[[0,3,4,6],[0,3,5,5]]⟩,
 ⟨[1,13,45,42,6],[0,0,0,0,0,0,2,1,1],[[3,3,3,4]]⟩,
 ⟨[1,13,46,46,8],[0,0,0,0,0,0,1,3],[[2,3,3,5]]⟩,
 ⟨[1,14,50,40,0],[0,0,0,0,0,1,1,0,1,1],[[0,2,6,6]]⟩,
 ⟨[1,14,52,48,0],[0,0,0,0,0,1,0,1,2],[[0,3,5,6]]⟩,
 ⟨[1,14,54,60,12],[0,0,0,0,0,0,1,2,1],[[3,3,3,5]]⟩]
noncomputable def aRk:List Cls:=[⟨[1,5,0,0,0,0],[0,0,0,1,1,1,1,1],[[0,0,0,0,5],[1,1,1,1,1]]⟩,
 ⟨[1,5,3,0,0,0],[0,0,0,0,2,1,2],[[0,0,0,1,4]]⟩,
 ⟨[1,5,4,0,0,0],[0,0,0,0,1,3,1],[[0,0,0,2,3],[0,0,1,2,2]]⟩,
 ⟨[1,6,0,0,0,0],[0,0,0,1,1,1,1,0,1],[[0,0,0,0,6]]⟩,
 ⟨[1,6,4,0,0,0],[0,0,0,0,2,1,1,1],[[0,0,0,1,5],[1,1,1,1,2]]⟩,
 ⟨[1,6,6,0,0,0],[0,0,0,0,1,2,2],[[0,0,0,2,4],[0,0,0,3,3],[0,0,2,2,2],[0,1,1,2,2]]⟩,
 ⟨[1,6,7,1,0,0],[0,0,0,0,0,4,1],[[0,0,1,2,3]]⟩,
 ⟨[1,7,5,0,0,0],[0,0,0,0,2,1,1,0,1],[[0,0,0,1,6]]⟩,
 ⟨[1,7,8,0,0,0],[0,0,0,0,1,2,1,1],[[0,0,0,2,5],[1,1,1,1,3],[1,1,1,2,2]]⟩,
 ⟨[1,7,9,0,0,0],[0,0,0,0,1,1,3],[[0,0,0,3,4],[0,1,2,2,2]]⟩,
 ⟨[1,7,10,2,0,0],[0,0,0,0,0,3,2],[[0,0,1,2,4],[0,0,1,3,3],[0,0,2,2,3],[0,1,1,2,3]]⟩,
 ⟨[1,8,10,0,0,0],[0,0,0,0,1,2,1,0,1],[[0,0,0,2,6]]⟩,
 ⟨[1,8,12,0,0,0],[0,0,0,0,1,1,2,1],[[0,0,0,3,5],[0,0,0,4,4],[0,2,2,2,2],[1,1,2,2,2]]⟩,
 ⟨[1,8,13,3,0,0],[0,0,0,0,0,3,1,1],[[1,1,1,2,3]]⟩,
 ⟨[1,8,14,4,0,0],[0,0,0,0,0,2,3],[[0,0,1,3,4],[0,0,2,2,4],[0,0,2,3,3],[0,1,1,3,3],[0,1,2,2,3]]⟩,
 ⟨[1,9,15,0,0,0],[0,0,0,0,1,1,2,0,1],[[0,0,0,3,6]]⟩,
 ⟨[1,9,16,0,0,0],[0,0,0,0,1,1,1,2],[[0,0,0,4,5],[1,2,2,2,2]]⟩,
 ⟨[1,9,18,6,0,0],[0,0,0,0,0,2,2,1],[[0,0,1,3,5],[0,0,1,4,4],[0,0,3,3,3],[0,2,2,2,3],[1,1,1,3,3],[1,1,2,2,3]]⟩,
 ⟨[1,9,19,8,0,0],[0,0,0,0,0,1,4],[[0,0,2,3,4],[0,1,2,3,3]]⟩,
 ⟨[1,10,20,0,0,0],[0,0,0,0,1,1,1,1,1],[[0,0,0,4,6],[0,0,0,5,5],[2,2,2,2,2]]⟩,
 ⟨[1,10,23,9,0,0],[0,0,0,0,0,2,1,2],[[0,0,1,4,5],[1,2,2,2,3]]⟩,
 ⟨[1,10,24,12,0,0],[0,0,0,0,0,1,3,1],[[0,0,2,3,5],[0,0,2,4,4],[0,0,3,3,4],[0,1,3,3,3],[0,2,2,3,3],[1,1,2,3,3]]⟩,
 ⟨[1,10,25,15,1,0],[0,0,0,0,0,0,5],[[0,1,2,3,4]]⟩,
 ⟨[1,11,25,0,0,0],[0,0,0,0,1,1,1,0,2],[[0,0,0,5,6]]⟩,
 ⟨[1,11,28,12,0,0],[0,0,0,0,0,2,1,1,1],[[0,0,1,4,6],[0,0,1,5,5],[2,2,2,2,3]]⟩,
 ⟨[1,11,30,18,0,0],[0,0,0,0,0,1,2,2],[[0,0,2,4,5],[0,0,3,3,5],[0,0,3,4,4],[0,2,3,3,3],[1,1,3,3,3],[1,2,2,3,3]]⟩,
 ⟨[1,11,31,22,2,0],[0,0,0,0,0,0,4,1],[[0,1,3,3,4],[0,2,2,3,4]]⟩,
 ⟨[1,12,30,0,0,0],[0,0,0,0,1,1,1,0,1,1],[[0,0,0,6,6]]⟩,
 ⟨[1,12,34,16,0,0],[0,0,0,0,0,2,1,0,2],[[0,0,1,5,6]]⟩,
 ⟨[1,12,36,24,0,0],[0,0,0,0,0,1,2,1,1],[[0,0,2,4,6],[0,0,2,5,5],[0,3,3,3,3],[2,2,2,3,3]]⟩,
 ⟨[1,12,37,27,0,0],[0,0,0,0,0,1,1,3],[[0,0,3,4,5],[1,2,3,3,3]]⟩,
 ⟨[1,12,38,32,4,0],[0,0,0,0,0,0,3,2],[[0,1,3,3,5],[0,2,3,3,4]]⟩,
 ⟨[1,13,40,20,0,0],[0,0,0,0,0,2,1,0,1,1],[[0,0,1,6,6]]⟩,
 ⟨[1,13,43,32,0,0],[0,0,0,0,0,1,2,0,2],[[0,0,2,5,6]]⟩,
 ⟨[1,13,44,36,0,0],[0,0,0,0,0,1,1,2,1],[[0,0,3,4,6],[0,0,3,5,5],[1,3,3,3,3],[2,2,3,3,3]]⟩,
 ⟨[1,13,45,42,6,0],[0,0,0,0,0,0,3,1,1],[[0,3,3,3,4]]⟩,
 ⟨[1,13,46,46,8,0],[0,0,0,0,0,0,2,3],[[0,2,3,3,5]]⟩,
 ⟨[1,14,50,40,0,0],[0,0,0,0,0,1,2,0,1,1],[[0,0,2,6,6]]⟩,
 ⟨[1,14,52,48,0,0],[0,0,0,0,0,1,1,1,2],[[0,0,3,5,6],[2,3,3,3,3]]⟩,
 ⟨[1,14,54,60,12,0],[0,0,0,0,0,0,2,2,1],[[0,3,3,3,5]]⟩,
 ⟨[1,15,60,60,0,0],[0,0,0,0,0,1,1,1,1,1],[[0,0,3,6,6],[3,3,3,3,3]]⟩]
noncomputable def eqN:List Nat->List Nat->Bool
 | [],[]=>true
 | a::r,b::t=>match Nat.beq a b with
  | true=>eqN r t
  | false=>false
 | _,_=>false
theorem aPt:∀(a:Nat)(r:List Nat)(b:Nat)(t:List Nat),eqN (a::r) (b::t)=match Nat.beq a b with | true=>eqN r t | false=>false:=fun _ _ _ _=>rfl
theorem uT:∀{a b:List Nat},eqN a b=true->a=b
 | [],[],_=>rfl
 | a::r,b::t,h=>by
  rw [aPt] at h
  split at h
  ·rename_i e;rw [Nat.eq_of_beq_eq_true e,uT h]
  ·exact no3 h
 | [],_::_,h=>by exact no3 h
 | _::_,[],h=>by exact no3 h
noncomputable def fQ (b:List Nat):List Nat:=(List.range b.length).map fun k=>b.getD k 0+b.length+1- k
noncomputable def ofN (l:List Nat):List Int:=l.map fun (i:Nat)=>(i:Int)
noncomputable def pE:List Nat->Nat
 | []=>0
 | a::r=>a+pE r
theorem aKs:∀(c:Nat)(r:List Nat),pE (c::r)=c+pE r:=fun _ _=>rfl
noncomputable def xF {α:Type}:List Nat->(List Nat->α)->α
 | [],k=>k []
 | 0::r,k=>xF r fun r'=>k (0::r')
 | (n+1)::r,k=>xF r fun r'=>k ((n+1)::r')
theorem jS {α:Type}:∀(l:List Nat)(k:List Nat->α),xF l k=k l
 | [],_=>rfl
 | 0::r,k=>jS r _
 | (n+1)::r,k=>jS r _
noncomputable def qB {α:Type}:Nat->(Nat->α)->α
 | 0,k=>k 0
 | n+1,k=>k (n+1)
theorem oH {α:Type}(n:Nat)(k:Nat->α):qB n k=k n:=by cases n <;> rfl
noncomputable def qC {α:Type}:DN->(DN->α)->α
 | [],k=>k []
 | p::r,k=>qB p.1 fun a=>qB p.2 fun b=>qC r fun r'=>k ((a,b)::r')
theorem aJh:∀{α:Type}(x:DN->α)(p:Nat × Nat)(r:List (Nat × Nat)),qC (p::r) x=qB (Prod.fst p) fun a=>qB (Prod.snd p) fun b=>qC r fun r'=>x ((a,b)::r'):=fun _ _ _=>rfl
theorem uU {α:Type}:∀(l:DN)(k:DN->α),qC l k=k l
 | [],_=>rfl
 | (a,b)::r,k=>by rw [aJh,oH,oH,uU r]
noncomputable def qD (cs:List Nat):DN->DN->(DN->Bool)->Bool
 | [],more,k=>k more
 | p::r,more,k=>qC (rU p.2 p.1 cs more) fun m=>qD cs r m k
theorem aJi:∀(cs:List Nat)(x:DN)(x_1:DN->Bool)(p:Nat × Nat)(r:List (Nat × Nat)),qD cs (p::r) x x_1=qC (rU (Prod.snd p) (Prod.fst p) cs x) fun m=>qD cs r m x_1:=fun _ _ _ _ _=>rfl
theorem uV (cs:List Nat):∀(l more:DN)(k:DN->Bool),qD cs l more k=k (kY cs l more)
 | [],_,_=>rfl
 | p::r,more,k=>by rw [aJi,uU,uV cs r,zU]
noncomputable def aGk:List Nat->DN->(DN->Bool)->Bool
 | [],w,k=>k w
 | b::r,w,k=>qD (List.range b) w w fun w'=>aGk r w' k
theorem aM7:∀(x:DN)(x_1:DN->Bool)(b:Nat)(r:List Nat),aGk (b::r) x x_1=qD (List.range b) x x fun w'=>aGk r w' x_1:=fun _ _ _ _=>rfl
theorem zY:∀(bs:List Nat)(w:DN)(k:DN->Bool),aGk bs w k=k (xE bs w)
 | [],_,_=>rfl
 | b::r,w,k=>by rw [aM7,uV,zY r,aGi]
noncomputable def vA:List Nat->Nat
 | []=>0
 | a::r=>max a (vA r)
theorem uW:∀(c:Nat)(r:List Nat),vA (c::r)=max c (vA r):=fun _ _=>rfl
noncomputable def aR5 (told cnt b:List Nat):Bool:=
 xF (fQ b) fun rs=>Nat.beq cnt.length (vA rs+1)&&eqN (eJ b) rs&&
 decide (lB (cV rs) [] 0 0 0=(ofN cnt,0,((pE rs+b.length:Nat):Int),(b.length:Int)))&&
 (aGk b [(0,1)] fun W=>match aCd W (List.replicate (b.length+1) 0) with | some t=>eqN t told | none=>false)&&
 (List.range (b.length+1)).all (fun x=>match oC ((b.length+1- x:Nat):Int) (ofN cnt) 0 1,aMs (x:Int) (ofN told).reverse 0 0 1 with | some p,some q=>decide (p=q) | _,_=>false)&&
 (List.range' 1 12).all (fun s=>decide (aV (ofN cnt) (b.length:Int) 0 s=bU (ofN rs) (s:Int)))
noncomputable def aM8 (n:Nat)(c:Cls):Bool:=Nat.beq c.told.length (n+1)&&Nat.ble c.cnt.length 12&&Nat.ble 1 c.cnt.length&&c.bs.all fun b=>Nat.beq b.length n&&b.all (fun x=>Nat.ble x 6)&&aR5 c.told c.cnt b
noncomputable def aP7 (n:Nat)(c d:Cls):Bool:= !(eqN c.told d.told)&& !(eqN c.cnt d.cnt)&&(List.range' 1 (max c.cnt.length d.cnt.length)).any (fun s=> !(decide (aV (ofN c.cnt) n 0 s=aV (ofN d.cnt) n 0 s)))
noncomputable def rV (n:Nat):List Cls->Bool
 | []=>true
 | c::r=>r.all (aP7 n c)&&rV n r
theorem aM9:∀(n:Nat)(c:Cls)(r:List Cls),rV n (c::r)=(List.all r (aP7 n c)&&rV n r):=fun _ _ _=>rfl
set_option maxHeartbeats 0
theorem t1:aRg.all (aM8 1)=true:=by decide+kernel
theorem t2:aRh.all (aM8 2)=true:=by decide+kernel
theorem t3:aRi.all (aM8 3)=true:=by decide+kernel
theorem t4:aRj.all (aM8 4)=true:=by decide+kernel
theorem t5:aRk.all (aM8 5)=true:=by decide+kernel
theorem u1:rV 1 aRg=true:=by decide+kernel
theorem u2:rV 2 aRh=true:=by decide+kernel
theorem u3:rV 3 aRi=true:=by decide+kernel
theorem u4:rV 4 aRj=true:=by decide+kernel
theorem u5:rV 5 aRk=true:=by decide+kernel
noncomputable def dO (w:Nat):List Nat->Nat->List Nat->List Nat
 | [],cur,lines=>lines++[cur]
 | p::r,cur,lines=>match Nat.beq cur 0 with
  | true=>dO w r (cur+p) lines
  | false=>match Nat.blt w (cur+p) with
   | true=>dO w r p (lines++[cur])
   | false=>dO w r (cur+p) lines
theorem aGl:∀(w x:Nat)(x_1:List Nat)(p:Nat)(r:List Nat),dO w (p::r) x x_1=match Nat.beq x 0 with | true=>dO w r (x+p) x_1 | false=>match Nat.blt w (x+p) with | true=>dO w r p (x_1++[x]) | false=>dO w r (x+p) x_1:=fun _ _ _ _ _=>rfl
noncomputable def aPu (a:Nat):List Nat->List Nat
 | []=>[a]
 | b::r=>match Nat.ble a b with
  | true=>a::b::r
  | false=>b::aPu a r
theorem aPv:∀(a c:Nat)(r:List Nat),aPu a (c::r)=match Nat.ble a c with | true=>a::c::r | false=>c::aPu a r:=fun _ _ _=>rfl
noncomputable def aGm:List Nat->List Nat
 | []=>[]
 | a::r=>aPu a (aGm r)
noncomputable def fO (n:Nat)(rows:List Nat):List Nat:=aGm (List.replicate (n- rows.length) 0++rows)
noncomputable def aCf:Nat->List Cls
 | 1=>aRg
 | 2=>aRh
 | 3=>aRi
 | 4=>aRj
 | 5=>aRk
 | _=>[]
noncomputable def aGn (n:Nat)(b:List Nat):Bool:=(aCf n).any fun c=>c.bs.any (eqN b)
noncomputable def s3:List Nat:=[1,2,3]
noncomputable def w6:List Nat:=[1,2,3,4,5,6]
noncomputable def xG (p:List Nat):List Nat->List (List Nat)->(List (List Nat)->Bool)->Bool
 | [],acc,k=>k acc
 | w::ws,acc,k=>xF (dO w p 0 []) fun r=>match acc.any (eqN r) with
  | true=>xG p ws acc k
  | false=>xG p ws (r::acc) k
theorem aNa:∀(p:List Nat)(x:List (List Nat))(x_1:List (List Nat)->Bool)(w:Nat)(ws:List Nat),xG p (w::ws) x x_1=xF (dO w p 0 []) fun r=>match List.any x (eqN r) with | true=>xG p ws x x_1 | false=>xG p ws (r::x) x_1:=fun _ _ _ _ _=>rfl
theorem oJ (p:List Nat):∀(ws:List Nat)(acc:List (List Nat))(k:List (List Nat)->Bool),xG p ws acc k=true->∃l,k l=true/\(∀ r∈acc,r∈l)/\∀w∈ws,dO w p 0 []∈l
 | [],acc,k,h=>⟨acc,h,fun _ h=>h,fun _ h=>nomatch h⟩
 | w::ws,acc,k,h=>by
  rw [aNa,jS] at h
  rcases e:acc.any (eqN (dO w p 0 [])) with _ | _
  ·rw [e] at h;obtain ⟨l,h1,h2,h3⟩:=oJ p ws _ k h;refine ⟨l,h1,fun r hr=>h2 r (List.mem_cons_of_mem _ hr),fun v hv=> ?_⟩
   rcases List.mem_cons.mp hv with rfl | hv
   ·exact h2 _ (List.mem_cons_self ..)
   ·exact h3 v hv
  ·rw [e] at h;obtain ⟨l,h1,h2,h3⟩:=oJ p ws acc k h;refine ⟨l,h1,h2,fun v hv=> ?_⟩
   rcases List.mem_cons.mp hv with rfl | hv
   ·obtain ⟨r,hr,e'⟩:=List.any_eq_true.mp e;rw [uT e']; exact h2 r hr
   ·exact h3 v hv
noncomputable def aR6 (p:List Nat)(rs:List (List Nat)):Bool:=rs.all fun r=>rs.all fun r'=>qB (max r.length r'.length) fun n=>xF (fO n r) fun b=>aGn n b&&Nat.beq (2*pE (fQ b)) (2*pE p+n*(n+3))
noncomputable def aP8 (p:List Nat):Bool:=xG p w6 [] (aR6 p)
theorem aCg {p:List Nat}(h:aP8 p=true){w w':Nat}(hw:w∈w6)(hw':w'∈w6)(hn:n=max (dO w p 0 []).length (dO w' p 0 []).length):aGn n (fO n (dO w p 0 []))=true/\2*pE (fQ (fO n (dO w p 0 [])))=2*pE p+n*(n+3):=by
 subst hn;obtain ⟨l,h1,_,h3⟩:=oJ p w6 [] (aR6 p) h;have:=List.all_eq_true.mp (List.all_eq_true.mp h1 _ (h3 w hw)) _ (h3 w' hw');rw [oH,jS,Bool.and_eq_true] at this;exact ⟨this.1,Nat.eq_of_beq_eq_true this.2⟩
set_option maxHeartbeats 0
theorem k1:(s3.all fun b=>s3.all fun c=>s3.all fun d=>s3.all fun e=>aP8 [1,b,c,d,e])=true:=by decide+kernel
theorem k2:(s3.all fun b=>s3.all fun c=>s3.all fun d=>s3.all fun e=>aP8 [2,b,c,d,e])=true:=by decide+kernel
theorem k3:(s3.all fun b=>s3.all fun c=>s3.all fun d=>s3.all fun e=>aP8 [3,b,c,d,e])=true:=by decide+kernel
structure aNb (n:Nat)(c:Cls)(b:List Nat):Prop where
 told:c.told.length=n+1
 cnt:1<=c.cnt.length/\c.cnt.length<=12
 len:b.length=n
 six:∀x∈b,x<=6
 mx:c.cnt.length=vA (fQ b)+1
 runs:eJ b=fQ b
 ws:lB (cV (fQ b)) [] 0 0 0=(ofN c.cnt,0,((pE (fQ b)+n:Nat):Int),(n:Int))
 rooks:kW b=some c.told
 prod:∀x,x<=n->∃p,oC ((n+1- x:Nat):Int) (ofN c.cnt) 0 1=some p/\aMs (x:Int) (ofN c.told).reverse 0 0 1=some p
 col:∀s,1<=s->s<=12->aV (ofN c.cnt) (n:Int) 0 s=bU (ofN (fQ b)) (s:Int)
theorem aJj {c:Cls}{b:List Nat}(h:aM8 n c=true)(hb:b∈c.bs):aNb n c b:=by
 unfold aM8 at h;simp only [Bool.and_eq_true] at h;obtain ⟨⟨⟨h1,h2⟩,h3⟩,h4⟩:=h;have h4:=List.all_eq_true.mp h4 b hb;simp only [Bool.and_eq_true] at h4;obtain ⟨⟨h5,h6⟩,h7⟩:=h4;have hl:=Nat.eq_of_beq_eq_true h5;unfold aR5 at h7;rw [jS] at h7;simp only [Bool.and_eq_true] at h7;obtain ⟨⟨⟨⟨⟨q0,q1⟩,q2⟩,q3⟩,q4⟩,q5⟩:=h7;refine ⟨Nat.eq_of_beq_eq_true h1,⟨Nat.le_of_ble_eq_true h3,Nat.le_of_ble_eq_true h2⟩,hl,fun x hx=>Nat.le_of_ble_eq_true (List.all_eq_true.mp h6 x hx),Nat.eq_of_beq_eq_true q0,uT q1,?_,?_,fun x hx=> ?_,fun s h1 h2=> ?_⟩
 ·have:=of_decide_eq_true q2;rw [hl] at this;exact this
 ·rw [zY] at q3;rw [aCe];unfold aGj
  split at q3
  ·rename_i t e;rw [e,uT q3]
  ·exact no3 q3
 ·have:=List.all_eq_true.mp q4 x (List.mem_range.mpr (by lia));rw [hl] at this
  split at this
  ·rename_i p q e1 e2;have:=of_decide_eq_true this;subst this;exact ⟨p,e1,e2⟩
  ·exact no3 this
 ·have:=List.all_eq_true.mp q5 s (List.mem_range'_1.mpr ⟨h1,by exact Nat.lt_succ_of_le h2⟩);have:=of_decide_eq_true this;rw [hl] at this;exact this
theorem oK {b:List Nat}(h:aGn n b=true):∃c∈aCf n,aNb n c b:=by
 obtain ⟨c,hc,h2⟩:=List.any_eq_true.mp h;obtain ⟨b',hb,e⟩:=List.any_eq_true.mp h2;have:=uT e;subst this;refine ⟨c,hc,aJj ?_ hb⟩
 match n,hc with
 | 1,hc=>exact List.all_eq_true.mp t1 c hc
 | 2,hc=>exact List.all_eq_true.mp t2 c hc
 | 3,hc=>exact List.all_eq_true.mp t3 c hc
 | 4,hc=>exact List.all_eq_true.mp t4 c hc
 | 5,hc=>exact List.all_eq_true.mp t5 c hc
theorem aGo {b:List Nat}(h:aGn n b=true):1<=n/\n<=5:=by
 obtain ⟨c,hc,_⟩:=List.any_eq_true.mp h
 match n,hc with
 | 1,_=>exact of_decide_eq_true rfl
 | 2,_=>exact of_decide_eq_true rfl
 | 3,_=>exact of_decide_eq_true rfl
 | 4,_=>exact of_decide_eq_true rfl
 | 5,_=>exact of_decide_eq_true rfl
def uX (n:Nat)(c d:Cls):Prop:=c.told≠d.told/\c.cnt≠d.cnt/\∃s∈List.range' 1 (max c.cnt.length d.cnt.length),aV (ofN c.cnt) n 0 s≠aV (ofN d.cnt) n 0 s
theorem rW:∀l:List Nat,eqN l l=true
 | []=>rfl
 | a::r=>by rw [aPt,Nat.beq_refl]; exact rW r
theorem zZ {c d:Cls}(h:aP7 n c d=true):uX n c d:=by
 unfold aP7 at h;simp only [Bool.and_eq_true,Bool.not_eq_true'] at h;obtain ⟨⟨h1,h2⟩,h3⟩:=h;obtain ⟨s,hs,e⟩:=List.any_eq_true.mp h3;refine ⟨fun q=> ?_,fun q=> ?_,s,hs,fun q=> ?_⟩
 ·rw [q,rW] at h1;exact no4 h1
 ·rw [q,rW] at h2;exact no4 h2
 ·rw [decide_eq_true q] at e;exact no3 e
theorem aCh {c d:Cls}(h:uX n c d):uX n d c:=by
 obtain ⟨h1,h2,s,hs,e⟩:=h;exact ⟨h1.symm,h2.symm,s,by rw [Nat.max_comm]; exact hs,e.symm⟩
theorem hU:∀{l:List Cls},rV n l=true->∀c∈l,∀d∈l,c=d\/uX n c d
 | x::r,h,c,hc,d,hd=>by
  rw [aM9] at h;rw [Bool.and_eq_true] at h
  rcases List.mem_cons.mp hc with e1 | hc'
  ·rcases List.mem_cons.mp hd with e2 | hd'
   ·exact .inl (e1.trans e2.symm)
   ·exact .inr (e1▸zZ (List.all_eq_true.mp h.1 d hd'))
  ·rcases List.mem_cons.mp hd with e2 | hd'
   ·exact .inr (e2▸aCh (zZ (List.all_eq_true.mp h.1 c hc')))
   ·exact hU h.2 c hc' d hd'
theorem aCi {c d:Cls}(hc:c∈aCf n)(hd:d∈aCf n):c=d\/uX n c d:=by
 match n,hc,hd with
 | 1,hc,hd=>exact hU u1 c hc d hd
 | 2,hc,hd=>exact hU u2 c hc d hd
 | 3,hc,hd=>exact hU u3 c hc d hd
 | 4,hc,hd=>exact hU u4 c hc d hd
 | 5,hc,hd=>exact hU u5 c hc d hd
theorem qE {p:List Nat}(hl:p.length=5)(hp:∀x∈p,1<=x/\x<=3){w w':Nat}(hw:1<=w/\w<=6)(hw':1<=w'/\w'<=6)(hn:n=max (dO w p 0 []).length (dO w' p 0 []).length):aGn n (fO n (dO w p 0 []))=true/\2*pE (fQ (fO n (dO w p 0 [])))=2*pE p+n*(n+3):=by
 have m3:∀x,1<=x/\x<=3->x∈s3:=fun x h=>by
  have:x=1\/x=2\/x=3:=by lia
  rcases this with rfl | rfl | rfl <;> decide
 have m6:∀x,1<=x/\x<=6->x∈w6:=fun x h=>by
  have:x=1\/x=2\/x=3\/x=4\/x=5\/x=6:=by lia
  rcases this with rfl | rfl | rfl | rfl | rfl | rfl <;> decide
 refine aCg ?_ (m6 w hw) (m6 w' hw') hn
 match p,hl with
 | [a,b,c,d,e],_=>
  have hb:=m3 b (hp b (by simp));have hc:=m3 c (hp c (by simp));have hd:=m3 d (hp d (by simp));have he:=m3 e (hp e (by simp));have ha:a=1\/a=2\/a=3:=by have:=hp a (by simp); lia
  rcases ha with rfl | rfl | rfl
  ·exact List.all_eq_true.mp (List.all_eq_true.mp (List.all_eq_true.mp (List.all_eq_true.mp k1 b hb) c hc) d hd) e he
  ·exact List.all_eq_true.mp (List.all_eq_true.mp (List.all_eq_true.mp (List.all_eq_true.mp k2 b hb) c hc) d hd) e he
  ·exact List.all_eq_true.mp (List.all_eq_true.mp (List.all_eq_true.mp (List.all_eq_true.mp k3 b hb) c hc) d hd) e he
theorem lL (w:Nat):∀(ps:List Str)(cur:Str)(lines:List Str),(aW (w:Int) ps cur lines).map (·.length)=dO w (ps.map (·.length)) cur.length (lines.map (·.length))
 | [],cur,lines=>List.map_append
 | p::r,cur,lines=>by
  rw [qW,List.map_cons,aGl]
  by_cases h:cur.length=0
  ·rw [if_pos h,h];show _=dO w _ (0+p.length) _;rw [lL w r,eO,h]
  ·rw [if_neg h,fN h]
   by_cases h2:(cur.length:Int)+p.length>(w:Int)
   ·rw [if_pos h2,lL w r,List.map_append];have:Nat.blt w (cur.length+p.length)=true:=Nat.ble_eq_true_of_le (by exact Int.ofNat_lt.mp h2);rw [this]; rfl
   ·rw [if_neg h2,lL w r,eO];have:Nat.blt w (cur.length+p.length)=false:=by
     rcases e:Nat.blt w (cur.length+p.length) with _ | _
     ·rfl
     ·have:=Nat.le_of_ble_eq_true e;lia
    rw [this]
noncomputable def avV:List (Str × AV)->Loc
 | [],_=>none
 | (y,v)::r,x=>if x=y then some v else avV r x
theorem aPw:∀(x y:PySem.Str)(v:AV)(r:List (PySem.Str × AV)),avV ((y,v)::r) x=if x=y then some v else avV r x:=fun _ _ _ _=>rfl
noncomputable def mkV (l:List (Str × AV)):St:=fun x=>(avV l x).map .val
theorem rX (l:List (Str × AV)):(mkV l).all=avV l:=by
 funext x
 unfold St.all mkV
 rcases avV l x with _ | _ <;> rfl
theorem aCj (l:List (Str × AV)):(mkV l).frozen=avV l:=by
 funext x
 unfold St.frozen mkV
 rcases avV l x with _ | _ <;> rfl
theorem aNc (l:List (Str × AV))(x:Str)(v:AV):(mkV l).set x (.val v)=mkV ((x,v)::l):=by
 funext y
 unfold St.set mkV;rw [aPw]
 by_cases h:y=x
 ·rw [if_pos h,if_pos h]; rfl
 ·rw [if_neg h,if_neg h]
theorem uY (l:List (Str × AV))(e:Expr)(x:Str):moved (mkV l) e x=none:=by
 have key:∀y,(if (y==x||y==("__debug__":Str)) then none else match mkV l y with | some (.own v)=>some (y,v) | _=>none)=(none:Option (Str × AV)):=fun y=>by
  by_cases h:(y==x||y==("__debug__":Str))=true
  ·exact if_pos h
  ·refine (if_neg h).trans ?_;show (match (avV l y).map Slot.val with | some (.own v)=>some (y,v) | _=>none)=_
   rcases avV l y with _ | _ <;> rfl
 cases e with
 | Name y p=>exact key y
 | _=>rfl
section
variable {csc:Scope}{l:List (Str × AV)}
theorem oL (hx:bJ sc x=true)(hmu:mu.contains x=false)(h:evE cf m sc (avV l) e=some v):exS cf mu (m+1) sc (mkV l) (.Assign [.Name x px] e p)=some (.next,mkV ((x,v)::l)):=by
 rw [<- aNc]
 rcases hf:fU v with _ | _
 ·exact aD4 hx (uY l e x) (by rw [rX]; exact h) hf (by rw [hmu]; rfl) (by rw [aCj]; exact h)
 ·exact cD hx (uY l e x) (by rw [rX]; exact h) hf
theorem aJk {i j:Expr}{op:Operator}{ρ:Loc}{a b:AV}(h:evE cf m sc ρ e=some a)(h':evE cf m sc ρ (.BinOp i op j xp)=some b)(hv:lX a b=some v):evE cf (m+1) sc ρ (.Subscript e (.BinOp i op j xp) p)=some v:=by
 rw [aSf,h,h']; exact hv
theorem aJl {hp sp:Pos}{ρ:Loc}{k:Int}{kk:Nat}{l:List AV}(h:evE cf (m+1) sc ρ (.Name x xp)=some (.list l))(hk:0<=k)(hl:l.length<=2^20):evE cf (m+2) sc ρ (.Subscript (.Name x xp) (.Slice .none (some (.Constant (.int k) kk hp)) .none sp) p)=some (.list (l.take k.toNat)):=by
 rw [aLp,h];show aDd (.list l) (.int k)=_;exact if_pos ⟨hk,hl⟩
theorem gU {ρ:Loc}(hn:es.length<=1000)(h:eC cf m sc ρ es=some vs):evE cf (m+1) sc ρ (.List es p)=some (.list vs):=by
 rw [aKa,if_pos hn,h]; rfl
end
theorem aAa {a b:Int}(h:0<b)(h':b<=1000000):cO .FloorDiv (.int a) (.int b)=some (.int (a/b)):=if_pos ⟨h,h'⟩
theorem rY {a b:Int}(h:0<b):cO .Mod (.int a) (.int b)=some (.int (a%b)):=if_pos h
theorem xH (a b:Int):cO .Sub (.int a) (.int b)=some (.int (a- b)):=rfl
theorem qN {a b:Str}(h:a.length+b.length<=2^20):cO .Add (.str a) (.str b)=some (.str (a++b)):=if_pos h
theorem qO {a:Nat}(h:n<=1000):cO .Mult (.str ⟨#[a]⟩) (.int (n:Int))=some (.str (txt (List.replicate n a))):=by
 rw [<- aFv a n];exact if_pos ⟨by exact Int.natCast_nonneg _,by exact Int.ofNat_le.mpr h,Nat.le_of_ble_eq_true rfl⟩
theorem aRl (h:i<1000):aI "chr" [.int (i:Int)]=some (.str ⟨#[i]⟩):=by
 unfold aI;rw [if_neg (by decide),if_pos rfl];show (if 0<=(i:Int)/\(i:Int)<1000 then some (AV.str ⟨#[(i:Int).toNat]⟩) else none)=_;rw [if_pos ⟨by exact Int.natCast_nonneg _,by exact Int.ofNat_lt.mpr h⟩,Int.toNat_natCast]
noncomputable def cG (x:Nat):List Nat:=List.replicate (x%3) (97+x/3%26)++[59]
noncomputable def aJm (x:Nat):List Nat:=match x/78%3 with | 0=>[10] | 1=>[13,10] | _=>[13]
noncomputable def gO (x:Nat):Nat:=1+x%6
theorem aNd (x:Nat):fP (aJm x):=by
 unfold aJm
 split
 ·exact .inl rfl
 ·exact .inr (.inl rfl)
 ·exact .inr (.inr rfl)
section
variable {csc:Scope}
theorem aJn {ρ:Loc}{x:Nat}(hx:ρ "x"=some (.int (x:Int)))(hc:csc.names.lookup (ofString "chr")=some .globalImplicit):
  evE cf (m+20) csc ρ (((((Name "chr" p6).Call [(Constant (.int 97) 0 p7).BinOp .Add (((Name "x" p8).BinOp .FloorDiv (Constant (.int 3) 0 p9) p10).BinOp .Mod (Constant (.int 26) 0 p11) p12) p13] [] p14).BinOp .Mult ((Name "x" p15).BinOp .Mod (Constant (.int 3) 0 p16) p17) p18).BinOp .Add (Constant (.str ";") 0 p19) p20))=some (.str (txt (cG x))):=by
 have e1:cO .Add (.int 97) (.int ((x:Int)/3%26))=some (.int ((97+x/3%26:Nat):Int)):=by rw [dH]; push_cast;rfl
 have e2:cO .Mod (.int (x:Int)) (.int 3)=some (.int ((x%3:Nat):Int)):=by rw [rY (by exact Int.natCast_nonneg _)]; push_cast;rfl
 have h3:x%3<=2:=by lia
 refine aC (aC (cJ hc rfl (aG (by exact Nat.succ_ne_zero _) (aC aF (aC (aC (aA hx rfl) aF (aAa (by exact Int.natCast_nonneg _) (by exact Int.natCast_nonneg _))) aF (rY (by exact Int.natCast_nonneg _))) e1)) (aRl (by lia))) (aC (aA hx rfl) aF e2) (qO (by lia))) iP ?_;rw [qN (by rw [dR,List.length_replicate]; show x%3+1<=_;lia)];show some (AV.str (txt _++txt [59]))=_;rw [hJ]; rfl
theorem aPx {ρ:Loc}{x:Nat}(hx:ρ "x"=some (.int (x:Int))):
  evE cf (m+20) csc ρ (((Expr.List [Constant (.str "\n") 0 p29,Constant (.str "\x0d\n") 0 p30,Constant (.str "\x0d") 0 p31] p32).Subscript (((Name "x" p33).BinOp .FloorDiv (Constant (.int 78) 0 p34) p35).BinOp .Mod (Constant (.int 3) 0 p36) p37) p38))=some (.str (txt (aJm x))):=by
 have e2:cO .Mod (.int ((x:Int)/78)) (.int 3)=some (.int ((x/78%3:Nat):Int)):=by rw [rY (by exact Int.natCast_nonneg _)]; push_cast;rfl
 refine aJk (a:= .list [.str (txt [10]),.str (txt [13,10]),.str (txt [13])]) (gU (by simp) (by rfl)) (aC (aC (aA hx rfl) aF (aAa (by exact Int.natCast_nonneg _) (by exact Int.natCast_nonneg _))) aF e2) ?_;have h3:x/78%3<3:=by exact Nat.mod_lt _ (Nat.succ_pos _)
 unfold aJm;generalize x/78%3=j at h3
 match j,h3 with
 | 0,_=>rfl
 | 1,_=>rfl
 | 2,_=>rfl
end
end Mine.Pl
section
set_option maxHeartbeats 2000000
namespace Mine
section
variable {K:Frag}{ob:Obj}
theorem aRm (k:KOk K)(hmb:dQ mb)(hr:∀c∈raw.cps.toList,c=32\/c=9)(hlen:raw.length<=900):
  bB P1 w (pD K mb ob) 2 100 [.str raw] (.inst 100 [("raw",.str raw),("n",.int (lB raw.cps.toList [] 0 0 0).2.2.1),("nt",.int (lB raw.cps.toList [] 0 0 0).2.2.2),("norm",.tup [.tup ((lB raw.cps.toList [] 0 0 0).1.map .int),.int (lB raw.cps.toList [] 0 0 0).2.1]),("is_simple",.bool (decide ((lB raw.cps.toList [] 0 0 0).1.length<=1)))]):=by
 obtain ⟨o,fd,h1,h2,h3,h4⟩:=a55 (mb:=mb) (ob:=ob) k;obtain ⟨tS,eS⟩:=k.sW;obtain ⟨tT,eT⟩:=k.tW;exact wQ (aPn k hmb (zD k)) (zC k) (nW k.gW (by decide)) h1 h3 h4 (fun y hy=>⟨(uI k y hy).1,(uI k y hy).2⟩) (nX k (show (ofString "Whitespace",100)∈aNt by decide))
  (fun A E s Q g h=>cls_value g.X k.rdW eS rfl h) (fun A E s Q g h=>cls_value g.X k.rdW eT rfl h) hr hlen
theorem aCk (k:KOk K)(hmb:dQ mb)(h:pB vs=some v):∃a o fd,mOf K mainGlobals (ofString "_law_folded")=some (.ref a)/\o.data= .func fd/\(∀ h,pD K mb ob h->h.get? a=some o)/\bB P1 w (pD K mb ob) 42 a vs v:=by
 obtain ⟨r,e,_,_⟩:=k.f 21 rfl;exact ⟨296,_,_,nX k (by decide),rfl,fun h g=>g.X _ _ e,nV (yZ k hmb) (fun _ g=>g.toGrd) (aFs k hmb) h⟩
theorem aPy (k:KOk K)(hmb:dQ mb):aLh P1 w (pD K mb ob) (mOf K mainGlobals) cf1 42 where
 fn:=fun f vs v h=>by
  have C:=aKl (w:=w) (ob:=ob) k hmb;refine kZ h (fun e h=>e▸nY k hmb C (by kernel_rfl) (by decide) (aSq k) (by decide) h) fun _ h=> ?_
  refine kZ h (fun e h=>e▸nY k hmb C (by kernel_rfl) (by decide) (aSr k) (by decide) h) fun _ h=> ?_
  refine kZ h (fun e h=>e▸nY k hmb C (by kernel_rfl) (by decide) (aSs k) (by decide) h) fun _ h=> ?_
  refine kZ h (fun e h=>e▸nY k hmb C (by kernel_rfl) (by decide) (aSt k) (by decide) h) fun _ h=> ?_
  refine kZ h (fun e h=>e▸nY k hmb C (by kernel_rfl) (by decide) (aSu k) (by decide) h) fun _ h=> ?_
  refine kZ h (fun e h=>e▸nY k hmb C (by kernel_rfl) (by decide) (aSv k) (by decide) h) fun _ h=> ?_
  refine kZ h (fun e h=>e▸nY k hmb C (by kernel_rfl) (by decide) (aSw k) (by decide) h) fun _ h=> ?_
  exact cK h fun e h=>e▸aCk k hmb h
 cls:=⟨99,mOf K 99,(zC k).at',bH k.fW (by decide),bH k.fW (by decide),uI k,fun m vs v h=>by
  have C:=aKl (w:=w) (ob:=ob) k hmb;refine kZ h (fun e h=>e▸nZ k hmb C (by kernel_rfl) (by decide) (y:=none) (by rw [typeLookup_type,builtinLookup_eq_fast]; kernel_rfl) (a76 k) (by decide) h) fun _ h=> ?_
  refine kZ h (fun e h=>e▸nZ k hmb C (by kernel_rfl) (by decide) (y:=none) (by rw [typeLookup_type,builtinLookup_eq_fast]; kernel_rfl) (a83 k) (by decide) h) fun _ h=> ?_
  exact cK h fun e h=>e▸nZ k hmb C (by kernel_rfl) (by decide) (y:=none) (by rw [typeLookup_type,builtinLookup_eq_fast]; kernel_rfl) (a90 k) (by decide) h⟩
 cl:=fun f vs v h=>cK h fun e h=>by
  subst e
  rcases vs with _ | ⟨v0,_ | ⟨v1,vs⟩⟩
  ·exact no1 h
  ·rcases v0 with _ | _ | _ | raw <;> first | exact no1 h | skip
   refine cK h fun q h=> ?_
   replace h:=Option.some.inj h
   subst h;exact ⟨nX k (by decide),List.cons_ne_nil _ _,(aRm k hmb q.1 q.2).up (by decide)⟩
  ·rcases v0 <;> exact no1 h
theorem aJo (k:KOk K)(hmb:dQ mb){args:List AV}{fuel:Nat}(h:aZ cf1 fuel aJ args=some v):bB P1 w (pD K mb ob) 43 339 args v:=
 let ⟨_,_,_,_,_,h4⟩:=aSx (mb:=mb) (ob:=ob) k
 qV (g:=aPn k hmb (aPy (w:=w) (ob:=ob) k hmb)) (by kernel_rfl) h4 h
end
def PureLaw:Prop:=∀script:List Int,script.length<=63->∃fuel:Nat,aZ cf1 fuel aJ [.list (script.map .int)]=some (.bool true)
section
variable {K:Frag}
theorem aGp (kw:Kp s s')(zok:Zok Zs [] s.heap):OldK s.heap s'.heap:=by
 have tab:∀z∈Zs,∃ps more,Tab s.heap z ps/\Tab s'.heap z (ps++more):=fun z hz=>by
  obtain ⟨ps,h1⟩:=zok.at' z hz;obtain ⟨more,h2⟩:=kw.tab z hz ps h1;exact ⟨ps,more,h1,h2⟩
 refine ⟨fun b o e=> ?_,fun b o e=> ?_⟩
 ·by_cases hb:b∈Zs.map (·.2)
  ·obtain ⟨z,hz,rfl⟩:=List.mem_map.mp hb;obtain ⟨ps,more,h1,h2⟩:=tab z hz;obtain rfl:=Option.some.inj (e.symm.trans h1.2.2);exact .inr (.inl ⟨h1.2.isCodeTable,rfl,ps,more,rfl,h2.2.2⟩)
  ·exact .inl (kw.keep b o (fun h=>nomatch h) hb e)
 ·by_cases hb:b∈Zs.map (·.2)
  ·obtain ⟨z,hz,rfl⟩:=List.mem_map.mp hb;obtain ⟨ps,more,h1,h2⟩:=tab z hz;exact ⟨_,h2.2.2⟩
  ·exact ⟨o,kw.keep b o (fun h=>nomatch h) hb e⟩
theorem aJp {loose:List Str}{mean:ExcName->Option Value}(k:KOk K)(PL:PureLaw)(X:K.In s'1.heap)(zok:Zok Zs [] s'1.heap)(T:Top prog loose mean mg mb s'1.heap)(hg:s'1.gens= #[])(ht:0<s'1.toks)
  {fa:Addr} (hfa:mg "law"=some (.ref fa)) {items:List Value} {ns:List Int} (hL:s'1.heap.get? L=some {cls:= .type "list",data:= .seq items.toArray}) (hI:IntsAre items ns) (hlen:ns.length<=63)
  {c:ClaimW} {cl:Str->Option Addr} {args:List WData} (hr:∀cls,c.raises args cls=false) (hp:c.post args (.bool true) args=true):
  wpAny (model P1 w) callerA (call (.ref fa) [.ref L]) (fun v s'=>GoodWG c cl mean args s'1 (.ok (.ret v)) s') E s'1:=by
 have eg:mg=mOf K mainGlobals:=funext fun n=>T.g.agree (kR k.nsG X) n
 obtain ⟨bm,ob,M⟩:=bmod_of_top T;have e4:bm=4:=by
  have:=nX k (n:=ofString "__builtins__") (a:=4) (by decide);rw [<- eg,M.name] at this
  cases this;rfl
 subst e4;have e339:fa=339:=by
  have:=nX k (n:=ofString "law") (a:=339) (by decide);rw [<- eg,hfa] at this
  cases this;rfl
 subst e339;have hLZ:L∉Zs.map (·.2):=fun q=>by
  obtain ⟨z,hz,rfl⟩:=List.mem_map.mp q;obtain ⟨ps,h1⟩:=zok.at' z hz;rw [h1.2.2] at hL;cases hL
 have G:Grd K mb ob s'1.heap:=⟨X,T.b,eg▸M,T.nolimit⟩;have hmb:dQ mb:=T.builtins;obtain ⟨fuel,hr'⟩:=PL ns hlen;refine wpAny_mono (aJo (w:=w) (ob:=ob) k hmb hr' _ _ _ Zt _ ⟨rfl,by decide,by decide⟩ ⟨G,zok⟩ (fun _ h=>h) (fun b hb=> ?_) ht (.cons (.mkList (l:=ns.map .int) (vs:=items.toArray) ⟨0,aB.mpr ⟨hLZ,hL⟩⟩ (fY hI)) .nil)) (fun v s' hv=> ?_) fun _ _ e=>e
 ·obtain ⟨z,hz,rfl⟩:=List.mem_map.mp (show b∈Zs.map (·.2) from hb);obtain ⟨ps,h1⟩:=zok.at' z hz;exact ⟨_,h1.2.2⟩
 ·obtain ⟨hden,kw⟩:=hv
  rcases hden with _ | b
  exact ⟨.inl ⟨_,_,[],rfl,hr,ReadsW.bool true,hp,fun _=>⟨List.nodup_nil,fun _ hm=>(nomatch hm)⟩⟩,aGp kw zok,kw.os,kw.bare (.of_eq hg)⟩
end
end Mine
end
namespace Mine.Pl
theorem aGq (vs:List AV):cf1.fn "_law_heaps" vs=aZ cf0 60 eN vs:=by
 unfold cf1;dsimp only;rw [if_pos rfl]
noncomputable def aPz:List Stmt:=aJ.body.take 4
noncomputable def xI:List Stmt:=aJ.body.drop 5
noncomputable def stP (i:Nat):Stmt:=aPz.getD i (.Pass default)
noncomputable def stQ (i:Nat):Stmt:=xI.getD i (.Pass default)
noncomputable def csc (i:Nat):Scope:=aId (pP (stQ i))
noncomputable def elt (i:Nat):Expr:=aO3 (pP (stQ i))
noncomputable abbrev V0 (script:List Int):List (Str × AV):=[(ofString "script",.list (script.map .int))]
noncomputable abbrev V1 (script:List Int)(hs:List Nat):List (Str × AV):=(ofString "heaps",.list (aH hs))::V0 script
noncomputable abbrev V2 (script:List Int)(hs:List Nat):List (Str × AV):=(ofString "pieces",.list ((hs.take 5).map fun x=>AV.str (txt (cG x))))::V1 script hs
noncomputable abbrev V3 (script:List Int)(hs:List Nat):List (Str × AV):=(ofString "ends",.list (hs.map fun x=>AV.str (txt (aJm x))))::V2 script hs
noncomputable abbrev V4 (script:List Int)(hs:List Nat):List (Str × AV):=(ofString "widths",.list (aH [gO (hs.getD 5 0),gO (hs.getD 6 0)]))::V3 script hs
theorem st1 {hs:List Nat}(h:aZ cf0 60 eN [.list (script.map .int)]=some (.list (aH hs))):
  exS cf1 aJ.mu (m+10) aJ.sc (mkV (V0 script)) (stP 0)=some (.next,mkV (V1 script hs)):=
 oL rfl rfl (iF rfl rfl (aG (by exact Nat.succ_ne_zero _) (aA rfl rfl)) (by decide) ((aGq _).trans h))
theorem st2 {hs:List Nat}(hl:hs.length=7):
  exS cf1 aJ.mu (m+40) aJ.sc (mkV (V1 script hs)) (stP 1)=some (.next,mkV (V2 script hs)):=by
 refine oL rfl rfl ((eE (l:=hs.take 5) (f:=fun (i:Nat)=>AV.int (i:Int)) (fun i=> .str (txt (cG i))) (by exact Nat.succ_ne_zero _) (by kernel_rfl) rfl (aJl (aA rfl rfl) (by decide) (by rw [List.length_map]; exact lef hl rfl)) (congrArg some List.map_take.symm) (by rw [List.length_take]; lia) fun x _=>aJn (if_pos rfl) rfl))
theorem st3 {hs:List Nat}(hl:hs.length=7):
  exS cf1 aJ.mu (m+40) aJ.sc (mkV (V2 script hs)) (stP 2)=some (.next,mkV (V3 script hs)):=by
 refine oL rfl rfl ((eE (l:=hs) (f:=fun (i:Nat)=>AV.int (i:Int)) (fun i=> .str (txt (aJm i))) (by exact Nat.succ_ne_zero _) (by kernel_rfl) rfl (aA rfl rfl) rfl (by exact lef hl rfl) fun x _=>aPx (if_pos rfl)))
theorem st4 {hs:List Nat}(hl:hs.length=7):
  exS cf1 aJ.mu (m+40) aJ.sc (mkV (V3 script hs)) (stP 3)=some (.next,mkV (V4 script hs)):=by
 have hg:∀i:Nat,i<7->lX (.list (aH hs)) (.int (i:Int))=some (.int ((hs.getD i 0:Nat):Int)):=fun i hi=>by
  refine (dS (by rw [List.length_map]; exact lef hl rfl) (by rw [List.length_map]; exact Nat.lt_of_lt_of_eq hi hl.symm)).trans ?_;rw [List.getElem_map,List.getD_eq_getElem?_getD,List.getElem?_eq_getElem (by exact Nat.lt_of_lt_of_eq hi hl.symm)]; rfl
 have hw:∀x:Nat,cO .Add (.int 1) (.int ((x:Int)%6))=some (.int (gO x:Int)):=fun x=>by
  rw [dH]; unfold gO;push_cast;rfl
 have one:∀(m i:Nat)(hi:i<7){pb pc pd pe pf:Pos}{kc ke:Nat},evE cf1 (m+9) aJ.sc (avV (V3 script hs)) ((.BinOp (.Subscript (.Name "heaps" pb) (.Constant (.int (i:Int)) kc pc) pd) .Mod (.Constant (.int 6) ke pe) pf))=some (.int ((hs.getD i 0:Nat)%6:Int)):=fun m i hi=>
  aC (bR (aA rfl rfl) aF (hg i hi)) aF (rY (by exact Int.natCast_nonneg _))
 exact oL rfl rfl (gU (by simp) (bC (by exact Nat.succ_ne_zero _) (aC aF (one (m+27) 5 (by exact Nat.le_add_left _ _)) (hw _)) (aC aF (one (m+26) 6 (by exact Nat.le_refl _)) (hw _))))
theorem aNe (script:List Int)(hs:script.length<=63):∃l:List Nat,l.length=7/\exB cf1 aJ.mu 305 aJ.sc (bD aJ.ps [.list (script.map .int)]) aJ.body=exB cf1 aJ.mu 301 aJ.sc (mkV (V4 script l)) (aJ.body.drop 4):=by
 obtain ⟨l,h1,h2⟩:=aIc cf0 script hs;have e:l.map AV.int=aH (l.map Int.toNat):=by
  unfold aH;rw [List.map_map];refine List.map_congr_left fun a ha=> ?_
  have:=(h2.2 a ha).1;show AV.int a=AV.int ((a.toNat:Nat):Int);rw [Int.toNat_of_nonneg this]
 rw [e] at h1;have hl:(l.map Int.toNat).length=7:=by rw [List.length_map]; exact h2.1
 have h0:bD aJ.ps [.list (script.map .int)]=mkV (V0 script):=by
  funext x
  show ((([(ofString "script",AV.list (script.map .int))]:List (Str × AV)).lookup x).map Slot.val)=(avV (V0 script) x).map Slot.val;rw [List.lookup_cons,aPw]
  by_cases q:x=ofString "script"
  ·have:(x==ofString "script")=true:=beq_iff_eq.mpr q;rw [if_pos q,this]
  ·have:(x==ofString "script")=false:=beq_eq_false_iff_ne.mpr q;rw [if_neg q,this]; rfl
 refine ⟨l.map Int.toNat,hl,?_⟩;rw [h0];refine (aE (k:=304) (st1 (m:=294) h1)).trans ?_;refine (aE (k:=303) (st2 (m:=263) hl)).trans ?_;refine (aE (k:=302) (st3 (m:=262) hl)).trans ?_;refine (aE (k:=301) (st4 (m:=261) hl)).trans ?_;rfl
section
variable {csc:Scope}{ρ:Loc}
theorem aJq {kx:Nat}{l:List AV}(hl:(ap.endLine==p.line)=true)(hn:as.length<30)(ha:eC cf m sc ρ as=some [.list l])(hv:aAp x [.list l]=some v)(hm:m≠0):evE cf (m+1) sc ρ (.Call (.Attribute (.Constant (.str x) kx xp) (ofString "join") ap) as [] p)=some v:=by
 obtain ⟨m,rfl⟩:∃k,m=k+1:=⟨m- 1,by lia⟩;rw [yM,hl,decide_eq_true hn];show (if (ofString "join"==("replace":Str))=true then gQ x as else if (ofString "join"==("join":Str))=true then ((eC cf (m+1) sc ρ as).bind fun z=>aAp x z) else none)=_;rw [if_neg (by decide),if_pos (by decide),ha];exact hv
theorem aGr {y z:Str}{ky kz:Nat}{yp zp:Pos}(hb:bY o=true)(hl:(ap.endLine==p.line)=true)(h:evE cf m sc ρ o=some (.str x))(hyz:y≠z)(hx:x.length<=2^20)(hz:z.length<=14):evE cf (m+1) sc ρ (.Call (.Attribute o (ofString "replace") ap) [.Constant (.str y) ky yp,.Constant (.str z) kz zp] [] p)=some (.str (Txt.replace x y z)):=by
 rw [yM,hb,hl,h];show (if (ofString "replace"==("replace":Str))=true then gQ x [.Constant (.str y) ky yp,.Constant (.str z) kz zp] else _)=_;rw [if_pos (by decide)];exact if_pos ⟨hyz,hx,hz⟩
theorem aP0 {f:Str}{fp:Pos}(hf:sc.names.lookup f=some .globalImplicit)(hd:(f==("__debug__":Str))=false)(ha:eC cf m sc ρ as=some vs)(hb:f∉[ofString "len",ofString "chr",ofString "min",ofString "max",ofString "sum",ofString "sorted",ofString "range",ofString "tuple",ofString "dict"])
  (hn:cf.fn f vs=none) (hv:cf.cl f vs=some v):evE cf (m+1) sc ρ (.Call (.Name f fp) as [] p)=some v:=by
 simp only [List.mem_cons,List.not_mem_nil,or_false,not_or] at hb;obtain ⟨h1,h2,h3,h4,h5,h6,h7,h8,h9⟩:=hb;have b1:aI f vs=none:=(if_neg h1).trans ((if_neg h2).trans ((if_neg h3).trans ((if_neg h4).trans ((if_neg h5).trans (if_neg h6)))));have b2:iK f vs=none:=(if_neg h7).trans ((if_neg h8).trans (if_neg h9));rw [yL,hf,hd,ha];show (match aI f vs with | some v=>some v | none=>match iK f vs with | some v=>some v | none=>match cf.fn f vs with | some v=>some v | none=>cf.cl f vs)=_;rw [b1,b2,hn,hv]
theorem jT {ρ:St}{t:Expr}{b:List Stmt}(h:evT cf (m+1) sc ρ.all t=some false):exS cf mu (m+2) sc ρ (.If t b [] p)=some (.next,ρ):=by
 exact (mZ h).trans aA4
theorem lM {a:AV}(h:okD k a)(hk:k<=64):cmp .NotEq a a=some false:=by
 show cmp .NotEq a a=(some true).map (!·);rw [<- aMv h hk];simp only [aRz]
end
noncomputable abbrev eP (r:List Str):AV:= .list (r.map AV.str)
theorem aAb {r:List Str}(h:∀x∈r,PyData.strOk x=true):okD 1 (eP r):=lK fun a ha=>by
 obtain ⟨x,hx,rfl⟩:=List.mem_map.mp ha;exact wZ (h x hx) 0
theorem aCl (vs:List AV):cf1.fn "_law_filled" vs=aZ cf0 100 cF vs:=by
 unfold cf1;dsimp only;rw [if_neg (by decide),if_pos rfl]
section
variable {l:List (Str × AV)}{ps:List Str}{w1 w2:Nat}
theorem st6 (h1:avV l "pages"=some (.list [eP (aW (w1:Int) ps (ofString "") []),eP (aW (w2:Int) ps (ofString "") [])]))(h2:avV l "pieces"=some (.list (ps.map AV.str)))(h3:avV l "widths"=some (.list (aH [w1,w2])))
  (hp:∀p∈ps,p.length<=1000/\PyData.strOk p=true) (hl:ps.length<=90) (ok1:∀x∈aW (w1:Int) ps (ofString "") [],PyData.strOk x=true) (ok2:∀x∈aW (w2:Int) ps (ofString "") [],PyData.strOk x=true):
  exS cf1 aJ.mu (m+40) aJ.sc (mkV l) (stQ 0)=some (.next,mkV l):=by
 have one:∀w:Nat,evE cf1 (m+37) (csc 0) (bQ (avV l) (csc 0) (ofString "width") (.int (w:Int))) (elt 0)=some (eP (aW (w:Int) ps (ofString "") [])):=fun w=>
  iF rfl rfl (bC (by exact Nat.succ_ne_zero _) (aA ((if_neg (by decide)).trans ((if_pos rfl).trans h2)) rfl) (aA (if_pos rfl) rfl)) (by decide) ((aCl _).trans (aB4 cf0 hp hl))
 refine jT ?_;rw [rX];refine bS (aA h1 rfl) (cR (by exact Nat.succ_ne_zero _) (by kernel_rfl) ?_ (aA h3 rfl) rfl (one w1) (one w2)) (lM (k:=2) (lK fun a ha=> ?_) (by decide))
 ·have hc:aJ.sc.names.lookup (ofString "pieces")=some NameKind.cell:=rfl;simp+decide [cP,h2,hc]
 ·simp only [List.mem_cons,List.not_mem_nil,or_false] at ha
  rcases ha with rfl | rfl
  ·exact aAb ok1
  ·exact aAb ok2
theorem aNf (a b:Nat):aI "max" [.list [.int (a:Int),.int (b:Int)]]=some (.int ((max a b:Nat):Int)):=by
 unfold aI;rw [if_neg (by decide),if_neg (by decide),if_neg (by decide),if_pos rfl];show some (AV.int (if (a:Int)<(b:Int) then (b:Int) else (a:Int)))=_
 congr 2
 rw [Nat.max_def]
 split <;> split <;> lia
theorem st7 {r1 r2:List Str}(h1:avV l "pages"=some (.list [eP r1,eP r2]))(b1:r1.length<=1000)(b2:r2.length<=1000):
  exS cf1 aJ.mu (m+40) aJ.sc (mkV l) (stQ 1)=some (.next,mkV ((ofString "n",.int ((max r1.length r2.length:Nat):Int))::l)):=by
 have one:∀(r:List Str),r.length<=1000->evE cf1 (m+36) (csc 1) (bQ (avV l) (csc 1) (ofString "rows") (eP r)) (elt 1)=some (.int (r.length:Int)):=fun r hr=>by
  have bl:=dE (l:=r.map AV.str) (by rw [List.length_map]; exact lit hr rfl);rw [List.length_map] at bl;exact cJ rfl rfl (aG (by exact Nat.succ_ne_zero _) (aA (if_pos rfl) rfl)) bl
 exact oL rfl rfl (cJ rfl rfl (aG (by exact Nat.succ_ne_zero _) (cR (by exact Nat.succ_ne_zero _) (by kernel_rfl) rfl (aA h1 rfl) rfl (one r1 b1) (one r2 b2))) (aNf _ _))
theorem aKt (a:Nat):∀l:List Nat,aDb (a:Int) (ofN l)=ofN (aPu a l)
 | []=>rfl
 | b::r=>by
  show aDb (a:Int) ((b:Int)::ofN r)=_;rw [aOg,aPv]
  by_cases h:a<=b
  ·rw [if_pos (by exact Int.ofNat_le.mpr h),Nat.ble_eq_true_of_le h]; rfl
  ·have:Nat.ble a b=false:=by
    rcases e:Nat.ble a b with _ | _
    ·rfl
    ·exact absurd (Nat.le_of_ble_eq_true e) h
   rw [if_neg (by lia),this,aKt a r]; rfl
theorem aGs:∀l:List Nat,qM (ofN l)=ofN (aGm l)
 | []=>rfl
 | a::r=>by
  show aDb (a:Int) (qM (ofN r))=_;rw [aGs r,aKt]; rfl
theorem dI (l:List Nat):aH l=(ofN l).map AV.int:=by unfold aH ofN;rw [List.map_map]; rfl
theorem xJ {l:List Nat}(h:l.length<64):aI "sorted" [.list (aH l)]=some (.list (aH (aGm l))):=by
 unfold aI;rw [if_neg (by decide),if_neg (by decide),if_neg (by decide),if_neg (by decide),if_neg (by decide),if_pos rfl];show (if (aH l).length<64 then (lW (aH l)).map fun ns=>AV.list ((qM ns).map AV.int) else none)=_;rw [if_pos (by rw [List.length_map]; exact h),dI,jO,dI];show some (AV.list _)=_;rw [aGs]
theorem aGt (h:n<=1000):cO .Mult (.list [.int 0]) (.int (n:Int))=some (.list (aH (List.replicate n 0))):=by
 show (if (0:Int)<=(n:Int)/\(n:Int)<=1000/\([AV.int 0]:List AV).length<=1000 then some (AV.list (List.replicate (n:Int).toNat [AV.int 0]).flatten) else none)=_;rw [if_pos ⟨by exact Int.natCast_nonneg _,by exact Int.ofNat_le.mpr h,by decide⟩,Int.toNat_natCast]
 congr 2
 unfold aH;rw [List.map_replicate]
 clear h
 induction n with
 | zero=>rfl
 | succ n ih=>rw [List.replicate_succ,List.replicate_succ,List.flatten_cons,ih]; rfl
theorem st8 {r1 r2:List Str}(h1:avV l "pages"=some (.list [eP r1,eP r2]))(h2:avV l "n"=some (.int (n:Int)))(b1:r1.length<=n)(b2:r2.length<=n)(hn:n<=20)(q1:∀x∈r1,x.length<=1000)(q2:∀x∈r2,x.length<=1000):
  exS cf1 aJ.mu (m+40) aJ.sc (mkV l) (stQ 2)=some (.next,mkV ((ofString "boards",.list [.list (aH (fO n (r1.map (·.length)))),.list (aH (fO n (r2.map (·.length))))])::l)):=by
 have one:∀(r:List Str),r.length<=n->(∀ x∈r,x.length<=1000)->evE cf1 (m+38) (csc 2) (bQ (avV l) (csc 2) (ofString "rows") (eP r)) (elt 2)=some (.list (aH (fO n (r.map (·.length))))):=fun r hr hx=>by
  have bl:=dE (l:=r.map AV.str) (by rw [List.length_map]; exact lit (Nat.le_trans hr hn) rfl);rw [List.length_map] at bl;have hs:cO .Sub (.int (n:Int)) (.int (r.length:Int))=some (.int ((n- r.length:Nat):Int)):=by rw [xH]; congr 2;lia
  have hb:fO n (r.map (·.length))=aGm (List.replicate (n- r.length) 0++r.map (·.length)):=by unfold fO;rw [List.length_map]
  rw [hb];refine cJ rfl rfl (aG (by exact Nat.succ_ne_zero _) (aC (b:= .list (aH (r.map (·.length)))) (aC (a:= .list [.int 0]) (gU (Nat.le_of_ble_eq_true rfl) (aG (Nat.succ_ne_zero _) aF)) (aC (aA ((if_neg (by decide)).trans ((if_pos rfl).trans h2)) rfl) (cJ rfl rfl (aG (by exact Nat.succ_ne_zero _) (aA (if_pos rfl) rfl)) bl) hs) (aGt (by exact lit (Nat.le_trans (Nat.sub_le _ _) hn) rfl)))
   ((eE (l:=r) (f:=AV.str) (fun s=> .int (s.length:Int)) (by exact Nat.succ_ne_zero _) (by kernel_rfl) rfl (aA (if_pos rfl) rfl) rfl (by exact lit (Nat.le_trans hr hn) rfl) fun x hx'=> ?_).trans ?_) (v:= .list (aH (List.replicate (n- r.length) 0++r.map (·.length)))) ?_)) (xJ ?_)
  ·exact cJ rfl rfl (aG (by exact Nat.succ_ne_zero _) (aA (if_pos rfl) rfl)) (kA (by have:=hx x hx';exact lit this rfl))
  ·unfold aH;rw [List.map_map]; rfl
  ·show (if (aH (List.replicate (n- r.length) 0)).length+(aH (r.map (·.length))).length<=2^20 then some (AV.list (aH (List.replicate (n- r.length) 0)++aH (r.map (·.length)))) else none)=_;rw [if_pos (by rw [List.length_map,List.length_map,List.length_replicate,List.length_map]; lia)];unfold aH;rw [List.map_append]
  ·rw [List.length_append,List.length_replicate,List.length_map]; lia
 refine oL rfl rfl (cR (by exact Nat.succ_ne_zero _) (by kernel_rfl) ?_ (aA h1 rfl) rfl (one r1 b1 q1) (one r2 b2 q2));have hc:aJ.sc.names.lookup (ofString "n")=some NameKind.cell:=rfl;simp+decide [cP,h2,hc]
end
theorem aJr (vs:List AV):cf1.fn "_law_mail" vs=aZ cf0 100 cU vs:=by
 unfold cf1;dsimp only;rw [if_neg (by decide),if_neg (by decide),if_pos rfl]
theorem aGu (vs:List AV):cf1.fn "_law_rooks" vs=aZ cf0 100 aO vs:=by
 unfold cf1;dsimp only;rw [if_neg (by decide),if_neg (by decide),if_neg (by decide),if_pos rfl]
theorem aGv:cf0.fn "quotedata"=quoteV:=by
 funext vs
 unfold cf0;dsimp only;rw [if_pos rfl]
theorem aKu (vs:List AV):cf1.fn "Whitespace" vs=none/\cf1.cl "Whitespace" vs=wsT vs:=by
 unfold cf1;dsimp only;refine ⟨?_,if_pos rfl⟩;rw [if_neg (by decide),if_neg (by decide),if_neg (by decide),if_neg (by decide),if_neg (by decide),if_neg (by decide),if_neg (by decide),if_neg (by decide)]
section
variable {l:List (Str × AV)}{b1 b2:List Nat}
theorem st9 {es:List (List Nat)}(h1:avV l "boards"=some (.list [.list (aH b1),.list (aH b2)]))(h2:avV l "ends"=some (.list (es.map fun l=>AV.str (txt l))))(q1:(∀ b∈b1,b<=100)/\b1.length<=10/\b1.length<=es.length)(q2:(∀ b∈b2,b<=100)/\b2.length<=10/\b2.length<=es.length)(qe:es.length<=100/\∀e∈es,fP e):
  exS cf1 aJ.mu (m+40) aJ.sc (mkV l) (stQ 3)=some (.next,mkV ((ofString "mails",.list [.str (txt (dG (eJ b1))),.str (txt (dG (eJ b2)))])::l)):=by
 have one:∀b:List Nat,(∀ x∈b,x<=100)/\b.length<=10/\b.length<=es.length->evE cf1 (m+38) (csc 3) (bQ (avV l) (csc 3) (ofString "board") (.list (aH b))) (elt 3)=some (.str (txt (dG (eJ b)))):=fun b q=>
  iF rfl rfl (bC (by exact Nat.succ_ne_zero _) (aA (if_pos rfl) rfl) (aA ((if_neg (by decide)).trans ((if_pos rfl).trans h2)) rfl)) (by decide) ((aJr _).trans (aJa cf0 aGv q.1 q.2.1 qe.1 q.2.2 qe.2))
 refine oL rfl rfl (cR (by exact Nat.succ_ne_zero _) (by kernel_rfl) ?_ (aA h1 rfl) rfl (one b1 q1) (one b2 q2));have hc:aJ.sc.names.lookup (ofString "ends")=some NameKind.cell:=rfl;simp+decide [cP,h2,hc]
theorem aSy (h1:avV l "boards"=some (.list [.list (aH b1),.list (aH b2)]))(h2:avV l "n"=some (.int (n:Int)))(q1:b1.length=n)(q2:b2.length=n)(hn:n<=20):
  exS cf1 aJ.mu (m+40) aJ.sc (mkV l) (stQ 4)=some (.next,mkV ((ofString "runs",.list [.list (aH (fQ b1)),.list (aH (fQ b2))])::l)):=by
 have one:∀b:List Nat,b.length=n->evE cf1 (m+38) (csc 4) (bQ (avV l) (csc 4) (ofString "board") (.list (aH b))) (elt 4)=some (.list (aH (fQ b))):=fun b hb=>by
  have hn':bQ (avV l) {kind:= .function,names:=[(ofString ".0",NameKind.local),(ofString "board",NameKind.cell),(ofString "range",NameKind.globalImplicit),(ofString "n",NameKind.free)],isGenerator:=false,isCoroutine:=false} (ofString "board") (.list (aH b)) (ofString "n")=some (.int (n:Int)):=(if_neg (by decide)).trans ((if_pos rfl).trans h2);have hb':bQ (avV l) {kind:= .function,names:=[(ofString ".0",NameKind.local),(ofString "board",NameKind.cell),(ofString "range",NameKind.globalImplicit),(ofString "n",NameKind.free)],isGenerator:=false,isCoroutine:=false} (ofString "board") (.list (aH b)) (ofString "board")=some (.list (aH b)):=if_pos rfl;refine (eE (l:=List.range n) (f:=fun (i:Nat)=>AV.int (i:Int)) (fun i=> .int ((b.getD i 0+n+1- i:Nat):Int)) (by exact Nat.succ_ne_zero _) (by kernel_rfl) ?_ (bV rfl (aG (by exact Nat.succ_ne_zero _) (aA hn' rfl)) (zR (aM (by exact ngl rfl) (by exact aCq hn rfl)))) (cB (by exact lit hn rfl)) (by rw [List.length_range]; exact lit hn rfl) fun i hi=> ?_).trans ?_
  ·simp+decide [cP,hn',hb']
  ·have hi:=List.mem_range.mp hi;have e1:lX (.list (aH b)) (.int (i:Int))=some (.int ((b.getD i 0:Nat):Int)):=by
    refine (dS (by rw [List.length_map]; exact lit (hb▸hn) rfl) (by rw [List.length_map]; exact hb▸hi)).trans ?_;rw [List.getElem_map,List.getD_eq_getElem?_getD,List.getElem?_eq_getElem (by exact hb▸hi)]; rfl
   refine aC (aC (aC (bZ (aA ((if_neg (by decide)).trans ((if_pos rfl).trans hb')) rfl) (aA (if_pos rfl) rfl) e1) (aA ((if_neg (by decide)).trans ((if_pos rfl).trans hn')) rfl) (dH _ _)) aF (dH _ _)) (aA (if_pos rfl) rfl) ?_;rw [xH];show some (AV.int _)=some (AV.int _)
   congr 2
   lia
  ·unfold aH fQ;rw [List.map_map,hb]; rfl
 refine oL rfl rfl (cR (by exact Nat.succ_ne_zero _) (by kernel_rfl) ?_ (aA h1 rfl) rfl (one b1 q1) (one b2 q2));have hc:aJ.sc.names.lookup (ofString "n")=some NameKind.cell:=rfl;simp+decide [cP,h2,hc]
end
theorem aGw {l:List Nat}(h:∀c∈l,c<1000):PyData.strOk (txt l)=true:=by
 unfold PyData.strOk;rw [Array.all_eq_true'];intro c hc;have:=h c (by simpa [txt] using hc);exact decide_eq_true (by exact lit this rfl)
theorem xK:∀(l:List Nat), ∀c∈dG l,c<1000
 | a::l,c,h=>by
  rw [kT] at h
  rcases List.mem_append.mp h with h | h
  ·rw [(List.mem_replicate.mp h).2]; exact Nat.le_add_left _ _
  ·rcases List.mem_cons.mp h with h | h
   ·lia
   ·rcases List.mem_cons.mp h with h | h
    ·lia
    ·exact xK l c h
theorem aAc:∀l:List Str,vF (l.map AV.str)=some l
 | []=>rfl
 | a::r=>by rw [List.map_cons,aLc,aAc r]; rfl
theorem aGx (l:List Nat):Txt.join (ofString "") (l.map fun r=>txt (List.replicate r 46++[13,10]))=txt (dG l):=by
 refine dP ((kD _).trans ?_);show _=dG l
 induction l with
 | nil=>rfl
 | cons a r ih=>
  rw [List.map_cons,List.flatMap_cons,ih,kT];show (List.replicate a 46++[13,10])++dG r=_;simp
theorem qF:∀(l:List Nat)(B:Nat),(∀ a∈l,a<=B)->((l.map fun r=>txt (List.replicate r 46++[13,10])).map (·.length)).sum<=l.length*(B+2)
 | [],_,_=>by simp
 | a::l,B,h=>by
  have h1:=h a (List.mem_cons_self ..);have h2:=qF l B fun x hx=>h x (List.mem_cons_of_mem _ hx)
  rw [List.map_cons,List.map_cons,List.sum_cons,List.length_cons,Nat.succ_mul,dR,List.length_append,List.length_replicate];simp only [List.length_cons,List.length_nil]
  lia
section
variable {l:List (Str × AV)}{m1 m2:List Nat}
theorem aSz (h1:avV l "mails"=some (.list [.str (txt (dG m1)),.str (txt (dG m2))]))(h2:avV l "runs"=some (.list [.list (aH m1),.list (aH m2)]))(q1:(∀ r∈m1,r<=100)/\m1.length<=20)(q2:(∀ r∈m2,r<=100)/\m2.length<=20):
  exS cf1 aJ.mu (m+40) aJ.sc (mkV l) (stQ 5)=some (.next,mkV l):=by
 have one:∀b:List Nat,(∀ r∈b,r<=100)/\b.length<=20->evE cf1 (m+37) (csc 5) (bQ (avV l) (csc 5) (ofString "row") (.list (aH b))) (elt 5)=some (.str (txt (dG b))):=fun b q=>by
  refine aJq (l:=(b.map fun r=>txt (List.replicate r 46++[13,10])).map AV.str) rfl (by simp) (aG (by exact Nat.succ_ne_zero _) ((eE (l:=b) (f:=fun (i:Nat)=>AV.int (i:Int)) (fun r=> .str (txt (List.replicate r 46++[13,10]))) (by exact Nat.succ_ne_zero _) (by kernel_rfl) rfl (aA (if_pos rfl) rfl) rfl (by exact lit q.2 rfl) fun r hr=> ?_).trans ?_)) ?_ (by exact Nat.succ_ne_zero _)
  ·have hr:=q.1 r hr;refine aC (a:= .str (txt (List.replicate r 46))) (aC iP (aA (if_pos rfl) rfl) (qO (by exact lit hr rfl))) iP ?_;rw [qN (by rw [dR,List.length_replicate]; show r+2<=_;exact adl hr rfl)];show some (AV.str (txt _++txt [13,10]))=_;rw [hJ]
  ·rw [List.map_map]; rfl
  ·show (vF _).bind _=_;rw [aAc];have hs:=qF b 100 q.1;have hm:b.length*(100+2)<=20*(100+2):=Nat.mul_le_mul_right _ q.2;show (if _ then some (AV.str (Txt.join (ofString "") _)) else none)=_;rw [if_pos,aGx];have:(ofString "").length=0:=rfl;rw [this]
   lia
 refine jT ?_;rw [rX];refine bS (aA h1 rfl) (cR (by exact Nat.succ_ne_zero _) (by kernel_rfl) rfl (aA h2 rfl) rfl (one m1 q1) (one m2 q2)) (lM (k:=1) (lK fun a ha=> ?_) (by decide));simp only [List.mem_cons,List.not_mem_nil,or_false] at ha
 rcases ha with rfl | rfl
 ·exact wZ (aGw (xK _)) 0
 ·exact wZ (aGw (xK _)) 0
theorem aNg {r cnt:List Nat}{N:Nat}(hr:lB (cV r) [] 0 0 0=(ofN cnt,0,(N:Int),(n:Int)))(hb:(∀ a∈r,a<=20)/\r.length<=20):wsT [.str (txt (cV r))]=some (wsI (txt (cV r)) N n (ofN cnt) 0 (decide ((ofN cnt).length<=1))):=by
 have hl:=qA r 20 hb.1;have hm:r.length*(20+1)<=20*(20+1):=Nat.mul_le_mul_right _ hb.2;refine (if_pos ⟨uR r,by rw [dR]; exact lit (Nat.le_trans hl hm) rfl⟩).trans ?_;have:(txt (cV r)).cps.toList=cV r:=rfl;rw [this,hr]; rfl
theorem aS0 {L1 L2:AV}(h1:avV l "mails"=some (.list [.str (txt (dG m1)),.str (txt (dG m2))]))(q1:(∀ r∈m1,r<=20)/\m1.length<=20)(q2:(∀ r∈m2,r<=20)/\m2.length<=20)(w1:wsT [.str (txt (cV m1))]=some L1)(w2:wsT [.str (txt (cV m2))]=some L2):
  exS cf1 aJ.mu (m+40) aJ.sc (mkV l) (stQ 6)=some (.next,mkV ((ofString "leads",.list [L1,L2])::l)):=by
 have one:∀(b:List Nat)(L:AV),(∀ r∈b,r<=20)/\b.length<=20->wsT [.str (txt (cV b))]=some L->evE cf1 (m+38) (csc 6) (bQ (avV l) (csc 6) (ofString "mail") (.str (txt (dG b)))) (elt 6)=some L:=fun b L q hL=>by
  have hd:=rM b 20 q.1;have hm:b.length*(20+2)<=20*(20+2):=Nat.mul_le_mul_right _ q.2;have e1:Txt.replace (txt (dG b)) (ofString "\r\n") (ofString "\t")=txt (kX b):=dP ((kH _ _ _ (by decide)).trans (xC b));have ht:∀(b:List Nat)(B:Nat),(∀ a∈b,a<=B)->(kX b).length<=b.length*(B+1):=fun b B=>by
   induction b with
   | nil=>intro _;exact Nat.zero_le _
   | cons a l ih=>
    intro h;have h1:=h a (List.mem_cons_self ..);have h2:=ih fun x hx=>h x (List.mem_cons_of_mem _ hx)
    rw [rS,List.length_append,List.length_replicate,List.length_cons,List.length_cons,Nat.succ_mul]
    lia
  have ht':=ht b 20 q.1;have hm':b.length*(20+1)<=20*(20+1):=Nat.mul_le_mul_right _ q.2;refine aP0 rfl rfl (aG (by exact Nat.succ_ne_zero _) (aGr rfl rfl (aGr rfl rfl (aA (if_pos rfl) rfl) (by decide) (by rw [dR]; exact lit (Nat.le_trans hd hm) rfl) (by decide)) (by decide) (by rw [e1,dR]; lia) (by decide))) (by decide) (aKu _).1 ((aKu _).2.trans ?_);rw [aGf]; exact hL
 exact oL rfl rfl (cR (by exact Nat.succ_ne_zero _) (by kernel_rfl) rfl (aA h1 rfl) rfl (one m1 L1 q1 w1) (one m2 L2 q2 w2))
theorem aS1 {b1 b2 t1 t2:List Nat}(h1:avV l "boards"=some (.list [.list (aH b1),.list (aH b2)]))(q1:(∀ x∈b1,x<=6)/\b1.length<=5)(q2:(∀ x∈b2,x<=6)/\b2.length<=5)(r1:kW b1=some t1)(r2:kW b2=some t2):
  exS cf1 aJ.mu (m+40) aJ.sc (mkV l) (stQ 7)=some (.next,mkV ((ofString "rooks",.list [.list (aH t1),.list (aH t2)])::l)):=by
 have one:∀b t:List Nat,(∀ x∈b,x<=6)/\b.length<=5->kW b=some t->evE cf1 (m+38) (csc 7) (bQ (avV l) (csc 7) (ofString "board") (.list (aH b))) (elt 7)=some (.list (aH t)):=fun b t q ht=>
  iF rfl rfl (aG (by exact Nat.succ_ne_zero _) (aA (if_pos rfl) rfl)) (by decide) ((aGu _).trans (aF9 cf0 q.1 q.2 ht))
 exact oL rfl rfl (cR (by exact Nat.succ_ne_zero _) (by kernel_rfl) rfl (aA h1 rfl) rfl (one b1 t1 q1 r1) (one b2 t2 q2 r2))
end
structure One (n:Nat) where
 c:Cls
 b:List Nat
 f:aNb n c b
namespace One
noncomputable abbrev ms (o:One n):List Nat:=fQ o.b
noncomputable abbrev lead (o:One n):AV:=wsI (txt (cV o.ms)) ((pE o.ms+n:Nat):Int) (n:Int) (ofN o.c.cnt) 0 (decide ((ofN o.c.cnt).length<=1))
noncomputable abbrev told (o:One n):List Nat:=o.c.told
end One
structure gP {n:Nat}(o1 o2:One n)(ρ:St):Prop where
 leads:ρ "leads"=some (.val (.list [o1.lead,o2.lead]))
 runs:ρ "runs"=some (.val (.list [.list (aH o1.ms),.list (aH o2.ms)]))
 rooks:ρ "rooks"=some (.val (.list [.list (aH o1.told),.list (aH o2.told)]))
 n:ρ "n"=some (.val (.int (n:Int)))
theorem gP.set {o1 o2:One n}{ρ:St}(H:gP o1 o2 ρ){v:Slot}(h:x∉[ofString "leads",ofString "runs",ofString "rooks",ofString "n"]):gP o1 o2 (ρ.set x v):=by
 simp only [List.mem_cons,List.not_mem_nil,or_false,not_or] at h;exact ⟨St.set_ne (Ne.symm h.1) H.leads,St.set_ne (Ne.symm h.2.1) H.runs,St.set_ne (Ne.symm h.2.2.1) H.rooks,St.set_ne (Ne.symm h.2.2.2) H.n⟩
theorem oM {I:St->Prop}:∀{l:List AV},(∀ a∈l,∀ρ,I ρ->∃ρ',G a ρ=some (.next,ρ')/\I ρ')->∀ρ,I ρ->∃ρ',jW G l ρ=some (.next,ρ')/\I ρ'
 | [],_,ρ,H=>⟨ρ,rfl,H⟩
 | a::r,hG,ρ,H=>by
  obtain ⟨ρ1,e1,H1⟩:=hG a (List.mem_cons_self ..) ρ H;obtain ⟨ρ2,e2,H2⟩:=oM (fun b hb=>hG b (List.mem_cons_of_mem _ hb)) ρ1 H1;exact ⟨ρ2,(aX e1).trans e2,H2⟩
theorem aCm (vs:List AV):cf1.fn "_law_placed" vs=aZ cf0 100 aS vs:=by
 unfold cf1;dsimp only;rw [if_neg (by decide),if_neg (by decide),if_neg (by decide),if_neg (by decide),if_pos rfl]
theorem xL (vs:List AV):cf1.fn "_law_product" vs=aZ cf0 100 aY vs:=by
 unfold cf1;dsimp only;rw [if_neg (by decide),if_neg (by decide),if_neg (by decide),if_neg (by decide),if_neg (by decide),if_pos rfl]
theorem aCn (vs:List AV):cf1.fn "_law_column" vs=aZ cf0 100 lJ vs:=by
 unfold cf1;dsimp only;rw [if_neg (by decide),if_neg (by decide),if_neg (by decide),if_neg (by decide),if_neg (by decide),if_neg (by decide),if_pos rfl]
theorem aAd:∀l:List Nat,pE l=l.sum
 | []=>rfl
 | a::r=>by rw [aKs,List.sum_cons,aAd r]
theorem aAe {a b:Int}(h:a=b):cmp .NotEq (.int a) (.int b)=some false:=by
 rw [h]; exact lM (aFz b 0) (by decide)
section
variable {ρ:Loc}
theorem aKv {r:Bool}(h:evA cf m sc ρ .Or es=some r):evT cf (m+1) sc ρ (.BoolOp .Or es p)=some r:=by simp only [aD0]; exact h
theorem jU {r:Bool}(h:evT cf m sc ρ e=some false)(h':evA cf m sc ρ .Or es=some r):evA cf (m+1) sc ρ .Or (e::es)=some r:=by
 rw [aSg,h]; exact h'
theorem aAf (hm:m≠0):evA cf m sc ρ .Or []=some false:=by
 rcases m with _ | m
 ·exact absurd rfl hm
 ·rw [aOy]; rfl
end
section
variable {o1 o2:One n}
noncomputable def pick (o1 o2:One n):Nat->One n
 | 0=>o1
 | _=>o2
theorem rZ {α:Type}{f:One n->AV}(hk:k<2):lX (.list [f o1,f o2]) (.int (k:Int))=some (f (pick o1 o2 k)):=by
 match k,hk with
 | 0,_=>rfl
 | 1,_=>rfl
theorem aP1 (H:gP o1 o2 ρ)(hk:k<2)(gk:ρ "k"=some (.val (.int (k:Int))))(hn:n<=20):
  ∃ρ',exB cf1 aJ.mu (m+60) aJ.sc ρ (eW (stQ 8))=some (.next,ρ')/\gP o1 o2 ρ':=by
 have ld:∀(ρ:St)(m:Nat)(pa pb pc:Pos),gP o1 o2 ρ->ρ "k"=some (.val (.int (k:Int)))->evE cf1 (m+5) aJ.sc ρ.all ((Name "leads" pa).Subscript (Name "k" pb) pc)=some (pick o1 o2 k).lead:=fun ρ m pa pb pc H gk=>
  bZ (aA (aD H.leads) rfl) (aA (aD gk) rfl) (rZ (α:=Unit) (f:=fun o=>o.lead) hk)
 have hif:exS cf1 aJ.mu (m+59) aJ.sc ρ ((eW (stQ 8)).getD 0 (.Pass default))=some (.next,ρ):=by
  refine jT (aKv (jU ?_ (jU ?_ (jU ?_ (aAf (by exact Nat.succ_ne_zero _))))))
  ·exact bS (bR (eB rfl (ld ρ (m+48) _ _ _ H gk) rfl rfl rfl) aF rfl) aF (aAe rfl)
  ·exact bS (eB rfl (ld ρ (m+48) _ _ _ H gk) rfl rfl rfl) (aA (aD H.n) rfl) (aAe rfl)
  ·refine bS (eB rfl (ld ρ (m+47) _ _ _ H gk) rfl rfl rfl) (aC (cJ rfl rfl (aG (by exact Nat.succ_ne_zero _) (bZ (aA (aD H.runs) rfl) (aA (aD gk) rfl) (rZ (α:=Unit) (f:=fun o=> .list (aH o.ms)) hk))) (zQ _)) (aA (aD H.n) rfl) (dH _ _)) (aAe ?_);rw [aAd]; push_cast;rfl
 have hit:bL (.range 0 ((n:Int)+1) 1)=some (aH (List.range (n+1))):=by
  have:=cB (n:=n+1) (by exact sll hn rfl);rw [show ((n+1:Nat):Int)=(n:Int)+1 by push_cast;rfl] at this;exact this
 obtain ⟨ρ',e,H'⟩:=oM (l:=aH (List.range (n+1))) (I:=fun ρ=>gP o1 o2 ρ/\ρ "k"=some (.val (.int (k:Int)))) (G:=fun a ρ=>exB cf1 aJ.mu (m+57) aJ.sc (ρ.set "x" (.val a)) (eW ((eW (stQ 8)).getD 1 (.Pass default)))) (fun a ha ρ hI=>by
   obtain ⟨x,hx,rfl⟩:=List.mem_map.mp ha;have hx:=List.mem_range.mp hx;obtain ⟨H,gk⟩:=hI;have H1:=H.set (x:=ofString "x") (v:= .val (.int (x:Int))) (by decide);have gk1:ρ.set "x" (.val (.int (x:Int))) (ofString "k")=some (.val (.int (k:Int))):=St.set_nb rfl gk;have gx:ρ.set "x" (.val (.int (x:Int))) (ofString "x")=some (.val (.int (x:Int))):=if_pos rfl;refine ⟨_,aU (jT ?_),H1,gk1⟩;obtain ⟨p,e1,e2⟩:=(pick o1 o2 k).f.prod x (by exact Nat.le_of_lt_succ hx);have hc:=(pick o1 o2 k).f.cnt;have ht:=(pick o1 o2 k).f.told;have lc:(ofN (pick o1 o2 k).c.cnt).length<=1000:=by unfold ofN;rw [List.length_map]; exact lit hc.2 rfl
   have lt:(ofN (pick o1 o2 k).told).length=n+1:=by unfold ofN;rw [List.length_map]; exact ht
   refine bS (iF rfl rfl (bC (by exact Nat.succ_ne_zero _) (bR (eB rfl (ld _ (m+45) _ _ _ H1 gk1) rfl rfl rfl) aF rfl) (aC (aC (aA (aD H1.n) rfl) aF (dH _ _)) (aA (aD gx) rfl) (v:= .int ((n+1- x:Nat):Int)) (by rw [xH]; exact congrArg (fun z=>some (AV.int z)) (by lia)))) (by decide) ((xL _).trans (wX cf0 lc e1)))
    (iF rfl rfl (bC (by exact Nat.succ_ne_zero _) (bZ (aA (aD H1.rooks) rfl) (aA (aD gk1) rfl) (rZ (α:=Unit) (f:=fun o=> .list (aH o.told)) hk)) (aA (aD gx) rfl)) (by decide) ((aCm _).trans ?_)) (aAe (a:=p) rfl)
   rw [dI];exact aB7 cf0 (by rw [lt]; exact sll hn rfl) (by rw [lt]; exact Nat.succ_pos _) e2) ρ ⟨H,gk⟩
 exact ⟨ρ',(aE hif).trans (aU (cQ rfl (bV rfl (aG (by exact Nat.succ_ne_zero _) (aC (aA (bN H.n) rfl) aF (dH _ _))) (zR (aM (by exact ngl rfl) (by lia)))) hit e)),H'.1⟩
end
section
variable {o1 o2:One n}
theorem aS2 (H:gP o1 o2 ρ)(hb:∀(ρ:St)(k:Nat),gP o1 o2 ρ->k<2->ρ "k"=some (.val (.int (k:Int)))->∃ρ',exB cf1 aJ.mu (m+60) aJ.sc ρ (eW (stQ 8))=some (.next,ρ')/\gP o1 o2 ρ'):
  ∃ρ',exS cf1 aJ.mu (m+61) aJ.sc ρ (stQ 8)=some (.next,ρ')/\gP o1 o2 ρ':=by
 obtain ⟨ρ',e,H'⟩:=oM (l:=aH (List.range 2)) (I:=gP o1 o2) (G:=fun a ρ=>exB cf1 aJ.mu (m+60) aJ.sc (ρ.set "k" (.val a)) (eW (stQ 8))) (fun a ha ρ H=>by
  obtain ⟨k,hk,rfl⟩:=List.mem_map.mp ha;exact hb _ k (H.set (by decide)) (List.mem_range.mp hk) (if_pos rfl)) ρ H
 exact ⟨ρ',cQ rfl (bV rfl (aG (by exact Nat.succ_ne_zero _) (aF)) (zR (a:=2) (aM (by exact ngl rfl) (by decide)))) (cB (n:=2) (by exact Nat.le_add_left _ _)) e,H'⟩
noncomputable def al (o1 o2:One n):Bool:=decide (ofN o1.told=ofN o2.told)
structure xM (o1 o2:One n)(l:List AV)(ρ:St):Prop where
 at':gP o1 o2 ρ
 alike:ρ "alike"=some (.val (.bool (al o1 o2)))
 wit:ρ "witness"=some (.own (.list l))
theorem aS3 (H:gP o1 o2 ρ):
  exS cf1 aJ.mu (m+20) aJ.sc ρ (stQ 9)=some (.next,ρ.set "alike" (.val (.bool (al o1 o2)))):=by
 refine cD rfl rfl (iQ (a:= .list (aH o1.told)) (b:= .list (aH o2.told)) (bR (aA (aD H.rooks) rfl) aF rfl) (bR (aA (aD H.rooks) rfl) aF rfl) ?_) rfl;show cN _ _=_;rw [dI,dI,aMw]; rfl
theorem aP2 {s:Nat}(H:xM o1 o2 l ρ)(gs:ρ "size"=some (.val (.int (s:Int))))(h1:1<=s)(h2:s<=1000)(hl:l.length<=1000)(hn:n<=20):
  ∃ρ',exB cf1 aJ.mu (m+40) aJ.sc ρ (eW (stQ 11))=some (.next,ρ')/\xM o1 o2 (l++gM (fun s=>bU (ofN o1.ms) s) (fun s=>bU (ofN o2.ms) s) [s]) ρ':=by
 have lr:∀o:One n,(ofN o.ms).length=n:=fun o=>by
  show (List.map _ (fQ o.b)).length=n;unfold fQ;rw [List.length_map,List.length_map,List.length_range,o.f.len]
 have col:∀o:One n,cf1.fn "_law_column" [.list (aH o.ms),.int (s:Int)]=some (.int (bU (ofN o.ms) s)):=fun o=>by
  refine (aCn _).trans ?_;rw [dI];exact aB6 cf0 (by exact Int.ofNat_lt.mpr h1) (by exact Int.ofNat_le.mpr h2) (by rw [lr]; exact lit hn rfl)
 have hv:evE cf1 (m+38) aJ.sc ρ.all (tF ((eW (stQ 11)).getD 0 (.Pass default)))=some (.tup [.int s,.int (bU (ofN o1.ms) s),.int (bU (ofN o2.ms) s)]):=
  vU (by decide+revert) (jF (aA (aD gs) rfl) (bC (by exact Nat.succ_ne_zero _) (iF rfl rfl (bC (by exact Nat.succ_ne_zero _) (bR (aA (aD H.at'.runs) rfl) aF rfl) (aA (aD gs) rfl)) (by decide) (col o1))
   (iF rfl rfl (bC (by exact Nat.succ_ne_zero _) (bR (aA (aD H.at'.runs) rfl) aF rfl) (aA (aD gs) rfl)) (by decide) (col o2))))
 have s1:=cD (cf:=cf1) (sc:=aJ.sc) (mu:=aJ.mu) (ρ:=ρ) (x:="columns") (px:=default) (p:=default) rfl rfl hv rfl;have H1:xM o1 o2 l (ρ.set "columns" (.val (.tup [.int s,.int (bU (ofN o1.ms) s),.int (bU (ofN o2.ms) s)]))):=⟨H.at'.set (by decide),St.set_nb rfl H.alike,St.set_nb rfl H.wit⟩;have gc:ρ.set "columns" (.val (.tup [.int s,.int (bU (ofN o1.ms) s),.int (bU (ofN o2.ms) s)])) (ofString "columns")=some (.val (.tup [.int s,.int (bU (ofN o1.ms) s),.int (bU (ofN o2.ms) s)])):=if_pos rfl;generalize ρ.set "columns" (.val (.tup [.int s,.int (bU (ofN o1.ms) s),.int (bU (ofN o2.ms) s)]))=ρ1 at s1 H1 gc;have ht:evT cf1 (m+37) aJ.sc ρ1.all (tF ((eW (stQ 11)).getD 1 (.Pass default)))=some (!(decide (bU (ofN o1.ms) s=bU (ofN o2.ms) s))):=
  bS (bR (aA (aD gc) rfl) aF rfl) (bR (aA (aD gc) rfl) aF rfl) (congrArg (Option.map (!·)) (aF1 _ _))
 by_cases q:bU (ofN o1.ms) s=bU (ofN o2.ms) s
 ·refine ⟨ρ1,(aE s1).trans (aU ((jE ht).trans ?_)),?_⟩
  ·rw [decide_eq_true q]; rfl
  ·have:gM (fun s=>bU (ofN o1.ms) s) (fun s=>bU (ofN o2.ms) s) [s]=[]:=by simp [gM,q]
   rw [this,List.append_nil]; exact H1
 ·refine ⟨ρ1.set "witness" (.own (.list (l++[.tup [.int s,.int (bU (ofN o1.ms) s),.int (bU (ofN o2.ms) s)]]))),(aE s1).trans (aU ((jE ht).trans ?_)),?_⟩
  ·rw [decide_eq_false q];refine aU ?_;exact vT rfl (by decide) (aA (aD gc) rfl) H1.wit rfl (by exact lit hl rfl)
  ·have:gM (fun s=>bU (ofN o1.ms) s) (fun s=>bU (ofN o2.ms) s) [s]=[.tup [.int s,.int (bU (ofN o1.ms) s),.int (bU (ofN o2.ms) s)]]:=by simp [gM,q]
   rw [this];exact ⟨H1.at'.set (by decide),St.set_nb rfl H1.alike,if_pos rfl⟩
theorem aKw {f g:Nat->Int}(hG:∀ρ l (s:Nat),xM o1 o2 l ρ->l.length<=1000->1<=s->s<=1000->∃ρ',G (.int (s:Int)) ρ=some (.next,ρ')/\xM o1 o2 (l++gM f g [s]) ρ'):
  ∀(ss:List Nat)(ρ:St)(l:List AV),xM o1 o2 l ρ->(∀ s∈ss,1<=s/\s<=1000)->l.length+ss.length<=1000->∃ρ',jW G (aH ss) ρ=some (.next,ρ')/\xM o1 o2 (l++gM f g ss) ρ'
 | [],ρ,l,H,_,_=>⟨ρ,rfl,by unfold gM;simpa using H⟩
 | s::ss,ρ,l,H,hs,hl=>by
  simp only [List.length_cons] at hl;have h0:=hs s (List.mem_cons_self ..);obtain ⟨ρ1,e1,H1⟩:=hG ρ l s H (by exact aL1 hl) h0.1 h0.2;have h3:=zL f g [s];simp only [List.length_singleton] at h3;obtain ⟨ρ2,e2,H2⟩:=aKw hG ss ρ1 _ H1 (fun t ht=>hs t (List.mem_cons_of_mem _ ht)) (by rw [List.length_append]; lia);refine ⟨ρ2,by rw [aH,List.map_cons]; exact (aX e1).trans e2,?_⟩;have:l++gM f g [s]++gM f g ss=l++gM f g (s::ss):=by
   unfold gM;rw [List.append_assoc,<-List.map_append,<-List.filter_append]; rfl
  rw [<- this]; exact H2
theorem uZ:∀(r:List Nat)(a:Nat),aAn (ofN r) (a:Int)=((max a (vA r):Nat):Int)
 | [],a=>by show (a:Int)=((max a 0:Nat):Int); rw [Nat.max_zero]
 | b::r,a=>by
  show aAn (ofN r) (if (a:Int)<(b:Int) then (b:Int) else (a:Int))=_;have:(if (a:Int)<(b:Int) then (b:Int) else (a:Int))=((max a b:Nat):Int):=by rw [Nat.max_def]; split <;> split <;> lia
  rw [this,uZ r (max a b),uW,Nat.max_assoc]
theorem oN:∀l k:List Nat,vA (l++k)=max (vA l) (vA k)
 | [],k=>(Nat.zero_max _).symm
 | a::l,k=>by rw [List.cons_append,uW,uW,oN l k,Nat.max_assoc]
theorem aJs {l:List Nat}(h:l≠[]):aI "max" [.list (aH l)]=some (.int (vA l:Int)):=by
 rcases l with _ | ⟨a,r⟩
 ·exact absurd rfl h
 ·unfold aI;rw [if_neg (by decide),if_neg (by decide),if_neg (by decide),if_pos rfl];show (match lW (aH (a::r)) with | some (a::r)=>some (AV.int (aAn r a)) | _=>none)=_;rw [dI,jO];show some (AV.int (aAn (ofN r) (a:Int)))=_;rw [uZ,uW]
end
section
variable {o1 o2:One n}
noncomputable def top (o1 o2:One n):Nat:=max o1.c.cnt.length o2.c.cnt.length
noncomputable def aAg (o1 o2:One n):List AV:=gM (fun s=>bU (ofN o1.ms) s) (fun s=>bU (ofN o2.ms) s) (List.range' 1 (top o1 o2))
theorem aGy (o:One n):o.ms.length=n:=by
 show (fQ o.b).length=n;unfold fQ;rw [List.length_map,List.length_range,o.f.len]
theorem aAh (o1 o2:One n):top o1 o2<=12:=by
 have h1:=o1.f.cnt.2;have h2:=o2.f.cnt.2;unfold top;rw [Nat.max_def]; split <;> omega
theorem aP3 (o1 o2:One n):vA (o1.ms++o2.ms)+1=top o1 o2:=by
 have e1:o1.c.cnt.length=vA o1.ms+1:=o1.f.mx;have e2:o2.c.cnt.length=vA o2.ms+1:=o2.f.mx;unfold top;rw [oN,e1,e2,Nat.max_def,Nat.max_def]
 split <;> split <;> lia
theorem aS4 (H:xM o1 o2 [] ρ)(hn:1<=n/\n<=20)(hb:∀(ρ:St)(l:List AV)(s:Nat),xM o1 o2 l ρ->ρ "size"=some (.val (.int (s:Int)))->1<=s->s<=1000->l.length<=1000->∃ρ',exB cf1 aJ.mu (m+40) aJ.sc ρ (eW (stQ 11))=some (.next,ρ')/\xM o1 o2 (l++gM (fun s=>bU (ofN o1.ms) s) (fun s=>bU (ofN o2.ms) s) [s]) ρ'):
  ∃ρ',exS cf1 aJ.mu (m+41) aJ.sc ρ (stQ 11)=some (.next,ρ')/\xM o1 o2 (aAg o1 o2) ρ':=by
 have l1:=aGy o1;have l2:=aGy o2;have ht:=aAh o1 o2;obtain ⟨ρ',e,H'⟩:=aKw (G:=fun a ρ=>exB cf1 aJ.mu (m+40) aJ.sc (ρ.set "size" (.val a)) (eW (stQ 11))) (f:=fun s=>bU (ofN o1.ms) s) (g:=fun s=>bU (ofN o2.ms) s) (fun ρ l s H hl h1 h2=>hb _ l s ⟨H.at'.set (by decide),St.set_nb rfl H.alike,St.set_nb rfl H.wit⟩ (if_pos rfl) h1 h2 hl) (List.range' 1 (top o1 o2)) ρ [] H (fun s hs=>by have:=List.mem_range'_1.mp hs;lia) (by simp;exact lit ht rfl);have hcat:cO .Add (.list (aH o1.ms)) (.list (aH o2.ms))=some (.list (aH (o1.ms++o2.ms))):=by
  show (if (aH o1.ms).length+(aH o2.ms).length<=2^20 then some (AV.list (aH o1.ms++aH o2.ms)) else none)=_;rw [if_pos (by rw [List.length_map,List.length_map]; lia)];unfold aH;rw [List.map_append]
 have hne:o1.ms++o2.ms≠[]:=fun q=>by
  have:=congrArg List.length q;rw [List.length_append] at this;simp only [List.length_nil] at this
  lia
 have hmx:cO .Add (.int (vA (o1.ms++o2.ms):Int)) (.int 2)=some (.int ((top o1 o2:Int)+1)):=by
  rw [dH,<-aP3];exact congrArg (fun z=>some (AV.int z)) (by push_cast;exact rfl)
 have hit:bL (.range 1 ((top o1 o2:Int)+1) 1)=some (aH (List.range' 1 (top o1 o2))):=by
  show bF _ _ _=_;unfold bF;rw [if_pos ⟨aM (by exact ngl rfl) (by decide),aM (by exact ngl rfl) (by lia)⟩,if_pos rfl];have:((top o1 o2:Int)+1- 1).toNat=top o1 o2:=by lia
  rw [this];unfold aH;rw [List.range'_eq_map_range,List.map_map]
  congr 2
  funext i
  simp
 refine ⟨ρ',cQ rfl (bV rfl (bC (by exact Nat.succ_ne_zero _) aF (aC (cJ rfl rfl (aG (by exact Nat.succ_ne_zero _) (aC (bR (aA (bN H.at'.runs) rfl) aF rfl) (bR (aA (bN H.at'.runs) rfl) aF rfl) hcat)) (aJs hne)) aF hmx)) (aKn (aM (by exact ngl rfl) (by decide)) (aM (by exact ngl rfl) (by lia)))) hit e,by rw [List.nil_append] at H';exact H'⟩
theorem aNh (vs:List AV):cf1.me "not_equal_witness" vs=aZ cf0 100 aN vs:=by
 unfold cf1;dsimp only;rw [if_neg (by decide),if_pos rfl]
theorem aGz (vs:List AV):cf1.me "equal" vs=aZ cf0 100 rL vs:=by
 unfold cf1;dsimp only;rw [if_pos rfl]
theorem aAi (vs:List AV):cf1.me "less" vs=aZ cf0 100 zB vs:=by
 unfold cf1;dsimp only;rw [if_neg (by decide),if_neg (by decide),if_pos rfl]
theorem aCo {f g f' g':Nat->Int}{ss:List Nat}(hf:∀s∈ss,f s=f' s)(hg:∀s∈ss,g s=g' s):gM f g ss=gM f' g' ss:=by
 unfold gM;have h1:ss.filter (fun s=>decide (f s≠g s))=ss.filter (fun s=>decide (f' s≠g' s)):=List.filter_congr fun s hs=>by rw [hf s hs,hg s hs]
 rw [h1];refine List.map_congr_left fun s hs=> ?_
 have:=(List.mem_filter.mp hs).1;rw [hf s this,hg s this]
theorem aNi (o1 o2:One n):aZ cf0 100 aN [o1.lead,o2.lead]=some (.list (aAg o1 o2)):=by
 have h1:=o1.f.cnt;have h2:=o2.f.cnt;have c1:(ofN o1.c.cnt).length=o1.c.cnt.length:=by unfold ofN;rw [List.length_map]
 have c2:(ofN o2.c.cnt).length=o2.c.cnt.length:=by unfold ofN;rw [List.length_map]
 refine (xA (by rw [c1]; exact lit h1.2 rfl) (by rw [c2]; exact lit h2.2 rfl) (by rw [c1]; exact h1.1) (by rw [c2]; exact h2.1)).trans ?_;rw [c1,c2];refine congrArg (fun z=>some (AV.list z)) (aCo (fun s hs=> ?_) fun s hs=> ?_)
 ·have:=List.mem_range'_1.mp hs;have ht:=aAh o1 o2;exact o1.f.col s this.1 (by unfold top at ht;lia)
 ·have:=List.mem_range'_1.mp hs;have ht:=aAh o1 o2;exact o2.f.col s this.1 (by unfold top at ht;lia)
structure aP9 (o1 o2:One n)(ρ:St):Prop where
 at':xM o1 o2 (aAg o1 o2) ρ
 told:ρ "told"=some (.val (.list (aAg o1 o2)))
theorem aS5 (H:xM o1 o2 (aAg o1 o2) ρ):
  ∃ρ',exS cf1 aJ.mu (m+20) aJ.sc ρ (stQ 12)=some (.next,ρ')/\aP9 o1 o2 ρ':=by
 have ev:∀l:Loc,l (ofString "leads")=some (.list [o1.lead,o2.lead])->evE cf1 (m+19) aJ.sc l (tF (stQ 12))=some (.list (aAg o1 o2)):=fun l hl=>
  kU rfl rfl (by decide+kernel) (bR (aA hl rfl) aF rfl) rfl rfl (aG (by exact Nat.succ_ne_zero _) (bR (aA hl rfl) aF rfl)) ((aNh _).trans (aNi o1 o2))
 exact ⟨_,aD4 rfl rfl (ev _ (aD H.at'.leads)) rfl rfl (ev _ (bN H.at'.leads)),⟨⟨H.at'.set (by decide),St.set_nb rfl H.alike,St.set_nb rfl H.wit⟩,if_pos rfl⟩⟩
theorem aS6 (H:aP9 o1 o2 ρ)(hal:(aAg o1 o2).isEmpty=al o1 o2):
  exS cf1 aJ.mu (m+20) aJ.sc ρ (stQ 13)=some (.next,ρ):=by
 have hw:ρ.all "witness"=some (.list (aAg o1 o2)):=by unfold St.all;rw [H.at'.wit]; rfl
 refine jT (aKv (jU (bS (aA (aD H.told) rfl) (aA hw rfl) (lM (k:=2) (lK (aF3 _ _ _)) (by decide)))
  (jU (bS (a:= .bool (aAg o1 o2).isEmpty) (b:= .bool (al o1 o2)) (iQ (aA (aD H.told) rfl) (gU (by simp) (lH (by exact Nat.succ_ne_zero _))) ?_) (aA (aD H.at'.alike) rfl) ?_) (aAf (by exact Nat.succ_ne_zero _)))))
 ·exact aPq (k:=1) (aF3 _ _ _) (by decide)
 ·rw [hal];show some ((al o1 o2) !=(al o1 o2))=some false
  rcases al o1 o2 with _ | _ <;> rfl
theorem aG0 {ρ:Loc}{e':Expr}{r:Bool}(h:evE cf m sc ρ e=some (.bool true))(h':evB cf m sc ρ .And (e'::es)=some r):evB cf (m+1) sc ρ .And (e::e'::es)=some r:=by
 rw [aQx,h]; exact h'
theorem aNj {ρ:Loc}{r:Bool}(h:evE cf m sc ρ e=some (.bool r)):evB cf (m+1) sc ρ .And [e]=some r:=by
 rw [aQw,h]; rfl
theorem aJt {ρ:Loc}{r:Bool}(h:evB cf m sc ρ .And es=some r):evE cf (m+1) sc ρ (.BoolOp .And es p)=some (.bool r):=by
 rw [aOv];rw [h]; rfl
theorem aS7 (H:aP9 o1 o2 ρ)(hal:decide (o1.c.cnt=o2.c.cnt)=al o1 o2)(hsum:pE o1.ms=pE o2.ms):
  exB cf1 aJ.mu (m+30) aJ.sc ρ (xI.drop 14)=some (.ret (.bool true),ρ):=by
 have g:=aD H.at'.at'.leads;have s0:∀(m:Nat) pa pb pc,evE cf1 (m+5) aJ.sc ρ.all ((Name "leads" pa).Subscript (Constant (.int 0) 0 pb) pc)=some o1.lead:=fun m pa pb pc=>bR (aA g rfl) aF rfl
 have s1:∀(m:Nat) pa pb pc,evE cf1 (m+5) aJ.sc ρ.all ((Name "leads" pa).Subscript (Constant (.int 1) 0 pb) pc)=some o2.lead:=fun m pa pb pc=>bR (aA g rfl) aF rfl
 have cnt_inj:decide (ofN o1.c.cnt=ofN o2.c.cnt)=decide (o1.c.cnt=o2.c.cnt):=by
  refine decide_eq_decide.mpr ⟨fun h=> ?_,fun h=>by rw [h]⟩;refine List.map_inj_right (fun a b h=> ?_) |>.mp h
  exact Int.ofNat.inj h
 refine dD (aJt (aG0 ?_ (aG0 ?_ (aNj ?_))))
 ·refine iQ (a:= .bool (al o1 o2)) (b:= .bool (al o1 o2)) (kU rfl rfl (by simp) (s0 (m+19) _ _ _) rfl rfl (aG (by exact Nat.succ_ne_zero _) (s1 (m+18) _ _ _)) ((aGz _).trans ((aF2 aRf).trans ?_))) (aA (aD H.at'.alike) rfl) ?_
  ·rw [cnt_inj,hal,decide_eq_true (rfl:(0:Int)=0),Bool.and_true]
  ·show some ((al o1 o2)==(al o1 o2))=some true
   rcases al o1 o2 with _ | _ <;> rfl
 ·exact iQ (a:= .bool false) (b:= .bool false) (kU rfl rfl (by simp) (s0 (m+18) _ _ _) rfl rfl (aG (by exact Nat.succ_ne_zero _) (s1 (m+17) _ _ _)) ((aAi _).trans (zK aRf (by rw [hsum]; exact Int.le_refl _)))) rfl rfl
 ·exact iQ (a:= .bool false) (b:= .bool false) (kU rfl rfl (by simp) (s1 (m+17) _ _ _) rfl rfl (aG (by exact Nat.succ_ne_zero _) (s0 (m+16) _ _ _)) ((aAi _).trans (zK aRf (by rw [hsum]; exact Int.le_refl _)))) rfl rfl
end
theorem aNk {a b:List Nat}(h:ofN a=ofN b):a=b:=List.map_inj_right (fun _ _ h=>Int.ofNat.inj h) |>.mp h
section
variable {o1 o2:One n}
theorem xN (h1:o1.c∈aCf n)(h2:o2.c∈aCf n):(aAg o1 o2).isEmpty=al o1 o2/\decide (o1.c.cnt=o2.c.cnt)=al o1 o2:=by
 have ht:=aAh o1 o2;have cl:∀s:Nat,1<=s->s<=12->∀o:One n,bU (ofN o.ms) (s:Int)=aV (ofN o.c.cnt) n 0 s:=fun s a b o=>(o.f.col s a b).symm
 rcases aCi h1 h2 with e | ⟨e1,e2,s,hs,e3⟩
 ·have ha:al o1 o2=true:=decide_eq_true (by show ofN o1.c.told=ofN o2.c.told;rw [e]);rw [ha];refine ⟨?_,decide_eq_true (by rw [e])⟩;rw [List.isEmpty_iff];unfold aAg gM;rw [List.map_eq_nil_iff,List.filter_eq_nil_iff];intro s hs;have:=List.mem_range'_1.mp hs;have q:bU (ofN o1.ms) (s:Int)=bU (ofN o2.ms) (s:Int):=by rw [cl s this.1 (by lia),cl s this.1 (by lia),e]
  simp [q]
 ·have ha:al o1 o2=false:=decide_eq_false fun q=>e1 (aNk q)
  rw [ha];refine ⟨?_,decide_eq_false e2⟩;have hm:=List.mem_range'_1.mp hs;have q:bU (ofN o1.ms) (s:Int)≠bU (ofN o2.ms) (s:Int):=by rw [cl s hm.1 (by unfold top at ht;lia),cl s hm.1 (by unfold top at ht;lia)]; exact e3
  rcases e:(aAg o1 o2).isEmpty with _ | _
  ·rfl
  ·rw [List.isEmpty_iff] at e;unfold aAg gM at e;rw [List.map_eq_nil_iff,List.filter_eq_nil_iff] at e;exact absurd (decide_eq_true q) (e s hs)
end
theorem lN (w:Nat):∀(p:List Nat)(cur:Nat)(lines:List Nat), ∀y∈dO w p cur lines,y∈lines\/y<=cur+pE p
 | [],cur,lines,y,h=>by
  rcases List.mem_append.mp h with h | h
  ·exact .inl h
  ·rw [List.mem_singleton.mp h]; exact .inr (Nat.le_add_right _ _)
 | a::p,cur,lines,y,h=>by
  rw [aGl] at h;rw [aKs]
  split at h
  ·rcases lN w p _ _ y h with h | h
   ·exact .inl h
   ·exact .inr (by lia)
  ·split at h
   ·rcases lN w p _ _ y h with h | h
    ·rcases List.mem_append.mp h with h | h
     ·exact .inl h
     ·rw [List.mem_singleton.mp h]; exact .inr (by exact Nat.le_add_right _ _)
    ·exact .inr (by lia)
   ·rcases lN w p _ _ y h with h | h
    ·exact .inl h
    ·exact .inr (by lia)
theorem jV (w:Int):∀(ps:List Str)(cur:Str)(lines:List Str),(∀ p∈ps,PyData.strOk p=true)->PyData.strOk cur=true->(∀ p∈lines,PyData.strOk p=true)->∀x∈aW w ps cur lines,PyData.strOk x=true
 | [],cur,lines,_,hc,hl,x,h=>by
  rcases List.mem_append.mp h with h | h
  ·exact hl x h
  ·rw [List.mem_singleton.mp h]; exact hc
 | p::ps,cur,lines,hp,hc,hl,x,h=>by
  have h0:=hp p (List.mem_cons_self ..);have hr:∀q∈ps,PyData.strOk q=true:=fun q hq=>hp q (List.mem_cons_of_mem _ hq)
  rw [qW] at h
  split at h
  ·exact jV w ps _ _ hr (eI hc h0) hl x h
  ·split at h
   ·refine jV w ps _ _ hr h0 (fun q hq=> ?_) x h
    rcases List.mem_append.mp hq with hq | hq
    ·exact hl q hq
    ·rw [List.mem_singleton.mp hq]; exact hc
   ·exact jV w ps _ _ hr (eI hc h0) hl x h
theorem kI (x:Nat):kE (txt (cG x))/\(txt (cG x)).length=x%3+1:=by
 have hl:(txt (cG x)).length=x%3+1:=by
  rw [dR]; unfold cG;rw [List.length_append,List.length_replicate]; rfl
 have hm:∀c∈cG x,c=59\/(97<=c/\c<123):=fun c hc=>by
  unfold cG at hc
  rcases List.mem_append.mp hc with hc | hc
  ·rw [(List.mem_replicate.mp hc).2]; lia
  ·rw [List.mem_singleton.mp hc]; exact of_decide_eq_true rfl
 refine ⟨⟨by rw [hl]; lia,aGw fun c hc=>by have:=hm c hc;lia,⟨_,rfl⟩,fun h=> ?_⟩,hl⟩;have:=hm 10 h
 lia
theorem aJu {V:List (Str × AV)}{ps:List Str}{es:List (List Nat)}{w1 w2:Nat}(h1:avV V "pages"=some (.list [eP (aW (w1:Int) ps (ofString "") []),eP (aW (w2:Int) ps (ofString "") [])]))(h2:avV V "pieces"=some (.list (ps.map AV.str)))(h3:avV V "widths"=some (.list (aH [w1,w2])))(h4:avV V "ends"=some (.list (es.map fun l=>AV.str (txt l))))
  (hps:ps.length=5) (hp:∀p∈ps,(1<=p.length/\p.length<=3)/\PyData.strOk p=true) (hes:es.length=7/\∀e∈es,fP e) (hw1:1<=w1/\w1<=6) (hw2:1<=w2/\w2<=6):∃ρ'2,exB cf1 aJ.mu 300 aJ.sc (mkV V) xI=some (.ret (.bool true),ρ'2):=by
 have ok:∀w:Nat,∀x∈aW (w:Int) ps (ofString "") [],PyData.strOk x=true:=fun w=>jV w ps _ [] (fun p h=>(hp p h).2) (by decide+kernel) (fun _ h=>nomatch h)
 have len:∀w:Nat,(aW (w:Int) ps (ofString "") []).map (·.length)=dO w (ps.map (·.length)) 0 []:=fun w=>lL w ps (ofString "") []
 have hq:(ps.map (·.length)).length=5:=by rw [List.length_map]; exact hps
 have hq3:∀x∈ps.map (·.length),1<=x/\x<=3:=fun x hx=>by
  obtain ⟨p,h,rfl⟩:=List.mem_map.mp hx;exact (hp p h).1
 have hsum:pE (ps.map (·.length))<=15:=by
  generalize ps.map (·.length)=q at hq hq3
  match q,hq with
  | [a,b,c,d,e],_=>
   have ha:=hq3 a (by simp);have hb:=hq3 b (by simp);have hc:=hq3 c (by simp);have hd:=hq3 d (by simp);have he:=hq3 e (by simp);show a+(b+(c+(d+(e+0))))<=_;lia
 have small:∀w:Nat,∀x∈aW (w:Int) ps (ofString "") [],x.length<=1000:=fun w x hx=>by
  have:x.length∈dO w (ps.map (·.length)) 0 []:=len w▸List.mem_map_of_mem hx
  rcases lN w _ 0 [] _ this with h | h
  ·cases h
  ·lia
 have lenw:∀w:Nat,(aW (w:Int) ps (ofString "") []).length=(dO w (ps.map (·.length)) 0 []).length:=fun w=>by rw [<- len w,List.length_map]
 generalize hn:max (aW (w1:Int) ps (ofString "") []).length (aW (w2:Int) ps (ofString "") []).length=n;obtain ⟨k1,s1⟩:=qE hq hq3 hw1 hw2 (n:=n) (by rw [<- hn,lenw,lenw]);obtain ⟨k2,s2⟩:=qE hq hq3 hw2 hw1 (n:=n) (by rw [<- hn,lenw,lenw,Nat.max_comm]);have hn5:=aGo k1;obtain ⟨c1,m1,F1⟩:=oK k1;obtain ⟨c2,m2,F2⟩:=oK k2
 let o1:One n:=⟨c1,_,F1⟩
 let o2:One n:=⟨c2,_,F2⟩
 have hl1:(aW (w1:Int) ps (ofString "") []).length<=n:=hn▸Nat.le_max_left _ _;have hl2:(aW (w2:Int) ps (ofString "") []).length<=n:=hn▸Nat.le_max_right _ _;have hss:pE o1.ms=pE o2.ms:=by
  have:2*pE o1.ms=2*pE o2.ms:=s1.trans s2.symm
  lia
 obtain ⟨al1,al2⟩:=xN (o1:=o1) (o2:=o2) m1 m2;have rb:∀(o:One n),(∀ r∈o.ms,r<=20)/\o.ms.length<=20:=fun o=>by
  refine ⟨fun r hr=> ?_,by rw [aGy]; lia⟩;have h1:=o.f.mx;have h2:=o.f.cnt.2;have:∀(l:List Nat), ∀x∈l,x<=vA l:=fun l=>by
   induction l with
   | nil=>intro x h;cases h
   | cons a t ih=>
    intro x h;rw [uW]
    rcases List.mem_cons.mp h with rfl | h
    ·exact Nat.le_max_left _ _
    ·exact Nat.le_trans (ih x h) (Nat.le_max_right _ _)
  have:=this _ r hr;have h1:o.c.cnt.length=vA o.ms+1:=h1
  lia
 have bb:∀(o:One n),(∀ x∈o.b,x<=100)/\o.b.length<=10/\o.b.length<=es.length:=fun o=>⟨fun x hx=>by have:=o.f.six x hx;lia,by rw [o.f.len]; lia,by rw [o.f.len,hes.1]; lia⟩
 have wm:∀(o:One n),wsT [.str (txt (cV o.ms))]=some o.lead:=fun o=>aNg o.f.ws (rb o)
 have e7:mkV ((ofString "n",.int ((max (aW (w1:Int) ps (ofString "") []).length (aW (w2:Int) ps (ofString "") []).length:Nat):Int))::V)=mkV ((ofString "n",.int (n:Int))::V):=by rw [hn]
 have e8:∀w:Nat,fO n ((aW (w:Int) ps (ofString "") []).map (·.length))=fO n (dO w (ps.map (·.length)) 0 []):=fun w=>by rw [len]
 let U7:=(ofString "n",AV.int (n:Int))::V
 let U8:=(ofString "boards",AV.list [.list (aH o1.b),.list (aH o2.b)])::U7
 let U9:=(ofString "mails",AV.list [.str (txt (dG o1.ms)),.str (txt (dG o2.ms))])::U8
 let U10:=(ofString "runs",AV.list [.list (aH o1.ms),.list (aH o2.ms)])::U9
 let U12:=(ofString "leads",AV.list [o1.lead,o2.lead])::U10
 let U13:=(ofString "rooks",AV.list [.list (aH o1.told),.list (aH o2.told)])::U12
 have L13:gP o1 o2 (mkV U13):=⟨rfl,rfl,rfl,rfl⟩;have X14:∃ρ',exS cf1 aJ.mu 291 aJ.sc (mkV U13) (stQ 8)=some (.next,ρ')/\gP o1 o2 ρ':=aS2 (m:=230) L13 fun ρ k H hk gk=>aP1 (m:=230) H hk gk (by lia)
 obtain ⟨ρ14,x14,L14⟩:=X14;have L15:gP o1 o2 (ρ14.set "alike" (.val (.bool (al o1 o2)))):=L14.set (by decide);have g15:ρ14.set "alike" (.val (.bool (al o1 o2))) (ofString "alike")=some (.val (.bool (al o1 o2))):=if_pos rfl;have x15:exS cf1 aJ.mu 290 aJ.sc ρ14 (stQ 9)=some (.next,ρ14.set "alike" (.val (.bool (al o1 o2)))):=aS3 (m:=270) L14;generalize ρ14.set "alike" (.val (.bool (al o1 o2)))=ρ15 at L15 g15 x15;have x16:∀p q r,exS cf1 aJ.mu 289 aJ.sc ρ15 (Stmt.Assign [Name "witness" p] (Expr.List [] q) r)=some (.next,ρ15.set "witness" (.own (.list []))):=fun p q r=>rfl
 have L16:xM o1 o2 [] (ρ15.set "witness" (.own (.list []))):=⟨L15.set (by decide),St.set_nb rfl g15,if_pos rfl⟩;generalize ρ15.set "witness" (.own (.list []))=ρ16 at x16 L16;have X17:∃ρ',exS cf1 aJ.mu 288 aJ.sc ρ16 (stQ 11)=some (.next,ρ')/\xM o1 o2 (aAg o1 o2) ρ':=aS4 (m:=247) L16 (by lia) fun ρ l s H gs a b c=>aP2 (m:=247) H gs a b c (by lia)
 obtain ⟨ρ17,x17,L17⟩:=X17;have X18:∃ρ',exS cf1 aJ.mu 287 aJ.sc ρ17 (stQ 12)=some (.next,ρ')/\aP9 o1 o2 ρ':=aS5 (m:=267) L17;obtain ⟨ρ18,x18,L18⟩:=X18;refine ⟨ρ18,?_⟩;refine (aE (k:=299) (ρ':=mkV V) (st6 (m:=259) h1 h2 h3 (fun p h=>⟨by have:=(hp p h).1;lia,(hp p h).2⟩) (by lia) (ok w1) (ok w2))).trans ?_;refine (aE (k:=298) (ρ':=mkV U7) ((st7 (m:=258) h1 (by lia) (by lia)).trans (by rw [e7]))).trans ?_;refine (aE (k:=297) (ρ':=mkV U8) ((st8 (m:=257) (l:=U7) (n:=n) h1 rfl hl1 hl2 (by lia) (small w1) (small w2)).trans (by rw [e8,e8]))).trans ?_;refine (aE (k:=296) (ρ':=mkV U9) ((st9 (m:=256) (l:=U8) rfl h4 (bb o1) (bb o2) ⟨by lia,hes.2⟩).trans (by rw [o1.f.runs,o2.f.runs]))).trans ?_;refine (aE (k:=295) (ρ':=mkV U10) (aSy (m:=255) (l:=U9) (n:=n) rfl rfl o1.f.len o2.f.len (by lia))).trans ?_;refine (aE (k:=294) (ρ':=mkV U10) (aSz (m:=254) (l:=U10) (m1:=o1.ms) (m2:=o2.ms) rfl rfl ⟨fun r h=>by have:=(rb o1).1 r h;lia,(rb o1).2⟩ ⟨fun r h=>by have:=(rb o2).1 r h;lia,(rb o2).2⟩)).trans ?_;refine (aE (k:=293) (ρ':=mkV U12) (aS0 (m:=253) (l:=U10) (m1:=o1.ms) (m2:=o2.ms) rfl (rb o1) (rb o2) (wm o1) (wm o2))).trans ?_;refine (aE (k:=292) (ρ':=mkV U13) (aS1 (m:=252) (l:=U12) (b1:=o1.b) (b2:=o2.b) rfl ⟨o1.f.six,by rw [o1.f.len]; lia⟩ ⟨o2.f.six,by rw [o2.f.len]; lia⟩ o1.f.rooks o2.f.rooks)).trans ?_;refine (aE (k:=291) (ρ':=ρ14) x14).trans ?_;refine (aE (k:=290) (ρ':=ρ15) x15).trans ?_;refine (aE (k:=289) (ρ':=ρ16) (x16 _ _ _)).trans ?_;refine (aE (k:=288) (ρ':=ρ17) x17).trans ?_;refine (aE (k:=287) (ρ':=ρ18) x18).trans ?_;refine (aE (k:=286) (ρ':=ρ18) (aS6 (m:=266) L18 al1)).trans ?_;exact aS7 (m:=256) L18 al2 hss
theorem aCp (vs:List AV):cf1.fn "_law_folded" vs=pB vs:=by
 unfold cf1;dsimp only;rw [if_neg (by decide),if_neg (by decide),if_neg (by decide),if_neg (by decide),if_neg (by decide),if_neg (by decide),if_neg (by decide),if_pos rfl]
noncomputable def stR:Stmt:=aJ.body.getD 4 (.Pass default)
theorem st5 {l:List (Str × AV)}{ps:List Str}{w1 w2:Nat}{r1 r2:List Str}(h1:avV l "pieces"=some (.list (ps.map AV.str)))(h2:avV l "widths"=some (.list (aH [w1,w2])))
  (f1:pB [.list (ps.map .str),.int (w1:Int)]=some (eP r1)) (f2:pB [.list (ps.map .str),.int (w2:Int)]=some (eP r2)):
  exS cf1 aJ.mu (m+40) aJ.sc (mkV l) stR=some (.next,mkV ((ofString "pages",.list [eP r1,eP r2])::l)):=by
 have one:∀(w:Nat)(r:List Str),pB [.list (ps.map .str),.int (w:Int)]=some (eP r)->evE cf1 (m+38) (aId (pP stR)) (bQ (avV l) (aId (pP stR)) (ofString "width") (.int (w:Int))) (aO3 (pP stR))=some (eP r):=fun w r h=>
  iF rfl rfl (bC (by exact Nat.succ_ne_zero _) (aA ((if_neg (by decide)).trans ((if_pos rfl).trans h1)) rfl) (aA (if_pos rfl) rfl)) (by decide) ((aCp _).trans h)
 refine oL rfl rfl (cR (by exact Nat.succ_ne_zero _) (by kernel_rfl) ?_ (aA h2 rfl) rfl (one w1 r1 f1) (one w2 r2 f2));have hc:aJ.sc.names.lookup (ofString "pieces")=some NameKind.cell:=rfl;simp+decide [cP,h1,hc]
theorem pure_law:PureLaw:=by
 intro script hs;obtain ⟨l,hl,hpre⟩:=aNe script hs;have hnice:∀p∈(l.take 5).map fun x=>txt (cG x),kE p:=fun p hp=>by
  obtain ⟨x,_,rfl⟩:=List.mem_map.mp hp;exact (kI x).1
 have hw:∀x,1<=gO x/\gO x<=6:=fun x=>by unfold gO;lia
 have hlen:((l.take 5).map fun x=>txt (cG x)).length=5:=by rw [List.length_map,List.length_take]; exact congrArg _ hl
 have e1:((l.take 5).map fun x=>AV.str (txt (cG x)))=((l.take 5).map fun x=>txt (cG x)).map AV.str:=by rw [List.map_map]; rfl
 have e2:(l.map fun x=>AV.str (txt (aJm x)))=(l.map aJm).map fun t=>AV.str (txt t):=by rw [List.map_map]; rfl
 have fr:∀w:Nat,cX (w:Int) ((l.take 5).map fun x=>txt (cG x))=aW (w:Int) ((l.take 5).map fun x=>txt (cG x)) (ofString "") []:=fun w=>aFg _ _ hnice
 obtain ⟨ρ'2,hpost⟩:=aJu (V:=(ofString "pages",AV.list [eP (aW ((gO (l.getD 5 0):Nat):Int) ((l.take 5).map fun x=>txt (cG x)) (ofString "") []),eP (aW ((gO (l.getD 6 0):Nat):Int) ((l.take 5).map fun x=>txt (cG x)) (ofString "") [])])::V4 script l)
  (ps:=(l.take 5).map fun x=>txt (cG x)) (es:=l.map aJm) (w1:=gO (l.getD 5 0)) (w2:=gO (l.getD 6 0)) rfl (by rw [<- e1]; rfl) rfl (by rw [<- e2]; rfl) hlen (fun p hp=>by
   obtain ⟨x,_,rfl⟩:=List.mem_map.mp hp;exact ⟨by rw [(kI x).2]; lia,(kI x).1.2.1⟩) ⟨by rw [List.length_map]; exact hl,fun e he=>by
   obtain ⟨x,_,rfl⟩:=List.mem_map.mp he;exact aNd x⟩ (hw _) (hw _)
 have fd:∀w:Nat,pB [.list (((l.take 5).map fun x=>txt (cG x)).map .str),.int (w:Int)]=some (eP (aW (w:Int) ((l.take 5).map fun x=>txt (cG x)) (ofString "") [])):=fun w=>by
  rw [yT (q:=((l.take 5).map fun x=>txt (cG x),(w:Int))) ⟨rfl,fun h=> ?_,by rw [hlen]; decide,hnice⟩,fr];rw [show (l.take 5).map (fun x=>txt (cG x))=[] from h] at hlen
  cases hlen
 refine ⟨305,(if_pos rfl).trans ?_⟩;rw [hpre];have q:exB cf1 aJ.mu 301 aJ.sc (mkV (V4 script l)) (aJ.body.drop 4)=some (.ret (.bool true),ρ'2):=(aE (k:=300) (st5 (m:=260) (l:=V4 script l) (by rw [<- e1]; rfl) rfl (fd _) (fd _))).trans hpost;rw [q]
end Mine.Pl
open PySem PySem.W PySem.W.X PyProof.Rows
set_option Elab.async false
set_option maxRecDepth 100000
set_option maxHeartbeats 0
open Mine
theorem PySem.Challenge.cw_re0160_01_holds : PySem.Challenge.rw_re0160_01.Holds := by
  refine holds_law (by rw [PySem.W.Fast.te9446332074065402090]; kernel_rfl) fun said => ?_
  refine holds_openX aQo (XP := XL aCx []) (fun s e => xl_of s (Bool.and_eq_true_iff.mp e).1) XL.keeps (by rfl) (by rfl) (by rfl) (fun s e => recFacts_of (Bool.and_eq_true_iff.mp e).2) (by rfl) said (by decide +kernel) ⟨rfl, rfl, rfl, rfl, rfl, by decide +kernel⟩ ?hw ?hc
  case hw => w_witness2
  case hc =>
    intro w s₀ s₁ mg mb G y fa o pm cd doc dV kV ho hd hcd hD hmg hg args vals as L hpre hlay hrd hwl hlo
    clear ho hd hcd hD
    refine Ground.open G ?_
    intro T B D TE TW
    wrow_args hpre hlay hrd hwl hlo
    obtain ⟨X, z, t⟩ := aPg y
    have k : ∀ b o, s₀.heap.get? b = some o → s₁.heap.get? b = some o := L.keeps
    refine aJp (aPe y) Pl.pure_law (fun a o e => k _ _ (X a o e)) ⟨fun v hv => (z.at' v hv).imp fun _ h => h.at fun b o _ e => k b o e, fun _ _ _ h => nomatch h⟩ T hg (Nat.lt_of_lt_of_le t (script_toks L rfl)) hmg (script_obj L (by assumption)) (by assumption) (by omega) (fun _ => rfl) ?gp
    first | rfl | wrow_post
