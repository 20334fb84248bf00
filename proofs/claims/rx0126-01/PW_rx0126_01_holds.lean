import PyProof.Rows.All
import Wide.All
import OpenK.AllK
import Wide.FinOn
import PySem.Challenge.RW_rx0126_01
set_option Elab.async false
set_option maxRecDepth 100000
set_option autoImplicit false
set_option linter.all false
set_option genSizeOfSpec false
set_option genInjectivity false
set_option genSizeOf false
set_option compiler.extract_closed false
set_option tactic.hygienic false
set_option bootstrap.genMatcherCode false
set_option genCtorIdx false
noncomputable section
namespace Sh
noncomputable abbrev qS(s:String):PySem.Str:=PySem.Str.ofString s
open PySem PySem.Calls PyProof.Rows PySem.W
inductive PV where
 | none | bool (b:Bool) | int (i:Int) | str (x:Str) | byt (b:Array UInt8)
 | tup (l:List PV) | lst (l:List PV) | rng (a b c:Int)
 | loc (n:Nat) | strm (n:Nat) | app (n:Nat)
inductive PO where
 | lst (l:List PV) | plain | sdict (b:Array UInt8) | dct (l:List (Str×PV))
abbrev St:=List PO
abbrev Fm:=List (Option PV)
structure Wd where
 mu:List Addr
 ex:List Addr
def EL(o:Obj):Prop:=o.cls=.none∧∃vs,o.data=.fields vs
def EA(o:Obj):Prop:=∃es n,o.data=.dict es n
def Fz(ω:Wd)(h:Heap)(a:Addr)(o:Obj):Prop:=a∉ω.mu∧a∉ω.ex∧h.get? a=some o∧¬EA o∧¬EL o
theorem HE{o:Obj}{vs:Array Value}{n:Nat}(hd:o.data=.seq vs n):¬EA o∧¬EL o:=by
 refine⟨?_,?_⟩<;>simp[hd,EA,EL]
theorem NR{o:Obj}{T:String}{vs:Array Value}(hc:o.cls=.type T)(hd:o.data=.fields vs):¬EA o∧¬EL o:=by
 refine⟨?_,?_⟩<;>simp[hd,hc,EA,EL]
theorem MK(C d:Addr):¬EA (instObj C d)∧¬EL (instObj C d):=by
 refine⟨?_,?_⟩<;>simp[EA,EL]
def LC(o:Obj):Prop:=o.cls=.type "list" ∧ o.dict=none∧o.slots=#[]
noncomputable def Ck(l:Addr):Obj:={cls:=.type "builtin_function_or_method",dict:=none,data:=.fields #[.builtin "list.append",.ref l],slots:=#[]}
mutual
noncomputable def VR(C:Addr)(ω:Wd)(h:Heap):PV→Value→Prop
 | .none,v=>v=.none
 | .bool b,v=>v=.bool b
 | .int i,v=>∃t,v=.int i t
 | .str x,v=>∃t,v=.str x t
 | .byt b,v=>∃t,v=.bytes b t
 | .tup l,v=>∃a o vs n,v=.ref a∧Fz ω h a o∧o.cls=.type "tuple" ∧ o.data=.seq vs n∧VRs C ω h l vs.toList
 | .lst l,v=>∃a o vs n,v=.ref a∧Fz ω h a o∧o.cls=.type "list" ∧ o.data=.seq vs n∧VRs C ω h l vs.toList
 | .rng a b c,v=>∃r o t u w,v=.ref r∧Fz ω h r o∧o={cls:=.type "range",dict:=none,data:=.fields #[.int a t,.int b u,.int c w],slots:=#[]}
 | .loc n,v=>∃a,v=.ref a∧ω.mu[n]?=some a
 | .strm n,v=>∃a d,v=.ref a∧Fz ω h a (instObj C d)∧ω.mu[n]?=some d
 | .app n,v=>∃q a,v=.ref q∧Fz ω h q (Ck a)∧ω.mu[n]?=some a
noncomputable def VRs(C:Addr)(ω:Wd)(h:Heap):List PV→List Value→Prop
 | [],vs=>vs=[]
 | p::ps,vs=>∃v r,vs=v::r∧VR C ω h p v∧VRs C ω h ps r
end
section
variable{C:Addr}{ω:Wd}{h:Heap}{v:Value}{P:Value→Prop}{Ps:List Value→Prop}{vs:List Value}{p q r:PV}
@[elab_as_elim] theorem VR.none_el(x:VR C ω h .none v)(k:P .none):P v:=by cases (show v=_ from x);exact k
@[elab_as_elim] theorem VR.bool_el{b:Bool}(x:VR C ω h (.bool b) v)(k:P (.bool b)):P v:=by cases (show v=_ from x);exact k
@[elab_as_elim] theorem VR.int_el{i:Int}(x:VR C ω h (.int i) v)(k:∀t,P (.int i t)):P v:=let ⟨t,e⟩:=(show ∃t,_ from x);e▸k t
@[elab_as_elim] theorem VR.str_el{i:Str}(x:VR C ω h (.str i) v)(k:∀t,P (.str i t)):P v:=let ⟨t,e⟩:=(show ∃t,_ from x);e▸k t
@[elab_as_elim] theorem VR.byt_el{i:Array UInt8}(x:VR C ω h (.byt i) v)(k:∀t,P (.bytes i t)):P v:=let ⟨t,e⟩:=(show ∃t,_ from x);e▸k t
@[elab_as_elim] theorem VR.tup_el{l:List PV}(x:VR C ω h (.tup l) v)(k:∀a o vs n,Fz ω h a o→o.cls=.type "tuple" → o.data=.seq vs n→VRs C ω h l vs.toList→P (.ref a)):P v:=by
 obtain⟨a,o,vs,n,rfl,f,c,d,r⟩:=x;exact k a o vs n f c d r
@[elab_as_elim] theorem VR.lst_el{l:List PV}(x:VR C ω h (.lst l) v)(k:∀a o vs n,Fz ω h a o→o.cls=.type "list" → o.data=.seq vs n→VRs C ω h l vs.toList→P (.ref a)):P v:=by
 obtain⟨a,o,vs,n,rfl,f,c,d,r⟩:=x;exact k a o vs n f c d r
@[elab_as_elim] theorem VR.rng_el{a b c:Int}(x:VR C ω h (.rng a b c) v)(k:∀r t u w,Fz ω h r {cls:=.type "range",dict:=none,data:=.fields #[.int a t,.int b u,.int c w],slots:=#[]}→P (.ref r)):P v:=by
 obtain⟨r,o,t,u,w,rfl,f,rfl⟩:=x;exact k r t u w f
@[elab_as_elim] theorem VR.loc_el{n:Nat}(x:VR C ω h (.loc n) v)(k:∀a,ω.mu[n]?=some a→P (.ref a)):P v:=by obtain⟨a,rfl,i⟩:=x;exact k a i
@[elab_as_elim] theorem VR.strm_el{n:Nat}(x:VR C ω h (.strm n) v)(k:∀a d,Fz ω h a (instObj C d)→ω.mu[n]?=some d→P (.ref a)):P v:=by obtain⟨a,d,rfl,f,i⟩:=x;exact k a d f i
@[elab_as_elim] theorem VR.app_el{n:Nat}(x:VR C ω h (.app n) v)(k:∀q a,Fz ω h q (Ck a)→ω.mu[n]?=some a→P (.ref q)):P v:=by obtain⟨a,d,rfl,f,i⟩:=x;exact k a d f i
theorem VR.int_in{i:Int}{t:Tok}:VR C ω h (.int i) (.int i t):=show ∃u,Value.int i t=.int i u from⟨t,rfl⟩
theorem VR.str_in{i:Str}{t:Tok}:VR C ω h (.str i) (.str i t):=show ∃u,Value.str i t=.str i u from⟨t,rfl⟩
theorem VR.byt_in{i:Array UInt8}{t:Tok}:VR C ω h (.byt i) (.bytes i t):=show ∃u,Value.bytes i t=.bytes i u from⟨t,rfl⟩
theorem VR.none_in:VR C ω h .none .none:=rfl
theorem VR.bool_in{b:Bool}:VR C ω h (.bool b) (.bool b):=rfl
theorem VR.tup_in{l:List PV}{a:Addr}{o:Obj}{vs:Array Value}{n:Nat}(f:Fz ω h a o)(c:o.cls=.type "tuple")(d:o.data=.seq vs n)(r:VRs C ω h l vs.toList):VR C ω h (.tup l) (.ref a):=by refine(?_:∃_ _ _ _,_);exact⟨a,o,vs,n,rfl,f,c,d,r⟩
theorem VR.lst_in{l:List PV}{a:Addr}{o:Obj}{vs:Array Value}{n:Nat}(f:Fz ω h a o)(c:o.cls=.type "list")(d:o.data=.seq vs n)(r:VRs C ω h l vs.toList):VR C ω h (.lst l) (.ref a):=by refine(?_:∃_ _ _ _,_);exact⟨a,o,vs,n,rfl,f,c,d,r⟩
theorem VR.rng_in{a b c:Int}{r:Addr}{t u w:Tok}(f:Fz ω h r {cls:=.type "range",dict:=none,data:=.fields #[.int a t,.int b u,.int c w],slots:=#[]}):VR C ω h (.rng a b c) (.ref r):=by refine(?_:∃_,_);exact⟨r,_,t,u,w,rfl,f,rfl⟩
theorem VR.loc_in{n:Nat}{a:Addr}(i:ω.mu[n]?=some a):VR C ω h (.loc n) (.ref a):=by refine(?_:∃_,_);exact⟨a,rfl,i⟩
theorem VR.strm_in{n:Nat}{a d:Addr}(f:Fz ω h a (instObj C d))(i:ω.mu[n]?=some d):VR C ω h (.strm n) (.ref a):=by refine(?_:∃_,_);exact⟨a,d,rfl,f,i⟩
theorem VR.app_in{n:Nat}{q a:Addr}(f:Fz ω h q (Ck a))(i:ω.mu[n]?=some a):VR C ω h (.app n) (.ref q):=by refine(?_:∃_,_);exact⟨q,a,rfl,f,i⟩
@[elab_as_elim] theorem VRs.nil_el(x:VRs C ω h [] vs)(k:Ps []):Ps vs:=by cases (show vs=[] from x);exact k
@[elab_as_elim] theorem VRs.cons_el{l:List PV}(x:VRs C ω h (p::l) vs)(k:∀v r,VR C ω h p v→VRs C ω h l r→Ps (v::r)):Ps vs:=by obtain⟨v,r,rfl,a,b⟩:=x;exact k v r a b
@[elab_as_elim] theorem VRs.one_el(x:VRs C ω h [p] vs)(k:∀v,VR C ω h p v→Ps [v]):Ps vs:=x.cons_el fun v r a b=>VRs.nil_el (Ps:=fun r=>Ps (v::r)) b (k v a)
@[elab_as_elim] theorem VRs.two_el(x:VRs C ω h [p,q] vs)(k:∀v w,VR C ω h p v→VR C ω h q w→Ps [v,w]):Ps vs:=x.cons_el fun v r a b=>VRs.one_el (Ps:=fun r=>Ps (v::r)) b fun w c=>k v w a c
@[elab_as_elim] theorem VRs.three_el(x:VRs C ω h [p,q,r] vs)(k:∀v w u,VR C ω h p v→VR C ω h q w→VR C ω h r u→Ps [v,w,u]):Ps vs:=x.cons_el fun v r a b=>VRs.two_el (Ps:=fun r=>Ps (v::r)) b fun w u c d=>k v w u a c d
theorem VRs.cons_in{l:List PV}{vs:List Value}(a:VR C ω h p v)(b:VRs C ω h l vs):VRs C ω h (p::l) (v::vs):=by refine(?_:∃_,_);exact⟨v,vs,rfl,a,b⟩
theorem VRs.nil:VRs C ω h [] []:=rfl
theorem VRs.one(x:VR C ω h p v):VRs C ω h [p] [v]:=.cons_in x .nil
end
def KO(o:Obj)(r:Option Obj):Prop:=(∃sl,r=some {o with slots:=sl})∧(¬EA o→r=some o)
theorem KO.same{o:Obj}{r:Option Obj}(h:r=some o):KO o r:=⟨⟨o.slots,h⟩,fun _=>h⟩
theorem KO.trans{o:Obj}{h₁ h₂:Heap}{b:Addr}(x:KO o (h₁.get? b))(y:∀o',h₁.get? b=some o'→¬EL o'→KO o' (h₂.get? b))(ht:¬EL o):KO o (h₂.get? b):=by
 obtain⟨⟨sl,e1⟩,e2⟩:=x
 obtain⟨⟨sl',e3⟩,e4⟩:=y _ e1 ht
 refine⟨⟨sl',e3⟩,fun hd=>?_⟩
 have q1:=e2 hd
 have:=y _ q1 ht
 exact this.2 hd
noncomputable def Kp(mu own:List Addr)(h h':Heap):Prop:=
 ∀b o,h.get? b=some o→¬EL o→b∉mu→b∉own→KO o (h'.get? b)
theorem Kp.of_keep{mu own:List Addr}{h h':Heap}(k:∀b o,h.get? b=some o→h'.get? b=some o):Kp mu own h h':=fun b o e _ _ _=>.same (k b o e)
theorem Kp.of_ext{mu own:List Addr}{h h':Heap}{a:Addr}(ha:a∈mu∨a∈own)(k:Heap.ExtBut a h h'):Kp mu own h h':=
 fun b o e _ h1 h2=>.same (k b o (fun q=>ha.elim (fun z=>h1 (q▸z)) fun z=>h2 (q▸z)) e)
structure Gw(ω:Wd)(own:List Addr)(h:Heap)(ω':Wd)(h':Heap):Prop where
 ext:∃e,ω'.mu=ω.mu++e∧∀a∈e,h.get? a=none
 ex:ω'.ex=ω.ex
 kp:Kp ω.mu own h h'
 there:∀b o,h.get? b=some o→∃o',h'.get? b=some o'
namespace Gw
variable{ω ω₁ ω₂:Wd}{own own':List Addr}{h h₁ h₂:Heap}
theorem refl(ω:Wd)(own:List Addr)(h:Heap):Gw ω own h ω h:=⟨⟨[],by simp,by simp⟩,rfl,.of_keep fun _ _ e=>e,fun _ o e=>⟨o,e⟩⟩
theorem of_keep(k:∀b o,h.get? b=some o→h₁.get? b=some o):Gw ω own h ω h₁:=⟨⟨[],by simp,by simp⟩,rfl,.of_keep k,fun b o e=>⟨o,k b o e⟩⟩
theorem of_ext{a:Addr}(ha:a∈ω.mu∨a∈own)(k:Heap.ExtBut a h h₁)(ht:∃o',h₁.get? a=some o'):Gw ω own h ω h₁:=
 ⟨⟨[],by simp,by simp⟩,rfl,.of_ext ha k,fun b o e=>by
  by_cases q:b=a
  ·exact q▸ht
  ·exact⟨o,k b o q e⟩⟩
theorem idx{i:Nat}{a:Addr}(g:Gw ω own h ω₁ h₁)(ha:ω.mu[i]?=some a):ω₁.mu[i]?=some a:=by
 obtain⟨e,q,_⟩:=g.ext
 obtain⟨hi,rfl⟩:=List.getElem?_eq_some_iff.mp ha
 rw[q,List.getElem?_append_left hi];exact ha
theorem notin{a:Addr}{o:Obj}(g:Gw ω own h ω₁ h₁)(ha:a∉ω.mu)(ho:h.get? a=some o):a∉ω₁.mu:=by
 obtain⟨e,q,he⟩:=g.ext
 intro hm
 rw[q]at hm
 rcases List.mem_append.mp hm with q|q
 ·exact ha q
 ·rw[he a q]at ho;cases ho
theorem weak(g:Gw ω own' h ω₁ h₁)(hs:∀a∈own',a∈own∨h.get? a=none):Gw ω own h ω₁ h₁:=
 ⟨g.ext,g.ex,fun b o e ht h1 h2=>g.kp b o e ht h1 (fun q=>(hs b q).elim h2 fun z=>by rw[z]at e;cases e),g.there⟩
theorem trans(g:Gw ω own h ω₁ h₁)(g':Gw ω₁ own h₁ ω₂ h₂):Gw ω own h ω₂ h₂:=by
 refine⟨?_,g'.ex.trans g.ex,fun b o e ht hm ho=>?_,fun b o e=>let ⟨o',e'⟩:=g.there b o e;g'.there b o' e'⟩
 ·obtain⟨e,q,he⟩:=g.ext
  obtain⟨e',q',he'⟩:=g'.ext
  refine⟨e++e',by rw[q',q];simp,fun a ha=>?_⟩
  rcases List.mem_append.mp ha with q|q
  ·exact he a q
  ·cases q':h.get? a with
   | none=>rfl
   | some o=>obtain⟨o',e1⟩:=g.there a o q';rw[he' a q]at e1;cases e1
 ·exact(g.kp b o e ht hm ho).trans (fun o' e' ht'=>g'.kp b o' e' ht' (g.notin hm e) ho) ht
end Gw
theorem Fz.gw{ω ω':Wd}{own:List Addr}{h h':Heap}{a:Addr}{o:Obj}(x:Fz ω h a o)(g:Gw ω own h ω' h')(hs:∀a∈own,a∈ω.ex):Fz ω' h' a o:=
 ⟨g.notin x.1 x.2.2.1,by rw[g.ex];exact x.2.1,(g.kp a o x.2.2.1 x.2.2.2.2 x.1 (fun q=>x.2.1 (hs a q))).2 x.2.2.2.1,x.2.2.2⟩
structure AR(ω:Wd)(h:Heap)(ω':Wd)(h':Heap):Prop where
 fz:∀a o,Fz ω h a o→Fz ω' h' a o
 idx:∀(i:Nat) (a:Addr),ω.mu[i]?=some a→ω'.mu[i]?=some a
mutual
theorem VR.carry{C:Addr}{ω ω':Wd}{h h':Heap}(g:AR ω h ω' h'):∀{p:PV} {v:Value},VR C ω h p v→VR C ω' h' p v
 | .none,_,x=>x
 | .bool _,_,x=>x
 | .int _,_,x=>x
 | .str _,_,x=>x
 | .byt _,_,x=>x
 | .tup l,_,x=>x.tup_el (P:=fun v=>VR C ω' h' (.tup l) v) fun _ _ _ _ f c d r=>.tup_in (g.fz _ _ f) c d (VRs.carry g r)
 | .lst l,_,x=>x.lst_el (P:=fun v=>VR C ω' h' (.lst l) v) fun _ _ _ _ f c d r=>.lst_in (g.fz _ _ f) c d (VRs.carry g r)
 | .rng a b c,_,x=>x.rng_el (P:=fun v=>VR C ω' h' (.rng a b c) v) fun _ _ _ _ f=>.rng_in (g.fz _ _ f)
 | .loc n,_,x=>x.loc_el (P:=fun v=>VR C ω' h' (.loc n) v) fun _ i=>.loc_in (g.idx _ _ i)
 | .strm n,_,x=>x.strm_el (P:=fun v=>VR C ω' h' (.strm n) v) fun _ _ f i=>.strm_in (g.fz _ _ f) (g.idx _ _ i)
 | .app n,_,x=>x.app_el (P:=fun v=>VR C ω' h' (.app n) v) fun _ _ f i=>.app_in (g.fz _ _ f) (g.idx _ _ i)
theorem VRs.carry{C:Addr}{ω ω':Wd}{h h':Heap}(g:AR ω h ω' h'):∀{ps:List PV} {vs:List Value},VRs C ω h ps vs→VRs C ω' h' ps vs
 | [],_,x=>x
 | p::ps,_,x=>x.cons_el (Ps:=fun vs=>VRs C ω' h' (p::ps) vs) fun _ _ a b=>.cons_in (VR.carry g a) (VRs.carry g b)
end
theorem AR.of_gw{ω ω':Wd}{own:List Addr}{h h':Heap}(g:Gw ω own h ω' h')(hs:∀a∈own,a∈ω.ex):AR ω h ω' h':=
 ⟨fun _ _ f=>f.gw g hs,fun _ _ e=>g.idx e⟩
theorem AR.of_ex{ω:Wd}{h h':Heap}{a:Addr}(ha:a∈ω.ex)(k:Heap.ExtBut a h h'):AR ω h ω h':=
 ⟨fun b o f=>⟨f.1,f.2.1,k b o (fun q=>f.2.1 (q▸ha)) f.2.2.1,f.2.2.2⟩,fun _ _ e=>e⟩
theorem AR.of_mu{ω:Wd}{h h':Heap}{a:Addr}(ha:a∈ω.mu)(k:Heap.ExtBut a h h'):AR ω h ω h':=
 ⟨fun b o f=>⟨f.1,f.2.1,k b o (fun q=>f.1 (q▸ha)) f.2.2.1,f.2.2.2⟩,fun _ _ e=>e⟩
theorem AR.of_keep{ω:Wd}{h h':Heap}(k:∀b o,h.get? b=some o→h'.get? b=some o):AR ω h ω h':=
 ⟨fun b o f=>⟨f.1,f.2.1,k b o f.2.2.1,f.2.2.2⟩,fun _ _ e=>e⟩
theorem AR.less{ω ω':Wd}{h:Heap}(hm:ω'.mu=ω.mu)(hx:∀a∈ω'.ex,a∈ω.ex):AR ω h ω' h:=
 ⟨fun b o f=>⟨by rw[hm];exact f.1,fun q=>f.2.1 (hx b q),f.2.2⟩,fun _ _ e=>by rw[hm];exact e⟩
theorem AR.more{ω ω':Wd}{h:Heap}(hm:ω'.mu=ω.mu)(hx:∀a∈ω'.ex,a∈ω.ex∨h.get? a=none):AR ω h ω' h:=
 ⟨fun b o f=>⟨by rw[hm];exact f.1,fun q=>(hx b q).elim f.2.1 (fun z=>by rw[f.2.2.1]at z;cases z),f.2.2⟩,fun _ _ e=>by rw[hm];exact e⟩
theorem AR.trans{ω₁ ω₂ ω₃:Wd}{h₁ h₂ h₃:Heap}(x:AR ω₁ h₁ ω₂ h₂)(y:AR ω₂ h₂ ω₃ h₃):AR ω₁ h₁ ω₃ h₃:=
 ⟨fun a o f=>y.fz a o (x.fz a o f),fun i a e=>y.idx i a (x.idx i a e)⟩
structure X2 where
 P:Wd→Heap→Array UInt8→Addr→Prop
 carry:∀{ω ω' h h' b d},P ω h b d→(∀a o,Fz ω h a o→Fz ω' h' a o)→(∀o,h.get? d=some o→h'.get? d=some o)→P ω' h' b d
 live:∀{ω h b d},P ω h b d→(h.get? d).isSome=true
structure AV where
 prog:Program
 w:World
 h₀:Heap
 mg:Str→Option Value
 mb:Str→Option Value
 os:OsState
 C:Addr
 Z:X2
 tabs:List (Addr×List (Pos×Str))
def OR(B:AV)(ω:Wd)(h:Heap):PO→Addr→Prop
 | .lst l,a=>∃o vs n,h.get? a=some o∧LC o∧o.data=.seq vs n∧VRs B.C ω h l vs.toList
 | .plain,a=>∃o,h.get? a=some o∧o.cls=.type "object"
 | .sdict b,d=>B.Z.P ω h b d
 | .dct l,d=>∃vs,h.DictOf (strKind B.prog B.w) d ((l.map (·.1)).zip vs)∧VRs B.C ω h (l.map (·.2)) vs
theorem OR.carry{B:AV}{ω ω':Wd}{h h':Heap}(g:AR ω h ω' h'){p:PO}{a:Addr}(x:OR B ω h p a)(k:∀o,h.get? a=some o→h'.get? a=some o):OR B ω' h' p a:=by
 cases p with
 | lst l=>obtain⟨o,vs,n,e,c,d,r⟩:=x;exact⟨o,vs,n,k _ e,c,d,r.carry g⟩
 | plain=>obtain⟨o,e,c⟩:=x;exact⟨o,k _ e,c⟩
 | sdict b=>exact B.Z.carry x g.fz k
 | dct l=>
  obtain⟨vs,⟨o,es,ep,e,r⟩,y⟩:=x
  exact⟨vs,⟨o,es,ep,k _ e,r⟩,y.carry g⟩
end Sh
namespace Sh
open PySem PySem.Calls PyProof.Rows PySem.W PySem.Spec
structure AV.OK(B:AV):Prop where
 g:B.h₀.Ns mainGlobals B.mg
 b:B.h₀.Ns builtinsNs B.mb
 blt:∀x:Str,x ≠ "__name__" → B.mb x=bootBuiltins x
 lim:B.h₀.NoLimit
 gc:∃o,B.h₀.get? mainGlobals=some o∧o.cls≠.none
 bc:∃o,B.h₀.get? builtinsNs=some o∧o.cls≠.none
 tb:∀x∈B.tabs,(∃o,B.h₀.get? x.1=some o)∧mainGlobals≠x.1∧B.h₀.BuiltinsAt B.mg x.1
noncomputable def Hr(B:AV)(ω:Wd)(h:Heap):Prop:=
 ∀x∈B.tabs,∃ps,h.get? x.1=some (tabObj ps)∧TriplesOk ps.toList∧∀y∈x.2,codeAmong y.1 ps.toList=none ∨
  ∃c' o vs t,codeAmong y.1 ps.toList=some (.ref c')∧Fz ω h c' o∧o.data=.fields vs∧vs[1]?=some (.str y.2 t)
theorem Hr.carry{B:AV}{ω ω':Wd}{h h':Heap}(T:Hr B ω h)(ok:B.OK)(new:∀a,a∈ω.mu∨a∈ω.ex→B.h₀.get? a=none)
  (k:∀b o,h.get? b=some o→b∉ω.mu→b∉ω.ex→¬EA o→h'.get? b=some o) (hm:∀a∈ω'.mu,a∈ω.mu∨h.get? a=none) (hx:∀a∈ω'.ex,a∈ω.ex∨h.get? a=none):Hr B ω' h':=by
 intro x hxm
 obtain⟨ps,e,t,r⟩:=T x hxm
 obtain⟨o₀,e₀⟩:=(ok.tb x hxm).1
 have h1:x.1∉ω.mu:=fun q=>by have:=new _ (.inl q);rw[e₀]at this;cases this
 have h2:x.1∉ω.ex:=fun q=>by have:=new _ (.inr q);rw[e₀]at this;cases this
 refine⟨ps,k _ _ e h1 h2 (by simp[EA]),t,fun y hy=>?_⟩
 rcases r y hy with r|⟨c',o,vs,t',r1,r2,r6,r7⟩
 ·exact .inl r
 ·refine .inr ⟨c',o,vs,t',r1,⟨fun q=>?_,fun q=>?_,k _ _ r2.2.2.1 r2.1 r2.2.1 r2.2.2.2.1,r2.2.2.2⟩,r6,r7⟩
  ·rcases hm _ q with q|q
   ·exact r2.1 q
   ·rw[r2.2.2.1]at q;cases q
  ·rcases hx _ q with q|q
   ·exact r2.2.1 q
   ·rw[r2.2.2.1]at q;cases q
theorem Gp{h₀ h h':Heap}{a:Addr}(K:OldK h₀ h)(ha:h₀.get? a=none)(hs:Heap.ExtBut a h h'):OldK h₀ h':=by
 have ne:∀b o,h₀.get? b=some o→b≠a:=fun b o e q=>by rw[q,ha]at e;cases e
 refine⟨fun b o e=>?_,fun b o e=>let ⟨o',ho'⟩:=K.there b o e;⟨o',hs b o' (ne b o e) ho'⟩⟩
 rcases K.old b o e with x|⟨t,hc,vs,more,hv,x⟩|⟨rfl,hc,⟨o',es,n,ho',r⟩,z⟩
 ·exact .inl (hs b _ (ne b o e) x)
 ·exact .inr (.inl ⟨t,hc,vs,more,hv,hs b _ (ne b o e) x⟩)
 ·exact .inr (.inr ⟨rfl,hc,⟨o',es,n,hs _ _ (ne _ o e) ho',r⟩,fun key=>by rw[OldK.staticOf_congr ((hs _ _ (ne _ o e) ho').trans ho'.symm) key];exact z key⟩)
structure AL(B:AV)(ω:Wd)(σ:St)(s:Shared):Prop where
 bok:B.OK
 lim:s.heap.NoLimit
 old:OldK B.h₀ s.heap
 len:ω.mu.length=σ.length
 nodup:ω.mu.Nodup
 new:∀a,a∈ω.mu∨a∈ω.ex→B.h₀.get? a=none
 apart:∀a∈ω.mu,a∉ω.ex
 exl:∀a∈ω.ex,(s.heap.get? a).isSome=true
 objs:∀(i:Nat) (a:Addr) (o:PO),ω.mu[i]?=some a→σ[i]?=some o→OR B ω s.heap o a
 os:s.os=B.os
 gens:AllBare s.gens
 tab:Hr B ω s.heap
namespace AL
variable{B:AV}{ω ω':Wd}{σ:St}{s:Shared}{h':Heap}{tk:Nat}
theorem base(I:AL B ω σ s){a:Addr}{o:Obj}(e:B.h₀.get? a=some o)(ht:o.cls≠.none):s.heap.get? a=some o:=I.old.get_of_cls e ht
theorem gns(I:AL B ω σ s):s.heap.Ns mainGlobals B.mg:=by
 obtain⟨o,e,hc⟩:=I.bok.gc
 obtain⟨o',es,ep,ho,r⟩:=I.bok.g
 rw[ho]at e;cases e
 exact⟨_,es,ep,I.base ho hc,r⟩
theorem bns(I:AL B ω σ s):s.heap.Ns builtinsNs B.mb:=by
 obtain⟨o,e,hc⟩:=I.bok.bc
 obtain⟨o',es,ep,ho,r⟩:=I.bok.b
 rw[ho]at e;cases e
 exact⟨_,es,ep,I.base ho hc,r⟩
theorem stat(I:AL B ω σ s){a:Addr}(h:B.h₀.get? a=none):cStatics≠a:=by
 rintro rfl
 obtain⟨mc,⟨o,es,ep,ho,r⟩,_⟩:=I.bok.lim
 rw[h]at ho;cases ho
theorem fresh(I:AL B ω σ s){a:Addr}(e:s.heap.get? a=none):B.h₀.get? a=none:=by
 cases q:B.h₀.get? a with
 | none=>rfl
 | some o=>obtain⟨o',z⟩:=I.old.there a o q;rw[e]at z;cases z
theorem step(I:AL B ω σ s)(g:AR ω s.heap ω h')(k:∀a∈ω.mu,∀o,s.heap.get? a=some o→h'.get? a=some o)(ko:OldK B.h₀ h')(kx:∀a∈ω.ex,(h'.get? a).isSome=true)(kl:h'.NoLimit)(kt:∀b o,s.heap.get? b=some o→b∉ω.mu→b∉ω.ex→¬EA o→h'.get? b=some o):AL B ω σ {s with heap:=h',toks:=tk}:=
 ⟨I.bok,kl,ko,I.len,I.nodup,I.new,I.apart,kx,(fun i a o e1 e2=>(I.objs i a o e1 e2).carry g (k a (List.mem_of_getElem? e1))),I.os,I.gens,I.tab.carry I.bok I.new kt (fun _ q=>.inl q) fun _ q=>.inl q⟩
theorem keep(I:AL B ω σ s)(k:∀b o,s.heap.get? b=some o→h'.get? b=some o):AL B ω σ {s with heap:=h',toks:=tk}:=
 I.step (.of_keep k) (fun a _ o=>k a o) (I.old.step_keeps k) (fun a ha=>by
  obtain⟨o,e⟩:=Option.isSome_iff_exists.mp (I.exl a ha);rw[k a o e];rfl) (I.lim.keeps k) fun b o e _ _ _=>k b o e
theorem toks(I:AL B ω σ s):AL B ω σ {s with toks:=tk}:=I.keep (h':=s.heap) fun _ _ e=>e
theorem exstep(I:AL B ω σ s){a:Addr}(ha:a∈ω.ex)(k:Heap.ExtBut a s.heap h')(hz:(h'.get? a).isSome=true):AL B ω σ {s with heap:=h',toks:=tk}:=
 I.step (.of_ex ha k) (fun b hb o e=>k b o (fun q=>I.apart b hb (q▸ha)) e) (Gp I.old (I.new a (.inr ha)) k) (fun b hb=>by
  by_cases q:b=a
  ·rw[q];exact hz
  ·obtain⟨o,e⟩:=Option.isSome_iff_exists.mp (I.exl b hb);rw[k b o q e];rfl) (I.lim.extBut k (I.stat (I.new a (.inr ha)))) fun b o e _ h2 _=>k b o (fun q=>h2 (q▸ha)) e
theorem live(I:AL B ω σ s){a:Addr}(ha:a∈ω.mu):(s.heap.get? a).isSome=true:=by
 obtain⟨i,hi⟩:=List.mem_iff_getElem?.mp ha
 have hlt:i<σ.length:=by rw[←I.len];exact(List.getElem?_eq_some_iff.mp hi).1
 have q:=I.objs i a σ[i] hi (List.getElem?_eq_getElem hlt)
 cases hσ:σ[i] with
 | lst l=>rw[hσ]at q;obtain⟨o,_,_,e,_⟩:=q;rw[e];rfl
 | plain=>rw[hσ]at q;obtain⟨o,e,_⟩:=q;rw[e];rfl
 | sdict b=>rw[hσ]at q;exact B.Z.live q
 | dct l=>rw[hσ]at q;obtain⟨_,⟨o,_,_,e,_⟩,_⟩:=q;rw[e];rfl
theorem bar(I:AL B ω σ s)(k:∀b o,s.heap.get? b=some o→h'.get? b=some o)(hm:ω'.mu=ω.mu)(hx:∀a∈ω'.ex,a∈ω.ex∨(s.heap.get? a=none∧(h'.get? a).isSome=true)):AL B ω' σ {s with heap:=h',toks:=tk}:=by
 have J:=I.keep (tk:=tk) k
 refine⟨J.bok,J.lim,J.old,by rw[hm];exact I.len,by rw[hm];exact I.nodup,fun a ha=>?_,fun a ha hx'=>?_,fun a ha=>?_,fun i a o e1 e2=>?_,I.os,I.gens,I.tab.carry I.bok I.new (fun b o e _ _ _=>k b o e) (fun a q=>.inl (hm▸q)) fun a q=>(hx a q).imp id And.left⟩
 ·rcases ha with ha|ha
  ·exact I.new a (.inl (hm▸ha))
  ·rcases hx a ha with q|q
   ·exact I.new a (.inr q)
   ·exact I.fresh q.1
 ·rw[hm]at ha
  rcases hx a hx' with q|q
  ·exact I.apart a ha q
  ·have:=I.live ha;rw[q.1]at this;cases this
 ·rcases hx a ha with q|q
  ·exact J.exl a q
  ·exact q.2
 ·rw[hm]at e1
  exact(I.objs i a o e1 e2).carry ((AR.more hm fun a ha=>(hx a ha).imp id And.left).trans (.of_keep k)) (k a)
theorem unbar(I:AL B ω σ s)(hm:ω'.mu=ω.mu)(hx:∀a∈ω'.ex,a∈ω.ex):AL B ω' σ s:=
 ⟨I.bok,I.lim,I.old,by rw[hm];exact I.len,by rw[hm];exact I.nodup,fun a ha=>I.new a (ha.imp (fun q=>hm▸q) (hx a)),fun a ha hx'=>I.apart a (hm▸ha) (hx a hx'),fun a ha=>I.exl a (hx a ha),
  fun i a o e1 e2=>by rw[hm]at e1;exact(I.objs i a o e1 e2).carry (.less hm hx) fun _ e=>e,I.os,I.gens,I.tab.carry I.bok I.new (fun b o e _ _ _=>e) (fun a q=>.inl (hm▸q)) fun a q=>.inl (hx a q)⟩
theorem set(I:AL B ω σ s){n:Nat}{a:Addr}{o:PO}(ha:ω.mu[n]?=some a)(k:Heap.ExtBut a s.heap h')(ho:OR B ω h' o a):AL B ω (σ.set n o) {s with heap:=h',toks:=tk}:=by
 have hm:=List.mem_of_getElem? ha
 refine⟨I.bok,I.lim.extBut k (I.stat (I.new a (.inl hm))),Gp I.old (I.new a (.inl hm)) k,by simp[I.len],I.nodup,I.new,I.apart,(fun b hb=>by
  obtain⟨o,e⟩:=Option.isSome_iff_exists.mp (I.exl b hb);rw[k b o (fun q=>I.apart a hm (q▸hb)) e];rfl),fun i b p e1 e2=>?_,I.os,I.gens,I.tab.carry I.bok I.new (fun b o e h1 _ _=>k b o (fun q=>h1 (q▸hm)) e) (fun _ q=>.inl q) fun _ q=>.inl q⟩
 by_cases hi:i=n
 ·subst hi
  rw[ha]at e1;cases e1
  have hlt:i<σ.length:=by rw[←I.len];exact(List.getElem?_eq_some_iff.mp ha).1
  rw[List.getElem?_set_self hlt]at e2;cases e2
  exact ho
 ·rw[List.getElem?_set_ne (Ne.symm hi)]at e2
  have hba:b≠a:=fun q=>by
   subst q
   obtain⟨h1,e1'⟩:=List.getElem?_eq_some_iff.mp e1
   obtain⟨h2,e2'⟩:=List.getElem?_eq_some_iff.mp ha
   exact hi ((List.getElem_inj I.nodup).mp (e1'.trans e2'.symm))
  exact(I.objs i b p e1 e2).carry (.of_mu hm k) fun o' e=>k b o' hba e
theorem push(I:AL B ω σ s){a:Addr}{o:PO}(hn:s.heap.get? a=none)(k:∀b o,s.heap.get? b=some o→h'.get? b=some o)
  (ho:OR B ⟨ω.mu++[a],ω.ex⟩ h' o a):AL B ⟨ω.mu++[a],ω.ex⟩ (σ++[o]) {s with heap:=h',toks:=tk}:=by
 have hna:a∉ω.mu:=fun q=>by have:=I.live q;rw[hn]at this;cases this
 have hx:a∉ω.ex:=fun q=>by have:=I.exl a q;rw[hn]at this;cases this
 have gC:AR ω s.heap ⟨ω.mu++[a],ω.ex⟩ h':=
  ⟨fun b o f=>⟨fun q=>(List.mem_append.mp q).elim f.1 (fun z=>by have f1:=f.2.2.1;rw[List.mem_singleton.mp z,hn]at f1;cases f1),f.2.1,k _ _ f.2.2.1,f.2.2.2⟩,
   fun i b e=>by
    obtain⟨hi,rfl⟩:=List.getElem?_eq_some_iff.mp e
    show(ω.mu++[a])[i]?=_
    rw[List.getElem?_append_left hi];exact e⟩
 refine⟨I.bok,I.lim.keeps k,I.old.step_keeps k,by simp[I.len],?_,fun b hb=>?_,fun b hb=>?_,fun b hb=>?_,fun i b p e1 e2=>?_,I.os,I.gens,I.tab.carry I.bok I.new (fun b o e _ _ _=>k b o e) (fun b q=>(List.mem_append.mp q).imp id fun z=>by rw[List.mem_singleton.mp z];exact hn) fun _ q=>.inl q⟩
 ·show(ω.mu++[a]).Nodup
  rw[List.nodup_append]
  exact⟨I.nodup,by simp,fun x hx y hy=>by rw[List.mem_singleton.mp hy];exact fun q=>hna (q▸hx)⟩
 ·rcases hb with hb|hb
  ·rcases List.mem_append.mp hb with q|q
   ·exact I.new b (.inl q)
   ·rw[List.mem_singleton.mp q];exact I.fresh hn
  ·exact I.new b (.inr hb)
 ·rcases List.mem_append.mp hb with q|q
  ·exact I.apart b q
  ·rw[List.mem_singleton.mp q];exact hx
 ·obtain⟨o,e⟩:=Option.isSome_iff_exists.mp (I.exl b hb);rw[k b o e];rfl
 ·by_cases hi:i<ω.mu.length
  ·rw[List.getElem?_append_left hi]at e1
   rw[List.getElem?_append_left (by rw[←I.len];exact hi)]at e2
   exact(I.objs i b p e1 e2).carry gC (k b)
  ·have e1':=e1
   obtain⟨h1,_⟩:=List.getElem?_eq_some_iff.mp e1
   have:i=ω.mu.length:=by
    have h2:i<ω.mu.length+1:=by simpa using h1
    lia
   subst this
   rw[List.getElem?_append_right (Nat.le_refl _)]at e1
   rw[I.len,List.getElem?_append_right (Nat.le_refl _)]at e2
   simp at e1 e2
   subst e1;subst e2
   exact ho
end AL
structure Sc where
 names:List (Str×NameKind)
 nt:List Str
 ownN:List Str
noncomputable def Sc.vis(Γ:Sc)(i:Nat)(x:Str):Bool:=Γ.nt[i]?==some x&&!(Γ.nt.drop (i+1)).contains x
structure Cx where
 B:AV
 A:Around
 env:Env
 own:List Addr
 Γ:Sc
structure FR(c:Cx)(ω:Wd)(h:Heap)(m:Fm):Prop where
 len:m.length=c.Γ.nt.length
 kind:c.env.scope.kind=.function
 names:c.env.scope.names=c.Γ.names
 glob:c.env.globals=mainGlobals
 blt:c.env.builtins=builtinsNs
 own:∀a∈c.own,a∈ω.ex
 apart:∀a∈ω.mu,a∉ω.ex
 loc:c.env.locals∈c.own
 ns:∃f,h.Ns c.env.locals f∧∀(i:Nat) (x:Str) (p:PV),c.Γ.vis i x=true→m[i]?=some (some p)→c.Γ.names.lookup x=some .local→∃v,f x=some v∧VR c.B.C ω h p v
 cel:∀(i:Nat) (x:Str) (p:PV),c.Γ.vis i x=true→m[i]?=some (some p)→(c.Γ.names.lookup x=some .cell∨c.Γ.names.lookup x=some .free) →
  ∃a v,c.env.cells.lookup x=some a∧h.IsCell a (some v)∧VR c.B.C ω h p v
 celo:∀x:Str,(c.Γ.names.lookup x=some .cell∨c.Γ.names.lookup x=some .free)→∃a v,c.env.cells.lookup x=some a∧h.IsCell a v
 celx:∀(x:Str) (a:Addr),c.env.cells.lookup x=some a→a∈ω.ex
 celw:∀x∈c.Γ.ownN,∀a,c.env.cells.lookup x=some a→a∈c.own
 inj:∀(x y:Str) (a:Addr),c.env.cells.lookup x=some a→c.env.cells.lookup y=some a→x=y
 ff:∃l,c.A.frames=some l∧∀e∈l,e.scope.kind≠.module∧∃L f,e.frame=some L∧L∈ω.ex∧h.Ns L f
theorem DS{h h':Heap}{L:Addr}{f:Str→Option Value}(hn:h.Ns L f)(k:∀o,h.get? L=some o→¬EL o→KO o (h'.get? L)):h'.Ns L f:=by
 obtain⟨o,es,ep,ho,hd,r⟩:=hn
 obtain⟨⟨sl,e⟩,_⟩:=k o ho (by simp[EL,hd])
 exact⟨_,es,ep,e,hd,r⟩
theorem EY{h h':Heap}{a:Addr}{v:Option Value}(hn:h.IsCell a v)(k:∀o,h.get? a=some o→¬EL o→KO o (h'.get? a)):h'.IsCell a v:=by
 obtain⟨o,ho,hd⟩:=hn
 exact⟨o,(k o ho (by simp[EL,hd])).2 (by simp[EA,hd]),hd⟩
theorem ES{h:Heap}{a:Addr}{v:Option Value}{f:Str→Option Value}(hc:h.IsCell a v)(hn:h.Ns a f):False:=by
 obtain⟨o,ho,hd⟩:=hc
 obtain⟨o',es,ep,ho',hd',_⟩:=hn
 rw[ho]at ho';cases ho';rw[hd]at hd';cases hd'
theorem FR.map{c:Cx}{ω ω':Wd}{h h':Heap}{m:Fm}(F:FR c ω h m)(hs:∀a∈ω.ex,a∈ω'.ex)(ap:∀a∈ω'.mu,a∉ω'.ex)(gc:AR ω h ω' h')
  (kn:∀L f,L∈ω.ex→h.Ns L f→h'.Ns L f) (kc:∀b v,b∈ω.ex→h.IsCell b v→h'.IsCell b v):FR c ω' h' m:=
 ⟨F.len,F.kind,F.names,F.glob,F.blt,fun a q=>hs a (F.own a q),ap,F.loc,F.ns.elim fun f q=>⟨f,kn _ f (F.own _ F.loc) q.1,fun i x p h1 h2 h3=>(q.2 i x p h1 h2 h3).elim fun v r=>⟨v,r.1,r.2.carry gc⟩⟩,
  fun i x p h1 h2 h3=>(F.cel i x p h1 h2 h3).elim fun a r=>r.elim fun v r=>⟨a,v,r.1,kc a _ (F.celx x a r.1) r.2.1,r.2.2.carry gc⟩,
  fun x h1=>(F.celo x h1).elim fun a r=>r.elim fun v r=>⟨a,v,r.1,kc a _ (F.celx x a r.1) r.2⟩,fun x a q=>hs a (F.celx x a q),F.celw,F.inj,
  F.ff.elim fun l q=>⟨l,q.1,fun e he=>⟨(q.2 e he).1,(q.2 e he).2.elim fun L r=>r.elim fun f r=>⟨L,f,r.1,hs L r.2.1,kn L f r.2.1 r.2.2⟩⟩⟩⟩
theorem FR.gw{c:Cx}{ω ω':Wd}{h h':Heap}{m:Fm}(F:FR c ω h m)(g:Gw ω [] h ω' h')(ap:∀a∈ω'.mu,a∉ω'.ex):FR c ω' h' m:=
 have kk:∀a∈ω.ex,∀o,h.get? a=some o→¬EL o→KO o (h'.get? a):=fun a ha o e ht=>g.kp a o e ht (fun q=>F.apart a q ha) (fun q=>nomatch q)
 F.map (fun a q=>g.ex▸q) ap (.of_gw g (fun _ q=>nomatch q)) (fun L _ hL q=>DS q (kk L hL)) fun b _ hb q=>EY q (kk b hb)
theorem FR.exstep{c:Cx}{ω:Wd}{h h':Heap}{m:Fm}(F:FR c ω h m){a:Addr}(ha:a∈ω.ex)(k:Heap.ExtBut a h h')(hn:∀o,h.get? a=some o→¬EA o∧∀v,o.data≠.cell v):FR c ω h' m:=
 F.map (fun _ q=>q) F.apart (.of_ex ha k) (fun L _ _ hL=>DS hL fun o e _=>.same (k L o (fun q=>by
  obtain⟨o',es,ep,ho',hd',_⟩:=hL
  exact(hn o' (q▸ho')).1 ⟨es,ep,hd'⟩) e)) fun b v _ hL=>EY hL fun o e _=>.same (k b o (fun q=>by
  obtain⟨o',ho',hd'⟩:=hL
  exact(hn o' (q▸ho')).2 v hd') e)
theorem FR.bar{c:Cx}{ω ω':Wd}{h h':Heap}{m:Fm}(F:FR c ω h m)(k:∀b o,h.get? b=some o→h'.get? b=some o)(hm:ω'.mu=ω.mu)(hs:∀a∈ω.ex,a∈ω'.ex)(hx:∀a∈ω'.ex,a∈ω.ex∨h.get? a=none)(ap:∀a∈ω'.mu,a∉ω'.ex):FR c ω' h' m:=
 F.map hs ap ((AR.more hm hx).trans (.of_keep k)) (fun L _ _ hL=>DS hL fun o e _=>.same (k L o e)) fun b _ _ hL=>EY hL fun o e _=>.same (k b o e)
structure Rm(lv:Nat)(A:Around):Prop where
 hh:A.handled=none
 depth:A.depth+lv≤900
 units:A.units+10*lv≤9000
abbrev zG:=Fm→St→Option (PV×St)
abbrev L5:=Fm→St→Option (List PV×St)
def SE(c:Cx)(e:Expr)(f:zG):Prop:=
 ∀ω m σ s Q E p σ',FR c ω s.heap m→AL c.B ω σ s→f m σ=some (p,σ') →
  (∀v ω' s',Gw ω [] s.heap ω' s'.heap→AL c.B ω' σ' s'→VR c.B.C ω' s'.heap p v→Q v s')→wpAny (model c.B.prog c.B.w) c.A (eval e c.env) Q E s
def fE(c:Cx)(es:List Expr)(f:L5):Prop:=
 ∀(pos:Pos) ω m σ s Q E p σ',FR c ω s.heap m→AL c.B ω σ s→f m σ=some (p,σ') →
  (∀v ω' s',Gw ω [] s.heap ω' s'.heap→AL c.B ω' σ' s'→VRs c.B.C ω' s'.heap p v→Q v s')→wpAny (model c.B.prog c.B.w) c.A (spliced (backTo pos (starEach es c.env))) Q E s
noncomputable def ST(c:Cx)(e:Expr)(f:Fm→St→Option (Bool×St)):Prop:=
 ∀ω m σ s Q E p σ',FR c ω s.heap m→AL c.B ω σ s→f m σ=some (p,σ') →
  (∀ω' s',Gw ω [] s.heap ω' s'.heap→AL c.B ω' σ' s'→Q p s')→wpAny (model c.B.prog c.B.w) c.A (isTrue e c.env (eval e c.env)) Q E s
theorem CZ{α:Type}{M:Model}{A:Around}{m:Sem α}{Q:α→Shared→Prop}{E:Value→Shared→Prop}{s:Shared}(h:∀Q' E',(∀v s,Q v s→Q' v s)→(∀v s,E v s→E' v s)→wpAny M A m Q' E' s):wpAny M A m Q E s:=
 h Q E (fun _ _ h=>h) fun _ _ h=>h
end Sh
namespace Sh
open PySem PySem.Calls PyProof.Rows PySem.W
set_option genCtorIdx true in
inductive BI where
 | len | range | sorted | max | bytes | sum | list
set_option genCtorIdx true in
inductive MT where
 | append | extend | pop | join | find | replace | encode | decode
mutual
inductive X where
 | bad | none | bool (b:Bool) | int (i:Int) | str (x:Str) | byt (l:List UInt8)
 | v (i:Nat)
 | bin (op:Operator) (a b:X) | neg (a:X) | no (a:X)
 | cmp (op:CmpOp) (a b:X) | cmp2 (o p:CmpOp) (a b d:X)
 | bo (op:BoolOp) (xs:XL)
 | ite (t a b:X)
 | tup (xs:XL) | list (xs:XL) | mlist (xs:XL)
 | call (f:Nat) (xs:XL) | callv (i:Nat) (a:X)
 | bi (f:BI) (xs:XL) | me (m:MT) (a:X) (xs:XL)
 | idx (a i:X) | slc (a:X) (lo hi:XO) | stp (a lo:X) (n:Int) | dsp (ks:List Str) (xs:XL) (k:X) | mrep (a:X) (n:Int) | jog (sep:Str) (it:X)
 | app (a:X) | val (a:X) | read (f:Nat) (a:X) (n:X)
 | comp (ar:Nat) (elt it:X) (ifs:XL)
 | fstr (xs:XL) | sub (a:X) | trs (a:X) | star
inductive XL where
 | nil | cons (x:X) (r:XL)
inductive XO where
 | no | yes (x:X)
end
mutual
inductive S where
 | bad | ex (x:X) | as (i:Nat) (x:X) | asT (is:List Nat) (x:X) | asI (a i x:X) | asV (a x:X)
 | aug (i:Nat) (op:Operator) (x:X)
 | iff (t:X) (b o:SL) | wh (t:X) (b:SL) | fo (is:List Nat) (it:X) (b:SL)
 | delI (a i:X)
 | ret (x:X) | asr (t:X) | ra (x:X) | brk | cont
 | callA (i:Nat) (f:Nat) (xs:XL) | asW (is:List Nat) (xs:XL)
 | tryR (b:SL) (w:Nat) (o:SL)
inductive SL where
 | nil | cons (s:S) (r:SL)
end
noncomputable def BM:Nat:=100000
inductive Oi where
 | val (p:PV) | exc (x:Str)
abbrev Spec:=List PV→St→Option (Oi×St)
section
variable{α β:Type}{G:Prop}
noncomputable def bd(o:Option α)(f:α→Option β):Option β:=o.elim none f
noncomputable def sq(o:Option (α×St))(f:α→St→Option β):Option β:=match o with | some (a,σ)=>f a σ | none=>none
noncomputable def gd(b:Bool)(x:Option α):Option α:=cond b x none
noncomputable def ql(a b:Option α):Option α:=a.elim b some
noncomputable def vl(o:Option α)(σ:St):Option (α×St):=o.elim none fun x=>some (x,σ)
theorem nn{x:α}(h:(none:Option α)=some x):G:=nomatch h
theorem so{a b:α}(h:some a=some b):a=b:=Option.some.inj h
theorem AB{o:Option α}{f:α→Option β}{r:β}(e:bd o f=some r)(k:∀a,o=some a→f a=some r→G):G:=
 match o,e,k with
 | some a,e,k=>k a rfl e
 | none,e,_=>nn e
theorem AH{o:Option (α×St)}{f:α→St→Option β}{r:β}(e:sq o f=some r)(k:∀a σ,o=some (a,σ)→f a σ=some r→G):G:=
 match o,e,k with
 | some (a,σ),e,k=>k a σ rfl e
 | none,e,_=>nn e
theorem AJ{b:Bool}{x:Option α}{r:α}(e:gd b x=some r)(k:b=true→x=some r→G):G:=
 match b,e,k with
 | true,e,k=>k rfl e
 | false,e,_=>nn e
theorem Ah{a b:Option α}{r:α}(e:ql a b=some r)(k:a=some r→G)(k':b=some r→G):G:=
 match a,e,k with
 | some _,e,k=>k e
 | none,e,_=>k' e
theorem Ng{o:Option α}{σ σ':St}{r:α}{P:St→Prop}(e:vl o σ=some (r,σ'))(k:o=some r→P σ):P σ':=
 match o,e,k with
 | some _,e,k=>(Prod.mk.inj (so e)).2▸k (congrArg some (Prod.mk.inj (so e)).1)
 | none,e,_=>nn e
theorem BF{σ σ':β}{p r:α}{P:α→β→Prop}(e:some (p,σ)=some (r,σ'))(k:P p σ):P r σ':=
 (Prod.mk.inj (so e)).1▸(Prod.mk.inj (so e)).2▸k
theorem AP{p r:α}{P:α→Prop}(e:some p=some r)(k:P p):P r:=so e▸k
theorem AF{a b:Bool}(e:(a&&b)=true)(k:a=true→b=true→G):G:=
 match a,b,e,k with
 | true,true,_,k=>k rfl rfl
theorem CY{a b c:Bool}(e:(a&&(b&&c))=true)(k:a=true→b=true→c=true→G):G:=AF e fun p e=>AF e (k p)
theorem DQ{a b c d:Bool}(e:(a&&(b&&(c&&d)))=true)(k:a=true→b=true→c=true→d=true→G):G:=AF e fun p e=>CY e (k p)
theorem Ei{a b c d f:Bool}(e:(a&&(b&&(c&&(d&&f))))=true)(k:a=true→b=true→c=true→d=true→f=true→G):G:=AF e fun p e=>DQ e (k p)
theorem KZ{a b c d f g:Bool}(e:(a&&(b&&(c&&(d&&(f&&g)))))=true)(k:a=true→b=true→c=true→d=true→f=true→g=true→G):G:=AF e fun p e=>Ei e (k p)
theorem Pg{a b c d f g i:Bool}(e:(a&&(b&&(c&&(d&&(f&&(g&&i))))))=true)(k:a=true→b=true→c=true→d=true→f=true→g=true→i=true→G):G:=AF e fun p e=>KZ e (k p)
theorem JZ{a b c d f g i j:Bool}(e:(a&&(b&&(c&&(d&&(f&&(g&&(i&&j)))))))=true)(k:a=true→b=true→c=true→d=true→f=true→g=true→i=true→j=true→G):G:=AF e fun p e=>Pg e (k p)
theorem Cm{o:Option α}{f:α→β}{r:β}{P:β→Prop}(e:o.map f=some r)(k:∀a,o=some a→P (f a)):P r:=
 match o,e,k with
 | some a,e,k=>so e▸k a rfl
 | none,e,_=>nn e
end
theorem An{p:Prop}[Decidable p](e:decide p=true):p:=of_decide_eq_true e
noncomputable def PV.int?(p:PV):Option Int:=match p with | .int i=>some i | _=>Option.none
noncomputable def PV.str?(p:PV):Option Str:=match p with | .str i=>some i | _=>Option.none
noncomputable def PV.byt?(p:PV):Option (Array UInt8):=match p with | .byt i=>some i | _=>Option.none
noncomputable def PV.loc?(p:PV):Option Nat:=match p with | .loc i=>some i | _=>Option.none
noncomputable def PV.lst?(p:PV):Option (List PV):=match p with | .lst i=>some i | _=>Option.none
noncomputable def PV.tup?(p:PV):Option (List PV):=match p with | .tup i=>some i | _=>Option.none
noncomputable def PV.strm?(p:PV):Option Nat:=match p with | .strm i=>some i | _=>Option.none
noncomputable def PV.app?(p:PV):Option Nat:=match p with | .app i=>some i | _=>Option.none
noncomputable def PV.nul?(p:PV):Option Unit:=match p with | .none=>some () | _=>Option.none
noncomputable def PV.rng?(p:PV):Option (Int×Int×Int):=match p with | .rng a b c=>some (a,b,c) | _=>Option.none
noncomputable def PO.lst?(p:PO):Option (List PV):=match p with | .lst l=>some l | _=>Option.none
noncomputable def PO.plain?(p:PO):Option Unit:=match p with | .plain=>some () | _=>Option.none
noncomputable def PO.sd?(p:PO):Option (Array UInt8):=match p with | .sdict l=>some l | _=>Option.none
noncomputable def PO.dct?(p:PO):Option (List (Str×PV)):=match p with | .dct l=>some l | _=>Option.none
noncomputable def one?(l:List PV):Option PV:=match l with | [a]=>some a | _=>none
noncomputable def three?(l:List PV):Option (PV×PV×PV):=match l with | [a,b,d]=>some (a,b,d) | _=>none
noncomputable def two?(l:List PV):Option (PV×PV):=match l with | [a,b]=>some (a,b) | _=>none
noncomputable def nil?(l:List PV):Option Unit:=match l with | []=>some () | _=>none
section
variable{p:PV}{o:PO}{l:List PV}
theorem cX{i:Int}(e:p.int?=some i):p=.int i:=by cases p<;>first|exact nn e | exact congrArg _ (so e)
theorem Jd{i:Str}(e:p.str?=some i):p=.str i:=by cases p<;>first|exact nn e | exact congrArg _ (so e)
theorem NN{i:Array UInt8}(e:p.byt?=some i):p=.byt i:=by cases p<;>first|exact nn e | exact congrArg _ (so e)
theorem DJ{i:Nat}(e:p.loc?=some i):p=.loc i:=by cases p<;>first|exact nn e | exact congrArg _ (so e)
theorem Qd{i:List PV}(e:p.lst?=some i):p=.lst i:=by cases p<;>first|exact nn e | exact congrArg _ (so e)
theorem HI{i:List PV}(e:p.tup?=some i):p=.tup i:=by cases p<;>first|exact nn e | exact congrArg _ (so e)
theorem Rg{i:Nat}(e:p.strm?=some i):p=.strm i:=by cases p<;>first|exact nn e | exact congrArg _ (so e)
theorem eW{i:Nat}(e:p.app?=some i):p=.app i:=by cases p<;>first|exact nn e | exact congrArg _ (so e)
theorem bN{i:Unit}(e:p.nul?=some i):p=.none:=by cases p<;>first|exact nn e | exact rfl
theorem cS{i:Int×Int×Int}(e:p.rng?=some i):p=.rng i.1 i.2.1 i.2.2:=by cases p<;>first|exact nn e | exact so e▸rfl
theorem Oo{l:List PV}(e:o.lst?=some l):o=.lst l:=by cases o<;>first|exact nn e | exact congrArg _ (so e)
theorem Ot{i:Unit}(e:o.plain?=some i):o=.plain:=by cases o<;>first|exact nn e | exact rfl
theorem aR{l:Array UInt8}(e:o.sd?=some l):o=.sdict l:=by cases o<;>first|exact nn e | exact congrArg _ (so e)
theorem UO{l:List (Str×PV)}(e:o.dct?=some l):o=.dct l:=by cases o<;>first|exact nn e | exact congrArg _ (so e)
theorem aQ{i:PV}(e:one? l=some i):l=[i]:=match l,e with
 | [_],e=>congrArg (fun x=>[x]) (so e)
theorem NM{i j:PV}(e:two? l=some (i,j)):l=[i,j]:=match l,e with
 | [_,_],e=>congrArg (fun x=>[x.1,x.2]) (so e)
theorem RJ{i j k:PV}(e:three? l=some (i,j,k)):l=[i,j,k]:=match l,e with
 | [_,_,_],e=>congrArg (fun x=>[x.1,x.2.1,x.2.2]) (so e)
theorem bZ{i:Unit}(e:nil? l=some i):l=[]:=match l,e with
 | [],_=>rfl
end
section
variable{C:Addr}{ω:Wd}{h:Heap}{v w:Value}{P:Value→Prop}{P2:Value→Value→Prop}{Ps:List Value→Prop}{vs:List Value}{p q:PV}{l:List PV}
@[elab_as_elim] theorem VR.int_vr{i:Int}(x:VR C ω h p v)(e:p.int?=some i)(k:∀t,P (.int i t)):P v:=VR.int_el (P:=P) (cX e▸x) k
@[elab_as_elim] theorem VR.str_vr{i:Str}(x:VR C ω h p v)(e:p.str?=some i)(k:∀t,P (.str i t)):P v:=VR.str_el (P:=P) (Jd e▸x) k
@[elab_as_elim] theorem VR.byt_vr{i:Array UInt8}(x:VR C ω h p v)(e:p.byt?=some i)(k:∀t,P (.bytes i t)):P v:=VR.byt_el (P:=P) (NN e▸x) k
@[elab_as_elim] theorem VRs.one_vr{i:PV}(x:VRs C ω h l vs)(e:one? l=some i)(k:∀v,VR C ω h i v→Ps [v]):Ps vs:=VRs.one_el (Ps:=Ps) (aQ e▸x) k
@[elab_as_elim] theorem VRs.two_vr{i j:PV}(x:VRs C ω h l vs)(e:two? l=some (i,j))(k:∀v w,VR C ω h i v→VR C ω h j w→Ps [v,w]):Ps vs:=VRs.two_el (Ps:=Ps) (NM e▸x) k
@[elab_as_elim] theorem VRs.three_vr{i j u:PV}(x:VRs C ω h l vs)(e:three? l=some (i,j,u))(k:∀v w z,VR C ω h i v→VR C ω h j w→VR C ω h u z→Ps [v,w,z]):Ps vs:=VRs.three_el (Ps:=Ps) (RJ e▸x) k
@[elab_as_elim] theorem VRs.nil_vr{i:Unit}(x:VRs C ω h l vs)(e:nil? l=some i)(k:Ps []):Ps vs:=VRs.nil_el (Ps:=Ps) (bZ e▸x) k
variable{α:Type}
def i2(p q:PV)(f:Int→Int→Option α):Option α:=bd p.int? fun a=>bd q.int? fun b=>f a b
def s2(p q:PV)(f:Str→Str→Option α):Option α:=bd p.str? fun a=>bd q.str? fun b=>f a b
def b2(p q:PV)(f:Array UInt8→Array UInt8→Option α):Option α:=bd p.byt? fun a=>bd q.byt? fun b=>f a b
@[elab_as_elim] theorem Bb{f:Int→Int→Option α}{r:α}(x:VR C ω h p v)(y:VR C ω h q w)(e:i2 p q f=some r)(k:∀a b t u,f a b=some r→P2 (.int a t) (.int b u)):P2 v w:=
 AB e fun _ e1 e=>AB e fun _ e2 e=>x.int_vr (P:=fun v=>P2 v w) e1 fun _=>y.int_vr e2 fun _=>k _ _ _ _ e
@[elab_as_elim] theorem EN{f:Str→Str→Option α}{r:α}(x:VR C ω h p v)(y:VR C ω h q w)(e:s2 p q f=some r)(k:∀a b t u,f a b=some r→P2 (.str a t) (.str b u)):P2 v w:=
 AB e fun _ e1 e=>AB e fun _ e2 e=>x.str_vr (P:=fun v=>P2 v w) e1 fun _=>y.str_vr e2 fun _=>k _ _ _ _ e
@[elab_as_elim] theorem Rc{f:Array UInt8→Array UInt8→Option α}{r:α}(x:VR C ω h p v)(y:VR C ω h q w)(e:b2 p q f=some r)(k:∀a b t u,f a b=some r→P2 (.bytes a t) (.bytes b u)):P2 v w:=
 AB e fun _ e1 e=>AB e fun _ e2 e=>x.byt_vr (P:=fun v=>P2 v w) e1 fun _=>y.byt_vr e2 fun _=>k _ _ _ _ e
end
def Bv(σ:St)(n:Nat):Option (List PV):=bd σ[n]? PO.lst?
def Bx(σ:St)(p:PV):Option (List PV):=ql p.lst? (bd p.loc? (Bv σ))
def AT(σ:St)(p:PV):Option Bool:=match p with
 | .none=>some false
 | .bool b=>some b
 | .int i=>some (i != 0)
 | .str x=>gd (decide (x.length≤BM)) (some (x.length != 0))
 | .byt b=>gd (decide (b.size≤BM)) (some (b.size != 0))
 | .lst l=>gd (decide (l.length≤BM)) (some (!l.isEmpty))
 | .loc n=>bd (Bv σ n) fun l=>gd (decide (l.length≤BM)) (some (!l.isEmpty))
 | _=>none
noncomputable def small(a:Int):Bool:=decide (a.natAbs<2^60)
def Ie(op:Operator)(p q:PV)(σ:St):Option PV:=
 match op with
 | .Sub=>i2 p q fun a b=>some (.int (a-b))
 | .Mult=>i2 p q fun a b=>gd (small a&&small b) (some (.int (a*b)))
 | .FloorDiv=>i2 p q fun a b=>gd (b != 0&&decide (b.natAbs<1000000000)) (some (.int (a.fdiv b)))
 | .Mod=>i2 p q fun a b=>gd (b != 0) (some (.int (a.fmod b)))
 | .Pow=>i2 p q fun a n=>gd (decide (0≤n)&&(decide (n≤60)&&decide (a.natAbs<2^32))) (some (.int (a^n.toNat)))
 | .RShift=>i2 p q fun a n=>gd (decide (0≤n)&&decide (n≤60)) (some (.int (a.fdiv (2^n.toNat))))
 | .Add=>ql (i2 p q fun a b=>some (.int (a+b))) (ql (s2 p q fun x y=>gd (decide (x.length+y.length≤BM)) (some (.str (x++y)))) (ql (b2 p q fun x y=>gd (decide (x.size+y.size≤BM)) (some (.byt (x++y))))
  (bd (Bx σ p) fun a=>bd (Bx σ q) fun b=>gd (decide (a.length+b.length≤BM)) (some (.lst (a++b))))))
 | _=>none
mutual
noncomputable def JX:PV→Option PyData
 | .none=>some .none
 | .bool b=>some (.bool b)
 | .int i=>some (.int i)
 | .str x=>gd (PyData.strOk x) (some (.str x))
 | .tup l=>(pyOfs l).map .tuple
 | .lst l=>(pyOfs l).map .list
 | _=>none
noncomputable def pyOfs:List PV→Option (List PyData)
 | []=>some []
 | p::r=>bd (JX p) fun a=>bd (pyOfs r) fun b=>some (a::b)
end
def DD(σ:St)(p:PV):PV:=(bd p.loc? (Bv σ)).elim p .lst
def kM(σ:St)(p q:PV):Option Bool:=
 ql (s2 p q fun x y=>some (x.cps.toList==y.cps.toList)) (ql (i2 p q fun a b=>some (a==b)) (ql (b2 p q fun x y=>some (x.toList==y.toList)) (bd (JX (DD σ p)) fun a=>bd (JX (DD σ q)) fun b=>gd (decide (a.depth≤8)&&decide (b.depth≤8)) (some (PyData.eqv a b)))))
def kQ(p q:PV):Option Bool:=ql (i2 p q fun a b=>some (decide (a<b))) (s2 p q fun x y=>some (decide (x.cps.toList<y.cps.toList)))
def mZ(p q:PV):Option Bool:=ql (i2 p q fun a b=>some (a==b)) (s2 p q fun x y=>some (x==y))
def kO(p q:PV):Option Bool:=ql (bd p.tup? fun l=>bd (two? l) fun x=>bd q.tup? fun r=>bd (two? r) fun y=>
  bd (mZ x.1 y.1) fun t=>cond t (bd (mZ x.2 y.2) fun t=>cond t (some false) (kQ x.2 y.2)) (kQ x.1 y.1)) (kQ p q)
def QC(σ:St)(p q:PV):Option Bool:=ql (s2 p q fun y x=>some (!(Builtin.Str.occurrences x y 0 x.length 1).isEmpty))
 (bd (ql q.tup? (Bx σ q)) fun l=>bd (JX p) fun d=>bd (pyOfs l) fun ds=>gd (decide (d.depth≤8)) (some (ds.any fun y=>PyData.eqv y d)))
noncomputable def ZL(p:PV):Option Bool:=match p with
 | .none=>some true
 | .str _ | .tup _ | .lst _ | .int _=>some false
 | _=>none
def S3(σ:St)(p q:PV):Option Bool:=ql (bd q.nul? fun _=>ZL p)
 (bd q.loc? fun b=>ql (bd p.str? fun _=>some false) (bd p.loc? fun a=>bd σ[a]? fun o=>bd (ql (bd o.lst? fun _=>some ()) o.plain?) fun _=>some (a==b)))
def Co(op:CmpOp)(p q:PV)(σ:St):Option Bool:=match op with
 | .Eq=>kM σ p q
 | .NotEq=>(kM σ p q).map (!·)
 | .Lt=>kO p q
 | .Gt=>ql (i2 p q fun a b=>some (decide (b<a))) (s2 p q fun x y=>some (decide (y.cps.toList<x.cps.toList)))
 | .LtE=>ql (i2 p q fun a b=>some (decide (a≤b))) (s2 p q fun x y=>some (!decide (y.cps.toList<x.cps.toList)))
 | .GtE=>i2 p q fun a b=>some (decide (b≤a))
 | .In=>QC σ p q
 | .NotIn=>(QC σ p q).map (!·)
 | .Is=>S3 σ p q
 | .IsNot=>(S3 σ p q).map (!·)
noncomputable def GA(a b c:Int):List PV:=(List.range (Builtin.Range.rangeSize a b c).toNat).map fun(k:Nat)=>.int (a+k*c)
noncomputable def VK(x:Str):List PV:=x.cps.toList.map fun c=>.str ⟨#[c]⟩
def EM(σ:St)(p:PV):Option (List PV×Option Nat):=match p with
 | .lst l=>some (l,none)
 | .loc n=>bd (Bv σ n) fun l=>some (l,some n)
 | .rng a b c=>gd (Builtin.Range.small a b c&&decide (Builtin.Range.rangeSize a b c≤BM)) (some (GA a b c,none))
 | .str x=>gd (x.cps.all (· < 128)) (some (VK x,none))
 | _=>none
def Q6(n:Option Nat)(σ:St)(k:Nat)(q:PV):Option PV:=n.elim (some q) fun n=>bd (Bv σ n) fun l=>l[k]?
def bD(n:Option Nat)(σ:St)(k:Nat):Bool:=n.elim true fun n=>(Bv σ n).elim false fun l=>l.length==k
noncomputable def Iz{α:Type}(l:List α)(lo hi:Option Int):List α:=
 (l.drop (lo.elim 0 (clipAt l.length))).take (hi.elim l.length (clipAt l.length)-lo.elim 0 (clipAt l.length))
def HS(p:Option PV):Option (Option Int):=p.elim (some none) fun p=>bd p.int? fun i=>gd (small i) (some (some i))
def Kn(σ:St)(p:PV)(lo hi:Option PV):Option PV:=bd (HS lo) fun a=>bd (HS hi) fun b=>
 ql (bd p.str? fun x=>gd (decide (x.length≤BM)) (some (.str ⟨(Iz x.cps.toList a b).toArray⟩)))
  (ql (bd p.byt? fun x=>gd (decide (x.size≤BM)) (some (.byt (Iz x.toList a b).toArray)))
   (bd (Bx σ p) fun l=>gd (decide (l.length≤BM)) (some (.lst (Iz l a b)))))
def CC(σ:St)(p q:PV):Option PV:=bd q.int? fun i=>gd (small i)
 (ql (bd p.str? fun x=>bd (seqIndex? i x.length) fun j=>bd x.cps[j]? fun c=>some (.str ⟨#[c]⟩))
  (ql (bd p.byt? fun x=>gd (decide (0≤i)&&(decide (i<x.size)&&decide (x.size≤BM))) (bd x[i.toNat]? fun c=>some (.int c.toNat)))
   (ql (bd p.tup? fun l=>bd (seqIndex? i l.length) fun j=>l[j]?)
    (bd (Bx σ p) fun l=>gd (decide (l.length≤BM)) (bd (seqIndex? i l.length) fun j=>l[j]?)))))
def LG{α:Type}(f:PV→Option α):List PV→Option (List α)
 | []=>some []
 | p::r=>bd (f p) fun i=>bd (LG f r) fun l=>some (i::l)
def Ek(l:List PV):Option (List Int):=LG PV.int? l
def EH(l:List PV):Option (List Str):=LG PV.str? l
def Hd(l:List PV):Option (List (Array UInt8)):=LG PV.byt? l
noncomputable def zL{α:Type}(le:α→α→Bool)(a:α):List α→List α
 | []=>[a]
 | b::r=>cond (le a b) (a::b::r) (b::zL le a r)
def aV{α:Type}(le:α→α→Bool):List α→List α
 | []=>[]
 | a::r=>zL le a (aV le r)
noncomputable def leI(a b:Int):Bool:=decide (a≤b)
noncomputable def leS(a b:Str):Bool:=!decide (b.cps.toList<a.cps.toList)
def UC(l:List Int):List Int:=aV leI l
def Aad(l:List Str):List Str:=aV leS l
def LI(σ:St)(p:PV):Option PV:=ql (bd p.str? fun x=>gd (decide (x.length≤BM)) (some (.int x.length)))
 (ql (bd p.byt? fun x=>gd (decide (x.size≤BM)) (some (.int x.size))) (bd (Bx σ p) fun l=>gd (decide (l.length≤BM)) (some (.int l.length))))
def R3(p:PV):Option (Int×Int):=bd p.tup? fun l=>bd (two? l) fun x=>i2 x.1 x.2 fun a b=>some (a,b)
def Xn(l:List PV):Option (List (Int×Int)):=LG R3 l
noncomputable def vJ(a b:Int×Int):Bool:=cond (a.1==b.1) (decide (a.2<b.2)) (decide (a.1<b.1))
def FJ{α:Type}(n:Nat)(lt:Nat→Nat→Bool):KasT α→Option α
 | .ret a=>some a
 | .ask i j k=>gd (decide (i<n)&&decide (j<n)) (FJ n lt (k (lt i j)))
def Tx(l:List (Int×Int))(i j:Nat):Bool:=l[i]?.elim false fun a=>l[j]?.elim false fun b=>vJ a b
def IO(l:List PV):List Nat→Option (List PV)
 | []=>some []
 | i::r=>bd l[i]? fun p=>bd (IO l r) fun t=>some (p::t)
def XV(l:List PV):Option PV:=bd (Xn l) fun ns=>gd (decide (2≤ns.length)) (bd (FJ ns.length (Tx ns) (kas_sort ns.length)) fun p=>bd (IO l p.toList) fun r=>some (.lst r))
def UD(f:BI)(ps:List PV)(σ:St):Option PV:=match f with
 | .len=>bd (one? ps) fun p=>LI σ p
 | .range=>ql (bd (one? ps) fun p=>bd p.int? fun b=>some (.rng 0 b 1)) (ql (bd (two? ps) fun x=>i2 x.1 x.2 fun a b=>some (.rng a b 1))
   (bd (three? ps) fun x=>i2 x.1 x.2.1 fun a b=>bd x.2.2.int? fun d=>gd (d != 0&&decide (d.natAbs<1000000000)) (some (.rng a b d))))
 | .sorted=>bd (one? ps) fun p=>bd (Bx σ p) fun l=>gd (decide (l.length<60)) (ql (bd (Ek l) fun ns=>some (.lst ((UC ns).map .int))) (XV l))
 | .max=>bd (two? ps) fun x=>i2 x.1 x.2 fun a b=>some (.int (if a<b then b else a))
 | .bytes=>bd (one? ps) fun p=>bd (Bx σ p) fun l=>bd (Ek l) fun ns=>gd (ns.all (fun n=>decide (0≤n)&&decide (n<256))&&decide (ns.length≤BM)) (some (.byt (ns.map fun n=>n.toNat.toUInt8).toArray))
 | .sum=>bd (one? ps) fun p=>bd (Bx σ p) fun l=>bd (Ek l) fun ns=>some (.int ns.sum)
 | .list=>bd (one? ps) fun p=>bd p.rng? fun x=>gd (Builtin.Range.small x.1 x.2.1 x.2.2&&decide (Builtin.Range.rangeSize x.1 x.2.1 x.2.2≤BM)) (some (.lst (GA x.1 x.2.1 x.2.2)))
def BP:Str:=qS "latin-1"
def asc(l:List Nat):Bool:=l.all (fun c=>decide (c<256))&&decide (l.length≤BM)
noncomputable def Gb(x y:Str)(k e:Int):Int:=match Builtin.Str.occurrences x y k.toNat e.toNat 1 with | i::_=>(i:Int) | []=>-1
def Y9(m:MT)(l:List PV)(ps:List PV):Option (PV×List PV):=match m with
 | .append=>bd (one? ps) fun q=>gd (decide (l.length≤BM)) (some (.none,l++[q]))
 | .extend=>bd (one? ps) fun q=>bd q.lst? fun r=>gd (decide (l.length≤BM)&&decide (r.length≤BM)) (some (.none,l++r))
 | .pop=>bd (nil? ps) fun _=>bd l.getLast? fun q=>gd (decide (l.length≤BM)) (some (q,l.dropLast))
 | _=>none
def qX(σ:St)(x:Str)(ps:List PV):Option PV:=bd (one? ps) fun q=>bd (Bx σ q) fun l=>bd (EH l) fun ss=>gd (decide (x.length≤16)&&decide ((ss.map (·.length)).sum+ss.length≤BM)) (some (.str (Str.join x ss)))
def lG(σ:St)(x:Array UInt8)(ps:List PV):Option PV:=bd (one? ps) fun q=>bd (Bx σ q) fun l=>bd (Hd l) fun bs=>gd (decide (x.size=0)&&(decide (2≤bs.length)&&decide (bs.length≤BM)&&decide ((bs.map Array.size).sum≤BM))) (some (.byt (bs.foldl (·++·) #[])))
def meS(m:MT)(x:Str)(ps:List PV)(σ:St):Option PV:=match m with
 | .join=>qX σ x ps
 | .find=>ql (bd (two? ps) fun y=>bd y.1.str? fun z=>bd y.2.int? fun k=>gd (decide (x.length≤BM)&&(decide (0≤k)&&decide (k≤BM))) (some (.int (Gb x z k x.length))))
   (bd (three? ps) fun y=>bd y.1.str? fun z=>i2 y.2.1 y.2.2 fun k e=>gd (decide (x.length≤BM)&&(decide (0≤k)&&(decide (k≤BM)&&(decide (0≤e)&&decide (e≤x.length))))) (some (.int (Gb x z k e))))
 | .replace=>bd (two? ps) fun y=>s2 y.1 y.2 fun a _=>gd (decide (x.length≤BM)&&(Builtin.Str.occurrences x a 0 x.length (x.length+1)).isEmpty) (some (.str x))
 | .encode=>bd (one? ps) fun q=>bd q.str? fun y=>gd (decide (y=BP)&&asc x.cps.toList) (some (.byt (x.cps.map Nat.toUInt8)))
 | _=>none
def O5(m:MT)(b:Array UInt8)(ps:List PV)(σ:St):Option PV:=match m with
 | .join=>lG σ b ps
 | .decode=>bd (one? ps) fun q=>bd q.str? fun y=>gd (decide (y=BP)&&decide (b.size≤BM)) (some (.str ⟨b.map UInt8.toNat⟩))
 | _=>none
def MO(m:MT)(p:PV)(ps:List PV)(σ:St):Option (PV×St):=
 ql (bd p.str? fun x=>vl (meS m x ps σ) σ) (ql (bd p.byt? fun x=>vl (O5 m x ps σ) σ) (bd p.loc? fun n=>bd (Bv σ n) fun l=>bd (Y9 m l ps) fun x=>some (x.1,σ.set n (.lst x.2))))
noncomputable def V4(m:MT):Bool:=match m with | .append | .extend | .pop=>true | _=>false
noncomputable def X3(m:MT):Bool:=match m with | .join | .find | .replace | .encode=>true | _=>false
noncomputable def V0(m:MT):Bool:=match m with | .join | .decode=>true | _=>false
def Pu(m:MT)(p:PV)(σ:St):Option Unit:=
 ql (bd p.str? fun _=>gd (X3 m) (some ())) (ql (bd p.byt? fun _=>gd (V0 m) (some ())) (bd p.loc? fun n=>bd (Bv σ n) fun _=>gd (V4 m) (some ())))
noncomputable def Aae:Str:=⟨#[46]⟩
def kF(p:PV):Option PV:=bd p.str? fun x=>ql (gd (x.cps==#[97]||x.cps==#[98]) (some (.str x))) (gd (x.cps==#[46]) (some (.str ⟨#[92,46]⟩)))
noncomputable def Wo:Nat→PySem.Sre.M→Option PySem.Sre.M
 | 0,_=>none
 | n+1,m=>let m:=m.runFor 4;if m.outcome.isSome then some m else Wo n m
noncomputable def Ez:Array Nat:=#[14,14,4,1,1,9,0,64,0,1342177280,0,0,0,0,0,17,0,13,11,9,0,64,0,1342177280,0,0,0,0,0,17,1,1]
def Rx(x:Str):Bool:=match Wo 1000 (PySem.Sre.forSearch Ez x.cps 1 0 x.cps.size false) with
 | some m=>(match m.outcome with | some .failed=>true | _=>false)
 | none=>false
def uR(p:PV):Option PV:=bd p.str? fun x=>gd (decide (x.length≤64)&&Rx x) (some (.str x))
section
variable(Φ:Nat→Option Spec)
def Ni(n:Nat)(p:PV):Option Fm:=match n with
 | 1=>some [some p]
 | 2=>bd p.tup? fun l=>bd (two? l) fun x=>some [some x.1,some x.2]
 | _=>none
noncomputable def B4(o:Oi):Option PV:=match o with | .val p=>some p | .exc _=>none
def Yk(f:Nat)(ps:List PV)(σ:St):Option (PV×St):=bd (Φ f) fun sp=>sq (sp ps σ) fun o σ=>vl (B4 o) σ
def ZW(m:Fm)(i:Nat):Option PV:=bd m[i]? id
def Kw(σ:St)(p:PV):Option (Nat×Array UInt8):=bd p.strm? fun n=>bd σ[n]? fun o=>bd o.sd? fun b=>some (n,b)
def rU(ps:List PV):Option PV:=bd (EH ps) fun ss=>gd (decide ((ss.map (·.length)).sum≤BM)) (some (.str (ss.foldl (·++·) Str.empty)))
noncomputable def JV(i n:Int)(len:Nat):List Nat:=sliceRange (sliceBounds (some i) none (some n) len).1 (sliceBounds (some i) none (some n) len).2.1 (sliceBounds (some i) none (some n) len).2.2
def aT(σ:St)(p q:PV)(n:Int):Option PV:=bd q.int? fun i=>bd (Bx σ p) fun l=>gd (decide (l.length≤BM)&&n != 0) (bd (IO l (JV i n l.length)) fun r=>some (.lst r))
def Sr(σ:St)(n:Nat):Option (List (Str×PV)):=bd σ[n]? PO.dct?
def J7(n:Nat)(q:PV)(σ:St):Option PV:=bd q.str? fun y=>bd (Sr σ n) fun l=>l.lookup y
def MY(y:Str):Bool:=(Builtin.Str.occurrences y ⟨#[92]⟩ 0 y.length (y.length+1)).isEmpty&&(Builtin.Str.occurrences y ⟨#[45]⟩ 0 y.length (y.length+1)).isEmpty&&decide (y.length≤BM)
def G2(σ:St)(x:Str)(p:PV):Option PV:=bd (Bx σ p) fun l=>bd (EH l) fun ss=>gd (ss.all MY&&(decide (x.length≤16)&&(decide (ss.length≤64)&&decide ((ss.map (·.length)).sum+ss.length≤BM)))) (some (.str (Str.join x ss)))
def EF(n:Option Nat)(ar:Nat)(ts:Fm→St→Option (Bool×St))(f:zG)(m:Fm):List PV→Nat→St→List PV→Option (List PV×St)
 | [],k,σ,acc=>gd (bD n σ k) (some (acc,σ))
 | q::r,k,σ,acc=>gd (decide (acc.length≤BM)) (bd (Q6 n σ k q) fun p=>bd (Ni ar p) fun bs=>sq (ts (m++bs) σ) fun t σ=>
   cond t (sq (f (m++bs) σ) fun q σ=>EF n ar ts f m r (k+1) σ (acc++[q])) (EF n ar ts f m r (k+1) σ acc))
mutual
noncomputable def ev:X→Fm→St→Option (PV×St)
 | .bad,_,_=>none
 | .none,_,σ=>some (.none,σ)
 | .bool b,_,σ=>some (.bool b,σ)
 | .int i,_,σ=>some (.int i,σ)
 | .str x,_,σ=>some (.str x,σ)
 | .byt l,_,σ=>some (.byt l.toArray,σ)
 | .v i,m,σ=>vl (ZW m i) σ
 | .bin op a b,m,σ=>sq (ev a m σ) fun p σ=>sq (ev b m σ) fun q σ=>vl (Ie op p q σ) σ
 | .neg a,m,σ=>sq (ev a m σ) fun p σ=>bd p.int? fun i=>some (.int (-i),σ)
 | .no a,m,σ=>sq (ev a m σ) fun p σ=>bd (AT σ p) fun b=>some (.bool (!b),σ)
 | .cmp op a b,m,σ=>sq (ev a m σ) fun p σ=>sq (ev b m σ) fun q σ=>bd (Co op p q σ) fun r=>some (.bool r,σ)
 | .cmp2 o o' a b d,m,σ=>sq (ev a m σ) fun p σ=>sq (ev b m σ) fun q σ=>bd (Co o p q σ) fun t=>cond t (sq (ev d m σ) fun r σ=>bd (Co o' q r σ) fun t=>some (.bool t,σ)) (some (.bool false,σ))
 | .bo op xs,m,σ=>evB op xs m σ
 | .ite t a b,m,σ=>sq (ev t m σ) fun p σ=>bd (AT σ p) fun t=>cond t (ev a m σ) (ev b m σ)
 | .tup xs,m,σ=>sq (evL xs m σ) fun ps σ=>gd (decide (ps.length≤BM)) (some (.tup ps,σ))
 | .list xs,m,σ=>sq (evL xs m σ) fun ps σ=>gd (decide (ps.length≤BM)) (some (.lst ps,σ))
 | .mlist xs,m,σ=>sq (evL xs m σ) fun ps σ=>gd (decide (ps.length≤BM)) (some (.loc σ.length,σ++[.lst ps]))
 | .call f xs,m,σ=>sq (evL xs m σ) fun ps σ=>Yk Φ f ps σ
 | .callv i a,m,σ=>bd (ZW m i) fun q=>bd q.app? fun n=>sq (ev a m σ) fun p σ=>MO .append (.loc n) [p] σ
 | .bi f xs,m,σ=>sq (evL xs m σ) fun ps σ=>vl (UD f ps σ) σ
 | .me k a xs,m,σ=>sq (ev a m σ) fun p σ=>bd (Pu k p σ) fun _=>sq (evL xs m σ) fun ps σ=>MO k p ps σ
 | .idx a i,m,σ=>sq (ev a m σ) fun p σ=>sq (ev i m σ) fun q σ=>vl (CC σ p q) σ
 | .slc a lo hi,m,σ=>sq (ev a m σ) fun p σ=>sq (evO lo m σ) fun l σ=>sq (evO hi m σ) fun h σ=>vl (Kn σ p l h) σ
 | .stp a lo n,m,σ=>sq (ev a m σ) fun p σ=>sq (ev lo m σ) fun q σ=>vl (aT σ p q n) σ
 | .dsp ks xs k,m,σ=>sq (evL xs m (σ++[.dct []])) fun ps σ'=>bd (Sr σ' σ.length) fun l=>gd (l.isEmpty&&(decide (ps.length=ks.length)&&(decide ks.Nodup&&decide (ks.length≤15)))) (sq (ev k m (σ'.set σ.length (.dct (ks.zip ps)))) fun q σ'=>vl (J7 σ.length q σ') σ')
 | .mrep a n,m,σ=>sq (ev a m σ) fun p σ=>gd (decide (0≤n)&&decide (n≤64)) (some (.loc σ.length,σ++[.lst (List.replicate n.toNat p)]))
 | .jog x it,m,σ=>sq (ev it m σ) fun p σ=>vl (G2 σ x p) σ
 | .app a,m,σ=>sq (ev a m σ) fun p σ=>bd p.loc? fun n=>bd (Bv σ n) fun _=>some (.app n,σ)
 | .val a,m,σ=>sq (ev a m σ) fun p σ=>bd (Kw σ p) fun x=>some (.byt x.2,σ)
 | .read f a n,m,σ=>sq (ev a m σ) fun p σ=>bd (Kw σ p) fun x=>sq (ev n m σ) fun q σ=>Yk Φ f [.strm x.1,q] σ
 | .comp ar elt it ifs,m,σ=>sq (ev it m σ) fun p σ=>bd (EM σ p) fun x=>sq (EF x.2 ar (evT ifs) (ev elt) m x.1 0 σ []) fun ps σ=>some (.lst ps,σ)
 | .fstr xs,m,σ=>sq (evL xs m σ) fun ps σ=>vl (rU ps) σ
 | .sub a,m,σ=>sq (ev a m σ) fun p σ=>vl (uR p) σ
 | .trs a,m,σ=>sq (ev a m σ) fun p σ=>vl (kF p) σ
 | .star,_,σ=>some (.loc σ.length,σ++[.plain])
noncomputable def evL:XL→Fm→St→Option (List PV×St)
 | .nil,_,σ=>some ([],σ)
 | .cons x r,m,σ=>sq (ev x m σ) fun p σ=>sq (evL r m σ) fun ps σ=>some (p::ps,σ)
noncomputable def evO:XO→Fm→St→Option (Option PV×St)
 | .no,_,σ=>some (none,σ)
 | .yes x,m,σ=>sq (ev x m σ) fun p σ=>some (some p,σ)
noncomputable def evB(op:BoolOp):XL→Fm→St→Option (PV×St)
 | .nil,_,_=>none
 | .cons x r,m,σ=>sq (ev x m σ) fun p σ=>match r with
  | .nil=>some (p,σ)
  | .cons y r'=>bd (AT σ p) fun b=>cond ((op==.And)==b) (evB op (.cons y r') m σ) (some (p,σ))
noncomputable def evT:XL→Fm→St→Option (Bool×St)
 | .nil,_,σ=>some (true,σ)
 | .cons x r,m,σ=>sq (ev x m σ) fun p σ=>bd (AT σ p) fun b=>cond b (evT r m σ) (some (false,σ))
end
end
end Sh
namespace Sh
open PySem PySem.Calls PyProof.Rows PySem.W PySem.Spec
def Rd(h:Heap)(v:Value)(d:PyData):Prop:=∃as,Reads h v d as
def sO(h:Heap)(v:List Value)(d:List PyData):Prop:=∃as,ReadsAll h v d as
mutual
theorem VR.reads{C:Addr}{ω:Wd}{h:Heap}:∀{p:PV} {v:Value} {d:PyData},VR C ω h p v→JX p=some d→Rd h v d
 | .none,_,_,x,e=>AP (P:=Rd h _) e (x.none_el (P:=fun v=>Rd h v _) ⟨_,.none⟩)
 | .bool _,_,_,x,e=>AP (P:=Rd h _) e (x.bool_el (P:=fun v=>Rd h v _) ⟨_,.bool _⟩)
 | .int _,_,_,x,e=>AP (P:=Rd h _) e (x.int_el (P:=fun v=>Rd h v _) fun t=>⟨_,.int _ t⟩)
 | .str _,_,_,x,e=>AJ e fun _ e=>AP (P:=Rd h _) e (x.str_el (P:=fun v=>Rd h v _) fun t=>⟨_,.str _ t⟩)
 | .byt _,_,_,_,e=>nn e
 | .tup l,_,_,x,e=>Cm (P:=Rd h _) e fun ds e=>x.tup_el (P:=fun v=>Rd h v _) fun a o vs n f c dd r=>(VRs.reads r e).elim fun as q=>⟨_,.tuple f.2.2.1 c dd q⟩
 | .lst l,_,_,x,e=>Cm (P:=Rd h _) e fun ds e=>x.lst_el (P:=fun v=>Rd h v _) fun a o vs n f c dd r=>(VRs.reads r e).elim fun as q=>⟨_,.list f.2.2.1 c dd q⟩
 | .rng _ _ _,_,_,_,e=>nn e
 | .loc _,_,_,_,e=>nn e
 | .strm _,_,_,_,e=>nn e
 | .app _,_,_,_,e=>nn e
theorem VRs.reads{C:Addr}{ω:Wd}{h:Heap}:∀{ps:List PV} {vs:List Value} {ds:List PyData},VRs C ω h ps vs→pyOfs ps=some ds→sO h vs ds
 | [],_,_,x,e=>AP (P:=sO h _) e (x.nil_el (Ps:=fun v=>sO h v _) ⟨_,.nil⟩)
 | p::ps,_,_,x,e=>AB e fun d e1 e=>AB e fun ds e2 e=>AP (P:=sO h _) e (x.cons_el (Ps:=fun v=>sO h v _) fun v r a b=>(VR.reads a e1).elim fun _ q=>(VRs.reads b e2).elim fun _ q'=>⟨_,.cons q q'⟩)
end
def Z6(d:PyData):Prop:=d.canLay0=true
def G4(d:List PyData):Prop:=PyData.canLayAll0 d=true
mutual
theorem Bp:∀{p:PV} {d:PyData},JX p=some d→Z6 d
 | .none,_,e=>AP e rfl
 | .bool _,_,e=>AP e rfl
 | .int _,_,e=>AP e rfl
 | .str _,_,e=>AJ e fun h e=>AP e h
 | .byt _,_,e=>nn e
 | .tup l,_,e=>Cm e fun _ e=>pyOfs_lay e
 | .lst l,_,e=>Cm e fun _ e=>pyOfs_lay e
 | .rng _ _ _,_,e=>nn e
 | .loc _,_,e=>nn e
 | .strm _,_,e=>nn e
 | .app _,_,e=>nn e
theorem pyOfs_lay:∀{ps:List PV} {ds:List PyData},pyOfs ps=some ds→G4 ds
 | [],_,e=>AP e rfl
 | p::ps,_,e=>AB e fun d e1 e=>AB e fun ds e2 e=>AP e (show(d.canLay0&&PyData.canLayAll0 ds)=true from Bool.and_eq_true_iff.mpr ⟨Bp e1,pyOfs_lay e2⟩)
end
theorem VRs.length{C:Addr}{ω:Wd}{h:Heap}:∀{ps:List PV} {vs:List Value},VRs C ω h ps vs→vs.length=ps.length
 | [],_,x=>x.nil_el (Ps:=fun vs=>vs.length=0) rfl
 | p::ps,_,x=>x.cons_el (Ps:=fun vs=>vs.length=ps.length+1) fun _ _ _ b=>congrArg (·+1) (VRs.length b)
theorem VRs.size{C:Addr}{ω:Wd}{h:Heap}{ps:List PV}{vs:Array Value}(x:VRs C ω h ps vs.toList):vs.size=ps.length:=x.length
theorem VRs.get{C:Addr}{ω:Wd}{h:Heap}:∀{ps:List PV} {vs:List Value} {i:Nat} {p:PV},VRs C ω h ps vs→ps[i]?=some p→∃v,vs[i]?=some v∧VR C ω h p v
 | [],_,_,_,x,e=>nomatch e
 | p::ps,_,0,q,x,e=>x.cons_el (Ps:=fun vs=>∃v,vs[0]?=some v∧VR C ω h q v) fun v _ a _=>⟨v,rfl,AP (P:=fun q=>VR C ω h q v) (show some p=some q from e) a⟩
 | p::ps,_,i+1,q,x,e=>x.cons_el (Ps:=fun vs=>∃v,vs[i+1]?=some v∧VR C ω h q v) fun v _ _ b=>VRs.get (ps:=ps) (i:=i) (p:=q) b e
theorem VRs.append{C:Addr}{ω:Wd}{h:Heap}:∀{ps qs:List PV} {vs ws:List Value},VRs C ω h ps vs→VRs C ω h qs ws→VRs C ω h (ps++qs) (vs++ws)
 | [],qs,_,ws,x,y=>x.nil_el (Ps:=fun vs=>VRs C ω h qs (vs++ws)) y
 | p::ps,qs,_,ws,x,y=>x.cons_el (Ps:=fun vs=>VRs C ω h (p::(ps++qs)) (vs++ws)) fun _ _ a b=>.cons_in a (VRs.append b y)
theorem VRs.drop{C:Addr}{ω:Wd}{h:Heap}:∀{ps:List PV} {vs:List Value} (n:Nat),VRs C ω h ps vs→VRs C ω h (ps.drop n) (vs.drop n)
 | _,_,0,x=>x
 | [],_,n+1,x=>x.nil_el (Ps:=fun vs=>VRs C ω h [] (vs.drop (n+1))) .nil
 | p::ps,_,n+1,x=>x.cons_el (Ps:=fun vs=>VRs C ω h (ps.drop n) (vs.drop (n+1))) fun _ _ _ b=>VRs.drop n b
theorem VRs.take{C:Addr}{ω:Wd}{h:Heap}:∀{ps:List PV} {vs:List Value} (n:Nat),VRs C ω h ps vs→VRs C ω h (ps.take n) (vs.take n)
 | [],_,0,x=>.nil
 | _::_,_,0,x=>.nil
 | [],_,n+1,x=>x.nil_el (Ps:=fun vs=>VRs C ω h [] (vs.take (n+1))) .nil
 | p::ps,_,n+1,x=>x.cons_el (Ps:=fun vs=>VRs C ω h (p::ps.take n) (vs.take (n+1))) fun _ _ a b=>.cons_in a (VRs.take n b)
theorem FN{σ:St}{n:Nat}{l:List PV}(e:Bv σ n=some l):σ[n]?=some (.lst l):=AB e fun o e1 e2=>Oo e2▸e1
theorem AL.lst_el{B:AV}{ω:Wd}{σ:St}{s:Shared}{n:Nat}{a:Addr}{l:List PV}{G:Prop}(I:AL B ω σ s)(i:ω.mu[n]?=some a)(e:σ[n]?=some (.lst l))
  (k:∀o vs n',s.heap.get? a=some o→LC o→o.data=.seq vs n'→VRs B.C ω s.heap l vs.toList→G):G:=
 let ⟨o,vs,n',h1,h2,h3,h4⟩:=(show ∃o vs n',s.heap.get? a=some o∧LC o∧o.data=.seq vs n'∧VRs B.C ω s.heap l vs.toList from I.objs _ _ _ i e)
 k o vs n' h1 h2 h3 h4
theorem AL.plain_el{B:AV}{ω:Wd}{σ:St}{s:Shared}{n:Nat}{a:Addr}{G:Prop}(I:AL B ω σ s)(i:ω.mu[n]?=some a)(e:σ[n]?=some .plain)
  (k:∀o,s.heap.get? a=some o→o.cls=.type "object" → G):G:=
 (show ∃o,s.heap.get? a=some o∧o.cls=.type "object" from I.objs _ _ _ i e).elim fun o q=>k o q.1 q.2
@[elab_as_elim] theorem Dj{B:AV}{ω:Wd}{σ:St}{s:Shared}{n:Nat}{v:Value}{l:List PV}{P:Value→Prop}(I:AL B ω σ s)(x:VR B.C ω s.heap (.loc n) v)(e:Bv σ n=some l)
  (k:∀a o vs n',ω.mu[n]?=some a→s.heap.get? a=some o→LC o→o.data=.seq vs n'→VRs B.C ω s.heap l vs.toList→P (.ref a)):P v:=
 x.loc_el fun a i=>I.lst_el i (FN e) fun o vs m h1 h2 h3 h4=>k a o vs m i h1 h2 h3 h4
@[elab_as_elim] theorem BB{B:AV}{ω:Wd}{σ:St}{s:Shared}{p:PV}{v:Value}{l:List PV}{P:Value→Prop}(I:AL B ω σ s)(x:VR B.C ω s.heap p v)(e:Bx σ p=some l)
  (k:∀a o vs n,s.heap.get? a=some o→o.cls=.type "list" → o.data=.seq vs n→VRs B.C ω s.heap l vs.toList→P (.ref a)):P v:=
 Ah e (fun e=>VR.lst_el (P:=P) (Qd e▸x) fun a o vs n f c d r=>k a o vs n f.2.2.1 c d r)
  fun e=>AB e fun n e1 e2=>Dj (P:=P) I (DJ e1▸x) e2 fun a o vs n' _ ho c d r=>k a o vs n' ho c.1 d r
abbrev M6:Heap:={}
theorem Ar(h:Heap):h.get? h.objs.size=none:=
 match e:h.get? h.objs.size with
 | none=>rfl
 | some _=>absurd (Heap.lt_size e) (Nat.lt_irrefl _)
theorem Bj{h:Heap}{a:Addr}{o:Obj}{vs:Array Value}{n:Nat}(ho:h.get? a=some o)(c:o.cls=.type "list")(d:o.data=.seq vs n):h.IsList a vs:=⟨o,ho,c,n,d⟩
theorem Hb{h:Heap}{a:Addr}{o:Obj}{vs:Array Value}{n:Nat}(ho:h.get? a=some o)(c:LC o)(d:o.data=.seq vs n):IsL h a vs n:=by
 obtain⟨c1,c2,c3⟩:=c
 obtain⟨k,dd,dt,sl⟩:=o
 simp only at c1 c2 c3 d
 subst c1 c2 c3 d
 exact ho
theorem MF{vs:Array Value}{n:Nat}:LC {cls:=.type "list",dict:=none,data:=.seq vs n,slots:=#[]}:=⟨rfl,rfl,rfl⟩
theorem Mj{a:Int}(h:small a=true):Builtin.Int.intBits a≤64:=by have:=An h;exact intBits_le_64 (by omega) (by omega)
theorem Aa{n:Nat}(h:decide (n≤BM)=true):n≤sizeLine:=by have:=An h;rw[sizeLine_eq];simp only[BM]at this;lia
theorem CM{n:Nat}(h:decide (n≤BM)=true):n≤1000000:=by have:=An h;simp only[BM]at this;lia
section
variable{B:AV}{A:Around}{E:Value→Shared→Prop}{ω:Wd}{σ:St}{s:Shared}{Q:Value→Shared→Prop}
theorem JS{o:Obj}{h':Heap}(I:AL B ω σ s)(hd:¬EA o∧¬EL o){a:Addr}(hn:s.heap.get? a=none)(ho:h'.get? a=some o):Fz ω h' a o:=
 ⟨(fun q=>by have:=I.live q;rw[hn]at this;cases this),(fun q=>by have:=I.exl a q;rw[hn]at this;cases this),ho,hd⟩
theorem JH{l:List PV}{vs:Array Value}{o:Obj}{h':Heap}{a:Addr}{n:Nat}(I:AL B ω σ s)(hn:s.heap.get? a=none)(ho:h'.get? a=some o)(c:o.cls=.type "list")(d:o.data=.seq vs n)
  (x:VRs B.C ω h' l vs.toList):VR B.C ω h' (.lst l) (.ref a):=.lst_in (JS I (HE d) hn ho) c d x
abbrev KK(B:AV)(ω:Wd)(s:Shared)(p:PV)(Q:Value→Shared→Prop):Prop:=
 ∀v h' tk,(∀b o,s.heap.get? b=some o→h'.get? b=some o)→VR B.C ω h' p v→Q v {s with heap:=h',toks:=tk}
theorem Fj(h:Heap):∀b o,h.get? b=some o→h.get? b=some o:=fun _ _ e=>e
theorem AO(h:Heap)(o:Obj):∀b o',h.get? b=some o'→(h.push o).get? b=some o':=fun _ _ e=>Heap.get?_push_of_some _ e
theorem BX(h:Heap)(o:Obj)(hf:o.isFreed=false):(h.push o).get? h.objs.size=some o:=Heap.get?_push_size _ hf
theorem KK.int{i:Int}{r:PV}(k:KK B ω s r Q)(e:some (PV.int i)=some r)(t tk:Tok):Q (.int i t) {s with toks:=tk}:=k _ s.heap tk (Fj _) (AP (P:=fun r=>VR B.C ω s.heap r (.int i t)) e .int_in)
theorem KK.str{i:Str}{r:PV}(k:KK B ω s r Q)(e:some (PV.str i)=some r)(t tk:Tok):Q (.str i t) {s with toks:=tk}:=k _ s.heap tk (Fj _) (AP (P:=fun r=>VR B.C ω s.heap r (.str i t)) e .str_in)
theorem KK.byt{i:Array UInt8}{r:PV}(k:KK B ω s r Q)(e:some (PV.byt i)=some r)(t tk:Tok):Q (.bytes i t) {s with toks:=tk}:=k _ s.heap tk (Fj _) (AP (P:=fun r=>VR B.C ω s.heap r (.bytes i t)) e .byt_in)
theorem KK.lst{vs:Array Value}{l:List PV}{r:PV}(I:AL B ω σ s)(k:KK B ω s r Q)(e:some (PV.lst l)=some r)(x:VRs B.C ω s.heap l vs.toList) :
  Q (.ref s.heap.objs.size) {s with heap:=s.heap.push {cls:=.type "list",data:=.seq vs}}:=
 k _ _ s.toks (AO _ _) (AP (P:=fun r=>VR B.C ω (s.heap.push {cls:=.type "list",data:=.seq vs}) r (.ref s.heap.objs.size)) e (JH I (Ar _) (BX _ _ rfl) rfl rfl (x.carry (.of_keep (AO _ _)))))
theorem Sq{a b:Addr}{oa ob:Obj}{va vb:Array Value}{na nb:Nat}{Q:Value→Shared→Prop}(ha:s.heap.get? a=some oa)(ca:oa.cls=.type "list")(da:oa.data=.seq va na)(hb:s.heap.get? b=some ob)(cb:ob.cls=.type "list")(db:ob.data=.seq vb nb)
  (hsz:va.size+vb.size≤sizeLine) (k:Q (.ref s.heap.objs.size) {s with heap:=s.heap.push {cls:=.type "list",data:=.seq (va++vb)}}):wpAny (model B.prog B.w) A (binaryOp .Add (.ref a) (.ref b)) Q E s:=by
 obtain⟨cls,dd,data,sl⟩:=oa
 obtain⟨cls2,dd2,data2,sl2⟩:=ob
 cases ca;cases da;cases cb;cases db
 exact concat_meets ⟨_,ha,rfl⟩ ⟨_,hb,rfl⟩ noFill_list_add seq_list_add PySem.F.slot_list_add PySem.F.entry_list_add (PySem.F.args_list_add_2 _ _) (list_addW a b va vb na nb dd dd2 sl sl2 hsz) ⟨ha,hb,k⟩
theorem J5{a n:Int}(h1:0≤n)(h2:n≤60)(h3:a.natAbs<2^32):(Builtin.Int.intBits a:Int)*n≤2^27:=by
 have h1':Builtin.Int.intBits a≤64:=intBits_le_64 (by omega) (by omega)
 have h2':(Builtin.Int.intBits a:Int)≤64:=by lia
 calc (Builtin.Int.intBits a:Int)*n≤64*n:=Int.mul_le_mul_of_nonneg_right h2' h1
  _≤2^27:=by lia
theorem gS{op:Operator}{p q r:PV}{v w:Value}(I:AL B ω σ s)(x:VR B.C ω s.heap p v)(y:VR B.C ω s.heap q w)(e:Ie op p q σ=some r)(k:KK B ω s r Q) :
  wpAny (model B.prog B.w) A (binaryOp op v w) Q E s:=by
 cases op<;>first|exact nn e | skip
 ·refine Ah e (fun e=>Bb x y e fun a b t u e=>add_int (k.int e _ _)) fun e=>Ah e (fun e=>EN x y e fun a b t u e=>AJ e fun h e=>PyProof.Rows.add_str (fun t' tk=>k.str e _ _) (Aa h))
   fun e=>Ah e (fun e=>Rc x y e fun a b t u e=>AJ e fun h e=>KBy.add_bytes (Aa h) fun t' tk=>k.byt e _ _)
   fun e=>AB e fun l1 e1 e=>AB e fun l2 e2 e=>AJ e fun h e=>?_
  refine BB (P:=fun v=>wpAny (model B.prog B.w) A (binaryOp .Add v w) Q E s) I x e1 fun a o vs n ho c d r=>BB I y e2 fun a' o' vs' n' ho' c' d' r'=>Sq ho c d ho' c' d' (by rw[r.size,r'.size];exact Aa h) (k.lst I e ?_)
  rw[Array.toList_append]
  exact r.append r'
 ·exact Bb x y e fun a b t u e=>sub_int (k.int e _ _)
 ·exact Bb x y e fun a b t u e=>AJ e fun h e=>AF h fun h _=>PyProof.Rows.mul_int (k.int e _ _) (IntMulOk.of_left (Mj h))
 ·exact Bb x y e fun a b t u e=>AJ e fun h e=>PyProof.Rows.mod_int' (bne_iff_ne.mp h) (k.int e _ _)
 ·exact Bb x y e fun a b t u e=>AJ e fun h e=>AF h fun h1 h=>AF h fun h2 h3=>PyProof.Rows.pow_int (An h1) (J5 (An h1) (An h2) (An h3)) (k.int e _ _)
 ·exact Bb x y e fun a b t u e=>AJ e fun h e=>AF h fun h1 h2=>PyProof.Rows.rshift_int (An h1) (k.int e _ _)
 ·exact Bb x y e fun a b t u e=>AJ e fun h e=>AF h fun h1 h2=>PyProof.Rows.floordiv_int (hp:=.inl (PyProof.noPylong_small (by have:=An h2;omega))) (bne_iff_ne.mp h1) (k.int e _ _)
end
end Sh
namespace Sh
open PySem PySem.Calls PyProof.Rows PySem.W PySem.Spec PySem.SeqAt
section
variable{B:AV}{A:Around}{E:Value→Shared→Prop}{ω:Wd}{σ:St}{s:Shared}
theorem CP{p:PV}{v:Value}{d:PyData}(I:AL B ω σ s)(x:VR B.C ω s.heap p v)(e:JX (DD σ p)=some d):Rd s.heap v d:=
 match h:bd p.loc? (Bv σ),(show JX ((bd p.loc? (Bv σ)).elim p .lst)=some d from e) with
 | some l,e=>AB h fun n e1 e2=>Dj (P:=fun v=>Rd s.heap v d) I (DJ e1▸x) e2 fun a o vs n' _ ho c dd r=>
   Cm (P:=fun d=>Rd s.heap (.ref a) d) (show(pyOfs l).map .list=some d from e) fun ds e=>(VRs.reads r e).elim fun _ q=>⟨_,.list ho c.1 dd q⟩
 | none,e=>x.reads e
section
variable{Q:Value→Shared→Prop}{p q:PV}{b:Bool}{v w:Value}
theorem qb{b':Bool}(e:some b'=some b)(k:Q (.bool b) s):Q (.bool b') s:=(so e).symm▸k
theorem rB(hu:A.units+64<cLine)(I:AL B ω σ s)(x:VR B.C ω s.heap p v)(y:VR B.C ω s.heap q w)(e:kM σ p q=some b)(k:Q (.bool b) s) :
  wpAny (model B.prog B.w) A (compareOp .Eq v w) Q E s:=
 Ah e (fun e=>EN x y e fun _ _ _ _ e=>PySem.P.eq_str (qb e k)) fun e=>Ah e (fun e=>Bb x y e fun _ _ _ _ e=>PyProof.Rows.eq_int (qb e k)) fun e=>Ah e (fun e=>Rc x y e fun _ _ _ _ e=>eq_bytes (qb e k)) fun e=>AB e fun a ha e=>AB e fun d hd e=>AJ e fun h e=>AF h fun h1 h2=>
  (CP I x ha).elim fun _ ra=>(CP I y hd).elim fun _ rb=>compareEq_reads ra rb (Bp ha) (Bp hd) (by have:=An h1;have:=Nat.min_le_left a.depth d.depth;lia) (qb e k)
theorem shp{d:PyData}(h:Z6 d)(h1:decide (d.depth≤8)=true):shaped d=true:=by
 have:=An h1
 unfold shaped;rw[show d.canLay0=true from h,Bool.true_and];exact decide_eq_true (by lia)
theorem sQ{b:Bool}(hu:A.units+64<cLine)(I:AL B ω σ s)(x:VR B.C ω s.heap p v)(y:VR B.C ω s.heap q w)(e:kM σ p q=some b)(k:Q (.bool !b) s) :
  wpAny (model B.prog B.w) A (compareOp .NotEq v w) Q E s:=
 Ah e (fun e=>EN x y e fun a b _ _ e=>PySem.P.ne_str (show Q (.bool (!(a.cps.toList==b.cps.toList))) s from so e▸k)) fun e=>Ah e (fun e=>Bb x y e fun a b _ _ e=>PyProof.Rows.ne_int (show Q (.bool (!(a==b))) s from so e▸k)) fun e=>Ah e (fun e=>Rc x y e fun a b _ _ e=>ne_bytes (show Q (.bool !(a.toList==b.toList)) s from so e▸k)) fun e=>AB e fun a ha e=>AB e fun d hd e=>AJ e fun h e=>AF h fun h1 h2=>
  (CP I x ha).elim fun _ ra=>(CP I y hd).elim fun _ rb=>ne_dataH ra rb (shp (Bp ha) h1) (shp (Bp hd) h2) hu (so e▸k)
theorem NK(x:VR B.C ω s.heap p v)(y:VR B.C ω s.heap q w)(e:kQ p q=some b)(k:Q (.bool b) s) :
  wpAny (model B.prog B.w) A (compareOp .Lt v w) Q E s:=
 Ah e (fun e=>Bb x y e fun _ _ _ _ e=>PyProof.Rows.lt_int (qb e k)) fun e=>EN x y e fun _ _ _ _ e=>PyProof.Rows.lt_str (qb e k)
theorem SW{Q:Bool→Shared→Prop}(x:VR B.C ω s.heap p v)(y:VR B.C ω s.heap q w)(e:mZ p q=some b)(k:Q b s) :
  wpAny (model B.prog B.w) A (eqBool v w) Q E s:=
 Ah e (fun e=>Bb x y e fun _ t _ u e=>EqAt.int_int _ _ _ _ _ _ _ _ (so e▸k)) fun e=>EN x y e fun _ t _ u e=>EqAt.str_str _ _ _ _ _ _ _ _ (so e▸k)
end
def pI(p:Prop):Prop:=p
theorem held_eq{M:Model}{x y:Value}{α:Type}{f:Bool→Sem α}{Q:α→Shared→Prop}(h:pI (wpAny M A (eqBool x y) (fun e s₁=>wpAny M A (f e) Q E s₁) E s)):wpAny M A (eqBool x y >>= f) Q E s:=wpAny_bind h
theorem Gr{M:Model}{op:CmpOp}{x y:Value}{α:Type}{f:Value→Sem α}{Q:α→Shared→Prop}(h:pI (wpAny M A (richCompare op x y) (fun e s₁=>wpAny M A (f e) Q E s₁) E s)):wpAny M A (richCompare op x y >>= f) Q E s:=wpAny_bind h
theorem TZ{a b:Addr}{oa ob:Obj}{x₁ x₂ y₁ y₂:Value}{na nb:Nat}{r:Bool}{Q:Value→Shared→Prop}(hu:A.units<cLine)(ha:s.heap.get? a=some oa)(ca:oa.cls=.type "tuple")(da:oa.data=.seq #[x₁,x₂] na)
  (hb:s.heap.get? b=some ob) (cb:ob.cls=.type "tuple") (db:ob.data=.seq #[y₁,y₂] nb)
  (h:wpAny (model B.prog B.w) A.in1 (eqBool x₁ y₁) (fun e₁ s₁=>if e₁ then wpAny (model B.prog B.w) A.in1 (eqBool x₂ y₂) (fun e₂ s₂=>if e₂ then r=false∧s₂=s else wpAny (model B.prog B.w) A.in1 (compareOp .Lt x₂ y₂) (fun v s₃=>v=.bool r∧s₃=s) E s₂) E s₁
    else wpAny (model B.prog B.w) A.in1 (compareOp .Lt x₁ y₁) (fun v s₃=>v=.bool r∧s₃=s) E s₁) E s)
  (k:Q (.bool r) s):wpAny (model B.prog B.w) A (compareOp .Lt (.ref a) (.ref b)) Q E s:=by
 refine wpAny_richCompare_same_room (op:=.Lt) (T := "tuple") ⟨oa,ha,ca⟩ ⟨ob,hb,cb⟩ F.slot_tuple_lt (wpAny_call_entry F.slot_tuple_lt ⟨oa,ha,ca⟩ F.entry_tuple_lt ?_ (F.args_tuple_lt_2 _ _)) hu
 have f2:=AutoSeq1.sub_tuple_tuple
 have ha':s.heap.get? a=some ⟨.type "tuple",oa.dict,.seq #[x₁,x₂] na,oa.slots⟩:=by rw[ha,←ca,←da]
 have hb':s.heap.get? b=some ⟨.type "tuple",ob.dict,.seq #[y₁,y₂] nb,ob.slots⟩:=by rw[hb,←cb,←db]
 wp_walk using wpAny_loadPart' ha',wpAny_loadPart' hb',held_eq,Gr
 refine wpAny_mono h (fun e₁ s₁ h₁=>?_) (fun _ _ e=>e)
 cases e₁ with
 | true=>
  simp only[if_true]at h₁
  wp_walk using held_eq,Gr
  refine wpAny_mono h₁ (fun e₂ s₂ h₂=>?_) (fun _ _ e=>e)
  cases e₂ with
  | true=>
   simp only[if_true]at h₂
   obtain⟨rfl,rfl⟩:=h₂
   wp_walk
   exact⟨_,rfl,by simp[Builtin.Tuple.tupleCompareSizes],k⟩
  | false=>
   simp only[Bool.false_eq_true,if_false]at h₂
   wp_walk using held_eq,Gr
   refine wpAny_mono (show wpAny _ _ (richCompare .Lt x₂ y₂) _ _ _ from h₂) (fun v s₃ h₃=>?_) (fun _ _ e=>e)
   obtain⟨rfl,rfl⟩:=h₃
   wp_walk
   exact⟨_,rfl,by simp,k⟩
 | false=>
  simp only[Bool.false_eq_true,if_false]at h₁
  wp_walk using held_eq,Gr
  refine wpAny_mono (show wpAny _ _ (richCompare .Lt x₁ y₁) _ _ _ from h₁) (fun v s₃ h₃=>?_) (fun _ _ e=>e)
  obtain⟨rfl,rfl⟩:=h₃
  wp_walk
  exact⟨_,rfl,by simp,k⟩
@[elab_as_elim] theorem JT{C:Addr}{h:Heap}{p:PV}{l:List PV}{q:PV×PV}{v:Value}{P:Value→Prop}(x:VR C ω h p v)(e:p.tup?=some l)(e':two? l=some q)
  (k:∀a o v₁ v₂ n,h.get? a=some o→o.cls=.type "tuple" → o.data=.seq #[v₁,v₂] n→VR C ω h q.1 v₁→VR C ω h q.2 v₂→P (.ref a)):P v:=
 VR.tup_el (P:=P) (HI e▸x) fun a o vs n f c d r=>VRs.two_el (Ps:=fun l=>o.data=.seq l.toArray n→P (.ref a)) (NM (i:=q.1) (j:=q.2) e'▸r) (fun v w xv xw d=>k a o v w n f.2.2.1 c d xv xw) d
theorem vU{p q:PV}{b:Bool}{v w:Value}{Q:Value→Shared→Prop}(hu:A.units<cLine)(x:VR B.C ω s.heap p v)(y:VR B.C ω s.heap q w)(e:kO p q=some b)(k:Q (.bool b) s) :
  wpAny (model B.prog B.w) A (compareOp .Lt v w) Q E s:=by
 refine Ah e (fun e=>AB e fun l e1 e=>AB e fun q₁ e2 e=>AB e fun l' e3 e=>AB e fun q₂ e4 e=>AB e fun t e5 e=>?_) fun e=>NK x y e k
 refine JT (P:=fun v=>wpAny (model B.prog B.w) A (compareOp .Lt v w) Q E s) x e1 e2 fun a oa v₁ v₂ n ha ca da x₁ x₂=>JT y e3 e4 fun c oc w₁ w₂ n' hc cc dc y₁ y₂=>
  TZ hu ha ca da hc cc dc (SW x₁ y₁ e5 ?_) k
 cases t with
 | true=>exact AB e fun t e6 e=>SW x₂ y₂ e6 (by
   cases t with
   | true=>exact⟨(so e).symm,rfl⟩
   | false=>exact NK x₂ y₂ e ⟨rfl,rfl⟩)
 | false=>exact NK x₁ y₁ e ⟨rfl,rfl⟩
section
variable{Q:Value→Shared→Prop}{p q:PV}{b:Bool}{v w:Value}
theorem MB{l:List PV}{ds:List PyData}{G:Prop}(I:AL B ω σ s)(y:VR B.C ω s.heap q w)(e:ql q.tup? (Bx σ q)=some l)(eds:pyOfs l=some ds)
  (k1:∀as,Reads s.heap w (.tuple ds) as→G) (k2:∀as,Reads s.heap w (.list ds) as→G):G:=
 Ah e (fun e=>VR.tup_el (P:=fun w=>(∀as,Reads s.heap w (.tuple ds) as→G)→G) (HI e▸y) (fun a o vs n f c dd r k1=>(VRs.reads r eds).elim fun _ ry=>k1 _ (.tuple f.2.2.1 c dd ry)) k1)
  fun e=>BB (P:=fun w=>(∀as,Reads s.heap w (.list ds) as→G)→G) I y e (fun a o vs n ho c dd r k2=>(VRs.reads r eds).elim fun _ ry=>k2 _ (.list ho c dd ry)) k2
theorem xL(hu:A.units+64<cLine)(I:AL B ω σ s)(x:VR B.C ω s.heap p v)(y:VR B.C ω s.heap q w)(e:QC σ p q=some b)(k:Q (.bool b) s) :
  wpAny (model B.prog B.w) A (compareOp .In v w) Q E s:=
 Ah e (fun e=>EN x y e fun _ _ _ _ e=>PyProof.Rows.in_str (qb e k)) fun e=>AB e fun l e1 e=>AB e fun d ed e=>AB e fun ds eds e=>AJ e fun h e=>
  (x.reads ed).elim fun _ rx=>have hu':A.units+1+min (PyData.depthAll ds) d.depth<cLine:=by have:=An h;have:=Nat.min_le_right (PyData.depthAll ds) d.depth;lia
   MB I y e1 eds (fun _ ry=>in_tuple_reads ry rx (pyOfs_lay eds) (Bp ed) hu' (qb e k)) fun _ ry=>in_list_reads ry rx (pyOfs_lay eds) (Bp ed) hu' (qb e k)
theorem Tl(hu:A.units+64<cLine)(I:AL B ω σ s)(x:VR B.C ω s.heap p v)(y:VR B.C ω s.heap q w)(e:QC σ p q=some b)(k:Q (.bool !b) s) :
  wpAny (model B.prog B.w) A (compareOp .NotIn v w) Q E s:=
 Ah e (fun e=>EN x y e fun _ _ _ _ e=>PyProof.Rows.notIn_str (so e▸k)) fun e=>AB e fun l e1 e=>AB e fun d ed e=>AB e fun ds eds e=>AJ e fun h e=>
  (x.reads ed).elim fun _ rx=>have hu':A.units+1+min (PyData.depthAll ds) d.depth<cLine:=by have:=An h;have:=Nat.min_le_right (PyData.depthAll ds) d.depth;lia
   MB I y e1 eds (fun _ ry=>notIn_tuple_reads ry rx (pyOfs_lay eds) (Bp ed) hu' (so e▸k)) fun _ ry=>notIn_list_reads ry rx (pyOfs_lay eds) (Bp ed) hu' (so e▸k)
theorem Mr{R:Bool→Shared→Prop}{M:Model}(x:VR B.C ω s.heap p v)(e:ZL p=some b)(k:R b s):wpAny M A (isSame v .none) R E s:=by
 rw[isSame_none]
 refine wpAny_pure ?_
 cases p<;>first|exact nn e | skip
 ·exact x.none_el (show R true s from so e▸k)
 ·exact x.int_el fun _=>(show R false s from so e▸k)
 ·exact x.str_el fun _=>(show R false s from so e▸k)
 ·exact x.tup_el fun _ _ _ _ _ _ _ _=>(show R false s from so e▸k)
 ·exact x.lst_el fun _ _ _ _ _ _ _ _=>(show R false s from so e▸k)
theorem HY{R:Bool→Shared→Prop}{M:Model}{m n:Nat}{a c:Addr}{o:Obj}(I:AL B ω σ s)(j:ω.mu[m]?=some c)(i:ω.mu[n]?=some a)(hc:s.heap.get? c=some o)(ho:o.cls≠.type "tuple")(k:R (m==n) s) :
  wpAny M A (isSame (.ref c) (.ref a)) R E s:=by
 by_cases hnm:m=n
 ·subst hnm
  cases i.symm.trans j
  rw[beq_self_eq_true]at k
  exact wpAny_isSame_ref_self k
 ·have hab:c≠a:=fun q=>by
   subst q
   obtain⟨h1,e1⟩:=List.getElem?_eq_some_iff.mp i
   obtain⟨h2,e2⟩:=List.getElem?_eq_some_iff.mp j
   exact hnm ((List.getElem_inj I.nodup).mp (e2.trans e1.symm))
  rw[beq_eq_false_iff_ne.mpr hnm]at k
  exact(Option.isSome_iff_exists.mp (I.live (List.mem_of_getElem? i))).elim fun _ g=>wpAny_isSame_ref_other hab hc g ho k
theorem ZN{R:Bool→Shared→Prop}{M:Model}(I:AL B ω σ s)(x:VR B.C ω s.heap p v)(y:VR B.C ω s.heap q w)(e:S3 σ p q=some b)(k:R b s) :
  wpAny M A (isSame v w) R E s:=
 Ah e (fun e=>AB e fun _ e1 e=>VR.none_el (P:=fun w=>wpAny M A (isSame v w) R E s) (bN e1▸y) (Mr x e k)) fun e=>AB e fun n e1 e=>VR.loc_el (P:=fun w=>wpAny M A (isSame v w) R E s) (DJ e1▸y) fun a i=>
  Ah e (fun e=>AB e fun _ e2 e=>x.str_vr e2 fun t=>wpAny_isSame_plain rfl (show R false s from so e▸k)) fun e=>AB e fun m e2 e=>AB e fun o hσ e=>AB e fun _ e3 e=>
   VR.loc_el (P:=fun v=>wpAny M A (isSame v (.ref a)) R E s) (DJ e2▸x) fun c j=>Ah e3
    (fun e3=>AB e3 fun l e4 _=>I.lst_el j (Oo e4▸hσ) fun o _ _ h1 h2 _ _=>HY I j i h1 (by rw[h2.1];simp) (so e▸k))
    fun e3=>I.plain_el j (Ot e3▸hσ) fun o h1 h2=>HY I j i h1 (by rw[h2];simp) (so e▸k)
theorem Fp{op:CmpOp}(hu:A.units+64<cLine)(I:AL B ω σ s)(x:VR B.C ω s.heap p v)(y:VR B.C ω s.heap q w)(e:Co op p q σ=some b)(k:Q (.bool b) s) :
  wpAny (model B.prog B.w) A (compareOp op v w) Q E s:=
 match op,e with
 | .Eq,e=>rB hu I x y e k
 | .NotEq,e=>Cm (P:=fun b=>Q (.bool b) s→_) e (fun c e k=>sQ hu I x y e k) k
 | .Lt,e=>vU (by lia) x y e k
 | .LtE,e=>Ah e (fun e=>Bb x y e fun _ _ _ _ e=>PyProof.Rows.le_int (qb e k)) fun e=>EN x y e fun _ _ _ _ e=>P.le_str (qb e k)
 | .Gt,e=>Ah e (fun e=>Bb x y e fun _ _ _ _ e=>PyProof.Rows.gt_int (qb e k)) fun e=>EN x y e fun _ _ _ _ e=>P.gt_str (qb e k)
 | .GtE,e=>Bb x y e fun _ _ _ _ e=>PyProof.Rows.ge_int (qb e k)
 | .In,e=>xL hu I x y e k
 | .NotIn,e=>Cm (P:=fun b=>Q (.bool b) s→_) e (fun c e k=>Tl hu I x y e k) k
 | .Is,e=>show wpAny _ A (do return .bool (←isSame v w)) Q E s from wpAny_bind (ZN I x y e (wpAny_pure k))
 | .IsNot,e=>Cm (P:=fun b=>Q (.bool b) s→_) e (fun c e k=>show wpAny _ A (do return .bool (!(←isSame v w))) Q E s from wpAny_bind (ZN I x y e (wpAny_pure k))) k
end
end
end Sh
namespace Sh
open PySem PySem.Calls PyProof.Rows PySem.W PySem.Spec PySem.SeqAt Builtin.Str
theorem PN(x:Str)(lo hi:Option Int):(strSliceIndices lo hi 1 x.length).filterMap (x.cps[·]?)=Iz x.cps.toList lo hi:=by
 have e:strSliceIndices lo hi 1 x.length=sliceRange (sliceBounds lo hi none x.length).1 (sliceBounds lo hi none x.length).2.1 1:=by
  cases lo<;>cases hi<;>rfl
 rw[e,sliceBounds_plain]
 simp only[sliceRange_one,pick_run,Iz]
 rfl
theorem MV{α:Type}(l:List α)(lo hi:Option Int):(Iz l lo hi).length≤l.length:=by
 exact Nat.le_trans (List.take_sublist _ _).length_le (List.drop_sublist _ _).length_le
section
variable{B:AV}{A:Around}{E:Value→Shared→Prop}{ω:Wd}{σ:St}{s:Shared}
theorem T7(n:Nat):((n:Int) != 0)=(n != 0):=by rw[Bool.eq_iff_iff,bne_iff_ne,bne_iff_ne];lia
theorem IE{a:Addr}{o:Obj}{vs:Array Value}{n:Nat}{l:List PV}{b:Bool}{Q:Bool→Shared→Prop}(ho:s.heap.get? a=some o)(c:o.cls=.type "list")(d:o.data=.seq vs n)(r:VRs B.C ω s.heap l vs.toList)
  (e:gd (decide (l.length≤BM)) (some (!l.isEmpty))=some b) (k:∀tk,Q b {s with toks:=tk}):wpAny (model B.prog B.w) A (truthy (.ref a)) Q E s:=
 AJ e fun h e=>wpAny_truthy_list (Bj ho c d) (by rw[r.size];have:=CM h;lia) (by
  have e2:vs.isEmpty=l.isEmpty:=by rw[Bool.eq_iff_iff,Array.isEmpty_iff_size_eq_zero,List.isEmpty_iff_length_eq_zero,r.size]
  rw[e2];exact AP (P:=fun b=>(∀tk,Q b {s with toks:=tk})→Q (!l.isEmpty) _) e (fun k=>k _) k)
theorem Fk{p:PV}{b:Bool}{v:Value}{Q:Bool→Shared→Prop}(I:AL B ω σ s)(x:VR B.C ω s.heap p v)(e:AT σ p=some b)(k:∀tk,Q b {s with toks:=tk}) :
  wpAny (model B.prog B.w) A (truthy v) Q E s:=by
 cases p<;>first|exact nn e | skip
 ·exact x.none_el (PyProof.Rows.truthy_none ((so e).symm▸k s.toks))
 ·exact x.bool_el (wpAny_truthy_bool ((so e).symm▸k s.toks))
 ·exact x.int_el fun _=>PyProof.Rows.truthy_int ((so e).symm▸k s.toks)
 ·exact AJ e fun h e=>x.str_el fun _=>PySem.P.truthy_str (by have:=CM h;lia) (by rw[T7];exact(so e).symm▸k _)
 ·exact AJ e fun h e=>x.byt_el fun _=>truthy_bytes (by have:=CM h;lia) (by rw[T7];exact(so e).symm▸k _)
 ·exact x.lst_el fun a o vs n f c d r=>IE f.2.2.1 c d r e k
 ·exact AB e fun l h e=>Dj I x h fun a o vs n _ ho c d r=>IE ho c.1 d r e k
theorem KY{i:Int}{n j:Nat}{G:Prop}(h:seqIndex? i n=some j)(k:0≤i→j=i.toNat→i<n→G)(k':i<0→-(n:Int)≤i→j=(i+n).toNat→G):G:=by
 have go:∀x:Int,(if(decide (0≤x)&&decide (x<n))=true then some x.toNat else none)=some j→0≤x∧x<n∧j=x.toNat:=fun x h=>by
  by_cases h1:(decide (0≤x)&&decide (x<n))=true
  ·exact AF h1 fun p q=>⟨An p,An q,(so ((if_pos h1).symm.trans h)).symm⟩
  ·exact nn ((if_neg h1).symm.trans h)
 have h:=go _ h
 by_cases h0:i<0
 ·rw[if_pos h0]at h
  exact k' h0 (by have:=h.1;lia) h.2.2
 ·rw[if_neg h0]at h
  exact k h.1 h.2.2 h.2.1
noncomputable def GI(B:AV)(A:Around)(v w:Value)(Q:Value→Shared→Prop)(E:Value→Shared→Prop)(s:Shared):Prop:=
 wpAny (model B.prog B.w) A (getItem v w) Q E s∧∃T id,s.TypeIs v T∧typeLookup (.type T) "__getitem__" = pure (some (.builtin id))
theorem FC{i:Int}(h:small i=true):i.natAbs<2^60:=An h
theorem WK{x:Array UInt8}{i:Nat}{c:UInt8}(e:x[i]?=some c):(((x.toList.getD i 0).toNat:Nat):Int)=c.toNat:=by
 rw[List.getD_eq_getElem?_getD,Array.getElem?_toList,e];rfl
theorem WE{a:Addr}{o:Obj}{vs:Array Value}{n j:Nat}{i:Int}{u:Tok}{l:List PV}{r:PV}{Q:Value→Shared→Prop}(ho:s.heap.get? a=some o)(c:o.cls=.type "list")(d:o.data=.seq vs n)(x:VRs B.C ω s.heap l vs.toList)
  (hi:small i=true) (h:decide (l.length≤BM)=true) (e1:seqIndex? i l.length=some j) (e2:l[j]?=some r) (k:∀v' tk,VR B.C ω s.heap r v'→Q v' {s with toks:=tk}):GI B A (.ref a) (.int i u) Q E s:=
 have hL:=Bj ho c d
 have hs:=FC hi
 have hm:=CM h
 (x.get e2).elim fun v' q=>⟨KY e1 (fun h0 ej h1=>by subst ej;exact wpAny_getItem_list hL h0 (by lia) (by simpa using q.1) (k _ s.toks q.2))
  (fun h0 h1 ej=>by subst ej;exact wpAny_getItem_list_neg hL h0 (by rw[x.size];exact h1) (by lia) (by rw[x.size];simpa using q.1) (k _ s.toks q.2)),"list",_,hL.typeIs,slot_list_getitem.lookup⟩
theorem fD{p q r:PV}{v w:Value}{Q:Value→Shared→Prop}(I:AL B ω σ s)(x:VR B.C ω s.heap p v)(y:VR B.C ω s.heap q w)(e:CC σ p q=some r)(k:∀v' tk,VR B.C ω s.heap r v'→Q v' {s with toks:=tk}):GI B A v w Q E s:=
 AB e fun i e1 e=>AJ e fun hi e=>y.int_vr e1 fun u=>
  Ah e (fun e=>AB e fun z e2 e=>AB e fun j e3 e=>AB e fun c e4 e=>x.str_vr e2 fun t=>
    ⟨PyProof.Rows.getItem_str (by have:=FC hi;simp only[Bool.or_eq_false_iff,decide_eq_false_iff_not];lia) (by rw[e3];exact e4) (k _ _ (AP (P:=fun r=>VR B.C ω s.heap r _) e .str_in)),"str",_,typeIs_str s _ t,F.slot_str_getitem.lookup⟩)
  fun e=>Ah e (fun e=>AB e fun z e2 e=>AJ e fun h e=>AF h fun h1 h=>AF h fun h2 h3=>AB e fun c e4 e=>x.byt_vr e2 fun t=>
    ⟨getItem_bytes (l:=z.toList) (by have:=CM h3;rw[Array.length_toList];lia) (An h1) (by rw[Array.length_toList];exact An h2) (by rw[WK e4];exact k _ _ (AP (P:=fun r=>VR B.C ω s.heap r _) e .int_in)),"bytes","bytes.__getitem__",typeIs_bytes s _ t,FB.slot_bytes_getitem.lookup⟩)
  fun e=>Ah e (fun e=>AB e fun l e2 e=>AB e fun j e3 e=>VR.tup_el (P:=fun v=>GI B A v (.int i u) Q E s) (HI e2▸x) fun a o vs n f c d r'=>(r'.get e).elim fun v' z=>
    have ht:IsTup s.heap a vs:=⟨o,f.2.2.1,c,n,d⟩
    ⟨getItem_tuple ht (by have:=FC hi;lia) (by have:=FC hi;lia) (by rw[r'.size];exact e3) (by simpa using z.1) (k _ s.toks z.2),"tuple",_,ht.typeIs,slot_tuple_getitem.lookup⟩)
  fun e=>AB e fun l e2 e=>AJ e fun h e=>AB e fun j e3 e=>BB I x e2 fun a o vs n ho c d r'=>WE ho c d r' hi h e3 e k
end
end Sh
namespace Sh
open PySem PySem.Calls PyProof.Rows PySem.W PySem.Spec
theorem Sc.vis_at{Γ:Sc}{i:Nat}{x:Str}(h:Γ.vis i x=true):Γ.nt[i]?=some x∧x∉Γ.nt.drop (i+1):=by
 simp only[Sc.vis,Bool.and_eq_true,beq_iff_eq,Bool.not_eq_true',List.contains_eq_mem,decide_eq_false_iff_not]at h
 exact h
theorem Sc.vis_name{Γ:Sc}{i:Nat}{x y:Str}(h:Γ.vis i x=true)(h':Γ.vis i y=true):x=y:=by
 have a:=(Sc.vis_at h).1;have b:=(Sc.vis_at h').1
 rw[a]at b;exact Option.some.inj b
theorem Sc.vis_idx{Γ:Sc}{i j:Nat}{x:Str}(h:Γ.vis i x=true)(h':Γ.vis j x=true):i=j:=by
 have a:=Sc.vis_at h;have b:=Sc.vis_at h'
 rcases Nat.lt_trichotomy i j with q|q|q
 ·exact absurd (List.mem_of_getElem? (i:=j-(i+1)) (by rw[List.getElem?_drop,show i+1+(j-(i+1))=j by omega];exact b.1)) a.2
 ·exact q
 ·exact absurd (List.mem_of_getElem? (i:=i-(j+1)) (by rw[List.getElem?_drop,show j+1+(i-(j+1))=i by omega];exact a.1)) b.2
theorem Dq{h:Heap}{a b:Addr}{o:Obj}(e:h.get? a=some o)(n:h.get? b=none):a≠b:=fun q=>by rw[q,n]at e;cases e
section
variable{c:Cx}{ω:Wd}{σ:St}{s:Shared}{m:Fm}{E:Value→Shared→Prop}
theorem FR.kindOf{h:Heap}(F:FR c ω h m)(y:Str):c.env.kindOf y=c.Γ.names.lookup y:=by show c.env.scope.names.lookup y=_;rw[F.names]
theorem OS{Γ:Sc}{m:Fm}{i j:Nat}{x y:Str}{p q:PV}{G:Prop}(hv:Γ.vis i x=true)(h1:Γ.vis j y=true)(h2:(m.set i (some p))[j]?=some (some q))(k:y=x→q=p→G)(k':y≠x→m[j]?=some (some q)→G):G:=by
 by_cases e:i=j
 ·subst e
  by_cases hl:i<m.length
  ·rw[List.getElem?_set_self hl]at h2;exact k (Sc.vis_name h1 hv) (so (so h2)).symm
  ·rw[List.getElem?_eq_none (by simpa using hl)]at h2;exact nn h2
 ·rw[List.getElem?_set_ne e]at h2
  exact k' (fun q'=>e (Sc.vis_idx hv (q'▸h1))) h2
def Jg(Γ:Sc)(x:Str):Prop:=Γ.names.lookup x=some .cell∨Γ.names.lookup x=some .free
theorem FR.setv{h h':Heap}{i:Nat}{x:Str}{p:PV}{v:Value}(F:FR c ω h m)(hv:c.Γ.vis i x=true)(gc:AR ω h ω h')(r:VR c.B.C ω h p v)
  (hn:∀f,h.Ns c.env.locals f→∃f',h'.Ns c.env.locals f'∧(∀y w,y≠x→f y=some w→f' y=some w)∧(c.Γ.names.lookup x=some .local→f' x=some v))
  (kn:∀L f,L≠c.env.locals→h.Ns L f→h'.Ns L f) (kc:∀b v',h.IsCell b v'→(Jg c.Γ x→c.env.cells.lookup x≠some b)→h'.IsCell b v')
  (kx:Jg c.Γ x→∀b,c.env.cells.lookup x=some b→h'.IsCell b (some v)):FR c ω h' (m.set i (some p)):=
 ⟨(List.length_set ..).trans F.len,F.kind,F.names,F.glob,F.blt,F.own,F.apart,F.loc,F.ns.elim fun f q=>(hn f q.1).elim fun f' q'=>⟨f',q'.1,fun j y q₁ h1 h2 h3=>OS hv h1 h2 (fun e1 e2=>⟨v,e1▸q'.2.2 (e1▸h3),e2▸r.carry gc⟩)
   fun hne h2=>(q.2 j y q₁ h1 h2 h3).elim fun w z=>⟨w,q'.2.1 y w hne z.1,z.2.carry gc⟩⟩,
  fun j y q₁ h1 h2 h3=>OS hv h1 h2 (fun e1 e2=>(F.celo y h3).elim fun a z=>z.elim fun _ z=>⟨a,v,z.1,kx (e1▸h3) a (e1▸z.1),e2▸r.carry gc⟩)
   fun hne h2=>(F.cel j y q₁ h1 h2 h3).elim fun a z=>z.elim fun w z=>⟨a,w,z.1,kc a _ z.2.1 (fun _ q=>hne (F.inj y x a z.1 q)),z.2.2.carry gc⟩,
  fun y h1=>(F.celo y h1).elim fun a z=>z.elim fun w z=>(Classical.em (Jg c.Γ x∧c.env.cells.lookup x=some a)).elim (fun q=>⟨a,some v,z.1,kx q.1 a q.2⟩) fun q=>⟨a,w,z.1,kc a w z.2 fun q1 q2=>q ⟨q1,q2⟩⟩,F.celx,F.celw,F.inj,
  F.ff.elim fun l q=>⟨l,q.1,fun e he=>⟨(q.2 e he).1,(q.2 e he).2.elim fun L z=>z.elim fun f z=>(Classical.em (L=c.env.locals)).elim (fun e1=>(hn f (e1▸z.2.2)).elim fun f' q'=>⟨L,f',z.1,z.2.1,e1▸q'.1⟩)
   fun e1=>⟨L,f,z.1,z.2.1,kn L f e1 z.2.2⟩⟩⟩⟩
theorem OC{h:Heap}{L:Addr}{f g:Str→Option Value}(a:h.Ns L f)(b:h.Ns L g):f=g:=
 let ⟨_,_,_,h1,h2,_,h3⟩:=a
 let ⟨_,_,_,g1,g2,_,g3⟩:=b
 funext fun x=>(h3 x).symm.trans ((congrArg (nsFind · x) (Data.dict.inj (h2.symm.trans ((congrArg Obj.data (so (h1.symm.trans g1))).trans g2))).1).trans (g3 x))
theorem Il{Γ:Sc}{x:Str}(hk:Γ.names.lookup x=some .local):¬Jg Γ x:=fun q=>q.elim (fun q=>by rw[hk]at q;exact absurd (so q) (by decide)) fun q=>by rw[hk]at q;exact absurd (so q) (by decide)
theorem CR{i:Nat}{x:Str}{p:PV}{v:Value}{Q:Unit→Shared→Prop}(F:FR c ω s.heap m)(I:AL c.B ω σ s)(hv:c.Γ.vis i x=true)
  (hk:c.Γ.names.lookup x=some .local∨(c.Γ.names.lookup x=some .cell∧x∈c.Γ.ownN)) (r:VR c.B.C ω s.heap p v)
  (k:∀h' tk,Gw ω c.own s.heap ω h'→AL c.B ω σ {s with heap:=h',toks:=tk}→FR c ω h' (m.set i (some p))→Q () {s with heap:=h',toks:=tk}) :
  wpAny (model c.B.prog c.B.w) c.A (storeName c.env x v) Q E s:=by
 have hLx:c.env.locals∈ω.ex:=F.own _ F.loc
 refine hk.elim (fun hk=>F.ns.elim fun f q=>?_) fun hk=>(F.celo x (.inl hk.1)).elim fun a z=>z.elim fun v₀ z=>?_
 ·refine wpAny_storeName_local (by rw[F.kindOf];exact hk) q.1 (fun h' hn' hs'=>?_) (by rw[F.kind];rfl)
  have ht:∃o',h'.get? c.env.locals=some o':=hn'.elim fun o' q=>q.elim fun _ q=>q.elim fun _ q=>⟨o',q.1⟩
  refine k h' _ (.of_ext (.inr F.loc) hs'.extBut ht) (I.exstep hLx hs'.extBut (Option.isSome_iff_exists.mpr ht)) (F.setv hv (.of_ex hLx hs'.extBut) r
   (fun f₁ q₁=>⟨_,hn',fun y w hne e=>(if_neg hne).trans (OC q₁ q.1▸e),fun _=>if_pos rfl⟩) (fun L f' e hL=>hL.sameBut hs' e) (fun b v' hb _=>hb.sameBut hs' fun e=>ES hb (e▸q.1)) fun q=>absurd q (Il hk))
 ·refine wpAny_storeName_cell F.kind (by rw[F.kindOf];exact hk.1) z.1 z.2 (fun h' hn' hs'=>?_)
  have hax:a∈ω.ex:=F.celx x a z.1
  have ht:∃o',h'.get? a=some o':=hn'.elim fun o' q=>⟨o',q.1⟩
  have hLa:∀{L f'},s.heap.Ns L f'→L≠a:=fun hL q=>ES z.2 (q▸hL)
  exact k h' s.toks (.of_ext (.inr (F.celw x hk.2 a z.1)) hs'.extBut ht) (I.exstep hax hs'.extBut (Option.isSome_iff_exists.mpr ht)) (F.setv hv (.of_ex hax hs'.extBut) r
   (fun f q=>⟨f,q.sameBut hs' (hLa q),fun _ _ _ e=>e,fun e=>absurd (.inl hk.1) (Il e)⟩) (fun L f' _ hL=>hL.sameBut hs' (hLa hL)) (fun b v' hb e=>hb.sameBut hs' fun q=>e (.inl hk.1) (q▸z.1)) fun _ b e=>by
    rw[z.1]at e;exact so e▸hn')
theorem Gl{i:Nat}{x:Str}{p:PV}{Q:Value→Shared→Prop}(F:FR c ω s.heap m)(hv:c.Γ.vis i x=true)
  (hk:c.Γ.names.lookup x=some .local∨c.Γ.names.lookup x=some .cell∨c.Γ.names.lookup x=some .free) (hm:m[i]?=some (some p)) (hx:(x==("__classdict__" : Str))=false)
  (k:∀v,VR c.B.C ω s.heap p v→Q v s):wpAny (model c.B.prog c.B.w) c.A (loadName c.env x) Q E s:=by
 rcases hk with hk|hk|hk
 ·obtain⟨f,hf,hr⟩:=F.ns
  obtain⟨v,e,r⟩:=hr i x p hv hm hk
  exact wpAny_loadName_local F.kind (by rw[F.kindOf];exact hk) hf e (k v r)
 ·obtain⟨a,v,e1,e2,r⟩:=F.cel i x p hv hm (.inl hk)
  exact wpAny_loadName_cell F.kind (by rw[F.kindOf];exact hk) e1 e2 (k v r)
 ·obtain⟨a,v,e1,e2,r⟩:=F.cel i x p hv hm (.inr hk)
  exact wpAny_loadName_free F.kind (by rw[F.kindOf];exact hk) e1 e2 (k v r) hx
theorem Gw.seq{ω₁ ω₂:Wd}{h h₁ h₂:Heap}(g:Gw ω [] h ω₁ h₁)(g':Gw ω₁ [] h₁ ω₂ h₂):Gw ω [] h ω₂ h₂:=g.trans g'
theorem VR.gw{C:Addr}{ω ω':Wd}{h h':Heap}{p:PV}{v:Value}(x:VR C ω h p v)(g:Gw ω [] h ω' h'):VR C ω' h' p v:=x.carry (.of_gw g fun _ q=>nomatch q)
theorem VRs.gw{C:Addr}{ω ω':Wd}{h h':Heap}{p:List PV}{v:List Value}(x:VRs C ω h p v)(g:Gw ω [] h ω' h'):VRs C ω' h' p v:=x.carry (.of_gw g fun _ q=>nomatch q)
end
theorem VRs.ints{C:Addr}{ω:Wd}{h:Heap}:∀{l:List PV} {vs:List Value} {ns:List Int},VRs C ω h l vs→Ek l=some ns→IntsAre vs ns
 | [],_,ns,x,e=>AP (P:=fun ns=>IntsAre _ ns) e (x.nil_el .nil)
 | p::r,_,ns,x,e=>AB e fun i e1 e=>AB e fun l e2 e=>AP (P:=fun ns=>IntsAre _ ns) e (x.cons_el fun v t a b=>a.int_vr e1 fun _=>.cons _ _ (VRs.ints b e2))
theorem VRs.of_ints{C:Addr}{ω:Wd}{h:Heap}{vs:List Value}{ns:List Int}(x:IntsAre vs ns):VRs C ω h (ns.map .int) vs:=by
 induction x with
 | nil=>exact .nil
 | cons n t _ ih=>exact .cons_in .int_in ih
theorem VRs.strs{C:Addr}{ω:Wd}{h:Heap}:∀{l:List PV} {vs:List Value} {ns:List Str},VRs C ω h l vs→EH l=some ns→StrsAre vs ns
 | [],_,ns,x,e=>AP (P:=fun ns=>StrsAre _ ns) e (x.nil_el .nil)
 | p::r,_,ns,x,e=>AB e fun i e1 e=>AB e fun l e2 e=>AP (P:=fun ns=>StrsAre _ ns) e (x.cons_el fun v t a b=>a.str_vr e1 fun _=>.cons _ _ (VRs.strs b e2))
theorem VRs.of_strs{C:Addr}{ω:Wd}{h:Heap}{vs:List Value}{ns:List Str}(x:StrsAre vs ns):VRs C ω h (ns.map .str) vs:=by
 induction x with
 | nil=>exact .nil
 | cons n t _ ih=>exact .cons_in .str_in ih
section
variable{α:Type}{le:α→α→Bool}
theorem IW(a:α):∀l:List α,(zL le a l).Perm (a::l)
 | []=>.refl _
 | b::r=>by
  show(cond (le a b) _ _:List α).Perm _
  cases le a b with
  | true=>exact .refl _
  | false=>exact((IW a r).cons b).trans (.swap _ _ _)
theorem FU:∀l:List α,(aV le l).Perm l
 | []=>.refl _
 | a::r=>(IW a _).trans ((FU r).cons a)
structure nI(le:α→α→Bool):Prop where
 tr:∀a b c,le a b=true→le b c=true→le a c=true
 an:∀a b,le a b=true→le b a=true→a=b
 tt:∀a b,le a b=false→le b a=true
abbrev Up(le:α→α→Bool)(l:List α):Prop:=l.Pairwise fun a b=>le a b=true
theorem Hw(T:nI le)(a:α):∀l:List α,Up le l→Up le (zL le a l)
 | [],_=>List.pairwise_singleton ..
 | b::r,h=>by
  have⟨h1,h2⟩:=List.pairwise_cons.mp h
  show Up le (cond (le a b) _ _)
  cases q:le a b with
  | true=>exact List.pairwise_cons.mpr ⟨fun x hx=>(List.mem_cons.mp hx).elim (fun e=>e▸q) fun hx=>T.tr _ _ _ q (h1 x hx),h⟩
  | false=>exact List.pairwise_cons.mpr ⟨fun x hx=>(List.mem_cons.mp ((IW a r).mem_iff.mp hx)).elim (fun e=>e▸T.tt _ _ q) (h1 x),Hw T a r h2⟩
theorem Df(T:nI le):∀l:List α,Up le (aV le l)
 | []=>.nil
 | a::r=>Hw T a _ (Df T r)
theorem cF(T:nI le){l l':List α}(h1:l'.Perm l)(h2:Up le l'):l'=aV le l:=
 List.Perm.eq_of_pairwise (fun a b _ _ h h'=>T.an a b h h') h2 (Df T l) (h1.trans (FU l).symm)
end
theorem lE:nI leI:=⟨fun a b c h h'=>decide_eq_true (Int.le_trans (An h) (An h')),fun a b h h'=>Int.le_antisymm (An h) (An h'),fun a b h=>decide_eq_true (by have:=of_decide_eq_false h;lia)⟩
theorem VY{l l':List Int}(h1:l'.Perm l)(h2:l'.Pairwise (·≤·)):l'=UC l:=cF lE h1 (h2.imp fun h=>decide_eq_true h)
noncomputable def G5:BI→Value
 | .len=>.builtin "len" | .sorted=>.builtin "sorted" | .max=>.builtin "max" | .sum=>.builtin "sum"
 | .range=>.type "range" | .bytes=>.type "bytes" | .list=>.type "list"
theorem Na{α:Type}{cmp:Nat→Nat→(Bool→Shared→Prop)→Shared→Prop}{n:Nat}{lt:Nat→Nat→Bool}{s:Shared}{G:α→Shared→Prop}(h:∀i j C,i<n→j<n→C (lt i j) s→cmp i j C s) :
  ∀{t:KasT α} {r:α},FJ n lt t=some r→G r s→t.kasWp cmp G s
 | .ret _,_,e,g=>so e▸g
 | .ask i j _,_,e,g=>AJ e fun hb e=>AF hb fun h1 h2=>h i j _ (An h1) (An h2) (Na h e g)
def QF(h:Heap)(v:Value)(n:Int×Int):Prop:=∃a o t u k,v=.ref a∧h.get? a=some o∧o.cls=.type "tuple" ∧ o.data=.seq #[.int n.1 t,.int n.2 u] k
inductive Ay(h:Heap):List Value→List (Int×Int)→Prop
 | nil:Ay h [] []
 | cons {v:Value} {n:Int×Int} {vs:List Value} {ns:List (Int×Int)}:QF h v n→Ay h vs ns→Ay h (v::vs) (n::ns)
theorem Ay.len{h:Heap}{vs:List Value}{ns:List (Int×Int)}(x:Ay h vs ns):vs.length=ns.length:=by
 induction x with
 | nil=>rfl
 | cons _ _ ih=>exact congrArg (·+1) ih
theorem Ay.get{h:Heap}{vs:List Value}{ns:List (Int×Int)}(x:Ay h vs ns):∀{i:Nat} {G:Prop},i<ns.length→(∀n,ns[i]?=some n→QF h (vs.getD i .none) n→G)→G:=by
 induction x with
 | nil=>exact fun hi _=>absurd hi (Nat.not_lt_zero _)
 | cons a _ ih=>intro i G hi k;cases i with
  | zero=>exact k _ rfl a
  | succ i=>exact ih (Nat.lt_of_succ_lt_succ hi) k
theorem Ay.keeps{h h':Heap}{vs:List Value}{ns:List (Int×Int)}(x:Ay h vs ns)(k:∀b o,h.get? b=some o→h'.get? b=some o):Ay h' vs ns:=by
 induction x with
 | nil=>exact .nil
 | cons a _ ih=>exact .cons (a.imp fun a q=>q.imp fun o q=>q.imp fun t q=>q.imp fun u q=>q.imp fun n q=>⟨q.1,k _ _ q.2.1,q.2.2⟩) ih
theorem Ay.tups{h:Heap}{vs:List Value}{ns:List (Int×Int)}(x:Ay h vs ns):∃fs,KatTups h vs fs∧fs.length=ns.length∧∀v∈fs,∃i t,v=.int i t:=by
 induction x with
 | nil=>exact⟨[],.nil,rfl,fun _ q=>nomatch q⟩
 | cons a _ ih=>
  obtain⟨fs,h1,h2,h3⟩:=ih
  obtain⟨a,o,t,u,n,rfl,g,c,d⟩:=a
  exact⟨_::fs,KatTups.cons g c d rfl h1,congrArg (·+1) h2,fun v hv=>(List.mem_cons.mp hv).elim (fun e=>e▸⟨_,_,rfl⟩) (h3 v)⟩
theorem VRs.prs{C:Addr}{ω:Wd}{h:Heap}:∀{l:List PV} {vs:List Value} {ns:List (Int×Int)},VRs C ω h l vs→Xn l=some ns→Ay h vs ns
 | [],_,ns,x,e=>AP (P:=fun ns=>Ay h _ ns) e (x.nil_el .nil)
 | p::r,_,ns,x,e=>AB e fun i e1 e=>AB e fun l e2 e=>AP (P:=fun ns=>Ay h _ ns) e (x.cons_el (Ps:=fun vs=>Ay h vs (i::l)) fun v t a b=>.cons (AB (show bd p.tup? (fun l=>bd (two? l) fun x=>i2 x.1 x.2 fun a b=>some (a,b))=some i from e1) fun l' q1 e1=>AB e1 fun x q2 e1=>
   JT (P:=fun v=>QF h v i) a q1 q2 fun a o v₁ v₂ n g c d x₁ x₂=>Bb (P2:=fun v₁ v₂=>o.data=.seq #[v₁,v₂] n→QF h (.ref a) i) x₁ x₂ e1 (fun y z t u e1 d=>so e1▸⟨a,o,t,u,n,rfl,g,c,d⟩) d) (VRs.prs b e2))
section
variable{prog:Program}{w:World}{A:Around}{E:Value→Shared→Prop}{s:Shared}{vs:List Value}{ns:List (Int×Int)}
theorem bA{x y:Value}{a b:Int×Int}{C:Bool→Shared→Prop}(hx:QF s.heap x a)(hy:QF s.heap y b)(k:C (vJ a b) s):wpAny (model prog w) A (keyLt' (tuples' true) x y) C E s:=by
 obtain⟨p,o,t,u,n,rfl,g,_,d⟩:=hx
 obtain⟨p',o',t',u',n',rfl,g',_,d'⟩:=hy
 refine kat_lt g d g' d' (kat_cons (SeqAt.EqAt.int_int _ _ _ _ _ _ _ _ ?_))
 unfold vJ at k
 cases q:a.1==b.1 with
 | true=>
  rw[q]at k
  refine kat_yes (kat_cons (SeqAt.EqAt.int_int _ _ _ _ _ _ _ _ ?_))
  cases q2:a.2==b.2 with
  | true=>
   refine kat_yes (kat_nil ?_)
   have:decide (a.2<b.2)=false:=decide_eq_false (by have:=beq_iff_eq.mp q2;lia)
   rw[show cond true (decide (a.2<b.2)) (decide (a.1<b.1))=decide (a.2<b.2) from rfl,this]at k
   exact k
  | false=>exact kat_no (kat_one _ _ (PyProof.Rows.lt_int k))
 | false=>
  rw[q]at k
  exact kat_no (oneLt_int k)
theorem Ih{a:Addr}{n:Nat}{P:PySem.Fin→Shared→Prop}{p:Array Nat}(ho:s.heap.get? a=some (seqObj "list" vs.toArray n))(hI:Ay s.heap vs ns)(hr:FJ ns.length (Tx ns) (kas_sort ns.length)=some p)(h2:2≤ns.length)(h64:ns.length<64)
  (h:P (.done (.ret .none)) {s with heap:=sortedHeap s.heap a vs (List.toArray (p.toList.map fun i=>vs.getD i Value.none))}) :
  wpAny (model prog w) A (Builtin.«list.sort» ⟨[.ref a],[]⟩) P E s:=by
 rw[list_sort_plain]
 have hlen:=hI.len
 have ha:a<s.heap.objs.size:=Heap.lt_size ho
 have hsz:vs.toArray.size=vs.length:=by simp
 have hs1:vs.toArray.size≤sizeLine:=by rw[hsz,hlen,sizeLine_eq];lia
 refine wpAny_bind (listItems_at ho rfl ?_)
 refine wpAny_bind (listUpdate_at ho rfl ?_ hs1 (Nat.zero_le _))
 obtain⟨e1,ho1⟩:∃e1,(s.heap.update a (Obj.mapSeq fun _=>#[])).get? a=some (seqObj "list" #[] e1):=⟨_,get?_update_seq ho (fun _=>#[])⟩
 refine wpAny_bind (seqEpoch_at ho1 rfl ?_)
 refine wpAny_bind (wpAny_newTuple ?_ (by rw[hlen,sizeLine_eq];lia))
 refine wpAny_bind (wpAny_newList ?_ (Nat.zero_le _))
 refine wpAny_holding ?_
 have ho6:(((s.heap.update a (Obj.mapSeq fun _=>#[])).push (seqObj "tuple" vs.toArray 0)).push (seqObj "list" #[] 0)).get? a=some (seqObj "list" #[] e1):=by
  rw[Heap.get?_push_ne _ _ _ (by rw[size_push',Heap.size_update];exact Nat.ne_of_lt (Nat.lt_succ_of_lt ha)),Heap.get?_push_ne _ _ _ (by rw[Heap.size_update];exact Nat.ne_of_lt ha)]
  exact ho1
 have hI':Ay (((s.heap.update a (Obj.mapSeq fun _=>#[])).push (seqObj "tuple" vs.toArray 0)).push (seqObj "list" #[] 0)) vs ns:=by
  have key:∀{vs:List Value} {ns:List (Int×Int)},Ay s.heap vs ns→Ay (s.heap.update a (Obj.mapSeq fun _=>#[])) vs ns:=fun x=>by
   induction x with
   | nil=>exact .nil
   | cons y _ ih=>
    obtain⟨b,o,t,u,k,e,g,c,d⟩:=y
    refine .cons ⟨b,o,t,u,k,e,?_,c,d⟩ ih
    rw[Heap.get?_update_ne _ _ _ _ (fun q=>by
     rw[q,ho]at g
     have c':=so g▸c
     exact absurd c' (by simp))]
    exact g
  exact(key hI).keeps fun b o e=>AO _ _ b o (AO _ _ b o e)
 show wpAny (model prog w) A _ P E {s with heap:=((s.heap.update a (Obj.mapSeq fun _=>#[])).push (seqObj "tuple" vs.toArray 0)).push (seqObj "list" #[] 0)}
 dsimp only
 have hn2:¬vs.toArray.size<2:=by rw[hsz];lia
 rw[if_neg hn2,if_neg hn2]
 obtain⟨fs,t1,t2,t3⟩:=hI'.tups
 refine wpAny_bind (kat_kind (T:=.type "int") (s:={s with heap:=((s.heap.update a (Obj.mapSeq fun _=>#[])).push (seqObj "tuple" vs.toArray 0)).push (seqObj "list" #[] 0)}) t1 (by lia) (fun v hv=>by
  obtain⟨i,t,rfl⟩:=t3 v hv;exact .now) rfl ?_)
 refine wpAny_bind (wpAny_mono (kat_run (Q:=fun st' s'=>∃p':Array Nat,p'=p∧(p'.size=vs.length∧arrOf st'=p'.map (kas_item (vs.toArray.zip vs.toArray))∧failedOf st'=none)∧s'={s with heap:=((s.heap.update a (Obj.mapSeq fun _=>#[])).push (seqObj "tuple" vs.toArray 0)).push (seqObj "list" #[] 0)})
  (G:=fun p' s'=>p'=p∧s'={s with heap:=((s.heap.update a (Obj.mapSeq fun _=>#[])).push (seqObj "tuple" vs.toArray 0)).push (seqObj "list" #[] 0)}) rfl (by lia) (by lia) (fun p' st' s' a1 a2 a3 a4=>⟨p',a4.1,⟨a1,a2,a3⟩,a4.2⟩) ?_) ?_ fun _ _ e=>e)
 ·rw[hlen]
  exact Na (n:=ns.length) (lt:=Tx ns) (fun i j C h1 h2 hC=>hI'.get h1 fun x ex hx=>hI'.get h2 fun y ey hy=>by
   refine bA hx hy ?_
   rw[Tx,ex,ey]at hC
   exact hC) hr ⟨rfl,rfl⟩
 rintro⟨⟨⟩,st'⟩ s' ⟨p',rfl,⟨hp,har,hf⟩,rfl⟩
 dsimp only
 have hout:=kat_snds (ks:=vs) (vs:=vs) rfl har
 rw[hout]
 refine wpAny_bind (seqEpoch_at ho6 rfl ?_)
 refine wpAny_bind (listUpdate_at ho6 rfl ?_ (Nat.zero_le _) ?_)
 ·rw[hf]
  simp only[bne_self_eq_false,Bool.false_eq_true,if_false]
  exact wpAny_pure h
 ·rw[List.size_toArray,List.length_map,Array.length_toList,hp,hlen,sizeLine_eq];lia
end
section
variable{B:AV}{A:Around}{E:Value→Shared→Prop}{ω:Wd}{σ:St}{s:Shared}{Q:Value→Shared→Prop}{r:PV}{vs:List Value}
theorem KK.rng{a b c:Int}{t u w:Tok}(I:AL B ω σ s)(k:KK B ω s r Q)(e:some (PV.rng a b c)=some r)(tk:Tok) :
  Q (.ref s.heap.objs.size) {s with heap:=s.heap.push {cls:=.type "range",dict:=none,data:=.fields #[.int a t,.int b u,.int c w],slots:=#[]},toks:=tk}:=
 k _ _ tk (AO _ _) (AP (P:=fun r=>VR B.C ω _ r _) e (.rng_in (JS I (NR rfl rfl) (Ar _) (BX _ _ rfl))))
theorem jQ{p:PV}{v:Value}(I:AL B ω σ s)(x:VR B.C ω s.heap p v)(e:LI σ p=some r)(k:KK B ω s r Q):wpAny (model B.prog B.w) A (call (.builtin "len") [v]) Q E s:=
 Ah e (fun e=>AB e fun z e1 e=>AJ e fun h e=>x.str_vr e1 fun t=>PyProof.Rows.len_str (by have:=CM h;lia) (k.int e _ _))
  fun e=>Ah e (fun e=>AB e fun z e1 e=>AJ e fun h e=>x.byt_vr e1 fun t=>PySem.W.len_bytes (by have:=CM h;lia) (k.int e _ _))
  fun e=>AB e fun l e1 e=>AJ e fun h e=>BB I x e1 fun a o ws n ho c d rr=>call_len_list (Bj ho c d) (by rw[rr.size];have:=CM h;lia) (by rw[rr.size];exact k.int e _ _)
theorem HF{a:Addr}{o:Obj}{ws:Array Value}{n:Nat}(ho:s.heap.get? a=some o)(c:o.cls=.type "list")(d:o.data=.seq ws n):s.heap.IsList a ws.toList.toArray:=by rw[Array.toArray_toList];exact Bj ho c d
theorem NV(h:Heap):h.get? (h.objs.size+1)=none:=
 match q:h.get? (h.objs.size+1) with
 | none=>rfl
 | some _=>absurd (Heap.lt_size q) (Nat.not_lt.mpr (Nat.le_succ _))
theorem II{ws:List Value}{out:Array Value}{l:List PV}(I:AL B ω σ s)(k:KK B ω s r Q)(e:some (PV.lst l)=some r)(x:VRs B.C ω (sortedAll s.heap ws out) l out.toList):Q (.ref (s.heap.objs.size+1)) {s with heap:=sortedAll s.heap ws out}:=
 (sortedAll_at s.heap ws out).elim fun en he=>k _ _ s.toks (fun b o e=>sortedAll_old e) (AP (P:=fun r=>VR B.C ω (sortedAll s.heap ws out) r (.ref (s.heap.objs.size+1))) e (JH I (NV _) he rfl rfl x))
theorem Nx{C:Addr}{h:Heap}{l:List PV}{vs:List Value}(x:VRs C ω h l vs):∀{is:List Nat} {r:List PV},IO l is=some r→VRs C ω h r (is.map fun i=>vs.getD i Value.none)
 | [],r,e=>AP (P:=fun r=>VRs C ω h r []) e .nil
 | i::is,r,e=>AB e fun p e1 e=>AB e fun t e2 e=>AP (P:=fun r=>VRs C ω h r _) e ((x.get e1).elim fun v z=>.cons_in (show VR C ω h p (vs.getD i Value.none) by rw[List.getD_eq_getElem?_getD,z.1];exact z.2) (Nx x e2))
theorem Mo{l:Addr}{ns:List (Int×Int)}{ws:List Value}{p:Array Nat}(hl:s.heap.IsList l ws.toArray)(hI:Ay s.heap ws ns)(hr:FJ ns.length (Tx ns) (kas_sort ns.length)=some p)(h2:2≤ns.length)(h64:ns.length<60)
  (h:Q (.ref (s.heap.objs.size+1)) {s with heap:=sortedAll s.heap ws (List.toArray (p.toList.map fun i=>ws.getD i Value.none))}):wpAny (model B.prog B.w) A (call (.builtin "sorted") [.ref l]) Q E s:=by
 have hlen:=hI.len
 refine Calls.call_function_entry kind_sorted plain_sorted entry_sorted (args_sorted1 _) ?_
 unfold Builtin.«sorted»
 refine wpAny_bind (m:=checkCount "sorted" 1 1 _) (wpAny_pure ?_)
 refine wpAny_bind (collect_list hl ?_ (by rw[hlen,sizeLine_eq];lia))
 refine wpAny_bind (wpAny_newList ?_ (by rw[hlen,sizeLine_eq];lia))
 have hsz:((s.heap.push (seqObj "list" #[] 0)).update s.heap.objs.size (Obj.mapSeq (·++ws.toArray))).objs.size=s.heap.objs.size+1:=by
  rw[Heap.size_update,size_push']
 have hoL:(((s.heap.push (seqObj "list" #[] 0)).update s.heap.objs.size (Obj.mapSeq (·++ws.toArray))).push (seqObj "list" ws.toArray 0)).get? (s.heap.objs.size+1)=some (seqObj "list" ws.toArray 0):=by
  rw[←hsz];exact Heap.get?_push_size _ rfl
 have keep:∀b o,s.heap.get? b=some o→(((s.heap.push (seqObj "list" #[] 0)).update s.heap.objs.size (Obj.mapSeq (·++ws.toArray))).push (seqObj "list" ws.toArray 0)).get? b=some o:=fun b o q=>by
  have hlt:b<s.heap.objs.size:=Heap.lt_size q
  rw[Heap.get?_push_ne _ _ _ (by rw[hsz];exact Nat.ne_of_lt (Nat.lt_succ_of_lt hlt)),Heap.get?_update_ne _ _ _ _ (Nat.ne_of_lt hlt),Heap.get?_push_ne _ _ _ (Nat.ne_of_lt hlt)]
  exact q
 show wpAny _ _ _ _ _ {s with heap:=((s.heap.push (seqObj "list" #[] 0)).update s.heap.objs.size (Obj.mapSeq (·++ws.toArray))).push (seqObj "list" ws.toArray 0)}
 rw[hsz]
 exact wpAny_bind (wpAny_holding (wpAny_call_entry slot_list_sort ⟨_,hoL,rfl⟩ entry_list_sort (Ih (s:={s with heap:=((s.heap.push (seqObj "list" #[] 0)).update s.heap.objs.size (Obj.mapSeq (·++ws.toArray))).push (seqObj "list" ws.toArray 0)})
  hoL (hI.keeps keep) hr h2 (by lia) ⟨_,rfl,wpAny_pure ⟨_,rfl,h⟩⟩) (args_list_sort _)))
theorem QD{p:PV}{l:List PV}{v:Value}(I:AL B ω σ s)(x:VR B.C ω s.heap p v)(el:Bx σ p=some l)(h:decide (l.length<60)=true)
  (e:ql (bd (Ek l) fun ns=>some (.lst ((UC ns).map .int))) (XV l)=some r) (k:KK B ω s r Q):wpAny (model B.prog B.w) A (call (.builtin "sorted") [v]) Q E s:=
 BB I x el fun a o ws n ho c d rr=>Ah e
  (fun e=>AB e fun ns e1 e=>PyProof.Rows.sorted_ints (HF ho c d) (rr.ints e1) (by rw[rr.length];have:=An h;lia) fun out ns' a1 a2 a3=>II I k e (by rw[←VY a2 a3];exact .of_ints a1))
  fun e=>AB e fun ns e1 e=>AJ e fun h2 e=>AB e fun p e2 e=>AB e fun r e3 e=>have hp:=rr.prs e1
   Mo (HF ho c d) hp e2 (An h2) (by rw[←hp.len,rr.length];exact An h) (II I k e ((Nx rr e3).carry (.of_keep fun b o e=>sortedAll_old e)))
theorem cA{l:Addr}{ws:List Value}{ns:List Int}(hh:A.handled=none)(hl:s.heap.IsList l ws.toArray)(hi:IntsAre ws ns)(e:some (PV.int ns.sum)=some r)(k:KK B ω s r Q):wpAny (model B.prog B.w) A (call (.builtin "sum") [.ref l]) Q E s:=by
 have⟨xs,exs⟩:=hi.allInts.items
 have hnum:ns=xs.toList.map (·.1):=by
  have h1:=hi.numsOf
  rw[show ws=(intItems xs).toList from by rw[←exs],nums_intItems]at h1
  exact h1.symm
 refine sum_intListG hh (xs:=xs) (exs▸hl) fun h' tk t' hk=>k _ h' tk hk (AP (P:=fun r=>VR B.C ω h' r _) e ?_)
 rw[preSum_eq,List.take_of_length_le (by simp),←hnum]
 exact .int_in
theorem DU(a b c:Int):0≤Builtin.Range.rangeSize a b c:=by
 unfold Builtin.Range.rangeSize
 split
 ·split
  ·have:0≤(b-a-1)/c:=Int.ediv_nonneg (by lia) (by lia)
   first|omega | (simp only[];omega) | skip
  ·exact Int.le_refl _
 ·split
  ·have:0≤(a-b-1)/(-c):=Int.ediv_nonneg (by lia) (by lia)
   first|omega | skip
  ·exact Int.le_refl _
theorem SZ{C:Addr}{ω:Wd}{h:Heap}:∀{l:List PV} {vs:List Value},vs.length=l.length→(∀(i:Nat) (p:PV) (v:Value),l[i]?=some p→vs[i]?=some v→VR C ω h p v)→VRs C ω h l vs
 | [],[],_,_=>.nil
 | p::l,v::vs,hl,k=>.cons_in (k 0 p v rfl rfl) (SZ (Nat.succ.inj hl) fun i p v h1 h2=>k (i+1) p v h1 h2)
 | [],_::_,hl,_=>nomatch hl
 | _::_,[],hl,_=>nomatch hl
theorem TE{C:Addr}{ω:Wd}{h:Heap}{acc:Array Value}{n:Nat}{f:Nat→Int}(x:ItemsOf (fun i v=>∃t,v=.int (f i) t) acc n):VRs C ω h ((List.range n).map fun k=>.int (f k)) acc.toList:=
 SZ (by rw[Array.length_toList,x.1,List.length_map,List.length_range]) fun i p v h1 h2=>by
  rw[List.getElem?_map]at h1
  refine Cm (P:=fun p=>VR C ω h p v) h1 fun j hj=>?_
  have e:=(List.getElem?_eq_some_iff.mp hj).2
  rw[List.getElem_range]at e
  obtain⟨t,ht⟩:=x.2 i v (by rw[←Array.getElem?_toList];exact h2)
  rw[ht,←e]
  exact .int_in
theorem WN{a b c:Int}{ra:Addr}{t u w:Tok}(hh:A.handled=none)(I:AL B ω σ s)(f:Fz ω s.heap ra {cls:=.type "range",dict:=none,data:=.fields #[.int a t,.int b u,.int c w],slots:=#[]})(h1:Builtin.Range.small a b c=true)(h2:decide (Builtin.Range.rangeSize a b c≤BM)=true)
  (e:some (PV.lst (GA a b c))=some r) (k:KK B ω s r Q):wpAny (model B.prog B.w) A (call (.type "list") [.ref ra]) Q E s:=
 call_list_range (n:=(Builtin.Range.rangeSize a b c).toNat) hh f.2.2.1 h1 (Int.toNat_of_nonneg (DU a b c)).symm (by have:=An h2;simp only[BM]at this;lia) fun h' tk acc' c' hk ho hacc=>k _ h' tk hk (AP (P:=fun r=>VR B.C ω h' r (.ref s.heap.objs.size)) e (JH I (Ar _) ho rfl rfl (TE hacc)))
theorem yM{f:BI}{ps:List PV}(hh:A.handled=none)(I:AL B ω σ s)(x:VRs B.C ω s.heap ps vs)(e:UD f ps σ=some r)(k:KK B ω s r Q) :
  wpAny (model B.prog B.w) A (call (G5 f) vs) Q E s:=
 match f,e with
 | .len,e=>AB e fun p e1 e=>x.one_vr e1 fun v x=>jQ I x e k
 | .range,e=>Ah e (fun e=>AB e fun p e1 e=>AB e fun b e2 e=>x.one_vr e1 fun v x=>x.int_vr e2 fun t=>call_range_1 (k.rng I e _))
   fun e=>Ah e (fun e=>AB e fun p e1 e=>x.two_vr (i:=p.1) (j:=p.2) e1 fun v w x y=>Bb x y e fun a b t u e=>call_range_2 (k.rng I e _))
   fun e=>AB e fun p e1 e=>x.three_vr (i:=p.1) (j:=p.2.1) (u:=p.2.2) e1 fun v w z x y z'=>Bb (P2:=fun v w=>wpAny (model B.prog B.w) A (call (.type "range") [v,w,z]) Q E s) x y e fun a b t u e=>AB e fun d e2 e=>AJ e fun hd e=>AF hd fun hd1 hd2=>z'.int_vr (P:=fun z=>wpAny (model B.prog B.w) A (call (.type "range") [.int a t,.int b u,z]) Q E s) e2 fun t'=>call_range_3 (hp:=.inl (PyProof.noPylong_small (by have:=An hd2;omega))) (bne_iff_ne.mp hd1) (k.rng I e _)
 | .sorted,e=>AB e fun p e1 e=>AB e fun l el e=>AJ e fun h e=>x.one_vr e1 fun v x=>QD I x el h e k
 | .max,e=>AB e fun p e1 e=>x.two_vr (i:=p.1) (j:=p.2) e1 fun v w x y=>Bb x y e fun a b t u e=>max_two_ints hh fun h' tk hk=>k (if b>a then .int b u else .int a t) h' tk hk (AP (P:=fun r=>VR B.C ω h' r _) e (by
    by_cases q:b>a
    ·rw[if_pos q,if_pos (show a<b from q)];exact .int_in
    ·rw[if_neg q,if_neg (show ¬a<b from q)];exact .int_in))
 | .bytes,e=>AB e fun p e1 e=>AB e fun l el e=>AB e fun ns ei e=>AJ e fun h e=>AF h fun h1 h2=>x.one_vr e1 fun v x=>BB I x el fun a o ws n ho c d rr=>
   have hi:=rr.ints ei
   call_bytes_ints (vs:=ws.toList) (HF ho c d) hi (fun n hn=>by have:=List.all_eq_true.mp h1 n hn;simpa using this) (by rw[hi.length];exact Aa h2) hh fun h' t tk hk=>k _ h' tk hk (AP (P:=fun r=>VR B.C ω h' r _) e .byt_in)
 | .sum,e=>AB e fun p e1 e=>AB e fun l el e=>AB e fun ns ei e=>x.one_vr e1 fun v x=>BB I x el fun a o ws n ho c d rr=>cA hh (HF ho c d) (rr.ints ei) e k
 | .list,e=>AB e fun p e1 e=>AB e fun y e2 e=>AJ e fun h e=>AF h fun h1 h2=>x.one_vr e1 fun v x=>VR.rng_el (P:=fun v=>wpAny (model B.prog B.w) A (call (.type "list") [v]) Q E s) (cS e2▸x) fun r t u w f=>WN hh I f h1 h2 e k
end
end Sh
namespace Sh
open PySem PySem.Calls PyProof.Rows PySem.W PySem.Spec PySem.SeqAt Builtin.Str
def hY(C:Addr)(ω:Wd)(h:Heap)(p:Option PV)(v:Value):Prop:=p.elim (v=.none) fun p=>VR C ω h p v
@[elab_as_elim] theorem OU{C:Addr}{ω:Wd}{h:Heap}{q:Option PV}{v:Value}{lo:Option Int}{P:Value→Prop}(x:hY C ω h q v)(e:HS q=some lo)(k:∀l:Option (Int×Tok),l.map (·.1)=lo→IsPart (partValue l) lo→P (partValue l)):P v:=
 match q,x,e with
 | none,x,e=>(show v=.none from x)▸k none (so e) (AP (P:=fun lo=>IsPart .none lo) e .none)
 | some p,x,e=>AB e fun i e1 e=>AJ e fun _ e=>VR.int_vr (P:=P) x e1 fun t=>k (some (i,t)) (so e) (AP (P:=fun lo=>IsPart (.int i t) lo) e (.int i t))
theorem La(x:Str)(lo hi:Option Int)(h:((strSliceIndices lo hi 1 x.length).length==x.length)=true):Iz x.cps.toList lo hi=x.cps.toList:=by
 have e:strSliceIndices lo hi 1 x.length=sliceRange (sliceBounds lo hi none x.length).1 (sliceBounds lo hi none x.length).2.1 1:=by
  cases lo<;>cases hi<;>rfl
 rw[e,sliceBounds_plain]at h
 simp only[sliceRange_one,List.length_map,List.length_range,beq_iff_eq]at h
 have hn:x.cps.toList.length=x.length:=by simp[Str.length]
 have hc:∀(i:Int),clipAt x.length i≤x.length:=fun i=>Int.toNat_le.mpr (Int.max_le.mpr ⟨Int.natCast_nonneg _,Int.min_le_right _ _⟩)
 have h1:lo.elim 0 (clipAt x.length)≤x.length:=by cases lo with | none=>exact Nat.zero_le _ | some i=>exact hc i
 have h2:hi.elim x.length (clipAt x.length)≤x.length:=by cases hi with | none=>exact Nat.le_refl _ | some i=>exact hc i
 unfold Iz
 rw[hn]
 by_cases h0:x.length=0
 ·have:x.cps.toList=[]:=List.eq_nil_of_length_eq_zero (hn.trans h0)
  rw[this];simp
 ·have q1:lo.elim 0 (clipAt x.length)=0:=by lia
  rw[q1,List.drop_zero]
  exact List.take_of_length_le (by rw[hn];lia)
section
variable{B:AV}{A:Around}{E:Value→Shared→Prop}{ω:Wd}{σ:St}{s:Shared}{Q:Value→Shared→Prop}{r:PV}
theorem UP{y:Str}{t:Tok}{a b:Option Int}{l u:Option (Int×Tok)}{sl:Addr}(hs:s.heap.IsSliceOf sl (partValue l) (partValue u) .none)(hl:l.map (·.1)=a)(hu:u.map (·.1)=b)(h:decide (y.length≤BM)=true)
  (e:some (PV.str ⟨(Iz y.cps.toList a b).toArray⟩)=some r) (k:KK B ω s r Q):GI B A (.str y t) (.ref sl) Q E s:=by
 refine⟨wpAny_getItem_str_slice (l:=l) (u:=u) (st:=none) hs rfl ?_,"str",_,typeIs_str s y t,F.slot_str_getitem.lookup⟩
 have hp:slicePicked y l u none=strSliceIndices a b 1 y.length:=by unfold slicePicked;rw[hl,hu];rfl
 unfold sliceMade
 rw[hp]
 split
 ·rename_i hw
  refine AF hw fun _ hw=>?_
  have e':=La y a b hw
  exact k.str (AP (P:=fun r=>some (PV.str y)=some r) e (by rw[e'])) t s.toks
 ·rw[PN]
  refine⟨Nat.le_trans ?_ (Aa h),k.str e _ _⟩
  exact Nat.le_trans (MV y.cps.toList a b) (Nat.le_of_eq Array.length_toList)
theorem UM{y:Array UInt8}{t:Tok}{a b:Option Int}{l u:Value}{sl:Addr}(hs:s.heap.IsSliceOf sl l u .none)(hl:IsPart l a)(hu:IsPart u b)(h:decide (y.size≤BM)=true)
  (e:some (PV.byt (Iz y.toList a b).toArray)=some r) (k:KK B ω s r Q):GI B A (.bytes y t) (.ref sl) Q E s:=
 ⟨getItem_meets (typeIs_bytes _ _ _) (by decide) FB.slot_bytes_getitem FB.entry_bytes_getitem (FB.args_bytes_getitem_2 _ _) (KBc.meets_slice2 y t _ hl hu) ⟨hs,Nat.le_trans (KBc.size_picked_le y a b) (Aa h),fun t' tk=>by
  rw[KBc.picked_eq]
  exact k.byt (by simpa only[Iz,Array.length_toList] using e) _ _⟩,"bytes",_,typeIs_bytes _ _ _,FB.slot_bytes_getitem.lookup⟩
theorem WX{d:Addr}{o:Obj}{ws:Array Value}{n:Nat}{ll:List PV}{a b:Option Int}{l u:Value}{sl:Addr}(I:AL B ω σ s)(ho:s.heap.get? d=some o)(c:o.cls=.type "list")(dd:o.data=.seq ws n)(x:VRs B.C ω s.heap ll ws.toList)
  (hs:s.heap.IsSliceOf sl l u .none) (hl:IsPart l a) (hu:IsPart u b) (h:decide (ll.length≤BM)=true) (e:some (PV.lst (Iz ll a b))=some r) (k:KK B ω s r Q):GI B A (.ref d) (.ref sl) Q E s:=by
 have hL:=Bj ho c dd
 refine⟨wpAny_getItem_list_slice hL hs hl hu .none (fun q=>nomatch q) ?_ (by rw[x.size];exact Aa h),"list",_,hL.typeIs,slot_list_getitem.lookup⟩
 rw[slicePick_plain]
 refine k.lst I e ?_
 rw[x.size]
 exact(x.drop _).take _
theorem gG{p:PV}{lo hi:Option PV}{o vl vu:Value}{sl:Addr}(I:AL B ω σ s)(x:VR B.C ω s.heap p o)(xl:hY B.C ω s.heap lo vl)(xu:hY B.C ω s.heap hi vu)
  (hs:s.heap.IsSliceOf sl vl vu .none) (e:Kn σ p lo hi=some r) (k:KK B ω s r Q):GI B A o (.ref sl) Q E s:=
 AB e fun a ea e=>AB e fun b eb e=>OU (P:=fun v=>s.heap.IsSliceOf sl v vu .none→GI B A o (.ref sl) Q E s) xl ea (fun l hl pl hs=>OU (P:=fun v=>s.heap.IsSliceOf sl (partValue l) v .none→GI B A o (.ref sl) Q E s) xu eb (fun u hu pu hs=>
  Ah e (fun e=>AB e fun y e1 e=>AJ e fun h e=>x.str_vr e1 fun t=>UP hs hl hu h e k)
   fun e=>Ah e (fun e=>AB e fun y e1 e=>AJ e fun h e=>x.byt_vr e1 fun t=>UM hs pl pu h e k)
   fun e=>AB e fun ll e1 e=>AJ e fun h e=>BB I x e1 fun d oo ws n ho c dd r'=>WX I ho c dd r' hs pl pu h e k) hs) hs
theorem Op{C:Addr}{h:Heap}{l:List PV}{vs:List Value}(x:VRs C ω h l vs):∀{is:List Nat} {r:List PV},IO l is=some r→VRs C ω h r (is.filterMap fun i=>vs[i]?)
 | [],r,e=>AP (P:=fun r=>VRs C ω h r []) e .nil
 | i::is,r,e=>AB e fun p e1 e=>AB e fun t e2 e=>AP (P:=fun r=>VRs C ω h r _) e ((x.get e1).elim fun v z=>by
  rw[List.filterMap_cons,z.1]
  exact .cons_in z.2 (Op x e2))
theorem iE{p q:PV}{n:Int}{t:Tok}{o vl:Value}{sl:Addr}(I:AL B ω σ s)(x:VR B.C ω s.heap p o)(xl:VR B.C ω s.heap q vl)(hs:s.heap.IsSliceOf sl vl .none (.int n t))(e:aT σ p q n=some r)(k:KK B ω s r Q):GI B A o (.ref sl) Q E s:=
 AB e fun i e1 e=>AB e fun l e2 e=>AJ e fun h e=>AF h fun h1 h2=>AB e fun r' e3 e=>VR.int_vr (P:=fun vl=>s.heap.IsSliceOf sl vl .none (.int n t)→GI B A o (.ref sl) Q E s) xl e1 (fun u hs=>
  BB (P:=fun o=>GI B A o (.ref sl) Q E s) I x e2 fun d oo ws m ho c dd rr=>by
   have hL:=Bj ho c dd
   refine⟨wpAny_getItem_list_slice hL hs (.int i u) .none (.int n t) (fun q=>bne_iff_ne.mp h2 (so q)) ?_ (by rw[rr.size];exact Aa h1),"list",_,hL.typeIs,slot_list_getitem.lookup⟩
   refine k.lst I e ?_
   have y:=Op rr e3
   unfold slicePick
   rw[rr.size]
   simpa only[JV,Array.getElem?_toList] using y) hs
theorem Si{l:Addr}{items:Array Value}{n:Nat}{k:Int}{t:Tok}{v:Value}{Q:Unit→Shared→Prop}(hl:IsL s.heap l items n)(h0:0≤k)(hn:k<items.size)(hsz:items.size≤1000000)
  (hQ:∀h' n',IsL h' l (items.setIfInBounds k.toNat v) n'→Heap.SameBut l s.heap h'→Q () {s with heap:=h'}) :
  wpAny (model B.prog B.w) A (setItem (.ref l) (.int k t) v) Q E s:=by
 have hL:=IsL.isList hl
 unfold setItem
 try with_reducible refine wpAny_holding ?_
 first|refine wpAny_bind (wpAny_pure ?_) | skip
 refine wpAny_bind (wpAny_sequenceKey hL.typeIs (by decide) ?_)
 refine wpAny_bind (wpAny_callSpecial?_slot (name:=qS "__setitem__") hL.typeIs slot_list_setitem
  (wpAny_call_entry slot_list_setitem hL.typeIs entry_list_setitem ?_ (args_list_setitem _ _ _)))
 show wpAny _ _ (Builtin.List.listSubscript? (.int k t) >>= _) _ _ s
 refine wpAny_bind (wpAny_listSubscript_int (fitsIndex_of h0 (by lia)) ?_)
 obtain⟨j,rfl⟩:=Int.eq_ofNat_of_zero_le h0
 have hj:j<items.size:=by omega
 have hx':items[j]?=some items[j]:=Array.getElem?_eq_getElem hj
 show wpAny _ _ ((seqItemAt l j >>= fun r=>pure (r.map (j,·))) >>= _) _ _ s
 refine wpAny_bind (wpAny_bind (wpAny_seqItemAt hl rfl (wpAny_pure ?_)))
 rw[hx']
 show wpAny _ _ (setSeqItemAt l j v >>= _) _ _ s
 have hfin:=hQ _ _ (IsL.update hl (·.setIfInBounds j v)) (Heap.SameBut.update ..)
 refine wpAny_bind (wpAny_setSeqItemAt hl rfl ?_)
 first
  | exact wpAny_bind (wpAny_pure (wpAny_pure ⟨.none,rfl,wpAny_pure hfin⟩))
  | exact wpAny_pure ⟨.none,rfl,wpAny_pure hfin⟩
end
noncomputable def Jw(m:MT):Str:=match m with
 | .append => "append" | .extend => "extend" | .pop => "pop" | .join => "join" | .find => "find" | .replace => "replace" | .encode => "encode" | .decode => "decode"
noncomputable def Kk(m:MT)(p:PV):String:=match m with
 | .append => "list.append" | .extend => "list.extend" | .pop => "list.pop"
 | .join=>cond p.byt?.isSome "bytes.join" "str.join"
 | .find => "str.find" | .replace => "str.replace" | .encode => "str.encode" | .decode => "bytes.decode"
theorem DN{n:Nat}{k:Int}(h:0≤k):fromIndex n k=k.toNat:=by
 unfold fromIndex
 rw[if_neg (by lia),Int.max_eq_right h]
theorem LU(x y:Str)(i j:Int)(t u v w:Tok):Gives (Builtin.«str.find» ⟨[.str x t,.str y u,.int i v,.int j w],[]⟩) (.int (match occurrences x y (fromIndex x.length i) (min (fromIndex x.length j) x.length) 1 with | k::_=>(k:Int) | []=>-1)):=by
 show Gives (match occurrences x y (fromIndex x.length i) (min (fromIndex x.length j) x.length) 1 with | k::_=>retInt k | []=>(do rule "str.find.not-found";retInt (-1))) _
 cases occurrences x y (fromIndex x.length i) (min (fromIndex x.length j) x.length) 1 with
 | nil=>exact .rule (.of_eq rfl)
 | cons k _=>exact .of_eq rfl
theorem Hq(x y z:Str)(t u v:Tok)(h:(occurrences x y 0 x.length (x.length+1)).isEmpty=true):Gives (Builtin.«str.replace» ⟨[.str x t,.str y u,.str z v],[]⟩) (.val (.str x t)):=by
 show Gives (if((occurrences x y 0 x.length (x.length+1)).isEmpty||(y.length==0&&z.length==0))=true then(do rule "str.replace.nothing";ret (.str x t)) else _) _
 rw[h]
 exact .rule (.of_eq rfl)
namespace Jn
open Builtin
theorem aJ{β:Type}{M:Model}{A:Around}{E:Value→Shared→Prop}{s:Shared}{f:Nat→β→Sem (ForInStep β)}{P:Nat→β}{Q:β→Shared→Prop}:∀m n {p:β},p=P n →
  (∀i,n≤i→i<n+m→∀R:ForInStep β→Shared→Prop,R (.yield (P (i+1))) s→wpAny M A (f i (P i)) R E s)→Q (P (n+m)) s→wpAny M A (forIn (List.range' n m) p f) Q E s
 | 0,n,p,hp,h,hq=>by subst hp;rw[List.range'_zero,List.forIn_nil];exact wpAny_pure hq
 | m+1,n,p,hp,h,hq=>by
  subst hp
  rw[List.range'_succ,List.forIn_cons]
  refine wpAny_bind (h n (Nat.le_refl _) (by lia) _ ?_)
  exact aJ m (n+1) rfl (fun i h1 h2=>h i (by lia) (by lia)) (by rw[show n+1+m=n+(m+1) by lia];exact hq)
theorem args_2(a c:Value):argsOk "bytes.join" ⟨[a,c],[]⟩:=by
 unfold argsOk;rw[signature?_of (id := "bytes.join") (n:=['n','i','o','j']) (o:=['s','e','t','y','b']) (by kernel_rfl) FB.owner_bytes];kernel_rfl
theorem entry:entryFor table "bytes.join" = some Builtin.«bytes.join»:=entryFor_of_tree (by kernel_rfl)
noncomputable def bv:Array UInt8×Tok→Value:=fun p=>.bytes p.1 p.2
theorem kC{β:Type}{M:Model}{A:Around}{E:Value→Shared→Prop}{s:Shared}{f:Nat→β→Sem (ForInStep β)}(P:Nat→β){Q:β→Shared→Prop}(m:Nat){p:β}(hp:p=P 0)
  (h:∀i,i<m→∀R:ForInStep β→Shared→Prop,R (.yield (P (i+1))) s→wpAny M A (f i (P i)) R E s) (hq:Q (P m) s):wpAny M A (forIn ([0:m]:Std.Legacy.Range) p f) Q E s:=by
 rw[Std.Legacy.Range.forIn_eq_forIn_range']
 show wpAny M A (forIn (List.range' 0 ((m-0+1-1)/1)) p f) Q E s
 rw[show(m-0+1-1)/1=m by simp]
 exact aJ m 0 hp (fun i _ h2=>h i (by lia)) (by rw[Nat.zero_add];exact hq)
theorem Uz{id:String}{b:Array UInt8}{t:Tok}:Bytes.takeBuffer? id (.bytes b t) 0=pure (some (b,none)):=by
 unfold Bytes.takeBuffer? Bytes.buffer?
 rw[KBy.special_eq KBy.look_buffer,KBy.own_buffer,KBy.own_release]
 kernel_rfl
theorem pF{M:Model}{A:Around}{E:Value→Shared→Prop}{s:Shared}{id:String}{b:Array UInt8}{t:Tok}{Q:Option (Array UInt8×Option Value)→Shared→Prop}(h:Q (some (b,none)) s) :
  wpAny M A (Bytes.takeBufferQuiet? id (.bytes b t) 0) Q E s:=by
 unfold Bytes.takeBufferQuiet?
 rw[Uz]
 exact wpAny_bind (wpAny_attempt (wpAny_pure (wpAny_pure h)))
theorem IJ{M:Model}{A:Around}{E:Value→Shared→Prop}{s:Shared}{Q:Unit→Shared→Prop}:∀(l:List (Array UInt8×Tok)) (keep:List Value),Q () s→wpAny M A (Bytes.joinLetGo (l.map fun p=>(bv p,none)) keep) Q E s
 | [],keep,h=>wpAny_pure h
 | p::l,keep,h=>by
  show wpAny M A (letGo [bv p] (keep++_) >>= fun _=>Bytes.joinLetGo (l.map fun p=>(bv p,none)) keep) Q E s
  refine wpAny_bind ?_
  show wpAny M A (holding _ point >>= fun _=>letGo [] _) _ E s
  exact wpAny_bind (wpAny_holding (wpAny_point (wpAny_pure (IJ l keep h))))
def St:List (Array UInt8×Tok)→Nat→Array (Array UInt8)×List (Value×Option Value):=fun l i=>(((l.take i).map (·.1)).toArray,(l.take i).map fun p=>(bv p,none))
theorem Wa(l:List (Array UInt8×Tok))(i:Nat)(h:i<l.length):St l (i+1)=((St l i).1.push l[i].1,(St l i).2++[(bv l[i],none)]):=by
 unfold St
 rw[List.take_add_one,List.getElem?_eq_getElem h]
 simp only[Option.toList_some,List.map_append,List.map_cons,List.map_nil,List.push_toArray]
theorem gZ(l:List (Array UInt8×Tok)):St l (List.map bv l).toArray.size=((l.map (·.1)).toArray,l.map fun p=>(bv p,none)):=by
 simp[St]
theorem Sx(l:List (Array UInt8×Tok))(i:Nat):¬((Bytes.Kind.bytes==Bytes.Kind.bytearray||(St l i).2.any fun x=>x.1.onHeap)=true):=by
 have h0:(Bytes.Kind.bytes==Bytes.Kind.bytearray)=false:=rfl
 have:((St l i).2.any fun x=>x.1.onHeap)=false:=by
  simp only[St,List.any_map]
  rw[List.any_eq_false]
  intro x _
  exact Bool.false_ne_true
 rw[h0,this]
 exact Bool.false_ne_true
theorem Yu:∀(l:List (Array UInt8)) (acc:Array UInt8),(l.foldl (·++·) acc).size=acc.size+(l.map Array.size).sum
 | [],acc=>by simp
 | a::l,acc=>by simp only[List.foldl_cons,Yu l,Array.size_append,List.map_cons,List.sum_cons];lia
theorem oE:∀(l:List (Array UInt8)) (n:Nat),l.foldl (fun x y=>x+y.size) n=n+(l.map Array.size).sum
 | [],n=>by simp
 | a::l,n=>by simp only[List.foldl_cons,oE l,List.map_cons,List.sum_cons];lia
theorem qR(l:List (Array UInt8×Tok))(hs:((l.map (·.1)).map Array.size).sum≤sizeLine) :
  ¬(Bytes.tooLong (Array.foldl (fun x y=>x+y.size) ((#[]:Array UInt8).size*((l.map (·.1)).toArray.size-1)) (l.map (·.1)).toArray)=true):=by
 rw[List.foldl_toArray',oE]
 unfold Bytes.tooLong
 simp only[List.size_toArray,List.length_nil,Nat.zero_mul,Nat.zero_add,decide_eq_true_eq]
 lia
 simp
theorem A7(l:List (Array UInt8)):Bytes.joined #[] l=l.foldl (·++·) #[]:=by
 have:∀(l:List (Array UInt8)) (n:Nat) (acc:Array UInt8),(l.zipIdx n).foldl (fun out (p,i)=>(if i>0 then out++#[] else out)++p) acc=l.foldl (·++·) acc:=by
  intro l
  induction l with
  | nil=>intro n acc;rfl
  | cons a l ih=>
   intro n acc
   rw[List.zipIdx_cons,List.foldl_cons,List.foldl_cons,ih]
   simp only[Array.append_empty,ite_self]
 exact this l 0 #[]
theorem yes{c:Prop}[Decidable c]{X Y:Prop}(hc:c)(h:X):if c then X else Y:=by rw[if_pos hc];exact h
theorem no{c:Prop}[Decidable c]{X Y:Prop}(hc:¬c)(h:Y):if c then X else Y:=by rw[if_neg hc];exact h
theorem meets{l:List (Array UInt8×Tok)}{t:Tok}{a:Addr}{o:Obj}{n:Nat}(h2:2≤l.length)(hl:l.length≤sizeLine)(hs:((l.map (·.1)).map Array.size).sum≤sizeLine) :
  Meets («bytes.join» ⟨[.bytes #[] t,.ref a],[]⟩) (fun _ R s=>(s.heap.get? a=some o∧o.cls=.type "list" ∧ o.data=.seq (l.map bv).toArray n)∧∀v k,(∃t',v=.bytes ((l.map (·.1)).foldl (·++·) #[]) t')→R (.ok (.ret v)) {s with toks:=k}):=by
 refine .of_wp fun prog w A R s hS=>?_
 obtain⟨⟨ho,hc,hd⟩,k⟩:=hS
 show wpAny _ _ (selfAndOne _ _ >>= _) _ _ _
 refine wpAny_bind (wpAny_of_eq (a:=(Value.bytes #[] t,Value.ref a)) rfl ?_)
 show wpAny _ _ (Bytes.joinItems (.ref a) >>= _) _ _ _
 refine wpAny_bind ?_
 unfold Bytes.joinItems
 refine wpAny_bind (wpAny_typeOf (T := "list") ⟨_,ho,hc⟩ ?_)
 refine wpAny_ite (yes rfl (wpAny_pure ?_))
 refine wpAny_bind (wpAny_seqItems ho hd ?_)
 match l,h2,hl,hs,k,hd with
 | p::q::r,_,hl,hs,k,hd=>
 show wpAny _ _ (forIn ([0:(List.map bv (p::q::r)).toArray.size]:Std.Legacy.Range) _ _ >>= _) _ _ _
 generalize (p::q::r)=L at hs hl k hd ⊢
 refine wpAny_bind (kC (St L) _ rfl ?_ ?_)
 ·intro i hi R' hR'
  have hi':i<L.length:=by simpa using hi
  have hx:(List.map bv L).toArray.getD i .none=bv L[i]:=by
   simp only[Array.getD_eq_getD_getElem?,List.getElem?_toArray,List.getElem?_map,List.getElem?_eq_getElem hi',Option.map_some,Option.getD_some]
  have e:=Wa L i hi'
  rw[e]at hR'
  refine wpAny_bind (wpAny_seqItems ho hd ?_)
  refine wpAny_ite (no (Sx L i) ?_)
  refine wpAny_bind (wpAny_holding ?_)
  rw[hx]
  refine pF ?_
  refine wpAny_bind (wpAny_seqItems ho hd ?_)
  refine wpAny_ite (no (by simp) ?_)
  exact wpAny_pure hR'
 ·rw[gZ]
  refine wpAny_bind (wpAny_of_eq (a:=#[]) rfl ?_)
  refine wpAny_ite (no (qR L hs) ?_)
  show wpAny _ _ (mkBytes (Bytes.joined #[] (L.map (·.1))) >>= _) _ _ _
  rw[A7]
  refine wpAny_bind (wpAny_mkBytes ?_ (by rw[Yu];simpa using hs))
  refine wpAny_bind (wpAny_holding (wpAny_point ?_))
  refine wpAny_bind (IJ L _ ?_)
  exact wpAny_pure ⟨_,rfl,k _ _ ⟨_,rfl⟩⟩
end Jn
noncomputable def eP(vs:List Value)(ns:List (Array UInt8)):Prop:=∃L:List (Array UInt8×Tok),vs=L.map Jn.bv∧L.map (·.1)=ns
theorem VRs.byts{C:Addr}{ω:Wd}{h:Heap}:∀{l:List PV} {vs:List Value} {ns:List (Array UInt8)},VRs C ω h l vs→Hd l=some ns→eP vs ns
 | [],_,ns,x,e=>AP (P:=fun ns=>eP _ ns) e (x.nil_el ⟨[],rfl,rfl⟩)
 | p::r,_,ns,x,e=>AB e fun i e1 e=>AB e fun l e2 e=>AP (P:=fun ns=>eP _ ns) e (x.cons_el fun v t a b=>a.byt_vr e1 fun tk=>(VRs.byts b e2).elim fun L q=>⟨(i,tk)::L,congrArg (_::·) q.1,congrArg (_::·) q.2⟩)
theorem GV{α β:Type}(f:α→β→Sem (ForInStep β))(P:Nat→β):∀(l:List α) (n:Nat) {p:β},p=P n→(∀i,n≤i→i<n+l.length→∀x,f x (P i)=pure (.yield (P (i+1))))→forIn l p f=pure (P (n+l.length))
 | [],n,p,hp,_=>by subst hp;simp
 | a::l,n,p,hp,h=>by
  subst hp
  rw[List.forIn_cons,h n (Nat.le_refl _) (by simp) a,pure_bind]
  simp only
  rw[GV f P l (n+1) rfl (fun i h1 h2 x=>h i (by lia) (by simp only[List.length_cons];lia) x)]
  simp only[List.length_cons]
  rw[show n+1+l.length=n+(l.length+1) by lia]
theorem KA{β:Type}{n:Nat}{f:Nat→β→Sem (ForInStep β)}(P:Nat→β){p:β}(hp:p=P 0)(h:∀i,i<n→∀x,f x (P i)=pure (.yield (P (i+1)))):forIn ([0:n]:Std.Legacy.Range) p f=pure (P n):=by
 rw[Std.Legacy.Range.forIn_eq_forIn_range']
 have e:(List.range' 0 (Std.Legacy.Range.size [0:n]) 1).length=n:=by simp[Std.Legacy.Range.size]
 have:=GV f P (List.range' 0 (Std.Legacy.Range.size [0:n]) 1) 0 hp
 rw[e,Nat.zero_add]at this
 exact this fun i _ hi=>h i hi
open Builtin in
theorem Pz{id:String}{b:Array UInt8}(h:b.size≤sizeLine) :
  _codecs.runDecoder id _codecs.latin1Decoder none true b 0 []=pure (b.map UInt8.toNat,b.size):=by
 unfold _codecs.runDecoder
 refine Eq.trans (congrArg (· >>= _) (KA (fun i=>(i,(b.extract 0 i).map UInt8.toNat,{held:=[]})) (by simp) fun i hi x=>?_)) ?_
 ·have hs:((b.extract 0 i).map UInt8.toNat).size=i:=by simp;lia
  refine(if_neg (by rw[hs];lia)).trans ((if_neg (by lia)).trans ?_)
  show pure (ForInStep.yield (i+1,(b.extract 0 i).map UInt8.toNat++#[(b.getD i 0).toNat],_))=_
  congr 3
  congr 1
  apply Array.ext'
  simp only[Array.toList_append,Array.toList_map,Array.toList_extract,List.extract_eq_take_drop,List.drop_zero,Nat.sub_zero]
  rw[List.take_add_one]
  simp[hi,Array.getD]
 ·rw[pure_bind]
  simp
namespace Dc
open Builtin
variable{b:Array UInt8}{t:Tok}
theorem JU{id:String}:_codecs.decodeRoad id b BP none []=(_codecs.runDecoder id _codecs.latin1Decoder none true b 0 [] >>= fun r=>mkStr ⟨r.1⟩):=by kernel_rfl
theorem Hv{c:UInt8}{cs:List UInt8}{t1:Tok}:«bytes.decode» ⟨[.bytes (c::cs).toArray t,.str BP t1],[]⟩=(mkStr (qS "utf-8") >>= fun _=>mkStr BP >>= fun e=>mkStr (qS "bytes.decode") >>= fun d=>
  call (.builtin "_codecs.decode.text") [.bytes (c::cs).toArray t,e,.none,d] >>= fun v=>ret v):=by kernel_rfl
theorem QA{t1:Tok}:«bytes.decode» ⟨[.bytes #[] t,.str BP t1],[]⟩=(do rule "bytes.decode.empty";retStr PySem.Str.empty):=by kernel_rfl
theorem args_2(a c:Value):argsOk "bytes.decode" ⟨[a,c],[]⟩:=by
 unfold argsOk;rw[signature?_of (id := "bytes.decode") (n:=['e','d','o','c','e','d']) (o:=['s','e','t','y','b']) (by kernel_rfl) FB.owner_bytes];kernel_rfl
theorem NJ{t1 t2:Tok}{d:PySem.Str} :
  Meets («_codecs.decode.text» ⟨[.bytes b t,.str BP t1,.none,.str d t2],[]⟩) (fun _ R s=>b.size≤sizeLine∧R (.ok (.ret (.str ⟨b.map UInt8.toNat⟩ s.toks))) {s with toks:=s.toks+1}):=by
 refine .of_wp fun prog w A R s hS=>?_
 obtain⟨hsz,h⟩:=hS
 show wpAny _ _ (Bytes.bytesLike _ (.bytes b t) >>= fun r=>_) _ _ s
 refine wpAny_bind (wpAny_of_eq KBd.like_eq ?_)
 refine wpAny_bind (wpAny_of_eq KBd.held_eq ?_)
 show wpAny _ _ (_codecs.decodeRoad _ b BP none [] >>= fun v=>_) _ _ s
 rw[JU,Pz hsz]
 refine wpAny_bind (wpAny_bind (wpAny_pure ?_))
 exact wpAny_mkStr (wpAny_pure ⟨_,rfl,h⟩) (by simpa [PySem.Str.length] using hsz)
theorem Jy{c:UInt8}{cs:List UInt8}{t1:Tok} :
  Meets («bytes.decode» ⟨[.bytes (c::cs).toArray t,.str BP t1],[]⟩) (fun _ R s=>(c::cs).toArray.size≤sizeLine∧∀t' k,R (.ok (.ret (.str ⟨(c::cs).toArray.map UInt8.toNat⟩ t'))) {s with toks:=k}):=by
 refine .of_wp fun prog w A R s hS=>?_
 obtain⟨hsz,h⟩:=hS
 rw[Hv]
 refine wpAny_bind (wpAny_mkStr ?_ (by decide))
 refine wpAny_bind (wpAny_mkStr ?_ (by decide))
 refine wpAny_bind (wpAny_mkStr ?_ (by decide))
 exact wpAny_bind (call_function_meets KBd.kind_text KBd.plain_text KBd.entry_text (KBd.args_text _ _ _ _) NJ ⟨hsz,wpAny_pure ⟨_,rfl,h _ _⟩⟩)
theorem PC{t1:Tok}:Gives («bytes.decode» ⟨[.bytes #[] t,.str BP t1],[]⟩) (.str PySem.Str.empty):=by
 rw[QA]
 exact .rule (.of_eq rfl)
section
variable{prog:Program}{w:World}{A:Around}{E:Value→Shared→Prop}{s:Shared}
theorem decode{Q:Value→Shared→Prop}{t1:Tok}(hsz:b.size≤sizeLine)(h:∀t' k,Q (.str ⟨b.map UInt8.toNat⟩ t') {s with toks:=k}) :
  wpAny (model prog w) A (call (.builtin "bytes.decode") [.bytes b t,.str BP t1]) Q E s:=by
 obtain⟨l⟩:=b
 cases l with
 | nil=>exact call_gives FB.slot_bytes_decode (typeIs_bytes _ _ _) FB.entry_bytes_decode (args_2 _ _) PC ⟨by decide,by have:=h s.toks (s.toks+1);simp only[List.map_toArray,List.map_nil]at this;exact this⟩
 | cons c cs=>exact call_meets FB.slot_bytes_decode (typeIs_bytes _ _ _) FB.entry_bytes_decode (args_2 _ _) Jy ⟨hsz,h⟩
end
end Dc
namespace En
open Builtin
theorem Pf{α β:Type}{f:α→β→Sem (ForInStep β)}{p q:β}(h0:∀a,f a p=pure (.yield q))(h1:∀a,f a q=pure (.done q)):∀l:List α,l≠[]→forIn l p f=pure q
 | [],h=>absurd rfl h
 | [a],_=>by rw[List.forIn_cons,h0,pure_bind];simp
 | a::b::l,_=>by rw[List.forIn_cons,h0,pure_bind];simp only;rw[List.forIn_cons,h1,pure_bind]
theorem NO{β:Type}{n:Nat}{f:Nat→β→Sem (ForInStep β)}{p q:β}(hn:¬n=0)(h0:∀a,f a p=pure (.yield q))(h1:∀a,f a q=pure (.done q)):forIn ([0:n]:Std.Legacy.Range) p f=pure q:=by
 rw[Std.Legacy.Range.forIn_eq_forIn_range']
 exact Pf h0 h1 _ fun e=>hn (by have:=congrArg List.length e;simpa [Std.Legacy.Range.size] using this)
variable{x:PySem.Str}{t:Tok}
theorem iK{id:String}{self:Value}(hsz:x.cps.size≤sizeLine)(h:x.cps.all (fun c=>decide (c<256))=true) :
  _codecs.encodeNarrow id _codecs.latin1Codec none self x=pure (x.cps.map Nat.toUInt8):=by
 have hb:∀i c,x.cps[i]?=some c→_codecs.latin1Codec.bad c=false:=fun i c e=>by
  have:=Array.all_eq_true.mp h
  obtain⟨hi,e⟩:=Array.getElem?_eq_some_iff.mp e
  have:=this i hi
  rw[e]at this
  show decide (c≥256)=false
  simp only[decide_eq_true_eq]at this
  exact decide_eq_false (by lia)
 have hf:x.cps.findIdx? _codecs.latin1Codec.bad=none:=by
  rw[Array.findIdx?_eq_none_iff]
  intro c hc
  obtain⟨i,hi,e⟩:=Array.mem_iff_getElem.mp hc
  exact hb i c (by rw[←e];exact Array.getElem?_eq_getElem hi)
 have hfold:x.cps.foldl (fun acc y=>acc++(_codecs.latin1Codec.bytesOf y).toArray) #[]=x.cps.map Nat.toUInt8:=by
  show x.cps.foldl (fun acc y=>acc++#[y.toUInt8]) #[]=_
  obtain⟨l⟩:=x.cps
  have:∀(l:List Nat) (acc:Array UInt8),l.foldl (fun acc y=>acc++#[y.toUInt8]) acc=acc++(l.map Nat.toUInt8).toArray:=by
   intro l
   induction l with
   | nil=>intro acc;simp
   | cons a l ih=>intro acc;simp
  simp
 by_cases hn:x.cps.size=0
 ·have hx:x=⟨#[]⟩:=congrArg Str.mk (Array.eq_empty_of_size_eq_zero hn)
  rw[hx];kernel_rfl
 ·obtain⟨c,hc⟩:∃c,x.cps[0]?=some c:=⟨_,Array.getElem?_eq_getElem (by lia)⟩
  unfold _codecs.encodeNarrow
  refine Eq.trans (congrArg (· >>= _) (NO (q:=(x.cps.size,x.cps.map Nat.toUInt8,{})) hn (fun a=>?_) fun a=>?_)) (pure_bind _ _)
  ·refine(if_neg (by simp)).trans ?_
   dsimp only
   rw[hc]
   refine(if_pos (congrArg not (hb 0 c hc))).trans ?_
   congr 2
   rw[Array.extract_size,hf]
   simp only[Option.getD_none]
   rw[Array.extract_size,hfold,Nat.zero_add]
  ·refine(if_neg (by simp;lia)).trans ?_
   dsimp only
   rw[show x.cps[x.cps.size]?=none by simp]
theorem JU{id:String}{self:Value}:_codecs.encodeRoad id self x BP none=(_codecs.encodeNarrow id _codecs.latin1Codec none self x >>= fun r=>mkBytes r):=by kernel_rfl
theorem Hv{t1:Tok}:«str.encode» ⟨[.str x t,.str BP t1],[]⟩=(_codecs.encodeRoad "str.encode" (.str x t) x BP none >>= fun v=>ret v):=by kernel_rfl
theorem meets{t1:Tok}(h:x.cps.all (fun c=>decide (c<256))=true) :
  Meets («str.encode» ⟨[.str x t,.str BP t1],[]⟩) (fun _ R s=>x.cps.size≤sizeLine∧∀t' k,R (.ok (.ret (.bytes (x.cps.map Nat.toUInt8) t'))) {s with toks:=k}):=by
 refine .of_wp fun prog w A R s hS=>?_
 obtain⟨hsz,k⟩:=hS
 rw[Hv,JU,iK hsz h,pure_bind]
 exact wpAny_bind (wpAny_mkBytes (wpAny_pure ⟨_,rfl,k _ _⟩) (by simpa using hsz))
theorem encode{prog:Program}{w:World}{A:Around}{E:Value→Shared→Prop}{s:Shared}{Q:Value→Shared→Prop}{t1:Tok}(hsz:x.cps.size≤sizeLine)(h:x.cps.all (fun c=>decide (c<256))=true)
  (k:∀t' k,Q (.bytes (x.cps.map Nat.toUInt8) t') {s with toks:=k}):wpAny (model prog w) A (call (.builtin "str.encode") [.str x t,.str BP t1]) Q E s:=
 call_meets F.slot_str_encode (typeIs_str _ _ _) F.entry_str_encode (F.args_str_encode_2 _ _) (meets h) ⟨hsz,k⟩
end En
section
variable{prog:Program}{w:World}{A:Around}{E:Value→Shared→Prop}{s:Shared}{Q:Value→Shared→Prop}
theorem NX{x y:Str}{i j:Int}{t u v v':Tok}(hq:Q (.int (match occurrences x y (fromIndex x.length i) (min (fromIndex x.length j) x.length) 1 with | k::_=>(k:Int) | []=>-1) s.toks) {s with toks:=s.toks+1}):wpAny (model prog w) A (call (.builtin "str.find") [.str x t,.str y u,.int i v,.int j v']) Q E s:=
 call_gives F.slot_str_find (typeIs_str _ _ _) F.entry_str_find (F.args_str_find_4 _ _ _ _) (LU x y i j t u v v') hq
theorem Eb{x y z:Str}{t u v:Tok}(h:(occurrences x y 0 x.length (x.length+1)).isEmpty=true)(hq:Q (.str x t) s):wpAny (model prog w) A (call (.builtin "str.replace") [.str x t,.str y u,.str z v]) Q E s:=
 call_gives F.slot_str_replace (typeIs_str _ _ _) F.entry_str_replace (F.args_str_replace_3 _ _ _) (Hq x y z t u v h) hq
end
section
variable{B:AV}{A:Around}{E:Value→Shared→Prop}{ω:Wd}{σ:St}{s:Shared}
theorem Du:Slot "bytes" "join" "bytes.join":=
 .of (owner := "bytes") (n := "join") (by rw[typeLookup_type,builtinLookup_eq_fast];kernel_rfl) (by decide +kernel) (by decide +kernel) (by decide +kernel)
  (by first|exact .inl (by decide +kernel) | exact .inr (by decide +kernel)) (by rw[isSubtype_type];kernel_rfl)
theorem Gf:typeOf (.builtin "bytes.join")=pure (.type "method_descriptor"):=by show builtinType _=_;rw[builtinType_eq_fast];kernel_rfl
def OG(m:MT)(p:PV)(v:Value)(s:Shared):Prop:=
 ∃T,PlainAttrs T∧Slot T (Jw m) (Kk m p)∧typeOf (.builtin (Kk m p))=pure (.type "method_descriptor")∧s.TypeIs v T∧(∀a,v=.ref a→∃ob,s.heap.get? a=some ob∧ob.dict=none)
theorem jF{m:MT}{x:Str}{t:Tok}(h:X3 m=true):OG m (.str x) (.str x t) s:=by
 have S:s.TypeIs (.str x t) "str" ∧ ∀a,(Value.str x t)=.ref a→∃ob,s.heap.get? a=some ob∧ob.dict=none:=⟨typeIs_str _ _ _,fun _ q=>nomatch q⟩
 cases m<;>first|exact absurd h (by decide) | skip
 ·exact⟨"str",F.plainAttrs_str,F.slot_str_join,F.type_str_join,S⟩
 ·exact⟨"str",F.plainAttrs_str,F.slot_str_find,F.type_str_find,S⟩
 ·exact⟨"str",F.plainAttrs_str,F.slot_str_replace,F.type_str_replace,S⟩
 ·exact⟨"str",F.plainAttrs_str,F.slot_str_encode,F.type_str_encode,S⟩
theorem fP{m:MT}{x:Array UInt8}{t:Tok}(h:V0 m=true):OG m (.byt x) (.bytes x t) s:=by
 have S:s.TypeIs (.bytes x t) "bytes" ∧ ∀a,(Value.bytes x t)=.ref a→∃ob,s.heap.get? a=some ob∧ob.dict=none:=⟨typeIs_bytes _ _ _,fun _ q=>nomatch q⟩
 cases m<;>first|exact absurd h (by decide) | skip
 ·exact⟨"bytes",FB.plainAttrs_bytes,Du,Gf,S⟩
 ·exact⟨"bytes",FB.plainAttrs_bytes,FB.slot_bytes_decode,FB.type_bytes_decode,S⟩
theorem cE{m:MT}{n:Nat}{a:Addr}{o:Obj}(h:V4 m=true)(ho:s.heap.get? a=some o)(c:LC o):OG m (.loc n) (.ref a) s:=by
 have S:s.TypeIs (.ref a) "list" ∧ ∀b,(Value.ref a)=.ref b→∃ob,s.heap.get? b=some ob∧ob.dict=none:=⟨⟨o,ho,c.1⟩,fun b q=>⟨o,Value.ref.inj q▸ho,c.2.1⟩⟩
 cases m<;>first|exact absurd h (by decide) | skip
 ·exact⟨"list",F.plainAttrs_list,slot_list_append,type_list_append,S⟩
 ·exact⟨"list",F.plainAttrs_list,F.slot_list_extend,F.type_list_extend,S⟩
 ·exact⟨"list",F.plainAttrs_list,F.slot_list_pop,F.type_list_pop,S⟩
theorem WV{m:MT}{p:PV}{v:Value}{u:Unit}(I:AL B ω σ s)(x:VR B.C ω s.heap p v)(e:Pu m p σ=some u):OG m p v s:=
 Ah e (fun e=>AB e fun y e1 e=>AJ e fun h _=>by rw[Jd e1]at x ⊢;exact x.str_el fun t=>jF h)
  fun e=>Ah e (fun e=>AB e fun y e1 e=>AJ e fun h _=>by rw[NN e1]at x ⊢;exact x.byt_el fun t=>fP h)
  fun e=>AB e fun n e1 e=>AB e fun l e2 e=>AJ e fun h _=>by rw[DJ e1]at x ⊢;exact Dj I x e2 fun a o _ _ _ ho c _ _=>cE h ho c
open AutoSeq1 in
theorem UN(l:Addr)(items:Array Value)(n:Nat)(b:Addr)(items2:Array Value)(n2:Nat)(dd:Option Addr)(sl:Array (Option Value))(hc0:¬(!items.isEmpty&&Builtin.List.listTooLong (items.size+items2.size))=true)(hc1:items.size≤sizeLine)(hs2:items.size+items2.size≤sizeLine+1) :
  Meets (Builtin.«list.extend» ⟨[.ref l,.ref b],[]⟩) (fun _ R s=>s.heap.get? l=some {cls:=.type "list",dict:=none,data:=.seq items n,slots:=#[]}∧s.heap.get? b=some {cls:=.type "list",dict:=dd,data:=.seq items2 n2,slots:=sl}∧R (.ok (.ret Value.none)) {s with heap:=s.heap.update l (Obj.mapSeq fun x=>x++items2),toks:=s.toks}):=
 .of_wp fun prog w A R s h=>by
  obtain⟨hp,g,d,tk,os⟩:=s;obtain⟨hl,hb,h⟩:=h;have f1:=AutoSeq1.idx_int;have f2:=AutoSeq1.sub_tuple_tuple;have f3:=AutoSeq1.sub_list_list;have f4:=AutoSeq1.sub_tuple_list;have f5:=AutoSeq1.sub_list_tuple;
  have hz':(items++items2).size≤sizeLine+1:=by rw[Array.size_append];exact hs2
  wp_walk using (wpAny_updateSeq hl rfl (hz:=hc1) (_hz':=hz')),wpAny_loadPart' hl,wpAny_loadPart' hb;exact⟨_,rfl,h⟩
theorem QE{a b:Addr}{o:Obj}{ws ws2:Array Value}{kk n2:Nat}{Q:Value→Shared→Prop}(hL:IsL s.heap a ws kk)(hb:s.heap.get? b=some o)(c:o.cls=.type "list")(d:o.data=.seq ws2 n2)(hsz:ws.size+ws2.size≤sizeLine)
  (k:Q .none {s with heap:=s.heap.update a (Obj.mapSeq fun z=>z++ws2)}):wpAny (model B.prog B.w) A (call (.builtin "list.extend") [.ref a,.ref b]) Q E s:=by
 obtain⟨cls,dd,data,sl⟩:=o
 cases c;cases d
 exact call_meets F.slot_list_extend ⟨_,hL,rfl⟩ F.entry_list_extend (F.args_list_extend_2 _ _) (UN a ws kk b ws2 n2 _ _ (extend_door hsz) (Nat.le_trans (Nat.le_add_right _ _) hsz) (Nat.le_succ_of_le hsz)) ⟨hL,hb,k⟩
section
variable{Q:Value→Shared→Prop}{σ':St}{r:PV}{ps:List PV}{vs:List Value}
abbrev KM(B:AV)(ω:Wd)(s:Shared)(σ':St)(r:PV)(Q:Value→Shared→Prop):Prop:=
 ∀v' h' tk,Gw ω [] s.heap ω h'→AL B ω σ' {s with heap:=h',toks:=tk}→VR B.C ω h' r v'→Q v' {s with heap:=h',toks:=tk}
theorem KM.kk(I:AL B ω σ s)(k:KM B ω s σ r Q):KK B ω s r Q:=fun v h' tk hk x=>k v h' tk (.of_keep hk) (I.keep hk) x
theorem KM.set{n n':Nat}{l':List PV}{a:Addr}{v:Value}{h':Heap}{vs':Array Value}(I:AL B ω σ s)(hi:ω.mu[n]?=some a)(k:KM B ω s (σ.set n (.lst l')) r Q)(hs:Heap.SameBut a s.heap h')(hL:IsL h' a vs' n')
  (x:VRs B.C ω s.heap l' vs'.toList) (y:VR B.C ω s.heap r v):Q v {s with heap:=h'}:=
 have hm:=List.mem_of_getElem? hi
 k v h' s.toks (.of_ext (.inl hm) hs.extBut ⟨_,hL⟩) (I.set hi hs.extBut ⟨_,_,_,hL,MF,rfl,x.carry (.of_mu hm hs.extBut)⟩) (y.carry (.of_mu hm hs.extBut))
theorem PG{n n':Nat}{l:List PV}{q:PV}{a:Addr}{w:Value}{ws:Array Value}(I:AL B ω σ s)(hi:ω.mu[n]?=some a)(hL:IsL s.heap a ws n')(x:VRs B.C ω s.heap l ws.toList)(y:VR B.C ω s.heap q w)(h:decide (l.length≤BM)=true)
  (k:KM B ω s (σ.set n (.lst (l++[q]))) .none Q):wpAny (model B.prog B.w) A (call (.builtin "list.append") [.ref a,w]) Q E s:=
 wpAny_list_append_plain ⟨n',hL⟩ (fun h' hp' hs'=>hp'.elim fun k' hk'=>k.set I hi hs' hk' (by rw[Array.toList_push];exact x.append (.one y)) .none_in) (by rw[x.size];exact Aa h)
theorem Ts{ws:Array Value}{m:Nat}(h:ws.size=m+1):(ws.eraseIdxIfInBounds (ws.size-1)).toList=ws.toList.take m:=by
 unfold Array.eraseIdxIfInBounds
 rw[dif_pos (by omega),Array.toList_eraseIdx,h,List.eraseIdx_eq_take_drop_succ,List.drop_of_length_le (by simp;lia),List.append_nil]
 rfl
theorem gU{n n':Nat}{l:List PV}{q:PV}{a:Addr}{ws:Array Value}(I:AL B ω σ s)(hi:ω.mu[n]?=some a)(hL:IsL s.heap a ws n')(x:VRs B.C ω s.heap l ws.toList)(hq:l.getLast?=some q)(h:decide (l.length≤BM)=true)
  (k:KM B ω s (σ.set n (.lst l.dropLast)) q Q):wpAny (model B.prog B.w) A (call (.builtin "list.pop") [.ref a]) Q E s:=by
 have hq':l[l.length-1]?=some q:=by rw[←List.getLast?_eq_getElem?];exact hq
 have hl0:=(List.getElem?_eq_some_iff.mp hq').1
 refine(x.get hq').elim fun u hu=>call_meets F.slot_list_pop ⟨_,hL,rfl⟩ F.entry_list_pop (F.args_list_pop_1 _) (MeetsSeq.list_pop_last a ws n' u (by rw[x.size];simpa using hu.1) (by rw[x.size];exact Aa h)) ⟨hL,?_⟩
 refine k.set I hi (Heap.SameBut.update ..) (IsL.update hL (fun xs=>xs.eraseIdxIfInBounds (ws.size-1))) ?_ hu.2
 rw[Ts (m:=l.length-1) (by rw[x.size];lia),List.dropLast_eq_take]
 exact x.take _
theorem cR{m:MT}{n n':Nat}{l:List PV}{x:PV×List PV}{a:Addr}{ws:Array Value}{p:PV}(hp:p=.loc n)(I:AL B ω σ s)(hi:ω.mu[n]?=some a)(hL:IsL s.heap a ws n')(y:VRs B.C ω s.heap l ws.toList)(xs:VRs B.C ω s.heap ps vs)(e:Y9 m l ps=some x)
  (k:KM B ω s (σ.set n (.lst x.2)) x.1 Q):wpAny (model B.prog B.w) A (call (.builtin (Kk m p)) (.ref a::vs)) Q E s:=by
 cases m<;>first|exact nn e | skip
 ·exact AB e fun q e1 e=>AJ e fun h e=>xs.one_vr e1 fun w z=>PG I hi hL y z h (AP (P:=fun x=>KM B ω s (σ.set n (.lst x.2)) x.1 Q→KM B ω s (σ.set n (.lst (l++[q]))) .none Q) e id k)
 ·refine AB e fun q e1 e=>AB e fun l2 e2 e=>AJ e fun h e=>AF h fun h1 h2=>xs.one_vr e1 fun w z=>VR.lst_el (P:=fun w=>wpAny _ A (call (.builtin "list.extend") [.ref a,w]) Q E s) (Qd e2▸z) fun b o ws2 n2 f c d r2=>
   QE hL f.2.2.1 c d (by have:=An h1;have:=An h2;rw[sizeLine_eq,y.size,r2.size];simp only[BM]at *;lia) ?_
  have k':=AP (P:=fun x=>KM B ω s (σ.set n (.lst x.2)) x.1 Q→KM B ω s (σ.set n (.lst (l++l2))) .none Q) e id k
  exact k'.set I hi (Heap.SameBut.update ..) (IsL.update hL (fun z=>z++ws2)) (by rw[Array.toList_append];exact y.append r2) .none_in
 ·exact AB e fun _ e1 e=>AB e fun q e2 e=>AJ e fun h e=>xs.nil_vr e1 (gU I hi hL y e2 h (AP (P:=fun x=>KM B ω s (σ.set n (.lst x.2)) x.1 Q→KM B ω s (σ.set n (.lst l.dropLast)) q Q) e id k))
theorem VA(x z:Str){k:Int}(h:0≤k):Txt.find3 x z k=Gb x z k x.length:=by
 unfold Txt.find3
 rw[DN h]
 rfl
theorem iO{m:MT}{x:Str}{t:Tok}{p:PV}(hp:p=.str x)(I:AL B ω σ s)(xs:VRs B.C ω s.heap ps vs)(e:meS m x ps σ=some r)(k:KK B ω s r Q):wpAny (model B.prog B.w) A (call (.builtin (Kk m p)) (.str x t::vs)) Q E s:=by
 cases m<;>first|exact nn e | skip
 ·rw[hp]
  exact AB e fun q e1 e=>AB e fun l e2 e=>AB e fun ss e3 e=>AJ e fun h e=>AF h fun h1 h2=>xs.one_vr e1 fun w z=>BB I z e2 fun a o ws n ho c d r'=>
   join_listW (Bj ho c d) (r'.strs e3) (An h1) (Nat.le_trans (An h2) (by decide)) fun t' tk=>by rw[show Txt.join x ss=Str.join x ss from StrLaws.glued_eq_join x ss];exact k.str e _ _
 ·exact Ah e (fun e=>AB e fun y e1 e=>AB e fun z e2 e=>AB e fun i e3 e=>AJ e fun h e=>CY h fun h1 h2 _=>xs.two_vr (i:=y.1) (j:=y.2) e1 fun w1 w2 y1 y2=>
   y1.str_vr e2 fun t1=>y2.int_vr e3 fun t2=>SC.find3 (by rw[VA _ _ (An h2)];exact k.int e _ _))
   fun e=>AB e fun y e1 e=>AB e fun z e2 e=>xs.three_vr (i:=y.1) (j:=y.2.1) (u:=y.2.2) e1 fun w1 w2 w3 y1 y2 y3=>y1.str_vr e2 fun t1=>Bb (P2:=fun v w=>wpAny _ A (call (.builtin "str.find") [.str x t,.str z t1,v,w]) Q E s) y2 y3 e fun a b t2 t3 e=>AJ e fun h e=>DQ h fun h1 h2 _ h=>AF h fun h3 h4=>
    NX (by rw[DN (An h2),DN (An h3),Nat.min_eq_left (by have:=An h4;omega)];exact k.int e _ _)
 ·exact AB e fun y e1 e=>xs.two_vr (i:=y.1) (j:=y.2) e1 fun w1 w2 y1 y2=>EN y1 y2 e fun a b t1 t2 e=>AJ e fun h e=>AF h fun h1 h2=>Eb h2 (k.str e _ s.toks)
 ·exact AB e fun q e1 e=>AB e fun y e2 e=>AJ e fun h e=>AF h fun h1 h2=>xs.one_vr e1 fun w z=>z.str_vr e2 fun t1=>AF h2 fun h2 h3=>An h1▸En.encode (by rw[←Array.length_toList];exact Aa h3) (by rw[←Array.all_toList];exact h2) fun t' tk=>k.byt e _ _
theorem jE{m:MT}{x:Array UInt8}{t:Tok}{p:PV}(hp:p=.byt x)(I:AL B ω σ s)(xs:VRs B.C ω s.heap ps vs)(e:O5 m x ps σ=some r)(k:KK B ω s r Q):wpAny (model B.prog B.w) A (call (.builtin (Kk m p)) (.bytes x t::vs)) Q E s:=by
 cases m<;>first|exact nn e | skip
 ·rw[hp]
  refine AB e fun q e1 e=>AB e fun l e2 e=>AB e fun bs e3 e=>AJ e fun h e=>CY h fun h1 h h4=>AF h fun h2 h3=>xs.one_vr e1 fun w z=>BB I z e2 fun a o ws n ho c d r'=>
   (r'.byts e3).elim fun L q=>?_
  have hx:=Array.eq_empty_of_size_eq_zero (An h1)
  have hl:bs.length=L.length:=by rw[←q.2,List.length_map]
  rw[hl]at h2 h3
  have hws:ws=(L.map Jn.bv).toArray:=by rw[←q.1,Array.toArray_toList]
  rw[hx]
  refine call_meets Du (typeIs_bytes _ _ _) Jn.entry (Jn.args_2 _ _) (Jn.meets (l:=L) (An h2) (Aa h3) (by rw[q.2];exact Aa h4)) ⟨⟨ho,c,hws▸d⟩,fun v tk hv=>hv.elim fun t' hv=>?_⟩
  rw[hv,q.2]
  exact k.byt e _ _
 ·exact AB e fun q e1 e=>AB e fun y e2 e=>AJ e fun h e=>AF h fun h1 h2=>xs.one_vr e1 fun w z=>z.str_vr e2 fun t1=>An h1▸Dc.decode (Aa h2) fun t' tk=>k.str e _ _
theorem UU{m:MT}{p:PV}{v:Value}(I:AL B ω σ s)(x:VR B.C ω s.heap p v)(xs:VRs B.C ω s.heap ps vs)(e:MO m p ps σ=some (r,σ'))(k:KM B ω s σ' r Q) :
  wpAny (model B.prog B.w) A (call (.builtin (Kk m p)) (v::vs)) Q E s:=
 Ah e (fun e=>AB e fun y e1 e=>x.str_vr e1 fun t=>Ng (P:=fun σ'=>KM B ω s σ' r Q→_) e (fun e k=>iO (Jd e1) I xs e (k.kk I)) k)
  fun e=>Ah e (fun e=>AB e fun y e1 e=>x.byt_vr e1 fun t=>Ng (P:=fun σ'=>KM B ω s σ' r Q→_) e (fun e k=>jE (NN e1) I xs e (k.kk I)) k)
  fun e=>AB e fun n e1 e=>AB e fun l e2 e=>AB e fun y e3 e=>Dj (P:=fun v=>wpAny (model B.prog B.w) A (call (.builtin (Kk m p)) (v::vs)) Q E s) I (DJ e1▸x) e2 fun a o ws n' hi ho c d r'=>
   cR (DJ e1) I hi (Hb ho c d) r' xs e3 (BF (P:=fun r σ'=>KM B ω s σ' r Q→KM B ω s (σ.set n (.lst y.2)) y.1 Q) e id k)
end
end
end Sh
namespace Sh
open PySem PySem.Calls PyProof.Rows PySem.W PySem.Spec
noncomputable def lA(A:Around)(ω:Wd)(h:Heap)(l:List Env):Prop:=
 A.frames=some l∧∀e∈l,e.scope.kind≠.module∧∃L f,e.frame=some L∧L∈ω.ex∧h.Ns L f
structure B9(B:AV)(ω:Wd)(l:List Env)(x:Str)(a t:Addr)(tk:Tok)(hr base h:Heap):Prop where
 kp:∀b o,hr.get? b=some o→(B.h₀.get? b=none∧EA o∧b∉ω.mu)∨base.get? b=some o
 up:hr.UpToSlots h
 fly:Heap.FlyingW base l a (.type "ValueError") (.ref t) h
 tn:base.get? t=none
 tup:h.TupAt t [.str x tk]
abbrev KX(B:AV)(ω:Wd)(h:Heap)(σ':St)(l:List Env)(x:Str)(E:Value→Shared→Prop):Prop:=
 ∀a t tk hr base ω' s',Gw ω [] h ω' hr→AL B ω' σ' {s' with heap:=hr}→B9 B ω' l x a t tk hr base s'.heap→E (.ref a) s'
abbrev KV(B:AV)(ω:Wd)(h:Heap)(σ':St)(p:PV)(Q:Value→Shared→Prop):Prop:=
 ∀v ω' s',Gw ω [] h ω' s'.heap→AL B ω' σ' s'→VR B.C ω' s'.heap p v→Q v s'
def iR(B:AV)(ω:Wd)(h:Heap)(σ':St)(l:List Env)(o:Oi)(Q E:Value→Shared→Prop):Prop:=match o with
 | .val p=>KV B ω h σ' p Q
 | .exc x=>KX B ω h σ' l x E
def D3(B:AV)(v:Value):Prop:=∃a o fd,v=.ref a∧B.h₀.get? a=some o∧o.cls≠.none∧o.data=.func fd
def MP(B:AV)(lv:Nat)(v:Value)(sp:Spec):Prop:=
 D3 B v∧∀A,Rm lv A→∀ω σ s Q E ps vs out σ' l,lA A ω s.heap l→AL B ω σ s→VRs B.C ω s.heap ps vs→sp ps σ=some (out,σ') →
  iR B ω s.heap σ' l out Q E→wpAny (model B.prog B.w) A (call v vs) Q E s
theorem Rm.less{lv lv':Nat}{A:Around}(R:Rm lv A)(h:lv'≤lv):Rm lv' A:=⟨R.hh,by have:=R.depth;lia,by have:=R.units;lia⟩
theorem Rm.u64{lv:Nat}{A:Around}(R:Rm lv A):A.units+64<cLine:=by have:=R.units;show A.units+64<9900;lia
theorem MP.more{B:AV}{lv lv':Nat}{v:Value}{sp:Spec}(h:MP B lv v sp)(hl:lv≤lv'):MP B lv' v sp:=
 ⟨h.1,fun A R=>h.2 A (R.less hl)⟩
def Dt(B:AV)(lv:Nat)(T:Nat→Option Str)(Φ:Nat→Option Spec):Prop:=
 ∀f n sp,T f=some n→Φ f=some sp→∃v,B.mg n=some v∧MP B lv v sp
noncomputable def Gy:List Str:=["len","range","sorted","max","bytes","sum","list","str","object","isinstance","ValueError"]
def Eh(B:AV):Prop:=∀x∈Gy,B.mg x=none
theorem FR.frs{c:Cx}{ω:Wd}{h:Heap}{m:Fm}(F:FR c ω h m):∃l,lA c.A ω h l:=F.ff
noncomputable def GM(Γ:Sc)(x:Str):Bool:=Γ.names.lookup x==some .globalImplicit&&!(x==("__debug__" : Str))
section
variable{c:Cx}{ω:Wd}{σ:St}{s:Shared}{m:Fm}{E:Value→Shared→Prop}{Q:Value→Shared→Prop}{x:Str}{v:Value}{pos:Pos}
theorem Qk{Γ:Sc}{G:Prop}(hx:GM Γ x=true)(k:Γ.names.lookup x=some .globalImplicit→(x==("__debug__" : Str))=false→G):G:=AF hx fun h1 h2=>k (beq_iff_eq.mp h1) ((Bool.not_eq_true' _).mp h2)
theorem Jp(F:FR c ω s.heap m)(I:AL c.B ω σ s)(hx:GM c.Γ x=true)(hv:c.B.mg x=some v)(k:Q v s):wpAny (model c.B.prog c.B.w) c.A (eval (.Name x pos) c.env) Q E s:=
 Qk hx fun h1 h2=>Name_function_global F.kind (by rw[F.kindOf];exact h1) (loadGlobal_global (mg:=c.B.mg) (by rw[F.glob];exact I.gns) hv k) h2
theorem Ep(F:FR c ω s.heap m)(I:AL c.B ω σ s)(hx:GM c.Γ x=true)(hg:c.B.mg x=none)(hn:x ≠ "__name__")(hv:bootBuiltins x=some v)(k:Q v s):wpAny (model c.B.prog c.B.w) c.A (eval (.Name x pos) c.env) Q E s:=
 Qk hx fun h1 h2=>Name_function_global F.kind (by rw[F.kindOf];exact h1) (loadGlobal_builtin (mg:=c.B.mg) (mb:=c.B.mb) (by rw[F.glob];exact I.gns) hg (by rw[F.blt];exact I.bns) ((I.bok.blt x hn).trans hv) k) h2
end
abbrev KE(c:Cx)(ω:Wd)(s:Shared)(σ':St)(p:PV)(Q:Value→Shared→Prop):Prop:=KV c.B ω s.heap σ' p Q
section
variable{c:Cx}{ω ω₁:Wd}{σ σ':St}{s s₁:Shared}{p:PV}{v:Value}{Q:Value→Shared→Prop}
theorem KE.gw(kk:KE c ω s σ' p Q)(G:Gw ω [] s.heap ω₁ s₁.heap):KE c ω₁ s₁ σ' p Q:=fun v ω' s' G' I' x=>kk v ω' s' (G.trans G') I' x
theorem KE.kk(kk:KE c ω s σ p Q)(I:AL c.B ω σ s):KK c.B ω s p Q:=fun v h' tk hk x=>kk v ω _ (.of_keep hk) (I.keep hk) x
theorem KE.km(kk:KE c ω s σ' p Q):KM c.B ω s σ' p Q:=fun v h' tk G I x=>kk v ω _ G I x
theorem KE.tk(kk:KE c ω s σ p Q)(I:AL c.B ω σ s)(x:VR c.B.C ω s.heap p v)(tk:Tok):Q v {s with toks:=tk}:=kk v ω _ (.refl _ _ _) I.toks x
theorem KE.here(kk:KE c ω s σ p Q)(I:AL c.B ω σ s)(x:VR c.B.C ω s.heap p v):Q v s:=kk v ω s (.refl _ _ _) I x
end
section
variable{c:Cx}{Φ:Nat→Option Spec}
def Iw(c:Cx)(Φ:Nat→Option Spec)(e:Expr)(x:X):Prop:=ST c e fun m σ=>sq (ev Φ x m σ) fun p σ=>bd (AT σ p) fun b=>some (b,σ)
theorem Iw.run{e:Expr}{x:X}(h:Iw c Φ e x){ω:Wd}{m:Fm}{σ σ':St}{s:Shared}{Q:Bool→Shared→Prop}{E:Value→Shared→Prop}{p:PV}{b:Bool}(F:FR c ω s.heap m)(I:AL c.B ω σ s)(e1:ev Φ x m σ=some (p,σ'))(e2:AT σ' p=some b)
  (k:∀ω' s',Gw ω [] s.heap ω' s'.heap→AL c.B ω' σ' s'→Q b s'):wpAny (model c.B.prog c.B.w) c.A (isTrue e c.env (eval e c.env)) Q E s:=
 h ω m σ s Q E b σ' F I (by show sq (ev Φ x m σ) _=_;rw[e1];show bd (AT σ' p) _=_;rw[e2];rfl) k
theorem Iw.of{e:Expr}{x:X} (h:∀ω m σ s (Q:Bool→Shared→Prop) E p b σ',FR c ω s.heap m→AL c.B ω σ s→ev Φ x m σ=some (p,σ')→AT σ' p=some b→(∀ω' s',Gw ω [] s.heap ω' s'.heap→AL c.B ω' σ' s'→Q b s') →
  wpAny (model c.B.prog c.B.w) c.A (isTrue e c.env (eval e c.env)) Q E s):Iw c Φ e x:=
 fun ω m σ s Q E b σ' F I e1 k=>AH e1 fun p σ₁ e1 e=>AB e fun b' e2 e=>BF (P:=fun b σ'=>(∀ω' s',Gw ω [] s.heap ω' s'.heap→AL c.B ω' σ' s'→Q b s')→_) e (h ω m σ s Q E p b' σ₁ F I e1 e2) k
theorem PU{e:Expr}{x:X}(h:SE c e (ev Φ x))(he:∀whole,isTrue e c.env whole=(do let v ←whole;standAt e.pos;holding [v] (truthy v))):Iw c Φ e x:=
 .of fun ω m σ s Q E p b σ' F I e2 e3 k=>wpAny_isTrue_value (h ω m σ s _ E p σ' F I e2 fun v ω' s' G I' r=>Fk I' r e3 fun tk=>k ω' _ (G.trans (.of_keep fun _ _ e=>e)) I'.toks) (he _)
theorem KE.lit{ω:Wd}{σ σ':St}{s:Shared}{p₀ p:PV}{Q:Value→Shared→Prop}(e:some (p₀,σ)=some (p,σ'))(kk:KE c ω s σ' p Q):KE c ω s σ p₀ Q:=BF (P:=fun p σ'=>KE c ω s σ' p Q→KE c ω s σ p₀ Q) e id kk
theorem KE.vl{ω:Wd}{σ₁ σ':St}{s:Shared}{p:PV}{o:Option PV}{Q:Value→Shared→Prop}{G:Prop}(e:Sh.vl o σ₁=some (p,σ'))(kk:KE c ω s σ' p Q)(k:o=some p→KE c ω s σ₁ p Q→G):G:=Ng (P:=fun σ'=>KE c ω s σ' p Q→G) e k kk
theorem UK{k pos}:SE c (.Constant .none k pos) (ev Φ .none):=fun ω m σ s Q E p σ' F I e kk=>wpAny_Constant_none ((KE.lit e kk).here I .none_in)
theorem UQ{b k pos}:SE c (.Constant (.bool b) k pos) (ev Φ (.bool b)):=fun ω m σ s Q E p σ' F I e kk=>wpAny_Constant_bool ((KE.lit e kk).here I .bool_in)
theorem fB{i k pos}:SE c (.Constant (.int i) k pos) (ev Φ (.int i)):=fun ω m σ s Q E p σ' F I e kk=>wpAny_Constant_int ((KE.lit e kk).tk I .int_in _)
theorem fG{x k pos}:SE c (.Constant (.str x) k pos) (ev Φ (.str x)):=fun ω m σ s Q E p σ' F I e kk=>wpAny_Constant_str ((KE.lit e kk).tk I .str_in _)
theorem fO{l k pos}:SE c (.Constant (.bytes l) k pos) (ev Φ (.byt l)):=fun ω m σ s Q E p σ' F I e kk _ _ _=>(KE.lit e kk).tk I .byt_in _
theorem G6{i:Nat}{x:Str}{pos:Pos}(hv:c.Γ.vis i x=true)(hk:c.Γ.names.lookup x=some .local∨c.Γ.names.lookup x=some .cell∨c.Γ.names.lookup x=some .free)
  (hx:(x==("__classdict__" : Str))=false) (hd:(x==("__debug__" : Str))=false):SE c (.Name x pos) (ev Φ (.v i)):=
 fun ω m σ s Q E p σ' F I e kk=>KE.vl e kk fun e kk=>AB e fun o e1 e=>wpAny_Name (Gl F hv hk (e1.trans (congrArg some e)) hx fun v r=>kk.here I r) hd
section
variable{ω:Wd}{m:Fm}{σ σ₁ σ₂:St}{s:Shared}{E:Value→Shared→Prop}{l r:Expr}{f g:zG}{p₁ p₂:PV}
theorem Mg(ha:SE c l f)(hb:SE c r g)(F:FR c ω s.heap m)(I:AL c.B ω σ s)(e₁:f m σ=some (p₁,σ₁))(e₂:g m σ₁=some (p₂,σ₂)){Q:Value→Value→Shared→Prop}
  (k:∀v w ω' s',Gw ω [] s.heap ω' s'.heap→AL c.B ω' σ₂ s'→VR c.B.C ω' s'.heap p₁ v→VR c.B.C ω' s'.heap p₂ w→Q v w s') :
  wpAny (model c.B.prog c.B.w) c.A (eval l c.env) (fun v s'=>wpAny (model c.B.prog c.B.w) c.A (eval r c.env) (fun w s''=>Q v w s'') E s') E s:=
 ha ω m σ s _ E _ _ F I e₁ fun v ω₁ s₁ G₁ I₁ x₁=>hb ω₁ m σ₁ s₁ _ E _ _ (F.gw G₁ I₁.apart) I₁ e₂ fun w ω₂ s₂ G₂ I₂ x₂=>k v w ω₂ s₂ (G₁.trans G₂) I₂ (x₁.gw G₂) x₂
end
section
variable{a b t:X}{l r te:Expr}{pos:Pos}
theorem gE{op:Operator}(ha:SE c l (ev Φ a))(hb:SE c r (ev Φ b)):SE c (.BinOp l op r pos) (ev Φ (.bin op a b)):=
 fun ω m σ s Q E p σ' F I e kk=>AH e fun p₁ σ₁ e₁ e=>AH e fun p₂ σ₂ e₂ e=>KE.vl e kk fun e kk=>
  wpAny_BinOp (Mg ha hb F I e₁ e₂ fun v w ω' s' G I x y=>gS I x y e ((kk.gw G).kk I))
theorem bG(ha:SE c l (ev Φ a)):SE c (.UnaryOp .USub l pos) (ev Φ (.neg a)):=
 fun ω m σ s Q E p σ' F I e kk=>AH e fun p₁ σ₁ e₁ e=>AB e fun i e₂ e=>
  wpAny_UnaryOp (ha ω m σ s _ E _ _ F I e₁ fun v ω₁ s₁ G₁ I₁ x₁=>x₁.int_vr e₂ fun t=>PyProof.Rows.neg_int (((KE.lit e kk).gw G₁).tk I₁ .int_in _))
theorem mD(ha:SE c l (ev Φ a)):SE c (.UnaryOp .Not l pos) (ev Φ (.no a)):=
 fun ω m σ s Q E p σ' F I e kk=>AH e fun p₁ σ₁ e₁ e=>AB e fun b e₂ e=>
  wpAny_UnaryOp (ha ω m σ s _ E _ _ F I e₁ fun v ω₁ s₁ G₁ I₁ x₁=>not_value (Fk I₁ x₁ e₂ fun tk=>((KE.lit e kk).gw G₁).tk I₁ .bool_in _))
theorem tb{b b':Bool}{σ:St}(e:AT σ (.bool b)=some b'):b=b':=so e
theorem yU(ha:Iw c Φ l a):Iw c Φ (.UnaryOp .Not l pos) (.no a):=
 .of fun ω m σ s Q E p b σ' F I e1 e2 k=>AH e1 fun p₁ σ₁ e₁ e=>AB e fun b' e₂ e=>wpAny_isTrue_Not (ha.run F I e₁ e₂ fun ω' s' G I'=>by
  refine BF (P:=fun p σ'=>AT σ' p=some b→(∀ω' s',Gw ω [] s.heap ω' s'.heap→AL c.B ω' σ' s'→Q b s')→_) e (fun e2 k=>?_) e2 k
  rw[tb e2]
  exact k ω' s' G I')
theorem bR{op:CmpOp}{lv:Nat}(R:Rm lv c.A)(ha:SE c l (ev Φ a))(hb:SE c r (ev Φ b))(hm:behindInMarks op r=false):SE c (.Compare l [op] [r] pos) (ev Φ (.cmp op a b)):=
 fun ω m σ s Q E p σ' F I e kk=>AH e fun p₁ σ₁ e₁ e=>AH e fun p₂ σ₂ e₂ e=>AB e fun t e₃ e=>
  wpAny_Compare1 (Mg ha hb F I e₁ e₂ fun v w ω' s' G I x y=>Fp R.u64 I x y e₃ (((KE.lit e kk).gw G).here I .bool_in)) hm
theorem gD{op:CmpOp}{lv:Nat}(R:Rm lv c.A)(ha:SE c l (ev Φ a))(hb:SE c r (ev Φ b))(hm:behindInMarks op r=false):Iw c Φ (.Compare l [op] [r] pos) (.cmp op a b):=
 .of fun ω m σ s Q E p bb σ' F I e1 e2 k=>AH e1 fun p₁ σ₁ e₁ e=>AH e fun p₂ σ₂ e₂ e=>AB e fun t e₃ e=>
  BF (P:=fun p σ'=>AT σ' p=some bb→(∀ω' s',Gw ω [] s.heap ω' s'.heap→AL c.B ω' σ' s'→Q bb s')→_) e (fun e2 k=>
   wpAny_isTrue_Compare1 (Mg ha hb F I e₁ e₂ fun v w ω' s' G I x y=>Fp R.u64 I x y e₃ (wpAny_truthy_bool (tb e2▸k ω' s' G I))) hm) e2 k
theorem cV(ht:Iw c Φ te t)(ha:SE c l (ev Φ a))(hb:SE c r (ev Φ b)):SE c (.IfExp te l r pos) (ev Φ (.ite t a b)):=
 fun ω m σ s Q E p σ' F I e kk=>AH e fun p₁ σ₁ e₁ e=>AB e fun t e₂ e=>wpAny_IfExp (ht.run F I e₁ e₂ fun ω₁ s₁ G₁ I₁=>by
  cases t with
  | true=>rw[if_pos rfl];exact ha ω₁ m σ₁ s₁ Q E p σ' (F.gw G₁ I₁.apart) I₁ e (KE.gw kk G₁)
  | false=>rw[if_neg Bool.false_ne_true];exact hb ω₁ m σ₁ s₁ Q E p σ' (F.gw G₁ I₁.apart) I₁ e (KE.gw kk G₁))
end
section
variable{a b d:X}{l r r₂:Expr}{pos:Pos}{o o':CmpOp}{lv:Nat}
theorem Uw(R:Rm lv c.A)(ha:SE c l (ev Φ a))(hb:SE c r (ev Φ b))(hd:SE c r₂ (ev Φ d))(hm:lastMarks [o,o'] [r,r₂]=false):SE c (.Compare l [o,o'] [r,r₂] pos) (ev Φ (.cmp2 o o' a b d)):=
 fun ω m σ s Q E p σ' F I e kk=>AH e fun p₁ σ₁ e₁ e=>AH e fun p₂ σ₂ e₂ e=>AB e fun t e₃ e=>
  Compare_chain (hm:=hm) (ha ω m σ s _ E _ _ F I e₁ fun v ω₁ s₁ G₁ I₁ x₁=>chain_link (hb ω₁ m σ₁ s₁ _ E _ _ (F.gw G₁ I₁.apart) I₁ e₂ fun w ω₂ s₂ G₂ I₂ x₂=>Fp R.u64 I₂ (x₁.gw G₂) x₂ e₃ (wpAny_truthy_bool (by
   cases t with
   | false=>rw[if_neg Bool.false_ne_true];exact((KE.lit (show some _=some (p,σ') from e) kk).gw (G₁.trans G₂)).here I₂ .bool_in
   | true=>
    rw[if_pos rfl]
    exact AH (show sq (ev Φ d m σ₂) _=some (p,σ') from e) fun p₃ σ₃ e₄ e=>AB e fun t e₅ e=>chain_last (hd ω₂ m σ₂ s₂ _ E _ _ (F.gw (G₁.trans G₂) I₂.apart) I₂ e₄ fun z ω₃ s₃ G₃ I₃ x₃=>Fp R.u64 I₃ (x₂.gw G₃) x₃ e₅ (((KE.lit e kk).gw ((G₁.trans G₂).trans G₃)).here I₃ .bool_in))))))
theorem Vq(R:Rm lv c.A)(ha:SE c l (ev Φ a))(hb:SE c r (ev Φ b))(hd:SE c r₂ (ev Φ d))(hm:lastMarks [o,o'] [r,r₂]=false):Iw c Φ (.Compare l [o,o'] [r,r₂] pos) (.cmp2 o o' a b d):=
 .of fun ω m σ s Q E p bb σ' F I e1 e2 k=>AH e1 fun p₁ σ₁ e₁ e=>AH e fun p₂ σ₂ e₂ e=>AB e fun t e₃ e=>
  isTrue_chain (hm:=hm) (ha ω m σ s _ E _ _ F I e₁ fun v ω₁ s₁ G₁ I₁ x₁=>test_link (hb ω₁ m σ₁ s₁ _ E _ _ (F.gw G₁ I₁.apart) I₁ e₂ fun w ω₂ s₂ G₂ I₂ x₂=>Fp R.u64 I₂ (x₁.gw G₂) x₂ e₃ (wpAny_truthy_bool (by
   cases t with
   | false=>
    rw[if_neg Bool.false_ne_true]
    exact BF (P:=fun p σ'=>AT σ' p=some bb→(∀ω' s',Gw ω [] s.heap ω' s'.heap→AL c.B ω' σ' s'→Q bb s')→Q false s₂) (show some (PV.bool false,σ₂)=some (p,σ') from e) (fun e2 k=>tb e2▸k ω₂ s₂ (G₁.trans G₂) I₂) e2 k
   | true=>
    rw[if_pos rfl]
    exact AH (show sq (ev Φ d m σ₂) _=some (p,σ') from e) fun p₃ σ₃ e₄ e=>AB e fun t e₅ e=>test_last (hd ω₂ m σ₂ s₂ _ E _ _ (F.gw (G₁.trans G₂) I₂.apart) I₂ e₄ fun z ω₃ s₃ G₃ I₃ x₃=>Fp R.u64 I₃ (x₂.gw G₃) x₃ e₅ (wpAny_truthy_bool
     (BF (P:=fun p σ'=>AT σ' p=some bb→(∀ω' s',Gw ω [] s.heap ω' s'.heap→AL c.B ω' σ' s'→Q bb s')→Q t s₃) e (fun e2 k=>tb e2▸k ω₃ s₃ ((G₁.trans G₂).trans G₃) I₃) e2 k)))))))
end
def Ce(e:Expr):Prop:=∀t p,e≠.Starred t p
theorem Ax{e:Expr}{es:List Expr}{env:Env}(hs:Ce e):starEach (e::es) env=(false,eval e env)::starEach es env:=by
 cases e<;>first|rfl | exact absurd rfl (hs _ _)
theorem Ol:fE c [] (evL Φ .nil):=fun pos ω m σ s Q E p σ' F I e kk=>spliced_nil (BF (P:=fun p σ'=>(∀v ω' s',Gw ω [] s.heap ω' s'.heap→AL c.B ω' σ' s'→VRs c.B.C ω' s'.heap p v→Q v s')→Q [] s) e (fun kk=>kk _ ω s (.refl _ _ _) I .nil) kk)
theorem Lz{x:X}{r:XL}{e:Expr}{es:List Expr}(hx:SE c e (ev Φ x))(hr:fE c es (evL Φ r))(hs:Ce e):fE c (e::es) (evL Φ (.cons x r)):=by
 intro pos ω m σ s Q E p σ' F I he kk
 rw[Ax hs]
 exact AH he fun p₁ σ₁ e₁ he=>AH he fun ps σ₂ e₂ he=>spliced_cons (hx ω m σ s _ E _ _ F I e₁ fun v ω₁ s₁ G₁ I₁ x₁=>hr pos ω₁ m σ₁ s₁ _ E _ _ (F.gw G₁ I₁.apart) I₁ e₂ fun vs ω₂ s₂ G₂ I₂ x₂=>
  BF (P:=fun p σ'=>(∀v ω' s',Gw ω [] s.heap ω' s'.heap→AL c.B ω' σ' s'→VRs c.B.C ω' s'.heap p v→Q v s')→Q (v::vs) s₂) he (fun kk=>kk _ ω₂ s₂ (G₁.trans G₂) I₂ (.cons_in (x₁.gw G₂) x₂)) kk)
theorem FM{ω:Wd}{h h':Heap}{a:Addr}(hn:h.get? a=none)(k:∀b o,h.get? b=some o→h'.get? b=some o):Gw ω [] h ⟨ω.mu++[a],ω.ex⟩ h':=
 ⟨⟨[a],rfl,fun b hb=>by rw[List.mem_singleton.mp hb];exact hn⟩,rfl,.of_keep k,fun b o e=>⟨o,k b o e⟩⟩
theorem AL.at_new{B:AV}{ω:Wd}{σ:St}{s:Shared}(I:AL B ω σ s){a:Addr}:(ω.mu++[a])[σ.length]?=some a:=by
 rw[←I.len,List.getElem?_append_right (Nat.le_refl _),Nat.sub_self];rfl
theorem AR.push{ω:Wd}{h h':Heap}{a:Addr}(hn:h.get? a=none)(k:∀b o,h.get? b=some o→h'.get? b=some o):AR ω h ⟨ω.mu++[a],ω.ex⟩ h':=
 .of_gw (FM hn k) fun _ q=>nomatch q
section
variable{xs:XL}{es:List Expr}{pos:Pos}
theorem Ju{C:Addr}{ω:Wd}{h:Heap}{ps:List PV}{vs:List Value}(x:VRs C ω h ps vs)(hl:decide (ps.length≤BM)=true):vs.length≤sizeLine:=by rw[x.length];exact Aa hl
theorem eY{k:Nat}(h:fE c es (evL Φ xs)):SE c (.Tuple es k pos) (ev Φ (.tup xs)):=
 fun ω m σ s Q E p σ' F I e kk=>AH e fun ps σ₁ e₁ e=>AJ e fun hl e=>wpAny_Tuple (h pos ω m σ s _ E _ _ F I e₁ fun vs ω₁ s₁ G₁ I₁ x₁=>⟨Ju x₁ hl,
  ((KE.lit e kk).gw G₁) _ ω₁ {s₁ with heap:=s₁.heap.push {cls:=.type "tuple",data:=.seq vs.toArray}} (.of_keep (AO _ _)) (I₁.keep (tk:=s₁.toks) (AO _ _)) (.tup_in (JS I₁ (HE rfl) (Ar _) (BX _ _ rfl)) rfl rfl (x₁.carry (.of_keep (AO _ _))))⟩)
theorem VC(h:fE c es (evL Φ xs)):SE c (.List es pos) (ev Φ (.list xs)):=
 fun ω m σ s Q E p σ' F I e kk=>AH e fun ps σ₁ e₁ e=>AJ e fun hl e=>wpAny_List (h pos ω m σ s _ E _ _ F I e₁ fun vs ω₁ s₁ G₁ I₁ x₁=>⟨Ju x₁ hl,
  KK.lst (vs:=vs.toArray) I₁ (((KE.lit e kk).gw G₁).kk I₁) rfl x₁⟩)
theorem TU(h:fE c es (evL Φ xs)):SE c (.List es pos) (ev Φ (.mlist xs)):=
 fun ω m σ s Q E p σ' F I e kk=>AH e fun ps σ₁ e₁ e=>AJ e fun hl e=>wpAny_List (h pos ω m σ s _ E _ _ F I e₁ fun vs ω₁ s₁ G₁ I₁ x₁=>⟨Ju x₁ hl,
  have hk:=AO s₁.heap {cls:=.type "list",data:=.seq vs.toArray}
  have hn:=Ar s₁.heap
  ((KE.lit e kk).gw G₁) _ ⟨ω₁.mu++[s₁.heap.objs.size],ω₁.ex⟩ {s₁ with heap:=s₁.heap.push {cls:=.type "list",data:=.seq vs.toArray}} (FM hn hk) (I₁.push (tk:=s₁.toks) hn hk ⟨_,_,_,BX _ _ rfl,MF,rfl,x₁.carry (.push hn hk)⟩) (.loc_in I₁.at_new)⟩)
end
theorem Qr{a:Addr}{o:Obj}{v:Value}{n:Nat}{x:Int}{u:Tok}{B:AV}{A:Around}{s:Shared}{E Q:Value→Shared→Prop}(ho:s.heap.get? a=some o)(hc:o.cls=.type "list")(hd:o.data=.seq #[v] n)(h0:0≤x)(h1:x≤64)
  (h:Q (.ref s.heap.objs.size) {s with heap:=s.heap.push {cls:=.type "list",data:=.seq (List.replicate x.toNat v).toArray}}):wpAny (model B.prog B.w) A (binaryOp .Mult (.ref a) (.int x u)) Q E s:=by
 obtain⟨cls,d,data,sl⟩:=o
 cases hc;cases hd
 refine wpAny_binaryOp_repeat_ref (T := "list") (U := "int") (by decide) ⟨_,ho,rfl⟩ (fun s'=>typeIs_int s' x u) noFill_list_mul F.fills_int_mul F.slot_int_rmul repeat_list F.slot_int_index.lookup
  (call_meets F.slot_int_rmul (typeIs_int s x u) F.entry_int_rmul (F.args_int_rmul_2 _ _) (lm_int_rmul_list_any x u a #[v] n d sl)
   ⟨ho,rfl,⟨_,ho,rfl⟩,call_meets F.slot_list_mul ⟨_,ho,rfl⟩ F.entry_list_mul (F.args_list_mul_2 _ _)
    (lm_list_mul_any a #[v] n d sl x u (by simp[Builtin.List.listFitsIndex];lia) (by simp;lia) (by simp[Builtin.List.listTooLong,sizeLine];lia)) ⟨ho,?_⟩⟩)
 have e:List.foldl (fun x1 x2=>x1++x2) #[] (List.replicate (if(#[v]:Array Value).isEmpty=true then 0 else x.toNat) #[v])=(List.replicate x.toNat v).toArray:=by
  rw[if_neg (by simp)]
  have key:∀(k:Nat) (acc:Array Value),List.foldl (fun x1 x2=>x1++x2) acc (List.replicate k #[v])=acc++(List.replicate k v).toArray:=by
   intro k
   induction k with
   | zero=>intro acc;simp
   | succ k ih=>intro acc;rw[List.replicate_succ,List.foldl_cons,ih,List.replicate_succ];apply Array.ext';simp
  rw[key];simp
 rw[e]
 exact h
theorem OI{C:Addr}{ω:Wd}{h:Heap}{p:PV}{v:Value}(x:VR C ω h p v):∀n,VRs C ω h (List.replicate n p) (List.replicate n v)
 | 0=>.nil
 | n+1=>.cons_in x (OI x n)
theorem WJ{a:X}{e:Expr}{n:Int}{lp pos cp:Pos}{k:Nat}(ha:SE c e (ev Φ a))(hs:Ce e):SE c (.BinOp (.List [e] lp) .Mult (.Constant (.int n) k cp) pos) (ev Φ (.mrep a n)):=
 fun ω m σ s Q E p σ' F I e kk=>AH e fun p₁ σ₁ e₁ e=>AJ e fun hn e=>AF hn fun h0 h1=>by
  refine wpAny_BinOp (wpAny_List (Lz (x:=a) (r:=.nil) ha Ol hs lp ω m σ s _ E [p₁] σ₁ F I (by show sq (ev Φ a m σ) _=_;rw[e₁];rfl) fun vs ω₁ s₁ G₁ I₁ x₁=>⟨by rw[x₁.length];exact Aa (n:=1) (by decide),?_⟩))
  refine x₁.one_el (Ps:=fun vs=>wpAny (model c.B.prog c.B.w) c.A (eval (.Constant (.int n) k cp) c.env) _ E {s₁ with heap:=s₁.heap.push {cls:=.type "list",data:=.seq vs.toArray}}) fun v x₂=>wpAny_Constant_int ?_
  have hk:=AO s₁.heap {cls:=.type "list",data:=.seq [v].toArray}
  refine Qr (s:={s₁ with heap:=s₁.heap.push {cls:=.type "list",data:=.seq [v].toArray},toks:=_}) (BX _ _ rfl) rfl rfl (An h0) (An h1) ?_
  have gk:Gw ω₁ [] s₁.heap ω₁ (s₁.heap.push {cls:=.type "list",data:=.seq [v].toArray}):=.of_keep hk
  have I₂:=I₁.keep (tk:=s₁.toks+1) hk
  have hk2:=AO (s₁.heap.push {cls:=.type "list",data:=.seq [v].toArray}) {cls:=.type "list",data:=.seq (List.replicate n.toNat v).toArray}
  have hn2:=Ar (s₁.heap.push {cls:=.type "list",data:=.seq [v].toArray})
  exact KE.gw (s₁:={s₁ with heap:=s₁.heap.push {cls:=.type "list",data:=.seq [v].toArray},toks:=s₁.toks+1}) (KE.lit e kk) (G₁.trans gk) _ ⟨ω₁.mu++[_],ω₁.ex⟩ {s₁ with heap:=(s₁.heap.push {cls:=.type "list",data:=.seq [v].toArray}).push {cls:=.type "list",data:=.seq (List.replicate n.toNat v).toArray},toks:=s₁.toks+1} (FM hn2 hk2)
   (I₂.push (tk:=s₁.toks+1) hn2 hk2 ⟨_,_,_,BX _ _ rfl,MF,rfl,OI ((x₂.gw gk).carry (.push hn2 hk2)) _⟩) (.loc_in I₂.at_new)
theorem kI{a i:X}{l r:Expr}{pos:Pos}(ha:SE c l (ev Φ a))(hb:SE c r (ev Φ i))(hs:∀o i,∃ops,subscripted r false o i=operate ops (getItem o i)):SE c (.Subscript l r pos) (ev Φ (.idx a i)):=
 fun ω m σ s Q E p σ' F I e kk=>AH e fun p₁ σ₁ e₁ e=>AH e fun p₂ σ₂ e₂ e=>KE.vl e kk fun e kk=>
  Subscript_ (Mg ha hb F I e₁ e₂ fun v w ω' s' G I x y=>
   let ⟨hg,T,id,hT,hl⟩:=fD (A:=c.A) (E:=E) I x y e (Q:=Q) fun v' tk x=>(kk.gw G).tk I x tk
   (hs v w).elim fun ops ho=>tail_any hT hl hg ho)
end
section
variable{c:Cx}{Φ:Nat→Option Spec}
structure A1(c:Cx)(Φ:Nat→Option Spec)(x:X)(e:Expr):Prop where
 se:SE c e (ev Φ x)
 st:Iw c Φ e x
 ns:Ce e
noncomputable def A2(c:Cx)(Φ:Nat→Option Spec):XL→List Expr→Prop
 | .nil,[]=>True
 | .cons x r,e::es=>A1 c Φ x e∧A2 c Φ r es
 | _,_=>False
theorem A2.ses:∀{xs:XL} {es:List Expr},A2 c Φ xs es→fE c es (evL Φ xs)
 | .nil,[],_=>Ol
 | .cons _ _,_::_,h=>Lz h.1.se (A2.ses h.2) h.1.ns
 | .nil,_::_,h=>h.elim
 | .cons _ _,[],h=>h.elim
theorem A2.plain:∀{xs:XL} {es:List Expr},A2 c Φ xs es→(starEach es c.env).all (fun x=>!x.1)=true∧(starEach es c.env).any (·.1)=false
 | .nil,[],_=>⟨rfl,rfl⟩
 | .cons x r,e::es,h=>by rw[Ax h.1.ns];exact A2.plain h.2
 | .nil,_::_,h=>h.elim
 | .cons _ _,[],h=>h.elim
theorem Dg(pos:Pos)(l:List (Bool×Sem Value)):(backTo pos l).all (fun x=>!x.1)=l.all (fun x=>!x.1)∧(backTo pos l).any (·.1)=l.any (·.1):=by
 unfold backTo
 constructor
 ·rw[List.all_map];rfl
 ·rw[List.any_map];rfl
theorem A2.bo{op:BoolOp}{pos:Pos}:∀{xs:XL} {es:List Expr},A2 c Φ xs es→∀ω m σ s Q E p σ',FR c ω s.heap m→AL c.B ω σ s→evB Φ op xs m σ=some (p,σ')→KE c ω s σ' p Q →
  wpAny (model c.B.prog c.B.w) c.A (boolOp pos op (evalEach es c.env)) Q E s
 | .nil,[],_=>fun ω m σ s Q E p σ' F I e=>nn e
 | .cons x .nil,[e],h=>fun ω m σ s Q E p σ' F I he k=>AH he fun p₁ σ₁ e₁ he=>h.1.se ω m σ s Q E p₁ σ₁ F I e₁ (KE.lit he k)
 | .cons x .nil,_::_::_,h=>h.2.elim
 | .cons x (.cons y r),[_],h=>h.2.elim
 | .cons x (.cons y r),e::e'::es,h=>fun ω m σ s Q E p σ' F I he k=>AH he fun p₁ σ₁ h₁ he=>AB he fun b h₂ he=>
  show wpAny _ _ (do
   let v ←eval e c.env
   standAt pos
   let t ←holding [v] (truthy v)
   match op,t with
   | .And,false | .Or,true=>pure v
   | _,_=>boolOp pos op (evalEach (e'::es) c.env)) Q E s from
  wpAny_bind (h.1.se ω m σ s _ E p₁ σ₁ F I h₁ fun v ω₁ s₁ G₁ I₁ x₁=>wpAny_bind (wpAny_standAt (wpAny_bind (wpAny_holding (Fk I₁ x₁ h₂ fun tk=>by
   have kr:=A2.bo (op:=op) (pos:=pos) (xs:=.cons y r) h.2 ω₁ m σ₁ {s₁ with toks:=tk} Q E p σ' (F.gw G₁ I₁.apart) I₁.toks
   cases op<;>cases b
   ·exact wpAny_pure ((KE.gw (KE.lit he k) G₁).tk I₁ x₁ tk)
   ·exact kr he (KE.gw k G₁)
   ·exact kr he (KE.gw k G₁)
   ·exact wpAny_pure ((KE.gw (KE.lit he k) G₁).tk I₁ x₁ tk))))))
 | .nil,_::_,h=>h.elim
 | .cons _ _,[],h=>h.elim
abbrev KT(c:Cx)(ω:Wd)(s:Shared)(σ':St)(b:Bool)(Q:Bool→Shared→Prop):Prop:=∀ω' s',Gw ω [] s.heap ω' s'.heap→AL c.B ω' σ' s'→Q b s'
theorem KT.gw{ω ω₁:Wd}{s s₁:Shared}{σ':St}{b:Bool}{Q:Bool→Shared→Prop}(k:KT c ω s σ' b Q)(G:Gw ω [] s.heap ω₁ s₁.heap):KT c ω₁ s₁ σ' b Q:=fun ω' s' G' I'=>k ω' s' (G.trans G') I'
theorem FO{op:BoolOp}{e:Expr}{es:List Expr}{s:Shared}{Q:Bool→Shared→Prop}{E:Value→Shared→Prop}
  (h:wpAny (model c.B.prog c.B.w) c.A (isTrue e c.env (eval e c.env)) (fun t s'=>cond ((op==.And)==t) (wpAny (model c.B.prog c.B.w) c.A (PySem.allTrue op es c.env) Q E s') (Q t s')) E s):wpAny (model c.B.prog c.B.w) c.A (PySem.allTrue op (e::es) c.env) Q E s:=by
 cases op with
 | And=>exact wpAny_allTrue_And_cons (wpAny_mono h (fun t s' h'=>by cases t<;>exact h') fun _ _ e=>e)
 | Or=>exact wpAny_allTrue_Or_cons (wpAny_mono h (fun t s' h'=>by cases t<;>exact h') fun _ _ e=>e)
theorem A2.allTrue{op:BoolOp}:∀{xs:XL} {es:List Expr},A2 c Φ xs es→∀ω m σ s Q E p b σ',FR c ω s.heap m→AL c.B ω σ s→evB Φ op xs m σ=some (p,σ')→AT σ' p=some b →
  KT c ω s σ' b Q→wpAny (model c.B.prog c.B.w) c.A (PySem.allTrue op es c.env) Q E s
 | .nil,_,_=>fun ω m σ s Q E p b σ' F I e=>nn e
 | .cons x .nil,[e],h=>fun ω m σ s Q E p b σ' F I he hb k=>AH he fun p₁ σ₁ e₁ he=>BF (P:=fun p σ'=>AT σ' p=some b→KT c ω s σ' b Q→_) he (fun hb k=>
   FO (h.1.st.run F I e₁ hb fun ω' s' G I'=>by
    cases op<;>cases b<;>first|exact k ω' s' G I' | exact wpAny_pure (k ω' s' G I'))) hb k
 | .cons x .nil,_::_::_,h=>h.2.elim
 | .cons x (.cons y r),[_],h=>h.2.elim
 | .cons x (.cons y r),e::e'::es,h=>fun ω m σ s Q E p b σ' F I he hb k=>AH he fun p₁ σ₁ h₁ he=>AB he fun b₁ h₂ he=>
   FO (h.1.st.run F I h₁ h₂ fun ω' s' G I'=>by
    cases q:(op==.And)==b₁ with
    | true=>rw[q]at he;exact A2.allTrue (xs:=.cons y r) h.2 ω' m σ₁ s' Q E p b σ' (F.gw G I'.apart) I' he hb (KT.gw k G)
    | false=>
     rw[q]at he
     have hb':b₁=b:=so (h₂.symm.trans (BF (P:=fun p σ'=>AT σ' p=some b→AT σ₁ p₁=some b) he id hb))
     exact hb'▸BF (P:=fun p σ'=>KT c ω s σ' b Q→Q b s') he (fun k=>k ω' s' G I') k)
 | .cons _ _,[],h=>h.elim
noncomputable def Je(env:Env)(x:Expr)(r:Bool):Sem (ForInStep Bool):=if r=true then do let ok ←isTrue x env (eval x env);pure (ForInStep.yield ok) else pure (ForInStep.yield r)
theorem TR{s:Shared}{Q:Bool→Shared→Prop}{E:Value→Shared→Prop}(hq:Q false s):∀es:List Expr,wpAny (model c.B.prog c.B.w) c.A (forIn es false (Je c.env)) Q E s
 | []=>by rw[List.forIn_nil];exact wpAny_pure hq
 | y::ys=>by
  rw[List.forIn_cons]
  exact wpAny_bind (wpAny_pure (TR hq ys))
theorem A2.ifs:∀{xs:XL} {es:List Expr},A2 c Φ xs es→∀ω m σ s (Q:Bool→Shared→Prop) E b σ',FR c ω s.heap m→AL c.B ω σ s→evT Φ xs m σ=some (b,σ') →
  KT c ω s σ' b Q→wpAny (model c.B.prog c.B.w) c.A (forIn es true (Je c.env)) Q E s
 | .nil,[],_=>fun ω m σ s Q E b σ' F I e k=>by
  rw[List.forIn_nil]
  exact wpAny_pure (BF (P:=fun b σ'=>KT c ω s σ' b Q→Q true s) e (fun k=>k ω s (.refl _ _ _) I) k)
 | .cons x r,e::es,h=>fun ω m σ s Q E b σ' F I he k=>AH he fun p₁ σ₁ h₁ he=>AB he fun b₁ h₂ he=>by
  rw[List.forIn_cons]
  refine wpAny_bind (wpAny_bind (h.1.st.run F I h₁ h₂ fun ω' s' G I'=>wpAny_pure ?_))
  cases b₁ with
  | true=>exact A2.ifs h.2 ω' m σ₁ s' Q E b σ' (F.gw G I'.apart) I' he (KT.gw k G)
  | false=>exact TR (BF (P:=fun b σ'=>KT c ω s σ' b Q→Q false s') he (fun k=>k ω' s' G I') k) es
 | .nil,_::_,h=>h.elim
 | .cons _ _,[],h=>h.elim
section
variable{xs:XL}{es:List Expr}{pos:Pos}
theorem mP{op:BoolOp}(h:A2 c Φ xs es):SE c (.BoolOp op es pos) (ev Φ (.bo op xs)):=fun ω m σ s Q E p σ' F I e kk=>by
 rw[arm_eval_BoolOp]
 exact h.bo ω m σ s Q E p σ' F I e kk
theorem vD{op:BoolOp}(h:A2 c Φ xs es):Iw c Φ (.BoolOp op es pos) (.bo op xs):=
 .of fun ω m σ s Q E p b σ' F I e1 e2 k=>wpAny_isTrue_BoolOp (h.allTrue ω m σ s Q E p b σ' F I e1 e2 k)
abbrev KL(c:Cx)(ω:Wd)(s:Shared)(σ':St)(p:List PV)(Q:List Value→Shared→Prop):Prop:=∀v ω' s',Gw ω [] s.heap ω' s'.heap→AL c.B ω' σ' s'→VRs c.B.C ω' s'.heap p v→Q v s'
theorem A2.evalArgs{f:Value}{ω:Wd}{m:Fm}{σ σ':St}{s:Shared}{Q:Args→Shared→Prop}{E:Value→Shared→Prop}{p:List PV}(h:A2 c Φ xs es)(F:FR c ω s.heap m)(I:AL c.B ω σ s)(e:evL Φ xs m σ=some (p,σ'))
  (k:KL c ω s σ' p fun v=>Q ⟨v,[]⟩):wpAny (model c.B.prog c.B.w) c.A (PySem.evalArgs f true (backTo pos (starEach es c.env)) []) Q E s:=
 match xs,es,h,e with
 | .nil,[],_,e=>PySem.evalArgs_none (BF (P:=fun p σ'=>KL c ω s σ' p (fun v=>Q ⟨v,[]⟩)→Q ⟨[],[]⟩ s) e (fun k=>k [] ω s (.refl _ _ _) I .nil) k)
 | .cons x r,e'::es,h,e=>by
  have:=h.ses pos ω m σ s (fun vs s'=>Q ⟨vs,[]⟩ s') E p σ' F I e k
  rw[Ax h.1.ns]at this ⊢
  exact evalArgs_plain this
theorem Nu{lv:Nat}{T:Nat→Option Str}{f:Nat}{n:Str}{np:Pos}{ω:Wd}{m:Fm}{σ σ₁ σ':St}{s:Shared}{Q E:Value→Shared→Prop}{ps:List PV}{sp:Spec}{out:Oi}(R:Rm lv c.A)(K:Dt c.B lv T Φ)(ht:T f=some n)(hn:GM c.Γ n=true)(h:A2 c Φ xs es)
  (F:FR c ω s.heap m) (I:AL c.B ω σ s) (e₁:evL Φ xs m σ=some (ps,σ₁)) (e₂:Φ f=some sp) (e₃:sp ps σ₁=some (out,σ'))
  (k:∀(ω₁:Wd) (s₁:Shared) l,Gw ω [] s.heap ω₁ s₁.heap→FR c ω₁ s₁.heap m→lA c.A ω₁ s₁.heap l→iR c.B ω₁ s₁.heap σ' l out Q E):wpAny (model c.B.prog c.B.w) c.A (eval (.Call (.Name n np) es [] pos) c.env) Q E s:=by
 obtain⟨_,hv,⟨a,o,fd,rfl,ho,hc,hd⟩,hf⟩:=K f n sp ht e₂
 refine wpAny_Call_ofName (Jp F I hn hv ?_)
 refine callWith_function (o:=o) (fd:=fd) (h.evalArgs F I e₁ fun vs ω₁ s₁ G₁ I₁ x₁=>⟨⟨I₁.base ho hc,hd⟩,?_⟩)
 exact(F.gw G₁ I₁.apart).frs.elim fun l hl=>hf c.A R ω₁ σ₁ s₁ Q E ps vs out σ' l hl I₁ x₁ e₃ (k ω₁ s₁ l G₁ (F.gw G₁ I₁.apart) hl)
theorem Uj{lv:Nat}{T:Nat→Option Str}{f:Nat}{n:Str}{np:Pos}(R:Rm lv c.A)(K:Dt c.B lv T Φ)(ht:T f=some n)(hn:GM c.Γ n=true)(h:A2 c Φ xs es) :
  SE c (.Call (.Name n np) es [] pos) (ev Φ (.call f xs)):=
 fun ω m σ s Q E p σ' F I e kk=>AH e fun ps σ₁ e₁ e=>AB e fun sp hsp e=>AH e fun o σ₂ e₂ e=>KE.vl e kk fun e kk=>Nu R K ht hn h F I e₁ hsp e₂ fun ω₁ s₁ l G _ _=>
  match o,e with
  | .val q,e=>(so e).symm▸kk.gw G
  | .exc _,e=>nn e
noncomputable def Hi(f:BI):Str:=match f with
 | .len => "len" | .range => "range" | .sorted => "sorted" | .max => "max" | .bytes => "bytes" | .sum => "sum" | .list => "list"
theorem WB(f:BI):bootBuiltins (Hi f)=some (G5 f):=match f with
 | .len=>Boot.«len»
 | .range=>Boot.«range»
 | .sorted=>Boot.«sorted»
 | .max=>Boot.«max»
 | .bytes=>Boot.«bytes»
 | .sum=>Boot.«sum»
 | .list=>Boot.«list»
theorem YU(f:BI):Hi f∈Gy∧Hi f ≠ "__name__" := by cases f<;>decide +kernel
theorem rQ{f:BI}{n:Str}{np:Pos}{lv:Nat}(R:Rm lv c.A)(hN:Eh c.B)(hf:n=Hi f)(hn:GM c.Γ n=true)(h:A2 c Φ xs es):SE c (.Call (.Name n np) es [] pos) (ev Φ (.bi f xs)):=
 fun ω m σ s Q E p σ' F I e kk=>AH e fun ps σ₁ e₁ e=>KE.vl e kk fun e₂ kk=>by
  subst hf
  have hpl:(backTo pos (starEach es c.env)).any (·.1)=false:=(Dg _ _).2.trans h.plain.2
  refine wpAny_Call_ofName (Ep F I hn (hN _ (YU f).1) (YU f).2 (WB f) ?_)
  have fin:∀(vs:List Value) (ω₁:Wd) (s₁:Shared),Gw ω [] s.heap ω₁ s₁.heap→AL c.B ω₁ σ₁ s₁→VRs c.B.C ω₁ s₁.heap ps vs→wpAny (model c.B.prog c.B.w) c.A (call (G5 f) vs) Q E s₁:=fun vs ω₁ s₁ G₁ I₁ x₁=>yM R.hh I₁ x₁ e₂ ((kk.gw G₁).kk I₁)
  cases f<;>first|exact callWith_builtin hpl (h.evalArgs F I e₁ fin) | exact callWith_excType hpl (h.evalArgs F I e₁ fin)
noncomputable def BV(e:Expr):Bool:=e.ctorIdx != 16
theorem Dn{o:Expr}{name:Str}(h:BV o=true)(env:Env)(whole:Sem Value):attributeBase o name env whole=whole:=by
 cases o<;>first|rfl | exact absurd h Bool.false_ne_true
theorem uA{k:MT}{a:X}{o:Expr}{name:Str}{apos:Pos}(ha:SE c o (ev Φ a))(hn:name=Jw k)(hb:BV o=true)(hl:(apos.endLine==pos.line)=true)(hle:es.length<29)(h:A2 c Φ xs es) :
  SE c (.Call (.Attribute o name apos) es [] pos) (ev Φ (.me k a xs)):=
 fun ω m σ s Q E p σ' F I e kk=>AH e fun p₁ σ₁ e₁ e=>AB e fun u hok e=>AH e fun ps σ₂ e₂ e=>by
  subst hn
  have hpl:(backTo pos (starEach es c.env)).any (·.1)=false:=(Dg _ _).2.trans h.plain.2
  refine wpAny_Call_method_lateS (Dn hb _ _) ?_ hl (ha ω m σ s _ E _ _ F I e₁ fun v ω₁ s₁ G₁ I₁ x₁=>(WV I₁ x₁ hok).elim fun T q=>?_)
  ·rw[show(backTo pos (starEach es c.env)).all (fun x=>!x.1)=true from(Dg _ _).1.trans h.plain.1]
   exact(decide_eq_true (Nat.lt_succ_of_lt hle):decide (es.length<30)=true)
  exact⟨T,Kk k p₁,q.1,q.2.1,q.2.2.1,q.2.2.2.1,q.2.2.2.2,callWith_builtin hpl (h.evalArgs (F.gw G₁ I₁.apart) I₁ e₂ fun vs ω₂ s₂ G₂ I₂ x₂=>UU I₂ (x₁.gw G₂) x₂ e (KE.gw kk (G₁.trans G₂)).km)⟩
end
def sL(c:Cx)(Φ:Nat→Option Spec)(e:Option Expr)(x:XO):Prop:=match e,x with
 | none,.no=>True
 | some e,.yes x=>SE c e (ev Φ x)
 | _,_=>False
abbrev I0(c:Cx)(ω:Wd)(s:Shared)(σ':St)(p:Option PV)(Q:Value→Shared→Prop):Prop:=∀v ω' s',Gw ω [] s.heap ω' s'.heap→AL c.B ω' σ' s'→hY c.B.C ω' s'.heap p v→Q v s'
theorem sL.run{eo:Option Expr}{xo:XO}{ω:Wd}{m:Fm}{σ σ':St}{s:Shared}{Q E:Value→Shared→Prop}{p:Option PV}(h:sL c Φ eo xo)(F:FR c ω s.heap m)(I:AL c.B ω σ s)(e:evO Φ xo m σ=some (p,σ'))
  (k:I0 c ω s σ' p Q):wpAny (model c.B.prog c.B.w) c.A (evalPart eo c.env) Q E s:=
 match eo,xo,h,e with
 | none,.no,_,e=>wpAny_pure (BF (P:=fun p σ'=>I0 c ω s σ' p Q→Q .none s) e (fun k=>k _ ω s (.refl _ _ _) I rfl) k)
 | some ee,.yes x,h,e=>AH (show sq (ev Φ x m σ) (fun p σ=>some (some p,σ))=some (p,σ') from e) fun p' σ₁ e₁ e=>BF (P:=fun p σ'=>I0 c ω s σ' p Q→_) e (fun k=>(show SE c ee (ev Φ x) from h) ω m σ s Q E p' σ₁ F I e₁ k) k
theorem hY.gw{C:Addr}{ω ω':Wd}{h h':Heap}{p:Option PV}{v:Value}(x:hY C ω h p v)(g:Gw ω [] h ω' h'):hY C ω' h' p v:=
 match p,x with
 | none,x=>x
 | some p,x=>VR.gw x g
theorem iB{a:X}{lo hi:XO}{l:Expr}{le he:Option Expr}{p pos:Pos}(ha:SE c l (ev Φ a))(h1:sL c Φ le lo)(h2:sL c Φ he hi):SE c (.Subscript l (.Slice le he none p) pos) (ev Φ (.slc a lo hi)):=
 fun ω m σ s Q E p σ' F I e kk=>AH e fun p₁ σ₁ e₁ e=>AH e fun p₂ σ₂ e₂ e=>AH e fun p₃ σ₃ e₃ e=>KE.vl e kk fun e kk=>
  Subscript_ (ha ω m σ s _ E _ _ F I e₁ fun v ω₁ s₁ G₁ I₁ x₁=>wpAny_Slice (h1.run (F.gw G₁ I₁.apart) I₁ e₂ fun v2 ω₂ s₂ G₂ I₂ x₂=>
   h2.run (F.gw (G₁.trans G₂) I₂.apart) I₂ e₃ fun v3 ω₃ s₃ G₃ I₃ x₃=>wpAny_pure (
    have hk:=AO s₃.heap {cls:=.type "slice",data:=.fields #[v2,v3,.none]}
    have gk:Gw ω₃ [] s₃.heap ω₃ (s₃.heap.push {cls:=.type "slice",data:=.fields #[v2,v3,.none]}):=.of_keep hk
    have I5:AL c.B ω₃ σ₃ {s₃ with heap:=s₃.heap.push {cls:=.type "slice",data:=.fields #[v2,v3,.none]}}:=I₃.keep (tk:=s₃.toks) hk
    let ⟨hg,T,id,hT,hl⟩:=gG (A:=c.A) (E:=E) (Q:=Q) I5 ((x₁.gw (G₂.trans G₃)).gw gk) ((x₂.gw G₃).gw gk) (x₃.gw gk) (Heap.IsSliceOf.new _ _ _ _) e (KE.kk (KE.gw kk (((G₁.trans G₂).trans G₃).trans gk)) I5)
    tail_any hT hl hg rfl)))
theorem iN{a lo:X}{l le:Expr}{n:Int}{k:Nat}{cp p pos:Pos}(ha:SE c l (ev Φ a))(h1:SE c le (ev Φ lo)):SE c (.Subscript l (.Slice (some le) none (some (.Constant (.int n) k cp)) p) pos) (ev Φ (.stp a lo n)):=
 fun ω m σ s Q E p σ' F I e kk=>AH e fun p₁ σ₁ e₁ e=>AH e fun p₂ σ₂ e₂ e=>KE.vl e kk fun e kk=>
  Subscript_ (ha ω m σ s _ E _ _ F I e₁ fun v ω₁ s₁ G₁ I₁ x₁=>wpAny_Slice (h1 ω₁ m σ₁ s₁ _ E _ _ (F.gw G₁ I₁.apart) I₁ e₂ fun v2 ω₂ s₂ G₂ I₂ x₂=>
   wpAny_pure (wpAny_Constant_int (k:=k) (pos:=cp) (
    have hk:=AO s₂.heap {cls:=.type "slice",data:=.fields #[v2,.none,.int n s₂.toks]}
    have gk:Gw ω₂ [] s₂.heap ω₂ (s₂.heap.push {cls:=.type "slice",data:=.fields #[v2,.none,.int n s₂.toks]}):=.of_keep hk
    have I5:AL c.B ω₂ σ₂ {s₂ with heap:=s₂.heap.push {cls:=.type "slice",data:=.fields #[v2,.none,.int n s₂.toks]},toks:=s₂.toks+1}:=I₂.keep (tk:=s₂.toks+1) hk
    let ⟨hg,T,id,hT,hl⟩:=iE (A:=c.A) (E:=E) (Q:=Q) (t:=s₂.toks) I5 ((x₁.gw G₂).gw gk) (x₂.gw gk) (Heap.IsSliceOf.new _ _ _ _) e (KE.kk (KE.gw kk ((G₁.trans G₂).trans gk)) I5)
    tail_any hT hl hg rfl))))
end
inductive GT(C:Addr)(ω:Wd)(h:Heap)(it:Addr)(k:Nat):Option Nat→List PV→Prop
 | lst {l:List PV} {a:Addr} {o:Obj} {vs:Array Value} {n:Nat} (f:Fz ω h a o) (c:o.cls=.type "list") (d:o.data=.seq vs n) (r:VRs C ω h l vs.toList) (i:h.IsListIter it a k):GT C ω h it k none l
 | loc {n:Nat} {l:List PV} {a:Addr} (e:ω.mu[n]?=some a) (i:h.IsListIter it a k):GT C ω h it k (some n) l
 | rng {a b c:Int} (hk:k≤(GA a b c).length) (i:IsRangeIter h it (a+k*c) (Builtin.Range.rangeSize a b c-k) c):GT C ω h it k none (GA a b c)
 | str {x:Str} {t:Tok} (i:h.IsStrIter it "str_ascii_iterator" x t k):GT C ω h it k none (VK x)
theorem NY(a b c:Int):((GA a b c).length:Int)=Builtin.Range.rangeSize a b c:=by
 have:=DU a b c
 unfold GA;rw[List.length_map,List.length_range,Int.toNat_of_nonneg this]
noncomputable def R9:List String:=["list_iterator","range_iterator","str_ascii_iterator"]
theorem GT.obj{C:Addr}{ω:Wd}{h:Heap}{n:Option Nat}{l:List PV}{it:Addr}{k:Nat}{G:Prop}(x:GT C ω h it k n l)(g:∀o vs T,h.get? it=some o→o.data=.fields vs→o.cls=.type T→T∈R9→G):G:=
 match x with
 | .lst _ _ _ _ i=>i.elim fun o q=>g o _ _ q.1 q.2.2 q.2.1 (.head _)
 | .loc _ i=>i.elim fun o q=>g o _ _ q.1 q.2.2 q.2.1 (.head _)
 | .rng _ i=>g _ _ _ i rfl rfl (.tail _ (.head _))
 | .str i=>i.elim fun o q=>g o _ _ q.1 q.2.2 q.2.1 (.tail _ (.tail _ (.head _)))
theorem GT.carry{C:Addr}{ω ω':Wd}{h h':Heap}{n:Option Nat}{l:List PV}{it:Addr}{k:Nat}(x:GT C ω h it k n l)(g:AR ω h ω' h')(hk:∀o,h.get? it=some o→h'.get? it=some o):GT C ω' h' it k n l:=
 match x with
 | .lst f c d r i=>.lst (g.fz _ _ f) c d (r.carry g) (i.elim fun o q=>⟨o,hk _ q.1,q.2⟩)
 | .loc e i=>.loc (g.idx _ _ e) (i.elim fun o q=>⟨o,hk _ q.1,q.2⟩)
 | .rng q i=>.rng q (hk _ i)
 | .str i=>.str (i.elim fun o q=>⟨o,hk _ q.1,q.2⟩)
section
variable{B:AV}{A:Around}{E:Value→Shared→Prop}{ω:Wd}{σ:St}{s:Shared}
noncomputable def KI(B:AV)(ω:Wd)(s:Shared)(n:Option Nat)(l:List PV)(Q:Value→Shared→Prop):Prop:=
 ∀it h',s.heap.get? it=none→(h'.get? it).isSome=true→(∀b o,s.heap.get? b=some o→h'.get? b=some o) →
   (∀(ω':Wd) h'',ω'.mu=ω.mu→(∀a∈ω'.ex,a∈ω.ex∨s.heap.get? a=none)→(∀b o,h'.get? b=some o→h''.get? b=some o)→GT B.C ω' h'' it 0 n l)→Q (.ref it) {s with heap:=h'}
theorem KI.push{n:Option Nat}{l:List PV}{Q:Value→Shared→Prop}(k:KI B ω s n l Q)(o:Obj)(hf:o.isFreed=false)(h:∀(ω':Wd) h'',ω'.mu=ω.mu→AR ω s.heap ω' h''→h''.get? s.heap.objs.size=some o→GT B.C ω' h'' s.heap.objs.size 0 n l) :
  Q (.ref s.heap.objs.size) {s with heap:=s.heap.push o}:=
 k _ _ (Ar _) (by rw[BX _ _ hf];rfl) (AO _ _) fun ω' h'' hm hx hk=>h ω' h'' hm ((AR.more hm hx).trans (.of_keep fun b o e=>hk b o (AO _ _ b o e))) (hk _ _ (BX _ _ hf))
theorem Oh{p:PV}{l:List PV}{n:Option Nat}{v:Value}{Q:Value→Shared→Prop}(I:AL B ω σ s)(x:VR B.C ω s.heap p v)(e:EM σ p=some (l,n))(k:KI B ω s n l Q):wpAny (model B.prog B.w) A (pyIter v) Q E s:=by
 cases p<;>first|exact nn e | skip
 ·exact AJ e fun hs e=>x.str_el fun t=>BF (P:=fun l n=>KI B ω s n l Q→_) e (fun k=>wpAny_pyIter_ascii hs (k.push _ rfl fun _ _ _ _ h=>.str ⟨_,h,rfl,rfl⟩)) k
 ·exact x.lst_el fun a o vs m f c d r=>BF (P:=fun l n=>KI B ω s n l Q→_) e (fun k=>wpAny_pyIter_list (Bj f.2.2.1 c d) (k.push _ rfl fun _ _ _ g h=>.lst (g.fz _ _ f) c d (r.carry g) ⟨_,h,rfl,rfl⟩)) k
 ·exact AJ e fun hs e=>AF hs fun hs _=>x.rng_el fun r t u w f=>BF (P:=fun l n=>KI B ω s n l Q→_) e (fun k=>wpAny_pyIter_range f.2.2.1 hs (k.push _ rfl fun _ _ _ _ h=>.rng (Nat.zero_le _) (by
   rw[show((0:Nat):Int)=0 from rfl,Int.zero_mul,Int.add_zero,Int.sub_zero];exact h))) k
 ·exact AB e fun l' hl e=>Dj I x hl fun a o vs m i ho c d r=>BF (P:=fun l n=>KI B ω s n l Q→_) e (fun k=>wpAny_pyIter_list (Bj ho c.1 d) (k.push _ rfl fun _ _ hm _ h=>.loc (by rw[hm];exact i) ⟨_,h,rfl,rfl⟩)) k
theorem Uo{l:List PV}{n:Option Nat}{it:Addr}{k:Nat}{Q:Value→Shared→Prop}(x:GT B.C ω s.heap it k n l)(h:Q (.ref it) s):wpAny (model B.prog B.w) A (pyIter (.ref it)) Q E s:=
 match x with
 | .lst _ _ _ _ i=>wpAny_pyIter_listiter i h
 | .loc _ i=>wpAny_pyIter_listiter i h
 | .rng _ i=>wpAny_pyIter_rangeiter i h
 | .str i=>wpAny_pyIter_striter_ascii i h
def KN(B:AV)(ω:Wd)(s:Shared)(it:Addr)(k:Nat)(n:Option Nat)(l:List PV)(p:PV)(Q:Option Value→Shared→Prop):Prop:=
 ∀v h' tk,Heap.ExtBut it s.heap h'→GT B.C ω h' it (k+1) n l→VR B.C ω h' p v→Q (some v) {s with heap:=h',toks:=tk}
theorem Ur{a b c:Int}{k:Nat}{q:PV}(h:(GA a b c)[k]?=some q):q=.int (a+k*c):=by
 unfold GA at h
 rw[List.getElem?_map]at h
 refine Cm (P:=fun q=>q=.int (a+k*c)) h fun j hj=>?_
 have:=(List.getElem?_eq_some_iff.mp hj).2
 rw[List.getElem_range]at this
 rw[this]
theorem Vg{x:Str}{k:Nat}{q:PV}{G:Prop}(h:(VK x)[k]?=some q)(g:∀c,x.cps[k]?=some c→q=.str ⟨#[c]⟩→G):G:=by
 unfold VK at h
 rw[List.getElem?_map,Array.getElem?_toList]at h
 exact Cm (P:=fun q=>(∀c,x.cps[k]?=some c→q=.str ⟨#[c]⟩→G)→G) h (fun c hc g=>g c hc rfl) g
theorem Iu{l:List PV}{n:Option Nat}{it:Addr}{k:Nat}{q p:PV}{Q:Option Value→Shared→Prop}(I:AL B ω σ s)(x:GT B.C ω s.heap it k n l)(hit:it∈ω.ex)(hq:l[k]?=some q)(hr:Q6 n σ k q=some p)(k1:KN B ω s it k n l p Q) :
  wpAny (model B.prog B.w) A (pyNext (.ref it)) Q E s:=by
 have gC:∀{h'},Heap.SameBut it s.heap h'→AR ω s.heap ω h':=fun he=>.of_ex hit he.extBut
 cases x with
 | lst f c d r i=>exact(r.get hq).elim fun w z=>wpAny_pyNext_list_item i (Bj f.2.2.1 c d) (Array.getElem?_toList▸z.1) fun h' hi' he=>k1 w h' s.toks he.extBut (.lst ((gC he).fz _ _ f) c d (r.carry (gC he)) hi') (so hr▸z.2.carry (gC he))
 | loc e i=>exact AB hr fun l' hl hr=>I.lst_el e (FN hl) fun o vs m ho c d r=>(r.get hr).elim fun w z=>wpAny_pyNext_list_item i (Bj ho c.1 d) (Array.getElem?_toList▸z.1) fun h' hi' he=>k1 w h' s.toks he.extBut (.loc e hi') (z.2.carry (gC he))
 | rng hk i=>
  have hlt:=(List.getElem?_eq_some_iff.mp hq).1
  have hp:=(so hr).symm.trans (Ur hq)
  refine wpAny_pyNext_range_item i (by rw[←NY];lia) fun h' hi' he=>k1 _ h' _ he.extBut (.rng hlt ?_) (hp▸.int_in)
  show IsRangeIter h' it (_+((k:Int)+1)*_) (_-((k:Int)+1)) _
  rw[Int.add_mul,Int.one_mul,←Int.add_assoc,←Int.sub_sub]
  exact hi'
 | str i=>exact Vg hq fun c hc e=>wpAny_pyNext_ascii_item i hc fun h' hi' he=>k1 _ h' _ he.extBut (.str hi') (((so hr).symm.trans e)▸.str_in)
set_option tactic.hygienic true in
theorem MI{l:List PV}{n:Option Nat}{it:Addr}{k:Nat}{Q:Option Value→Shared→Prop}(hh:A.handled=none)(I:AL B ω σ s)(x:GT B.C ω s.heap it k n l)(hq:l.length≤k)(hf:bD n σ k=true)(k2:∀h',Heap.ExtBut it s.heap h'→Q none {s with heap:=h'}) :
  wpAny (model B.prog B.w) A (pyNext (.ref it)) Q E s:=by
 cases x with
 | lst f c d r i=>exact wpAny_pyNext_list_end hh i (Bj f.2.2.1 c d) (Array.getElem?_eq_none (by rw[r.size];exact hq)) k2
 | loc e i=>
  rename_i n a
  cases hl:Bv σ n with
  | none=>exact absurd (show((Bv σ n).elim false fun l=>l.length==k)=true from hf) (by rw[hl];exact Bool.false_ne_true)
  | some l'=>
   have hk:(l'.length==k)=true:=by have:=(show((Bv σ n).elim false fun l=>l.length==k)=true from hf);rw[hl]at this;exact this
   exact I.lst_el e (FN hl) fun o vs m ho c d r=>wpAny_pyNext_list_end hh i (Bj ho c.1 d) (Array.getElem?_eq_none (by rw[r.size];exact Nat.le_of_eq (beq_iff_eq.mp hk))) k2
 | rng hk i=>exact wpAny_pyNext_range_end hh i (by rw[←NY];lia) k2
 | str i=>exact wpAny_pyNext_ascii_end hh i (Array.getElem?_eq_none (by rw[←Array.length_toList,←List.length_map (f:=fun c=>PV.str ⟨#[c]⟩)];exact hq)) k2
end
structure Gx(ω:Wd)(own:List Addr)(h:Heap)(ω':Wd)(h':Heap)(X:List Addr):Prop where
 ext:∃e,ω'.mu=ω.mu++e∧∀a∈e,h.get? a=none
 ex:ω'.ex=ω.ex++X
 kp:Kp ω.mu own h h'
 there:∀b o,h.get? b=some o→∃o',h'.get? b=some o'
 new:∀a∈X,h.get? a=none
namespace Gx
variable{ω ω₁ ω₂:Wd}{own own':List Addr}{h h₁ h₂:Heap}{X:List Addr}{a:Addr}
theorem of_gw(g:Gw ω own h ω₁ h₁)(k:∀b o,h₁.get? b=some o→h₂.get? b=some o)(hx:∀a∈X,h₁.get? a=none):Gx ω own h ⟨ω₁.mu,ω₁.ex++X⟩ h₂ X:=
 ⟨g.ext,by rw[g.ex],fun b o e ht h1 h2=>(g.kp b o e ht h1 h2).trans (fun o' e' _=>.same (k b o' e')) ht,fun b o e=>let ⟨o',e'⟩:=g.there b o e;⟨o',k b o' e'⟩,
  fun a ha=>by
   cases q:h.get? a with
   | none=>rfl
   | some o=>obtain⟨o',e'⟩:=g.there a o q;rw[hx a ha]at e';cases e'⟩
theorem notin{b:Addr}{o:Obj}(g:Gx ω own h ω₁ h₁ X)(hb:b∉ω.mu)(ho:h.get? b=some o):b∉ω₁.mu:=by
 obtain⟨e,q,he⟩:=g.ext
 intro hm
 rw[q]at hm
 rcases List.mem_append.mp hm with q|q
 ·exact hb q
 ·rw[he b q]at ho;cases ho
theorem trans(g:Gx ω own h ω₁ h₁ X)(g':Gw ω₁ own' h₁ ω₂ h₂)(hs:∀a∈own',a∈own∨h.get? a=none):Gx ω own h ω₂ h₂ X:=by
 refine⟨?_,g'.ex.trans g.ex,fun b o e ht hm ho=>?_,fun b o e=>let ⟨o',e'⟩:=g.there b o e;g'.there b o' e',g.new⟩
 ·obtain⟨e,q,he⟩:=g.ext
  obtain⟨e',q',he'⟩:=g'.ext
  refine⟨e++e',by rw[q',q];simp,fun a ha=>?_⟩
  rcases List.mem_append.mp ha with q|q
  ·exact he a q
  ·cases q':h.get? a with
   | none=>rfl
   | some o=>obtain⟨o',e1⟩:=g.there a o q';rw[he' a q]at e1;cases e1
 ·exact(g.kp b o e ht hm ho).trans (fun o' e' ht'=>g'.kp b o' e' ht' (g.notin hm e) fun q=>(hs b q).elim ho fun z=>by rw[e]at z;cases z) ht
theorem step(g:Gx ω own h ω₁ h₁ X)(ha:h.get? a=none)(k:Heap.ExtBut a h₁ h₂):Gx ω own h ω₁ h₂ X:=
 ⟨g.ext,g.ex,fun b o e ht hm ho=>(g.kp b o e ht hm ho).trans (fun o' e' _=>.same (k b o' (Dq e ha) e')) ht,fun b o e=>let ⟨o',e'⟩:=g.there b o e;⟨o',k b o' (Dq e ha) e'⟩,g.new⟩
theorem stepAt(g:Gx ω own h ω₁ h₁ X)(ha:a∈X)(k:Heap.ExtBut a h₁ h₂):Gx ω own h ω₁ h₂ X:=g.step (g.new a ha) k
theorem drop(g:Gx ω own h ω₁ h₁ X):Gw ω own h ⟨ω₁.mu,ω.ex⟩ h₁:=⟨g.ext,rfl,g.kp,g.there⟩
end Gx
theorem AL.last{B:AV}{ω:Wd}{σ:St}{s:Shared}{ex':List Addr}{a:Addr}{h':Heap}{tk:Nat}(I:AL B ω σ s)(ha:a∈ω.ex)(hx:∀b∈ex',b∈ω.ex∧b≠a)(k:Heap.ExtBut a s.heap h') :
  AL B ⟨ω.mu,ex'⟩ σ {s with heap:=h',toks:=tk}:=by
 have gC:AR ω s.heap ⟨ω.mu,ex'⟩ h':=(AR.of_ex ha k).trans (.less rfl fun b hb=>(hx b hb).1)
 refine⟨I.bok,I.lim.extBut k (I.stat (I.new a (.inr ha))),Gp I.old (I.new a (.inr ha)) k,I.len,I.nodup,fun b hb=>I.new b (hb.imp id fun q=>(hx b q).1),fun b hb q=>I.apart b hb (hx b q).1,fun b hb=>?_,fun i b o e1 e2=>?_,I.os,I.gens,I.tab.carry I.bok I.new (fun b o e _ h2 _=>k b o (fun q=>h2 (q▸ha)) e) (fun _ q=>.inl q) fun b q=>.inl (hx b q).1⟩
 ·obtain⟨o,e⟩:=Option.isSome_iff_exists.mp (I.exl b (hx b hb).1);rw[k b o (hx b hb).2 e];rfl
 ·exact(I.objs i b o e1 e2).carry gC fun o e=>k b o (fun q=>I.apart b (List.mem_of_getElem? e1) (q▸ha)) e
theorem FR.unbar{c:Cx}{ω ω₀ ω':Wd}{h h₀ h':Heap}{m m₀:Fm}(F:FR c ω h m)(F₀:FR c ω₀ h₀ m₀)(hm:ω'.mu=ω.mu)(he:ω'.ex=ω₀.ex)(hs:∀a∈ω₀.ex,a∈ω.ex)(gc:AR ω h ω' h')(k:∀b∈ω₀.ex,∀o,h.get? b=some o→h'.get? b=some o):FR c ω' h' m:=
 have kn:∀{L f},L∈ω₀.ex→h.Ns L f→h'.Ns L f:=fun {L f} hL hN=>DS hN fun o e _=>.same (k L hL o e)
 have kc:∀{b v},b∈ω₀.ex→h.IsCell b v→h'.IsCell b v:=fun {b v} hL hN=>EY hN fun o e _=>.same (k b hL o e)
 ⟨F.len,F.kind,F.names,F.glob,F.blt,he▸F₀.own,fun a ha hx=>F.apart a (hm▸ha) (hs a (he▸hx)),F.loc,F.ns.elim fun f q=>⟨f,kn (F₀.own _ F₀.loc) q.1,fun i x p h1 h2 h3=>(q.2 i x p h1 h2 h3).elim fun v r=>⟨v,r.1,r.2.carry gc⟩⟩,
  fun i x p h1 h2 h3=>(F.cel i x p h1 h2 h3).elim fun a r=>r.elim fun v r=>⟨a,v,r.1,kc (F₀.celx x a r.1) r.2.1,r.2.2.carry gc⟩,
  fun x h1=>(F.celo x h1).elim fun a r=>r.elim fun v r=>⟨a,v,r.1,kc (F₀.celx x a r.1) r.2⟩,he▸F₀.celx,F.celw,F.inj,
  F.ff.elim fun l q=>F₀.ff.elim fun l₀ q₀=>⟨l,q.1,fun e he'=>⟨(q.2 e he').1,(q.2 e he').2.elim fun L r=>r.elim fun f r=>(q₀.2 e (so (q.1.symm.trans q₀.1)▸he')).2.elim fun L' r'=>r'.elim fun _ r'=>
   have hL:L∈ω₀.ex:=so (r'.1.symm.trans r.1)▸r'.2.1
   ⟨L,f,r.1,he▸hL,kn hL r.2.2⟩⟩⟩⟩
noncomputable def Cd:List Str→List (Option Expr)→Bool
 | [],ks=>ks.isEmpty
 | k::r,ks=>ks.head?.elim false fun e=>e.elim false (fun e=>isKstr k e)&&Cd r ks.tail
where isKstr (k:Str) (e:Expr):Bool:=match e with
 | .Constant (.str x) _ _=>x==k
 | _=>false
theorem JC{k:Str}{r:List Str}{ks:List (Option Expr)}{G:Prop}(h:Cd (k::r) ks=true)(g:∀q p ks',ks=some (.Constant (.str k) q p)::ks'→Cd r ks'=true→G):G:=by
 match ks,h with
 | none::_,h=>exact Bool.noConfusion (show false=true from h)
 | some e::ks',h=>
  refine AF (show(Cd.isKstr k e&&Cd r ks')=true from h) fun h1 h2=>?_
  cases e with
  | Constant x n q=>cases x with
   | str x=>exact g n q ks' (by rw[beq_iff_eq.mp (show(x==k)=true from h1)]) h2
   | _=>exact absurd h1 Bool.false_ne_true
  | _=>exact absurd h1 Bool.false_ne_true
theorem GU{C:Addr}{ω:Wd}{h:Heap}:∀{ks:List Str} {ps:List PV} {vs:List Value} {y:Str} {p:PV},VRs C ω h ps vs→(ks.zip ps).lookup y=some p→∃v,valueAt (ks.zip vs) y=some v∧VR C ω h p v
 | [],_,_,_,_,_,e=>nomatch e
 | _::_,[],_,_,_,_,e=>nomatch e
 | k::ks,q::ps,_,y,p,x,e=>x.cons_el (Ps:=fun vs=>∃v,valueAt ((k::ks).zip vs) y=some v∧VR C ω h p v) fun v r a b=>by
  rw[List.zip_cons_cons,List.lookup_cons]at e
  rw[List.zip_cons_cons]
  unfold valueAt
  rw[List.find?_cons]
  cases hb:y==k with
  | true=>
   rw[hb]at e
   have hk:k=y:=(beq_iff_eq.mp hb).symm
   rw[decide_eq_true hk]
   exact⟨v,rfl,so (show some q=some p from e)▸a⟩
  | false=>
   rw[hb]at e
   have hk:¬k=y:=fun q=>by rw[q,beq_self_eq_true]at hb;exact Bool.noConfusion hb
   rw[decide_eq_false hk]
   exact GU b (show(ks.zip ps).lookup y=some p from e)
section
variable{c:Cx}{Φ:Nat→Option Spec}
theorem Iy{pos:Pos}:∀{xs:XL} {es:List Expr} {ks:List Str} {keys:List (Option Expr)},A2 c Φ xs es→Cd ks keys=true→∀ω m σ s (Q:List (Value×Value)→Shared→Prop) E ps σ',FR c ω s.heap m→AL c.B ω σ s→evL Φ xs m σ=some (ps,σ')→ps.length=ks.length →
  (∀vs ts ω' s',Gw ω [] s.heap ω' s'.heap→AL c.B ω' σ' s'→VRs c.B.C ω' s'.heap ps vs→Carries (strKind c.B.prog c.B.w) ts (ks.zip vs)→ts.length=ks.length→Q ts s') →
  wpAny (model c.B.prog c.B.w) c.A (evalPairs (pairTrees keys es c.env pos)) Q E s
 | .nil,[],ks,keys,_,hk=>fun ω m σ s Q E ps σ' F I e hl k=>by
  cases so (show some (([]:List PV),σ)=some (ps,σ') from e)
  match ks,keys,hl,hk with
  | [],[],_,_=>exact evalPairs_nil (k [] [] ω s (.refl _ _ _) I .nil trivial rfl)
  | [],_::_,_,hk=>exact Bool.noConfusion (show false=true from hk)
 | .cons x r,e::es,ks,keys,h,hk=>fun ω m σ s Q E ps σ' F I he hl k=>AH he fun p σ₁ e₁ he=>AH he fun ps' σ₂ e₂ he=>by
  cases so he
  match ks,hl,hk with
  | kk::ks,hl,hk=>
  refine JC hk fun q p' keys' hks hk=>?_
  rw[hks]
  show wpAny _ _ (evalPairs ((eval (.Constant (.str kk) q p') c.env,do let x ←eval e c.env;standAt pos;pure x)::pairTrees keys' es c.env pos)) Q E s
  refine evalPairs_cons (wpAny_Constant_str (wpAny_bind (h.1.se ω m σ _ _ E p σ₁ F I.toks e₁ fun v ω₁ s₁ G₁ I₁ x₁=>wpAny_bind (wpAny_standAt (wpAny_pure ?_)))))
  exact Iy h.2 hk ω₁ m σ₁ s₁ _ E ps' σ' (F.gw G₁ I₁.apart) I₁ e₂ (Nat.succ.inj hl) fun vs ts ω₂ s₂ G₂ I₂ x₂ hc hn=>k (v::vs) _ ω₂ s₂ (G₁.trans G₂) I₂ (.cons_in (x₁.gw G₂) x₂) ⟨strKind_is _ _ _ _,rfl,hc⟩ (congrArg (·+1) hn)
 | .nil,_::_,_,_,h,_=>h.elim
 | .cons _ _,[],_,_,h,_=>h.elim
theorem KP{α β:Type}:∀{a:List α} {b:List β},b.length=a.length→(a.zip b).map (·.1)=a∧(a.zip b).map (·.2)=b
 | [],[],_=>⟨rfl,rfl⟩
 | x::a,y::b,h=>by
  have:=KP (Nat.succ.inj h)
  rw[List.zip_cons_cons,List.map_cons,List.map_cons,this.1,this.2]
  exact⟨rfl,rfl⟩
 | [],_::_,h=>nomatch h
 | _::_,[],h=>nomatch h
theorem Ld{α β:Type}:∀{l:List (α×β)},(l.map (·.1)).zip (l.map (·.2))=l
 | []=>rfl
 | x::r=>congrArg (x::·) Ld
theorem Lr:∀{ks:List Str} {keys:List (Option Expr)},Cd ks keys=true→keys.length=ks.length∧keys.all (·.isSome)=true
 | [],[],_=>⟨rfl,rfl⟩
 | [],_::_,h=>Bool.noConfusion (show false=true from h)
 | k::ks,keys,h=>JC h fun q p keys' e h'=>by
  have:=Lr h'
  rw[e,List.length_cons,List.length_cons,this.1]
  exact⟨rfl,by simpa using this.2⟩
theorem A2.len:∀{xs:XL} {es:List Expr},A2 c Φ xs es→∀{m:Fm} {σ σ':St} {ps:List PV},evL Φ xs m σ=some (ps,σ')→ps.length=es.length
 | .nil,[],_,m,σ,σ',ps,e=>by cases so (show some (([]:List PV),σ)=some (ps,σ') from e);rfl
 | .cons x r,e::es,h,m,σ,σ',ps,he=>AH he fun p σ₁ e₁ he=>AH he fun ps' σ₂ e₂ he=>by
  cases so he
  exact congrArg (·+1) (A2.len h.2 e₂)
 | .nil,_::_,h,_,_,_,_,_=>h.elim
 | .cons _ _,[],h,_,_,_,_,_=>h.elim
theorem QT{B:AV}{ω:Wd}{σ:St}{s:Shared}{n:Nat}{d:Addr}{l:List (Str×PV)}(I:AL B ω σ s)(hd:ω.mu[n]?=some d)(e:Sr σ n=some l):∃vs,s.heap.DictOf (strKind B.prog B.w) d ((l.map (·.1)).zip vs)∧VRs B.C ω s.heap (l.map (·.2)) vs:=
 AB e fun o e1 e2=>I.objs n d (.dct l) hd (UO e2▸e1)
set_option maxHeartbeats 1000000 in
theorem gX{ks:List Str}{xs:XL}{k:X}{es:List Expr}{keys:List (Option Expr)}{le:Expr}{dpos pos:Pos}(h:A2 c Φ xs es)(hk:Cd ks keys=true)(hne:ks≠[])(h1:SE c le (ev Φ k))(hs:∀o i,∃ops,subscripted le false o i=operate ops (getItem o i)) :
  SE c (.Subscript (.Dict keys es dpos) le pos) (ev Φ (.dsp ks xs k)):=
 fun ω m σ s Q E p σ' F I e kk=>AH e fun ps σ₁ e₁ e=>AB e fun l e₂ e=>AJ e fun hg e=>AF hg fun g1 hg=>AF hg fun g2 hg=>AF hg fun g3 g4=>AH e fun q σ₂ e₃ e=>KE.vl e kk fun e kk=>AB e fun y hy e=>AB e fun l' hl' e=>by
  have hl:=An g2
  have hlen:=h.len e₁
  have kl:=Lr hk
  have hkl:keys.length=es.length:=by rw[kl.1,←hl,hlen]
  have hn:=Ar s.heap
  have hkp:=AO s.heap {cls:=.type "dict",data:=.dict #[]}
  have G₀:Gw ω [] s.heap ⟨ω.mu++[s.heap.objs.size],ω.ex⟩ (s.heap.push {cls:=.type "dict",data:=.dict #[]}):=FM hn hkp
  have I₀:AL c.B ⟨ω.mu++[s.heap.objs.size],ω.ex⟩ (σ++[.dct []]) {s with heap:=s.heap.push {cls:=.type "dict",data:=.dict #[]}}:=I.push (tk:=s.toks) hn hkp ⟨[],Heap.DictOf.new _,.nil⟩
  have hd₀:(ω.mu++[s.heap.objs.size])[σ.length]?=some s.heap.objs.size:=I.at_new
  refine Subscript_ (wpAny_Dict_pairs (knd:=strKind c.B.prog c.B.w) (pairs:=pairTrees keys es c.env dpos) (zip_pairTrees keys es c.env dpos kl.2 hkl) (fun q=>?_) (by rw[pairTrees_length keys es c.env dpos kl.2 hkl,kl.1];exact An g4) ?_)
  ·have:=pairTrees_length keys es c.env dpos kl.2 hkl
   rw[q,kl.1]at this
   exact hne (List.eq_nil_of_length_eq_zero this.symm)
  ·refine Iy h hk ⟨ω.mu++[s.heap.objs.size],ω.ex⟩ m _ {s with heap:=s.heap.push {cls:=.type "dict",data:=.dict #[]}} _ E ps σ₁ (F.gw G₀ I₀.apart) I₀ e₁ hl fun vs ts ω₁ s₁ G₁ I₁ x₁ hc htl=>?_
   have hd₁:ω₁.mu[σ.length]?=some s.heap.objs.size:=G₁.idx hd₀
   obtain⟨us,D₁,_⟩:=QT I₁ hd₁ e₂
   rw[List.isEmpty_iff.mp g1]at D₁
   have hvl:vs.length=ks.length:=by rw[x₁.length,hl]
   have mz:=KP hvl
   have mp:=KP hl
   refine⟨ks.zip vs,hc,D₁,fun h' D₂ hs₂=>?_⟩
   rw[merged_nil_of_nodup _ (by rw[mz.1];exact An g3)]at D₂
   have hm:=List.mem_of_getElem? hd₁
   have ht:∃o',h'.get? s.heap.objs.size=some o':=D₂.elim fun o q=>q.elim fun _ q=>q.elim fun _ q=>⟨o,q.1⟩
   have G₂:Gw ω₁ [] s₁.heap ω₁ h':=.of_ext (.inl hm) hs₂.extBut ht
   have I₂:AL c.B ω₁ (σ₁.set σ.length (.dct (ks.zip ps))) {s₁ with heap:=h',toks:=s₁.toks+ts.length}:=I₁.set (tk:=s₁.toks+ts.length) hd₁ hs₂.extBut ⟨vs,by rw[mp.1];exact D₂,by rw[mp.2];exact x₁.carry (.of_mu hm hs₂.extBut)⟩
   have G02:=(G₀.trans G₁).trans G₂
   refine h1 ω₁ m _ {s₁ with heap:=h',toks:=s₁.toks+ts.length} _ E q σ₂ (F.gw G02 I₂.apart) I₂ e₃ fun w ω₃ s₃ G₃ I₃ x₃=>x₃.str_vr hy fun t=>?_
   have hd₃:ω₃.mu[σ.length]?=some s.heap.objs.size:=G₃.idx hd₁
   obtain⟨us₃,D₃,y₃⟩:=QT I₃ hd₃ hl'
   have e':((l'.map (·.1)).zip (l'.map (·.2))).lookup y=some p:=by
    rw[Ld]
    exact e
   obtain⟨v,hv,xv⟩:=GU y₃ e'
   obtain⟨ops,ho⟩:=hs (.ref s.heap.objs.size) (.str y t)
   exact tail_any D₃.typeIs slot_dict_getitem.lookup (wpAny_getItem_of (knd:=strKind c.B.prog c.B.w) (strKind_is _ _ _ _) D₃.mapOf hv ((KE.gw kk (G02.trans G₃)).tk I₃ xv _)) ho
end
noncomputable def e0:Expr:=.Name "" ⟨0,0,0,0⟩
structure K where
 tag:Nat
 a:Expr:=e0
 b:Expr:=e0
 d:Expr:=e0
 l:List Expr:=[]
 x:Str := ""
 c:Const:=.none
 o:Operator:=.Add
 u:UnaryOp:=.Not
 bo:BoolOp:=.And
 cs:List CmpOp:=[]
 kw:List Keyword:=[]
 p:Pos:=⟨0,0,0,0⟩
 oa:Option Expr:=none
 ob:Option Expr:=none
 oc:Option Expr:=none
 ar:Arguments:=⟨[],[],none,[],[],none,[]⟩
 sc:Scope:=⟨.function,[],false,false,[]⟩
 g:List Comprehension:=[]
 i:Int:=0
 ks:List (Option Expr):=[]
noncomputable def kd(e:Expr):K:=match e with
 | .Name x _=>{tag:=0,x:=x}
 | .Constant c _ _=>{tag:=1,c:=c}
 | .BinOp a o b _=>{tag:=2,a:=a,o:=o,b:=b}
 | .UnaryOp u a _=>{tag:=3,u:=u,a:=a}
 | .Compare a cs l _=>{tag:=4,a:=a,cs:=cs,l:=l}
 | .BoolOp bo l _=>{tag:=5,bo:=bo,l:=l}
 | .IfExp a b d _=>{tag:=6,a:=a,b:=b,d:=d}
 | .Tuple l _ _=>{tag:=7,l:=l}
 | .List l _=>{tag:=8,l:=l}
 | .Call a l kw p=>{tag:=9,a:=a,l:=l,kw:=kw,p:=p}
 | .Attribute a x p=>{tag:=10,a:=a,x:=x,p:=p}
 | .Subscript a b _=>{tag:=11,a:=a,b:=b}
 | .Slice oa ob oc _=>{tag:=12,oa:=oa,ob:=ob,oc:=oc}
 | .Lambda ar _ sc p=>{tag:=13,ar:=ar,sc:=sc,p:=p}
 | .ListComp a g sc _=>{tag:=14,a:=a,g:=g,sc:=sc}
 | .JoinedStr l _=>{tag:=15,l:=l}
 | .FormattedValue a i ob _=>{tag:=16,a:=a,i:=i,ob:=ob}
 | .Starred _ _=>{tag:=17}
 | .Set _ _ _=>{tag:=18}
 | .SetComp _ _ _ _=>{tag:=19}
 | .DictComp _ _ _ _ _=>{tag:=20}
 | .Dict ks l _=>{tag:=21,ks:=ks,l:=l}
 | .GeneratorExp a g sc p=>{tag:=22,a:=a,g:=g,sc:=sc,p:=p}
 | _=>{tag:=99}
noncomputable def aE(e:Expr)(k:K):List Prop:=[
 ∃p,e=.Name k.x p,
 ∃q p,e=.Constant k.c q p,
 ∃p,e=.BinOp k.a k.o k.b p,
 ∃p,e=.UnaryOp k.u k.a p,
 ∃p,e=.Compare k.a k.cs k.l p,
 ∃p,e=.BoolOp k.bo k.l p,
 ∃p,e=.IfExp k.a k.b k.d p,
 ∃q p,e=.Tuple k.l q p,
 ∃p,e=.List k.l p,
 e=.Call k.a k.l k.kw k.p,
 e=.Attribute k.a k.x k.p,
 ∃p,e=.Subscript k.a k.b p,
 ∃p,e=.Slice k.oa k.ob k.oc p,
 ∃b,e=.Lambda k.ar b k.sc k.p,
 ∃p,e=.ListComp k.a k.g k.sc p,
 ∃p,e=.JoinedStr k.l p,
 ∃p,e=.FormattedValue k.a k.i k.ob p,True,True,True,True,
 ∃p,e=.Dict k.ks k.l p,
 e=.GeneratorExp k.a k.g k.sc k.p]
theorem lD(e:Expr):(aE e (kd e)).getD (kd e).tag True:=by
 cases e<;>first|exact trivial | exact rfl | exact⟨_,rfl⟩ | exact⟨_,_,rfl⟩
def Au(n:Nat)(e:Expr):Bool:=(kd e).tag==n
theorem AY{n:Nat}{e:Expr}(h:Au n e=true):(aE e (kd e)).getD n True:=(beq_iff_eq.mp h:(kd e).tag=n)▸lD e
noncomputable def GC:List Nat→List PV→Fm→Fm
 | i::is,p::ps,m=>GC is ps (m.set i (some p))
 | _,_,m=>m
noncomputable def cD(is:List Nat):Option Nat:=match is with | [i]=>some i | _=>none
def Cr(is:List Nat)(p:PV)(m:Fm):Option Fm:=(cD is).elim (bd p.tup? fun l=>gd (decide (is.length=l.length)) (some (GC is l m))) fun i=>some (m.set i (some p))
noncomputable def HT(Γ:Sc)(x:Str):Bool:=Γ.names.lookup x==some .local||(Γ.names.lookup x==some .cell&&Γ.ownN.contains x)
def Bm(Γ:Sc)(i:Nat)(e:Expr):Bool:=Au 0 e&&(Γ.vis i (kd e).x&&HT Γ (kd e).x)
def Et(Γ:Sc):List Nat→List Expr→Bool
 | [],es=>es.isEmpty
 | i::is,es=>es.head?.elim false fun e=>Bm Γ i e&&Et Γ is es.tail
def Ed(Γ:Sc)(is:List Nat)(e:Expr):Bool:=(cD is).elim (Au 7 e&&Et Γ is (kd e).l) fun i=>Bm Γ i e
def Ml(Γ:Sc)(x:Str):Prop:=Γ.names.lookup x=some .local∨(Γ.names.lookup x=some .cell∧x∈Γ.ownN)
theorem Kg{Γ:Sc}{x:Str}(h:HT Γ x=true):Ml Γ x:=by
 unfold HT at h;unfold Ml
 simpa using h
theorem Bs{Γ:Sc}{i:Nat}{e:Expr}{G:Prop}(h:Bm Γ i e=true)(k:∀x p,e=.Name x p→Γ.vis i x=true→Ml Γ x→G):G:=
 CY h fun h1 h2 h3=>(show ∃p,e=.Name (kd e).x p from AY h1).elim fun p he=>k _ p he h2 (Kg h3)
theorem GS{Γ:Sc}{i:Nat}{is:List Nat}{es:List Expr}{G:Prop}(h:Et Γ (i::is) es=true)(k:∀e r,es=e::r→Bm Γ i e=true→Et Γ is r=true→G):G:=
 match es,h with
 | e::r,h=>AF h fun h1 h2=>k e r rfl h1 h2
theorem IB{Γ:Sc}{es:List Expr}(h:Et Γ [] es=true):es=[]:=List.isEmpty_iff.mp h
section
variable{c:Cx}{ω:Wd}{σ:St}{s:Shared}{m:Fm}{E:Value→Shared→Prop}
abbrev KS(c:Cx)(ω:Wd)(σ:St)(s:Shared)(m':Fm)(Q:Unit→Shared→Prop):Prop:=
 ∀h' tk,Gw ω c.own s.heap ω h'→AL c.B ω σ {s with heap:=h',toks:=tk}→FR c ω h' m'→Q () {s with heap:=h',toks:=tk}
theorem El{i:Nat}{e:Expr}{p:PV}{v:Value}{Q:Unit→Shared→Prop}(F:FR c ω s.heap m)(I:AL c.B ω σ s)(ht:Bm c.Γ i e=true)(r:VR c.B.C ω s.heap p v)
  (k:KS c ω σ s (m.set i (some p)) Q):wpAny (model c.B.prog c.B.w) c.A (assign e c.env v) Q E s:=
 Bs ht fun x p he h1 h2=>by rw[he];exact wpAny_assign_Name (CR F I h1 h2 r k)
theorem Dw{Γ:Sc}{i:Nat}{e:Expr}{es:List Expr}{env:Env}(ht:Bm Γ i e=true):assignEach (e::es) env=(false,assign e env)::assignEach es env:=
 Bs ht fun x p he _ _=>by rw[he];rfl
theorem HR{Q:Unit→Shared→Prop}:∀{is:List Nat} {es:List Expr} {l:List PV} {vs:List Value} {s:Shared} {m:Fm},FR c ω s.heap m→AL c.B ω σ s→Et c.Γ is es=true→is.length=l.length→VRs c.B.C ω s.heap l vs →
  KS c ω σ s (GC is l m) Q→wpAny (model c.B.prog c.B.w) c.A (assignInOrder ((assignEach es c.env).map (·.2)) vs) Q E s
 | [],es,[],vs,s,m,F,I,ht,_,r,k=>by
  rw[IB ht]
  exact r.nil_el (wpAny_pure (k s.heap s.toks (.refl _ _ _) I F))
 | i::is,es,p::l,vs,s,m,F,I,ht,hl,r,k=>GS ht fun e es' he h1 h2=>by
  rw[he,Dw h1]
  refine r.cons_el fun v t a b=>?_
  show wpAny _ _ (do holding t (assign e c.env v);assignInOrder ((assignEach es' c.env).map (·.2)) t) Q E s
  exact wpAny_bind (wpAny_holding (El F I h1 a fun h' tk G I' F'=>HR F' I' h2 (Nat.succ.inj hl) (b.carry (.of_gw G F.own)) fun h'' tk' G' I'' F''=>k h'' tk' (G.trans G') I'' F''))
 | [],_,_::_,_,_,_,_,_,_,hl,_,_=>nomatch hl
 | _::_,_,[],_,_,_,_,_,_,hl,_,_=>nomatch hl
theorem HX{Γ:Sc}{env:Env}:∀{is:List Nat} {es:List Expr},Et Γ is es=true→(assignEach es env).length=is.length∧(assignEach es env).findIdx? (·.1)=none
 | [],es,h=>by rw[IB h];exact⟨rfl,rfl⟩
 | i::is,es,h=>GS h fun e es' he h1 h2=>by
  have ih:=HX (env:=env) h2
  rw[he,Dw h1]
  exact⟨congrArg (·+1) ih.1,by rw[List.findIdx?_cons,ih.2];rfl⟩
theorem Fd{is:List Nat}{e:Expr}{p:PV}{v:Value}{m':Fm}{Q:Unit→Shared→Prop}(hh:c.A.handled=none)(F:FR c ω s.heap m)(I:AL c.B ω σ s)(ht:Ed c.Γ is e=true)(hb:Cr is p m=some m')(r:VR c.B.C ω s.heap p v)
  (k:KS c ω σ s m' Q):wpAny (model c.B.prog c.B.w) c.A (assign e c.env v) Q E s:=by
 unfold Ed at ht
 unfold Cr at hb
 cases ho:cD is with
 | some i=>
  rw[ho]at ht hb
  exact El F I ht r (so (show some (m.set i (some p))=some m' from hb)▸k)
 | none=>
  rw[ho]at ht hb
  refine AF ht fun h1 h2=>AB hb fun l e1 hb=>AJ hb fun hl hb=>(show ∃q p,e=.Tuple (kd e).l q p from AY h1).elim fun q he=>he.elim fun p' he=>?_
  have n:=HX (env:=c.env) h2
  rw[he]
  refine VR.tup_el (P:=fun v=>wpAny (model c.B.prog c.B.w) c.A (assign (.Tuple (kd e).l q p') c.env v) Q E s) (HI e1▸r) fun a o vs n' f hc hd rr=>wpAny_assign_Tuple hh ⟨o,f.2.2.1,hc,n',hd⟩ (by rw[n.1,An hl,rr.size]) n.2 fun h' he=>?_
  have hk:∀b o,s.heap.get? b=some o→h'.get? b=some o:=fun b o e=>he b o (Nat.ne_of_lt (Heap.lt_size e)) e
  exact HR (F.gw (.of_keep hk) I.apart) (I.keep (tk:=s.toks) hk) h2 (An hl) (rr.carry (.of_keep hk)) fun h'' tk' G' I'' F''=>(show KS c ω σ s (GC is l m) Q from(so hb).symm▸k) h'' tk' (.trans (.of_keep hk) G') I'' F''
theorem eR:∀T∈R9,(["enumerate","zip","dict_itemiterator","dict_reverseitemiterator","odict_iterator","itertools.zip_longest","itertools.pairwise"].contains T)=false:=by decide
theorem GN{target:Expr}{it:Addr}{v:Value}{o:Obj}{vs:Array Value}{T:String}{Q:Unit→Shared→Prop}(ho:s.heap.get? it=some o)(hd:o.data=.fields vs)(hc:o.cls=.type T)
  (hT:T∈R9) (k:Q () s):wpAny (model c.B.prog c.B.w) c.A (letOwnedTupleGo target (.ref it) v) Q E s:=by
 have main:wpAny (model c.B.prog c.B.w) c.A (do
  let (.ref r,.ref a):=(Value.ref it,v) | return
  let o ←load r
  match o.cls,o.data with
  | .type n,.fields vs=>
   if["enumerate","zip","dict_itemiterator","dict_reverseitemiterator","odict_iterator","itertools.zip_longest","itertools.pairwise"].contains n&&vs[0]?==some (rawInt a) then
    rule "for.unpacks-the-owned-tuple"
    updateField r 0 .none
  | _,_=>pure ():Sem Unit) Q E s:=by
  cases v with
  | ref a=>
   refine wpAny_bind (wpAny_load ho ?_)
   rw[hc,hd]
   have hn:=eR T hT
   simp only[hn,Bool.false_and,Bool.false_eq_true,if_false]
   exact wpAny_pure k
  | _=>exact wpAny_pure k
 unfold letOwnedTupleGo
 cases target<;>first|exact main | exact wpAny_pure k
end
section
variable{prog:Program}{w:World}{A:Around}{E:Value→Shared→Prop}{R:Result→Shared→Prop}{s:Shared}
theorem IU{elt target iter:Expr}{ifs:List Expr}{scope:Scope}{pos:Pos}{it acc:Value}{env:Env}(I:Nat→Shared→Prop)
  (turn:∀n s,I n s→wpAny (model prog w) A (pyNext it) (fun r s₁=>match r with
   | none=>R (.ok .next) s₁
   | some v=>wpAny (model prog w) A (letOwnedTupleGo target it v) (fun _ s₁'=>wpAny (model prog w) A (assign target env v) (fun _ s₂=>
     wpAny (model prog w) A (forIn ifs true (Je env)) (fun ok s₃=>
      if ok=true then wpAny (model prog w) A (eval elt env) (fun x s₄=>
       wpAny (model prog w) A (call (.builtin "list.append") [acc,x]) (fun _ s₅=>∃m,m<n∧I m s₅) (notedBy (model prog w) A env fun e s'=>R (.error e) s') s₄) (notedBy (model prog w) A env fun e s'=>R (.error e) s') s₃
      else ∃m,m<n∧I m s₃) (notedBy (model prog w) A env fun e s'=>R (.error e) s') s₂) (notedBy (model prog w) A env fun e s'=>R (.error e) s') s₁') (notedBy (model prog w) A env fun e s'=>R (.error e) s') s₁) (notedBy (model prog w) A env fun e s'=>R (.error e) s') s)
  (n:Nat) (h:I n s):codeAny (model prog w) A (.compLoop (.ListComp elt [⟨target,iter,ifs,0⟩] scope pos) 0 it acc env) R s:=by
 refine codeAny_loop rfl I (fun n s hI=>?_) n h
 show wpAny _ A ((compTurn (.ListComp elt [⟨target,iter,ifs,0⟩] scope pos) 0 it acc env).onRaise (fun x=>do noteFrame x env;theTreesLotGoes x)) _ _ s
 refine wpAny_noted ?_
 rw[compTurn_list]
 refine wpAny_bind (wpAny_standAt (wpAny_bind (wpAny_mono (turn n s hI) (fun r s₁ h₁=>?_) fun _ _ h'=>h')))
 cases r with
 | none=>exact wpAny_pure h₁
 | some v=>
  refine wpAny_bind (wpAny_mono h₁ (fun _ s₁' h₁'=>?_) fun _ _ h'=>h')
  refine wpAny_bind (wpAny_mono h₁' (fun _ s₂ h₂=>wpAny_bind (wpAny_mono h₂ (fun ok s₃ h₃=>?_) fun _ _ h'=>h')) fun _ _ h'=>h')
  cases ok with
  | false=>exact wpAny_pure ⟨rfl,h₃⟩
  | true=>
   exact wpAny_bind (wpAny_bind (wpAny_mono h₃ (fun x s₄ h₄=>wpAny_bind (wpAny_mono h₄ (fun _ s₅ h₅=>wpAny_pure (wpAny_pure ⟨rfl,h₅⟩)) fun _ _ h'=>h')) fun _ _ h'=>h'))
end
theorem Gw.stay{ω ω':Wd}{own:List Addr}{h h':Heap}{a:Addr}{o:Obj}(g:Gw ω own h ω' h')(hm:a∉ω.mu)(ho:a∉own)(e:h.get? a=some o)(hd:¬EA o)(ht:¬EL o):h'.get? a=some o:=
 (g.kp a o e ht hm ho).2 hd
theorem Iq{o:Obj}{vs:Array Value}{T:String}(hd:o.data=.fields vs)(hc:o.cls=.type T):¬EA o∧¬EL o:=
 ⟨fun⟨_,_,e⟩=>(nomatch hd.symm.trans e),fun q=>(nomatch hc.symm.trans q.1)⟩
theorem GT.gw{C:Addr}{ω ω':Wd}{own:List Addr}{h h':Heap}{n:Option Nat}{l:List PV}{it:Addr}{k:Nat}(x:GT C ω h it k n l)(g:Gw ω own h ω' h')(hs:∀a∈own,a∈ω.ex)(hm:it∉ω.mu)(ho:it∉own):GT C ω' h' it k n l:=
 x.obj fun o vs T h1 h2 h3 _=>x.carry (.of_gw g hs) fun o' e=>by
  cases h1.symm.trans e
  have nd:=Iq h2 h3
  exact g.stay hm ho h1 nd.1 nd.2
theorem GT.live{C:Addr}{ω:Wd}{h:Heap}{n:Option Nat}{l:List PV}{it:Addr}{k:Nat}(x:GT C ω h it k n l):(h.get? it).isSome=true:=x.obj fun o vs T h1 _ _ _=>by rw[h1];rfl
theorem GT.plain{C:Addr}{ω:Wd}{h:Heap}{n:Option Nat}{l:List PV}{it:Addr}{k:Nat}(x:GT C ω h it k n l):∀o,h.get? it=some o→¬EA o∧∀v,o.data≠.cell v:=fun o e=>x.obj fun o' vs T h1 h2 h3 _=>by
 cases h1.symm.trans e
 exact⟨(Iq h2 h3).1,fun v q=>(nomatch h2.symm.trans q)⟩
theorem ct{α:Type}{x y:Option α}{r:α}(e:cond true x y=some r):x=some r:=e
theorem cf{α:Type}{x y:Option α}{r:α}(e:cond false x y=some r):y=some r:=e
theorem DT{l r:List PV}{q:PV}{i:Nat}(h:q::r=l.drop i):l[i]?=some q∧r=l.drop (i+1):=
 ⟨by rw[←Nat.add_zero i,←List.getElem?_drop,←h];rfl,by rw[←List.tail_drop,←h];rfl⟩
section
variable{c:Cx}{Φ:Nat→Option Spec}
theorem Oc{α:Type}(m:List α)(x y:α)(r:List α):(m++x::r).set m.length y=m++y::r:=by
 rw[List.set_append_right _ _ (Nat.le_refl _),Nat.sub_self];rfl
theorem mY{α:Type}{l:List α}(h:l.length=2):∃x y,l=[x,y]:=
 (List.exists_cons_of_length_eq_add_one h).elim fun x e=>e.elim fun r e=>(List.length_eq_one_iff.mp (Nat.succ.inj (e▸h:(x::r).length=2))).elim fun y e'=>⟨x,y,e.trans (e'▸rfl)⟩
theorem PP{m mm bs:Fm}{ar:Nat}{p:PV}{G:Prop}(hm:mm.length=ar)(hb:Ni ar p=some bs)(k:Cr (List.range' m.length ar) p (m++mm)=some (m++bs)→bs.length=ar→G):G:=
 match ar,hb,hm,k with
 | 1,hb,hm,k=>(List.length_eq_one_iff.mp hm).elim fun x e=>by
  subst e
  cases so (show some [some p]=some bs from hb)
  exact k (congrArg some (Oc m x _ [])) rfl
 | 2,hb,hm,k=>(mY hm).elim fun x e=>e.elim fun y e=>AB (show(bd p.tup? fun l=>bd (two? l) fun x=>some [some x.1,some x.2])=some bs from hb) fun l e1 hb=>AB hb fun q e2 hb=>by
  subst e
  cases so hb
  refine k ?_ rfl
  rw[HI e1,NM (i:=q.1) (j:=q.2) e2]
  refine congrArg some ((congrArg (List.set · (m.length+1) (some q.2)) (Oc m x (some q.1) [y])).trans ?_)
  show(m++[some q.1,y]).set (m.length+1) (some q.2)=_
  rw[List.set_append_right (m.length+1) _ (Nat.le_succ _),Nat.add_sub_cancel_left];rfl
structure CL(c:Cx)(X:List Addr)(ω₀:Wd)(h₀:Heap)(it D:Addr)(n:Option Nat)(l:List PV)(m mm:Fm)(accs:List PV)(vs:Array Value)(en i:Nat)(ω:Wd)(h:Heap):Prop where
 g:Gx ω₀ [] h₀ ω h X
 F:FR c ω h (m++mm)
 hI:GT c.B.C ω h it i n l
 hL:IsL h D vs en
 hr:VRs c.B.C ω h accs vs.toList
structure CA(c:Cx)(X:List Addr)(h₀:Heap)(it D:Addr):Prop where
 own:∀a∈c.own,h₀.get? a=none
 hD:D∈X
 hit:it∈X
 ne:D≠it
 Do:D∉c.own
 ito:it∉c.own
section
variable{X:List Addr}{ω₀:Wd}{h₀:Heap}{it D:Addr}{n:Option Nat}{l:List PV}{m mm mm':Fm}{accs:List PV}{vs:Array Value}{en i:Nat}{ω ω':Wd}{h h':Heap}
theorem CL.inX(S:CL c X ω₀ h₀ it D n l m mm accs vs en i ω h){a:Addr}(ha:a∈X):a∈ω.ex:=by rw[S.g.ex];exact List.mem_append_right _ ha
theorem CL.gw(S:CL c X ω₀ h₀ it D n l m mm accs vs en i ω h)(a:CA c X h₀ it D){own:List Addr}(G:Gw ω own h ω' h')(ho:∀b∈own,b∈c.own)(F:FR c ω' h' (m++mm')):CL c X ω₀ h₀ it D n l m mm' accs vs en i ω' h':=
 have hx:∀b∈own,b∈ω.ex:=fun b hb=>S.F.own b (ho b hb)
 have nm:∀{b},b∈X→b∉ω.mu:=fun hb q=>S.F.apart _ q (S.inX hb)
 ⟨S.g.trans G fun b hb=>.inr (a.own b (ho b hb)),F,S.hI.gw G hx (nm a.hit) (fun q=>a.ito (ho _ q)),G.stay (nm a.hD) (fun q=>a.Do (ho _ q)) S.hL (fun⟨_,_,e⟩=>(nomatch e)) (fun q=>(nomatch q.1)),S.hr.carry (.of_gw G hx)⟩
theorem CL.next(S:CL c X ω₀ h₀ it D n l m mm accs vs en i ω h)(a:CA c X h₀ it D)(k:Heap.ExtBut it h h')(hI:GT c.B.C ω h' it (i+1) n l):CL c X ω₀ h₀ it D n l m mm accs vs en (i+1) ω h':=
 ⟨S.g.stepAt a.hit k,S.F.exstep (S.inX a.hit) k S.hI.plain,hI,k D _ a.ne S.hL,S.hr.carry (.of_ex (S.inX a.hit) k)⟩
theorem CL.push(S:CL c X ω₀ h₀ it D n l m mm accs vs en i ω h)(a:CA c X h₀ it D){y:PV}{u:Value}{en':Nat}(k:Heap.SameBut D h h')(hL:IsL h' D (vs.push u) en')(hu:VR c.B.C ω h y u):CL c X ω₀ h₀ it D n l m mm (accs++[y]) (vs.push u) en' i ω h':=
 have gc:AR ω h ω h':=.of_ex (S.inX a.hD) k.extBut
 ⟨S.g.stepAt a.hD k.extBut,S.F.exstep (S.inX a.hD) k.extBut (fun o e=>by cases S.hL.symm.trans e;exact⟨fun⟨_,_,q⟩=>(nomatch q),fun v q=>(nomatch q)⟩),S.hI.carry gc (fun o e=>k.extBut it o (Ne.symm a.ne) e),hL,by rw[Array.toList_push];exact(S.hr.carry gc).append (.one (hu.carry gc))⟩
end
inductive CI(c:Cx)(Φ:Nat→Option Spec)(X:List Addr)(ω₀:Wd)(h₀:Heap)(it D:Addr)(n:Option Nat)(l:List PV)(m:Fm)(ar:Nat)(xe:Sh.X)(xi:XL)(res:List PV)(σf:St)(s:Shared):Nat→Prop
 | mk {r accs:List PV} {i en:Nat} {ω:Wd} {σ:St} {mm:Fm} {vs:Array Value} (hr:r=l.drop i) (go:EF n ar (evT Φ xi) (ev Φ xe) m r i σ accs=some (res,σf)) (I:AL c.B ω σ s) (hm:mm.length=ar) (S:CL c X ω₀ h₀ it D n l m mm accs vs en i ω s.heap):CI c Φ X ω₀ h₀ it D n l m ar xe xi res σf s r.length
set_option tactic.hygienic true in
theorem PF{target iter elt:Expr}{ifs:List Expr}{scope:Scope}{pos:Pos}{xe:Sh.X}{xi:XL}{m mm:Fm}{l:List PV}{it D:Addr}{X:List Addr}{ω₀ ω:Wd}{h₀:Heap}{R:Result→Shared→Prop}{res:List PV}{σ σf:St}{ar en:Nat}{n:Option Nat}{s:Shared}
  (hh:c.A.handled=none) (ht:Ed c.Γ (List.range' m.length ar) target=true) (he:SE c elt (ev Φ xe)) (hi:A2 c Φ xi ifs) (a:CA c X h₀ it D)
  (hR:∀ω₁ s' h' vs en mm i,CL c X ω₀ h₀ it D n l m mm res vs en i ω₁ s'.heap→AL c.B ω₁ σf s'→Heap.ExtBut it s'.heap h'→R (.ok .next) {s' with heap:=h'})
  (I:AL c.B ω σ s) (S:CL c X ω₀ h₀ it D n l m mm [] #[] en 0 ω s.heap) (hmm:mm.length=ar) (hg:EF n ar (evT Φ xi) (ev Φ xe) m l 0 σ []=some (res,σf)) :
  codeAny (model c.B.prog c.B.w) c.A (.compLoop (.ListComp elt [⟨target,iter,ifs,0⟩] scope pos) 0 (.ref it) (.ref D) c.env) R s:=by
 refine IU (fun k s'=>CI c Φ X ω₀ h₀ it D n l m ar xe xi res σf s' k) (fun k s' hI=>CZ fun Q₁ E₁ hQ₁ _=>?_) l.length (.mk (i:=0) rfl hg I hmm S)
 cases hI with
 | mk hr go I₁ hm S₁=>
 rename_i r accs i en ω₁ σ₁ mm vs
 cases r with
 | nil=>exact AJ go fun hf go=>MI hh I₁ S₁.hI (List.drop_eq_nil_iff.mp hr.symm) hf fun h' he=>hQ₁ _ _ (hR ω₁ s' h' vs en mm i ((Prod.mk.inj (so go)).1▸S₁) ((Prod.mk.inj (so go)).2▸I₁) he)
 | cons q r=>
  refine AJ go fun hlen go=>AB go fun p hp go=>AB go fun bs hbs go=>AH go fun t σ₂ hts go=>PP (m:=m) hm hbs fun hbT hbl=>Iu I₁ S₁.hI (S₁.inX a.hit) (DT hr).1 hp fun v h₂ tk he₂ hI₂ hv=>hQ₁ _ _ ?_
  have S₂:=S₁.next a he₂ hI₂
  refine hI₂.obj fun io ivs T hio hiod hioc hT=>GN (s:={s' with heap:=h₂,toks:=tk}) hio hiod hioc hT (Fd hh S₂.F (I₁.exstep (tk:=tk) (S₁.inX a.hit) he₂ hI₂.live) ht hbT hv fun h₃ tk₃ G₃ I₃ F₃=>CZ fun Q₂ E₂ hQ₂ _=>hi.ifs ω₁ _ σ₁ _ _ _ t σ₂ F₃ I₃ hts fun ω₄ s₄ G₄ I₄=>hQ₂ _ _ ?_)
  have S₄:=(S₂.gw a G₃ (fun _ q=>q) F₃).gw a G₄ (fun _ q=>nomatch q) (F₃.gw G₄ I₄.apart)
  cases t with
  | false=>exact(if_neg Bool.false_ne_true).mpr ⟨_,Nat.lt_succ_self _,.mk (DT hr).2 go I₄ hbl S₄⟩
  | true=>
   refine(if_pos rfl).mpr (CZ fun Q₃ E₃ hQ₃ _=>?_)
   exact AH (ct go) fun y σ₅ hev go=>he ω₄ _ σ₂ s₄ _ _ y σ₅ S₄.F I₄ hev fun u ω₅ s₅ G₅ I₅ hu=>
    have S₅:=S₄.gw a G₅ (fun _ q=>nomatch q) (S₄.F.gw G₅ I₅.apart)
    hQ₃ _ _ <| wpAny_list_append_plain ⟨en,S₅.hL⟩ (fun h' hp' hs'=>hp'.elim fun en' hL₆=>⟨_,Nat.lt_succ_self _,.mk (DT hr).2 go (I₅.exstep (tk:=s₅.toks) (S₅.inX a.hD) hs'.extBut (by rw[hL₆];rfl)) hbl (S₅.push a hs' hL₆ hu)⟩) (by rw[S₅.hr.size];exact Aa hlen)
end
noncomputable def KW(Γ:Sc)(x:Str)(k:NameKind):NameKind:=if k==.free&&Γ.names.lookup x==some .cell then .cell else k
def Pm(Γ:Sc)(names:List (Str×NameKind)):List (Str×NameKind):=names.map fun x=>(x.1,KW Γ x.1 x.2)
def GP(Γ:Sc)(scope:Scope)(ts:List Str):Sc:=⟨Pm Γ scope.names,Γ.nt++ts,(scope.names.filter fun x=>x.2==.cell).map (·.1)⟩
noncomputable def GR(Γ:Sc)(ts:List Str)(x:Str×NameKind):Bool:=match x.2 with
 | .local=>x.1==(".0" : Str)||ts.contains x.1
 | .cell=>ts.contains x.1
 | .free=>Γ.names.lookup x.1==some .cell||Γ.names.lookup x.1==some .free
 | _=>true
def Kh(Γ:Sc)(scope:Scope)(ts:List Str):Bool:=
 scope.kind==.function&&scope.names.all (fun x=>scope.names.lookup x.1==some x.2)&&scope.names.all (GR Γ ts)&&!((Γ.nt++ts).contains (".0" : Str))
theorem GK(Γ:Sc)(x:Str):∀names:List (Str×NameKind),(Pm Γ names).lookup x=(names.lookup x).map (KW Γ x)
 | []=>rfl
 | (n,k)::r=>by
  show List.lookup x ((n,KW Γ n k)::Pm Γ r)=_
  simp only[List.lookup_cons]
  cases hb:x==n with
  | true=>rw[beq_iff_eq.mp hb];rfl
  | false=>exact GK Γ x r
theorem Mv{Γ:Sc}{scope:Scope}{env:Env}(hk:env.scope.kind=.function)(hn:env.scope.names=Γ.names):(relabel scope env).names=Pm Γ scope.names:=by
 unfold relabel Pm KW
 simp only[hk]
 congr 1
 funext x
 obtain⟨n,k⟩:=x
 have:env.kindOf n=Γ.names.lookup n:=by show env.scope.names.lookup n=_;rw[hn]
 simp only[this,beq_self_eq_true,Bool.and_true]
 split<;>rfl
noncomputable def Dy(env:Env):List (Str×NameKind)→List (Str×Addr)→List (Str×Addr)
 | [],acc=>acc
 | (n,k)::r,acc=>Dy env r (if k==.free then(n,(env.cells.lookup n).getD 0)::acc else acc)
theorem Le{env:Env}:∀{names:List (Str×NameKind)} {acc:List (Str×Addr)} {x:Str} {a:Addr},(x,a)∈Dy env names acc→(x,a)∈acc∨((x,.free)∈names∧a=(env.cells.lookup x).getD 0)
 | [],_,_,_,h=>.inl h
 | (n,k)::r,acc,x,a,h=>by
  rcases Le (names:=r) h with h|⟨h1,h2⟩
  ·split at h
   ·rename_i hk
    rcases List.mem_cons.mp h with e|h
    ·cases e;rw[beq_iff_eq.mp hk];exact .inr ⟨.head _,rfl⟩
    ·exact .inl h
   ·exact .inl h
  ·exact .inr ⟨.tail _ h1,h2⟩
theorem Lw{env:Env}:∀{names:List (Str×NameKind)} {acc:List (Str×Addr)} {x:Str},((x,.free)∈names∨∃a,(x,a)∈acc)→∃a,(x,a)∈Dy env names acc
 | [],_,_,h=>h.elim (fun q=>nomatch q) id
 | (n,k)::r,acc,x,h=>by
  apply Lw (names:=r)
  rcases h with h|⟨a,h⟩
  ·rcases List.mem_cons.mp h with e|h
   ·cases e;exact .inr ⟨(env.cells.lookup n).getD 0,by simp⟩
   ·exact .inl h
  ·refine .inr ⟨a,?_⟩
   split
   ·exact .tail _ h
   ·exact h
theorem BG{α:Type}:∀{l:List (Str×α)} {x:Str} {a:α},(x,a)∈l→∃b,l.lookup x=some b
 | (k,v)::r,x,a,h=>by
  rw[List.lookup_cons]
  cases hb:x==k with
  | true=>exact⟨v,rfl⟩
  | false=>
   rcases List.mem_cons.mp h with e|h
   ·cases e;simp at hb
   ·exact BG h
theorem Dp{env:Env}{scope:Scope}(h:∀x,(x,NameKind.free)∈scope.names→∃a,env.cells.lookup x=some a):closureFor scope env=pure (Dy env scope.names []):=by
 have key:∀(names:List (Str×NameKind)) (acc:List (Str×Addr)),(∀x,(x,NameKind.free)∈names→∃a,env.cells.lookup x=some a) →
   (forIn names acc (fun(x:Str×NameKind) (r:List (Str×Addr))=>if(x.2==NameKind.free)=true then(do let a ←cellOf env x.1;pure (ForInStep.yield ((x.1,a)::r))) else pure (ForInStep.yield r)):Sem (List (Str×Addr)))=pure (Dy env names acc):=by
  intro names
  induction names with
  | nil=>intro acc _;rw[List.forIn_nil];rfl
  | cons x r ih=>
   intro acc hn
   obtain⟨n,k⟩:=x
   rw[List.forIn_cons]
   have hr:∀x,(x,NameKind.free)∈r→∃a,env.cells.lookup x=some a:=fun x hx=>hn x (.tail _ hx)
   cases hk:k==NameKind.free with
   | true=>
    obtain⟨a,ha⟩:=hn n (by rw[beq_iff_eq.mp hk];exact .head _)
    have hc:cellOf env n=pure a:=by unfold cellOf;rw[ha]
    simp only[hk,if_true,hc,pure_bind]
    rw[ih _ hr]
    simp[Dy,ha,hk]
   | false=>
    simp only[hk,Bool.false_eq_true,if_false,pure_bind]
    rw[ih _ hr]
    simp[Dy,hk]
 unfold closureFor
 have:=key scope.names [] h
 show(forIn scope.names [] _ >>= fun cs=>pure cs)=_
 rw[bind_pure]
 exact this
theorem CQ:∀(names:List (Str×NameKind)) (n:Nat) (acc:List (Str×Addr)),cellsFrom n names acc=cellsFrom n names []++acc
 | [],_,_=>rfl
 | (x,k)::r,n,acc=>by
  unfold cellsFrom
  split
  ·rw[CQ r (n+1) ((x,n)::acc),CQ r (n+1) [(x,n)]];simp
  ·exact CQ r n acc
theorem DF:∀{names:List (Str×NameKind)} {n:Nat} {acc:List (Str×Addr)} {x:Str} {a:Addr},(x,a)∈cellsFrom n names acc→(x,a)∈acc∨(x,.cell)∈names
 | [],_,_,_,_,h=>.inl h
 | (y,k)::r,n,acc,x,a,h=>by
  unfold cellsFrom at h
  split at h
  ·rename_i hk
   rcases DF h with h|h
   ·rcases List.mem_cons.mp h with e|h
    ·cases e;rw[beq_iff_eq.mp hk];exact .inr (.head _)
    ·exact .inl h
   ·exact .inr (.tail _ h)
  ·rcases DF h with h|h
   ·exact .inl h
   ·exact .inr (.tail _ h)
theorem Bc:∀{names:List (Str×NameKind)} {n:Nat} {acc:List (Str×Addr)} {x:Str},((x,.cell)∈names∨∃a,(x,a)∈acc)→∃a,(x,a)∈cellsFrom n names acc
 | [],_,_,_,h=>h.elim (fun q=>nomatch q) id
 | (y,k)::r,n,acc,x,h=>by
  unfold cellsFrom
  split
  ·apply Bc
   rcases h with h|⟨a,h⟩
   ·rcases List.mem_cons.mp h with e|h
    ·cases e;exact .inr ⟨_,.head _⟩
    ·exact .inl h
   ·exact .inr ⟨a,.tail _ h⟩
  ·rename_i hk
   apply Bc
   rcases h with h|h
   ·rcases List.mem_cons.mp h with e|h
    ·cases e;simp at hk
    ·exact .inl h
   ·exact .inr h
theorem Mf{M:Model}{A:Around}{E:Value→Shared→Prop}{s:Shared}{scope:Scope}{globals:Addr}{cl:List (Str×Addr)}{qual:Str}{outer:Env}{builtins:Addr}{Q:Env→Shared→Prop}
  (hQ:Q (newEnv scope s.heap.objs.size globals (cellsFrom (s.heap.objs.size+1) scope.names cl) qual none .none (some outer) builtins) {s with heap:=pushCells (s.heap.push {cls:=.type "dict",data:=.dict #[]}) scope.names}) :
  wpAny M A (newFunctionEnv scope globals cl [] qual none .none (some outer) builtins) Q E s:=by
 simp only[newFunctionEnv,Option.isSome_some,if_true]
 refine wpAny_bind (wpAny_alloc ?_)
 refine wpAny_bind (wpAny_layCells _ (fun name kind cells=>by cases hkc:kind==NameKind.cell<;>simp[hkc]) _ _ _ _ ?_)
 rw[show({s with heap:=s.heap.push {cls:=.type "dict",data:=.dict #[]}}:Shared).heap.objs.size=s.heap.objs.size+1 from Heap.size_push ..]
 refine wpAny_bind ?_
 rw[List.forIn_nil]
 exact wpAny_pure (wpAny_pure hQ)
theorem Kr{Γ:Sc}{scope:Scope}{ts:List Str}(h:Kh Γ scope ts=true):scope.kind=.function∧(∀x∈scope.names,scope.names.lookup x.1=some x.2)∧(∀x∈scope.names,GR Γ ts x=true)∧((".0" : Str)∉Γ.nt∧(".0" : Str)∉ts):=by
 simp only[Kh,Bool.and_eq_true,beq_iff_eq,List.all_eq_true,Bool.not_eq_true',List.contains_eq_mem,decide_eq_false_iff_not,List.mem_append,not_or]at h
 exact⟨h.1.1.1,fun x hx=>h.1.1.2 x hx,h.1.2,h.2⟩
theorem Cq{α:Type}{l:List (Str×α)}{n:Str}{c:α}(h:l.lookup n=some c):(n,c)∈l:=mem_of_lookup h
theorem UZ{c:Cx}{scope:Scope}{ts:List Str}{C:Addr}{cs:List (Str×Addr)}{ω₀:Wd}{h₀ h:Heap}{m:Fm}{X:List Addr}(F:FR c ω₀ h₀ m)(hB:Kh c.Γ scope ts=true)(k:∀b o,h₀.get? b=some o→h.get? b=some o)
  (hexl:∀a∈ω₀.ex,(h₀.get? a).isSome=true)
  (hns:h.Ns C (fun _=>none)) (hcs:∀n a,(n,a)∈cs→h.IsCell a none∧h₀.get? a=none∧(n,.cell)∈scope.names) (hap:cs.Pairwise fun x y=>x.2≠y.2)
  (hcx:∀n,(n,.cell)∈scope.names→∃a,(n,a)∈cs) (hX1:C∈X) (hX2:∀n a,(n,a)∈cs→a∈X) (hXn:∀a∈X,h₀.get? a=none) (ap:∀a∈ω₀.mu,a∉ω₀.ex++X) :
  FR ⟨c.B,c.A,compEnvC scope (cs++Dy c.env scope.names []) C c.env,C::cs.map (·.2),GP c.Γ scope ts⟩ ⟨ω₀.mu,ω₀.ex++X⟩ h (m++List.replicate ts.length none):=by
 obtain⟨b1,b2,b3,b4,b5⟩:=Kr hB
 have gc:AR ω₀ h₀ ⟨ω₀.mu,ω₀.ex++X⟩ h:=(AR.more (ω:=ω₀) (ω':=⟨ω₀.mu,ω₀.ex++X⟩) rfl fun a ha=>(List.mem_append.mp ha).imp id (hXn a)).trans (.of_keep k)
 have hbound:∀(i:Nat) (x:Str) (p:PV),(GP c.Γ scope ts).vis i x=true→(m++List.replicate ts.length none)[i]?=some (some p)→c.Γ.vis i x=true∧m[i]?=some (some p)∧x∉ts∧x∈c.Γ.nt:=by
  intro i x p hv hm
  have hi:i<m.length:=by
   by_cases q:i<m.length
   ·exact q
   ·rw[List.getElem?_append_right (by lia),List.getElem?_replicate]at hm
    split at hm<;>cases hm
  rw[List.getElem?_append_left hi]at hm
  obtain⟨v1,v2⟩:=Sc.vis_at hv
  have hi':i<c.Γ.nt.length:=F.len▸hi
  have v1':c.Γ.nt[i]?=some x:=by
   have:(c.Γ.nt++ts)[i]?=some x:=v1
   rwa [List.getElem?_append_left hi']at this
  have v2':x∉(c.Γ.nt++ts).drop (i+1):=v2
  rw[List.drop_append,List.mem_append,not_or]at v2'
  have hz:i+1-c.Γ.nt.length=0:=by omega
  rw[hz,List.drop_zero]at v2'
  refine⟨?_,hm,v2'.2,List.mem_of_getElem? v1'⟩
  simp only[Sc.vis,v1',List.contains_eq_mem,Bool.and_eq_true,Bool.not_eq_true',decide_eq_false_iff_not,beq_self_eq_true,true_and]
  exact v2'.1
 have hlk:∀x k',(GP c.Γ scope ts).names.lookup x=some k'→∃k₀,(x,k₀)∈scope.names∧KW c.Γ x k₀=k':=by
  intro x k' hx
  have hx':(Pm c.Γ scope.names).lookup x=some k':=hx
  rw[GK,Option.map_eq_some_iff]at hx'
  obtain⟨k₀,e1,e2⟩:=hx'
  exact⟨k₀,mem_of_lookup e1,e2⟩

 have hcells:∀(x:Str) (a:Addr),(cs++Dy c.env scope.names []).lookup x=some a→((x,a)∈cs)∨((x,NameKind.free)∈scope.names∧c.env.cells.lookup x=some a):=by
  intro x a hx
  rw[List.lookup_append]at hx
  cases q:cs.lookup x with
  | some b=>rw[q]at hx;cases hx;exact .inl (mem_of_lookup q)
  | none=>
   rw[q]at hx
   have hm:=mem_of_lookup (l:=Dy c.env scope.names []) hx
   rcases Le hm with h1|⟨h1,h2⟩
   ·cases h1
   ·refine .inr ⟨h1,?_⟩
    have:=b3 _ h1
    simp only[GR,Bool.or_eq_true,beq_iff_eq]at this
    obtain⟨a',v,e,_⟩:=F.celo x this
    rw[e]at h2 ⊢;rw[h2];rfl
 have hfree:∀x,(x,NameKind.free)∈scope.names→∃a v,(cs++Dy c.env scope.names []).lookup x=some a∧c.env.cells.lookup x=some a∧h₀.IsCell a v:=by
  intro x hx
  have:=b3 _ hx
  simp only[GR,Bool.or_eq_true,beq_iff_eq]at this
  obtain⟨a,v,e,hc⟩:=F.celo x this
  have hnone:cs.lookup x=none:=by
   cases q:cs.lookup x with
   | none=>rfl
   | some b=>
    have h1:=(hcs x b (mem_of_lookup q)).2.2
    have h2:=b2 _ h1;have h3:=b2 _ hx
    simp only at h2 h3
    rw[h2]at h3;cases h3
  obtain⟨a',ha'⟩:=Lw (env:=c.env) (names:=scope.names) (acc:=[]) (.inl hx)
  obtain⟨b,hb⟩:=BG ha'
  have hl:(cs++Dy c.env scope.names []).lookup x=some b:=by rw[List.lookup_append,hnone];exact hb
  rcases hcells x b hl with q|⟨_,q⟩
  ·obtain⟨d,hd⟩:=BG q;rw[hnone]at hd;cases hd
  ·rw[q]at e;cases e
   exact⟨_,v,hl,q,hc⟩
 have hcellk:∀x,(x,NameKind.cell)∈scope.names→∃a,(cs++Dy c.env scope.names []).lookup x=some a∧(x,a)∈cs:=by
  intro x hx
  obtain⟨a,ha⟩:=hcx x hx
  obtain⟨b,hb⟩:=BG ha
  exact⟨b,by rw[List.lookup_append,hb];rfl,mem_of_lookup hb⟩
 refine⟨?_,b1,?_,F.glob,F.blt,fun a ha=>?_,ap,.head _,⟨_,hns,fun i x p h1 h2 h3=>?_⟩,fun i x p h1 h2 h3=>?_,fun x h1=>?_,fun x a hx=>?_,fun x hx a ha=>?_,fun x y a hx hy=>?_,?_⟩
 ·show(m++List.replicate ts.length none).length=(c.Γ.nt++ts).length
  simp[F.len]
 ·exact Mv F.kind F.names
 ·rcases List.mem_cons.mp ha with rfl|ha
  ·exact List.mem_append_right _ hX1
  ·obtain⟨⟨n,b⟩,hb,rfl⟩:=List.mem_map.mp ha
   exact List.mem_append_right _ (hX2 n b hb)
 ·obtain⟨g1,g2,g3,g4⟩:=hbound i x p h1 h2
  obtain⟨k₀,e1,e2⟩:=hlk x _ h3
  have:k₀=.local:=by
   unfold KW at e2
   split at e2
   ·cases e2
   ·exact e2
  subst this
  have:=b3 _ e1
  simp only[GR,Bool.or_eq_true,beq_iff_eq,List.contains_eq_mem,decide_eq_true_eq]at this
  rcases this with q|q
  ·exact absurd (q▸g4) b4
  ·exact absurd q g3
 ·obtain⟨g1,g2,g3,g4⟩:=hbound i x p h1 h2
  have hfr:(x,NameKind.free)∈scope.names:=by
   rcases h3 with h3|h3
   all_goals
    obtain⟨k₀,e1,e2⟩:=hlk x _ h3
    unfold KW at e2
    split at e2
    ·rename_i hc
     simp only[Bool.and_eq_true,beq_iff_eq]at hc
     rw[hc.1]at e1;exact e1
    ·subst e2
     first
      | exact e1
      | (have:=b3 _ e1;simp only[GR,List.contains_eq_mem,decide_eq_true_eq]at this;exact absurd this g3)
  obtain⟨a,v,e1,e2,e3⟩:=hfree x hfr
  have:=b3 _ hfr
  simp only[GR,Bool.or_eq_true,beq_iff_eq]at this
  obtain⟨a',v',q1,q2,q3⟩:=F.cel i x p g1 g2 this
  rw[e2]at q1;cases q1
  exact⟨a,v',e1,q2.keeps k,q3.carry gc⟩
 ·have hk:(x,NameKind.free)∈scope.names∨(x,NameKind.cell)∈scope.names:=by
   rcases h1 with h3|h3
   all_goals
    obtain⟨k₀,e1,e2⟩:=hlk x _ h3
    unfold KW at e2
    split at e2
    ·rename_i hc
     simp only[Bool.and_eq_true,beq_iff_eq]at hc
     rw[hc.1]at e1;exact .inl e1
    ·subst e2
     first|exact .inl e1 | exact .inr e1
  rcases hk with hk|hk
  ·obtain⟨a,v,e1,e2,e3⟩:=hfree x hk
   exact⟨a,v,e1,e3.keeps k⟩
  ·obtain⟨a,e1,e2⟩:=hcellk x hk
   exact⟨a,none,e1,(hcs x a e2).1⟩
 ·rcases hcells x a hx with q|⟨_,q⟩
  ·exact List.mem_append_right _ (hX2 x a q)
  ·exact List.mem_append_left _ (F.celx x a q)
 ·rcases hcells x a ha with q|⟨q,_⟩
  ·exact .tail _ (List.mem_map.mpr ⟨(x,a),q,rfl⟩)
  ·have hx':x∈(scope.names.filter fun x=>x.2==.cell).map (·.1):=hx
   obtain⟨⟨n,k₀⟩,h1,rfl⟩:=List.mem_map.mp hx'
   rw[List.mem_filter]at h1
   have hk:k₀=.cell:=beq_iff_eq.mp h1.2
   subst hk
   have e1:=b2 _ h1.1;have e2:=b2 _ q
   simp only at e1 e2
   rw[e1]at e2;cases e2
 ·rcases hcells x a hx with q|⟨_,q⟩<;>rcases hcells y a hy with q'|⟨_,q'⟩
  ·exact name_of_addr hap q q'
  ·have:=hexl a (F.celx y a q');rw[(hcs x a q).2.1]at this;cases this
  ·have:=hexl a (F.celx x a q);rw[(hcs y a q').2.1]at this;cases this
  ·exact F.inj x y a q q'
 ·obtain⟨l,hl,hll⟩:=F.ff
  refine⟨l,hl,fun e he=>?_⟩
  obtain⟨h1,L,f',h2,h3,h4⟩:=hll e he
  exact⟨h1,L,f',h2,List.mem_append_left _ h3,DS h4 fun o e _=>.same (k L o e)⟩
theorem Gx.carry{ω ω':Wd}{h h':Heap}{X:List Addr}(g:Gx ω [] h ω' h' X):AR ω h ω' h':=
 ⟨fun a o f=>⟨g.notin f.1 f.2.2.1,fun q=>(List.mem_append.mp (g.ex▸q)).elim f.2.1 fun q=>(nomatch (g.new a q).symm.trans f.2.2.1),(g.kp a o f.2.2.1 f.2.2.2.2 f.1 (fun q=>nomatch q)).2 f.2.2.2.1,f.2.2.2⟩,
  fun i a ha=>g.ext.elim fun e q=>by rw[q.1];exact(List.getElem?_append_left (List.getElem?_eq_some_iff.mp ha).1).trans ha⟩
theorem FR.gx{c:Cx}{ω ω':Wd}{h h':Heap}{m:Fm}{X:List Addr}(F:FR c ω h m)(g:Gx ω [] h ω' h' X)(ap:∀a∈ω'.mu,a∉ω'.ex):FR c ω' h' m:=
 have kk:∀a∈ω.ex,∀o,h.get? a=some o→¬EL o→KO o (h'.get? a):=fun a ha o e ht=>g.kp a o e ht (fun q=>F.apart a q ha) (fun q=>nomatch q)
 F.map (fun a ha=>by rw[g.ex];exact List.mem_append_left _ ha) ap g.carry (fun L _ hL q=>DS q (kk L hL)) fun b _ hb q=>EY q (kk b hb)
theorem CJ{h:Heap}{a:Addr}(ha:h.objs.size≤a):h.get? a=none:=by
 cases q:h.get? a with
 | none=>rfl
 | some o=>exact absurd (Heap.lt_size q) (Nat.not_lt.mpr ha)
theorem Gx.part{ω ω':Wd}{own:List Addr}{h h':Heap}{X X':List Addr}(g:Gx ω own h ω' h' X)(hx:∀a∈X',a∈X):Gx ω own h ⟨ω'.mu,ω.ex++X'⟩ h' X':=
 ⟨g.ext,rfl,g.kp,g.there,fun a ha=>g.new a (hx a ha)⟩
section
variable(sc:Scope)(h:Heap)(it:Addr)
noncomputable def zN:Heap:=h.push {cls:=.type "list",dict:=none,data:=.seq ([]:List Value).toArray}
def nC:Nat:=(zN h).objs.size
def iU:Heap:=(zN h).push {cls:=.type "dict",data:=.dict #[]}
def MU:Heap:=pushCells (iU h) sc.names
def MX:List (Str×Addr):=cellsFrom (nC h+1) sc.names []
def nX:List Addr:=h.objs.size::it::nC h::(MX sc h).map (·.2)
end
structure NC(sc:Scope)(h₁ h:Heap)(it:Addr):Prop where
 k:∀b o,h₁.get? b=some o→(MU sc h).get? b=some o
 kt:∀b o,h.get? b=some o→(MU sc h).get? b=some o
 hL:(MU sc h).get? h.objs.size=some {cls:=.type "list",dict:=none,data:=.seq ([]:List Value).toArray}
 ns:(MU sc h).Ns (nC h) (fun _=>none)
 cells:∀n a,(n,a)∈MX sc h→(MU sc h).IsCell a none∧h₁.get? a=none∧(n,.cell)∈sc.names
 ap:(MX sc h).Pairwise fun x y=>x.2≠y.2
 Dit:h.objs.size≠it
 itC:it≠nC h
 DX:h.objs.size∉nC h::(MX sc h).map (·.2)
 itX:it∉nC h::(MX sc h).map (·.2)
 none:∀a∈nX sc h it,h₁.get? a=none
 live:∀a∈nX sc h it,((MU sc h).get? a).isSome=true
theorem tE{sc:Scope}{h₁ h:Heap}{it:Addr}(k:∀b o,h₁.get? b=some o→h.get? b=some o)(hit:(h.get? it).isSome=true)(hn:h₁.get? it=none):NC sc h₁ h it:=by
 have hC:nC h=h.objs.size+1:=Heap.size_push ..
 have hH4s:(iU h).objs.size=nC h+1:=Heap.size_push ..
 have ok:=cellsFrom_ok sc.names (iU h) (iU h).objs.size [] ⟨(fun _ _ hm=>nomatch hm),List.Pairwise.nil⟩ (Nat.le_refl _)
 rw[hH4s]at ok
 have k35:∀b o,(zN h).get? b=some o→(MU sc h).get? b=some o:=fun b o e=>pushCells_keeps sc.names (iU h) b o (AO _ _ b o e)
 have k25:∀b o,h.get? b=some o→(MU sc h).get? b=some o:=fun b o e=>k35 b o (AO _ _ b o e)
 have itl:it<h.objs.size:=(Option.isSome_iff_exists.mp hit).elim fun _ e=>Heap.lt_size e
 have nle:∀a:Nat,h.objs.size≤a→h₁.get? a=none:=fun a ha=>
  match q:h₁.get? a with
  | none=>rfl
  | some o=>absurd (Heap.lt_size (k a o q)) (Nat.not_lt.mpr ha)
 have gt:∀(n:Str) (a:Nat),(n,a)∈MX sc h→nC h<a:=fun n a hm=>(ok.empty n a hm).2
 have ns4:(iU h).Ns (nC h) (fun _=>none):=Heap.Ns.new (zN h) (.type "dict")
 have ns5:(MU sc h).Ns (nC h) (fun _=>none):=DS ns4 fun o e _=>.same (pushCells_keeps sc.names (iU h) _ _ e)
 have hL:(MU sc h).get? h.objs.size=some {cls:=.type "list",dict:=none,data:=.seq ([]:List Value).toArray}:=k35 _ _ (BX _ _ rfl)
 have cells:∀n a,(n,a)∈MX sc h→(MU sc h).IsCell a none∧h₁.get? a=none∧(n,.cell)∈sc.names:=fun n a hm=>
  ⟨(ok.empty n a hm).1,nle a (Nat.le_of_lt (Nat.lt_of_le_of_lt (hC▸Nat.le_succ _) (gt n a hm))),(DF hm).elim (fun q=>nomatch q) id⟩
 refine⟨fun b o e=>k25 b o (k b o e),k25,hL,ns5,cells,ok.apart,Nat.ne_of_gt itl,hC▸Nat.ne_of_lt (Nat.lt_succ_of_lt itl),fun q=>?_,fun q=>?_,fun a ha=>?_,fun a ha=>?_⟩
 ·rcases List.mem_cons.mp q with q|q
  ·exact absurd (q.trans hC) (Nat.ne_of_lt (Nat.lt_succ_self _))
  ·have⟨⟨n,b⟩,hb,hbe⟩:=List.mem_map.mp q
   exact absurd (show h.objs.size+1<b from hC▸gt n b hb) (Nat.not_lt.mpr (Nat.le_trans (Nat.le_of_eq (show b=h.objs.size from hbe)) (Nat.le_succ _)))
 ·rcases List.mem_cons.mp q with q|q
  ·exact absurd (q.trans hC) (Nat.ne_of_lt (Nat.lt_succ_of_lt itl))
  ·have⟨⟨n,b⟩,hb,hbe⟩:=List.mem_map.mp q
   exact absurd (show h.objs.size+1<b from hC▸gt n b hb) (Nat.not_lt.mpr (Nat.le_of_lt (Nat.lt_succ_of_lt ((show b=it from hbe)▸itl))))
 ·rcases List.mem_cons.mp ha with rfl|ha
  ·exact nle _ (Nat.le_refl _)
  rcases List.mem_cons.mp ha with rfl|ha
  ·exact hn
  rcases List.mem_cons.mp ha with rfl|ha
  ·exact nle _ (hC▸Nat.le_succ _)
  have⟨⟨n,b⟩,hb,hbe⟩:=List.mem_map.mp ha
  exact hbe▸(cells n b hb).2.1
 ·rcases List.mem_cons.mp ha with rfl|ha
  ·rw[hL];rfl
  rcases List.mem_cons.mp ha with rfl|ha
  ·exact(Option.isSome_iff_exists.mp hit).elim fun o e=>by rw[k25 _ _ e];rfl
  rcases List.mem_cons.mp ha with rfl|ha
  ·exact ns5.elim fun o q=>q.elim fun _ q=>q.elim fun _ q=>by rw[q.1];rfl
  have⟨⟨n,b⟩,hb,hbe⟩:=List.mem_map.mp ha
  exact(cells n b hb).1.elim fun o q=>by rw[←hbe,q.1];rfl
section
variable{c:Cx}{Φ:Nat→Option Spec}
def kW(c:Cx)(sc:Scope)(ts:List Str)(h:Heap):Cx:=⟨c.B,c.A,compEnvC sc (MX sc h++Dy c.env sc.names []) (nC h) c.env,nC h::(MX sc h).map (·.2),GP c.Γ sc ts⟩
structure Jh(c:Cx)(Φ:Nat→Option Spec)(ar:Nat)(xe xit:X)(xi:XL)(elt target iter:Expr)(ifs:List Expr)(scope:Scope)(ts:List Str):Prop where
 hh:c.A.handled=none
 hit:SE c iter (ev Φ xit)
 hset:∀x,foldedSetIterable iter c.env x=pure x
 hB:Kh c.Γ scope ts=true
 hts:ts.length=ar
 htg:Ed (GP c.Γ scope ts) (List.range' c.Γ.nt.length ar) target=true
 he:∀c':Cx,c'.B=c.B→c'.A=c.A→c'.Γ=GP c.Γ scope ts→SE c' elt (ev Φ xe)
 hi:∀c':Cx,c'.B=c.B→c'.A=c.A→c'.Γ=GP c.Γ scope ts→A2 c' Φ xi ifs
def KU(c:Cx)(ω:Wd)(s:Shared)(m:Fm)(σ':St)(p:PV)(E:Value→Shared→Prop)(u:Value→Sem Unit)(Q:Value→Shared→Prop):Prop:=
 ∀v ω' s' X C f,Gx ω [] s.heap ω' s'.heap X→AL c.B ω' σ' s'→FR c ω' s'.heap m→VR c.B.C ω' s'.heap p v→C∈X→C∉c.own→s'.heap.Ns C f →
   wpAny (model c.B.prog c.B.w) c.A (u v) (fun _ s''=>∃f,s''.heap.Ns C f∧∀h',Heap.SameBut C s''.heap h'→Q .none {s'' with heap:=h'}) E s'
def KC(c:Cx)(ω:Wd)(s:Shared)(m:Fm)(σ':St)(p:PV)(E:Value→Shared→Prop)(use:Option (Value→Sem Unit))(Q:Value→Shared→Prop):Prop:=match use with
 | none=>KV c.B ω s.heap σ' p Q
 | some u=>KU c ω s m σ' p E u Q
section
variable{sc:Scope}{ts:List Str}{ω₁ ω₂:Wd}{σ':St}{s₁ s':Shared}{h h':Heap}{it:Addr}{n:Option Nat}{l res:List PV}{m mm:Fm}{vs:Array Value}{en i:Nat}
theorem YZ(N:NC sc s₁.heap h it)(S:CL (kW c sc ts h) (nX sc h it) ω₁ s₁.heap it h.objs.size n l m mm res vs en i ω₂ s'.heap)(hext:Heap.ExtBut it s'.heap h'):∃f,h'.Ns (nC h) f:=
 S.F.ns.elim fun f q=>⟨f,DS q.1 fun o e _=>.same (hext _ o (Ne.symm N.itC) e)⟩
theorem aG{ω':Wd}{h'':Heap}(N:NC sc s₁.heap h it)(S:CL (kW c sc ts h) (nX sc h it) ω₁ s₁.heap it h.objs.size n l m mm res vs en i ω₂ s'.heap)(hm:ω'.mu=ω₂.mu)(hD:h.objs.size∉ω'.ex)(gc:AR ω₂ s'.heap ω' h'')(k:∀o,s'.heap.get? h.objs.size=some o→h''.get? h.objs.size=some o) :
  VR c.B.C ω' h'' (.lst res) (.ref h.objs.size):=
 .lst_in ⟨fun q=>S.F.apart _ (hm▸q) (S.inX (.head _)),hD,k _ S.hL,fun⟨_,_,e⟩=>(nomatch e),fun q=>(nomatch q.1)⟩ rfl rfl (S.hr.carry gc)
theorem Pp(N:NC sc s₁.heap h it)(S:CL (kW c sc ts h) (nX sc h it) ω₁ s₁.heap it h.objs.size n l m mm res vs en i ω₂ s'.heap)(I':AL c.B ω₂ σ' s')(old:∀b∈ω₁.ex,b∉nX sc h it)(hext:Heap.ExtBut it s'.heap h'){Q:Value→Shared→Prop}
  (k:KV c.B ω₁ s₁.heap σ' (.lst res) Q):∃f,h'.Ns (nC h) f∧∀h'',Heap.SameBut (nC h) h' h''→Q (.ref h.objs.size) {s' with heap:=h''}:=by
 have hx:∀b∈ω₁.ex,b∈ω₂.ex:=fun b hb=>by rw[S.g.ex];exact List.mem_append_left _ hb
 have hCx:nC h∈ω₂.ex:=S.inX (.tail _ (.tail _ (.head _)))
 refine(YZ N S hext).elim fun f hf=>⟨f,hf,fun h'' hs=>k _ ⟨ω₂.mu,ω₁.ex⟩ _ ((S.g.stepAt (.tail _ (.head _)) hext).stepAt (.tail _ (.tail _ (.head _))) hs.extBut).drop ?_
  (aG N S rfl (fun q=>old _ q (.head _)) (((AR.of_ex (S.inX (.tail _ (.head _))) hext).trans (.of_ex hCx hs.extBut)).trans (.less rfl hx)) fun o e=>hs.extBut _ o (fun q=>N.DX (q▸.head _)) (hext _ o N.Dit e))⟩
 have J:=I'.last (ex':=ω₁.ex++[nC h]) (tk:=s'.toks) (S.inX (.tail _ (.head _))) (fun b hb=>(List.mem_append.mp hb).elim (fun q=>⟨hx b q,fun z=>old b q (z▸.tail _ (.head _))⟩) fun q=>List.mem_singleton.mp q▸⟨hCx,Ne.symm N.itC⟩) hext
 exact AL.last (ω:=⟨ω₂.mu,ω₁.ex++[nC h]⟩) (s:={s' with heap:=h'}) (tk:=s'.toks) J (List.mem_append_right _ (.head _)) (fun b hb=>⟨List.mem_append_left _ hb,fun z=>old b hb (z▸.tail _ (.tail _ (.head _)))⟩) hs.extBut
theorem PZ(N:NC sc s₁.heap h it)(F₁:FR c ω₁ s₁.heap m)(S:CL (kW c sc ts h) (nX sc h it) ω₁ s₁.heap it h.objs.size n l m mm res vs en i ω₂ s'.heap)(I':AL c.B ω₂ σ' s')(old:∀b∈ω₁.ex,b∉nX sc h it)(hext:Heap.ExtBut it s'.heap h'){Q E:Value→Shared→Prop}{u:Value→Sem Unit}
  (k:KU c ω₁ s₁ m σ' (.lst res) E u Q):wpAny (model c.B.prog c.B.w) c.A (u (.ref h.objs.size)) (fun _ s''=>∃f,s''.heap.Ns (nC h) f∧∀h',Heap.SameBut (nC h) s''.heap h'→Q .none {s'' with heap:=h'}) E {s' with heap:=h'}:=by
 have hx:∀b∈ω₁.ex++(nC h::(MX sc h).map (·.2)),b∈ω₂.ex:=fun b hb=>by
  rw[S.g.ex]
  exact(List.mem_append.mp hb).elim (List.mem_append_left _) fun q=>List.mem_append_right _ (.tail _ (.tail _ q))
 have J:=I'.last (ex':=ω₁.ex++(nC h::(MX sc h).map (·.2))) (tk:=s'.toks) (S.inX (.tail _ (.head _))) (fun b hb=>⟨hx b hb,fun z=>(List.mem_append.mp hb).elim (fun q=>old b q (z▸.tail _ (.head _))) fun q=>N.itX (z▸q)⟩) hext
 have g2:=(S.g.stepAt (.tail _ (.head _)) hext).part (X':=nC h::(MX sc h).map (·.2)) fun a ha=>.tail _ (.tail _ ha)
 exact(YZ N S hext).elim fun f hf=>k _ ⟨ω₂.mu,ω₁.ex++(nC h::(MX sc h).map (·.2))⟩ _ (nC h::(MX sc h).map (·.2)) (nC h) f g2 J (F₁.gx g2 J.apart)
  (aG N S rfl (fun q=>(List.mem_append.mp q).elim (fun q=>old _ q (.head _)) N.DX) ((AR.of_ex (S.inX (.tail _ (.head _))) hext).trans (.less rfl hx)) fun o e=>hext _ o N.Dit e) (.head _) (fun q=>old _ (F₁.own _ q) (.tail _ (.tail _ (.head _)))) hf
end
theorem Lq{ar:Nat}{xe xit:X}{xi:XL}{elt target iter:Expr}{ifs:List Expr}{scope:Scope}{pos pos':Pos}{ts:List Str}{ω:Wd}{m:Fm}{σ σ':St}{s:Shared}{E Q:Value→Shared→Prop}{p:PV}{use:Option (Value→Sem Unit)}
  (K:Jh c Φ ar xe xit xi elt target iter ifs scope ts) (F:FR c ω s.heap m) (I:AL c.B ω σ s) (e:ev Φ (.comp ar xe xit xi) m σ=some (p,σ')) (k:∀(ω₁:Wd) (s₁:Shared),Gw ω [] s.heap ω₁ s₁.heap→KC c ω₁ s₁ m σ' p E use Q) :
  wpAny (model c.B.prog c.B.w) c.A (comprehension (.ListComp elt [⟨target,iter,ifs,0⟩] scope pos) scope c.env pos' (newList []) false (eval iter c.env) use) Q E s:=by
 refine AH e fun pi σ₁ e₁ e=>AB e fun ln e₂ e=>AH e fun res σ₂ e₃ e=>?_
 have b:=Kr K.hB
 have hfree:∀x,(x,NameKind.free)∈scope.names→∃a,c.env.cells.lookup x=some a:=fun x hx=>by
  have:=b.2.2.1 _ hx
  simp only[GR,Bool.or_eq_true,beq_iff_eq]at this
  exact(F.celo x this).elim fun a q=>q.elim fun _ q=>⟨a,q.1⟩
 refine wpAny_comprehension_free (use:=use) rfl K.hset (Dp hfree) b.1 (fun x hx hl=>hl▸b.2.1 x hx) (K.hit ω m σ s _ E pi σ₁ F I e₁ fun v ω₁ s₁ G₁ I₁ x₁=>Oh (l:=ln.1) (n:=ln.2) I₁ x₁ e₂ fun it h hitn hito hk hI=>?_)
 have F₁:=F.gw G₁ I₁.apart
 refine wpAny_newObj_type (Mf ?_)
 have N:NC scope s₁.heap h it:=tE hk hito hitn
 have I₅:AL c.B ⟨ω₁.mu,ω₁.ex++nX scope h it⟩ σ₁ {s₁ with heap:=MU scope h}:=I₁.bar (tk:=s₁.toks) N.k rfl fun a ha=>(List.mem_append.mp ha).imp id fun q=>⟨N.none a q,N.live a q⟩
 have F₅:=UZ (X:=nX scope h it) F₁ K.hB N.k I₁.exl (C:=nC h) (cs:=MX scope h) N.ns N.cells N.ap (fun n hn=>Bc (n:=nC h+1) (acc:=[]) (.inl hn)) (.tail _ (.tail _ (.head _))) (fun n a hm=>.tail _ (.tail _ (.tail _ (List.mem_map.mpr ⟨(n,a),hm,rfl⟩)))) N.none I₅.apart
 have hI₅:GT c.B.C ⟨ω₁.mu,ω₁.ex++nX scope h it⟩ (MU scope h) it 0 ln.2 ln.1:=hI _ _ rfl (fun a ha=>(List.mem_append.mp ha).imp id (N.none a)) N.kt
 have old:∀b∈ω₁.ex,b∉nX scope h it:=fun b hb q=>by have:=I₁.exl b hb;rw[N.none b q]at this;exact Bool.false_ne_true this
 have loop:codeAny (model c.B.prog c.B.w) c.A (.compLoop (.ListComp elt [⟨target,iter,ifs,0⟩] scope pos) 0 (.ref it) (.ref h.objs.size) (kW c scope ts h).env) (compPost (model c.B.prog c.B.w) c.A E use Q (.ref h.objs.size) (nC h)) {s₁ with heap:=MU scope h}:=
  PF (c:=kW c scope ts h) (ω₀:=ω₁) (h₀:=s₁.heap) (X:=nX scope h it) (m:=m) (ar:=ar) K.hh (by rw[F.len];exact K.htg) (K.he _ rfl rfl rfl) (K.hi _ rfl rfl rfl) ⟨fun a ha=>N.none a (.tail _ (.tail _ ha)),.head _,.tail _ (.head _),N.Dit,N.DX,N.itX⟩
   (fun ω₂ s' h' vs en mm i S I' hext=>BF (P:=fun p σ'=>KC c ω₁ s₁ m σ' p E use Q→compPost (model c.B.prog c.B.w) c.A E use Q (.ref h.objs.size) (nC h) (.ok .next) {s' with heap:=h'}) e (fun k=>by
    cases use with
    | none=>exact Pp N S I' old hext k
    | some u=>exact PZ N F₁ S I' old hext k) (k ω₁ s₁ G₁))
   I₅ ⟨Gx.of_gw (.refl _ _ _) N.k N.none,F₅,hI₅,N.hL,.nil⟩ (by rw[List.length_replicate,K.hts]) e₃
 have goal:=codeAny_compStart_list (prog:=c.B.prog) (w:=c.B.w) (A:=c.A) (rest:=[]) loop (Uo (B:=c.B) (ω:=⟨ω₁.mu,ω₁.ex++nX scope h it⟩) (s:={s₁ with heap:=MU scope h}) hI₅ loop)
 rw[CQ]
 exact goal
end
inductive SR where
 | next | ret (p:PV) | brk | cont | exc (x:Str) | exm (x:Str)
abbrev ML:=Fm→St→Option (SR×Fm×St)
def s3{β:Type}(o:Option (SR×Fm×St))(f:SR→Fm→St→Option β):Option β:=match o with | some (a,m,σ)=>f a m σ | none=>none
theorem Ly{β:Type}{G:Prop}{o:Option (SR×Fm×St)}{f:SR→Fm→St→Option β}{r:β}(e:s3 o f=some r)(k:∀a m σ,o=some (a,m,σ)→f a m σ=some r→G):G:=
 match o,e,k with
 | some (a,m,σ),e,k=>k a m σ rfl e
 | none,e,_=>nn e
theorem EC{r r':SR}{m m':Fm}{σ σ':St}{P:SR→Fm→St→Prop}(e:some (r,m,σ)=some (r',m',σ'))(k:P r m σ):P r' m' σ':=by cases so e;exact k
noncomputable def KB(r:SR):Bool:=match r with | .next=>true | _=>false
def LS(r:SR)(again:Option (SR×Fm×St))(m:Fm)(σ:St):Option (SR×Fm×St):=match r with
 | .next=>again | .cont=>again | .brk=>some (.next,m,σ) | .ret p=>some (.ret p,m,σ) | _=>none
noncomputable def WH:Nat:=100000
def ED(t:Fm→St→Option (Bool×St))(b:ML):Nat→ML
 | 0,_,_=>none
 | n+1,m,σ=>sq (t m σ) fun tt σ=>cond tt (s3 (b m σ) fun r m σ=>LS r (ED t b n m σ) m σ) (some (.next,m,σ))
def Eo(n:Option Nat)(is:List Nat)(b:ML):List PV→Nat→ML
 | [],k,m,σ=>gd (bD n σ k) (some (.next,m,σ))
 | q::r,k,m,σ=>bd (Q6 n σ k q) fun p=>bd (Cr is p m) fun m=>s3 (b m σ) fun t m σ=>LS t (Eo n is b r (k+1) m σ) m σ
def Gg(Φ:Nat→Option Spec)(x:X)(m:Fm)(σ:St):Option (Bool×St):=sq (ev Φ x m σ) fun p σ=>bd (AT σ p) fun b=>some (b,σ)
def cP(op:Operator)(p q:PV):Option PV:=match op with
 | .Add=>ql (i2 p q fun a b=>some (.int (a+b))) (s2 p q fun x y=>gd (decide (x.length+y.length≤BM)) (some (.str (x++y))))
 | .Sub=>i2 p q fun a b=>some (.int (a-b))
 | _=>none
def PE(p q r:PV)(σ:St):Option St:=bd p.loc? fun n=>bd q.int? fun k=>bd (Bv σ n) fun l=>gd (decide (0≤k)&&(decide (k<l.length)&&decide (l.length≤BM))) (some (σ.set n (.lst (l.set k.toNat r))))
def UB(p q:PV)(σ:St):Option St:=bd p.loc? fun n=>bd q.int? fun k=>bd (Bv σ n) fun l=>gd (decide (0≤k)&&(decide (k<l.length)&&decide (l.length≤BM))) (some (σ.set n (.lst (l.eraseIdx k.toNat))))
def F1(p r:PV)(σ:St):Option St:=bd (Kw σ p) fun x=>bd r.byt? fun b=>gd (decide (b.size≤BM)) (some (σ.set x.1 (.sdict b)))
def lW(i:Nat)(o:Oi)(m:Fm)(σ:St):SR×Fm×St:=match o with
 | .val p=>(.next,m.set i (some p),σ)
 | .exc x=>(.exc x,m,σ)
mutual
noncomputable def Ab(Φ:Nat→Option Spec):S→Fm→St→Option (SR×Fm×St)
 | .bad,_,_=>none
 | .ex x,m,σ=>sq (ev Φ x m σ) fun _ σ=>some (.next,m,σ)
 | .as i x,m,σ=>sq (ev Φ x m σ) fun p σ=>some (.next,m.set i (some p),σ)
 | .asT is x,m,σ=>sq (ev Φ x m σ) fun p σ=>bd (Cr is p m) fun m=>some (.next,m,σ)
 | .asW is xs,m,σ=>sq (evL Φ xs m σ) fun ps σ=>gd (decide (is.length=ps.length)&&decide (ps.length≤BM)) (some (.next,GC is.reverse ps.reverse m,σ))
 | .asI a i x,m,σ=>sq (ev Φ x m σ) fun r σ=>sq (ev Φ a m σ) fun p σ=>sq (ev Φ i m σ) fun q σ=>bd (PE p q r σ) fun σ=>some (.next,m,σ)
 | .asV a x,m,σ=>sq (ev Φ x m σ) fun r σ=>sq (ev Φ a m σ) fun p σ=>bd (F1 p r σ) fun σ=>some (.next,m,σ)
 | .delI a i,m,σ=>sq (ev Φ a m σ) fun p σ=>sq (ev Φ i m σ) fun q σ=>bd (UB p q σ) fun σ=>some (.next,m,σ)
 | .aug i op x,m,σ=>bd (ZW m i) fun p=>sq (ev Φ x m σ) fun q σ=>bd (cP op p q) fun r=>some (.next,m.set i (some r),σ)
 | .iff t b o,m,σ=>sq (ev Φ t m σ) fun p σ=>bd (AT σ p) fun t=>cond t (evSL Φ b m σ) (evSL Φ o m σ)
 | .wh t b,m,σ=>ED (Gg Φ t) (evSL Φ b) WH m σ
 | .fo is it b,m,σ=>sq (ev Φ it m σ) fun p σ=>bd (EM σ p) fun x=>Eo x.2 is (evSL Φ b) x.1 0 m σ
 | .ret x,m,σ=>sq (ev Φ x m σ) fun p σ=>some (.ret p,m,σ)
 | .asr t,m,σ=>sq (ev Φ t m σ) fun p σ=>bd (AT σ p) fun t=>gd t (some (.next,m,σ))
 | .ra x,m,σ=>sq (ev Φ x m σ) fun p σ=>bd p.str? fun y=>some (.exm y,m,σ)
 | .brk,m,σ=>some (.brk,m,σ)
 | .cont,m,σ=>some (.cont,m,σ)
 | .callA i f xs,m,σ=>sq (evL Φ xs m σ) fun ps σ=>bd (Φ f) fun sp=>sq (sp ps σ) fun o σ=>some (lW i o m σ)
 | .tryR b w o,m,σ=>s3 (evSL Φ b m σ) fun r m σ=>match r with
  | .next=>evSL Φ o m σ
  | .exc x=>some (.next,m.set w (some (.str x)),σ)
  | _=>none
noncomputable def evSL(Φ:Nat→Option Spec):SL→Fm→St→Option (SR×Fm×St)
 | .nil,m,σ=>some (.next,m,σ)
 | .cons s r,m,σ=>s3 (Ab Φ s m σ) fun t m σ=>cond (KB t) (evSL Φ r m σ) (some (t,m,σ))
end
mutual
noncomputable def OF(n:Nat)(σ:St):Nat→PV→Option PV
 | 0,_=>none
 | k+1,p=>match p with
  | .none=>some .none
  | .bool b=>some (.bool b)
  | .int i=>some (.int i)
  | .str x=>some (.str x)
  | .byt b=>some (.byt b)
  | .tup l=>(fzL n σ k l).map .tup
  | .lst l=>(fzL n σ k l).map .lst
  | .loc a=>cond (decide (a<n)) (some (.loc a)) (bd (Bv σ a) fun l=>(fzL n σ k l).map .lst)
  | _=>none
noncomputable def fzL(n:Nat)(σ:St):Nat→List PV→Option (List PV)
 | 0,_=>none
 | k+1,l=>match l with
  | []=>some []
  | p::r=>bd (OF n σ k p) fun q=>bd (fzL n σ k r) fun t=>some (q::t)
end
mutual
noncomputable def uO(n:Nat):PV→Bool
 | .tup l=>clL n l
 | .lst l=>clL n l
 | .loc a=>decide (a<n)
 | .strm a=>decide (a<n)
 | .app a=>decide (a<n)
 | _=>true
noncomputable def clL(n:Nat):List PV→Bool
 | []=>true
 | p::r=>uO n p&&clL n r
end
def Ex(n:Nat)(o:PO):Bool:=o.lst?.elim true (clL n)&&o.dct?.elim true fun l=>clL n (l.map (·.2))
noncomputable def uJ(r:SR):Option Oi:=match r with
 | .ret p=>some (.val p)
 | .next=>some (.val .none)
 | .exc x=>some (.exc x)
 | .exm x=>some (.exc x)
 | _=>none
def JW(g:ML)(np ns:Nat):Spec:=fun ps σ=>gd (decide (ps.length=np)) (s3 (g (ps.map some++List.replicate (ns-np) none) σ) fun r _ σ=>vl (uJ r) σ)
def Ae(Φ:Nat→Option Spec)(np ns:Nat)(b:SL):Spec:=JW (evSL Φ b) np ns
def fzO(n:Nat)(σ:St)(o:Oi):Option Oi:=match o with
 | .val p=>bd (OF n σ 100000 p) fun q=>some (.val q)
 | .exc x=>some (.exc x)
def As(sp:Spec):Spec:=fun ps σ=>sq (sp ps σ) fun o σ'=>bd (fzO σ.length σ' o) fun o=>gd ((σ'.take σ.length).all (Ex σ.length)) (some (o,σ'.take σ.length))
structure XB(c:Cx)(ω₀:Wd)(h₀:Heap)(ω:Wd)(σ:St)(m:Fm)(hr:Heap)(s:Shared):Prop where
 fr:FR c ω hr m
 gw:Gw ω₀ c.own h₀ ω hr
 inv:AL c.B ω σ {s with heap:=hr}
def EQ(c:Cx)(r:SR)(ω:Wd)(h:Heap)(σ':St)(m':Fm)(E:Value→Shared→Prop):Prop:=match r with
 | .exm x=>∀a tk hr ω' s',XB c ω h ω' σ' m' hr s'→Heap.MadeExc hr s'.heap a "ValueError" [.str x tk]→E (.ref a) s'
 | .exc x=>∀a t tk hr base l ω' s',c.A.frames=some l→XB c ω h ω' σ' m' hr s'→B9 c.B ω' l x a t tk hr base s'.heap→E (.ref a) s'
 | _=>True
def FQ(c:Cx)(r:SR)(ω:Wd)(s:Shared)(Q:Flow→Shared→Prop):Prop:=match r with
 | .next=>Q .next s
 | .brk=>Q .brk s
 | .cont=>Q .cont s
 | .ret p=>∀v,VR c.B.C ω s.heap p v→Q (.ret v) s
 | _=>True
abbrev KQ(c:Cx)(r:SR)(ω:Wd)(h:Heap)(σ':St)(m':Fm)(Q:Flow→Shared→Prop):Prop:=
 ∀ω' s',Gw ω c.own h ω' s'.heap→AL c.B ω' σ' s'→FR c ω' s'.heap m'→FQ c r ω' s' Q
theorem XB.pre{c:Cx}{ω₀ ω₁ ω:Wd}{h₀ h₁ hr:Heap}{σ:St}{s:Shared}{m:Fm}(g:Gw ω₀ c.own h₀ ω₁ h₁)(x:XB c ω₁ h₁ ω σ m hr s):XB c ω₀ h₀ ω σ m hr s:=⟨x.fr,g.trans x.gw,x.inv⟩
theorem EQ.pre{c:Cx}{r:SR}{ω ω₁:Wd}{h h₁:Heap}{σ':St}{m':Fm}{E:Value→Shared→Prop}(g:Gw ω c.own h ω₁ h₁)(k:EQ c r ω h σ' m' E):EQ c r ω₁ h₁ σ' m' E:=
 match r,k with
 | .exm _,k=>fun a tk hr ω' s' x=>k a tk hr ω' s' (x.pre g)
 | .exc _,k=>fun a t tk hr base l ω' s' hl x=>k a t tk hr base l ω' s' hl (x.pre g)
 | .next,_=>trivial
 | .brk,_=>trivial
 | .cont,_=>trivial
 | .ret _,_=>trivial
theorem KQ.pre{c:Cx}{r:SR}{ω ω₁:Wd}{h h₁:Heap}{σ':St}{m':Fm}{Q:Flow→Shared→Prop}(k:KQ c r ω h σ' m' Q)(g:Gw ω c.own h ω₁ h₁):KQ c r ω₁ h₁ σ' m' Q:=fun ω' s' G I F=>k ω' s' (g.trans G) I F
noncomputable def Cn(c:Cx)(st:Stmt)(f:ML):Prop:=
 ∀ω m σ s Q E r m' σ',FR c ω s.heap m→AL c.B ω σ s→f m σ=some (r,m',σ')→KQ c r ω s.heap σ' m' Q→EQ c r ω s.heap σ' m' E→wpAny (model c.B.prog c.B.w) c.A (exec st c.env) Q E s
noncomputable def Mx(c:Cx)(sts:List Stmt)(f:ML):Prop:=
 ∀ω m σ s Q E r m' σ',FR c ω s.heap m→AL c.B ω σ s→f m σ=some (r,m',σ')→KQ c r ω s.heap σ' m' Q→EQ c r ω s.heap σ' m' E→wpAny (model c.B.prog c.B.w) c.A (execs sts c.env) Q E s
theorem Gw.own{ω ω':Wd}{own:List Addr}{h h':Heap}(g:Gw ω [] h ω' h'):Gw ω own h ω' h':=g.weak fun _ q=>nomatch q
theorem Gx.own{ω ω':Wd}{own:List Addr}{h h':Heap}{X:List Addr}(g:Gx ω [] h ω' h' X):Gx ω own h ω' h' X:=
 ⟨g.ext,g.ex,fun b o e ht h1 _=>g.kp b o e ht h1 (fun q=>nomatch q),g.there,g.new⟩
section
variable{c:Cx}{Φ:Nat→Option Spec}
theorem KQ.nx{ω ω':Wd}{σ σ':St}{s s':Shared}{m m':Fm}{r:SR}{Q:Flow→Shared→Prop}(e:some (SR.next,m,σ)=some (r,m',σ'))(k:KQ c r ω s.heap σ' m' Q)(G:Gw ω c.own s.heap ω' s'.heap)(I:AL c.B ω' σ s')(F:FR c ω' s'.heap m):Q .next s':=
 EC (P:=fun r m' σ'=>KQ c r ω s.heap σ' m' Q→Q .next s') e (fun k=>k ω' s' G I F) k
theorem Un:Mx c [] (evSL Φ .nil):=fun ω m σ s Q E r m' σ' F I e k _=>wpAny_execs_nil (KQ.nx e k (.refl _ _ _) I F)
theorem Sz{st:Stmt}{sts:List Stmt}{x:S}{t:SL}(h1:Cn c st (Ab Φ x))(h2:Mx c sts (evSL Φ t)):Mx c (st::sts) (evSL Φ (.cons x t)):=
 fun ω m σ s Q E r m' σ' F I e k kx=>Ly e fun a m₁ σ₁ e₁ e=>wpAny_execs_cons (by
  have H:=fun Q'=>h1 ω m σ s Q' E a m₁ σ₁ F I e₁
  cases a<;>first
   | exact H _ (fun ω₁ s₁ G₁ I₁ F₁=>h2 ω₁ m₁ σ₁ s₁ Q E r m' σ' F₁ I₁ e (KQ.pre k G₁) (EQ.pre G₁ kx)) trivial
   | (cases so (show some _=some (r,m',σ') from e);first|exact H _ k kx | exact H _ (fun _ _ _ _ _=>trivial) kx | exact H _ (fun ω₁ s₁ G₁ I₁ F₁ v hv=>k ω₁ s₁ G₁ I₁ F₁ v hv) kx))
section
variable{e t te:Expr}{x y a:X}{pos p1:Pos}{i:Nat}
theorem qZ(h:SE c e (ev Φ x))(hi:∀{ω h m},FR c ω h m→interactive c.env=false)(hs:swapsWith e none pos.line c.env=pure false):Cn c (.Expr e pos) (Ab Φ (.ex x)):=
 fun ω m σ s Q E r m' σ' F I he k kx=>AH he fun p σ₁ e₁ he=>wpAny_Expr_any (h ω m σ s _ E p σ₁ F I e₁ fun v ω' s' G I' _=>KQ.nx he k G.own I' (F.gw G I'.apart)) (hi F) hs
def CK(e:Expr):Bool:=!Au 14 e&&(!Au 19 e&&!Au 20 e)
theorem EJ{e:Expr}(h:CK e=true)(t:Option Expr)(n:Nat)(env:Env):swapsWith e t n env=pure false:=by
 cases e<;>first|rfl | exact absurd h Bool.false_ne_true
theorem rW(ht:Bm c.Γ i t=true)(h:SE c e (ev Φ x))(hs:CK e=true):Cn c (.Assign [t] e pos) (Ab Φ (.as i x)):=
 fun ω m σ s Q E r m' σ' F I he k kx=>AH he fun p σ₁ e₁ he=>Bs ht fun y py hy hv hk=>by
  rw[hy]
  exact wpAny_Assign_Name (h ω m σ s _ E p σ₁ F I e₁ fun v ω' s' G I' r=>CR (F.gw G I'.apart) I' hv hk r fun h' tk G' I'' F'=>KQ.nx (s':={s' with heap:=h',toks:=tk}) he k (G.own.trans G') I'' F') (EJ hs _ _ _)
theorem Ig(elt target iter:Expr)(ifs:List Expr)(scope:Scope)(pos:Pos)(env:Env):eval (.ListComp elt [⟨target,iter,ifs,0⟩] scope pos) env =
  comprehension (.ListComp elt [⟨target,iter,ifs,0⟩] scope pos) scope env (firstIterPos [⟨target,iter,ifs,0⟩] pos) (newList []) false (eval iter env):=rfl
theorem Jj(elt target iter:Expr)(ifs:List Expr)(scope:Scope)(pos:Pos)(env:Env)(use:Value→Sem Unit):evalThenUse (.ListComp elt [⟨target,iter,ifs,0⟩] scope pos) env use=(do
  let _ ←comprehension (.ListComp elt [⟨target,iter,ifs,0⟩] scope pos) scope env (firstIterPos [⟨target,iter,ifs,0⟩] pos) (newList []) false (eval iter env) (some use)):=rfl
theorem Aag(y:Str)(py:Pos)(env:Env)(v:Value):assignAll v ((assignEach [.Name y py] env).map (·.2))=assign (.Name y py) env v:=rfl
theorem NU{elt:Expr}{gens:List Comprehension}{scope:Scope}{p py:Pos}{y:Str}{n:Nat}{env:Env}:∃b,swapsWith (.ListComp elt gens scope p) (some (.Name y py)) n env=pure b:=⟨_,rfl⟩
theorem HP{ar:Nat}{xe xit:X}{xi:XL}{elt target iter:Expr}{ifs:List Expr}{scope:Scope}{ts:List Str}(K:Jh c Φ ar xe xit xi elt target iter ifs scope ts) :
  SE c (.ListComp elt [⟨target,iter,ifs,0⟩] scope p1) (ev Φ (.comp ar xe xit xi)):=fun ω m σ s Q E p σ' F I e k=>by
 rw[Ig]
 exact Lq K F I e fun ω₁ s₁ G=>KE.gw (c:=c) k G
theorem bC{ar:Nat}{xe xit:X}{xi:XL}{elt target iter:Expr}{ifs:List Expr}{scope:Scope}{ts:List Str}(ht:Bm c.Γ i t=true)(K:Jh c Φ ar xe xit xi elt target iter ifs scope ts) :
  Cn c (.Assign [t] (.ListComp elt [⟨target,iter,ifs,0⟩] scope p1) pos) (Ab Φ (.as i (.comp ar xe xit xi))):=
 fun ω m σ s Q E r m' σ' F I he k kx=>AH (show sq (ev Φ (.comp ar xe xit xi) m σ) (fun p σ=>some (SR.next,m.set i (some p),σ))=some (r,m',σ') from he) fun p σ₁ e₁ he=>Bs ht fun y py hy hv hk=>
  (NU (elt:=elt) (gens:=[⟨target,iter,ifs,0⟩]) (scope:=scope) (p:=p1) (py:=py) (y:=y) (n:=pos.line) (env:=c.env)).elim fun b hb=>by
  rw[hy]at ht ⊢
  cases b with
  | false=>exact wpAny_Assign_Name (HP K ω m σ s _ E p σ₁ F I e₁ fun v ω' s' G I' r=>CR (F.gw G I'.apart) I' hv hk r fun h' tk G' I'' F'=>KQ.nx (s':={s' with heap:=h',toks:=tk}) he k (G.own.trans G') I'' F') hb
  | true=>
   rw[exec_Assign_arm]
   refine wpAny_bind (wpAny_standAt ?_)
   rw[show swapsWithSole [.Name y py] (.ListComp elt [⟨target,iter,ifs,0⟩] scope p1) pos.line c.env=pure true from hb]
   refine wpAny_bind (wpAny_pure ?_)
   rw[if_pos rfl]
   refine wpAny_bind ?_
   rw[Jj]
   refine wpAny_bind (Lq K F I e₁ fun ω₁ s₁ G₁ v ω' s' X C f g I' F' r hC hCo hns=>?_)
   refine(?_:wpAny (model c.B.prog c.B.w) c.A (assign (.Name y py) c.env v) _ _ s')
   have hCx:C∈ω'.ex:=by rw[g.ex];exact List.mem_append_right _ hC
   have hnew:=g.new C hC
   have up:∀b∈ω.ex,b∈ω'.ex∧b≠C:=fun b hb=>⟨by rw[g.ex,G₁.ex];exact List.mem_append_left _ hb,fun q=>(Option.isSome_iff_exists.mp (I.exl b hb)).elim fun o e=>(G₁.there b o e).elim fun o' e'=>nomatch (q▸hnew).symm.trans e'⟩
   refine El F' I' ht r fun h₁ tk G' I₁ F₂=>⟨f,DS hns fun o e ht=>G'.kp C o e ht (fun q=>I'.apart C q hCx) hCo,fun h₂ hs₂=>wpAny_pure (wpAny_pure ?_)⟩
   have hs:=hs₂.extBut
   refine KQ.nx (ω':=⟨ω'.mu,ω.ex⟩) (s':={s' with heap:=h₂,toks:=tk}) he k ?_ (I₁.last (tk:=tk) hCx up hs) (F₂.unbar F rfl rfl (fun b hb=>(up b hb).1) ((AR.of_ex hCx hs).trans (.less rfl fun b hb=>(up b hb).1)) fun b hb o e=>hs b o (up b hb).2 e)
   have g₂:=((g.own.trans G' fun a q=>.inl q).stepAt hC hs).drop
   rw[G₁.ex]at g₂
   exact G₁.own.trans g₂
theorem cH{is:List Nat}(hh:c.A.handled=none)(ht:Ed c.Γ is t=true)(h:SE c e (ev Φ x))(hs:CK e=true)(hw:swappedStores [t] e c.env=pure none)(hst:(assignEach [t] c.env).map (·.2)=[assign t c.env]):Cn c (.Assign [t] e pos) (Ab Φ (.asT is x)):=
 fun ω m σ s Q E r m' σ' F I he k kx=>AH he fun p σ₁ e₁ he=>AB he fun m₂ hb he=>wpAny_Assign_stores (h ω m σ s _ E p σ₁ F I e₁ fun v ω' s' G I' r=>by
  rw[hst]
  exact Fd hh (F.gw G I'.apart) I' ht hb r fun h' tk G' I'' F'=>KQ.nx (s':={s' with heap:=h',toks:=tk}) he k (G.own.trans G') I'' F') (EJ hs _ _ _) hw
theorem aY(h:SE c e (ev Φ x)):Cn c (.Return (some e) pos) (Ab Φ (.ret x)):=
 fun ω m σ s Q E r m' σ' F I he k kx=>AH he fun p σ₁ e₁ he=>wpAny_Return_some (h ω m σ s _ E p σ₁ F I e₁ fun v ω' s' G I' x=>
  EC (P:=fun r m' σ'=>KQ c r ω s.heap σ' m' Q→Q (.ret v) s') he (fun k=>k ω' s' G.own I' (F.gw G I'.apart) v x) k)
theorem aS:Cn c (.Break pos) (Ab Φ .brk):=fun ω m σ s Q E r m' σ' F I he k kx=>wpAny_Break (EC (P:=fun r m' σ'=>KQ c r ω s.heap σ' m' Q→Q .brk s) he (fun k=>k ω s (.refl _ _ _) I F) k)
theorem Vk:Cn c (.Continue pos) (Ab Φ .cont):=fun ω m σ s Q E r m' σ' F I he k kx=>wpAny_Continue (EC (P:=fun r m' σ'=>KQ c r ω s.heap σ' m' Q→Q .cont s) he (fun k=>k ω s (.refl _ _ _) I F) k)
theorem fF{tx:X}{b o:SL}{bs os:List Stmt}(ht:Iw c Φ te tx)(hb:Mx c bs (evSL Φ b))(ho:Mx c os (evSL Φ o)):Cn c (.If te bs os pos) (Ab Φ (.iff tx b o)):=
 fun ω m σ s Q E r m' σ' F I he k kx=>AH he fun p σ₁ e₁ he=>AB he fun t e₂ he=>wpAny_If (ht.run F I e₁ e₂ fun ω₁ s₁ G₁ I₁=>by
  cases t with
  | true=>rw[if_pos rfl];exact hb ω₁ m σ₁ s₁ Q E r m' σ' (F.gw G₁ I₁.apart) I₁ he (KQ.pre k G₁.own) (EQ.pre G₁.own kx)
  | false=>rw[if_neg Bool.false_ne_true];exact ho ω₁ m σ₁ s₁ Q E r m' σ' (F.gw G₁ I₁.apart) I₁ he (KQ.pre k G₁.own) (EQ.pre G₁.own kx))
theorem eQ{tx:X}{msg:Option Expr}(ht:Iw c Φ te tx):Cn c (.Assert te msg pos) (Ab Φ (.asr tx)):=
 fun ω m σ s Q E r m' σ' F I he k kx=>AH he fun p σ₁ e₁ he=>AB he fun t e₂ he=>AJ he fun ht' he=>wpAny_Assert_holds (ht.run F I e₁ e₂ fun ω₁ s₁ G₁ I₁=>⟨ht',KQ.nx he k G₁.own I₁ (F.gw G₁ I₁.apart)⟩)
inductive WI(c:Cx)(Φ:Nat→Option Spec)(tx:X)(b:SL)(r:SR)(m':Fm)(σ':St)(ω:Wd)(h:Heap)(n:Nat)(s:Shared):Prop
 | mk {ω₁:Wd} {m₁:Fm} {σ₁:St} (G:Gw ω c.own h ω₁ s.heap) (I:AL c.B ω₁ σ₁ s) (F:FR c ω₁ s.heap m₁) (e:ED (Gg Φ tx) (evSL Φ b) n m₁ σ₁=some (r,m',σ'))
theorem Kq{r r':SR}{m m':Fm}{σ σ':St}{A:Option (SR×Fm×St)}{G:Prop}(e:LS r A m σ=some (r',m',σ'))(k1:KB r=true→A=some (r',m',σ')→G)(k2:r=.cont→A=some (r',m',σ')→G)(k3:r=.brk→some (SR.next,m,σ)=some (r',m',σ')→G)(k4:∀p,r=.ret p→some (SR.ret p,m,σ)=some (r',m',σ')→G):G:=
 match r,e,k1,k2,k3,k4 with
 | .next,e,k1,_,_,_=>k1 rfl e
 | .cont,e,_,k2,_,_=>k2 rfl e
 | .brk,e,_,_,k3,_=>k3 rfl e
 | .ret p,e,_,_,_,k4=>k4 p rfl e
 | .exc _,e,_,_,_,_=>nn e
 | .exm _,e,_,_,_,_=>nn e
theorem OJ{r:SR}(h:KB r=true):r=.next:=match r,h with
 | .next,_=>rfl
set_option tactic.hygienic true in
theorem yV{tx:X}{b:SL}{bs:List Stmt}(ht:Iw c Φ te tx)(hb:Mx c bs (evSL Φ b)):Cn c (.While te bs [] pos) (Ab Φ (.wh tx b)):=
 fun ω m σ s Q E r m' σ' F I he k kx=>wpAny_While (codeAny_whileLoop (WI c Φ tx b r m' σ' ω s.heap) (fun n s₁ W=>CZ fun Q₁ E₁ hQ₁ _=>by
  cases W with
  | mk G₁ I₁ F₁ hw=>
  rename_i ω₁ m₁ σ₁
  cases n with
  | zero=>exact nn hw
  | succ n=>
   refine AH hw fun t σ₂ e₂ hw=>ht ω₁ m₁ σ₁ s₁ _ _ t σ₂ F₁ I₁ e₂ fun ω₂ s₂ G₂ I₂=>hQ₁ _ _ ?_
   have F₂:=F₁.gw G₂ I₂.apart
   have G12:=G₁.trans G₂.own
   cases t with
   | false=>exact(if_neg Bool.false_ne_true).mpr (wpAny_execs_nil (KQ.nx hw k G12 I₂ F₂))
   | true=>
    refine(if_pos rfl).mpr (CZ fun Q₂ E₂ hQ₂ _=>?_)
    refine Ly hw fun r₃ m₃ σ₃ e₃ hw=>Kq hw (fun hr hw=>?_) (fun hr hw=>?_) (fun hr hw=>?_) (fun p hr hw=>?_)
    ·cases OJ hr;exact hb ω₂ m₁ σ₂ s₂ _ _ .next m₃ σ₃ F₂ I₂ e₃ (fun ω₃ s₃ G₃ I₃ F₃=>hQ₂ _ _ ⟨n,Nat.lt_succ_self _,⟨G12.trans G₃,I₃,F₃,hw⟩⟩) trivial
    ·cases hr;exact hb ω₂ m₁ σ₂ s₂ _ _ .cont m₃ σ₃ F₂ I₂ e₃ (fun ω₃ s₃ G₃ I₃ F₃=>hQ₂ _ _ ⟨n,Nat.lt_succ_self _,⟨G12.trans G₃,I₃,F₃,hw⟩⟩) trivial
    ·cases hr;exact hb ω₂ m₁ σ₂ s₂ _ _ .brk m₃ σ₃ F₂ I₂ e₃ (fun ω₃ s₃ G₃ I₃ F₃=>hQ₂ _ _ (KQ.nx hw k (G12.trans G₃) I₃ F₃)) trivial
    ·cases hr;exact hb ω₂ m₁ σ₂ s₂ _ _ (.ret p) m₃ σ₃ F₂ I₂ e₃ (fun ω₃ s₃ G₃ I₃ F₃ v hv=>hQ₂ _ _ (EC (P:=fun r m' σ'=>KQ c r ω s.heap σ' m' Q→Q (.ret v) s₃) hw (fun k=>k ω₃ s₃ (G12.trans G₃) I₃ F₃ v hv) k)) trivial) WH ⟨.refl _ _ _,I,F,he⟩)
end
end
section
variable{B:AV}{A:Around}{E:Value→Shared→Prop}{ω:Wd}{σ:St}{s:Shared}
theorem eO{op:Operator}{p q r:PV}{v w:Value}{Q:Value→Shared→Prop}(x:VR B.C ω s.heap p v)(y:VR B.C ω s.heap q w)(e:cP op p q=some r)(k:KK B ω s r Q) :
  wpAny (model B.prog B.w) A (inplaceOp op v w) Q E s:=by
 cases op<;>first|exact nn e | skip
 ·exact Ah e (fun e=>Bb x y e fun a b t u e=>AutoIntOps.iadd_0 (k.int e _ _)) fun e=>EN x y e fun a b t u e=>AJ e fun h e=>PyProof.Rows.iadd_str (fun t' tk=>k.str e _ _) (Aa h)
 ·exact Bb x y e fun a b t u e=>AutoIntOps.isub_0 (k.int e _ _)
theorem VRs.set{C:Addr}{h:Heap}:∀{l:List PV} {vs:List Value} {p:PV} {v:Value} (k:Nat),VRs C ω h l vs→VR C ω h p v→VRs C ω h (l.set k p) (vs.set k v)
 | [],_,p,v,k,x,_=>x.nil_el (Ps:=fun vs=>VRs C ω h [] (vs.set k v)) .nil
 | q::l,_,p,v,0,x,y=>x.cons_el (Ps:=fun vs=>VRs C ω h (p::l) (vs.set 0 v)) fun _ _ _ b=>.cons_in y b
 | q::l,_,p,v,k+1,x,y=>x.cons_el (Ps:=fun vs=>VRs C ω h (q::l.set k p) (vs.set (k+1) v)) fun _ _ a b=>.cons_in a (VRs.set k b y)
theorem eZ{p q r:PV}{v w u:Value}{σ':St}{Q:Unit→Shared→Prop}(I:AL B ω σ s)(x:VR B.C ω s.heap p v)(y:VR B.C ω s.heap q w)(z:VR B.C ω s.heap r u)(e:PE p q r σ=some σ')
  (k:∀h',Gw ω [] s.heap ω h'→AL B ω σ' {s with heap:=h'}→Q () {s with heap:=h'}):wpAny (model B.prog B.w) A (setItem v w u) Q E s:=
 AB e fun n e1 e=>AB e fun i e2 e=>AB e fun l hl e=>AJ e fun h e=>AF h fun h1 h=>AF h fun h2 h3=>y.int_vr e2 fun t=>
  Dj (P:=fun v=>wpAny (model B.prog B.w) A (setItem v (.int i t) u) Q E s) I (DJ e1▸x) hl fun a o ws kk hi ho c d hr=>
   Si (Hb ho c d) (An h1) (by rw[hr.size];exact An h2) (by rw[hr.size];exact CM h3) fun h' n' hL' hs'=>
    have hm:=List.mem_of_getElem? hi
    k h' (.of_ext (.inl hm) hs'.extBut ⟨_,hL'⟩) (so e▸I.set (tk:=s.toks) hi hs'.extBut ⟨_,_,_,hL',MF,rfl,by rw[Array.toList_setIfInBounds];exact(hr.set _ z).carry (.of_mu hm hs'.extBut)⟩)
end
section
variable{c:Cx}{Φ:Nat→Option Spec}
theorem Ml.in{Γ:Sc}{x:Str}(h:Ml Γ x):Γ.names.lookup x=some .local∨Γ.names.lookup x=some .cell∨Γ.names.lookup x=some .free:=h.imp id fun q=>.inl q.1
theorem eF{t e:Expr}{i:Nat}{op:Operator}{x:X}{pos:Pos}(ht:Bm c.Γ i t=true)(hl:∀y p,t=.Name y p→(y==("__classdict__" : Str))=false)(h:SE c e (ev Φ x)):Cn c (.AugAssign t op e pos) (Ab Φ (.aug i op x)):=
 fun ω m σ s Q E r m' σ' F I he k kx=>AB he fun p hm he=>AH he fun q σ₁ e₁ he=>AB he fun r' e₂ he=>Bs ht fun y py hy hv hk=>by
  have hl':=hl y py hy
  rw[hy]
  exact AB hm fun o hm hm'=>wpAny_AugAssign_Name (Gl F hv hk.in (hm.trans (congrArg some hm')) hl' fun v x₀=>h ω m σ s _ E q σ₁ F I e₁ fun w ω₁ s₁ G₁ I₁ x₁=>eO (B:=c.B) (x₀.gw G₁) x₁ e₂ fun v' h₁ tk hk₁ x₂=>
   CR (s:={s₁ with heap:=h₁,toks:=tk}) (F.gw (G₁.trans (.of_keep hk₁)) I₁.apart) (I₁.keep hk₁) hv hk x₂ fun h' tk' G' I' F'=>KQ.nx (s':={s₁ with heap:=h',toks:=tk'}) he k ((G₁.trans (.of_keep hk₁)).own.trans G') I' F')
theorem jR{o i e:Expr}{a x y:X}{p pos:Pos}(ha:SE c o (ev Φ a))(hi:SE c i (ev Φ y))(hx:SE c e (ev Φ x))(hs:CK e=true):Cn c (.Assign [.Subscript o i p] e pos) (Ab Φ (.asI a y x)):=
 fun ω m σ s Q E r m' σ' F I he k kx=>AH he fun p₁ σ₁ e₁ he=>AH he fun p₂ σ₂ e₂ he=>AH he fun p₃ σ₃ e₃ he=>AB he fun σ₄ e₄ he=>
  wpAny_Assign_Subscript (hx ω m σ s _ E _ _ F I e₁ fun v₁ ω₁ s₁ G₁ I₁ x₁=>Mg ha hi (F.gw G₁ I₁.apart) I₁ e₂ e₃ fun v₂ v₃ ω₃ s₃ G₃ I₃ x₂ x₃=>
   eZ I₃ x₂ x₃ (x₁.gw G₃) e₄ fun h' G' I'=>
    have G:=(G₁.trans G₃).trans G'
    KQ.nx (s':={s₃ with heap:=h'}) he k G.own I' (F.gw G I'.apart)) (EJ hs _ _ _)
theorem VRs.erase{C:Addr}{ω:Wd}{h:Heap}{l:List PV}{vs:List Value}(k:Nat)(x:VRs C ω h l vs):VRs C ω h (l.eraseIdx k) (vs.eraseIdx k):=by
 rw[List.eraseIdx_eq_take_drop_succ,List.eraseIdx_eq_take_drop_succ]
 exact(x.take k).append (x.drop (k+1))
theorem bX{p q:PV}{v w:Value}{σ σ':St}{ω:Wd}{B:AV}{A:Around}{s:Shared}{E:Value→Shared→Prop}{Q:Unit→Shared→Prop}(I:AL B ω σ s)(x:VR B.C ω s.heap p v)(y:VR B.C ω s.heap q w)(e:UB p q σ=some σ')
  (k:∀h',Gw ω [] s.heap ω h'→AL B ω σ' {s with heap:=h'}→Q () {s with heap:=h'}):wpAny (model B.prog B.w) A (delItem v w) Q E s:=
 AB e fun n e1 e=>AB e fun i e2 e=>AB e fun l hl e=>AJ e fun h e=>AF h fun h1 h=>AF h fun h2 h3=>y.int_vr e2 fun t=>
  Dj (P:=fun v=>wpAny (model B.prog B.w) A (delItem v (.int i t)) Q E s) I (DJ e1▸x) hl fun a o ws kk hi ho c d hr=>
   have hL:=Hb ho c d
   have hj:i.toNat<ws.size:=by rw[hr.size];have:=An h1;have:=An h2;omega
   P.delItem_list (k:=i.toNat) hL (fitsIndex_of (An h1) (by have:=An h2;have:=CM h3;omega)) (by
    unfold seqIndex?
    have g1:=An h1;have g2:=An h2
    simp only[Int.not_lt.mpr g1,if_false]
    rw[hr.size]
    simp[g1,g2]) (
    have hm:=List.mem_of_getElem? hi
    have hs':=Heap.SameBut.update s.heap a (Obj.mapSeq fun xs=>xs.eraseIdxIfInBounds i.toNat)
    have hL':=IsL.update (n:=kk) hL (fun xs=>xs.eraseIdxIfInBounds i.toNat)
    k _ (.of_ext (.inl hm) hs'.extBut ⟨_,hL'⟩) (so e▸I.set (tk:=s.toks) hi hs'.extBut ⟨_,_,_,hL',MF,rfl,by
     rw[Array.eraseIdxIfInBounds,dif_pos hj,Array.toList_eraseIdx]
     exact(hr.erase _).carry (.of_mu hm hs'.extBut)⟩)) (by rw[hr.size];exact Aa h3)
theorem kD{o i:Expr}{a y:X}{p pos:Pos}(ha:SE c o (ev Φ a))(hi:SE c i (ev Φ y)):Cn c (.Delete [.Subscript o i p] pos) (Ab Φ (.delI a y)):=
 fun ω m σ s Q E r m' σ' F I he k kx=>AH he fun p₁ σ₁ e₁ he=>AH he fun p₂ σ₂ e₂ he=>AB he fun σ₃ e₃ he=>
  wpAny_Delete (wpAny_deleteEach_cons (wpAny_delete_Subscript (Mg ha hi F I e₁ e₂ fun v w ω₁ s₁ G₁ I₁ x₁ x₂=>bX I₁ x₁ x₂ e₃ fun h' G' I'=>
   have G:=G₁.trans G'
   wpAny_deleteEach_nil (KQ.nx (s':={s₁ with heap:=h'}) he k G.own I' (F.gw G I'.apart)))))
inductive FI(c:Cx)(Φ:Nat→Option Spec)(is:List Nat)(b:SL)(r:SR)(m':Fm)(σ':St)(ω₁:Wd)(h₁:Heap)(it:Addr)(n:Option Nat)(l:List PV)(s:Shared):Nat→Prop
 | mk {rest:List PV} {i:Nat} {ω':Wd} {σ₂:St} {m₂:Fm} (hr:rest=l.drop i) (go:Eo n is (evSL Φ b) rest i m₂ σ₂=some (r,m',σ')) (g:Gx ω₁ c.own h₁ ω' s.heap [it]) (I:AL c.B ω' σ₂ s) (F:FR c ω' s.heap m₂) (hI:GT c.B.C ω' s.heap it i n l) :
  FI c Φ is b r m' σ' ω₁ h₁ it n l s rest.length
section
variable{ω ω₁ ω₃:Wd}{σ σ':St}{s s₁ s₃:Shared}{m m':Fm}{it:Addr}{h₃:Heap}{tk:Nat}
structure Ys(c:Cx)(ω:Wd)(s:Shared)(σ':St)(m':Fm)(ω':Wd)(s':Shared):Prop where
 G:Gw ω c.own s.heap ω' s'.heap
 I:AL c.B ω' σ' s'
 F:FR c ω' s'.heap m'
theorem Sj(G₁:Gw ω [] s.heap ω₁ s₁.heap)(I₁:AL c.B ω₁ σ s₁)(F₁:FR c ω₁ s₁.heap m)(hn:s₁.heap.get? it=none)(g₃:Gx ω₁ c.own s₁.heap ω₃ s₃.heap [it])(I₃:AL c.B ω₃ σ' s₃)(F₃:FR c ω₃ s₃.heap m')(he₃:Heap.ExtBut it s₃.heap h₃) :
  Ys c ω s σ' m' ⟨ω₃.mu,ω₁.ex⟩ {s₃ with heap:=h₃,toks:=tk}:=
 have hx:it∈ω₃.ex:=by rw[g₃.ex];exact List.mem_append_right _ (.head _)
 have up:∀b∈ω₁.ex,b∈ω₃.ex∧b≠it:=fun b hb=>⟨by rw[g₃.ex];exact List.mem_append_left _ hb,fun q=>by have:=I₁.exl b hb;rw[q,hn]at this;exact Bool.false_ne_true this⟩
 ⟨G₁.own.trans (g₃.stepAt (.head _) he₃).drop,I₃.last hx up he₃,F₃.unbar F₁ rfl rfl (fun b hb=>(up b hb).1) ((AR.of_ex hx he₃).trans (.less rfl fun b hb=>(up b hb).1)) fun b hb o e=>he₃ b o (up b hb).2 e⟩
end
set_option tactic.hygienic true in
theorem mH{target iter:Expr}{is:List Nat}{xit:X}{b:SL}{bs:List Stmt}{pos:Pos}(hh:c.A.handled=none)(ht:Ed c.Γ is target=true)(hit:SE c iter (ev Φ xit))(hset:∀x,foldedSetIterable iter c.env x=pure x)(hb:Mx c bs (evSL Φ b)) :
  Cn c (.For target iter bs [] pos) (Ab Φ (.fo is xit b)):=
 fun ω m σ s Q E r m' σ' F I he k kx=>AH he fun p σ₁ e₁ he=>AB he fun x e₂ he=>wpAny_For (hit ω m σ s _ E p σ₁ F I e₁ fun v ω₁ s₁ G₁ I₁ x₁=>Oh (l:=x.1) (n:=x.2) I₁ x₁ e₂ fun it h₂ hitn hz hk₂ hI₂=>by
  have F₁:=F.gw G₁ I₁.apart
  have hXn:∀a∈[it],s₁.heap.get? a=none:=fun a ha=>by rw[List.mem_singleton.mp ha];exact hitn
  have hup:∀a∈ω₁.ex++[it],a∈ω₁.ex∨s₁.heap.get? a=none:=fun a ha=>(List.mem_append.mp ha).imp id (hXn a)
  have I₂:AL c.B ⟨ω₁.mu,ω₁.ex++[it]⟩ σ₁ {s₁ with heap:=h₂}:=I₁.bar (tk:=s₁.toks) hk₂ rfl fun a ha=>(List.mem_append.mp ha).imp id fun q=>⟨hXn a q,by rw[List.mem_singleton.mp q];exact hz⟩
  have hito:it∉c.own:=fun q=>by have:=I₁.exl it (F₁.own it q);rw[hitn]at this;exact Bool.false_ne_true this
  refine codeAny_forLoop_any (fun n s'=>FI c Φ is b r m' σ' ω₁ s₁.heap it x.2 x.1 s' n) (fun n s' W=>CZ fun Q₁ E₁ hQ₁ _=>?_) x.1.length
   (.mk (i:=0) (ω':=⟨ω₁.mu,ω₁.ex++[it]⟩) (m₂:=m) rfl he (Gx.of_gw (.refl _ _ _) hk₂ hXn) I₂ (F₁.bar hk₂ rfl (fun a ha=>List.mem_append_left _ ha) hup I₂.apart) (hI₂ _ _ rfl hup fun _ _ e=>e))
  cases W with
  | mk hr go g I' F' hI=>
  rename_i rest i ω' σ₂ m₂
  have hitx:it∈ω'.ex:=by rw[g.ex];exact List.mem_append_right _ (.head _)
  cases rest with
  | nil=>exact AJ go fun hf go=>MI hh I' hI (List.drop_eq_nil_iff.mp hr.symm) hf fun h' he'=>hQ₁ _ _ (wpAny_execs_nil (
    have f:=Sj (h₃:=h') (tk:=s'.toks) (σ':=σ₂) (m':=m₂) G₁ I₁ F₁ hitn g I' F' he'
    KQ.nx go k f.G f.I f.F))
  | cons q rest=>
   refine AB go fun p' hp go=>AB go fun m₃ hbT go=>Ly go fun t m₅ σ₅ e₅ go=>Iu I' hI hitx (DT hr).1 hp fun v h₃ tk he₃ hI₃ hv=>hQ₁ _ _ (hI₃.obj fun io ivs T hio hiod hioc hT=>
    GN (s:={s' with heap:=h₃,toks:=tk}) hio hiod hioc hT (Fd hh (F'.exstep hitx he₃ hI.plain) (I'.exstep (tk:=tk) hitx he₃ hI₃.live) ht hbT hv fun h₄ tk₄ G₄ I₄ F₄=>CZ fun Q₂ E₂ hQ₂ _=>?_))
   have hitm:it∉ω'.mu:=fun q=>I'.apart it q hitx
   have g₄:=(g.stepAt (a:=it) (.head _) he₃).trans G₄ fun a q=>.inl q
   have hI₄:=hI₃.gw G₄ F'.own hitm hito
   have H:=fun Q' E'=>hb ω' m₃ σ₂ {s' with heap:=h₄,toks:=tk₄} Q' E' t m₅ σ₅ F₄ I₄ e₅
   have again:∀ω₅ s₅,Gw ω' c.own h₄ ω₅ s₅.heap→AL c.B ω₅ σ₅ s₅→FR c ω₅ s₅.heap m₅→Eo x.2 is (evSL Φ b) rest (i+1) m₅ σ₅=some (r,m',σ')→∃n',n'<(q::rest).length∧FI c Φ is b r m' σ' ω₁ s₁.heap it x.2 x.1 s₅ n':=fun ω₅ s₅ G₅ I₅ F₅ go=>
    ⟨_,Nat.lt_succ_self _,.mk (DT hr).2 go (g₄.trans G₅ fun a q=>.inl q) I₅ F₅ (hI₄.gw G₅ F₄.own hitm hito)⟩
   have fin:∀ω₅ s₅,Gw ω' c.own h₄ ω₅ s₅.heap→AL c.B ω₅ σ₅ s₅→FR c ω₅ s₅.heap m₅→Ys c ω s σ₅ m₅ ⟨ω₅.mu,ω₁.ex⟩ s₅:=fun ω₅ s₅ G₅ I₅ F₅=>
    Sj (h₃:=s₅.heap) (tk:=s₅.toks) G₁ I₁ F₁ hitn (g₄.trans G₅ fun a q=>.inl q) I₅ F₅ (Heap.ExtBut.refl it s₅.heap)
   refine Kq go (fun hr hw=>?_) (fun hr hw=>?_) (fun hr hw=>?_) (fun p₅ hr hw=>?_)
   ·cases OJ hr;exact H _ _ (fun ω₅ s₅ G₅ I₅ F₅=>hQ₂ _ _ (again ω₅ s₅ G₅ I₅ F₅ hw)) trivial
   ·cases hr;exact H _ _ (fun ω₅ s₅ G₅ I₅ F₅=>hQ₂ _ _ (again ω₅ s₅ G₅ I₅ F₅ hw)) trivial
   ·cases hr;exact H _ _ (fun ω₅ s₅ G₅ I₅ F₅=>have f:=fin ω₅ s₅ G₅ I₅ F₅;hQ₂ _ _ (KQ.nx hw k f.G f.I f.F)) trivial
   ·cases hr
    exact H _ _ (fun ω₅ s₅ G₅ I₅ F₅ v hv=>have f:=fin ω₅ s₅ G₅ I₅ F₅
     hQ₂ _ _ (EC (P:=fun r m' σ'=>KQ c r ω s.heap σ' m' Q→Q (.ret v) s₅) hw (fun k=>k _ _ f.G f.I f.F v (hv.carry (AR.less (ω:=ω₅) (ω':=⟨ω₅.mu,ω₁.ex⟩) rfl fun b hb=>by rw[(g₄.trans G₅ fun a q=>.inl q).ex];exact List.mem_append_left _ hb))) k)) trivial) hset
theorem SM{lv:Nat}{T:Nat→Option Str}{f i:Nat}{t:Expr}{n:Str}{xs:XL}{es:List Expr}{np p1 pos:Pos}(R:Rm lv c.A)(K:Dt c.B lv T Φ)(ht:T f=some n)(hn:GM c.Γ n=true)(hi:Bm c.Γ i t=true)(h:A2 c Φ xs es) :
  Cn c (.Assign [t] (.Call (.Name n np) es [] p1) pos) (Ab Φ (.callA i f xs)):=
 fun ω m σ s Q E r m' σ' F I he k kx=>AH he fun ps σ₁ e₁ he=>AB he fun sp hsp he=>AH he fun o σ₂ e₂ he=>Bs hi fun y py hy hv hk=>by
  rw[hy]
  refine wpAny_Assign_Name (Nu R K ht hn h F I e₁ hsp e₂ fun ω₁ s₁ l G₁ F₁ hl=>?_) rfl
  cases o with
  | val p=>exact fun v' ω' s' G' I' x'=>CR (F₁.gw G' I'.apart) I' hv hk x' fun h' tk G'' I'' F''=>KQ.nx (s':={s' with heap:=h',toks:=tk}) he k ((G₁.trans G').own.trans G'') I'' F''
  | exc x=>exact EC (P:=fun r m' σ'=>EQ c r ω s.heap σ' m' E→KX c.B ω₁ s₁.heap σ₂ l x E) he (fun kx a t tk hr base ω' s' G' I' X=>kx a t tk hr base l ω' s' hl.1 ⟨F.gw (G₁.trans G') I'.apart,(G₁.trans G').own,I'⟩ X) kx
theorem wN{n:Str}{x:X}{e:Expr}{np cpos pos:Pos}(hh:c.A.handled=none)(hN:Eh c.B)(hn:n = "ValueError")(hg:GM c.Γ n=true)(h:SE c e (ev Φ x))(hs:Ce e) :
  Cn c (.Raise (some (.Call (.Name n np) [e] [] cpos)) none pos) (Ab Φ (.ra x)):=
 fun ω m σ s Q E r m' σ' F I he k kx=>AH he fun p σ₁ e₁ he=>AB he fun y e₂ he=>by
  subst hn
  have hst:backTo cpos (starEach [e] c.env)=[(false,eval e c.env)]:=by rw[Ax hs];rfl
  refine wpAny_Raise_call PySem.F.excCall_ValueError PySem.F.excRaise_ValueError hh (by rw[hst];rfl) (Ep F I hg (hN _ (by decide +kernel)) (by decide +kernel) Boot.«ValueError» ⟨rfl,?_⟩)
  rw[hst]
  exact evalArgs_plain (spliced_cons (h ω m σ s _ E _ _ F I e₁ fun v ω₁ s₁ G₁ I₁ x₁=>x₁.str_vr e₂ fun tk=>spliced_nil ⟨rfl,by show 1≤sizeLine;decide,fun h' a hm=>
   EC (P:=fun r m' σ'=>EQ c r ω s.heap σ' m' E→E (.ref a) {s₁ with heap:=h'}) he (fun kx=>kx a tk s₁.heap ω₁ _ ⟨F.gw G₁ I₁.apart,G₁.own,I₁⟩ hm) kx⟩))
end
theorem Hc{ko:Str→Option NameKind}{x:Str}:∀{binds:List (Str×Value)} {m:Str→Option Value},(∀b∈binds,b.1≠x)→bindL ko binds m x=m x
 | [],_,_=>rfl
 | (n,v)::r,m,h=>by
  unfold bindL
  rw[Hc (fun b hb=>h b (.tail _ hb))]
  by_cases q:ko n=some .local
  ·rw[if_pos q];exact if_neg (fun q=>h (n,v) (.head _) q.symm)
  ·rw[if_neg q]
theorem HJ{ko:Str→Option NameKind}{x:Str}:∀{binds:List (Str×Value)} {m:Str→Option Value},(∀b∈binds,b.1≠x)→bindC ko binds m x=m x
 | [],_,_=>rfl
 | (n,v)::r,m,h=>by
  unfold bindC
  rw[HJ (fun b hb=>h b (.tail _ hb))]
  by_cases q:ko n=some .local
  ·rw[if_pos q]
  ·rw[if_neg q];exact if_neg (fun q=>h (n,v) (.head _) q.symm)
theorem Gj{ko:Str→Option NameKind}{x:Str}{v:Value}:∀{params:List Str} {vals:List Value} {i:Nat} {m cm:Str→Option Value},params.Nodup→params[i]?=some x→vals[i]?=some v →
  (ko x=some .local→bindL ko (params.zip vals) m x=some v)∧(ko x≠some .local→bindC ko (params.zip vals) cm x=some v)
 | [],_,_,_,_,_,h,_=>nomatch h
 | _::_,[],_,_,_,_,_,h=>nomatch h
 | p::ps,w::vs,0,m,cm,hn,h1,h2=>by
  cases so (show some p=some x from h1);cases so (show some w=some v from h2)
  have hsk:∀b∈ps.zip vs,b.1≠x:=fun b hb q=>(List.nodup_cons.mp hn).1 (q▸(List.of_mem_zip hb).1)
  rw[List.zip_cons_cons]
  refine⟨fun hk=>?_,fun hk=>?_⟩
  ·unfold bindL;rw[Hc hsk,if_pos hk];exact if_pos rfl
  ·unfold bindC;rw[HJ hsk,if_neg hk];exact if_pos rfl
 | p::ps,w::vs,i+1,m,cm,hn,h1,h2=>by
  rw[List.zip_cons_cons]
  refine⟨fun hk=>?_,fun hk=>?_⟩
  ·unfold bindL;exact(Gj (cm:=cm) (List.nodup_cons.mp hn).2 h1 h2).1 hk
  ·unfold bindC;exact(Gj (m:=m) (List.nodup_cons.mp hn).2 h1 h2).2 hk
theorem IL{h base:Heap}:∀{l:List Env},(∀e∈l,e.scope.kind≠.module∧∃L f,e.frame=some L∧base.get? L=none∧h.Ns L f)→h.FunFrames base l
 | [],_=>trivial
 | e::r,hll=>
  (hll e (.head _)).2.elim fun L q=>q.elim fun f q=>q.2.2.elim fun o z=>z.elim fun es z=>z.elim fun ep z=>⟨(hll e (.head _)).1,⟨L,o,q.1,q.2.1,z.1,fun vs q=>(nomatch z.2.1.symm.trans q)⟩,IL fun e he=>hll e (.tail _ he)⟩
noncomputable def xB(Γ:Sc)(params:List Str)(names:List (Str×NameKind)):Bool:=
 names.all (fun x=>names.lookup x.1==some x.2)&&(names.all (fun x=>x.2 != .free)&&(params.all (fun x=>names.lookup x==some .local||names.lookup x==some .cell) &&
  (decide (Γ.nt.take params.length=params)&&(decide (Γ.names=names)&&decide (Γ.ownN=(names.filter fun x=>x.2==.cell).map (·.1))))))
structure D8(Γ:Sc)(params:List Str)(names:List (Str×NameKind)):Prop where
 nf:∀x,names.lookup x≠some .free
 ps:∀x∈params,names.lookup x=some .local∨names.lookup x=some .cell
 tk:Γ.nt.take params.length=params
 nm:Γ.names=names
theorem iV{Γ:Sc}{params:List Str}{names:List (Str×NameKind)}(h:xB Γ params names=true):D8 Γ params names:=
 AF h fun _ h=>AF h fun h2 h=>AF h fun h3 h=>AF h fun h4 h=>AF h fun h5 _=>
  ⟨fun x q=>bne_iff_ne.mp (List.all_eq_true.mp h2 _ (mem_of_lookup q)) rfl,fun x hx=>(Bool.or_eq_true_iff.mp (List.all_eq_true.mp h3 x hx)).imp beq_iff_eq.mp beq_iff_eq.mp,An h4,An h5⟩
structure gK(B:AV)(lv:Nat)(Γ:Sc)(cd:Value)(q:Str)(c:Cx):Prop where
 hB:c.B=B
 R:Rm lv c.A
 hΓ:c.Γ=Γ
 fr:∃outer,c.A.frames=some (c.env::outer)
 fl:c.env.frame=some c.env.locals
 cd:c.env.code=cd
 qual:c.env.qual=q
structure NE(fd:FuncData)(n:Addr)(env:Env):Prop where
 loc:env.locals=n
 cells:env.cells=cellsFrom (n+1) fd.scope.names []
 scope:env.scope=fd.scope
 frame:env.frame=some env.locals
 glob:env.globals=fd.globals
 blt:env.builtins=fd.builtins
 code:env.code=fd.code
 qual:env.qual=fd.qualname ++ ".<locals>."
noncomputable def Er(env:Env):List Addr:=(env.cells.map (·.1)).filterMap fun n=>env.cells.lookup n
theorem Ob{env:Env}{n:Str}{d:Addr}(q:env.cells.lookup n=some d):d∈Er env:=List.mem_filterMap.mpr ⟨n,List.mem_map.mpr ⟨(n,d),mem_of_lookup q,rfl⟩,q⟩
theorem Wb{env:Env}{d:Addr}{G:Prop}(h:d∈Er env)(k:∀n,env.cells.lookup n=some d→G):G:=(List.mem_filterMap.mp h).elim fun n q=>k n q.2
section
variable{B:AV}{A:Around}{fd:FuncData}{env:Env}{Γ:Sc}{params:List Str}{vs:List Value}{ps:List PV}{ω:Wd}{σ:St}{s:Shared}{h₁:Heap}{tk₁:Nat}{l:List Env}
abbrev IC(s:Shared)(env:Env)(params:List Str)(vs:List Value)(h₁:Heap)(tk₁:Nat):Prop:=
 InCallC s env.locals (bindL env.kindOf (params.zip vs) fun _=>none) env.cells (bindC env.kindOf (params.zip vs) fun _=>none) {s with heap:=h₁,toks:=tk₁}
theorem dJ(N:NE fd s.heap.objs.size env)(ic:IC s env params vs h₁ tk₁):∀d∈env.locals::Er env,s.heap.get? d=none∧(h₁.get? d).isSome=true:=fun d hd=>
 (List.mem_cons.mp hd).elim (fun e=>e▸⟨N.loc▸Ar _,ic.toInCall.ns.elim fun o q=>q.elim fun _ q=>q.elim fun _ q=>by rw[q.1];rfl⟩)
  fun hd=>Wb hd fun n q=>⟨CJ (Nat.le_of_lt (N.loc▸ic.above n d (mem_of_lookup q))),(ic.cell n d q).elim fun o q=>by rw[q.1];rfl⟩
theorem Of{n:Nat}{i:Nat}{y:Str}{p:PV}{G:Prop}(b:D8 Γ params fd.scope.names)(hpl:ps.length=params.length)(hv:Γ.vis i y=true)(hm:(ps.map some++List.replicate n none)[i]?=some (some p))(k:params[i]?=some y→ps[i]?=some p→G):G:=by
 by_cases hi:i<ps.length
 ·rw[List.getElem?_append_left (by rw[List.length_map];exact hi),List.getElem?_map]at hm
  refine k ?_ (Cm (P:=fun q=>q=some p→ps[i]?=some p) hm (fun p' h1 h2=>so h2▸h1) rfl)
  rw[←b.tk,List.getElem?_take_of_lt (hpl▸hi)]
  exact(Sc.vis_at hv).1
 ·rw[List.getElem?_append_right (by rw[List.length_map];exact Nat.not_lt.mp hi),List.getElem?_replicate]at hm
  by_cases q:i-(ps.map some).length<n
  ·rw[if_pos q]at hm;exact nn (so hm)
  ·rw[if_neg q]at hm;exact nn hm
theorem fQ(N:NE fd s.heap.objs.size env)(ic:IC s env params vs h₁ tk₁)(b:D8 Γ params fd.scope.names)(hn:params.Nodup)(hg:fd.globals=mainGlobals)(hbl:fd.builtins=builtinsNs)(hk:fd.scope.kind=.function)
  (hpl:ps.length=params.length) (hle:params.length≤Γ.nt.length) (hl:lA A ω s.heap l) (I₁:AL B ⟨ω.mu,ω.ex++(env.locals::Er env)⟩ σ {s with heap:=h₁,toks:=tk₁}) (x:VRs B.C ⟨ω.mu,ω.ex++(env.locals::Er env)⟩ h₁ ps vs) :
  FR ⟨B,A.deeper env,env,env.locals::Er env,Γ⟩ ⟨ω.mu,ω.ex++(env.locals::Er env)⟩ h₁ (ps.map some++List.replicate (Γ.nt.length-params.length) none):=by
 have hko:∀y,env.kindOf y=Γ.names.lookup y:=fun y=>by show env.scope.names.lookup y=_;rw[N.scope,b.nm]
 have hcel:∀y,(Γ.names.lookup y=some .cell∨Γ.names.lookup y=some .free)→Γ.names.lookup y=some .cell:=fun y h=>h.elim id fun q=>absurd (b.nm▸q) (b.nf y)
 have hhas:∀y,Γ.names.lookup y=some .cell→∃d,env.cells.lookup y=some d:=fun y q=>(Bc (n:=s.heap.objs.size+1) (acc:=[]) (.inl (mem_of_lookup (b.nm▸q)))).elim fun d hd=>by
  rw[N.cells];exact BG hd
 refine⟨?_,by show env.scope.kind=_;rw[N.scope];exact hk,by show env.scope.names=_;rw[N.scope];exact b.nm.symm,N.glob.trans hg,N.blt.trans hbl,fun d hd=>List.mem_append_right _ hd,I₁.apart,.head _,
  ⟨_,ic.toInCall.ns,fun i y p h1 h2 h3=>Of b hpl h1 h2 fun q1 q2=>(x.get q2).elim fun v z=>⟨v,(Gj (cm:=fun _=>none) hn q1 z.1).1 (by rw[hko];exact h3),z.2⟩⟩,
  fun i y p h1 h2 h3=>Of b hpl h1 h2 fun q1 q2=>(x.get q2).elim fun v z=>(hhas y (hcel y h3)).elim fun d hd=>⟨d,v,hd,?_,z.2⟩,
  fun y h1=>(hhas y (hcel y h1)).elim fun d hd=>⟨d,_,hd,ic.cell y d hd⟩,fun y d hd=>List.mem_append_right _ (.tail _ (Ob hd)),fun y _ d hd=>.tail _ (Ob hd),fun y z d h1 h2=>name_of_addr ic.apart (mem_of_lookup h1) (mem_of_lookup h2),
  ⟨env::l,Around.frames_deeper hl.1,fun e he=>(List.mem_cons.mp he).elim (fun e1=>?_) fun he=>(hl.2 e he).imp id fun r=>r.elim fun L r=>r.elim fun f r=>⟨L,f,r.1,List.mem_append_left _ r.2.1,DS r.2.2 fun o e _=>.same (ic.toInCall.keep L o e)⟩⟩⟩
 ·rw[List.length_append,List.length_map,List.length_replicate,hpl];exact Nat.add_sub_cancel' hle
 ·rw[←(Gj (ko:=env.kindOf) (m:=fun _=>none) (cm:=fun _=>none) hn q1 z.1).2 (by rw[hko,hcel y h3];decide)];exact ic.cell y d hd
 ·rw[e1];exact⟨by rw[N.scope,hk];decide,_,_,N.frame,List.mem_append_right _ (.head _),ic.toInCall.ns⟩
section
variable{c:Cx}{ω₁ ω₂:Wd}{σ':St}{m₂:Fm}{hr h₀:Heap}{s₂:Shared}{a t:Addr}{y:Str}{tk:Tok}{base:Heap}{E:Value→Shared→Prop}
theorem jU(hA:c.A.frames=some (env::l))(hf:env.frame=some env.locals)(X:XB c ω₁ h₀ ω₂ σ' m₂ hr s₂)(hm:Heap.MadeExc hr s₂.heap a "ValueError" [.str y tk])(G':Gw ω [] s.heap ⟨ω₂.mu,ω.ex⟩ hr)(I':AL c.B ⟨ω₂.mu,ω.ex⟩ σ' {s₂ with heap:=hr})(kx:KX c.B ω s.heap σ' l y E) :
  wpAny (model c.B.prog c.B.w) c.A (leaving env (.ref a)) (fun _ s''=>E (.ref a) s'') (fun e' s''=>E e' s'') s₂:=
 X.fr.ff.elim fun l' q=>by
  cases so (q.1.symm.trans hA)
  have hfr:∀e∈env::l,e.scope.kind≠.module∧∃L f,e.frame=some L∧(hideAll hr ((env::l).filterMap (·.frame))).get? L=none∧hr.Ns L f:=fun e he=>
   (q.2 e he).imp id fun r=>r.elim fun L r=>r.elim fun f r=>⟨L,f,r.1,hideAll_none _ (List.mem_filterMap.mpr ⟨e,he,r.1⟩),r.2.2⟩
  refine wpAny_leaves_madeW (base:=hideAll hr ((env::l).filterMap (·.frame))) hA hf (fun b o q=>of_hideAll _ q) (IL hfr) (cls:=.type "ValueError") (args:=[.str y tk]) ⟨hm.keeps,hm.new,hm.there⟩ fun h' t hfl htup hbt hu=>
   kx a t tk hr _ ⟨ω₂.mu,ω.ex⟩ {s₂ with heap:=h'} G' I' ⟨fun b o hb=>?_,(Heap.UpToSlots.of_keeps hm.keeps).trans hu,hfl,hbt,htup⟩
  exact(Classical.em (b∈(env::l).filterMap (·.frame))).elim (fun hbf=>.inl ((List.mem_filterMap.mp hbf).elim fun e r=>(q.2 e r.1).2.elim fun L r'=>r'.elim fun f r'=>by
   cases so (r.2.symm.trans r'.1)
   exact⟨X.inv.new _ (.inr r'.2.1),r'.2.2.elim fun o' z=>z.elim fun es z=>z.elim fun ep z=>so (z.1.symm.trans hb)▸⟨es,ep,z.2.1⟩,fun z=>X.fr.apart _ z r'.2.1⟩)) fun hbf=>.inr (hideAll_get _ hb hbf)
theorem eI(hA:c.A.frames=some (env::l))(hf:env.frame=some env.locals)(X:B9 c.B ω₂ (env::l) y a t tk hr base s₂.heap)(G':Gw ω [] s.heap ⟨ω₂.mu,ω.ex⟩ hr)(I':AL c.B ⟨ω₂.mu,ω.ex⟩ σ' {s₂ with heap:=hr})(kx:KX c.B ω s.heap σ' l y E) :
  wpAny (model c.B.prog c.B.w) c.A (leaving env (.ref a)) (fun _ s''=>E (.ref a) s'') (fun e' s''=>E e' s'') s₂:=
 wpAny_leaves_onW hA hf X.fly fun h' hfl' hu'=>kx a t tk hr base ⟨ω₂.mu,ω.ex⟩ {s₂ with heap:=h'} G' I' ⟨X.kp,X.up.trans hu',hfl',X.tn,X.tup.of_slots hu'⟩
end
theorem Ry{lv:Nat}{a:Addr}{o:Obj}{body:List Stmt}{g:ML}
  (ho:B.h₀.get? a=some o) (hc:o.cls≠.none) (hd:o.data=.func fd) (hbody:fd.body=.stmts body) (hg:fd.globals=mainGlobals) (hbl:fd.builtins=builtinsNs) (hclo:fd.closure=[])
  (hcd:∀h:Heap,(∀b o,B.h₀.get? b=some o→o.cls≠.none→h.get? b=some o)→h.CodeRec fd.code fd.qualname)
  (hbind:∀vals:List Value,vals.length=params.length→bindArgs fd ⟨vals,[]⟩=pure (params.zip vals)) (hn:params.Nodup) (hB:xB Γ params fd.scope.names=true) (hle:params.length≤Γ.nt.length)
  (hs:∀c:Cx,gK B lv Γ fd.code (fd.qualname ++ ".<locals>.") c→Mx c body g)
  (hco:fd.scope.isCoroutine=false) (hgen:fd.scope.isGenerator=false) (hk:fd.scope.kind=.function) :
  MP B (lv+1) (.ref a) (JW g params.length Γ.nt.length):=by
 refine⟨⟨a,o,fd,rfl,ho,hc,hd⟩,fun A R ω σ s Q E ps vs out σ' l hl I x e k=>AJ e fun hpl e=>Ly e fun r m₂ σ₂ hr e=>Ng (P:=fun σ'=>iR B ω s.heap σ' l out Q E→_) e (fun hout k=>?_) k⟩
 have hpl:=An hpl
 have b:=iV hB
 have hkind:∀y∈params.zip vs,fd.scope.names.lookup y.1=some .local∨(fd.scope.names.lookup y.1=some .cell∧((cellsFrom (s.heap.objs.size+1) fd.scope.names []).lookup y.1).isSome=true):=fun y hy=>
  (b.ps y.1 (List.of_mem_zip hy).1).imp id fun q=>⟨q,(Bc (n:=s.heap.objs.size+1) (acc:=[]) (.inl (mem_of_lookup q))).elim fun d hd=>(BG hd).elim fun d' hd'=>by rw[hd'];rfl⟩
 refine wpAny_call (codeAny_call_cells (by have:=R.depth;show A.depth<1000;lia) (I.base ho hc) hd I.lim (hcd _ fun b o e hb=>I.base e hb) hbody (hbind vs (by rw[x.length,hpl])) hclo hkind (fun s₁ ic=>?_) hco hgen hk)
 have N:NE fd s.heap.objs.size (callEnvC fd s.heap.objs.size a):=⟨rfl,rfl,rfl,rfl,rfl,rfl,rfl,rfl⟩
 generalize callEnvC fd s.heap.objs.size a=env at ic N ⊢
 have⟨h₁,tk₁,hs₁⟩:=ic.toInCall.same
 subst hs₁
 have hX:=dJ N ic
 have hup:∀d∈ω.ex++(env.locals::Er env),d∈ω.ex∨s.heap.get? d=none:=fun d hd=>(List.mem_append.mp hd).imp id fun q=>(hX d q).1
 have I₁:AL B ⟨ω.mu,ω.ex++(env.locals::Er env)⟩ σ {s with heap:=h₁,toks:=tk₁}:=I.bar ic.toInCall.keep rfl fun d hd=>(List.mem_append.mp hd).imp id (hX d)
 have F₁:=fQ N ic b hn hg hbl hk hpl hle hl I₁ (x.carry ((AR.more (ω:=ω) (ω':=⟨ω.mu,ω.ex++(env.locals::Er env)⟩) rfl hup).trans (.of_keep ic.toInCall.keep)))
 have R':Rm lv (A.deeper env):=⟨R.hh,by have:=R.depth;show A.depth+1+lv≤900;lia,by have:=R.units;show A.units+3+10*lv≤9000;lia⟩
 have hA:=Around.frames_deeper (env:=env) hl.1
 have g₁:Gx ω [] s.heap ⟨ω.mu,ω.ex++(env.locals::Er env)⟩ h₁ (env.locals::Er env):=Gx.of_gw (.refl _ _ _) ic.toInCall.keep fun d hd=>(hX d hd).1
 have hdone:∀{ω₂:Wd} {h₂:Heap},Gw ⟨ω.mu,ω.ex++(env.locals::Er env)⟩ (env.locals::Er env) h₁ ω₂ h₂→Gw ω [] s.heap ⟨ω₂.mu,ω.ex⟩ h₂∧∀d∈ω.ex,d∈ω₂.ex:=fun G=>
  ⟨(g₁.trans G fun d hd=>.inr (hX d hd).1).drop,fun d hd=>by rw[G.ex];exact List.mem_append_left _ hd⟩
 have H:=fun Q' E'=>hs ⟨B,A.deeper env,env,env.locals::Er env,Γ⟩ ⟨rfl,R',rfl,⟨l,hA⟩,N.frame,N.code,N.qual.trans rfl⟩ _ _ _ _ Q' E' r m₂ σ₂ F₁ I₁ (hpl▸hr)
 cases r with
 | next=>cases so hout;exact H _ _ (fun ω₂ s₂ G₂ I₂ F₂=>have d:=hdone G₂;k .none _ s₂ d.1 (I₂.unbar rfl d.2) .none_in) trivial
 | ret p=>cases so hout;exact H _ _ (fun ω₂ s₂ G₂ I₂ F₂ v hv=>have d:=hdone G₂;k v _ s₂ d.1 (I₂.unbar rfl d.2) (hv.carry (AR.less (ω:=ω₂) (ω':=⟨ω₂.mu,ω.ex⟩) rfl d.2))) trivial
 | brk=>exact nn hout
 | cont=>exact nn hout
 | exc y=>
  cases so hout
  exact H _ _ (fun _ _ _ _ _=>trivial) fun e₀ t tk hr base l' ω₂ s₂ hl' X Y=>by
   cases so (hl'.symm.trans hA)
   have d:=hdone X.gw
   exact eI hA N.frame Y d.1 (X.inv.unbar rfl d.2) k
 | exm y=>cases so hout;exact H _ _ (fun _ _ _ _ _=>trivial) fun e₀ tk hr ω₂ s₂ X Y=>have d:=hdone X.gw;jU hA N.frame X Y d.1 (X.inv.unbar rfl d.2) k
end
section
variable{B:AV}{ω ω':Wd}{e:List Addr}{σ':St}{s:Shared}
theorem DB(hm:ω'.mu=ω.mu++e)(hx:ω'.ex=ω.ex){h:Heap}{a:Addr}{o:Obj}(f:Fz ω' h a o):Fz ω h a o:=
 ⟨fun q=>f.1 (by rw[hm];exact List.mem_append_left _ q),by rw[←hx];exact f.2.1,f.2.2⟩
theorem FG(hm:ω'.mu=ω.mu++e){i:Nat}{a:Addr}(hi:i<ω.mu.length)(h:ω'.mu[i]?=some a):ω.mu[i]?=some a:=by
 rwa [hm,List.getElem?_append_left hi]at h
mutual
theorem xP(hm:ω'.mu=ω.mu++e)(hx:ω'.ex=ω.ex){h:Heap}:∀{p:PV} {v:Value},uO ω.mu.length p=true→VR B.C ω' h p v→VR B.C ω h p v
 | .none,_,_,x=>x
 | .bool _,_,_,x=>x
 | .int _,_,_,x=>x
 | .str _,_,_,x=>x
 | .byt _,_,_,x=>x
 | .tup l,_,q,x=>x.tup_el (P:=fun v=>VR B.C ω h (.tup l) v) fun _ _ _ _ f c d r=>.tup_in (DB hm hx f) c d (cls_ok hm hx q r)
 | .lst l,_,q,x=>x.lst_el (P:=fun v=>VR B.C ω h (.lst l) v) fun _ _ _ _ f c d r=>.lst_in (DB hm hx f) c d (cls_ok hm hx q r)
 | .rng a b c,_,_,x=>x.rng_el (P:=fun v=>VR B.C ω h (.rng a b c) v) fun _ _ _ _ f=>.rng_in (DB hm hx f)
 | .loc n,_,q,x=>x.loc_el (P:=fun v=>VR B.C ω h (.loc n) v) fun _ i=>.loc_in (FG hm (An q) i)
 | .strm n,_,q,x=>x.strm_el (P:=fun v=>VR B.C ω h (.strm n) v) fun _ _ f i=>.strm_in (DB hm hx f) (FG hm (An q) i)
 | .app n,_,q,x=>x.app_el (P:=fun v=>VR B.C ω h (.app n) v) fun _ _ f i=>.app_in (DB hm hx f) (FG hm (An q) i)
theorem cls_ok(hm:ω'.mu=ω.mu++e)(hx:ω'.ex=ω.ex){h:Heap}:∀{ps:List PV} {vs:List Value},clL ω.mu.length ps=true→VRs B.C ω' h ps vs→VRs B.C ω h ps vs
 | [],_,_,x=>x
 | p::ps,_,q,x=>AF q fun q1 q2=>x.cons_el (Ps:=fun vs=>VRs B.C ω h (p::ps) vs) fun _ _ a b=>.cons_in (xP hm hx q1 a) (cls_ok hm hx q2 b)
end
theorem VJ(I:AL B ω' σ' s)(hm:ω'.mu=ω.mu++e)(hx:ω'.ex=ω.ex){i:Nat}{a:Addr}{o:Obj}(hi:¬i<ω.mu.length)(h:ω'.mu[i]?=some a)(ho:s.heap.get? a=some o)(hd:¬EA o∧¬EL o):Fz ω s.heap a o:=
 ⟨fun q=>(List.mem_iff_getElem?.mp q).elim fun j hj=>by
  have hjl:j<ω.mu.length:=(List.getElem?_eq_some_iff.mp hj).1
  have hj':ω'.mu[j]?=some a:=by rw[hm,List.getElem?_append_left hjl];exact hj
  have h1:=List.getElem?_eq_some_iff.mp h
  have h2:=List.getElem?_eq_some_iff.mp hj'
  exact hi ((List.getElem_inj I.nodup).mp (h1.2.trans h2.2.symm)▸hjl),fun q=>I.apart a (List.mem_of_getElem? h) (hx▸q),ho,hd⟩
mutual
theorem Tk(I:AL B ω' σ' s)(hm:ω'.mu=ω.mu++e)(hx:ω'.ex=ω.ex):∀(k:Nat) {p q:PV} {v:Value},OF ω.mu.length σ' k p=some q→VR B.C ω' s.heap p v→VR B.C ω s.heap q v
 | 0,_,_,_,h,_=>nn h
 | k+1,.none,q,v,h,x=>AP (P:=fun q=>VR B.C ω s.heap q v) h x
 | k+1,.bool _,q,v,h,x=>AP (P:=fun q=>VR B.C ω s.heap q v) h x
 | k+1,.int _,q,v,h,x=>AP (P:=fun q=>VR B.C ω s.heap q v) h x
 | k+1,.str _,q,v,h,x=>AP (P:=fun q=>VR B.C ω s.heap q v) h x
 | k+1,.byt _,q,v,h,x=>AP (P:=fun q=>VR B.C ω s.heap q v) h x
 | k+1,.tup l,q,v,h,x=>Cm (P:=fun q=>VR B.C ω s.heap q v) h fun l' h1=>x.tup_el (P:=fun v=>VR B.C ω s.heap (.tup l') v) fun _ _ _ _ f c d r=>.tup_in (DB hm hx f) c d (fzL_ok I hm hx k h1 r)
 | k+1,.lst l,q,v,h,x=>Cm (P:=fun q=>VR B.C ω s.heap q v) h fun l' h1=>x.lst_el (P:=fun v=>VR B.C ω s.heap (.lst l') v) fun _ _ _ _ f c d r=>.lst_in (DB hm hx f) c d (fzL_ok I hm hx k h1 r)
 | k+1,.loc i,q,v,h,x=>by
  have h:cond (decide (i<ω.mu.length)) (some (.loc i)) (bd (Bv σ' i) fun l=>(fzL ω.mu.length σ' k l).map .lst)=some q:=h
  refine VR.loc_el (P:=fun v=>VR B.C ω s.heap q v) x fun a hi=>?_
  cases hlt:decide (i<ω.mu.length) with
  | true=>rw[hlt]at h;exact AP (P:=fun q=>VR B.C ω s.heap q (.ref a)) (ct h) (.loc_in (FG hm (An hlt) hi))
  | false=>
   rw[hlt]at h
   exact AB (cf h) fun l hl h=>Cm (P:=fun q=>VR B.C ω s.heap q (.ref a)) h fun l' h1=>I.lst_el hi (FN hl) fun o vs n ho c d r=>.lst_in (VJ I hm hx (of_decide_eq_false hlt) hi ho (HE d)) c.1 d (fzL_ok I hm hx k h1 r)
 | k+1,.rng _ _ _,_,_,h,_=>nn h
 | k+1,.strm _,_,_,h,_=>nn h
 | k+1,.app _,_,_,h,_=>nn h
theorem fzL_ok(I:AL B ω' σ' s)(hm:ω'.mu=ω.mu++e)(hx:ω'.ex=ω.ex):∀(k:Nat) {p q:List PV} {v:List Value},fzL ω.mu.length σ' k p=some q→VRs B.C ω' s.heap p v→VRs B.C ω s.heap q v
 | 0,_,_,_,h,_=>nn h
 | k+1,[],q,v,h,x=>AP (P:=fun q=>VRs B.C ω s.heap q v) h x
 | k+1,p::r,q,v,h,x=>AB h fun q' h1 h=>AB h fun t' h2 h=>AP (P:=fun q=>VRs B.C ω s.heap q v) h (x.cons_el (Ps:=fun v=>VRs B.C ω s.heap (q'::t') v) fun _ _ a b=>.cons_in (Tk I hm hx k h1 a) (fzL_ok I hm hx k h2 b))
end
theorem Lx(I:AL B ω' σ' s)(hm:ω'.mu=ω.mu++e)(hx:ω'.ex=ω.ex)(hc:(σ'.take ω.mu.length).all (Ex ω.mu.length)=true):AL B ω (σ'.take ω.mu.length) s:=
 have hlen:ω.mu.length≤σ'.length:=by rw[←I.len,hm,List.length_append];exact Nat.le_add_right ..
 have up:∀a∈ω.mu,a∈ω'.mu:=fun a q=>by rw[hm];exact List.mem_append_left _ q
 ⟨I.bok,I.lim,I.old,by rw[List.length_take];exact(Nat.min_eq_left hlen).symm,by have:=I.nodup;rw[hm,List.nodup_append]at this;exact this.1,fun a ha=>I.new a (ha.imp (up a) (fun q=>hx▸q)),fun a ha hx'=>I.apart a (up a ha) (hx▸hx'),
  fun a ha=>I.exl a (hx▸ha),fun i a o e1 e2=>by
   have hi:i<ω.mu.length:=(List.getElem?_eq_some_iff.mp e1).1
   have e1':ω'.mu[i]?=some a:=by rw[hm,List.getElem?_append_left hi];exact e1
   have hcl:=List.all_eq_true.mp hc o (List.mem_of_getElem? e2)
   rw[List.getElem?_take_of_lt hi]at e2
   have x:=I.objs i a o e1' e2
   cases o with
   | lst l=>exact I.lst_el e1' e2 fun o vs n h1 h2 h3 h4=>⟨o,vs,n,h1,h2,h3,cls_ok hm hx (AF hcl fun q _=>q) h4⟩
   | plain=>exact x
   | dct l=>exact x.elim fun vs q=>⟨vs,q.1,cls_ok hm hx (AF hcl fun _ q=>q) q.2⟩
   | sdict b=>exact B.Z.carry x (fun a o f=>DB hm hx f) fun _ q=>q,I.os,I.gens,I.tab.carry I.bok I.new (fun b o e _ _ _=>e) (fun a q=>.inl (up a q)) fun a q=>.inl (hx▸q)⟩
end
theorem OA{ω ω':Wd}{h h':Heap}(g:Gw ω [] h ω' h'):Gw ω [] h ω h':=⟨⟨[],by simp,by simp⟩,rfl,g.kp,g.there⟩
theorem Wg{B:AV}{lv:Nat}{v:Value}{sp:Spec}(h:MP B lv v sp):MP B lv v (As sp):=
 ⟨h.1,fun A R ω σ s Q E ps vs out σ' l hl I x e k=>AH e fun o σ₂ h₂ e=>AB e fun o' ho e=>AJ e fun hc e=>BF (P:=fun out σ'=>iR B ω s.heap σ' l out Q E→_) e (fun k=>by
  rw[show σ.length=ω.mu.length from I.len.symm]at ho hc k
  refine h.2 A R ω σ s Q E ps vs o σ₂ l hl I x h₂ ?_
  exact match o,ho with
   | .val p,ho=>AB (show bd (OF ω.mu.length σ₂ 100000 p) (fun q=>some (Oi.val q))=some o' from ho) fun q hq ho=>
     (AP (P:=fun o'=>iR B ω s.heap (σ₂.take ω.mu.length) l o' Q E→KV B ω s.heap σ₂ p Q) ho (fun k v' ω' s' G' I' x'=>G'.ext.elim fun ee hm=>k v' ω s' (OA G') (Lx I' hm.1 G'.ex hc) (Tk I' hm.1 G'.ex _ hq x'))) k
   | .exc y,ho=>
     (AP (P:=fun o'=>iR B ω s.heap (σ₂.take ω.mu.length) l o' Q E→KX B ω s.heap σ₂ l y E) (show some (Oi.exc y)=some o' from ho) (fun k a t tk hr base ω' s' G' I' X=>G'.ext.elim fun ee hm=>k a t tk hr base ω s' (OA G') (Lx I' hm.1 G'.ex hc)
      ⟨fun b o q=>(X.kp b o q).imp (fun z=>⟨z.1,z.2.1,fun w=>z.2.2 (by rw[hm.1];exact List.mem_append_left _ w)⟩) id,X.up,X.fly,X.tn,X.tup⟩)) k) k⟩
theorem Hm:mroOf (.type "object")=pure [.type "object"]:=by rw[mroOf_type];kernel_rfl
theorem FP:typeLookup (.type "object") "__new__" = pure (some (.builtin "object.__new__")):=by rw[typeLookup_type,builtinLookup_eq_fast];kernel_rfl
theorem IZ:TypeCalled "object" "object.__new__" "object.__init__":=
 ⟨by decide +kernel,by decide +kernel,⟨_,_,Hm⟩,madeBy_type Hm FP (by decide +kernel),by decide +kernel,by rw[isSubtype_type];kernel_rfl,PySem.F.slot_object_init⟩
theorem Gc:checkTypeCall "object" ⟨[],[]⟩=pure ():=by kernel_rfl
theorem HO:checkBuiltinCall "object.__new__" ⟨[.type "object"],[]⟩=pure ():=by kernel_rfl
theorem GE:entryFor table "object.__new__" = some Builtin.«object.__new__»:=entryFor_of_tree (by kernel_rfl)
theorem Db:plainId "object.__new__" = true:=by decide +kernel
theorem GW:Bind.madeHere "object.__new__" (.type "object")=pure ():=by kernel_rfl
theorem Hh:typeHasDict (.type "object")=false:=by kernel_rfl
section
variable{prog:Program}{w:World}{A:Around}{E:Value→Shared→Prop}{s:Shared}
theorem Ge{Q₁:Value→Shared→Prop}
  (h:Q₁ (.ref s.heap.objs.size) {s with heap:=s.heap.push {cls:=.type "object",data:=.plain}}) :
  codeAny (model prog w) A (.call (.builtin "object.__new__") ⟨[.type "object"],[]⟩) (wants Q₁ E) s:=by
 refine codeAny_of_tree ?_
 show wpAny _ A.in1 (do checkBuiltinCall "object.__new__" ⟨[.type "object"],[]⟩;again (.builtin "object.__new__" ⟨[.type "object"],[]⟩)) _ _ s
 refine wpAny_bind (wpAny_of_eq HO (wpAny_pure ⟨plainId_quiet Db _,codeAny_builtin GE ?_⟩))
 rw[Around.under_plainId Db _]
 have hm:=GW
 have hd:=Hh
 obtain⟨hp,g,d,tk,os⟩:=s
 wp_walk
 exact h
end
section
variable{prog:Program}{w:World}{A:Around}{E:Value→Shared→Prop}{s:Shared}
theorem LY{Q:Value→Shared→Prop}(h:Q (.ref s.heap.objs.size) {s with heap:=s.heap.push {cls:=.type "object",data:=.plain}}):wpAny (model prog w) A (call (.type "object") []) Q E s:=by
 refine callType_codes (Q₁:=fun obj s₁=>obj=.ref s.heap.objs.size∧s₁={s with heap:=s.heap.push {cls:=.type "object",data:=.plain}}) IZ Gc F.entry_object_init
  (Ge ⟨rfl,rfl⟩) fun obj s₁ h₁=>?_
 obtain⟨rfl,rfl⟩:=h₁
 exact⟨⟨_,Heap.get?_push_size _ rfl,rfl⟩,F.args_object_init_1 _,wpAny_pure ⟨rfl,h⟩⟩
end
theorem Rf:typeLookup (.type "method_descriptor") "__get__" = pure (some (.builtin "method_descriptor.__get__")):=by rw[typeLookup_type,builtinLookup_eq_fast];kernel_rfl
theorem jS:typeLookup (.type "method_descriptor") "__set__" = pure none:=by rw[typeLookup_type,builtinLookup_eq_fast];kernel_rfl
theorem jK:typeLookup (.type "method_descriptor") "__delete__" = pure none:=by rw[typeLookup_type,builtinLookup_eq_fast];kernel_rfl
theorem On:Slot "method_descriptor" "__get__" "method_descriptor.__get__":=
 .of (owner := "method_descriptor") (n := "__get__") Rf (by decide +kernel) (by decide +kernel) (by decide +kernel)
  (by first|exact .inl (by decide +kernel) | exact .inr (by decide +kernel)) (by rw[isSubtype_type];kernel_rfl)
theorem Qi:entryFor table "method_descriptor.__get__" = some Builtin.«method_descriptor.__get__»:=entryFor_of_tree (by kernel_rfl)
theorem Ue(a b c:Value):argsOk "method_descriptor.__get__" ⟨[a,b,c],[]⟩:=by unfold argsOk;kernel_rfl
theorem jA:isSubtype (.type "list") (.type "list")=pure true:=by rw[isSubtype_type];kernel_rfl
theorem zO:Manifest.toldItsClass.contains "list.append" = false:=by decide +kernel
theorem mB(a:Addr):Builtin.«method_descriptor.__get__» ⟨[.builtin "list.append",.ref a,.type "list"],[]⟩=((do
  if !(←isInstance (.ref a) (.type "list")) then
   rule "descr.get.wrong-instance"
   raiseError "TypeError" s!"descriptor '{(Str.ofString "append").toString}' for '{← typeName (.type "list")}' objects doesn't apply to a '{← typeNameOf (.ref a)}' object" : Sem Unit) >>= fun _=>(do
  ret (←newFields "builtin_function_or_method" [.builtin "list.append",.ref a]))):=by kernel_rfl
theorem bH(prog:Program)(w:World)(A:Around)(Q:Fin→Shared→Prop)(E:Value→Shared→Prop)(a:Addr)(s:Shared)(hT:s.TypeIs (.ref a) "list")(h:Q (.done (.ret (.ref s.heap.objs.size))) {s with heap:=s.heap.push (Ck a)}) :
  wpAny (model prog w) A (Builtin.«method_descriptor.__get__» ⟨[.builtin "list.append",.ref a,.type "list"],[]⟩) Q E s:=by
 rw[mB]
 refine wpAny_bind (wpAny_bind (wpAny_isInstance hT jA ?_))
 rw[if_neg (by decide)]
 exact wpAny_pure (wpAny_bind (wpAny_newObj_type (wpAny_pure h)))
theorem PJ(a:Addr)(xs:Array Value)(k:Nat)(u:Tok) :
  Meets (Builtin.«object.__getattribute__» ⟨[.ref a,.str "append" u],[]⟩) (fun _ R s=>s.heap.get? a=some {cls:=.type "list",dict:=none,data:=.seq xs k,slots:=#[]}∧R (.ok (.ret (.ref s.heap.objs.size))) {s with heap:=s.heap.push (Ck a)}):=
 Meets.of_wp fun prog w A R s hs=>by
  obtain⟨hx,h⟩:=hs
  obtain⟨hp,g,d,tk,os⟩:=s
  have hT:(⟨hp,g,d,tk,os⟩:Shared).TypeIs (.ref a) "list" := ⟨_,hx,rfl⟩
  have f3:=slot_list_append.lookup
  have f4:=type_list_append
  have f5:=Rf
  have f6:=jS
  have f7:=jK
  unfold Builtin.«object.__getattribute__»
  repeat (any_goals (first|assumption | wp_step))
  refine codeAny_call_builtin On.plain Qi (On.check _ _ _ _ _ _ _ _ type_list_append (Ue _ _ _) (bH _ _ _ _ _ a _ hT ?_))
  exact wpAny_pure ⟨_,rfl,h⟩
theorem LX{prog:Program}{w:World}{A:Around}{E:Value→Shared→Prop}{s:Shared}{a:Addr}{xs:Array Value}{k:Nat}{Q:Value→Shared→Prop}(hx:IsL s.heap a xs k)
  (h:∀tk,Q (.ref s.heap.objs.size) {s with heap:=s.heap.push (Ck a),toks:=tk}):wpAny (model prog w) A (getAttr (.ref a) "append" true) Q E s:=by
 obtain⟨hp,g,d,tk,os⟩:=s
 have hT:∀tk',(⟨hp,g,d,tk',os⟩:Shared).TypeIs (.ref a) "list" := fun _=>⟨_,hx,rfl⟩
 have f3:=F.slot_list_getattribute.lookup
 have f4:=F.slot_list_getattribute.bind (.ref a)
 have f5:=am_list_getattr_none
 unfold getAttr getAttrBy
 repeat (any_goals (first|assumption | exact hT _ | ((with_reducible show wpAny _ _ (call (Value.builtin "list.__getattribute__") _ _) _ _ _);refine call_meets F.slot_list_getattribute (hT _) am_entry_list_getattribute (F.args_list_getattribute_2 _ _) (PJ a xs k _) ⟨hx,?_⟩) | wp_step))
 exact wpAny_pure (h (tk+1))
theorem JM{M:Model}{A:Around}{E:Value→Shared→Prop}{s:Shared}{pos:Pos}{q a:Addr}{args:List (Bool×Sem Value)}{Q:Value→Shared→Prop}(hpl:args.any (·.1)=false)
  (h:wpAny M A (PySem.evalArgs (.ref q) true args []) (fun x s₁=>s₁.heap.get? q=some (Ck a)∧wpAny M A (call (.ref q) x.pos x.kw) Q E s₁) E s) :
  wpAny M A (callWith pos (.ref q) [] args []) Q E s:=
 callWith_of (P:=fun h=>h.get? q=some (Ck a)) (by rw[hpl];rfl) (fun h e=>⟨.machine,.inr (.inl rfl),(Looks.ld (part:=none) e).andThen .now⟩) h
theorem iI:∃sig,Manifest.signature? "list.append" = some sig∧∀a v,Bind.checkArgs "list.append" {sig with full:=s!"{Bind.lastOf "list"}.{Bind.lastOf "list.append"}"} ⟨[.ref a,v],[]⟩=pure ():=by
 refine⟨(Manifest.signature? "list.append").get (by decide +kernel),by simp,fun a v=>by kernel_rfl⟩
theorem SX:builtinKind "list.append" = some .method:=by decide +kernel
theorem Tc:Manifest.varargsMethods.contains "list.append" = false:=by decide +kernel
theorem dE:isSubtype (.type "list") (.type "module")=pure false:=by rw[isSubtype_type];kernel_rfl
theorem Pb{M:Model}{A:Around}{E:Value→Shared→Prop}{s:Shared}{a:Addr}{v:Value}{xs:Array Value}{k:Nat}{Q:Unit→Shared→Prop}(hx:IsL s.heap a xs k)(h:Q () s):wpAny M A (checkBoundCall "list.append" ⟨[.ref a,v],[]⟩) Q E s:=by
 obtain⟨sig,h1,h2⟩:=iI
 have f1:=dE
 have f2:=h2 a v
 have f3:=SX
 have f4:=Tc
 have hT:s.TypeIs (.ref a) "list" := ⟨_,hx,rfl⟩
 unfold checkBoundCall
 rw[h1,f3]
 simp only[f4]
 obtain⟨hp,g,d,tk,os⟩:=s
 repeat (any_goals (first|assumption | wp_step))
theorem TT{prog:Program}{w:World}{A:Around}{E:Value→Shared→Prop}{s:Shared}{q a:Addr}{v:Value}{xs:Array Value}{k:Nat}{Q:Value→Shared→Prop}(hq:s.heap.get? q=some (Ck a))(hx:IsL s.heap a xs k)(hsz:xs.size≤sizeLine)
  (hQ:∀h' n',IsL h' a (xs.push v) n'→Heap.SameBut a s.heap h'→Q .none {s with heap:=h'}):wpAny (model prog w) A (call (.ref q) [v]) Q E s:=by
 have hp:plainId "list.append" = true:=slot_list_append.plain
 refine wpAny_call (codeAny_of_tree ?_)
 show wpAny _ _ (callAny (.ref q) _) _ _ _
 refine nd_load hq ?_
 show wpAny _ _ (do checkBoundCall "list.append" ⟨[.ref a,v],[]⟩;again (.builtin "list.append" ⟨[.ref a,v],[]⟩)) _ _ _
 refine wpAny_bind (Pb hx (wpAny_pure ⟨plainId_quiet hp _,codeAny_builtin entry_list_append ?_⟩))
 rw[Around.under_plainId hp _]
 show wpAny _ _ (updateSeq a (·.push v) >>= fun _=>ret .none) _ _ s
 have hz':(xs.push v).size≤sizeLine+1:=by rw[Array.size_push];lia
 refine wpAny_bind (wpAny_updateSeq hx rfl (hz:=hsz) (_hz':=hz') (wpAny_pure ?_))
 exact hQ _ _ (IsL.update hx (·.push v)) (Heap.SameBut.update ..)
section
variable{c:Cx}{Φ:Nat→Option Spec}
theorem VO{n:Str}{np pos:Pos}(hN:Eh c.B)(hn:n = "object")(hg:GM c.Γ n=true):SE c (.Call (.Name n np) [] [] pos) (ev Φ .star):=
 fun ω m σ s Q E p σ' F I e k=>by
  subst hn
  refine wpAny_Call_ofName (Ep F I hg (hN _ (by decide +kernel)) (by decide +kernel) Boot.«object» ?_)
  have hk:=AO s.heap {cls:=.type "object",data:=.plain}
  have hn:=Ar s.heap
  exact callWith_excType rfl (PySem.evalArgs_none (LY ((KE.lit e k) _ ⟨ω.mu++[s.heap.objs.size],ω.ex⟩ {s with heap:=s.heap.push {cls:=.type "object",data:=.plain}} (FM hn hk) (I.push (tk:=s.toks) hn hk ⟨_,BX _ _ rfl,rfl⟩) (.loc_in I.at_new))))
theorem Vi(l:Addr):¬EA (Ck l)∧¬EL (Ck l):=⟨fun⟨_,_,e⟩=>(nomatch e),fun q=>(nomatch q.1)⟩
theorem fZ{a:X}{o:Expr}{attr:Str}{pos:Pos}(ha:SE c o (ev Φ a))(hb:BV o=true)(hat:attr = "append"):SE c (.Attribute o attr pos) (ev Φ (.app a)):=
 fun ω m σ s Q E p σ' F I e k=>AH e fun p₁ σ₁ e₁ e=>AB e fun n e₂ e=>AB e fun l hl e=>by
  subst hat
  exact Attribute_any_ (ha ω m σ s _ E _ _ F I e₁ fun v ω₁ s₁ G₁ I₁ x₁=>Dj (P:=fun v=>wpAny (model c.B.prog c.B.w) c.A (getAttr v "append" true) Q E s₁) I₁ (DJ e₂▸x₁) hl fun d oo vs kk hi ho hc hd hr=>LX (Hb ho hc hd) fun tk=>
   (KE.gw (KE.lit e k) G₁).kk I₁ _ _ tk (AO _ _) (.app_in (JS I₁ (Vi d) (Ar _) (BX _ _ rfl)) hi)) (by rw[arm_eval_Attribute,Dn hb])
theorem QY{i:Nat}{x:Str}{a:X}{e:Expr}{np pos:Pos}(hv:c.Γ.vis i x=true)(hk:c.Γ.names.lookup x=some .local∨c.Γ.names.lookup x=some .cell∨c.Γ.names.lookup x=some .free)
  (hx:(x==("__classdict__" : Str))=false) (hd:(x==("__debug__" : Str))=false) (h:A1 c Φ a e):SE c (.Call (.Name x np) [e] [] pos) (ev Φ (.callv i a)):=
 fun ω m σ s Q E p σ' F I he k=>AB he fun q hm he=>AB hm fun o hm ho=>AB he fun n hq he=>AH he fun p₁ σ₁ e₁ he=>
  wpAny_Call_ofName (wpAny_Name (Gl F hv hk (hm.trans (congrArg some ho)) hx fun v r=>VR.app_el (P:=fun v=>wpAny (model c.B.prog c.B.w) c.A (callWith pos v [] (backTo pos (starEach [e] c.env)) []) Q E s) (eW hq▸r) fun qa d f hi=>by
   have A:A2 c Φ (.cons a .nil) [e]:=⟨h,trivial⟩
   have hpl:(backTo pos (starEach [e] c.env)).any (·.1)=false:=(Dg _ _).2.trans A.plain.2
   refine JM (a:=d) hpl (A.evalArgs F I (show sq (ev Φ a m σ) (fun p σ=>sq (some ([],σ)) fun ps σ=>some (p::ps,σ))=some ([p₁],σ₁) by rw[e₁];rfl) fun vs ω₁ s₁ G₁ I₁ x₁=>?_)
   have f₁:=f.gw G₁ (fun _ q=>nomatch q)
   refine⟨f₁.2.2.1,x₁.one_el fun v hvr=>?_⟩
   exact Ah he (fun he=>AB he fun _ e _=>nn e) fun he=>Ah he (fun he=>AB he fun _ e _=>nn e) fun he=>AB he fun n' en he=>AB he fun l hl he=>AB he fun y ey he=>by
    cases so (show some n=some n' from en)
    have hi₁:=G₁.idx hi
    refine I₁.lst_el hi₁ (FN hl) fun o ws kk ho hc hdd hr=>AB ey fun q' eq ey=>AJ ey fun hs ey=>?_
    cases so (show some p₁=some q' from eq)
    exact TT f₁.2.2.1 (Hb ho hc hdd) (by rw[hr.size];exact Aa hs) fun h' n' hL' hs'=>
     KM.set (r:=.none) (l':=l++[p₁]) I₁ hi₁ (fun v' h'' tk G I x=>BF (P:=fun p σ'=>KE c ω s σ' p Q→Q v' _) he (fun k=>k v' ω₁ {s₁ with heap:=h'',toks:=tk} (G₁.trans G) (so ey▸I) (so ey▸x)) k) hs' hL' (by rw[Array.toList_push];exact hr.append (.one hvr)) .none_in) hd)
end
section
variable{c:Cx}{Φ:Nat→Option Spec}
def FV1(c:Cx)(Φ:Nat→Option Spec)(x:X)(e:Expr):Prop:=((∃k v p,e=.Constant k v p)∧SE c e (ev Φ x))∨∃v p,e=.FormattedValue v (-1) none p∧SE c v (ev Φ x)
noncomputable def FV(c:Cx)(Φ:Nat→Option Spec):XL→List Expr→Prop
 | .nil,[]=>True
 | .cons x r,e::es=>FV1 c Φ x e∧FV c Φ r es
 | _,_=>False
theorem RP{n m:Nat}(h:n≤m)(hm:m≤BM):n≤sizeLine:=Aa (decide_eq_true (Nat.le_trans h hm))
theorem Qf:∀{xs:XL} {es:List Expr},FV c Φ xs es→∀ω m σ s (acc:Str) (Q:Str→Shared→Prop) E ps σ' ss,FR c ω s.heap m→AL c.B ω σ s→evL Φ xs m σ=some (ps,σ')→EH ps=some ss→acc.length+(ss.map (·.length)).sum≤BM →
  (∀ω' s',Gw ω [] s.heap ω' s'.heap→AL c.B ω' σ' s'→Q (ss.foldl (·++·) acc) s')→Joins (model c.B.prog c.B.w) c.A E (evalEach es c.env) acc Q s
 | .nil,[],_=>fun ω m σ s acc Q E ps σ' ss F I e hs hl k=>by
  cases so (show some (([]:List PV),σ)=some (ps,σ') from e)
  cases so (show some ([]:List Str)=some ss from hs)
  exact k ω s (.refl _ _ _) I
 | .cons x r,e::es,h=>fun ω m σ s acc Q E ps σ' ss F I he hs hl k=>AH he fun p₁ σ₁ e₁ he=>AH he fun ps' σ₂ e₂ he=>by
  cases so he
  refine AB (show(bd p₁.str? fun i=>bd (EH ps') fun l=>some (i::l))=some ss from hs) fun y ey hs=>AB hs fun ss' h1 hs=>?_
  cases so hs
  have hl':(acc++y).length+(ss'.map (·.length)).sum≤BM:=by rw[strLen_append,Nat.add_assoc];exact hl
  have hlen:acc.length+y.length≤sizeLine:=strLen_append acc y▸RP (Nat.le_add_right _ _) hl'
  have fin:∀t ω₁ s₁,Gw ω [] s.heap ω₁ s₁.heap→AL c.B ω₁ σ₁ s₁→∃y' t',Value.str y t=.str y' t'∧(acc++y').length≤sizeLine∧Joins (model c.B.prog c.B.w) c.A E (evalEach es c.env) (acc++y') Q s₁:=fun t ω₁ s₁ G₁ I₁=>
   ⟨y,t,rfl,by rw[strLen_append];exact hlen,Qf h.2 ω₁ m σ₁ s₁ (acc++y) Q E _ _ _ (F.gw G₁ I₁.apart) I₁ e₂ h1 hl' fun ω' s' G' I'=>k ω' s' (G₁.trans G') I'⟩
  show wpAny _ _ (eval e c.env) _ E s
  exact h.1.elim (fun q=>q.2 ω m σ s _ E _ _ F I e₁ fun v ω₁ s₁ G₁ I₁ x₁=>x₁.str_vr ey fun t=>fin t ω₁ s₁ G₁ I₁) fun q=>q.elim fun v q=>q.elim fun p q=>by
   rw[q.1]
   exact wpAny_FormattedValue_plain (q.2 ω m σ s _ E _ _ F I e₁ fun v ω₁ s₁ G₁ I₁ x₁=>x₁.str_vr ey fun t=>wpAny_formatField_str (fin t ω₁ s₁ G₁ I₁) (fin _ ω₁ _ (G₁.trans (.of_keep fun _ _ e=>e)) I₁.toks) (Nat.le_trans (Nat.le_add_left _ _) hlen))
 | .nil,_::_,h=>h.elim
 | .cons _ _,[],h=>h.elim
theorem Lm:∀(l:List Str) (a:Str),(l.foldl (·++·) a).length=a.length+(l.map (·.length)).sum
 | [],a=>rfl
 | x::r,a=>by rw[List.foldl_cons,Lm r,strLen_append,List.map_cons,List.sum_cons,Nat.add_assoc]
theorem WO{xs:XL}{v₁ v₂:Expr}{es:List Expr}{pos:Pos}(h:FV c Φ xs (v₁::v₂::es)):SE c (.JoinedStr (v₁::v₂::es) pos) (ev Φ (.fstr xs)):=
 fun ω m σ s Q E p σ' F I e k=>AH e fun ps σ₁ e₁ e=>KE.vl e k fun e k=>AB e fun ss hss e=>AJ e fun hl e=>by
  have h0:Str.empty.length+(ss.map (·.length)).sum≤BM:=by rw[show Str.empty.length=0 from rfl,Nat.zero_add];exact An hl
  exact wpAny_JoinedStr (Qf h ω m σ s Str.empty _ E ps σ₁ ss F I e₁ hss h0 fun ω' s' G I'=>⟨by rw[Lm];exact RP (Nat.le_refl _) h0,(KK.str ((k.gw G).kk I') e _ _)⟩)
end
theorem SU{h₀ h h':Heap}(K:OldK h₀ h)(e:∀b,(∃o,h₀.get? b=some o)→h'.get? b=h.get? b):OldK h₀ h':=by
 refine⟨fun b o q=>?_,fun b o q=>by rw[e b ⟨o,q⟩];exact K.there b o q⟩
 have hb:=e b ⟨o,q⟩
 rcases K.old b o q with x|⟨t,hc,vs,more,hv,x⟩|⟨rfl,hc,⟨o',es,n,ho',r⟩,z⟩
 ·exact .inl (hb.trans x)
 ·exact .inr (.inl ⟨t,hc,vs,more,hv,hb.trans x⟩)
 ·exact .inr (.inr ⟨rfl,hc,⟨o',es,n,hb.trans ho',r⟩,fun key=>by rw[OldK.staticOf_congr hb key];exact z key⟩)
structure N9(c:Cx)(ω:Wd)(σ:St)(s:Shared)(hr h:Heap)(m:Fm):Prop where
 G:Gw ω [] hr ω h
 I:AL c.B ω σ {s with heap:=h}
 F:FR c ω h m
theorem oO{c:Cx}{ω:Wd}{σ:St}{s:Shared}{hr h base:Heap}{m:Fm}(I:AL c.B ω σ {s with heap:=hr})(F:FR c ω hr m)
  (hb:∀b o,hr.get? b=some o→(c.B.h₀.get? b=none∧EA o∧b∉ω.mu)∨base.get? b=some o) (hu:hr.UpToSlots h) (hst:base.StaysIn h):N9 c ω σ s hr h m:=
 have ko:∀b o,hr.get? b=some o→KO o (h.get? b):=fun b o e=>(hb b o e).elim (fun q=>⟨hu b o e fun vs z=>q.2.1.elim fun es w=>w.elim fun n w=>(nomatch w.symm.trans z),fun z=>absurd q.2.1 z⟩) fun q=>.same (hst b o q)
 have G:Gw ω [] hr ω h:=⟨⟨[],by simp,by simp⟩,rfl,fun b o e _ _ _=>ko b o e,fun b o e=>(ko b o e).1.elim fun sl q=>⟨_,q⟩⟩
 have same:∀b o,hr.get? b=some o→(b∈ω.mu∨∃o,c.B.h₀.get? b=some o)→h.get? b=some o:=fun b o e hx=>
  (hb b o e).elim (fun q=>hx.elim (fun hx=>absurd hx q.2.2) fun hx=>hx.elim fun o' hx=>(nomatch q.1.symm.trans hx)) fun q=>hst b o q
 have agree:∀b,(∃o,c.B.h₀.get? b=some o)→h.get? b=hr.get? b:=fun b ⟨o,e⟩=>(I.old.there b o e).elim fun o' e'=>(same b o' e' (.inr ⟨o,e⟩)).trans (show hr.get? b=some o' from e').symm
 have I':AL c.B ω σ {s with heap:=h}:=
  ⟨I.bok,I.lim.elim fun mc q=>I.bok.lim.elim fun mc₀ q₀=>⟨mc,DS q.1 fun o' e _=>.same (same _ _ e (.inr (q₀.1.elim fun o z=>z.elim fun _ z=>z.elim fun _ z=>⟨o,z.1⟩))),q.2⟩,SU I.old agree,I.len,I.nodup,I.new,I.apart,
   fun a ha=>(Option.isSome_iff_exists.mp (I.exl a ha)).elim fun o e=>Option.isSome_iff_exists.mpr (G.there a o e),fun i a o e1 e2=>(I.objs i a o e1 e2).carry (.of_gw G fun _ q=>nomatch q) fun o' e=>same a o' e (.inl (List.mem_of_getElem? e1)),I.os,I.gens,
   I.tab.carry I.bok I.new (fun b o e _ _ hd=>(hb b o e).elim (fun q=>absurd q.2.1 hd) fun q=>hst b o q) (fun _ q=>.inl q) fun _ q=>.inl q⟩
 ⟨G,I',F.gw G I'.apart⟩
section
variable{c:Cx}{ω:Wd}{σ:St}{s:Shared}{m:Fm}
theorem FR.other{x:Str}{h h':Heap}{f f':Str→Option Value}(F:FR c ω h m)(hf:h.Ns c.env.locals f)(hn:h'.Ns c.env.locals f')(hff:∀y,y≠x→f' y=f y)(hs:Heap.SameBut c.env.locals h h')(hx:x∉c.Γ.nt):FR c ω h' m:=
 have gC:AR ω h ω h':=.of_ex (F.own _ F.loc) hs.extBut
 have kc:∀{a v},h.IsCell a v→h'.IsCell a v:=fun hc=>hc.sameBut hs fun q=>ES hc (q▸hf)
 ⟨F.len,F.kind,F.names,F.glob,F.blt,F.own,F.apart,F.loc,F.ns.elim fun f₀ q=>⟨f',hn,fun j y p h1 h2 h3=>(q.2 j y p h1 h2 h3).elim fun v z=>⟨v,(hff y fun e=>hx (e▸List.mem_of_getElem? (Sc.vis_at h1).1)).trans (OC q.1 hf▸z.1),z.2.carry gC⟩⟩,
  fun j y q h1 h2 h3=>(F.cel j y q h1 h2 h3).elim fun a z=>z.elim fun v z=>⟨a,v,z.1,kc z.2.1,z.2.2.carry gC⟩,fun y h1=>(F.celo y h1).elim fun a z=>z.elim fun v z=>⟨a,v,z.1,kc z.2⟩,F.celx,F.celw,F.inj,
  F.ff.elim fun l q=>⟨l,q.1,fun e he=>(q.2 e he).imp id fun z=>z.elim fun L z=>z.elim fun f'' z=>(Classical.em (L=c.env.locals)).elim (fun e1=>⟨L,f',z.1,z.2.1,e1▸hn⟩) fun e1=>⟨L,f'',z.1,z.2.1,z.2.2.sameBut hs e1⟩⟩⟩
theorem FR.mark(F:FR c ω s.heap m)(v:Option Value):FR ⟨c.B,c.A.mark v,c.env,c.own,c.Γ⟩ ω s.heap m:=
 ⟨F.len,F.kind,F.names,F.glob,F.blt,F.own,F.apart,F.loc,F.ns,F.cel,F.celo,F.celx,F.celw,F.inj,F.ff⟩
theorem FR.unmark{v:Option Value}{h:Heap}(F:FR ⟨c.B,c.A.mark v,c.env,c.own,c.Γ⟩ ω h m):FR c ω h m:=
 ⟨F.len,F.kind,F.names,F.glob,F.blt,F.own,F.apart,F.loc,F.ns,F.cel,F.celo,F.celx,F.celw,F.inj,F.ff⟩
end
section
variable{c:Cx}{Φ:Nat→Option Spec}
theorem fC{b o:SL}{bs os:List Stmt}{w:Nat}{x n y n':Str}{t:Expr}{np np2 np3 p1 p2 hpos pos:Pos}{lv:Nat}(R:Rm lv c.A)(hN:Eh c.B)(hfr:∃outer,c.A.frames=some (c.env::outer))(hfl:c.env.frame=some c.env.locals)
  (hb:Mx c bs (evSL Φ b)) (ho:Mx c os (evSL Φ o)) (hx:x = "ValueError") (hxg:GM c.Γ x=true) (hy:y = "str") (hyg:GM c.Γ y=true) (hn':n'=n) (hnl:c.Γ.names.lookup n=some .local) (hnt:n∉c.Γ.nt) (hnd:(n==("__debug__" : Str))=false)
  (ht:Bm c.Γ w t=true) :
  Cn c (.Try bs [.ExceptHandler (some (.Name x np)) (some n) [.Assign [t] (.Call (.Name y np2) [.Name n' np3] [] p1) p2] hpos] os [] pos) (Ab Φ (.tryR b w o)):=by
 intro ω m σ s Q E r m' σ' F I he k kx
 subst hx hy hn'
 refine Ly he fun a m₁ σ₁ e₁ he=>wpAny_Try_except (CZ fun Q₁ E₁ hQ₁ hE₁=>?_)
 have H:=fun Q' E'=>hb ω m σ s Q' E' a m₁ σ₁ F I e₁
 cases a with
 | next=>exact H _ _ (fun ω₁ s₁ G₁ I₁ F₁=>hQ₁ _ _ (ho ω₁ m₁ σ₁ s₁ Q E r m' σ' F₁ I₁ he (KQ.pre k G₁) (EQ.pre G₁ kx))) trivial
 | ret p=>exact nn he
 | brk=>exact nn he
 | cont=>exact nn he
 | exm y=>exact nn he
 | exc x=>
  refine H _ _ (fun _ _ _ _ _=>trivial) fun a t0 tk hr base l ω₁ s₁ hl X Y=>hE₁ _ _ ?_
  have⟨outer,hout⟩:=hfr
  cases so (hl.symm.trans hout)
  refine wpAny_looks_onW hout hfl Y.fly fun h₂ held₂ hu₂=>?_
  refine wpAny_landsW held₂ fun h₃ hfly₃ hu₃=>?_
  have hu13:=(Y.up.trans hu₂).trans hu₃
  have L₃:=oO (s:=s₁) X.inv X.fr Y.kp hu13 hfly₃.1
  have F₃':FR ⟨c.B,c.A.mark (some (.ref a)),c.env,c.own,c.Γ⟩ ω₁ h₃ m₁:=FR.mark (s:={s₁ with heap:=h₃}) L₃.F _
  obtain⟨ob,hob,hobc⟩:=hfly₃.there
  refine wpAny_handleBy_builtin_as (X := "ValueError") (T := "ValueError") (b:=true) PySem.F.isExc_ValueError PySem.F.notTuple_ValueError (by rw[isSubtype_type];kernel_rfl)
   (Ep (c:=⟨c.B,c.A.mark (some (.ref a)),c.env,c.own,c.Γ⟩) (s:={s₁ with heap:=h₃}) F₃' L₃.I hxg (hN _ (by decide +kernel)) (by decide +kernel) Boot.«ValueError» ⟨rfl,⟨ob,hob,hobc⟩,?_⟩)
  refine(if_pos rfl).mpr (lands_againW hfly₃ fun h₄ hfly₄ hu₄=>CZ fun Q₃ E₃ hQ₃ _=>?_)
  have⟨G₄,I₄,F₄⟩:=oO (s:=s₁) X.inv X.fr Y.kp (hu13.trans hu₄) hfly₄.1
  obtain⟨f₄,hf₄,_⟩:=id F₄.ns
  have hLx:c.env.locals∈ω₁.ex:=F₄.own _ F₄.loc
  refine wpAny_storeName_local (by rw[F.kindOf];exact hnl) hf₄ (fun h₅ hn₅ hs₅=>hQ₃ _ _ (CZ fun Q₄ E₄ hQ₄ _=>?_)) (by rw[F.kind];rfl)
  have F₅:=F₄.other hf₄ hn₅ (fun z hz=>if_neg hz) hs₅ hnt
  have hz₅:(h₅.get? c.env.locals).isSome=true:=by obtain⟨o,_,_,q,_⟩:=hn₅;rw[q];rfl
  have I₅:=I₄.exstep (tk:=s₁.toks+1) hLx hs₅.extBut hz₅
  have F₅':FR ⟨c.B,c.A.mark (some (.ref a)),c.env,c.own,c.Γ⟩ ω₁ h₅ m₁:=FR.mark (s:={s₁ with heap:=h₅}) F₅ _

  obtain⟨oe,ws,hoe,hoec,hoed,hoe0⟩:=hfly₄.first
  have hneL:∀{d:Addr} {od:Obj},h₄.get? d=some od→¬EA od→d≠c.env.locals:=fun {d od} hd hnd q=>by
   obtain⟨o',es,ep,q1,q2,_⟩:=hf₄
   rw[←q,hd]at q1;cases q1
   exact hnd ⟨es,ep,q2⟩
  have hex₅:h₅.get? a=some oe:=hs₅.extBut a oe (hneL hoe (by simp[EA,hoed])) hoe
  obtain⟨ot,nt,hot,hotc,hotd⟩:=((Y.tup.of_slots hu₂).of_slots hu₃).of_slots hu₄
  have htp₅:h₅.TupAt t0 [.str x tk]:=⟨ot,nt,hs₅.extBut t0 ot (hneL hot (by simp[EA,hotd])) hot,hotc,hotd⟩
  refine Bs ht fun q yy hq hv hk=>?_
  rw[hq]
  refine wpAny_execs_cons (wpAny_Assign_Name (wpAny_Call_ofName (Ep (c:=⟨c.B,c.A.mark (some (.ref a)),c.env,c.own,c.Γ⟩) (s:={s₁ with heap:=h₅,toks:=s₁.toks+1}) F₅' I₅ hyg (hN _ (by decide +kernel)) (by decide +kernel) Boot.«str» ?_)) rfl)
  refine callWith_excType rfl ?_
  show wpAny _ _ (PySem.evalArgs (.type "str") true [(false,eval (.Name n' np3) c.env)] []) _ _ _
  refine evalArgs_plain (spliced_cons (wpAny_Name (wpAny_loadName_local F.kind (by rw[F.kindOf];exact hnl) hn₅ (if_pos rfl) ?_) hnd))
  refine spliced_nil ?_
  refine PySem.P.str_of_exc_one PySem.F.excStr_ValueError (by have:=R.units;show c.A.units+2<9900;lia) ⟨oe,ws,hex₅,hoec,hoed,hoe0⟩ htp₅ ?_
  refine CR (c:=⟨c.B,c.A.mark (some (.ref a)),c.env,c.own,c.Γ⟩) (s:={s₁ with heap:=h₅,toks:=s₁.toks+1}) (p:=.str x) F₅' I₅ hv hk .str_in fun h₆ tk₆ G₆ I₆ F₆=>?_
  refine wpAny_execs_nil (hQ₄ _ _ ?_)
  have F₆':FR c ω₁ h₆ (m₁.set w (some (.str x))):=F₆.unmark
  obtain⟨f₆,hf₆,_⟩:=id F₆'.ns
  refine wpAny_nameGoes_keeps (by rw[F.kindOf];exact hnl) hf₆ (by rw[F.kind];rfl) fun h₇ v hn₇ hs₇=>?_
  have hz₇:(h₇.get? c.env.locals).isSome=true:=by obtain⟨o,_,_,q,_⟩:=hn₇;rw[q];rfl
  have hz₇':∃o',h₇.get? c.env.locals=some o':=Option.isSome_iff_exists.mp hz₇
  have hz₅':∃o',h₅.get? c.env.locals=some o':=Option.isSome_iff_exists.mp hz₅
  have Gall:Gw ω c.own s.heap ω₁ h₇:=((((X.gw.trans G₄.own).trans (.of_ext (.inr F₄.loc) hs₅.extBut hz₅')).trans G₆).trans (.of_ext (.inr F₄.loc) hs₇.extBut hz₇'))
  exact EC (P:=fun r m' σ'=>KQ c r ω s.heap σ' m' Q→Q .next {s₁ with heap:=h₇,toks:=tk₆+1}) he (fun k=>k ω₁ _ Gall (I₆.exstep hLx hs₇.extBut hz₇) (F₆'.other hf₆ hn₇ (fun z hz=>if_neg hz) hs₇ hnt)) k
end
noncomputable def CE(e:Expr):Bool:=match e with
 | .Starred ..=>true
 | _=>false
theorem EW{e:Expr}(h:CE e=false):Ce e:=fun t p he=>by rw[he]at h;exact Bool.noConfusion h
section
variable{c:Cx}{Φ:Nat→Option Spec}
def Xq(Γ:Sc)(t1 t2 e1 e2:Expr):Bool:=Γ.names.lookup (kd t1).x==some .local&&(Γ.names.lookup (kd t2).x==some .local&&(t2.pos.line==t1.pos.line&&(!((kd t2).x==(kd t1).x) &&
  (!CE e1&&(!CE e2&&(!(foldedForSure 8 e1&&foldedForSure 8 e2)&&!(constantsAlone 8 e1&&constantsAlone 8 e2)))))))
theorem Af{a:Bool}(h:(!a)=true):a=false:=(Bool.not_eq_true' _).mp h
theorem wW{x:Str}{p:Pos}:(Expr.Name x p).pos=p:=rfl
theorem Wi{a b:Str}{pa pb:Pos}{e1 e2:Expr}{k1 k2:Nat}{p1 p2:Pos}{env:Env}(ha:env.kindOf a=some .local)(hb:env.kindOf b=some .local)(hbk:env.blockKind=.function)(s3:pb.line=pa.line)(s4:(b==a)=false)(s5:CE e1=false)(s6:CE e2=false)
  (s7:(foldedForSure 8 e1&&foldedForSure 8 e2)=false) (s8:(constantsAlone 8 e1&&constantsAlone 8 e2)=false):swappedStores [.Tuple [.Name a pa,.Name b pb] k1 p1] (.Tuple [e1,e2] k2 p2) env=pure (some [a,b]):=by
 have nx:∀{x:Bool} {m n:Sem (Option (List Str))},x=false→(if x=true then n else m)=m:=fun e=>if_neg (e▸Bool.false_ne_true)
 have i1:(if(env.kindOf a==some .local&&pa.line==pa.line)=true then some a else none)=some a:=if_pos (by rw[ha];exact beq_self_eq_true pa.line)
 have i2:(if(env.kindOf b==some .local&&pb.line==pa.line)=true then some b else none)=some b:=if_pos (by rw[hb,s3];exact beq_self_eq_true pa.line)
 have he:([a,b]:List Str).eraseDups.length=2:=by simp[List.eraseDups_cons,s4]
 have fin:∀{N:List Str} {m:Sem (Option (List Str))},N=[a,b]→(if(N.length != 2||N.eraseDups.length != N.length)=true then pure none else if(foldedForSure 8 e1&&(foldedForSure 8 e2&&true))=true then pure none else if(constantsAlone 8 e1&&(constantsAlone 8 e2&&true))=true then m else pure (some N))=(pure (some [a,b]):Sem (Option (List Str))):=fun e=>by
  subst e
  exact(nx (by rw[he];rfl)).trans ((nx (by rw[Bool.and_true];exact s7)).trans (nx (by rw[Bool.and_true];exact s8)))
 refine(nx (by rw[hbk];rfl)).trans ((nx (show(CE e1||(CE e2||false))=false by rw[s5,s6];rfl)).trans (fin ?_))
 refine(List.filterMap_cons_some (b:=a) ?_).trans (congrArg (a::·) (List.filterMap_cons_some (b:=b) ?_))
 ·exact i1
 ·exact i2
theorem Wj{a b:Str}{pa pb:Pos}{e1 e2:Expr}{i j:Nat}{k1 k2:Nat}{p1 p2 pos:Pos}{ω:Wd}{m:Fm}{σ σ₁:St}{s:Shared}{Q:Flow→Shared→Prop}{E:Value→Shared→Prop}{q1 q2:PV}{xs:XL}
  (hh:c.A.handled=none) (F:FR c ω s.heap m) (I:AL c.B ω σ s) (h:A2 c Φ xs [e1,e2]) (e₁:evL Φ xs m σ=some ([q1,q2],σ₁)) (hsw:swappedStores [.Tuple [.Name a pa,.Name b pb] k1 p1] (.Tuple [e1,e2] k2 p2) c.env=pure (some [a,b]))
  (ha:c.Γ.vis i a=true) (ha':Ml c.Γ a) (hb:c.Γ.vis j b=true) (hb':Ml c.Γ b) (k:KQ c .next ω s.heap σ₁ ((m.set j (some q2)).set i (some q1)) Q) :
  wpAny (model c.B.prog c.B.w) c.A (exec (.Assign [.Tuple [.Name a pa,.Name b pb] k1 p1] (.Tuple [e1,e2] k2 p2) pos) c.env) Q E s:=by
 rw[exec_Assign_arm]
 refine wpAny_bind (wpAny_standAt ?_)
 rw[show swapsWithSole [.Tuple [.Name a pa,.Name b pb] k1 p1] (.Tuple [e1,e2] k2 p2) pos.line c.env=pure false from rfl]
 refine wpAny_bind (wpAny_pure ?_)
 rw[if_neg (by decide)]
 refine wpAny_bind (wpAny_Tuple (h.ses p2 ω m σ s _ E _ _ F I e₁ fun vs ω₁ s₁ G₁ I₁ x₁=>x₁.two_el fun v w hv hw=>?_))
 refine⟨by show 2≤sizeLine;decide,?_⟩
 rw[hsw]
 refine wpAny_bind (wpAny_pure ?_)
 show wpAny _ _ (do rule "assign.swapped-stores";let items ←unpackItems (.ref s₁.heap.objs.size) 2 none;assignInOrder ([b,a].map fun n=>bindName c.env n) items.reverse;(pure Flow.next:Sem Flow)) _ _ _
 refine wpAny_bind (wpAny_rule (wpAny_bind (wpAny_unpackItems_tuple (items:=#[v,w]) hh ⟨_,BX _ _ rfl,rfl,_,rfl⟩ fun h₃ he₃=>?_)))
 have hk₃:∀b o,s₁.heap.get? b=some o→h₃.get? b=some o:=fun b o e=>he₃ b o (Nat.ne_of_lt (Heap.lt_size (AO _ _ b o e))) (AO _ _ b o e)
 have gk:Gw ω₁ [] s₁.heap ω₁ h₃:=.of_keep hk₃
 have F₃:=(F.gw G₁ I₁.apart).gw gk I₁.apart
 show wpAny _ _ ((do holding [v] (bindName c.env b w);(do holding [] (bindName c.env a v);pure ())) >>= fun _=>(pure Flow.next:Sem Flow)) _ _ _
 refine wpAny_bind (wpAny_bind (wpAny_holding (wpAny_bindName (CR F₃ (I₁.keep (tk:=s₁.toks) hk₃) hb hb' (hw.gw gk) fun h₄ tk₄ G₄ I₄ F₄=>?_))))
 exact wpAny_bind (wpAny_holding (wpAny_bindName (CR (s:={s₁ with heap:=h₄,toks:=tk₄}) F₄ I₄ ha ha' ((hv.gw gk).carry (.of_gw G₄ F₃.own)) fun h₅ tk₅ G₅ I₅ F₅=>wpAny_pure (wpAny_pure (k ω₁ {s₁ with heap:=h₅,toks:=tk₅} (((G₁.trans gk).own.trans G₄).trans G₅) I₅ F₅)))))
theorem iJ{t1 t2 e1 e2:Expr}{i j:Nat}{xs:XL}{k1 k2:Nat}{p1 p2 pos:Pos}(hh:c.A.handled=none)(h:A2 c Φ xs [e1,e2])(h1:Bm c.Γ i t1=true)(h2:Bm c.Γ j t2=true)(hs:Xq c.Γ t1 t2 e1 e2=true) :
  Cn c (.Assign [.Tuple [t1,t2] k1 p1] (.Tuple [e1,e2] k2 p2) pos) (Ab Φ (.asW [i,j] xs)):=
 fun ω m σ s Q E r m' σ' F I he k kx=>AH he fun ps σ₁ e₁ he=>AJ he fun hl he=>AF hl fun hl _=>Bs h1 fun a pa ea va sa=>Bs h2 fun b pb eb vb sb=>by
  rw[ea,eb]at hs ⊢
  refine JZ hs fun s1 s2 s3 s4 s5 s6 s7 s8=>?_
  have hsw:=Wi (k1:=k1) (k2:=k2) (p1:=p1) (p2:=p2) (pa:=pa) (pb:=pb) (env:=c.env) ((F.kindOf a).trans (beq_iff_eq.mp s1)) ((F.kindOf b).trans (beq_iff_eq.mp s2)) (by simp[Env.blockKind,F.kind,ScopeKind.isAnnotationScope]) (beq_iff_eq.mp s3) (Af s4) (Af s5) (Af s6) (Af s7) (Af s8)
  exact(mY (An hl).symm).elim fun q1 e=>e.elim fun q2 e=>by
   subst e
   exact EC (P:=fun r m' σ'=>KQ c r ω s.heap σ' m' Q→_) he (fun k=>Wj hh F I h e₁ hsw va sa vb sb k) k
end
end Sh
namespace Sh
open PySem PySem.Calls PyProof.Rows PySem.W PySem.Spec PySem.SeqAt Builtin.Str
namespace Sb
open Builtin Builtin.Re
section
variable{M:Model}{A:Around}{E:Value→Shared→Prop}{s:Shared}
theorem Zs:∀(n N:Nat) (m m':Sre.M) {Q:Sre.M→Shared→Prop},n≤N→Wo n m=some m'→Q m' s→wpAny M A (reDrive N m) Q E s
 | 0,_,_,_,_,_,h,_=>nn h
 | n+1,0,_,_,_,h,_,_=>absurd h (Nat.not_succ_le_zero n)
 | n+1,N+1,m,m',Q,hn,h,hq=>by
  show wpAny M A (if(m.runFor 4).outcome.isSome=true then _ else _) _ _ _
  have h:(if(m.runFor 4).outcome.isSome=true then some (m.runFor 4) else Wo n (m.runFor 4))=some m':=h
  by_cases hs:(m.runFor 4).outcome.isSome=true
  ·rw[if_pos hs];exact wpAny_pure (so ((if_pos hs).symm.trans h)▸hq)
  ·rw[if_neg hs];exact wpAny_bind (wpAny_rule (Zs n N _ _ (Nat.le_of_succ_le_succ hn) ((if_neg hs).symm.trans h) hq))
theorem eK{n:Nat}{m m':Sre.M}{Q:Option Sre.M→Shared→Prop}(hn:n≤1000)(h:Wo n m=some m')(ho:m'.outcome=some .failed)(hq:Q none s):wpAny M A (reRunToEnd m) Q E s:=by
 unfold reRunToEnd
 refine wpAny_bind (Zs n _ m m' (Nat.le_trans hn (by decide +kernel)) h ?_)
 refine wpAny_bind (wpAny_forIn_list _ (fun _ _ s'=>s'=s) _ ?_ ?_ _ _ rfl)
 ·intro x rest b s' hs'
  subst hs'
  refine wpAny_ite ?_
  split
  ·exact wpAny_bind (wpAny_rule (wpAny_pure rfl))
  ·exact wpAny_pure rfl
 ·intro b s' hs'
  subst hs'
  rw[ho]
  exact wpAny_pure hq
end
noncomputable def HM(h:Heap)(p:Addr)(code:Array Nat):Prop:=
 ∃o fs c oc xs n,h.get? p=some o∧o.data=.fields fs∧reRawNat (fs.getD 6 .none)=0∧fs.getD 5 .none=.ref c∧h.get? c=some oc∧oc.data=.seq xs n∧(xs.map reRawOf).map (·.toNat)=code∧reRawNat (fs.getD 2 .none)=1
noncomputable def X7(p:Addr)(code:Array Nat)(x:Str)(t:Tok):ReTarget:={pattern:=.ref p,string:=.str x t,code,text:=x.cps,kind:=0,groups:=1,pos:=0,lim:=x.cps.size}
section
variable{M:Model}{A:Around}{E:Value→Shared→Prop}{s:Shared}
theorem target{p:Addr}{code:Array Nat}{x:Str}{t:Tok}{Q:ReTarget→Shared→Prop}(hp:HM s.heap p code)(hq:Q (X7 p code x t) s):wpAny M A (reWholeTarget (.ref p) (.str x t)) Q E s:=by
 obtain⟨o,fs,c,oc,xs,n,ho,hd,h6,h5,hc,hcd,hcode,h2⟩:=hp
 unfold reWholeTarget
 refine wpAny_bind ?_
 show wpAny M A (load p >>= _) _ E s
 refine wpAny_bind (wpAny_load ho ?_)
 rw[hd]
 refine wpAny_pure ?_
 refine wpAny_bind (wpAny_of_eq (a:=(x.cps,0)) rfl ?_)
 simp only[h6]
 show wpAny M A (reNoCollectionInside (.str x t) 0 >>= _) _ E s
 refine wpAny_bind (wpAny_of_eq (a:=()) rfl ?_)
 refine wpAny_bind ?_
 unfold reRawItems
 rw[h5]
 refine wpAny_bind (wpAny_seqItems hc hcd (wpAny_pure ?_))
 refine wpAny_pure ?_
 rw[h2]
 show Q {pattern:=.ref p,string:=.str x t,code:=(xs.map reRawOf).map (·.toNat),text:=x.cps,kind:=0,groups:=1,pos:=0,lim:=x.cps.size} s
 rw[hcode]
 exact hq
end
theorem VP{p f l:Addr}{x:Str}{t:Tok}{code:Array Nat}{m':Sre.M} :
  Meets («re.Pattern.sub.loop» ⟨[.ref p,.str x t,.ref f,rawInt 1,rawInt 0,rawInt 0,rawInt 0,rawInt 0,.bool false,.ref l,.bool false],[]⟩) (fun _ R s=>
   HM s.heap p code∧Wo 1000 (Sre.forSearch code x.cps 1 0 x.cps.size false)=some m'∧m'.outcome=some .failed∧s.heap.get? l=some {cls:=.type "list",data:=.seq #[] 0}∧x.length≤100000 ∧
   ∀h' t' k,s.heap.SameBut l h'→R (.ok (.ret (.str x t'))) {s with heap:=h',toks:=k}):=by
 refine .of_wp fun prog w A R s hS=>?_
 obtain⟨hp,hm,ho,hl,hx,k⟩:=hS
 show wpAny _ _ (reWholeTarget (.ref p) (.str x t) >>= _) _ _ _
 refine wpAny_bind (target hp ?_)
 show wpAny _ _ (reNextFound (X7 p code x t) 0 false >>= _) _ _ _
 refine wpAny_bind (eK (Nat.le_refl 1000) hm ho ?_)
 by_cases hn:x.cps.size=0
 ·refine wpAny_ite ?_
  rw[if_neg (by show ¬0<x.cps.size;lia)]
  have e:x=⟨x.cps.extract 0 0⟩:=by
   obtain⟨c⟩:=x
   have:c=#[]:=Array.eq_empty_of_size_eq_zero hn
   subst this;simp
  show wpAny _ _ (mkStr ⟨x.cps.extract 0 0⟩ >>= _) _ _ _
  rw[←e]
  refine wpAny_bind (wpAny_mkStr ?_ (by rw[sizeLine_eq];lia))
  refine wpAny_bind (wpAny_seqItems hl rfl ?_)
  show wpAny _ _ (pure _ >>= fun text=>ret text) _ _ _
  refine wpAny_bind (wpAny_pure ?_)
  exact wpAny_pure ⟨_,rfl,k _ _ _ (Heap.SameBut.refl _ _)⟩
 ·refine wpAny_ite ?_
  rw[if_pos (by show 0<x.cps.size;lia)]
  have e:(⟨x.cps.extract 0 x.cps.size⟩:Str)=x:=by simp
  show wpAny _ _ (mkStr ⟨x.cps.extract 0 x.cps.size⟩ >>= _) _ _ _
  rw[e]
  refine wpAny_bind (wpAny_mkStr ?_ (by rw[sizeLine_eq];lia))
  refine wpAny_bind (wpAny_updateSeq hl rfl ?_ (by simp) (by simp))
  have hu:=IsL.update (n:=0) hl (fun y=>y.push (.str x s.toks))
  show wpAny _ _ (mkStr ⟨x.cps.extract 0 0⟩ >>= _) _ _ _
  refine wpAny_bind (wpAny_mkStr ?_ (by simp[PySem.Str.length]))
  refine wpAny_bind (wpAny_seqItems hu rfl ?_)
  show wpAny _ _ (call (.builtin "str.join") [.str _ _,.ref l] >>= fun text=>ret text) _ _ _
  refine wpAny_bind (join_listW (ys:=[x]) (Bj hu rfl rfl) (by simpa using StrsAre.cons x s.toks .nil) (by simp[PySem.Str.length]) (by simp;lia) fun t' k'=>?_)
  refine wpAny_pure ⟨_,rfl,?_⟩
  have e2:Txt.join ⟨x.cps.extract 0 0⟩ [x]=x:=rfl
  rw[e2]
  exact k _ _ _ (Heap.SameBut.update ..)
theorem Hs:plainId "re.Pattern.sub.loop" = true:=by decide +kernel
theorem Ms:entryFor table "re.Pattern.sub.loop" = some Builtin.«re.Pattern.sub.loop»:=entryFor_of_tree (by kernel_rfl)
theorem PS:entryFor table "re.Pattern.sub" = some Builtin.«re.Pattern.sub»:=entryFor_of_tree (by kernel_rfl)
theorem Ou:typeLookup (.type "function") "__call__" = pure (some (.builtin "function.__call__")):=by rw[typeLookup_type,builtinLookup_eq_fast];kernel_rfl
theorem HM.push{h:Heap}{p:Addr}{code:Array Nat}{o:Obj}(x:HM h p code):HM (h.push o) p code:=by
 obtain⟨o,fs,c,oc,xs,n,ho,hd,h6,h5,hc,hcd,hcode,h2⟩:=x
 exact⟨o,fs,c,oc,xs,n,Heap.get?_push_of_some _ ho,hd,h6,h5,Heap.get?_push_of_some _ hc,hcd,hcode,h2⟩
theorem RO{id:String}{x:Str}{t:Tok}:reNotHeld id (.str x t)=pure ():=by
 have e:isInstance (.str x t) (.type "bytearray")=pure false:=by
  show isSubtype (.type "str") (.type "bytearray")=_
  rw[isSubtype_type];kernel_rfl
 unfold reNotHeld
 rw[e]
 rfl
theorem iS{p f:Addr}{x:Str}{t:Tok}{code:Array Nat}{m':Sre.M}{of:Obj} :
  Meets («re.Pattern.sub» ⟨[.ref p,.ref f,.str x t],[]⟩) (fun _ R s=>
   HM s.heap p code∧s.heap.get? f=some of∧of.cls=.type "function" ∧ Wo 1000 (Sre.forSearch code x.cps 1 0 x.cps.size false)=some m'∧m'.outcome=some .failed∧x.length≤100000 ∧
   ∀h' t' k,(s.heap.push {cls:=.type "list",data:=.seq #[] 0}).SameBut s.heap.objs.size h'→R (.ok (.ret (.str x t'))) {s with heap:=h',toks:=k}):=by
 intro prog w A R s hS
 obtain⟨hp,hf,hfc,hm,ho,hx,k⟩:=hS
 show wpAny _ _ (reSubstitute "re.Pattern.sub" "sub" false _) _ _ _
 unfold reSubstitute
 show wpAny _ _ (reNamed _ _ _ _ _ _ >>= _) _ _ _
 refine wpAny_bind (wpAny_of_eq (a:=[some (.ref f),some (.str x t),none]) rfl ?_)
 refine wpAny_bind (wpAny_pure ?_)
 refine wpAny_bind (wpAny_specialOf (T := "function") ⟨_,hf,hfc⟩ Ou ?_)
 refine wpAny_bind (wpAny_pure ?_)
 refine wpAny_bind (wpAny_pure ?_)
 refine wpAny_bind (wpAny_holding (target hp ?_))
 show wpAny _ _ (reNotHeld "re.Pattern.sub" (.str x t) >>= _) _ _ _
 refine wpAny_bind (wpAny_of_eq (a:=()) RO ?_)
 refine wpAny_bind (wpAny_newList ?_ (by decide))
 refine wpAny_pure ⟨plainId_quiet Hs _,codeAny_builtin Ms ?_⟩
 rw[Around.under_plainId Hs]
 refine VP (l:=s.heap.objs.size) (code:=code) (m':=m') prog w A R _ ⟨hp.push,hm,ho,Heap.get?_push_size _ rfl,hx,fun h' t' k' hs=>k h' t' k' hs⟩
set_option maxRecDepth 100000 in
theorem plainAttrs_pat:PlainAttrs "re.Pattern":=
 ⟨⟨"object.__getattribute__",by rw[typeLookup_type,builtinLookup_eq_fast];kernel_rfl,by decide +kernel⟩,by rw[typeLookup_type,builtinLookup_eq_fast];kernel_rfl⟩
theorem slot_sub:Slot "re.Pattern" "sub" "re.Pattern.sub":=
 .of (owner := "re.Pattern") (n := "sub") (by rw[typeLookup_type,builtinLookup_eq_fast];kernel_rfl) (by decide +kernel) (by decide +kernel) (by decide +kernel)
  (by first|exact .inl (by decide +kernel) | exact .inr (by decide +kernel)) (by rw[isSubtype_type];kernel_rfl)
theorem type_sub:typeOf (.builtin "re.Pattern.sub")=pure (.type "method_descriptor"):=by show builtinType _=_;rw[builtinType_eq_fast];kernel_rfl
theorem NW(a b c:Value):argsOk "re.Pattern.sub" ⟨[a,b,c],[]⟩:=by
 unfold argsOk
 kernel_rfl
theorem call_sub{prog:Program}{w:World}{A:Around}{E:Value→Shared→Prop}{s:Shared}{Q:Value→Shared→Prop}{p f:Addr}{x:Str}{t:Tok}{code:Array Nat}{m':Sre.M}{of:Obj}
  (hT:s.TypeIs (.ref p) "re.Pattern") (hp:HM s.heap p code) (hf:s.heap.get? f=some of) (hfc:of.cls=.type "function") (hm:Wo 1000 (Sre.forSearch code x.cps 1 0 x.cps.size false)=some m') (ho:m'.outcome=some .failed) (hx:x.length≤100000)
  (k:∀h' t' k,(s.heap.push {cls:=.type "list",data:=.seq #[] 0}).SameBut s.heap.objs.size h'→Q (.str x t') {s with heap:=h',toks:=k}) :
  wpAny (model prog w) A (call (.builtin "re.Pattern.sub") [.ref p,.ref f,.str x t]) Q E s:=
 call_meets slot_sub hT PS (NW _ _ _) iS ⟨hp,hf,hfc,hm,ho,hx,k⟩
end Sb
end Sh
namespace Sh
open PySem PySem.Calls PyProof.Rows PySem.W PySem.Spec PySem.SeqAt Builtin.Str
namespace Tr
open Builtin Builtin.Str
theorem rF{α β:Type}{M:Model}{A:Around}{E:Value→Shared→Prop}{s:Shared}{c:α}{p:β}{f:α→β→Sem (ForInStep β)}{Q:β→Shared→Prop}(h:wpAny M A (f c p) (fun r s=>∀b,(r=.done b∨r=.yield b)→Q b s) E s):wpAny M A (forIn #[c] p f) Q E s:=by
 rw[←Array.forIn_toList]
 show wpAny _ _ (forIn [c] _ _) _ _ _
 rw[List.forIn_cons]
 refine wpAny_bind (wpAny_mono h (fun r s h=>?_) fun _ _ e=>e)
 cases r with
 | done b=>exact wpAny_pure (h b (.inl rfl))
 | yield b=>exact wpAny_pure (h b (.inr rfl))
theorem keep{c:Nat}{t:Tok}{tb:Value}{prog:Program}{w:World}{A:Around}{R:Result→Shared→Prop}{s:Shared}(hc:c<128){P:Shared→Prop}
  (hit:∀(Q:Mapped→Shared→Prop) (E:Value→Shared→Prop),(∀s',P s'→Q .keep s')→wpAny (model prog w) A.in1 (tableLookup tb c) Q E s)
  (h:∀s' t' k,P s'→R (.ok (.ret (.str ⟨#[c]⟩ t'))) {s' with toks:=k}) :
  wpAny (model prog w) A.in1 («str.translate» ⟨[.str ⟨#[c]⟩ t,tb],[]⟩) (fun fin s'=>∃v,fin=.done (.ret v)∧R (.ok (.ret v)) s') (fun e s'=>R (.error e) s') s:=by
 have hf:(#[c]:Array Nat).all (· < 128)=true:=by simp[hc]
 show wpAny _ _ (strOneArg "translate" _ >>= _) _ _ _
 refine wpAny_bind (wpAny_of_eq (a:=(.str ⟨#[c]⟩ t,⟨#[c]⟩,tb)) rfl ?_)
 refine wpAny_ite (Jn.no Bool.false_ne_true (wpAny_bind (rF ?_)))
 refine wpAny_ite (Jn.no (show ¬tooLong 0=true by decide +kernel) (wpAny_ite (Jn.yes hf ?_)))
 show wpAny _ _ (tableLookup tb c >>= _) _ _ _
 refine wpAny_bind (hit _ _ fun s' hs'=>?_)
 refine wpAny_bind (wpAny_pure (wpAny_pure fun b q=>?_))
 cases q.elim (fun q=>nomatch q) id
 refine wpAny_ite (Jn.no (show ¬tooLong 1=true by decide +kernel) ?_)
 exact wpAny_bind (wpAny_mkStr (wpAny_pure ⟨_,rfl,h _ _ _ hs'⟩) (by show 1≤sizeLine;rw[sizeLine_eq];decide))
theorem PT{c:Nat}{d:Addr}{f:Int→Option Value}{prog:Program}{w:World}{A:Around}{s:Shared}(hh:A.handled=none)(hd:(d==sysModules)=false)(hm:s.heap.MapOf (intKind prog w) d f)(hv:f c=none)
  (Q:Mapped→Shared→Prop) (E:Value→Shared→Prop) (h:∀h' e k',Heap.NewExc s.heap h' e "KeyError" → Q .keep {s with heap:=h',toks:=k'}):wpAny (model prog w) A (tableLookup (.ref d) c) Q E s:=by
 unfold tableLookup
 refine wpAny_bind (wpAny_attempt ?_)
 refine wpAny_bind (m:=mkInt c) (wpAny_bind (wpAny_fresh (wpAny_pure ?_)))
 refine wpAny_getItem_slot (T := "dict") hm.typeIs (by decide +kernel) slot_dict_getitem ?_
 refine call_meetsIn slot_dict_getitem hm.typeIs entry_dict_getitem (args_dict_getitem _ _) (meets_dict_getitem_missing (knd:=intKind prog w) (k:=(c:Int)) d (intKind_is _ _ _ _) hd) ⟨hh,f,hm,hv,fun h' e hn=>?_⟩
 show wpAny _ _ (isInstance (.ref e) (.type "LookupError") >>= _) _ _ _
 obtain⟨ob,tt,hob,hcl,hdt⟩:=hn.there
 refine wpAny_bind (wpAny_isInstance (T := "KeyError") (b:=true) ⟨ob,hob,hcl⟩ (by rw[isSubtype_type];kernel_rfl) ?_)
 refine wpAny_ite ?_
 rw[if_pos rfl]
 exact wpAny_bind (wpAny_rule (wpAny_pure (h _ _ _ hn)))
theorem TV{c:Nat}{d:Addr}{f:Int→Option Value}{prog:Program}{w:World}{A:Around}{s:Shared}{y:PySem.Str}{u:Tok}(hm:s.heap.MapOf (intKind prog w) d f)(hv:f c=some (.str y u))
  (Q:Mapped→Shared→Prop) (E:Value→Shared→Prop) (h:∀k',Q (.text y) {s with toks:=k'}):wpAny (model prog w) A (tableLookup (.ref d) c) Q E s:=by
 unfold tableLookup
 refine wpAny_bind (wpAny_attempt ?_)
 refine wpAny_bind (m:=mkInt c) (wpAny_bind (wpAny_fresh (wpAny_pure ?_)))
 refine wpAny_getItem_of (s:={s with toks:=s.toks+1}) (knd:=intKind prog w) (k:=(c:Int)) (intKind_is _ _ _ _) hm hv ?_
 show wpAny _ _ (asInt? (.str y u) >>= _) _ _ _
 refine wpAny_bind (wpAny_of_eq (a:=none) rfl ?_)
 show wpAny _ _ (asStr? (.str y u) >>= _) _ _ _
 exact wpAny_bind (wpAny_of_eq (a:=some y) rfl (wpAny_pure (h _)))
theorem put{c:Nat}{t:Tok}{tb:Value}{y:PySem.Str}{prog:Program}{w:World}{A:Around}{R:Result→Shared→Prop}{s:Shared}{s₀:Heap}(hc:c<128)(hy:(y.length==1)=false)(hl:y.length≤1000)
  (hit:∀(s:Shared) (Q:Mapped→Shared→Prop) (E:Value→Shared→Prop),(∀k',Q (.text y) {s with toks:=k'})→s.heap=s₀→wpAny (model prog w) A.in1 (tableLookup tb c) Q E s)
  (h:∀t' k,R (.ok (.ret (.str y t'))) {s with toks:=k}) (hs:s.heap=s₀) :
  wpAny (model prog w) A.in1 («str.translate» ⟨[.str ⟨#[c]⟩ t,tb],[]⟩) (fun fin s'=>∃v,fin=.done (.ret v)∧R (.ok (.ret v)) s') (fun e s'=>R (.error e) s') s:=by
 have hf:(#[c]:Array Nat).all (· < 128)=true:=by simp[hc]
 show wpAny _ _ (strOneArg "translate" _ >>= _) _ _ _
 refine wpAny_bind (wpAny_of_eq (a:=(.str ⟨#[c]⟩ t,⟨#[c]⟩,tb)) rfl ?_)
 refine wpAny_ite (Jn.no Bool.false_ne_true (wpAny_bind (rF ?_)))
 refine wpAny_ite (Jn.no (show ¬tooLong 0=true by decide +kernel) (wpAny_ite (Jn.yes hf ?_)))
 show wpAny _ _ (tableLookup tb c >>= _) _ _ _
 refine wpAny_bind (hit _ _ _ (fun k₁=>?_) hs)
 have hz:((y.length==1&&y.cps.all (· < 128))=true)=False:=by rw[hy];exact eq_false Bool.false_ne_true
 simp only[hz,if_false]
 refine wpAny_bind (wpAny_pure ?_)
 refine wpAny_bind (wpAny_rule (wpAny_bind (hit {s with toks:=k₁} _ _ (fun k₂=>?_) hs)))
 refine wpAny_pure fun b q=>?_
 cases q.elim (fun q=>nomatch q) id
 have h2:¬tooLong (0+y.cps.size)=true:=by
  unfold tooLong
  have hl':y.cps.size≤1000:=hl
  rw[sizeLine_eq]
  simp
  lia
 refine wpAny_ite (Jn.no h2 ?_)
 have e:(⟨List.foldl (fun acc p=>acc++p.cps) #[] [y].reverse⟩:Str)=y:=by simp
 rw[e]
 exact wpAny_bind (wpAny_mkStr (wpAny_pure ⟨_,rfl,h _ _⟩) (by rw[sizeLine_eq];lia))
theorem call_put{c:Nat}{d:Addr}{t u:Tok}{y:PySem.Str}{f:Int→Option Value}{prog:Program}{w:World}{A:Around}{E:Value→Shared→Prop}{Q:Value→Shared→Prop}{s:Shared}(hc:c<128)(hy:(y.length==1)=false)(hl:y.length≤1000)
  (hm:s.heap.MapOf (intKind prog w) d f) (hv:f c=some (.str y u)) (h:∀t' k,Q (.str y t') {s with toks:=k}):wpAny (model prog w) A (call (.builtin "str.translate") [.str ⟨#[c]⟩ t,.ref d]) Q E s:=
 call_meetsIn F.slot_str_translate (typeIs_str _ _ _) F.entry_str_translate (F.args_str_translate_2 _ _)
  (.of_wp (S:=fun A R s=>s.heap.MapOf (intKind prog w) d f∧∀t' k,R (.ok (.ret (.str y t'))) {s with toks:=k})
   fun A R s ⟨hm,h⟩=>put (s₀:=s.heap) hc hy hl (fun s' Q E hq he=>TV (A:=A.in1) (he▸hm) hv Q E hq) h rfl) ⟨hm,h⟩
theorem call_keep{c:Nat}{d:Addr}{t:Tok}{f:Int→Option Value}{prog:Program}{w:World}{A:Around}{E:Value→Shared→Prop}{Q:Value→Shared→Prop}{s:Shared}(hc:c<128)(hh:A.handled=none)(hd:(d==sysModules)=false)
  (hm:s.heap.MapOf (intKind prog w) d f) (hv:f c=none) (h:∀h' e t' k,Heap.NewExc s.heap h' e "KeyError" → Q (.str ⟨#[c]⟩ t') {s with heap:=h',toks:=k}):wpAny (model prog w) A (call (.builtin "str.translate") [.str ⟨#[c]⟩ t,.ref d]) Q E s:=
 call_meetsIn F.slot_str_translate (typeIs_str _ _ _) F.entry_str_translate (F.args_str_translate_2 _ _)
  (.of_wp (S:=fun A R s=>A.handled=none∧s.heap.MapOf (intKind prog w) d f∧∀h' e t' k,Heap.NewExc s.heap h' e "KeyError" → R (.ok (.ret (.str ⟨#[c]⟩ t'))) {s with heap:=h',toks:=k})
   fun A R s ⟨hh,hm,h⟩=>keep hc (P:=fun s'=>∃h' e k',Heap.NewExc s.heap h' e "KeyError" ∧ s'={s with heap:=h',toks:=k'})
    (fun Q E hq=>PT (A:=A.in1) hh hd hm hv Q E fun h' e k' hn=>hq _ ⟨h',e,k',hn,rfl⟩) (fun s' t' k ⟨h',e,k',hn,hs⟩=>by subst hs;exact h h' e t' k hn)) ⟨hh,hm,h⟩
end Tr
end Sh
namespace Sh
open PySem PySem.Calls PyProof.Rows PySem.W PySem.Spec
theorem Mk{p q:Pos}(h1:p.line=q.line)(h2:p.col=q.col)(l:List Value):codeAmong p l=codeAmong q l:=by
 cases p;cases q;cases h1;cases h2;kernel_rfl
theorem MG{p q:Pos}{c:Value}(h:¬(p.line=q.line∧p.col=q.col))(l:List Value)(ht:TriplesOk l):codeAmong p (l++[rawInt q.line,rawInt q.col,c])=codeAmong p l:=by
 fun_induction TriplesOk l with
 | case1=>
  exact if_neg fun e=>AF e fun a b=>h ⟨(Int.ofNat_inj.mp (eq_of_beq a)).symm,(Int.ofNat_inj.mp (eq_of_beq b)).symm⟩
 | case2 a t b u x rest ih=>
  show(if _ then _ else codeAmong p (rest++_))=if _ then _ else codeAmong p rest
  rw[ih ht]
 | case3 l h1 h2=>exact ht.elim
section
variable{M:Model}{A:Around}{E:Value→Shared→Prop}{s:Shared}{name qual:Str}{params:Arguments}{body:Expr}{scope:Scope}{env:Env}{c P:Addr}{ps:Array Value}{pos:Pos}{firstLine:Nat}{mg:Str→Option Value}
 {clos:List (Str×Addr)} {Q:Value→Shared→Prop}
theorem UJ(hcl:closureFor scope env=pure clos)(hge0:env.globals=mainGlobals)(hg:s.heap.Ns mainGlobals mg)(hcode:env.code=.ref c)(C:CodeHd s.heap c P)(hP:s.heap.get? P=some (tabObj ps))(ht:TriplesOk ps.toList)
  (hnf:codeAmong pos ps.toList=none) (hgP:mainGlobals≠P) (hb:s.heap.BuiltinsAt mg P)
  (h:∀c' o vs t ctv h' tk,Heap.ExtBut P s.heap h'→s.heap.get? c'=none→h'.get? c'=some o→o.cls=.type "code" → o.data=.fields vs→vs[1]?=some (.str qual t)→h'.get? P=some (tabObj (ps++#[rawInt pos.line,rawInt pos.col,.ref c'])) →
   s.heap.objs.size≤h'.objs.size→Q (.ref h'.objs.size) {s with heap:=h'.push (kla_obj name qual params body scope clos ((mg "__name__").getD .none) c' ctv),toks:=tk}) :
  wpAny M A (makeFunction name qual params (.expr body) scope env [] [] [] pos firstLine) Q E s:=by
 obtain⟨bm,ob,hbm,hne0,_,hneP,hbo,hcls,hdict,hdata⟩:=hb
 rw[makeFunction_eq]
 simp only[List.zip_nil_right,List.filterMap_nil,List.isEmpty_nil,if_true,pure_bind]
 unfold makeTail
 rw[hcl,hge0]
 refine wpAny_bind (wpAny_pure ?_)
 have fin:∀(s₀:Shared) (ctv:Value),s₀.os=s.os→s₀.gens=s.gens→(∀b o,s.heap.get? b=some o→s₀.heap.get? b=some o)→s.heap.objs.size≤s₀.heap.objs.size→(∃hh tt,s₀={s with heap:=hh,toks:=tt}) →
   wpAny M A (functionCode env pos firstLine name qual params scope (.expr body) >>= fun code=>do
    let b ←builtinsFor mainGlobals env.builtins
    let mn ←nsGet mainGlobals "__name__"
    newObj (.type "function") (.func {name,qualname:=qual,params,body:=.expr body,scope,globals:=mainGlobals,closure:=clos,defaults:=.none,kwdefaults:=.none,doc:=.none,pyModule:=mn.getD .none,annotations:=none,code:=code,closureTuple:=ctv,builtins:=b})) Q E s₀:=by
  rintro s₀ ctv _ _ hk hsz ⟨hh,tt,rfl⟩
  have hk':∀b o,s.heap.get? b=some o→hh.get? b=some o:=hk
  have C':=C.keeps hk'
  refine wpAny_bind (wpAny_functionCodeX hcode (C'.code (hk' _ _ hP) ht) (C'.tab (hk' _ _ hP)) hnf fun c' h' tk hx hge hlt _ hrec htb hnew=>?_)
  have hg':h'.Ns mainGlobals mg:=(hg.keeps hk').extBut hx hgP
  have hx':Heap.ExtBut P s.heap h':=fun b o hb' e=>hx b o hb' (hk' b o e)
  obtain⟨P',_,_,⟨⟨oc,vs',e1,e2,_⟩,_⟩⟩:=hnew
  obtain⟨c₂,oc₂,vs,t,e3,e4,e5,e6⟩:=hrec
  cases e3
  rw[e1]at e4;cases e4
  have hcn:s.heap.get? c'=none:=CJ (Nat.le_trans hsz hge)
  have hsz':s.heap.objs.size≤h'.objs.size:=Nat.le_trans (Nat.le_trans hsz hge) (Nat.le_of_lt hlt)
  refine wpAny_bind (wpAny_builtinsFor hg' hbm hne0 (hx' _ _ hneP hbo) hcls hdict hdata ?_)
  refine wpAny_bind (wpAny_nsGet hg' ?_)
  exact wpAny_newObj_type (h c' oc vs t ctv h' tk hx' hcn e1 e2 e5 e6 htb.2 hsz') (by size_fits)
 cases clos with
 | nil=>
  simp only[List.isEmpty_nil,if_true]
  refine wpAny_bind (wpAny_pure ?_)
  exact fin s .none rfl rfl (fun _ _ e=>e) (Nat.le_refl _) ⟨_,_,rfl⟩
 | cons q r=>
  simp only[List.isEmpty_cons,Bool.false_eq_true,if_false]
  refine wpAny_bind (wpAny_newTextTuple ?_)
  exact fin _ _ rfl rfl (fun b o e=>Heap.get?_push_of_some _ e) (by show _≤(s.heap.push _).objs.size;rw[Heap.size_push];lia) ⟨_,_,rfl⟩
end
theorem Fc{B:AV}{ω:Wd}{σ:St}{s:Shared}{c P:Addr}(I:AL B ω σ s)(C:CodeHd B.h₀ c P):CodeHd s.heap c P:=by
 obtain⟨o,vs,file,tf,flags,tg,inF,text,tt,e,hc,r⟩:=C
 exact⟨o,vs,file,tf,flags,tg,inF,text,tt,I.base e (by rw[hc];exact fun q=>nomatch q),hc,r⟩
theorem Qw{B:AV}{ω:Wd}{σ:St}{s:Shared}{P:Addr}(I:AL B ω σ s)(C:B.h₀.BuiltinsAt B.mg P):s.heap.BuiltinsAt B.mg P:=by
 obtain⟨bm,o,b1,b2,b3,b4,b5,b6,r⟩:=C
 exact⟨bm,o,b1,b2,b3,b4,I.base b5 (by rw[b6];exact fun q=>nomatch q),b6,r⟩
noncomputable def Cy(p q:Pos):Bool:=p.line==q.line&&p.col==q.col
structure Dv(B:AV)(cc P:Addr)(pos:Pos)(qual:Str):Prop where
 mem:∃ys,(P,ys)∈B.tabs∧(pos,qual)∈ys
 one:∀x∈B.tabs,x.1=P→∀y∈x.2,Cy y.1 pos=true→y.2=qual
 hd:CodeHd B.h₀ cc P
section
variable{c:Cx}{ω:Wd}{σ:St}{s:Shared}{m:Fm}{E:Value→Shared→Prop}
theorem RW{name qual:Str}{params:Arguments}{body:Expr}{scope:Scope}{clos:List (Str×Addr)}{pm:Value}{c':Addr}{ctv:Value}:¬EA (kla_obj name qual params body scope clos pm c' ctv)∧¬EL (kla_obj name qual params body scope clos pm c' ctv):=by
 refine⟨?_,?_⟩<;>simp[EA,EL]
structure UF(c:Cx)(ω:Wd)(σ:St)(s:Shared)(h'':Heap)(tk:Nat)(c':Addr)(o:Obj):Prop where
 I:AL c.B ω σ {s with heap:=h'',toks:=tk}
 G:Gw ω [] s.heap ω h''
 fz:Fz ω h'' c' o
 k:∀b ob,s.heap.get? b=some ob→¬EL ob→h''.get? b=some ob
theorem Ky{P cc c':Addr}{pos:Pos}{qual:Str}{o:Obj}{vs:Array Value}{t:Tok}{ps:Array Value}{h' h'':Heap}{tk:Nat}(T:Dv c.B cc P pos qual)(I:AL c.B ω σ s)(e:s.heap.get? P=some (tabObj ps))(tr:TriplesOk ps.toList)(hn:codeAmong pos ps.toList=none)
  (hx:Heap.ExtBut P s.heap h') (hcn:s.heap.get? c'=none) (hco:h'.get? c'=some o) (hcl':o.cls=.type "code") (hd:o.data=.fields vs) (hv:vs[1]?=some (.str qual t)) (htab:h'.get? P=some (tabObj (ps++#[rawInt pos.line,rawInt pos.col,.ref c'])))
  (hk:∀b o,h'.get? b=some o→h''.get? b=some o):UF c ω σ s h'' tk c' o:=by
 obtain⟨ys,hys,hpy⟩:=T.mem
 obtain⟨⟨o₀,e₀⟩,hgP,hbt⟩:=I.bok.tb _ hys
 have C:=Fc I T.hd
 have hP1:P∉ω.mu:=fun q=>by have:=I.new _ (.inl q);rw[e₀]at this;cases this
 have hP2:P∉ω.ex:=fun q=>by have:=I.new _ (.inr q);rw[e₀]at this;cases this
 have hne:∀b o,s.heap.get? b=some o→¬EL o→h'.get? b=some o:=fun b ob eb ht=>hx b ob (fun q=>ht (by rw[q,e]at eb;cases eb;exact⟨rfl,_,rfl⟩)) eb
 have gC:AR ω s.heap ω h'':=⟨fun b ob f=>⟨f.1,f.2.1,hk _ _ (hne _ _ f.2.2.1 f.2.2.2.2),f.2.2.2⟩,fun _ _ e=>e⟩
 have hmun:∀{a:Addr},s.heap.get? a=none→a∉ω.mu∧a∉ω.ex:=fun {a} hn=>⟨fun q=>(by have:=I.live q;rw[hn]at this;cases this),fun q=>(by have:=I.exl _ q;rw[hn]at this;cases this)⟩
 have fzc:Fz ω h'' c' o:=⟨(hmun hcn).1,(hmun hcn).2,hk _ _ hco,by simp[EA,hd],by simp[EL,hcl']⟩
 have kb:∀a,a≠P→∀o,s.heap.get? a=some o→h''.get? a=some o:=fun a ha o e=>hk _ _ (hx a o ha e)
 have I':AL c.B ω σ {s with heap:=h'',toks:=tk}:=by
  refine⟨I.bok,?_,?_,I.len,I.nodup,I.new,I.apart,fun a ha=>?_,fun i a ob e1 e2=>?_,I.os,I.gens,fun x hx'=>?_⟩
  ·obtain⟨mc,hn,hm⟩:=I.lim
   exact⟨mc,DS hn fun o' e' ht=>.same (hk _ _ (hne _ _ e' ht)),hm⟩
  ·have hPs:P≠cStatics:=by
    obtain⟨mc,⟨oS,es,ep,ho,hd',_⟩,_⟩:=I.lim
    rintro rfl
    rw[e]at ho;cases ho;cases hd'
   have C₀:=T.hd
   have hc₀:∃ps₀,c.B.h₀.get? P=some (tabObj ps₀):=by
    rcases I.old.old _ _ e₀ with x|⟨t',hc,vs',more,hv',x⟩|⟨z,_⟩
    ·rw[e]at x;cases x;exact⟨_,e₀⟩
    ·rw[e]at x
     refine⟨vs',e₀.trans ?_⟩
     obtain⟨a1,a2,a3,a4⟩:=o₀
     cases x
     simp only at hv'
     subst hv'
     rfl
    ·exact absurd z hPs
   obtain⟨ps₀,e₁⟩:=hc₀
   exact(I.old.step_table (T.hd.tab e₁) (C.tab e) ((C.tab e).1 |> fun z=>⟨by
    obtain⟨oc,vs',z1,z2,z3,z4⟩:=z
    exact⟨oc,vs',hne _ _ z1 (by simp[EL,z2]),z2,z3,z4⟩,htab⟩) hx hPs).step_keeps hk
  ·obtain⟨o',e'⟩:=Option.isSome_iff_exists.mp (I.exl a ha)
   have:=kb a (fun q=>hP2 (q▸ha)) o' e'
   show(h''.get? a).isSome=true
   rw[this];rfl
  ·exact(I.objs i a ob e1 e2).carry gC fun o' e'=>kb a (fun q=>hP1 (q▸List.mem_of_getElem? e1)) o' e'
  ·by_cases hxP:x.1=P
   ·refine⟨_,hxP▸hk _ _ htab,by rw[Array.toList_append];exact TriplesOk_snoc _ _ _ _ tr,fun y hy=>?_⟩
    have hl:(ps++#[rawInt pos.line,rawInt pos.col,Value.ref c']).toList=ps.toList++[rawInt pos.line,rawInt pos.col,.ref c']:=by simp
    rw[hl]
    by_cases hs:Cy y.1 pos=true
    ·have hs':y.1.line=pos.line∧y.1.col=pos.col:=by simpa [Cy] using hs
     refine .inr ⟨c',o,vs,t,?_,fzc,hd,?_⟩
     ·rw[Mk hs'.1 hs'.2]
      exact codeAmong_snoc _ tr hn
     ·rw[T.one x hx' hxP y hy hs];exact hv
    ·have hs':¬(y.1.line=pos.line∧y.1.col=pos.col):=by simpa [Cy] using hs
     rw[MG hs' _ tr]
     obtain⟨ps',e',_,r'⟩:=I.tab x hx'
     rw[hxP,e]at e';cases e'
     rcases r' y hy with r'|⟨d,od,vd,td,d1,d2,d3,d4⟩
     ·exact .inl r'
     ·exact .inr ⟨d,od,vd,td,d1,gC.fz _ _ d2,d3,d4⟩
   ·obtain⟨ps',e',tr',r'⟩:=I.tab x hx'
    refine⟨ps',kb _ hxP _ e',tr',fun y hy=>?_⟩
    rcases r' y hy with r'|⟨d,od,vd,td,d1,d2,d3,d4⟩
    ·exact .inl r'
    ·exact .inr ⟨d,od,vd,td,d1,gC.fz _ _ d2,d3,d4⟩
 have G:Gw ω [] s.heap ω h'':=⟨⟨[],by simp,by simp⟩,rfl,fun b ob eb ht _ _=>.same (hk _ _ (hne _ _ eb ht)),fun b ob eb=>by
  by_cases hb:b=P
  ·subst hb;exact⟨_,hk _ _ htab⟩
  ·exact⟨_,kb _ hb _ eb⟩⟩
 exact⟨I',G,fzc,fun b ob eb ht=>hk _ _ (hne _ _ eb ht)⟩
theorem TS{P cc:Addr}{pos:Pos}{qual:Str}{params:Arguments}{body:Expr}{scope:Scope}{clos:List (Str×Addr)}{Q:Value→Shared→Prop}(T:Dv c.B cc P pos qual)(hcd:c.env.code=.ref cc)(hq:c.env.qual ++ "<lambda>" = qual)
  (hdef:defaultsOf params c.env=([],[])) (hcl:closureFor scope c.env=pure clos) (hgl:c.env.globals=mainGlobals) (I:AL c.B ω σ s)
  (k:∀f c' o vs t ctv h' tk,Gw ω [] s.heap ω h'→AL c.B ω σ {s with heap:=h',toks:=tk}→s.heap.get? f=none→(∀b o,s.heap.get? b=some o→¬EL o→h'.get? b=some o)→Fz ω h' f (kla_obj "<lambda>" qual params body scope clos ((c.B.mg "__name__").getD .none) c' ctv)→Fz ω h' c' o→o.data=.fields vs→vs[1]?=some (.str qual t) →
   Q (.ref f) {s with heap:=h',toks:=tk}):wpAny (model c.B.prog c.B.w) c.A (eval (.Lambda params body scope pos) c.env) Q E s:=by
 refine kla_eval hdef ?_
 rw[hq]
 obtain⟨ys,hys,hpy⟩:=T.mem
 obtain⟨⟨o₀,e₀⟩,hgP,hbt⟩:=I.bok.tb _ hys
 obtain⟨ps,e,tr,r⟩:=I.tab _ hys
 have C:=Fc I T.hd
 have hP1:P∉ω.mu:=fun q=>by have:=I.new _ (.inl q);rw[e₀]at this;cases this
 have hP2:P∉ω.ex:=fun q=>by have:=I.new _ (.inr q);rw[e₀]at this;cases this
 rcases r _ hpy with hn|⟨c',o,vs,t,hf,fz,hd,hv⟩
 ·refine UJ hcl hgl I.gns hcd C e tr hn hgP (Qw I hbt) fun c' o vs t ctv h' tk hx hcn hco hcl' hd hv htab hsz=>?_
  let h'':=h'.push (kla_obj "<lambda>" qual params body scope clos ((c.B.mg "__name__").getD .none) c' ctv)
  have hk:∀b o,h'.get? b=some o→h''.get? b=some o:=fun b o e=>Heap.get?_push_of_some _ e
  have hfn:s.heap.get? h'.objs.size=none:=CJ hsz
  have W:=Ky (h'':=h'') (tk:=tk) T I e tr hn hx hcn hco hcl' hd hv htab hk
  exact k _ c' o vs t ctv h'' tk W.G W.I hfn W.k ⟨fun q=>(by have:=I.live q;rw[hfn]at this;cases this),fun q=>(by have:=I.exl _ q;rw[hfn]at this;cases this),Heap.get?_push_size _ rfl,RW⟩ W.fz hd hv
 ·refine kla_makeFunctionHit hcl hgl I.gns hcd C e tr hf (Qw I hbt) fun ctv h' tk hk hsz=>?_
  have hk':∀b ob,s.heap.get? b=some ob→(h'.push (kla_obj "<lambda>" qual params body scope clos ((c.B.mg "__name__").getD .none) c' ctv)).get? b=some ob:=fun b o e=>Heap.get?_push_of_some _ (hk b o e)
  have hfn:s.heap.get? h'.objs.size=none:=CJ hsz
  exact k _ c' o vs t ctv _ tk (.of_keep hk') (I.keep hk') hfn (fun b ob eb _=>hk' b ob eb) ⟨fun q=>(by have:=I.live q;rw[hfn]at this;cases this),fun q=>(by have:=I.exl _ q;rw[hfn]at this;cases this),Heap.get?_push_size _ rfl,RW⟩ ((AR.of_keep hk').fz _ _ fz) hd hv
end
theorem Pw{M:Model}{A:Around}{E:Value→Shared→Prop}{s:Shared}{env:Env}{c P:Addr}{ps:Array Value}{pos:Pos}{qual:Str}{scope:Scope}{cv:Value}{Q:Value→Shared→Prop}(hc:env.code=.ref c)(hok:s.heap.IsCode c P ps)(hf:codeAmong pos ps.toList=some cv)(h:Q cv s) :
  wpAny M A (genexprCode env pos qual scope) Q E s:=by
 obtain⟨o,vs,file,tf,flags,tg,inF,text,tt,op,ho,hd,h11,h2,h7,h9,h10,hop,hpd,htr,hne⟩:=id hok
 unfold genexprCode codeAt
 rw[hc,if_neg (show ¬((Value.ref c==Value.none)=true) from Bool.false_ne_true)]
 refine wpAny_bind (wpAny_fieldsOf ho hd ?_)
 rw[h11]
 refine wpAny_bind (wpAny_fieldsOf hop hpd ?_)
 rw[hf]
 exact wpAny_pure h
theorem Qg{c:Cx}{ω:Wd}{σ:St}{s:Shared}{E:Value→Shared→Prop}{P cc:Addr}{pos:Pos}{qual:Str}{scope:Scope}{Q:Value→Shared→Prop}(T:Dv c.B cc P pos qual)(hcd:c.env.code=.ref cc)(I:AL c.B ω σ s)
  (k:∀code h' tk,Gw ω [] s.heap ω h'→AL c.B ω σ {s with heap:=h',toks:=tk}→(∀b o,s.heap.get? b=some o→¬EL o→h'.get? b=some o)→s.heap.objs.size≤h'.objs.size→Q code {s with heap:=h',toks:=tk}) :
  wpAny (model c.B.prog c.B.w) c.A (genexprCode c.env pos qual scope) Q E s:=by
 obtain⟨ys,hys,hpy⟩:=T.mem
 obtain⟨ps,e,tr,r⟩:=I.tab _ hys
 have C:=Fc I T.hd
 rcases r _ hpy with hn|⟨c',o,vs,t,hf,fz,hd,hv⟩
 ·refine wpAny_genexprCodeX hcd (C.code e tr) (C.tab e) hn fun c' h' tk hx hge hlt _ hrec htb hnew=>?_
  obtain⟨P',_,_,⟨⟨oc,vs',e1,e2,_⟩,_⟩⟩:=hnew
  obtain⟨c₂,oc₂,vs,t,e3,e4,e5,e6⟩:=hrec
  cases e3
  rw[e1]at e4;cases e4
  have hcn:s.heap.get? c'=none:=CJ hge
  have W:=Ky (h'':=h') (tk:=tk) T I e tr hn hx hcn e1 e2 e5 e6 htb.2 fun _ _ q=>q
  exact k _ h' tk W.G W.I W.k (Nat.le_trans hge (Nat.le_of_lt hlt))
 ·exact Pw hcd (C.code e tr) hf (k _ s.heap s.toks (.refl _ _ _) I (fun _ _ q _=>q) (Nat.le_refl _))
structure G8(B:AV)(n:Str)(p:Addr)(o:Obj)(fs:Array Value)(c:Addr)(oc:Obj)(xs:Array Value)(k:Nat):Prop where
 mg:B.mg n=some (.ref p)
 ho:B.h₀.get? p=some o
 cls:o.cls=.type "re.Pattern"
 dict:o.dict=none
 data:o.data=.fields fs
 h6:Builtin.Re.reRawNat (fs.getD 6 .none)=0
 h5:fs.getD 5 .none=.ref c
 hc:B.h₀.get? c=some oc
 hcc:oc.cls≠.none
 hcd:oc.data=.seq xs k
 code:(xs.map Builtin.Re.reRawOf).map (·.toNat)=Ez
 h2:Builtin.Re.reRawNat (fs.getD 2 .none)=1
def Nk(B:AV)(n:Str):Prop:=∃p o fs c oc xs k,G8 B n p o fs c oc xs k
set_option tactic.hygienic true in
theorem Qs{x:Str}{G:Prop}(h:Rx x=true)(k:∀m',Wo 1000 (PySem.Sre.forSearch Ez x.cps 1 0 x.cps.size false)=some m'→m'.outcome=some .failed→G):G:=by
 unfold Rx at h
 split at h
 ·rename_i m' hm'
  split at h
  ·rename_i ho;exact k m' hm' ho
  ·exact absurd h Bool.false_ne_true
 ·exact absurd h Bool.false_ne_true
section
variable{c:Cx}{Φ:Nat→Option Spec}
theorem eG{n:Str}{np apos pos lpos:Pos}{params:Arguments}{body e:Expr}{scope:Scope}{a:X}{P cc:Addr}{qual:Str}(hP:Nk c.B n)(hn:GM c.Γ n=true)(hl:(apos.endLine==pos.line)=true)
  (T:Dv c.B cc P lpos qual) (hcd:c.env.code=.ref cc) (hq:c.env.qual ++ "<lambda>" = qual) (hcl:closureFor scope c.env=pure []) (hdef:defaultsOf params c.env=([],[])) (ha:SE c e (ev Φ a)) (hst:Ce e) :
  SE c (.Call (.Attribute (.Name n np) "sub" apos) [.Lambda params body scope lpos,e] [] pos) (ev Φ (.sub a)):=
 fun ω m σ s Q E p σ' F I he k=>AH he fun q σ₁ e₁ he=>KE.vl he k fun he k=>AB he fun x e₂ he=>AJ he fun h he=>AF h fun h1 h2=>Qs h2 fun m' hm' ho=>by
  have⟨pa,o,fs,cd,oc,xs,kk,hP⟩:=hP
  have hob:∀{ω σ s},AL c.B ω σ s→s.heap.get? pa=some o:=fun I=>I.base hP.ho (by rw[hP.cls];exact fun q=>nomatch q)
  have hst2:backTo pos (starEach [.Lambda params body scope lpos,e] c.env)=[(false,eval (.Lambda params body scope lpos) c.env),(false,eval e c.env)]:=by rw[Ax (show Ce (.Lambda params body scope lpos) from fun _ _ q=>by cases q),Ax hst];rfl
  refine wpAny_Call_method_lateS rfl ?_ hl (Jp F I hn hP.mg ⟨"re.Pattern","re.Pattern.sub",Sb.plainAttrs_pat,Sb.slot_sub,Sb.type_sub,⟨o,hob I,hP.cls⟩,(fun b q=>⟨o,Value.ref.inj q▸hob I,hP.dict⟩),?_⟩)
  ·rw[hst2];rfl
  rw[hst2]
  refine callWith_builtin rfl (evalArgs_plain (spliced_cons (TS T hcd hq hdef hcl F.glob I fun f c' o' vs t ctv h' tk G I' hfn _ fz fzc hd hv=>?_)))
  refine spliced_cons (ha ω m σ _ _ E _ _ (F.gw G I'.apart) I' e₁ fun v ω₁ s₁ G₁ I₁ x₁=>x₁.str_vr e₂ fun tx=>spliced_nil ?_)
  have fz₁:=fz.gw G₁ (fun _ q=>nomatch q)
  refine Sb.call_sub (p:=pa) (f:=f) (code:=Ez) (m':=m') ⟨o,hob I₁,hP.cls⟩ ⟨o,fs,cd,oc,xs,kk,hob I₁,hP.data,hP.h6,hP.h5,I₁.base hP.hc hP.hcc,hP.hcd,hP.code,hP.h2⟩ fz₁.2.2.1 rfl hm' ho (by have:=An h1;lia) fun h₂ t' k' hs₂=>
   ((k.gw (G.trans G₁)).kk I₁) _ _ k' (fun b o e=>hs₂.extBut b o (Nat.ne_of_lt (Heap.lt_size e)) (AO _ _ b o e)) (AP (P:=fun r=>VR c.B.C ω₁ _ r _) he .str_in)
end
def SG(x:Str)(b1 b2:Str)(k1 k2 k3 k4:Nat)(p1 p2 p3 p4 p5 q1 q2 q3 q4:Pos):Expr:=
 .Call (.Attribute (.Call (.Attribute (.Name x p1) "replace" p2) [.Constant (.str ⟨#[92]⟩) k1 q1,.Constant (.str b1) k2 q2] [] p3) "replace" p4) [.Constant (.str ⟨#[45]⟩) k3 q3,.Constant (.str b2) k4 q4] [] p5
section
variable{prog:Program}{w:World}{A:Around}{E:Value→Shared→Prop}{s:Shared}
theorem QZ{env:Env}{o:Expr}{y a b:Str}{k1 k2:Nat}{p2 p3 q1 q2:Pos}{Q:Value→Shared→Prop}(hb:attributeBase o "replace" env (eval o env)=eval o env)(hl:(p2.endLine==p3.line)=true)(ha:(Builtin.Str.occurrences y a 0 y.length (y.length+1)).isEmpty=true)
  (h:wpAny (model prog w) A (eval o env) (fun v s'=>∃t,v=.str y t∧∀tk,Q (.str y t) {s' with toks:=tk}) E s) :
  wpAny (model prog w) A (eval (.Call (.Attribute o "replace" p2) [.Constant (.str a) k1 q1,.Constant (.str b) k2 q2] [] p3) env) Q E s:=by
 refine wpAny_Call_method_lateS hb rfl hl (wpAny_mono h (fun v s' hv=>?_) fun _ _ e=>e)
 obtain⟨t,rfl,k⟩:=hv
 refine⟨"str","str.replace",F.plainAttrs_str,F.slot_str_replace,F.type_str_replace,typeIs_str _ _ _,(fun _ q=>nomatch q),?_⟩
 show wpAny _ _ (callWith p3 (.builtin "str.replace") [.str y t] [(false,eval (.Constant (.str a) k1 q1) env),(false,eval (.Constant (.str b) k2 q2) env)] []) _ _ _
 exact callWith_builtin rfl (evalArgs_plain (spliced_cons (wpAny_Constant_str (spliced_cons (wpAny_Constant_str (spliced_nil (Eb ha (k _))))))))
theorem VT{env:Env}{m:Str→Option Value}{x y b1 b2:Str}{t:Tok}{k1 k2 k3 k4:Nat}{p1 p2 p3 p4 p5 q1 q2 q3 q4:Pos}{Q:Value→Shared→Prop}(hk:env.scope.kind=.function)(hx:env.kindOf x=some .local)(hd:(x==("__debug__" : Str))=false)(h1:(p2.endLine==p3.line)=true)(h2:(p4.endLine==p5.line)=true)
  (hn:s.heap.Ns env.locals m) (hv:m x=some (.str y t)) (hy:MY y=true) (k:∀tk,Q (.str y t) {s with toks:=tk}):wpAny (model prog w) A (eval (SG x b1 b2 k1 k2 k3 k4 p1 p2 p3 p4 p5 q1 q2 q3 q4) env) Q E s:=
 AF hy fun hy _=>AF hy fun y1 y2=>QZ rfl h2 y2 (QZ rfl h1 y1 (wpAny_Name (wpAny_loadName_local hk hx hn hv ⟨t,rfl,fun tk=>⟨t,rfl,fun tk=>k tk⟩⟩) hd))
end
theorem Lb(n:Nat):passing (fun _=>true) n 0=List.range n:=by
 unfold passing
 rw[List.drop_zero,List.filter_eq_self.mpr fun _ _=>rfl]
theorem AL.other{B:AV}{ω:Wd}{σ:St}{s s':Shared}(I:AL B ω σ s)(hh:s'.heap=s.heap)(ho:s'.os=s.os)(hg:AllBare s'.gens):AL B ω σ s':=
 ⟨I.bok,hh▸I.lim,hh▸I.old,I.len,I.nodup,I.new,I.apart,hh▸I.exl,hh▸I.objs,ho.trans I.os,hg,hh▸I.tab⟩
noncomputable def TW(scope:Scope)(x:Str):Bool:=!scope.isCoroutine&&(scope.names.all (fun y=>y.2 != .cell&&y.2 != .free)&&(scope.names.lookup (".0" : Str)==some .local&&(scope.names.lookup x==some .local&&(scope.kind==.function&&!(x==("__debug__" : Str))))))
structure S0(scope:Scope)(x:Str):Prop where
 co:scope.isCoroutine=false
 cell:∀y∈scope.names,y.2≠.cell
 free:∀y∈scope.names,y.2≠.free
 z:scope.names.lookup (".0" : Str)=some .local
 xl:scope.names.lookup x=some .local
 kind:scope.kind=.function
 d:(x==("__debug__" : Str))=false
theorem Rz{scope:Scope}{x:Str}(h:TW scope x=true):S0 scope x:=
 Ei h fun h1 h2 h3 h4 h=>AF h fun h5 h6=>
  ⟨(Bool.not_eq_true' _).mp h1,fun y hy=>AF (List.all_eq_true.mp h2 y hy) fun q _=>bne_iff_ne.mp q,fun y hy=>AF (List.all_eq_true.mp h2 y hy) fun _ q=>bne_iff_ne.mp q,beq_iff_eq.mp h3,beq_iff_eq.mp h4,beq_iff_eq.mp h5,(Bool.not_eq_true' _).mp h6⟩
theorem Oj{env:Env}:∀{names:List (Str×NameKind)} (acc:List (Str×Addr)),(∀y∈names,y.2≠.free)→Dy env names acc=acc
 | [],_,_=>rfl
 | (n,k)::r,acc,h=>by
  have hk:(k==NameKind.free)=false:=by
   have:=h (n,k) (.head _)
   cases k<;>first|rfl | exact absurd rfl this
  show Dy env r (if k==.free then _ else acc)=acc
  rw[hk]
  exact Oj acc fun y hy=>h y (.tail _ hy)
section
variable{c:Cx}{Φ:Nat→Option Spec}
theorem Wq{C:Addr}{ω:Wd}{h:Heap}:∀{l:List PV} {vs:List Value} {ss:List Str},VRs C ω h l vs→EH l=some ss→∀(i:Nat) (v:Value),vs[i]?=some v→∃y t,ss[i]?=some y∧v=.str y t:=fun x e i v hv=>by
 have y:=x.strs e
 have hlt:i<_:=(List.getElem?_eq_some_iff.mp hv).1
 rw[y.length]at hlt
 obtain⟨t,ht⟩:=y.get i _ (List.getElem?_eq_getElem hlt)
 rw[hv]at ht
 exact⟨_,t,List.getElem?_eq_getElem hlt,so ht⟩
set_option maxHeartbeats 2000000 in
theorem fJ{lv:Nat}{sep x b1 b2 qual:Str}{P cc:Addr}{iter:Expr}{it:X}{scope:Scope}{k k1 k2 k3 k4:Nat}{cp apos px gpos pos p1 p2 p3 p4 p5 q1 q2 q3 q4:Pos}(R:Rm lv c.A)(T:Dv c.B cc P gpos qual)(hcd:c.env.code=.ref cc)(hq:c.env.qual ++ "<genexpr>" = qual)
  (hs:TW scope x=true) (hit:SE c iter (ev Φ it)) (hset:∀x,genFold iter c.env x=pure x) (h1:(p2.endLine==p3.line)=true) (h2:(p4.endLine==p5.line)=true) (hl:(apos.endLine==pos.line)=true) :
  SE c (.Call (.Attribute (.Constant (.str sep) k cp) "join" apos) [.GeneratorExp (SG x b1 b2 k1 k2 k3 k4 p1 p2 p3 p4 p5 q1 q2 q3 q4) [⟨.Name x px,iter,[],0⟩] scope gpos] [] pos) (ev Φ (.jog sep it)):=
 fun ω m σ s Q E p σ' F I e kk=>AH e fun q σ₁ e₁ e=>KE.vl e kk fun e kk=>AB e fun l e2 e=>AB e fun ss e3 e=>AJ e fun h e=>DQ h fun n1 n2 n3 n4=>by
  have g:=Rz hs
  have hcl:closureFor scope c.env=pure []:=by
   rw[Dp fun y hy=>absurd rfl (g.free _ hy),Oj _ g.free]
  refine wpAny_Call_method_lateS rfl rfl hl (wpAny_Constant_str ⟨"str","str.join",PySem.F.plainAttrs_str,PySem.F.slot_str_join,PySem.F.type_str_join,typeIs_str _ _ _,(fun _ q=>nomatch q),?_⟩)
  show wpAny _ _ (callWith pos (.builtin "str.join") [.str sep s.toks] [(false,eval (.GeneratorExp (SG x b1 b2 k1 k2 k3 k4 p1 p2 p3 p4 p5 q1 q2 q3 q4) [⟨.Name x px,iter,[],0⟩] scope gpos) c.env)] []) _ _ _
  refine callWith_builtin rfl (evalArgs_plain (spliced_cons ?_))
  refine wpAny_GeneratorExp_walksQ R.hh g.co hcl g.cell g.z g.xl g.kind (by have:=R.depth;show c.A.depth<1000;lia) (hit ω m σ _ _ E q σ₁ F I.toks e₁ fun v ω₁ s₁ G₁ I₁ x₁=>BB (P:=fun v=>wpAny (model c.B.prog c.B.w) c.A (pyIter v) _ E s₁) I₁ x₁ e2 fun a o vs n ho hc hd hr=>?_) hset
  have F₁:=F.gw G₁ I₁.apart
  have hL:=Bj ho hc hd
  refine wpAny_pyIter_list hL ⟨I₁.lim.push _,?_⟩
  rw[hq]
  have hz:=Ar s₁.heap
  have gz:(s₁.heap.push {cls:=.type "list_iterator",data:=.fields #[.ref a,.int 0 0]}).get? s₁.heap.objs.size=some {cls:=.type "list_iterator",data:=.fields #[.ref a,.int 0 0]}:=BX _ _ rfl
  have hk:=AO s₁.heap {cls:=.type "list_iterator",data:=.fields #[.ref a,.int 0 0]}
  have I₂:AL c.B ⟨ω₁.mu,ω₁.ex++[s₁.heap.objs.size]⟩ σ₁ {s₁ with heap:=s₁.heap.push {cls:=.type "list_iterator",data:=.fields #[.ref a,.int 0 0]}}:=
   I₁.bar (tk:=s₁.toks) hk rfl fun b hb=>(List.mem_append.mp hb).imp id fun q=>by rw[List.mem_singleton.mp q];exact⟨hz,by rw[gz];rfl⟩
  refine Qg (s:={s₁ with heap:=s₁.heap.push {cls:=.type "list_iterator",data:=.fields #[.ref a,.int 0 0]}}) T hcd I₂ fun code h₃ tk₃ G₃ I₃ k₃ hsz₃=>?_
  obtain⟨ys,hys,_⟩:=T.mem
  obtain⟨bm,ob,hbm,hne0,_,hneP,hbo,hcls,hdict,hdata⟩:=Qw I₃ (I₃.bok.tb _ hys).2.2
  refine wpAny_builtinsFor (by rw[F.glob];exact I₃.gns) hbm hne0 hbo hcls hdict hdata ?_
  have hil:h₃.IsListIter s₁.heap.objs.size a 0:=⟨_,k₃ _ _ gz (fun q=>nomatch q.1),rfl,rfl⟩
  have hL₃:h₃.IsList a vs:=⟨_,k₃ _ _ (hk _ _ ho) (fun q=>nomatch hc.symm.trans q.1),hc,n,hd⟩
  have hltI:s₁.heap.objs.size<h₃.objs.size:=hil.elim fun _ q=>Heap.lt_size q.1
  have halt:a<s₁.heap.objs.size:=Heap.lt_size ho
  refine⟨s₁.heap.objs.size,[s₁.heap.objs.size,a],[s₁.heap.objs.size],vs.size,_,_,fun _=>true,fun i v=>∃y t,ss[i]?=some y∧v=.str y t,rfl,fun A' hA=>Walks.list hA _ a (Nat.ne_of_lt halt) vs,⟨hil,hL₃⟩,
   fun b hb=>(List.mem_cons.mp hb).elim (fun q=>q▸hltI) fun hb=>by rw[List.mem_singleton.mp hb];exact Nat.lt_trans halt hltI,I₃.lim,fun hb=>I₁.stat (I₁.fresh hz) (List.mem_singleton.mp hb),fun href hhr=>⟨fun A' E' i v s₂ m₂ _ _ _ _ _=>?_,fun A' E' i v s₂ m₂ hA hP _ hn hm _=>?_⟩,fun a' h₅ tk₅ gs hb hlt hsz₅ hk₅ W hat=>?_⟩
  ·rw[List.forIn_nil]
   exact wpAny_pure ⟨rfl,s₂.heap,s₂.toks,rfl,fun _ _ e=>e⟩
  ·obtain⟨y,t,hy,rfl⟩:=Wq hr e3 i v (by rw[Array.getElem?_toList];exact hP)
   exact VT (env:=genEnv scope [] h₃.objs.size code builtinsNs c.env) g.kind g.xl g.d h1 h2 hn hm (List.all_eq_true.mp n1 y (List.mem_of_getElem? hy)) fun tk=>⟨⟨y,t,hy,rfl⟩,s₂.heap,tk,rfl,fun _ _ e=>e⟩
  ·rw[Lb]at W
   have hvs:vs.size=ss.length:=by rw[←Array.length_toList];exact(hr.strs e3).length
   refine spliced_nil (SC.joinGen W.in4_2 (fun i s' st=>st.1.typeIs) hat (fun b hb=>?_) (.head _) (fun j v hv=>hv.elim fun i q=>q.2.elim fun y q=>q.elim fun t q=>⟨y,t,q.2⟩) (fun s' lt hm hacc=>?_) (by rw[List.length_range,hvs];exact Aa (decide_eq_true (Nat.le_trans (An n3) (by decide)))))
   ·show b<h₅.objs.size
    rw[hsz₅]
    rcases List.mem_cons.mp hb with rfl|hb
    ·exact Nat.lt_succ_self _
    ·rcases List.mem_cons.mp hb with rfl|hb
     ·exact Nat.lt_succ_of_lt hlt
     ·exact Nat.lt_succ_of_lt (Nat.lt_trans (List.mem_range.mp hb) hlt)
   ·have hlt':lt.map (·.1)=ss:=by
     apply List.ext_getElem?
     intro j
     have hsz:lt.length=vs.size:=by
      have:=hacc.1
      rw[List.length_range]at this
      simpa [strValues] using this
     by_cases hj:j<lt.length
     ·obtain⟨i,hi,y,t,hy,hv⟩:=hacc.2 j (.str lt[j].1 lt[j].2) (by simp[strValues,List.getElem?_eq_getElem hj])
      have hij:i=j:=by
       have:=List.getElem?_eq_some_iff.mp hi
       exact(this.2.symm.trans (List.getElem_range _))▸rfl
      rw[hij]at hy
      rw[hy,List.getElem?_map,List.getElem?_eq_getElem hj]
      injection hv with h1 _
      exact congrArg some h1
     ·rw[List.getElem?_eq_none (by simpa using hj),List.getElem?_eq_none (by rw[←hvs,←hsz];exact Nat.not_lt.mp hj)]
    rw[hlt']
    refine⟨joinOk_of_weight (Nat.le_trans (An n4) (by decide)) (An n2),fun t' tk=>?_⟩
    have hup:∀b∈ω₁.ex,b∈ω₁.ex++[s₁.heap.objs.size]∧b≠s₁.heap.objs.size:=fun b hb=>⟨List.mem_append_left _ hb,fun q=>by have:=I₁.exl b hb;rw[q,hz]at this;exact Bool.false_ne_true this⟩
    have hx:Heap.ExtBut s₁.heap.objs.size h₃ s'.heap:=fun b o hb e=>hm.heap b o (fun q=>(List.mem_cons.mp q).elim (fun q=>by rw[q]at e;exact absurd (Heap.lt_size e) (Nat.lt_irrefl _)) fun q=>hb (List.mem_singleton.mp q)) (hk₅ b o e)
    have I₅:=I₃.last (tk:=tk) (List.mem_append_right _ (.head _)) hup hx
    have gb:AllBare s'.gens:=AllBare.movedS (I₃.gens.push hb) hm
    have I₆:AL c.B ⟨ω₁.mu,ω₁.ex⟩ σ₁ {s' with toks:=tk}:=I₅.other rfl hm.os gb
    have G₅:Gw ω₁ [] s₁.heap ⟨ω₁.mu,ω₁.ex⟩ s'.heap:=⟨⟨[],by simp,by simp⟩,rfl,fun b ob eb ht _ _=>.same (hx b ob (fun q=>by rw[q,hz]at eb;cases eb) (k₃ b ob (hk b ob eb) ht)),fun b ob eb=>(G₃.there b ob (hk b ob eb)).elim fun o' e'=>⟨o',hx b o' (fun q=>by rw[q,hz]at eb;cases eb) e'⟩⟩
    rw[show Txt.join sep ss=Str.join sep ss from StrLaws.glued_eq_join sep ss]
    exact AP (P:=fun p=>KE c ω s σ₁ p Q→Q (.str (Str.join sep ss) t') {s' with toks:=tk}) e (fun kk=>kk _ ⟨ω₁.mu,ω₁.ex⟩ {s' with toks:=tk} (G₁.trans G₅) I₆ .str_in) kk
end
structure Ib(B:AV)(K:Frag)(fI:Addr):Prop where
 inn:∀{h},OldK B.h₀ h→K.In h
 hasd:hasDictIn K B.C=true
 pg:plainGet K B.C "value" = true
 av:∃attr,findIn K (.ref B.C) "value" = some attr∧noGet K attr=true
 ar:findIn K (.ref B.C) "read" = some none
 sa:findIn K (.ref B.C) "__setattr__" = some (some (.builtin "object.__setattr__"))
 po:plainOver K B.C=true
 tv:takerIn K B.C "value" = some none
 tr:takerIn K B.C "read" = some none
 mkk:makesIn K B.C=true
 ini:findIn K (.ref B.C) "__init__" = some (some (.ref fI))
 fn:typeIn K (.ref fI)=some (.type "function")
structure Jx where
 (p0 p1 p2 p3 p4:Pos)
noncomputable def BR:Str := "_law_stream.<locals>.<lambda>"
noncomputable def BC:Scope:={kind:=.function,names:=[("size",.local),("stream",.free),("_law_take",.globalImplicit)],isGenerator:=false,isCoroutine:=false,more:=[]}
noncomputable def Bn(q:Jx):Arguments:={posonlyargs:=[],args:=[{arg := "size",annotation:=none,pos:=q.p0}],vararg:=none,kwonlyargs:=[],kw_defaults:=[],kwarg:=none,defaults:=[]}
noncomputable def Cu(q:Jx):Expr:=.Call (.Name "_law_take" q.p1) [.Name "stream" q.p2,.Name "size" q.p3] [] q.p4
inductive yH(C:Addr)(q:Jx)(ω:Wd)(h:Heap)(b:Array UInt8)(d:Addr):Prop
 | mk {h1 h2:Int} {t1 tb t2 tq:Tok} {f c a c':Addr} {n:Nat} {oc ok:Obj} {pm ctv:Value} {vs:Array Value} (hd:h.get? d=some (dictOf [⟨h1,.str "value" t1,.bytes b tb⟩,⟨h2,.str "read" t2,.ref f⟩] n))
  (r1:Fz ω h f (kla_obj "<lambda>" BR (Bn q) (Cu q) BC [("stream",c)] pm c' ctv)) (r2:Fz ω h c oc) (r3:oc.data=.cell (some (.ref a))) (r4:Fz ω h a (instObj C d)) (r5:Fz ω h c' ok) (r6:ok.data=.fields vs) (r7:vs[1]?=some (.str BR tq)):yH C q ω h b d
noncomputable def Tv(C:Addr)(q:Jx):X2 where
 P:=yH C q
 carry:=fun x fz k=>match x with
  | .mk hd r1 r2 r3 r4 r5 r6 r7=>.mk (k _ hd) (fz _ _ r1) (fz _ _ r2) r3 (fz _ _ r4) (fz _ _ r5) r6 r7
 live:=fun x=>match x with
  | .mk hd _ _ _ _ _ _ _=>by rw[hd];rfl
section
variable{prog:Program}{w:World}{A:Around}{E:Value→Shared→Prop}{s:Shared}{K:Frag}{x C dx:Addr}{ox:Obj}{es:List DictEntry}{n:Nat}{name:Str}{v:Value}
set_option tactic.hygienic true in
theorem Ul{tk:Tok}{R:Result→Shared→Prop}(X:K.In s.heap)(I:InstAt s.heap x ox C (some (dictOf es n)))(hd:ox.dict=some dx)(hp:plainOver K C=true)(ht:takerIn K C name=some none)(hh:hasDictIn K C=true)
  (hl:(getL name es).isSome=true) (hz:es.length≤900)
  (h:∀h',Heap.ExtBut dx s.heap h'→h'.get? dx=some (dictOf (putL name (PyData.keyHash w.params name) (.str name s.toks) v es) (putN name es n))→R (.ok (.ret .none)) {s with heap:=h',toks:=s.toks+1}) :
  codeAny (model prog w) A (.call (.builtin "object.__setattr__") ⟨[.ref x,.str name tk,v],[]⟩) R s:=by
 refine osa_open X I hp ht fun b=>?_
 obtain⟨cd,hc,hd'⟩:=any_some hh
 obtain⟨hx,hcl,hn,hdd⟩:=I
 obtain⟨oc,odi,oda,osl⟩:=ox
 dsimp only at hcl hd hdd
 subst hcl hd
 have D:s.heap.get? dx=some (dictOf es n):=hdd
 have e':=putName_dict name (PyData.keyHash w.params name) (.str name s.toks) v es n
 have D':(s.heap.update dx (Obj.putName name (PyData.keyHash w.params name) (.str name s.toks) v)).get? dx=some (dictOf (putL name (PyData.keyHash w.params name) (.str name s.toks) v es) (putN name es n)):=by
  rw[←e']
  exact Heap.get?_update_self _ D (by rw[e'];rfl)
 have hlen:∀es:List DictEntry,(putL name (PyData.keyHash w.params name) (.str name s.toks) v es).length≤es.length+1:=by
  intro es
  induction es with
  | nil=>simp[putL]
  | cons e r ih=>
   unfold putL
   split
   ·simp
   ·simp only[List.length_cons];lia
 refine wpAny_bind (wpAny_pure (wpAny_bind (wpAny_bind (wpAny_loadPart hx (wpAny_bind ((looks_clsIn X hc).here ?_))))))
 rw[hd']
 refine wpAny_pure (a:=some dx) (wpAny_bind (wpAny_pure (wpAny_bind ?_)))
 unfold nsSet
 refine wpAny_bind (wpAny_bind (wpAny_askSetting (wpAny_pure (wpAny_bind (wpAny_mkText (wpAny_bind (wpAny_loadPart D ?_)))))))
 dsimp only
 have c:(!es.toArray.any (·.key.isStr name)&&es.toArray.any (·.refKey))=false:=by
  rw[←Array.any_toList,←Array.any_toList]
  unfold getL at hl
  split at hl
  ·rename_i en he
   rw[List.any_eq_true.mpr ⟨en,List.mem_of_find?_eq_some he,List.find?_some he⟩];rfl
  ·split at hl
   ·cases hl
   ·rename_i z;rw[Bool.not_eq_true]at z
    have z':(es.toArray.toList.any (·.refKey))=false:=z
    rw[z',Bool.and_false]
 rw[aRefKeyMayBeTheName_at,c]
 refine wpAny_updatePart D ?_
 refine wpAny_bind (wpAny_lookBehind D' (pastItsLine_dict (by rw[List.size_toArray,sizeLine_eq];have:=hlen es;lia)) ?_)
 exact wpAny_pure (h _ (Heap.SameBut.update ..).extBut D')
end
section
variable{B:AV}{A:Around}{E:Value→Shared→Prop}{s:Shared}{K:Frag}{x dx fI:Addr}{es:List DictEntry}{n:Nat}{name:Str}{v:Value}
theorem KG{Q:Unit→Shared→Prop}(W:Ib B K fI)(ko:OldK B.h₀ s.heap)(hx:s.heap.get? x=some (instObj B.C dx))(hdx:s.heap.get? dx=some (dictOf es n))(ht:takerIn K B.C name=some none)(hl:(getL name es).isSome=true)(hz:es.length≤900)
  (h:∀h' tk,Heap.ExtBut dx s.heap h'→(∃hs t,h'.get? dx=some (dictOf (putL name hs (.str name t) v es) (putN name es n)))→Q () {s with heap:=h',toks:=tk}) :
  wpAny (model B.prog B.w) A (setAttr (.ref x) name v) Q E s:=
 set_plain (od:=some (dictOf es n)) (W.inn ko) ⟨hx,rfl,rfl,hdx⟩ W.sa (Ul (s:={s with toks:=s.toks+1}) (dx:=dx) (es:=es) (n:=n) (W.inn ko) ⟨hx,rfl,rfl,hdx⟩ rfl W.po ht W.hasd hl hz fun h' hs he=>h h' _ hs ⟨_,_,he⟩)
theorem OM{Q:Value→Shared→Prop}{expr:Bool}{attr:Option Value}(W:Ib B K fI)(ko:OldK B.h₀ s.heap)(hx:s.heap.get? x=some (instObj B.C dx))(hdx:s.heap.get? dx=some (dictOf es n))(ha:findIn K (.ref B.C) name=some attr)(hn:noGet K attr=true)
  (hl:getL name es=some (some v)) (hv:handedIn v=true) (h:Q v {s with toks:=s.toks+1}):wpAny (model B.prog B.w) A (getAttr (.ref x) name expr) Q E s:=
 get_value (od:=some (dictOf es n)) (W.inn ko) ⟨hx,rfl,rfl,hdx⟩ (plainGet_of W.pg).1 (findObj_own W.hasd ha hn hl) hv h
end
structure Lj(B:AV)(a:Addr)(fd:FuncData):Prop where
 o:∃o,B.h₀.get? a=some o∧o.cls≠.none∧o.data=.func fd
 g:fd.globals=mainGlobals
 bl:fd.builtins=builtinsNs
 clo:fd.closure=[]
 cd:∀h:Heap,(∀b o,B.h₀.get? b=some o→o.cls≠.none→h.get? b=some o)→h.CodeRec fd.code fd.qualname
 co:fd.scope.isCoroutine=false
 gen:fd.scope.isGenerator=false
 kind:fd.scope.kind=.function
theorem WG{B:AV}{Φ:Nat→Option Spec}{lv:Nat}{a:Addr}{fd:FuncData}{body:List Stmt}{params:List Str}{Γ:Sc}{b:SL}(X:Lj B a fd)(hbody:fd.body=.stmts body)
  (hbind:∀vals:List Value,vals.length=params.length→bindArgs fd ⟨vals,[]⟩=pure (params.zip vals)) (hn:params.Nodup) (hB:xB Γ params fd.scope.names=true) (hle:params.length≤Γ.nt.length)
  (hs:∀c:Cx,gK B lv Γ fd.code (fd.qualname ++ ".<locals>.") c→Mx c body (evSL Φ b)):MP B (lv+1) (.ref a) (Ae Φ params.length Γ.nt.length b):=by
 exact X.o.elim fun o q=>Ry (g:=evSL Φ b) q.1 q.2.1 q.2.2 hbody X.g X.bl X.clo X.cd hbind hn hB hle hs X.co X.gen X.kind
section
variable{B:AV}{ω:Wd}{σ:St}{s:Shared}{q:Jx}
theorem Hu{p:PV}{x:Nat×Array UInt8}{G:Prop}(e:Kw σ p=some x)(k:p=.strm x.1→σ[x.1]?=some (.sdict x.2)→G):G:=
 AB e fun n e1 e=>AB e fun o e2 e=>AB e fun b e3 e=>k (so e▸Rg e1) (so e▸aR e3▸e2)
@[elab_as_elim] theorem Ji{n:Nat}{v:Value}{b:Array UInt8}{P:Value→Prop}(hZ:B.Z=Tv B.C q)(I:AL B ω σ s)(x:VR B.C ω s.heap (.strm n) v)(e:σ[n]?=some (.sdict b))
  (k:∀a d,s.heap.get? a=some (instObj B.C d)→ω.mu[n]?=some d→yH B.C q ω s.heap b d→P (.ref a)):P v:=
 x.strm_el fun a d f hi=>k a d f.2.2.1 hi (by have y:B.Z.P ω s.heap b d:=I.objs _ _ _ hi e;rw[hZ]at y;exact y)
end
section
variable{c:Cx}{Φ:Nat→Option Spec}{K:Frag}{fI:Addr}{q:Jx}
theorem IT{h1 h2:Int}{t1 t2:Tok}{u v:Value}:getL "value" [⟨h1,.str "value" t1,u⟩,⟨h2,.str "read" t2,v⟩]=some (some u):=rfl
theorem PH{h1 h2:Int}{t1 t2:Tok}{u v:Value}:getL "read" [⟨h1,.str "value" t1,u⟩,⟨h2,.str "read" t2,v⟩]=some (some v):=rfl
theorem Mw{h1 h2 hs:Int}{t1 t2:Tok}{u v k w:Value}:putL "value" hs k w [⟨h1,.str "value" t1,u⟩,⟨h2,.str "read" t2,v⟩]=[⟨h1,.str "value" t1,w⟩,⟨h2,.str "read" t2,v⟩]:=rfl
theorem iC{a:X}{o:Expr}{attr:Str}{pos:Pos}(W:Ib c.B K fI)(hZ:c.B.Z=Tv c.B.C q)(ha:SE c o (ev Φ a))(hb:BV o=true)(hat:attr = "value"):SE c (.Attribute o attr pos) (ev Φ (.val a)):=
 fun ω m σ s Q E p σ' F I e k=>AH e fun p₁ σ₁ e₁ e=>AB e fun x e₂ e=>Hu e₂ fun hp hl=>by
  subst hat
  refine Attribute_any_ (ha ω m σ s _ E _ _ F I e₁ fun v ω₁ s₁ G₁ I₁ x₁=>Ji (P:=fun v=>wpAny (model c.B.prog c.B.w) c.A (getAttr v "value" true) Q E s₁) hZ I₁ (hp▸x₁) hl fun x d hx hi S=>?_) (by rw[arm_eval_Attribute,Dn hb])
  cases S with
  | mk hd=>exact W.av.elim fun attr h=>OM W I₁.old hx hd h.1 h.2 IT rfl ((KE.gw (KE.lit e k) G₁).tk I₁ .byt_in _)
theorem kH{o e:Expr}{a x:X}{attr:Str}{p pos:Pos}(W:Ib c.B K fI)(hZ:c.B.Z=Tv c.B.C q)(ha:SE c o (ev Φ a))(hx:SE c e (ev Φ x))(hs:CK e=true)(hat:attr = "value"):Cn c (.Assign [.Attribute o attr p] e pos) (Ab Φ (.asV a x)):=
 fun ω m σ s Q E r m' σ' F I he k kx=>AH he fun p₁ σ₁ e₁ he=>AH he fun p₂ σ₂ e₂ he=>AB he fun σ₃ e₃ he=>AB e₃ fun y ey e₃=>AB e₃ fun b eb e₃=>AJ e₃ fun _ e₃=>Hu ey fun hp hl=>by
  subst hat
  refine plainObj_wpAny_Assign_Attribute (Mg hx ha F I e₁ e₂ fun v₁ v₂ ω₂ s₂ G₂ I₂ x₁ x₂=>x₁.byt_vr eb fun t=>Ji (P:=fun v=>wpAny (model c.B.prog c.B.w) c.A (setAttr v "value" (.bytes b t)) _ E s₂) hZ I₂ (hp▸x₂) hl fun x d hx hi S=>?_) (EJ hs _ _ _)
  cases S with
  | mk hd r1 r2 r3 r4 r5 r6 r7=>
   refine KG W I₂.old hx hd W.tv (by rw[IT];rfl) (by simp) fun h' tk hs' hd'=>hd'.elim fun hh hd'=>hd'.elim fun th hd'=>?_
   rw[Mw]at hd'
   have hm:=List.mem_of_getElem? hi
   have cC:=AR.of_mu hm hs'
   have I':=I₂.set (tk:=tk) hi hs' (o:=.sdict b) (show c.B.Z.P ω₂ h' b d by rw[hZ];exact .mk hd' (cC.fz _ _ r1) (cC.fz _ _ r2) r3 (cC.fz _ _ r4) (cC.fz _ _ r5) r6 r7)
   have G:=G₂.trans (.of_ext (.inl hm) hs' ⟨_,hd'⟩)
   exact KQ.nx (s':={s₂ with heap:=h',toks:=tk}) he k G.own (so e₃▸I') (F.gw G I'.apart)
end
section
variable{c:Cx}{Φ:Nat→Option Spec}{K:Frag}{fI:Addr}{q:Jx}
theorem Sm{pm ctv:Value}{c' cc:Addr}{v:Value}:bindArgs (kla_fn "<lambda>" BR (Bn q) (Cu q) BC [("stream",cc)] pm (.ref c') ctv) ⟨[v],[]⟩=pure [(("size" : Str),v)]:=rfl
def Jr(L fa c' cc:Addr):Env:=newEnv BC L mainGlobals [("stream",cc)] (BR ++ ".<locals>.") (some fa) (.ref c') none builtinsNs
theorem VI{lv:Nat}{sp:Spec}{ω:Wd}{σ σ':St}{s:Shared}{Q E:Value→Shared→Prop}{n:Nat}{p₂ p:PV}{v₂:Value}{fa cc a' c' d:Addr}{oc ok:Obj}{pm ctv:Value}{vs:Array Value}{tq:Tok}{l:List Env}(R:Rm (lv+1) c.A)(hv:∃v,c.B.mg "_law_take" = some v∧MP c.B lv v sp)
  (hl:lA c.A ω s.heap l) (I:AL c.B ω σ s) (hi:ω.mu[n]?=some d) (x₂:VR c.B.C ω s.heap p₂ v₂)
  (r1:Fz ω s.heap fa (kla_obj "<lambda>" BR (Bn q) (Cu q) BC [("stream",cc)] pm c' ctv)) (r2:Fz ω s.heap cc oc) (r3:oc.data=.cell (some (.ref a'))) (r4:Fz ω s.heap a' (instObj c.B.C d)) (r5:Fz ω s.heap c' ok) (r6:ok.data=.fields vs) (r7:vs[1]?=some (.str BR tq))
  (e:sp [.strm n,p₂] σ=some (.val p,σ')) (k:KE c ω s σ' p Q):wpAny (model c.B.prog c.B.w) c.A (call (.ref fa) [v₂]) Q E s:=by
 refine hv.elim fun tv hv=>hv.2.1.elim fun ta z=>z.elim fun to z=>z.elim fun tfd z=>?_
 have hmg:=hv.1
 have hf:=hv.2.2
 have hto:=z.2.1
 have htc:=z.2.2.1
 have htd:=z.2.2.2
 have et:=z.1
 subst et
 refine wpAny_call (kla_callFunE (by have:=R.depth;show c.A.depth<1000;lia) r1.2.2.1 rfl rfl rfl rfl ⟨c',ok,vs,tq,rfl,r5.2.2.1,r6,r7⟩ ?_)
 show wpAny _ _ (bindArgs (kla_fn "<lambda>" BR (Bn q) (Cu q) BC [("stream",cc)] pm (.ref c') ctv) ⟨[v₂],[]⟩) _ _ _
 rw[Sm]
 refine wpAny_pure (wpAny_newFunctionEnv (fun y hy=>by
  simp only[BC,List.mem_cons,List.not_mem_nil,or_false]at hy
  rcases hy with rfl|rfl|rfl<;>decide) (fun y hy=>by
  rw[List.mem_singleton.mp hy];rfl) (fun h₃ hns hsb=>⟨I.lim.fresh _ hsb,?_⟩) rfl)
 generalize hL:s.heap.objs.size=L at *
 have hLn:s.heap.get? L=none:=by rw[←hL];exact Ar _
 have hk₃:∀b o,s.heap.get? b=some o→h₃.get? b=some o:=fun b o e=>hsb.extBut b o (Dq e hLn) (Heap.get?_push_of_some _ e)
 have hz₃:(h₃.get? L).isSome=true:=hns.elim fun o q=>q.elim fun _ q=>q.elim fun _ q=>by rw[q.1];rfl
 have hx3:∀a∈ω.ex++[L],a∈ω.ex∨(s.heap.get? a=none∧(h₃.get? a).isSome=true):=fun a ha=>(List.mem_append.mp ha).imp id fun q=>by rw[List.mem_singleton.mp q];exact⟨hLn,hz₃⟩
 have I₃:AL c.B ⟨ω.mu,ω.ex++[L]⟩ σ {s with heap:=h₃,toks:=s.toks+1}:=I.bar (tk:=s.toks+1) hk₃ rfl hx3
 have gc:AR ω s.heap ⟨ω.mu,ω.ex++[L]⟩ h₃:=(AR.more (ω:=ω) (ω':=⟨ω.mu,ω.ex++[L]⟩) rfl fun a ha=>(hx3 a ha).imp id And.left).trans (.of_keep hk₃)
 refine kla_codeExpr ?_
 show wpAny _ _ (eval (.Call (.Name "_law_take" q.p1) [.Name "stream" q.p2,.Name "size" q.p3] [] q.p4) (Jr L fa c' cc)) _ _ _
 refine wpAny_Call_ofName (Name_function_global rfl rfl (loadGlobal_global (mg:=c.B.mg) I₃.gns hmg ?_))
 show wpAny _ _ (callWith q.p4 (.ref ta) [] [(false,eval (.Name "stream" q.p2) _),(false,eval (.Name "size" q.p3) _)] []) _ _ _
 refine callWith_function (o:=to) (fd:=tfd) (evalArgs_plain (spliced_cons (wpAny_Name (wpAny_loadName_free (c:=cc) (v:=.ref a') rfl rfl rfl ⟨oc,(gc.fz _ _ r2).2.2.1,r3⟩ (spliced_cons (wpAny_Name (wpAny_loadName_local rfl rfl hns rfl (spliced_nil ⟨⟨I₃.base hto htc,htd⟩,?_⟩)) rfl))) rfl)))
 have hfr:lA (c.A.deeper (Jr L fa c' cc)) ⟨ω.mu,ω.ex++[L]⟩ h₃ (Jr L fa c' cc::l):=⟨Around.frames_deeper hl.1,fun e he=>(List.mem_cons.mp he).elim (fun e1=>e1▸⟨(fun q=>nomatch q),L,_,rfl,List.mem_append_right _ (.head _),hns⟩)
  fun he=>(hl.2 e he).imp id fun r=>r.elim fun L' r=>r.elim fun f' r=>⟨L',f',r.1,List.mem_append_left _ r.2.1,DS r.2.2 fun o e _=>.same (hk₃ L' o e)⟩⟩
 have R':Rm lv (c.A.deeper (Jr L fa c' cc)):=⟨R.hh,by have:=R.depth;show c.A.depth+1+lv≤900;lia,by have:=R.units;show c.A.units+3+10*lv≤9000;lia⟩
 refine hf _ R' ⟨ω.mu,ω.ex++[L]⟩ σ _ _ _ [.strm n,p₂] [.ref a',v₂] _ σ' _ hfr I₃ (.cons_in (.strm_in (gc.fz _ _ r4) (gc.idx _ _ hi)) (.one (x₂.carry gc))) e fun v₄ ω₄ s₄ G₄ I₄ x₄=>?_
 have hsub:∀a∈ω.ex,a∈ω₄.ex:=fun a ha=>by rw[G₄.ex];exact List.mem_append_left _ ha
 have g3:Gx ω [] s.heap ⟨ω.mu,ω.ex++[L]⟩ h₃ [L]:=Gx.of_gw (.refl _ _ _) hk₃ (fun a ha=>by rw[List.mem_singleton.mp ha];exact hLn)
 exact k v₄ ⟨ω₄.mu,ω.ex⟩ s₄ (g3.trans G₄ fun _ q=>nomatch q).drop (I₄.unbar rfl hsub) (x₄.carry (AR.less (ω:=ω₄) (ω':=⟨ω₄.mu,ω.ex⟩) rfl hsub))
theorem UY{B:AV}{ω:Wd}{σ:St}{s:Shared}{n:Nat}{v:Value}{b:Array UInt8}(hZ:B.Z=Tv B.C q)(I:AL B ω σ s)(x:VR B.C ω s.heap (.strm n) v)(e:σ[n]?=some (.sdict b)) :
  ∃a d,v=.ref a∧s.heap.get? a=some (instObj B.C d)∧ω.mu[n]?=some d∧yH B.C q ω s.heap b d:=Ji (P:=fun v=>∃a d,v=.ref a∧s.heap.get? a=some (instObj B.C d)∧ω.mu[n]?=some d∧yH B.C q ω s.heap b d) hZ I x e fun a d h1 h2 h3=>⟨a,d,rfl,h1,h2,h3⟩
set_option tactic.hygienic true in
theorem UT{lv f:Nat}{a nx:X}{o e:Expr}{attr:Str}{apos pos:Pos}(W:Ib c.B K fI)(hZ:c.B.Z=Tv c.B.C q)(R:Rm (lv+1) c.A)(hv:∀sp,Φ f=some sp→∃v,c.B.mg "_law_take" = some v∧MP c.B lv v sp)
  (ha:SE c o (ev Φ a)) (hn:SE c e (ev Φ nx)) (hb:BV o=true) (hl:(apos.endLine==pos.line)=true) (hst:Ce e) (hat:attr = "read"):SE c (.Call (.Attribute o attr apos) [e] [] pos) (ev Φ (.read f a nx)):=
 fun ω m σ s Q E p σ' F I he k=>AH he fun p₁ σ₁ e₁ he=>AB he fun x ex he=>AH he fun p₂ σ₂ e₂ he=>AB he fun sp hΦ he=>AH he fun out σ₃ e₃ he=>KE.vl he k fun ho k=>Hu ex fun hp hσ=>by
  subst hat
  have hst1:starEach [e] c.env=[(false,eval e c.env)]:=Ax hst
  rw[arm_eval_Call,Dn hb]
  refine wpAny_bind (ha ω m σ s _ E _ _ F I e₁ fun v ω₁ s₁ G₁ I₁ x₁=>wpAny_bind (wpAny_standAt ?_))
  have⟨xa,d,ev,hx,hi,S⟩:=UY hZ I₁ (hp▸x₁) hσ
  subst ev
  cases S with
  | mk hd r1 r2 r3 r4 r5 r6 r7=>
  rename_i h1 h2 t1 tb t2 tq fa cc a' c' n' oc ok pm ctv vs
  have hform:methodCallForm ([e].length+([]:List Keyword).length) (backTo pos (starEach [e] c.env)) (backToKw pos (keywordEach [] c.env))=true:=by rw[hst1];rfl
  have hpos:methodCallPos true o c.env apos pos=pure pos:=by unfold methodCallPos;simp[hl]
  unfold methodCall
  rw[hform]
  refine wpAny_bind (wpAny_holding (method_usual (K:=K) (C:=c.B.C) (od:=some (dictOf _ n')) (W.inn I₁.old) ⟨hx,rfl,rfl,hd⟩ (plainGet_of W.pg).1 (plainGet_of W.pg).2 W.ar rfl (OM W I₁.old hx hd W.ar rfl PH rfl ?_)))
  refine wpAny_bind (wpAny_of_eq hpos ?_)
  rw[hst1]
  refine callWith_function (o:=kla_obj "<lambda>" BR (Bn q) (Cu q) BC [("stream",cc)] pm c' ctv) (fd:=kla_fn "<lambda>" BR (Bn q) (Cu q) BC [("stream",cc)] pm (.ref c') ctv)
   (evalArgs_plain (spliced_cons (hn ω₁ m σ₁ {s₁ with toks:=s₁.toks+1} _ E _ _ (F.gw G₁ I₁.apart) I₁.toks e₂ fun v₂ ω₂ s₂ G₂ I₂ x₂=>spliced_nil ?_)))
  have g:=AR.of_gw G₂ (fun _ q=>nomatch q)
  refine⟨⟨(g.fz _ _ r1).2.2.1,rfl⟩,?_⟩
  match out,ho with
  | .val p₃,ho=>exact(F.gw (G₁.trans G₂) I₂.apart).frs.elim fun l hl=>VI R (hv sp hΦ) hl I₂ (g.idx _ _ hi) x₂ (g.fz _ _ r1) (g.fz _ _ r2) r3 (g.fz _ _ r4) (g.fz _ _ r5) r6 r7 e₃ ((so ho).symm▸k.gw (G₁.trans G₂))
  | .exc _,ho=>exact nn ho
end
section
variable{B:AV}{ω ω':Wd}{σ:St}{s:Shared}{h':Heap}{tk:Nat}{a:Addr}{o:PO}{od:Obj}
theorem Hr.fz{h:Heap}(T:Hr B ω h)(f:∀a o,Fz ω h a o→Fz ω' h' a o)(k:∀x∈B.tabs,∀o,h.get? x.1=some o→h'.get? x.1=some o):Hr B ω' h':=by
 intro x hx
 obtain⟨ps,e,t,r⟩:=T x hx
 refine⟨ps,k x hx _ e,t,fun y hy=>?_⟩
 rcases r y hy with r|⟨c',o,vs,t',r1,r2,r3⟩
 ·exact .inl r
 ·exact .inr ⟨c',o,vs,t',r1,f _ _ r2,r3⟩
theorem AL.dicstep(I:AL B ω σ s)(ho:s.heap.get? a=some od)(hd:EA od)(hm:a∉ω.mu)(hx:a∉ω.ex)(h0:B.h₀.get? a=none)(k:Heap.ExtBut a s.heap h'):AL B ω σ {s with heap:=h',toks:=tk}:=by
 have nd:∀{b:Addr} {o:Obj},s.heap.get? b=some o→¬EA o→b≠a:=fun e hnd q=>hnd (by rw[q,ho]at e;cases e;exact hd)
 refine I.step ⟨fun b o f=>⟨f.1,f.2.1,k b o (nd f.2.2.1 f.2.2.2.1) f.2.2.1,f.2.2.2⟩,fun _ _ e=>e⟩ (fun b hb o e=>k b o (fun q=>hm (q▸hb)) e) (Gp I.old h0 k) (fun b hb=>?_) (I.lim.extBut k (I.stat h0)) (fun b o e _ _ hnd=>k b o (nd e hnd) e)
 obtain⟨o',e⟩:=Option.isSome_iff_exists.mp (I.exl b hb)
 rw[k b o' (fun q=>hx (q▸hb)) e];rfl
theorem AL.adopt(I:AL B ω σ s)(ho:s.heap.get? a=some od)(hd:EA od)(hm:a∉ω.mu)(hx:a∉ω.ex)(h0:B.h₀.get? a=none)(hO:OR B ⟨ω.mu++[a],ω.ex⟩ s.heap o a):AL B ⟨ω.mu++[a],ω.ex⟩ (σ++[o]) s:=by
 have nd:∀{b:Addr} {o:Obj},s.heap.get? b=some o→¬EA o→b≠a:=fun e hnd q=>hnd (by rw[q,ho]at e;cases e;exact hd)
 have gC:AR ω s.heap ⟨ω.mu++[a],ω.ex⟩ s.heap:=
  ⟨fun b o f=>⟨fun q=>(List.mem_append.mp q).elim f.1 (fun z=>nd f.2.2.1 f.2.2.2.1 (List.mem_singleton.mp z)),f.2⟩,fun i b e=>by
   obtain⟨hi,rfl⟩:=List.getElem?_eq_some_iff.mp e
   show(ω.mu++[a])[i]?=_
   rw[List.getElem?_append_left hi];exact e⟩
 refine⟨I.bok,I.lim,I.old,by simp[I.len],?_,fun b hb=>?_,fun b hb=>?_,I.exl,fun i b p e1 e2=>?_,I.os,I.gens,I.tab.fz gC.fz fun _ _ _ e=>e⟩
 ·show(ω.mu++[a]).Nodup
  rw[List.nodup_append]
  exact⟨I.nodup,by simp,fun x hx y hy=>by rw[List.mem_singleton.mp hy];exact fun q=>hm (q▸hx)⟩
 ·rcases hb with hb|hb
  ·rcases List.mem_append.mp hb with q|q
   ·exact I.new b (.inl q)
   ·rw[List.mem_singleton.mp q];exact h0
  ·exact I.new b (.inr hb)
 ·rcases List.mem_append.mp hb with q|q
  ·exact I.apart b q
  ·rw[List.mem_singleton.mp q];exact hx
 ·by_cases hi:i<ω.mu.length
  ·rw[List.getElem?_append_left hi]at e1
   rw[List.getElem?_append_left (by rw[←I.len];exact hi)]at e2
   exact(I.objs i b p e1 e2).carry gC fun _ e=>e
  ·obtain⟨h1,_⟩:=List.getElem?_eq_some_iff.mp e1
   have:i=ω.mu.length:=by
    have h2:i<ω.mu.length+1:=by simpa using h1
    lia
   subst this
   rw[List.getElem?_append_right (Nat.le_refl _)]at e1
   rw[I.len,List.getElem?_append_right (Nat.le_refl _)]at e2
   simp at e1 e2
   subst e1;subst e2
   exact hO
end
def Xo:Spec:=fun ps σ=>bd (one? ps) fun p=>bd p.byt? fun b=>gd (decide (b.size≤BM)) (some (.val (.strm σ.length),σ++[.sdict b]))
theorem Ii{M:Model}{A:Around}{E:Value→Shared→Prop}{s:Shared}{pos:Pos}{C:Addr}{args:List (Bool×Sem Value)}{Q:Value→Shared→Prop}(hpl:args.any (·.1)=false)
  (h:wpAny M A (PySem.evalArgs (.ref C) true args []) (fun x s₁=>Makes M s₁.heap C∧wpAny M A (call (.ref C) x.pos x.kw) Q E s₁) E s) :
  wpAny M A (callWith pos (.ref C) [] args []) Q E s:=
 callWith_of (P:=fun h=>Makes M h C) (by rw[hpl];rfl) (fun h e=>by
  obtain⟨⟨oc,od,cd,sl,hC,_⟩,_,_,_,_,call,_⟩:=e
  exact⟨.machine,.inr (.inl rfl),(Looks.ld (part:=none) hC).andThen (call.andThen .now)⟩) h
noncomputable def Fv:List (Str×NameKind):=[("octets",.local),("stream",.cell),("_Example",.globalImplicit)]
noncomputable def GJ:List (Str×NameKind):=[("self",.local),("value",.local)]
theorem Pn{B:AV}{K:Frag}{fI a cC P:Addr}{q:Jx}{fd fdI:FuncData}{lv:Nat}{pa pb pc pd pe pf pg ph pi pj pk pl pm pn po:Pos}(W:Ib B K fI)(hZ:B.Z=Tv B.C q)(X:Lj B a fd)(XI:Lj B fI fdI)
  (hbody:fd.body=.stmts [.Assign [.Name "stream" pa] (.Call (.Name "_Example" pb) [.Name "octets" pc] [] pd) pe,.Assign [.Attribute (.Name "stream" pf) "read" pg] (.Lambda (Bn q) (Cu q) BC ph) pi,.Return (some (.Name "stream" pj)) pk])
  (hnames:fd.scope.names=Fv) (hbind:∀v,bindArgs fd ⟨[v],[]⟩=pure [(("octets" : Str),v)]) (hq:fd.qualname = "_law_stream")
  (hcd:fd.code=.ref cC) (T:Dv B cC P ph BR) (hC:B.mg "_Example" = some (.ref B.C))
  (hbodyI:fdI.body=.stmts [.Assign [.Attribute (.Name "self" pl) "value" pm] (.Name "value" pn) po]) (hnamesI:fdI.scope.names=GJ)
  (hbindI:∀u v,bindArgs fdI ⟨[u,v],[]⟩=pure [(("self" : Str),u),(("value" : Str),v)]):MP B (lv+3) (.ref a) Xo:=by
 obtain⟨o,ho,hoc,hod⟩:=X.o
 obtain⟨oI,hoI,hocI,hodI⟩:=XI.o
 refine⟨⟨a,o,fd,rfl,ho,hoc,hod⟩,?_⟩
 refine fun A R ω σ s Q E ps vs out σ' l hl I x e k=>AB e fun p e1 e=>AB e fun b e2 e=>AJ e fun hsz e=>x.one_vr e1 fun v hv=>?_
 refine hv.byt_vr (P:=fun v=>wpAny (model B.prog B.w) A (call (.ref a) [v]) Q E s) e2 fun tv=>?_
 refine BF (P:=fun out σ'=>iR B ω s.heap σ' l out Q E→wpAny (model B.prog B.w) A (call (.ref a) [.bytes b tv]) Q E s) e (fun k=>?_) k
 refine wpAny_call (codeAny_call_cells (by have:=R.depth;show A.depth<1000;lia) (I.base ho hoc) hod I.lim (X.cd _ fun b o e h=>I.base e h) hbody (hbind _) X.clo (fun y hy=>?_) (fun s₁ ic=>?_) X.co X.gen X.kind)
 ·rw[List.mem_singleton.mp hy,hnames];exact .inl rfl
 refine CZ fun Q₁ E₁ hQ₁ _=>?_
 generalize henv:callEnvC fd s.heap.objs.size a=env at ic ⊢
 have hL:env.locals=s.heap.objs.size:=by rw[←henv];rfl
 have hcells:env.cells=[(("stream" : Str),s.heap.objs.size+1)]:=by rw[←henv];show cellsFrom _ fd.scope.names []=_;rw[hnames];rfl
 have hscope:env.scope=fd.scope:=by rw[←henv];rfl
 have hglob:env.globals=mainGlobals:=by rw[←henv];exact X.g
 have hcode:env.code=.ref cC:=by rw[←henv];exact hcd
 have hqual:env.qual ++ "<lambda>" = BR:=by rw[←henv];show(fd.qualname ++ ".<locals>.") ++ "<lambda>" = _;rw[hq];decide +kernel
 have hkf:env.scope.kind=.function:=by rw[hscope];exact X.kind
 have hko:∀y,env.kindOf y=List.lookup y Fv:=fun y=>by show env.scope.names.lookup y=_;rw[hscope,hnames]
 have hk1:env.kindOf "octets" = some .local:=hko _
 have hk2:env.kindOf "stream" = some .cell:=hko _
 have hk3:env.kindOf "_Example" = some .globalImplicit:=hko _
 have hcl:env.cells.lookup ("stream" : Str)=some (s.heap.objs.size+1):=by rw[hcells];rfl
 obtain⟨h₁,tk₁,hs₁⟩:=ic.toInCall.same
 subst hs₁
 have hkeep₁:∀b o,s.heap.get? b=some o→h₁.get? b=some o:=ic.toInCall.keep
 have hns₁:=ic.toInCall.ns
 have hcell₁:=ic.cell _ _ hcl
 have hm1:bindL env.kindOf [(("octets" : Str),Value.bytes b tv)] (fun _=>none) "octets" = some (.bytes b tv):=by simp[bindL,hk1]
 have hm2:bindC env.kindOf [(("octets" : Str),Value.bytes b tv)] (fun _=>none) "stream" = none:=by simp[bindC,hk1]
 rw[hm2]at hcell₁
 simp only at hns₁ hcell₁
 generalize hLe:s.heap.objs.size=L at *
 have hLn:∀d,L≤d→s.heap.get? d=none:=fun d hd=>CJ (hLe▸hd)
 have I₁:AL B ω σ {s with heap:=h₁,toks:=tk₁}:=I.keep hkeep₁
 have R₁:=R.depth

 refine wpAny_execs_cons (wpAny_Assign_Name (wpAny_Call_ofName (Name_function_global hkf hk3 (loadGlobal_global (mg:=B.mg) (by rw[hglob];exact I₁.gns) hC ?_))) rfl)
 have KX:=W.inn I₁.old
 show wpAny _ _ (callWith pd (.ref B.C) [] [(false,eval (.Name "octets" pc) env)] []) _ _ _
 refine Ii rfl (evalArgs_plain (spliced_cons ?_))
 refine wpAny_Name (wpAny_loadName_local hkf hk1 hns₁ hm1 ?_)
 refine spliced_nil ⟨makes_of KX W.mkk,?_⟩
 have hLh:L+1<h₁.objs.size:=by obtain⟨oc,q1,_⟩:=hcell₁;exact Heap.lt_size q1
 refine wpAny_call (make_core (makes_of KX W.mkk) (looks_findIn KX W.ini) (fun self=>bind_fn KX self W.fn) (.inl rfl) ?_)
 generalize hd:h₁.objs.size=d at *
 have hk12:∀b o,h₁.get? b=some o→((h₁.push emptyDict).push (instObj B.C d)).get? b=some o:=fun b o e=>Heap.get?_push_of_some _ (Heap.get?_push_of_some _ e)
 have hH2d:((h₁.push emptyDict).push (instObj B.C d)).get? d=some emptyDict:=Heap.get?_push_of_some _ (by rw[←hd];exact Heap.get?_push_size _ rfl)
 have hH2x:((h₁.push emptyDict).push (instObj B.C d)).get? (d+1)=some (instObj B.C d):=by
  have:(h₁.push emptyDict).objs.size=d+1:=by rw[Heap.size_push,hd]
  rw[←this];exact Heap.get?_push_size _ rfl
 generalize hH2:(h₁.push emptyDict).push (instObj B.C d)=H2 at *
 have I₂:AL B ω σ ⟨H2,s.gens,s.drawn,tk₁,s.os⟩:=I₁.keep (tk:=tk₁) hk12

 have hsz2:H2.objs.size=d+2:=by rw[←hH2,Heap.size_push,Heap.size_push,hd]
 refine codeAny_call_cells (s:=⟨H2,s.gens,s.drawn,tk₁,s.os⟩) ?room (I₂.base hoI hocI) hodI I₂.lim (XI.cd _ fun b o e h=>I₂.base e h) hbodyI (hbindI _ _) XI.clo (fun y hy=>?_) (fun s₃ ic₃=>?_) XI.co XI.gen XI.kind
 case room=>
  have:=R.depth
  simp only[depth_under_make,recursionLimit]
  show A.depth+1+1<1000
  lia
 ·rw[hnamesI]
  simp only[List.mem_cons,List.not_mem_nil,or_false]at hy
  rcases hy with rfl|rfl
  ·exact .inl rfl
  ·exact .inl rfl
 refine CZ fun Q₂ E₂ hQ₂ _=>?_
 generalize henv3:callEnvC fdI (Shared.heap ⟨H2,s.gens,s.drawn,tk₁,s.os⟩).objs.size fI=env3 at ic₃ ⊢
 have hscope3:env3.scope=fdI.scope:=by rw[←henv3];rfl
 have hkf3:env3.scope.kind=.function:=by rw[hscope3];exact XI.kind
 have hko3:∀y,env3.kindOf y=List.lookup y GJ:=fun y=>by show env3.scope.names.lookup y=_;rw[hscope3,hnamesI]
 have hk31:env3.kindOf "self" = some .local:=hko3 _
 have hk32:env3.kindOf "value" = some .local:=hko3 _
 obtain⟨h₃,tk₃,hs₃⟩:=ic₃.toInCall.same
 subst hs₃
 have hkeep₃:∀b o,H2.get? b=some o→h₃.get? b=some o:=ic₃.toInCall.keep
 have hns₃:=ic₃.toInCall.ns
 simp only at hns₃
 have hm31:bindL env3.kindOf [(("self" : Str),Value.ref (d+1)),(("value" : Str),Value.bytes b tv)] (fun _=>none) "self" = some (.ref (d+1)):=by
  simp only[bindL,hk31,hk32,if_true]
  rw[if_neg (by decide)]
 have hm32:bindL env3.kindOf [(("self" : Str),Value.ref (d+1)),(("value" : Str),Value.bytes b tv)] (fun _=>none) "value" = some (.bytes b tv):=by
  simp only[bindL,hk31,hk32,if_true]
 refine wpAny_execs_cons (plainObj_wpAny_Assign_Attribute (wpAny_Name (wpAny_loadName_local hkf3 hk32 hns₃ hm32 ?_)) rfl)
 refine wpAny_Name (wpAny_loadName_local hkf3 hk31 hns₃ hm31 ?_)
 have I₃:AL B ω σ ⟨h₃,s.gens,s.drawn,tk₃,s.os⟩:=I₂.keep (tk:=tk₃) hkeep₃
 refine KG (es:=[]) (n:=0) W I₃.old (hkeep₃ _ _ hH2x) (hkeep₃ _ _ hH2d) W.tv rfl (by simp) fun h₄ tk₄ hs₄ hd₄=>?_
 obtain⟨hsh,th,hd₄⟩:=hd₄
 have hd₄':h₄.get? d=some (dictOf [⟨hsh,.str "value" th,.bytes b tv⟩] 1):=hd₄
 refine wpAny_execs_nil ?_
 refine hQ₂ _ _ ⟨rfl,?_⟩
 have kcell:∀{h h':Heap} {w},h.IsCell (L+1) w→(∀o,h.get? (L+1)=some o→¬EL o→h'.get? (L+1)=some o)→h'.IsCell (L+1) w:=fun hc k=>EY hc fun o e ht=>.same (k o e ht)
 have hcell₄:h₄.IsCell (L+1) none:=kcell hcell₁ fun o e _=>hs₄ _ _ (Nat.ne_of_lt hLh) (hkeep₃ _ _ (hk12 _ _ e))
 refine wpAny_storeName_cell hkf hk2 hcl hcell₄ fun h₅ hc₅ hs₅=>?_
 have hdc:d≠L+1:=Nat.ne_of_gt hLh
 have hxc:d+1≠L+1:=Nat.ne_of_gt (Nat.lt_succ_of_lt hLh)
 have hxd:d+1≠d:=Nat.succ_ne_self d
 have hdn:s.heap.get? d=none:=hLn _ (Nat.le_of_lt (Nat.lt_of_succ_lt hLh))
 have hxn:s.heap.get? (d+1)=none:=hLn _ (Nat.le_succ_of_le (Nat.le_of_lt (Nat.lt_of_succ_lt hLh)))
 have hcn:s.heap.get? (L+1)=none:=hLn _ (Nat.le_succ _)
 have k15:∀b o,s.heap.get? b=some o→h₅.get? b=some o:=fun b o e=>
  hs₅.extBut b o (Dq e hcn) (hs₄ b o (Dq e hdn) (hkeep₃ _ _ (hk12 _ _ (hkeep₁ b o e))))
 have hd₅:h₅.get? d=some (dictOf [⟨hsh,.str "value" th,.bytes b tv⟩] 1):=hs₅.extBut _ _ hdc hd₄'
 have hx₅:h₅.get? (d+1)=some (instObj B.C d):=hs₅.extBut _ _ hxc (hs₄ _ _ hxd (hkeep₃ _ _ hH2x))
 have I₅:AL B ω σ {s with heap:=h₅,toks:=tk₄}:=I.keep (tk:=tk₄) k15
 have hclos:closureFor BC env=pure [(("stream" : Str),L+1)]:=by
  rw[Dp (env:=env) (scope:=BC) fun y hy=>?_]
  ·show pure ([(("stream" : Str),(env.cells.lookup ("stream" : Str)).getD 0)])=_
   rw[hcl];rfl
  ·simp only[BC,List.mem_cons,Prod.mk.injEq,List.not_mem_nil,or_false]at hy
   rcases hy with⟨_,q⟩|⟨rfl,_⟩|⟨_,q⟩
   ·cases q
   ·exact⟨_,hcl⟩
   ·cases q
 refine wpAny_execs_cons (plainObj_wpAny_Assign_Attribute (TS (c:=⟨B,A.deeper env,env,[],⟨[],[],[]⟩⟩) (s:={s with heap:=h₅,toks:=tk₄}) T hcode hqual rfl hclos hglob I₅ fun f c' ok vs t ctv h₆ tk₆ G₆ I₆ hfn kp fz fzc hdv hvv=>?_) rfl)
 have hd₆:=kp _ _ hd₅ (by simp[EL])
 have hx₆:=kp _ _ hx₅ (by simp[EL])
 have hc₆:h₆.IsCell (L+1) (some (.ref (d+1))):=kcell hc₅ fun o e ht=>kp _ _ e ht
 refine wpAny_Name (wpAny_loadName_cell hkf hk2 hcl hc₆ ?_)
 refine KG (s:={s with heap:=h₆,toks:=tk₆}) W I₆.old hx₆ hd₆ W.tr rfl (by simp) fun h₇ tk₇ hs₇ hd₇=>?_
 obtain⟨hsh2,th2,hd₇⟩:=hd₇
 have hd₇':h₇.get? d=some (dictOf [⟨hsh,.str "value" th,.bytes b tv⟩,⟨hsh2,.str "read" th2,.ref f⟩] 2):=hd₇
 have hc₇:h₇.IsCell (L+1) (some (.ref (d+1))):=kcell hc₆ fun o e ht=>hs₇ _ _ hdc.symm e
 have hx₇:h₇.get? (d+1)=some (instObj B.C d):=hs₇ _ _ hxd hx₆
 refine wpAny_execs_cons (wpAny_Return_some (wpAny_Name (wpAny_loadName_cell hkf hk2 hcl hc₇ ?_)))
 have mun:∀{a:Addr},s.heap.get? a=none→a∉ω.mu∧a∉ω.ex:=fun {a} hn=>⟨fun q=>(by have:=I.live q;rw[hn]at this;cases this),fun q=>(by have:=I.exl _ q;rw[hn]at this;cases this)⟩
 have hDic:EA (dictOf [⟨hsh,.str "value" th,.bytes b tv⟩] 1):=⟨_,_,rfl⟩
 have hDic2:EA (dictOf [⟨hsh,.str "value" th,.bytes b tv⟩,⟨hsh2,.str "read" th2,.ref f⟩] 2):=⟨_,_,rfl⟩
 have I₇:AL B ω σ {s with heap:=h₇,toks:=tk₇}:=AL.dicstep (s:={s with heap:=h₆,toks:=tk₆}) (tk:=tk₇) I₆ hd₆ hDic (mun hdn).1 (mun hdn).2 (I.fresh hdn) hs₇

 have fzx:∀{a:Addr} {o:Obj},Fz ω h₆ a o→Fz ⟨ω.mu++[d],ω.ex⟩ h₇ a o:=fun {a o} z=>by
  have hne:a≠d:=fun q=>z.2.2.2.1 (by have:=z.2.2.1;rw[q,hd₆]at this;cases this;exact hDic)
  exact⟨fun q=>(List.mem_append.mp q).elim z.1 (fun q=>hne (List.mem_singleton.mp q)),z.2.1,hs₇ _ _ hne z.2.2.1,z.2.2.2⟩
 have fzn:∀{a:Addr} {o:Obj},s.heap.get? a=none→a≠d→h₇.get? a=some o→¬EA o∧¬EL o→Fz ⟨ω.mu++[d],ω.ex⟩ h₇ a o:=fun {a o} hn hne e nd=>
  ⟨fun q=>(List.mem_append.mp q).elim (mun hn).1 (fun q=>hne (List.mem_singleton.mp q)),(mun hn).2,e,nd⟩
 obtain⟨occ,hocc,hoccd⟩:=hc₇
 have hcellf:¬EA occ∧¬EL occ:=by constructor<;>simp[EA,EL,hoccd]
 have I₈:=AL.adopt (s:={s with heap:=h₇,toks:=tk₇}) (o:=.sdict b) I₇ hd₇' hDic2 (mun hdn).1 (mun hdn).2 (I.fresh hdn) (by
  show B.Z.P _ h₇ b d
  rw[hZ]
  exact .mk hd₇' (fzx fz) (fzn hcn hdc.symm hocc hcellf) hoccd (fzn hxn hxd hx₇ (MK _ _)) (fzx fzc) hdv hvv)
 refine hQ₁ _ _ (k (.ref (d+1)) ⟨ω.mu++[d],ω.ex⟩ _ ?_ I₈ (.strm_in (fzn hxn hxd hx₇ (MK _ _)) I₁.at_new))
 refine⟨⟨[d],rfl,fun b hb=>by rw[List.mem_singleton.mp hb];exact hdn⟩,rfl,fun b ob eb ht _ _=>.same ?_,fun b ob eb=>?_⟩
 ·exact hs₇ _ _ (Dq eb hdn) (kp _ _ (k15 _ _ eb) ht)
 ·obtain⟨o',e'⟩:=G₆.there b ob (k15 _ _ eb)
  exact⟨o',hs₇ _ _ (Dq eb hdn) e'⟩
theorem VF{B:AV}{g:ML}{lv:Nat}{a:Addr}{fd:FuncData}{body:List Stmt}{params:List Str}{Γ:Sc}(X:Lj B a fd)(hbody:fd.body=.stmts body)
  (hbind:∀vals:List Value,vals.length=params.length→bindArgs fd ⟨vals,[]⟩=pure (params.zip vals)) (hn:params.Nodup) (hB:xB Γ params fd.scope.names=true) (hle:params.length≤Γ.nt.length)
  (hs:∀c:Cx,gK B lv Γ fd.code (fd.qualname ++ ".<locals>.") c→Mx c body g):MP B (lv+1) (.ref a) (JW g params.length Γ.nt.length):=
 X.o.elim fun o q=>Ry q.1 q.2.1 q.2.2 hbody X.g X.bl X.clo X.cd hbind hn hB hle hs X.co X.gen X.kind
noncomputable def aF(es:Array DictEntry):Bool:=es.toList.all fun e=>match e.key with
 | .int k _=>e.hash==hashInt k
 | _=>false
structure Im(B:AV)(n:Str)(D:Addr)(o:Obj)(es:Array DictEntry)(ep:Nat):Prop where
 g:B.mg n=some (.ref D)
 ne:(D==sysModules)=false
 pl:B.h₀.get? D=some o
 cls:o.cls≠.none
 ex:o.ExactDict
 d:o.data=.dict es ep
 k:aF es=true
 a:findBy Value.isInt es 97=none
 b:findBy Value.isInt es 98=none
 dot:∃u,findBy Value.isInt es 46=some (.str ⟨#[92,46]⟩ u)
set_option tactic.hygienic true in
theorem Tb{B:AV}{ω:Wd}{σ:St}{s:Shared}{n:Str}{D:Addr}{o:Obj}{es:Array DictEntry}{ep:Nat}(I:AL B ω σ s)(M:Im B n D o es ep):s.heap.MapOf (intKind B.prog B.w) D (findBy Value.isInt es):=by
 refine⟨o,es,ep,I.base M.pl M.cls,M.ex,M.d,fun e he=>?_,fun _=>rfl⟩
 have:=List.all_eq_true.mp M.k e (Array.mem_toList_iff.mpr he)
 split at this
 ·rename_i k t hk
  refine⟨k,?_,by have h:=beq_iff_eq.mp this;exact h⟩
  rw[hk];show Value.isInt k (.int k t)=true;simp[Value.isInt]
 ·cases this
theorem Hf:typeOf (.builtin "str.translate")=pure (.type "method_descriptor"):=by show builtinType _=_;rw[builtinType_eq_fast];kernel_rfl
def qN:ML:=fun m σ=>bd (ZW m 0) fun p=>bd (kF p) fun q=>some (.ret q,m,σ)
def sG:Spec:=JW qN 1 1
noncomputable def Hk:List (Str×NameKind):=[("pattern",.local),("isinstance",.globalImplicit),("str",.globalImplicit),("_special_chars_map",.globalImplicit)]
def escΓ:Sc:=⟨Hk,["pattern"],[]⟩
section
variable{c:Cx}{ω:Wd}{σ:St}{s:Shared}{E:Value→Shared→Prop}
theorem Lk{ch:Nat}{D:Addr}{o:Obj}{es:Array DictEntry}{ep:Nat}{t:Tok}{Q:Value→Shared→Prop}(hh:c.A.handled=none)(I:AL c.B ω σ s)(M:Im c.B "_special_chars_map" D o es ep)(hlt:ch<128)(hfn:findBy Value.isInt es ch=none)(k:KE c ω s σ (.str ⟨#[ch]⟩) Q) :
  wpAny (model c.B.prog c.B.w) c.A (call (.builtin "str.translate") [.str ⟨#[ch]⟩ t,.ref D]) Q E s:=
 Tr.call_keep hlt hh M.ne (Tb I M) hfn fun h' e t₂ tk₂ hne=>k _ ω _ (.of_keep hne.keeps) (I.keep hne.keeps) .str_in
theorem FL{x:Str}{n:Nat}(h:(x.cps==#[n])=true):x=⟨#[n]⟩:=by
 cases x;exact congrArg Str.mk (beq_iff_eq.mp h)
theorem Ta{D:Addr}{o:Obj}{es:Array DictEntry}{ep:Nat}{t:Tok}{x:Str}{q:PV}{Q:Value→Shared→Prop}(hh:c.A.handled=none)(I:AL c.B ω σ s)(M:Im c.B "_special_chars_map" D o es ep)(h:kF (.str x)=some q)(k:KE c ω s σ q Q) :
  wpAny (model c.B.prog c.B.w) c.A (call (.builtin "str.translate") [.str x t,.ref D]) Q E s:=
 Ah (show ql _ _=_ from h) (fun h=>AJ h fun hc h=>(Bool.or_eq_true_iff.mp hc).elim (fun hx=>by rw[←so h,FL hx]at k;rw[FL hx];exact Lk hh I M (by decide) M.a k) fun hx=>by rw[←so h,FL hx]at k;rw[FL hx];exact Lk hh I M (by decide) M.b k)
  fun h=>AJ h fun hx h=>by
   rw[←so h]at k
   rw[FL hx]
   exact M.dot.elim fun u hu=>Tr.call_put (by decide) rfl (by decide) (Tb I M) hu fun t' tk=>k _ ω _ (.refl _ _ _) I.toks .str_in
end
theorem Ef{α:Type}{P:List α→Prop}{l:List α}{n:Nat}(h:l.length=n+1)(k:∀a t,t.length=n→P (a::t)):P l:=by
 cases l with
 | nil=>exact Nat.noConfusion h
 | cons a t=>exact k a t (Nat.succ.inj h)
theorem Nb{α:Type}{P:List α→Prop}{l:List α}(h:l.length=0)(k:P []):P l:=List.eq_nil_of_length_eq_zero h▸k
theorem Ga{fd:FuncData}{n:Str}(h:∀v,bindArgs fd ⟨[v],[]⟩=pure [(n,v)])(vals:List Value)(hv:vals.length=1):bindArgs fd ⟨vals,[]⟩=pure ([n].zip vals):=
 Ef (P:=fun vals=>bindArgs fd ⟨vals,[]⟩=pure ([n].zip vals)) hv fun v t ht=>Nb (P:=fun t=>bindArgs fd ⟨v::t,[]⟩=pure ([n].zip (v::t))) ht (h v)
theorem gN{B:AV}{lv:Nat}{a:Addr}{fd:FuncData}{os:List Stmt}{p1 p2 p3 p4 p5 p6 p7 p8 p9 p10:Pos}{D:Addr}{o:Obj}{es:Array DictEntry}{ep:Nat}(X:Lj B a fd)(hN:Eh B)(hM:Im B "_special_chars_map" D o es ep)
  (hbody:fd.body=.stmts [.If (.Call (.Name "isinstance" p1) [.Name "pattern" p2,.Name "str" p3] [] p4) [.Return (some (.Call (.Attribute (.Name "pattern" p5) "translate" p6) [.Name "_special_chars_map" p7] [] p8)) p9] os p10])
  (hl:(p6.endLine==p8.line)=true) (hnames:fd.scope.names=Hk) (hbind:∀v,bindArgs fd ⟨[v],[]⟩=pure [(("pattern" : Str),v)]):MP B (lv+1) (.ref a) sG:=by
 refine VF (g:=qN) (params:=["pattern"]) (Γ:=escΓ) X hbody (Ga hbind) (by decide) (by rw[hnames];decide +kernel) (by decide) fun c hc=>?_
 refine fun ω m σ s Q E r m' σ' F I he k kx=>AB he fun p hm he1=>AB he1 fun q h1 he2=>?_
 have R:=hc.R
 have GM:∀y:Str,GM escΓ y=true→Sh.GM c.Γ y=true:=fun y h=>by rw[hc.hΓ];exact h
 have hB:=hc.hB
 subst hB
 have ld:∀{s':Shared} {pos:Pos} {Q:Value→Shared→Prop},FR c ω s'.heap m→(∀v,VR c.B.C ω s'.heap p v→Q v s')→wpAny (model c.B.prog c.B.w) c.A (eval (.Name "pattern" pos) c.env) Q E s':=fun F' kk=>
  wpAny_Name (Gl F' (i:=0) (by rw[hc.hΓ];decide +kernel) (.inl (by rw[hc.hΓ];rfl)) (AB hm fun o e1 e2=>e1.trans (congrArg some e2)) (by decide +kernel) kk)
 refine AB h1 fun x hx _=>?_
 have hp:=Jd hx
 subst hp
 refine wpAny_execs_cons (wpAny_If ?_)
 refine wpAny_isTrue_value ?_ rfl
 refine wpAny_Call_ofName (Ep F I (GM _ (by decide +kernel)) (hN _ (by decide +kernel)) (by decide +kernel) Boot.«isinstance» ?_)
 show wpAny _ _ (callWith p4 (.builtin "isinstance") [] [(false,eval (.Name "pattern" p2) c.env),(false,eval (.Name "str" p3) c.env)] []) _ _ _
 refine callWith_builtin rfl (evalArgs_plain (spliced_cons (ld F fun v hv=>?_)))
 refine spliced_cons (Ep F I (GM _ (by decide +kernel)) (hN _ (by decide +kernel)) (by decide +kernel) Boot.«str» (spliced_nil ?_))
 refine hv.str_el (P:=fun v=>wpAny (model c.B.prog c.B.w) c.A (call (.builtin "isinstance") [v,.type "str"]) _ E s) fun t=>IsiPair.str_str (wpAny_truthy_bool ?_)
 rw[if_pos rfl]
 refine wpAny_execs_cons (wpAny_Return_some ?_)
 refine wpAny_Call_method_lateS rfl rfl hl (ld F fun v hv=>hv.str_el fun t'=>?_)
 refine⟨"str","str.translate",PySem.F.plainAttrs_str,PySem.F.slot_str_translate,Hf,typeIs_str _ _ _,(fun _ q=>nomatch q),?_⟩
 show wpAny _ _ (callWith p8 (.builtin "str.translate") [.str x t'] [(false,eval (.Name "_special_chars_map" p7) c.env)] []) _ _ _
 refine callWith_builtin rfl (evalArgs_plain (spliced_cons (Jp F I (GM _ (by decide +kernel)) hM.g (spliced_nil ?_))))
 exact Ta R.hh I hM h1 fun v ω' s' G I' xv=>EC (P:=fun r m' σ'=>KQ c r ω s.heap σ' m' Q→Q (.ret v) s') he2 (fun k=>k ω' s' G.own I' (F.gw G I'.apart) v xv) k
noncomputable def H4(Γ:Sc)(x:Str):Bool:=(Γ.names.lookup x==some .local||(Γ.names.lookup x==some .cell||Γ.names.lookup x==some .free))&&(!(x==("__classdict__" : Str))&&!(x==("__debug__" : Str)))
def Q9(Γ:Sc)(x:Str):Prop:=Γ.names.lookup x=some .local∨Γ.names.lookup x=some .cell∨Γ.names.lookup x=some .free
theorem Tq{Γ:Sc}{x:Str}{G:Prop}(h:H4 Γ x=true)(k:Q9 Γ x→(x==("__classdict__" : Str))=false→(x==("__debug__" : Str))=false→G):G:=
 CY h fun h1 h2 h3=>k ((Bool.or_eq_true_iff.mp h1).imp beq_iff_eq.mp fun h=>(Bool.or_eq_true_iff.mp h).imp beq_iff_eq.mp beq_iff_eq.mp) (Af h2) (Af h3)
def hd1(l:List Expr):Expr:=l.headD e0
noncomputable def NP{α:Type}(l:List α):Bool:=!l.isEmpty
noncomputable def QO{α:Type}(l:List α):Bool:=l.isEmpty
def Kc{α:Type}(l:List α):Bool:=NP l&&QO l.tail
def YL{α:Type}(l:List α):Bool:=NP l&&Kc l.tail
theorem CV{α:Type}{l:List α}(h:QO l=true):l=[]:=List.isEmpty_iff.mp h
theorem KH{l:List Expr}(h:NP l=true):l=hd1 l::l.tail:=match l,h with
 | _::_,_=>rfl
theorem DL{l:List Expr}(h:Kc l=true):l=[hd1 l]:=AF h fun h1 h2=>(KH h1).trans (congrArg _ (CV h2))
theorem Fh{l:List Expr}(h:YL l=true):l=[hd1 l,hd1 l.tail]:=AF h fun h1 h2=>(KH h1).trans (congrArg _ (DL h2))
def KJ(e:Expr):List Str:=cond (Au 0 e) [(kd e).x] ((kd e).l.map fun e=>(kd e).x)
def HU(e:Expr):Bool:=!Au 12 e
def IS(e:Expr):Bool:=!Au 18 e
theorem RT{e:Expr}(h:IS e=true)(env:Env)(x:Value):foldedSetIterable e env x=pure x:=by
 cases e<;>first|rfl | exact Bool.noConfusion (show false=true from h)
theorem MA{e:Expr}(h:HU e=true)(o i:Value):∃ops,subscripted e false o i=operate ops (getItem o i):=by
 cases e<;>first|exact⟨_,rfl⟩ | exact Bool.noConfusion (show false=true from h)
noncomputable def Qp(sc:Scope):Bool:=sc.names.all fun x=>!(x.2==.free)
noncomputable def SA(a:Arguments):Bool:=match a with
 | ⟨_,_,_,_,[],_,[]⟩=>true
 | _=>false
theorem PY{a:Arguments}(h:SA a=true)(env:Env):defaultsOf a env=([],[]):=match a,h with
 | ⟨_,_,_,_,[],_,[]⟩,_=>rfl
theorem OQ{env:Env}:∀{l:List (Str×NameKind)} {acc:List (Str×Addr)},l.all (fun x=>!(x.2==.free))=true→Dy env l acc=acc
 | [],_,_=>rfl
 | (n,k)::r,acc,h=>AF h fun h1 h2=>by
  unfold Dy
  rw[show(k==NameKind.free)=false from Af h1]
  exact OQ h2
theorem PL{sc:Scope}(h:Qp sc=true)(env:Env):closureFor sc env=pure []:=
 (Dp fun x hm=>absurd (List.all_eq_true.mp h _ hm) Bool.false_ne_true).trans (congrArg _ (OQ h))
noncomputable def HD:Str := "_twin_re_1"
noncomputable def Ru:Str := "_law_take"
def BA(c:Const)(e:Expr):Bool:=Au 1 e&&decide ((kd e).c=c)
def GY(e:Expr):Bool:=Au 9 e&&(Au 0 (kd e).a&&QO (kd e).kw)
def MN(e:Expr):Str:=(kd (kd e).a).x
def GZ(n:Str)(e:Expr):Bool:=Au 9 e&&(Au 10 (kd e).a&&(QO (kd e).kw&&(decide ((kd (kd e).a).x=n)&&(kd (kd e).a).p.endLine==(kd e).p.line)))
def IX(e:Expr):Expr:=(kd (kd e).a).a
section
variable{e:Expr}{P:Expr→Prop}
@[elab_as_elim] theorem Be{c:Const}(h:BA c e=true)(k:∀q p,P (.Constant c q p)):P e:=
 AF h fun h1 h2=>(show ∃q p,e=.Constant (kd e).c q p from AY h1).elim fun q h=>h.elim fun p h=>by rw[h,An h2];exact k q p
@[elab_as_elim] theorem FH(h:Au 0 e=true)(k:∀p,P (.Name (kd e).x p)):P e:=(show ∃p,e=.Name (kd e).x p from AY h).elim fun p h=>by rw[h];exact k p
@[elab_as_elim] theorem Dd(h:GY e=true)(k:∀p,P (.Call (.Name (MN e) p) (kd e).l [] (kd e).p)):P e:=
 CY h fun h1 h2 h3=>FH (P:=fun a=>e=.Call a (kd e).l (kd e).kw (kd e).p→P e) h2 (fun p he=>by rw[he,CV h3];exact k p) (AY h1)
@[elab_as_elim] theorem Gn{n:Str}(h:GZ n e=true)(k:∀ap p,(ap.endLine==p.line)=true→P (.Call (.Attribute (IX e) n ap) (kd e).l [] p)):P e:=
 Ei h fun h1 h2 h3 h4 h5=>by
  rw[show e=.Call (kd e).a (kd e).l (kd e).kw (kd e).p from AY h1,show(kd e).a=.Attribute (kd (kd e).a).a (kd (kd e).a).x (kd (kd e).a).p from AY h2,CV h3,An h4]
  exact k _ _ h5
theorem CH{f:Pos→Expr}(h:∃p,e=f p)(k:∀p,P (f p)):P e:=h.elim fun p h=>by rw[h];exact k p
@[elab_as_elim] theorem Qm{o:Operator}(h:Au 2 e=true)(h2:decide ((kd e).o=o)=true)(k:∀p,P (.BinOp (kd e).a o (kd e).b p)):P e:=CH (P:=P) (f:=fun p=>.BinOp (kd e).a o (kd e).b p) (show ∃p,e=.BinOp (kd e).a o (kd e).b p from An h2▸AY h) k
@[elab_as_elim] theorem aA{o:UnaryOp}(h:Au 3 e=true)(h2:decide ((kd e).u=o)=true)(k:∀p,P (.UnaryOp o (kd e).a p)):P e:=CH (P:=P) (f:=fun p=>.UnaryOp o (kd e).a p) (show ∃p,e=.UnaryOp o (kd e).a p from An h2▸AY h) k
@[elab_as_elim] theorem bM{o:CmpOp}(h:Au 4 e=true)(h2:decide ((kd e).cs=[o])=true)(h3:Kc (kd e).l=true)(k:∀p,P (.Compare (kd e).a [o] [hd1 (kd e).l] p)):P e:=
 CH (P:=P) (f:=fun p=>.Compare (kd e).a [o] [hd1 (kd e).l] p) (show ∃p,e=.Compare (kd e).a [o] [hd1 (kd e).l] p from DL h3▸An h2▸AY h) k
@[elab_as_elim] theorem lU{o:BoolOp}(h:Au 5 e=true)(h2:decide ((kd e).bo=o)=true)(k:∀p,P (.BoolOp o (kd e).l p)):P e:=CH (P:=P) (f:=fun p=>.BoolOp o (kd e).l p) (show ∃p,e=.BoolOp o (kd e).l p from An h2▸AY h) k
@[elab_as_elim] theorem dP(h:Au 6 e=true)(k:∀p,P (.IfExp (kd e).a (kd e).b (kd e).d p)):P e:=CH (P:=P) (f:=fun p=>.IfExp (kd e).a (kd e).b (kd e).d p) (show ∃p,e=.IfExp (kd e).a (kd e).b (kd e).d p from AY h) k
@[elab_as_elim] theorem tup_el{l:List Expr}(hl:(kd e).l=l)(h:Au 7 e=true)(k:∀q p,P (.Tuple l q p)):P e:=(show ∃q p,e=.Tuple (kd e).l q p from AY h).elim fun q h=>CH (P:=P) (f:=fun p=>.Tuple l q p) (show ∃p,e=.Tuple l q p from hl▸h) (k q)
@[elab_as_elim] theorem Nn(h:Au 8 e=true)(k:∀p,P (.List (kd e).l p)):P e:=CH (P:=P) (f:=fun p=>.List (kd e).l p) (show ∃p,e=.List (kd e).l p from AY h) k
@[elab_as_elim] theorem NA{n:Str}(h:Au 10 e=true)(h2:decide ((kd e).x=n)=true)(k:∀p,P (.Attribute (kd e).a n p)):P e:=by
 rw[show e=.Attribute (kd e).a (kd e).x (kd e).p from AY h,An h2];exact k _
@[elab_as_elim] theorem Fx(h:Au 11 e=true)(k:∀p,P (.Subscript (kd e).a (kd e).b p)):P e:=CH (P:=P) (f:=fun p=>.Subscript (kd e).a (kd e).b p) (show ∃p,e=.Subscript (kd e).a (kd e).b p from AY h) k
@[elab_as_elim] theorem gA(h:Au 12 e=true)(h2:(kd e).oc.isNone=true)(k:∀p,P (.Slice (kd e).oa (kd e).ob none p)):P e:=CH (P:=P) (f:=fun p=>.Slice (kd e).oa (kd e).ob none p) (show ∃p,e=.Slice (kd e).oa (kd e).ob none p from Option.isNone_iff_eq_none.mp h2▸AY h) k
theorem tR{l:List Expr}{Q:List Expr→Prop}(h2:NP l=true)(h3:NP l.tail=true)(k:Q (hd1 l::hd1 l.tail::l.tail.tail)):Q l:=match l,h2,h3,k with
 | _::_::_,_,_,k=>k
@[elab_as_elim] theorem Wy(h:Au 15 e=true)(h2:NP (kd e).l=true)(h3:NP (kd e).l.tail=true)(k:∀p,P (.JoinedStr (hd1 (kd e).l::hd1 (kd e).l.tail::(kd e).l.tail.tail) p)):P e:=
 CH (P:=P) (f:=fun p=>.JoinedStr (kd e).l p) (AY h) fun p=>tR (Q:=fun l=>P (.JoinedStr l p)) h2 h3 (k p)
@[elab_as_elim] theorem nF(h:Au 16 e=true)(h2:decide ((kd e).i=-1)=true)(h3:(kd e).ob.isNone=true)(k:∀p,P (.FormattedValue (kd e).a (-1) none p)):P e:=
 CH (P:=P) (f:=fun p=>.FormattedValue (kd e).a (-1) none p) (show ∃p,e=.FormattedValue (kd e).a (-1) none p from Option.isNone_iff_eq_none.mp h3▸An h2▸AY h) k
end
def gen(e:Expr):Comprehension:=(kd e).g.headD ⟨e0,e0,[],0⟩
def Ny(e:Expr):Bool:=Au 14 e&&(Kc (kd e).g&&decide ((gen e).is_async=0))
@[elab_as_elim] theorem Rb{e:Expr}{P:Expr→Prop}(h:Ny e=true)(k:∀p,P (.ListComp (kd e).a [⟨(gen e).target,(gen e).iter,(gen e).ifs,0⟩] (kd e).sc p)):P e:=
 CY h fun h1 h2 h3=>by
  have hg:(kd e).g=[⟨(gen e).target,(gen e).iter,(gen e).ifs,0⟩]:=by
   rw[←An h3]
   exact match hq:(kd e).g,h2 with
    | [⟨t,i,f,a⟩],_=>by
     have hx:gen e=⟨t,i,f,a⟩:=by unfold gen;rw[hq];rfl
     rw[hx]
    | _::_::_,h2=>Bool.noConfusion (show false=true from h2)
  exact CH (P:=P) (f:=fun p=>.ListComp (kd e).a [⟨(gen e).target,(gen e).iter,(gen e).ifs,0⟩] (kd e).sc p) (show ∃p,e=.ListComp (kd e).a [⟨(gen e).target,(gen e).iter,(gen e).ifs,0⟩] (kd e).sc p from hg▸AY h1) k
def rS(Γ:Sc)(e:Expr):Sc:=GP Γ (kd e).sc (KJ (gen e).target)
def xN(Γ:Sc)(ar:Nat)(e:Expr):Bool:=IS (gen e).iter&&(Kh Γ (kd e).sc (KJ (gen e).target)&&(decide ((KJ (gen e).target).length=ar)&&Ed (rS Γ e) (List.range' Γ.nt.length ar) (gen e).target))
def eo(o:Option Expr):Expr:=o.getD e0
theorem Zk{o:Option Expr}(h:o.isSome=true):o=some (eo o):=match o,h with
 | some _,_=>rfl
@[elab_as_elim] theorem We{e:Expr}{P:Expr→Prop}{o o':CmpOp}(h:Au 4 e=true)(h2:decide ((kd e).cs=[o,o'])=true)(h3:YL (kd e).l=true)(k:∀p,P (.Compare (kd e).a [o,o'] [hd1 (kd e).l,hd1 (kd e).l.tail] p)):P e:=
 CH (P:=P) (f:=fun p=>.Compare (kd e).a [o,o'] [hd1 (kd e).l,hd1 (kd e).l.tail] p) (show ∃p,e=.Compare (kd e).a [o,o'] [hd1 (kd e).l,hd1 (kd e).l.tail] p from Fh h3▸An h2▸AY h) k
def RU(e:Expr):Bool:=Au 22 e&&(Kc (kd e).g&&(decide ((gen e).is_async=0)&&QO (gen e).ifs))
theorem Vc{e:Expr}(h:RU e=true):e=.GeneratorExp (kd e).a [⟨(gen e).target,(gen e).iter,[],0⟩] (kd e).sc (kd e).p:=
 DQ h fun h1 h2 h3 h4=>by
  have hg:(kd e).g=[⟨(gen e).target,(gen e).iter,[],0⟩]:=by
   rw[←An h3,←CV h4]
   exact match hq:(kd e).g,h2 with
    | [⟨t,i,f,a⟩],_=>by
     have hx:gen e=⟨t,i,f,a⟩:=by unfold gen;rw[hq];rfl
     rw[hx]
    | _::_::_,h2=>Bool.noConfusion (show false=true from h2)
  have:=(show e=.GeneratorExp (kd e).a (kd e).g (kd e).sc (kd e).p from AY h1)
  rw[hg]at this
  exact this
def hG(e:Expr):Bool:=Au 1 e&&(match(kd e).c with | .str _=>true | _=>false)
theorem YV{e:Expr}(h:hG e=true):∃y k p,e=.Constant (.str y) k p:=AF h fun h1 h2=>(show ∃q p,e=.Constant (kd e).c q p from AY h1).elim fun q hh=>hh.elim fun p hh=>by
 cases hc:(kd e).c<;>rw[hc]at h2 hh<;>first|exact⟨_,q,p,hh⟩ | exact Bool.noConfusion h2
def YE(e:Expr):Bool:=GZ "replace" e&&(YL (kd e).l&&(BA (.str ⟨#[45]⟩) (hd1 (kd e).l)&&(hG (hd1 (kd e).l.tail)&&(GZ "replace" (IX e)&&(YL (kd (IX e)).l&&(BA (.str ⟨#[92]⟩) (hd1 (kd (IX e)).l)&&(hG (hd1 (kd (IX e)).l.tail)&&Au 0 (IX (IX e)))))))))
def PK(e:Expr):Str:=(kd (IX (IX e))).x
theorem XX{n:Str}{e:Expr}(h:GZ n e=true):∃ap p,e=.Call (.Attribute (IX e) n ap) (kd e).l [] p∧(ap.endLine==p.line)=true:=
 Ei h fun h1 h2 h3 h4 h5=>by
  refine⟨(kd (kd e).a).p,(kd e).p,?_,h5⟩
  have e1:=(show e=.Call (kd e).a (kd e).l (kd e).kw (kd e).p from AY h1)
  have e2:=(show(kd e).a=.Attribute (kd (kd e).a).a (kd (kd e).a).x (kd (kd e).a).p from AY h2)
  rw[CV h3,e2,An h4]at e1
  exact e1
theorem aX{e:Expr}(h:YE e=true):∃b1 b2 k1 k2 k3 k4 p1 p2 p3 p4 p5 q1 q2 q3 q4,e=SG (PK e) b1 b2 k1 k2 k3 k4 p1 p2 p3 p4 p5 q1 q2 q3 q4∧(p2.endLine==p3.line)=true∧(p4.endLine==p5.line)=true:=
 JZ h fun h1 h2 h3 h4 h5 h6 h7 h=>AF h fun h8 h9=>by
  obtain⟨p4,p5,e1,l1⟩:=XX h1
  obtain⟨p2,p3,e2,l2⟩:=XX h5
  obtain⟨b2,k4,q4,e3⟩:=YV h4
  obtain⟨b1,k2,q2,e4⟩:=YV h8
  obtain⟨p1,e5⟩:=(show ∃p,IX (IX e)=.Name (kd (IX (IX e))).x p from AY h9)
  obtain⟨k3,q3,e6⟩:=Be (P:=fun x=>∃k q,x=Expr.Constant (.str ⟨#[45]⟩) k q) h3 fun k q=>⟨k,q,rfl⟩
  obtain⟨k1,q1,e7⟩:=Be (P:=fun x=>∃k q,x=Expr.Constant (.str ⟨#[92]⟩) k q) h7 fun k q=>⟨k,q,rfl⟩
  have f1:=Fh h2
  have f2:=Fh h6
  rw[e3,e6]at f1
  rw[e4,e7]at f2
  rw[f2]at e2
  rw[f1]at e1
  refine⟨b1,b2,k1,k2,k3,k4,p1,p2,p3,p4,p5,q1,q2,q3,q4,?_,l2,l1⟩
  unfold SG PK
  rw[←e5,←e2,←e1]
noncomputable def rI(e:Expr):Pos:=e.pos
theorem UG{e:Expr}(h:Au 0 e=true):e=.Name (kd e).x (rI e):=(show ∃p,e=.Name (kd e).x p from AY h).elim fun p q=>by
 rw[q];rfl
theorem Mp{e:Expr}(h:IS e=true)(h2:Au 8 e=false)(env:Env)(x:Value):genFold e env x=pure x:=by
 cases e<;>first|rfl | exact Bool.noConfusion (show false=true from h) | exact Bool.noConfusion (show true=false from h2)
section
variable(T:Nat→Option Str)
mutual
noncomputable def mX:X→List (Pos×Str)→Sc→Expr→Bool
 | .none,_,_,e=>BA .none e
 | .bool b,_,_,e=>BA (.bool b) e
 | .int i,_,_,e=>BA (.int i) e
 | .str x,_,_,e=>BA (.str x) e
 | .byt l,_,_,e=>BA (.bytes l) e
 | .v i,_,Γ,e=>Au 0 e&&(Γ.vis i (kd e).x&&H4 Γ (kd e).x)
 | .bin op a b,L,Γ,e=>Au 2 e&&(decide ((kd e).o=op)&&(mX a L Γ (kd e).a&&mX b L Γ (kd e).b))
 | .neg a,L,Γ,e=>Au 3 e&&(decide ((kd e).u=.USub)&&mX a L Γ (kd e).a)
 | .no a,L,Γ,e=>Au 3 e&&(decide ((kd e).u=.Not)&&mX a L Γ (kd e).a)
 | .cmp op a b,L,Γ,e=>Au 4 e&&(decide ((kd e).cs=[op])&&(Kc (kd e).l&&(!behindInMarks op (hd1 (kd e).l)&&(mX a L Γ (kd e).a&&mX b L Γ (hd1 (kd e).l)))))
 | .bo op xs,L,Γ,e=>Au 5 e&&(decide ((kd e).bo=op)&&mL xs L Γ (kd e).l)
 | .ite t a b,L,Γ,e=>Au 6 e&&(mX t L Γ (kd e).a&&(mX a L Γ (kd e).b&&mX b L Γ (kd e).d))
 | .tup xs,L,Γ,e=>Au 7 e&&mL xs L Γ (kd e).l
 | .list xs,L,Γ,e=>Au 8 e&&mL xs L Γ (kd e).l
 | .mlist xs,L,Γ,e=>Au 8 e&&mL xs L Γ (kd e).l
 | .call f xs,L,Γ,e=>GY e&&(decide (T f=some (MN e))&&(GM Γ (MN e)&&mL xs L Γ (kd e).l))
 | .callv i a,L,Γ,e=>GY e&&(Γ.vis i (MN e)&&(H4 Γ (MN e)&&(Kc (kd e).l&&(!CE (hd1 (kd e).l)&&mX a L Γ (hd1 (kd e).l)))))
 | .bi f xs,L,Γ,e=>GY e&&(decide (MN e=Hi f)&&(GM Γ (MN e)&&mL xs L Γ (kd e).l))
 | .me k a xs,L,Γ,e=>GZ (Jw k) e&&(BV (IX e)&&(decide ((kd e).l.length<29)&&(mX a L Γ (IX e)&&mL xs L Γ (kd e).l)))
 | .idx a i,L,Γ,e=>Au 11 e&&(HU (kd e).b&&(mX a L Γ (kd e).a&&mX i L Γ (kd e).b))
 | .slc a lo hi,L,Γ,e=>Au 11 e&&(Au 12 (kd e).b&&((kd (kd e).b).oc.isNone&&(mX a L Γ (kd e).a&&(mO lo L Γ (kd (kd e).b).oa&&mO hi L Γ (kd (kd e).b).ob))))
 | .app a,L,Γ,e=>Au 10 e&&(decide ((kd e).x = "append")&&(BV (kd e).a&&mX a L Γ (kd e).a))
 | .val a,L,Γ,e=>Au 10 e&&(decide ((kd e).x = "value")&&(BV (kd e).a&&mX a L Γ (kd e).a))
 | .read f a n,L,Γ,e=>GZ "read" e&&(BV (IX e)&&(decide (T f=some Ru)&&(Kc (kd e).l&&(mX a L Γ (IX e)&&(!CE (hd1 (kd e).l)&&mX n L Γ (hd1 (kd e).l))))))
 | .comp ar elt it ifs,L,Γ,e=>Ny e&&(xN Γ ar e&&(mX it L Γ (gen e).iter&&(mX elt [] (rS Γ e) (kd e).a&&mL ifs [] (rS Γ e) (gen e).ifs)))
 | .fstr xs,L,Γ,e=>Au 15 e&&(NP (kd e).l&&(NP (kd e).l.tail&&mF xs L Γ (hd1 (kd e).l::hd1 (kd e).l.tail::(kd e).l.tail.tail)))
 | .sub a,L,Γ,e=>GZ "sub" e&&(Au 0 (IX e)&&(decide ((kd (IX e)).x=HD)&&(GM Γ (kd (IX e)).x&&(YL (kd e).l&&(Au 13 (hd1 (kd e).l)&&(decide (((kd (hd1 (kd e).l)).p,("<lambda>" : Str))∈L) &&
   (Qp (kd (hd1 (kd e).l)).sc&&(SA (kd (hd1 (kd e).l)).ar&&(!CE (hd1 (kd e).l.tail)&&mX a L Γ (hd1 (kd e).l.tail))))))))))
 | .star,_,Γ,e=>GY e&&(decide (MN e = "object")&&(GM Γ (MN e)&&QO (kd e).l))
 | .cmp2 o o' a b d,L,Γ,e=>Au 4 e&&(decide ((kd e).cs=[o,o'])&&(YL (kd e).l&&(!lastMarks [o,o'] [hd1 (kd e).l,hd1 (kd e).l.tail]&&(mX a L Γ (kd e).a&&(mX b L Γ (hd1 (kd e).l)&&mX d L Γ (hd1 (kd e).l.tail))))))
 | .stp a lo n,L,Γ,e=>Au 11 e&&(Au 12 (kd e).b&&((kd (kd e).b).oa.isSome&&((kd (kd e).b).ob.isNone&&((kd (kd e).b).oc.isSome&&(BA (.int n) (eo (kd (kd e).b).oc)&&(mX a L Γ (kd e).a&&mX lo L Γ (eo (kd (kd e).b).oa)))))))
 | .dsp ks xs k,L,Γ,e=>Au 11 e&&(Au 21 (kd e).a&&(Cd ks (kd (kd e).a).ks&&(NP ks&&(HU (kd e).b&&(mL xs L Γ (kd (kd e).a).l&&mX k L Γ (kd e).b)))))
 | .mrep a n,L,Γ,e=>Au 2 e&&(decide ((kd e).o=.Mult)&&(Au 8 (kd e).a&&(Kc (kd (kd e).a).l&&(BA (.int n) (kd e).b&&(!CE (hd1 (kd (kd e).a).l)&&mX a L Γ (hd1 (kd (kd e).a).l))))))
 | .jog sep it,L,Γ,e=>GZ "join" e&&(BA (.str sep) (IX e)&&(Kc (kd e).l&&(RU (hd1 (kd e).l)&&(YE (kd (hd1 (kd e).l)).a&&(TW (kd (hd1 (kd e).l)).sc (PK (kd (hd1 (kd e).l)).a)&&(Au 0 (gen (hd1 (kd e).l)).target&&(decide ((kd (gen (hd1 (kd e).l)).target).x=PK (kd (hd1 (kd e).l)).a) &&
   (IS (gen (hd1 (kd e).l)).iter&&(!Au 8 (gen (hd1 (kd e).l)).iter&&(decide (((kd (hd1 (kd e).l)).p,("<genexpr>" : Str))∈L)&&mX it L Γ (gen (hd1 (kd e).l)).iter))))))))))
 | .bad,_,_,_=>true
 | .trs _,_,_,_=>false
noncomputable def mL:XL→List (Pos×Str)→Sc→List Expr→Bool
 | .nil,_,_,es=>QO es
 | .cons x r,L,Γ,es=>NP es&&((!CE (hd1 es)&&mX x L Γ (hd1 es))&&mL r L Γ es.tail)
noncomputable def mO:XO→List (Pos×Str)→Sc→Option Expr→Bool
 | .no,_,_,e=>e.isNone
 | .yes x,L,Γ,e=>e.elim false fun e=>mX x L Γ e
noncomputable def mF:XL→List (Pos×Str)→Sc→List Expr→Bool
 | .nil,_,_,es=>QO es
 | .cons x r,L,Γ,es=>NP es&&(((Au 1 (hd1 es)&&mX x L Γ (hd1 es))||(Au 16 (hd1 es)&&(decide ((kd (hd1 es)).i=-1)&&((kd (hd1 es)).ob.isNone&&mX x L Γ (kd (hd1 es)).a))))&&mF r L Γ es.tail)
end
end
structure Ft(lv:Nat)(T:Nat→Option Str)(Φ:Nat→Option Spec)(L:List (Pos×Str))(c:Cx):Prop where
 R:Rm (lv+1) c.A
 K:Dt c.B lv T Φ
 N:Eh c.B
 P:Nk c.B HD
 lam:∀p n,(p,n)∈L→∃cc P qual,Dv c.B cc P p qual∧c.env.code=.ref cc∧c.env.qual++n=qual
 str:∃K fI q,Ib c.B K fI∧c.B.Z=Tv c.B.C q
section
variable{lv:Nat}{T:Nat→Option Str}{Φ:Nat→Option Spec}
theorem jL{c:Cx}{t a b:X}{te l r:Expr}{pos:Pos}(ht:Iw c Φ te t)(ha:Iw c Φ l a)(hb:Iw c Φ r b):Iw c Φ (.IfExp te l r pos) (.ite t a b):=
 .of fun ω m σ s Q E p bb σ' F I e1 e2 k=>AH e1 fun p₁ σ₁ e₁ e=>AB e fun t e₃ e=>by
  show wpAny _ _ (do if ←isTrue te c.env (eval te c.env) then isTrue l c.env (eval l c.env) else isTrue r c.env (eval r c.env)) _ _ _
  refine wpAny_bind (ht.run F I e₁ e₃ fun ω₁ s₁ G₁ I₁=>?_)
  cases t with
  | true=>rw[if_pos rfl];exact ha.run (F.gw G₁ I₁.apart) I₁ (ct e) e2 fun ω₂ s₂ G₂ I₂=>k ω₂ s₂ (G₁.trans G₂) I₂
  | false=>rw[if_neg Bool.false_ne_true];exact hb.run (F.gw G₁ I₁.apart) I₁ (cf e) e2 fun ω₂ s₂ G₂ I₂=>k ω₂ s₂ (G₁.trans G₂) I₂
theorem Ft.inner{L:List (Pos×Str)}{c c':Cx}(h:Ft lv T Φ L c)(hB:c'.B=c.B)(hA:c'.A=c.A):Ft lv T Φ [] c':=
 ⟨hA▸h.R,hB▸h.K,hB▸h.N,hB▸h.P,fun _ _ q=>(nomatch q),hB▸h.str⟩
theorem Ft.R0{L:List (Pos×Str)}{c:Cx}(h:Ft lv T Φ L c):Rm lv c.A:=h.R.less (Nat.le_succ _)
structure KD(c:Cx)(Φ:Nat→Option Spec)(x:X)(e:Expr):Prop where
 se:SE c e (ev Φ x)
 st:Iw c Φ e x
theorem Bu{c:Cx}{e:Expr}{x:X}(h:SE c e (ev Φ x))(he:∀whole,isTrue e c.env whole=(do let v ←whole;standAt e.pos;holding [v] (truthy v))):KD c Φ x e:=⟨h,PU h he⟩
theorem Nq{c:Cx}{ar:Nat}{elt it:X}{ifs:XL}{L:List (Pos×Str)}{e:Expr}(H:Ft lv T Φ L c)(h0:xN c.Γ ar e=true)(h1:KD c Φ it (gen e).iter)(h2:∀c':Cx,Ft lv T Φ [] c'→c'.Γ=rS c.Γ e→KD c' Φ elt (kd e).a)(h3:∀c':Cx,Ft lv T Φ [] c'→c'.Γ=rS c.Γ e→A2 c' Φ ifs (gen e).ifs) :
  Jh c Φ ar elt it ifs (kd e).a (gen e).target (gen e).iter (gen e).ifs (kd e).sc (KJ (gen e).target):=CY h0 fun g1 g2 h0=>AF h0 fun g3 g4=>
  ⟨H.R.hh,h1.se,RT g1 _,g2,An g3,g4,fun c' e1 e2 e3=>(h2 c' (H.inner e1 e2) e3).se,fun c' e1 e2 e3=>h3 c' (H.inner e1 e2) e3⟩
mutual
theorem AU:∀(x:X) (L:List (Pos×Str)) (e:Expr) (c:Cx),Ft lv T Φ L c→mX T x L c.Γ e=true→KD c Φ x e
 | .none=>fun L e c H h=>Be (show BA .none e=true from h) fun _ _=>Bu UK fun _=>rfl
 | .bool b=>fun L e c H h=>Be (show BA (.bool b) e=true from h) fun _ _=>Bu UQ fun _=>rfl
 | .int b=>fun L e c H h=>Be (show BA (.int b) e=true from h) fun _ _=>Bu fB fun _=>rfl
 | .str b=>fun L e c H h=>Be (show BA (.str b) e=true from h) fun _ _=>Bu fG fun _=>rfl
 | .byt b=>fun L e c H h=>Be (show BA (.bytes b) e=true from h) fun _ _=>Bu fO fun _=>rfl
 | .v i=>fun L e c H h=>CY (a:=Au 0 e) h fun h0 h1 h2=>Tq h2 fun h3 h4 h5=>FH h0 fun _=>Bu (G6 h1 h3 h4 h5) fun _=>rfl
 | .bin op a b=>fun L e c H h=>DQ (a:=Au 2 e) h fun h0 h1 h2 h3=>Qm h0 h1 fun _=>Bu (gE (AU a L _ c H h2).se (AU b L _ c H h3).se) fun _=>rfl
 | .neg a=>fun L e c H h=>CY (a:=Au 3 e) h fun h0 h1 h2=>aA h0 h1 fun _=>Bu (bG (AU a L _ c H h2).se) fun _=>rfl
 | .no a=>fun L e c H h=>CY (a:=Au 3 e) h fun h0 h1 h2=>aA h0 h1 fun _=>have x:=AU a L _ c H h2;⟨mD x.se,yU x.st⟩
 | .cmp op a b=>fun L e c H h=>KZ (a:=Au 4 e) h fun h0 h1 h2 h3 h4 h5=>bM h0 h1 h2 fun _=>
  have x:=AU a L _ c H h4;have y:=AU b L _ c H h5;⟨bR H.R x.se y.se (Af h3),gD H.R x.se y.se (Af h3)⟩
 | .bo op xs=>fun L e c H h=>CY (a:=Au 5 e) h fun h0 h1 h2=>lU h0 h1 fun _=>have x:=mL_ok xs L _ c H h2;⟨mP x,vD x⟩
 | .ite t a b=>fun L e c H h=>DQ (a:=Au 6 e) h fun h0 h1 h2 h3=>dP h0 fun _=>
  have x:=AU t L _ c H h1;have y:=AU a L _ c H h2;have z:=AU b L _ c H h3;⟨cV x.st y.se z.se,jL x.st y.st z.st⟩
 | .tup xs=>fun L e c H h=>AF (a:=Au 7 e) h fun h0 h=>tup_el rfl h0 fun _ _=>Bu (eY (mL_ok xs L _ c H h).ses) fun _=>rfl
 | .list xs=>fun L e c H h=>AF (a:=Au 8 e) h fun h0 h=>Nn h0 fun _=>Bu (VC (mL_ok xs L _ c H h).ses) fun _=>rfl
 | .mlist xs=>fun L e c H h=>AF (a:=Au 8 e) h fun h0 h=>Nn h0 fun _=>Bu (TU (mL_ok xs L _ c H h).ses) fun _=>rfl
 | .call f xs=>fun L e c H h=>DQ (a:=GY e) h fun h0 h1 h2 h3=>Dd h0 fun _=>Bu (Uj H.R0 H.K (An h1) h2 (mL_ok xs L _ c H h3)) fun _=>rfl
 | .callv i a=>fun L e c H h=>KZ (a:=GY e) h fun h0 h1 h2 h3 h4 h5=>Tq h2 fun g1 g2 g3=>Dd h0 fun _=>by
  have x:=AU a L _ c H h5
  rw[DL h3]
  exact Bu (QY h1 g1 g2 g3 ⟨x.se,x.st,EW (Af h4)⟩) fun _=>rfl
 | .bi f xs=>fun L e c H h=>DQ (a:=GY e) h fun h0 h1 h2 h3=>Dd h0 fun _=>Bu (rQ H.R0 H.N (An h1) h2 (mL_ok xs L _ c H h3)) fun _=>rfl
 | .me k a xs=>fun L e c H h=>Ei (a:=GZ (Jw k) e) h fun h0 h1 h2 h3 h4=>Gn h0 fun _ _ hl=>Bu (uA (AU a L _ c H h3).se rfl h1 hl (An h2) (mL_ok xs L _ c H h4)) fun _=>rfl
 | .idx a i=>fun L e c H h=>DQ (a:=Au 11 e) h fun h0 h1 h2 h3=>Fx h0 fun _=>Bu (kI (AU a L _ c H h2).se (AU i L _ c H h3).se (MA h1)) fun _=>rfl
 | .slc a lo hi=>fun L e c H h=>KZ (a:=Au 11 e) h fun h0 h1 h2 h3 h4 h5=>Fx h0 fun p=>
  gA (P:=fun q=>KD c Φ (.slc a lo hi) (.Subscript (kd e).a q p)) h1 h2 fun _=>Bu (iB (AU a L _ c H h3).se (mO_ok lo L _ c H h4) (mO_ok hi L _ c H h5)) fun _=>rfl
 | .app a=>fun L e c H h=>DQ (a:=Au 10 e) h fun h0 h1 h2 h3=>NA h0 h1 fun _=>Bu (fZ (AU a L _ c H h3).se h2 rfl) fun _=>rfl
 | .val a=>fun L e c H h=>DQ (a:=Au 10 e) h fun h0 h1 h2 h3=>NA h0 h1 fun _=>H.str.elim fun K q=>q.elim fun fI q=>q.elim fun q W=>Bu (iC W.1 W.2 (AU a L _ c H h3).se h2 rfl) fun _=>rfl
 | .read f a n=>fun L e c H h=>Pg (a:=GZ "read" e) h fun h0 h1 h2 h3 h4 h5 h6=>Gn h0 fun _ _ hl=>H.str.elim fun K q=>q.elim fun fI q=>q.elim fun q W=>by
  rw[DL h3]
  exact Bu (UT W.1 W.2 H.R (fun sp hp=>H.K f _ sp (An h2) hp) (AU a L _ c H h4).se (AU n L _ c H h6).se h1 hl (EW (Af h5)) rfl) fun _=>rfl
 | .comp ar elt it ifs=>fun L e c H h=>Ei (a:=Ny e) h fun h0 h1 h2 h3 h4=>Rb h0 fun _=>
  Bu (HP (Nq H h1 (AU it L _ c H h2) (fun c' H' e3=>AU elt [] _ c' H' (e3▸h3)) fun c' H' e3=>mL_ok ifs [] _ c' H' (e3▸h4))) fun _=>rfl
 | .fstr xs=>fun L e c H h=>DQ (a:=Au 15 e) h fun h0 h1 h2 h3=>Wy h0 h1 h2 fun _=>Bu (WO (mF_ok xs L _ c H h3)) fun _=>rfl
 | .sub a=>fun L e c H h=>JZ (a:=GZ "sub" e) h fun h0 h1 h2 h3 h4 h5 h6 h=>CY h fun h7 h8 h=>AF h fun h9 h10=>
  Gn h0 fun ap p hl=>FH (P:=fun o=>KD c Φ (.sub a) (.Call (.Attribute o "sub" ap) (kd e).l [] p)) h1 fun _=>(show ∃b,hd1 (kd e).l=.Lambda (kd (hd1 (kd e).l)).ar b (kd (hd1 (kd e).l)).sc (kd (hd1 (kd e).l)).p from AY h5).elim fun b hf=>
  (H.lam _ _ (An h6)).elim fun cc q=>q.elim fun P q=>q.elim fun qual t=>by
   rw[Fh h4,hf]
   exact Bu (eG ((An h2).symm▸H.P) h3 hl t.1 t.2.1 t.2.2 (PL h7 _) (PY h8 _) (AU a L _ c H h10).se (EW (Af h9))) fun _=>rfl
 | .star=>fun L e c H h=>DQ (a:=GY e) h fun h0 h1 h2 h3=>Dd h0 fun _=>by
  rw[CV h3]
  exact Bu (VO H.N (An h1) h2) fun _=>rfl
 | .cmp2 o o' a b d=>fun L e c H h=>Pg (a:=Au 4 e) h fun h0 h1 h2 h3 h4 h5 h6=>We h0 h1 h2 fun _=>
  have x:=AU a L _ c H h4;have y:=AU b L _ c H h5;have z:=AU d L _ c H h6;⟨Uw H.R x.se y.se z.se (Af h3),Vq H.R x.se y.se z.se (Af h3)⟩
 | .stp a lo n=>fun L e c H h=>JZ (a:=Au 11 e) h fun h0 h1 h2 h3 h4 h5 h6 h7=>Fx h0 fun p=>by
  obtain⟨q,hq⟩:=(show ∃p,(kd e).b=.Slice (kd (kd e).b).oa (kd (kd e).b).ob (kd (kd e).b).oc p from AY h1)
  rw[hq,Zk h2,Zk h4,Option.isNone_iff_eq_none.mp h3]
  exact Be (P:=fun k=>KD c Φ (.stp a lo n) (.Subscript (kd e).a (.Slice (some (eo (kd (kd e).b).oa)) none (some k) q) p)) h5 fun _ _=>Bu (iN (AU a L _ c H h6).se (AU lo L _ c H h7).se) fun _=>rfl
 | .dsp ks xs k=>fun L e c H h=>Pg (a:=Au 11 e) h fun h0 h1 h2 h3 h4 h5 h6=>Fx h0 fun p=>by
  obtain⟨q,hq⟩:=(show ∃p,(kd e).a=.Dict (kd (kd e).a).ks (kd (kd e).a).l p from AY h1)
  rw[hq]
  exact Bu (gX (mL_ok xs L _ c H h5) h2 (fun q=>by rw[q]at h3;exact Bool.noConfusion (show false=true from h3)) (AU k L _ c H h6).se (MA h4)) fun _=>rfl
 | .mrep a n=>fun L e c H h=>Pg (a:=Au 2 e) h fun h0 h1 h2 h3 h4 h5 h6=>Qm h0 h1 fun p=>by
  obtain⟨q,hq⟩:=(show ∃p,(kd e).a=.List (kd (kd e).a).l p from AY h2)
  rw[hq,DL h3]
  exact Be (P:=fun k=>KD c Φ (.mrep a n) (.BinOp (.List [hd1 (kd (kd e).a).l] q) .Mult k p)) h4 fun _ _=>Bu (WJ (AU a L _ c H h6).se (EW (Af h5))) fun _=>rfl
 | .jog sep it=>fun L e c H h=>JZ (a:=GZ "join" e) h fun h0 h1 h2 h3 h4 h5 h6 h=>Ei h fun h7 h8 h9 h10 h11=>Gn h0 fun ap p hl=>by
  rw[DL h2]
  refine Be (P:=fun o=>KD c Φ (.jog sep it) (.Call (.Attribute o "join" ap) [hd1 (kd e).l] [] p)) h1 fun k cp=>?_
  rw[Vc h3,show(gen (hd1 (kd e).l)).target=.Name (PK (kd (hd1 (kd e).l)).a) (rI (gen (hd1 (kd e).l)).target) from(UG h6).trans (congrArg (Expr.Name · _) (An h7))]
  obtain⟨b1,b2,k1,k2,k3,k4,p1,p2,p3,p4,p5,q1,q2,q3,q4,he,g1,g2⟩:=aX h4
  obtain⟨cc,P,qual,t1,t2,t3⟩:=H.lam _ _ (An h10)
  generalize PK (kd (hd1 (kd e).l)).a=x at he h5 ⊢
  rw[he]
  exact Bu (fJ H.R t1 t2 t3 h5 (AU it L _ c H h11).se (Mp h8 (Af h9) _) g1 g2 hl) fun _=>rfl
 | .bad=>fun L e c H h=>⟨fun ω m σ s Q E p σ' F I e kk=>nn e,.of fun ω m σ s Q E p b σ' F I e1 e2 k=>nn e1⟩
 | .trs _=>fun L e c H h=>Bool.noConfusion (show false=true from h)
theorem mL_ok:∀(xs:XL) (L:List (Pos×Str)) (es:List Expr) (c:Cx),Ft lv T Φ L c→mL T xs L c.Γ es=true→A2 c Φ xs es
 | .nil=>fun L es c H h=>by rw[CV (l:=es) h];trivial
 | .cons x r=>fun L es c H h=>CY (a:=NP es) h fun h0 h h3=>AF h fun h1 h2=>by
  rw[KH h0]
  have y:=AU x L _ c H h2
  exact⟨⟨y.se,y.st,EW (Af h1)⟩,mL_ok r L _ c H h3⟩
theorem mO_ok:∀(x:XO) (L:List (Pos×Str)) (e:Option Expr) (c:Cx),Ft lv T Φ L c→mO T x L c.Γ e=true→sL c Φ e x
 | .no,L,none,c,H,h=>trivial
 | .yes x,L,some e,c,H,h=>(AU x L e c H h).se
 | .no,L,some e,c,H,h=>Bool.noConfusion (show false=true from h)
 | .yes x,L,none,c,H,h=>Bool.noConfusion (show false=true from h)
theorem mF_ok:∀(xs:XL) (L:List (Pos×Str)) (es:List Expr) (c:Cx),Ft lv T Φ L c→mF T xs L c.Γ es=true→FV c Φ xs es
 | .nil=>fun L es c H h=>by rw[CV (l:=es) h];trivial
 | .cons x r=>fun L es c H h=>CY (a:=NP es) h fun h0 h h3=>by
  rw[KH h0]
  exact⟨(Bool.or_eq_true_iff.mp h).elim (fun h=>AF h fun h1 h2=>.inl ⟨(show ∃q p,hd1 es=.Constant (kd (hd1 es)).c q p from AY h1).elim fun q h=>h.elim fun p h=>⟨_,q,p,h⟩,(AU x L _ c H h2).se⟩)
   fun h=>DQ h fun h1 h2 h4 h5=>.inr (nF (P:=fun e=>∃v p,e=.FormattedValue v (-1) none p∧SE c v (ev Φ x)) h1 h2 h4 fun p=>⟨_,p,rfl,(AU x L _ c H h5).se⟩),mF_ok r L _ c H h3⟩
end
end
structure SK where
 tag:Nat
 e:Expr:=e0
 f:Expr:=e0
 ts:List Expr:=[]
 b:List Stmt:=[]
 o:List Stmt:=[]
 w:List Stmt:=[]
 oe:Option Expr:=none
 oc:Option Expr:=none
 op:Operator:=.Add
 hs:List ExceptHandler:=[]
noncomputable def sd(st:Stmt):SK:=match st with
 | .Expr e _=>{tag:=0,e:=e}
 | .Assign ts e _=>{tag:=1,ts:=ts,e:=e}
 | .AugAssign t o e _=>{tag:=2,f:=t,op:=o,e:=e}
 | .If t b o _=>{tag:=3,e:=t,b:=b,o:=o}
 | .While t b o _=>{tag:=4,e:=t,b:=b,o:=o}
 | .For t i b o _=>{tag:=5,f:=t,e:=i,b:=b,o:=o}
 | .Return e _=>{tag:=6,oe:=e}
 | .Assert t _ _=>{tag:=7,e:=t}
 | .Raise e c _=>{tag:=8,oe:=e,oc:=c}
 | .Try b h o w _=>{tag:=9,b:=b,hs:=h,o:=o,w:=w}
 | .Break _=>{tag:=10}
 | .Continue _=>{tag:=11}
 | .Delete ts _=>{tag:=12,ts:=ts}
 | _=>{tag:=99}
noncomputable def RZ(st:Stmt)(k:SK):List Prop:=[
 ∃p,st=.Expr k.e p,
 ∃p,st=.Assign k.ts k.e p,
 ∃p,st=.AugAssign k.f k.op k.e p,
 ∃p,st=.If k.e k.b k.o p,
 ∃p,st=.While k.e k.b k.o p,
 ∃p,st=.For k.f k.e k.b k.o p,
 ∃p,st=.Return k.oe p,
 ∃p,∃m,st=.Assert k.e m p,
 ∃p,st=.Raise k.oe k.oc p,
 ∃p,st=.Try k.b k.hs k.o k.w p,
 ∃p,st=.Break p,
 ∃p,st=.Continue p,
 ∃p,st=.Delete k.ts p]
theorem wH(e:Stmt):(RZ e (sd e)).getD (sd e).tag True:=by
 cases e<;>first|exact trivial | exact⟨_,rfl⟩ | exact⟨_,_,rfl⟩
def Go(n:Nat)(e:Stmt):Bool:=(sd e).tag==n
theorem CF{n:Nat}{e:Stmt}(h:Go n e=true):(RZ e (sd e)).getD n True:=(beq_iff_eq.mp h:(sd e).tag=n)▸wH e
def oe(o:Option Expr):Expr:=o.getD e0
theorem Qb{o:Option Expr}(h:o.isSome=true):o=some (oe o):=match o,h with
 | some _,_=>rfl
def Nj(st:Stmt):Bool:=Go 1 st&&Kc (sd st).ts
def tg(st:Stmt):Expr:=hd1 (sd st).ts
section
variable{st:Stmt}{P:Stmt→Prop}
theorem CW{f:Pos→Stmt}(h:∃p,st=f p)(k:∀p,P (f p)):P st:=h.elim fun p h=>by rw[h];exact k p
@[elab_as_elim] theorem Es(h:Nj st=true)(k:∀p,P (.Assign [tg st] (sd st).e p)):P st:=
 AF h fun h1 h2=>CW (P:=P) (f:=fun p=>.Assign [tg st] (sd st).e p) (show ∃p,st=.Assign [hd1 (sd st).ts] (sd st).e p from DL h2▸CF h1) k
end
def Ym(t:Expr):Bool:=!((kd t).x==("__classdict__" : Str))
theorem tU{t:Expr}(h:Ym t=true):∀y p,t=.Name y p→(y==("__classdict__" : Str))=false:=fun y p he=>by
 rw[he]at h;exact Af h
noncomputable def XA(x:X):Option (Nat×X×X×XL):=match x with
 | .comp a b c d=>some (a,b,c,d)
 | _=>none
theorem Tf{x:X}{t:Nat×X×X×XL}(h:XA x=some t):x=.comp t.1 t.2.1 t.2.2.1 t.2.2.2:=by cases x<;>first|exact nn h | (rw[←so h])
def OD(x:X):Bool:=(XA x).isSome
structure HK where
 t:Option Expr
 n:Option Str
 b:List Stmt
noncomputable def hk(h:ExceptHandler):HK:=match h with
 | .ExceptHandler t n b _=>⟨t,n,b⟩
theorem qW(h:ExceptHandler):∃p,h=.ExceptHandler (hk h).t (hk h).n (hk h).b p:=by cases h;exact⟨_,rfl⟩
noncomputable def hs1(k:SK):ExceptHandler:=k.hs.headD (.ExceptHandler none none [] ⟨0,0,0,0⟩)
def Vd(h:ExceptHandler):Str:=(hk h).n.getD ""
def OO(h:ExceptHandler):Stmt:=(hk h).b.headD (.Pass ⟨0,0,0,0⟩)
theorem Yw{α:Type}{l:List α}{d:α}(h:Kc l=true):l=[l.headD d]:=match l,h with
 | [_],_=>rfl
 | _::_::_,h=>Bool.noConfusion (show false=true from h)
theorem bQ{α:Type}{o:Option α}{d:α}(h:o.isSome=true):o=some (o.getD d):=match o,h with
 | some _,_=>rfl
def mG(Γ:Sc)(w:Nat)(h:ExceptHandler):Bool:=(hk h).t.isSome&&(Au 0 (oe (hk h).t)&&(decide ((kd (oe (hk h).t)).x = "ValueError")&&(GM Γ (kd (oe (hk h).t)).x&&((hk h).n.isSome&&(Kc (hk h).b&&(Nj (OO h) &&
 (GY (sd (OO h)).e&&(decide (MN (sd (OO h)).e = "str")&&(GM Γ (MN (sd (OO h)).e)&&(Kc (kd (sd (OO h)).e).l&&(Au 0 (hd1 (kd (sd (OO h)).e).l)&&(decide ((kd (hd1 (kd (sd (OO h)).e).l)).x=Vd h)&&(Γ.names.lookup (Vd h)==some .local &&
 (!Γ.nt.contains (Vd h)&&(!(Vd h==("__debug__" : Str))&&Bm Γ w (tg (OO h)))))))))))))))))
section
variable(T:Nat→Option Str)(L:List (Pos×Str))(Γ:Sc)
mutual
noncomputable def mS:S→Stmt→Bool
 | .bad,_=>true
 | .ex x,st=>Go 0 st&&(CK (sd st).e&&mX T x L Γ (sd st).e)
 | .as i x,st=>Nj st&&(Bm Γ i (tg st)&&(mX T x L Γ (sd st).e&&(CK (sd st).e||OD x)))
 | .asT is x,st=>Nj st&&(Au 7 (tg st)&&(Au 9 (sd st).e&&(Ed Γ is (tg st)&&mX T x L Γ (sd st).e)))
 | .asW is xs,st=>Nj st&&(Au 7 (tg st)&&(Au 7 (sd st).e&&(YL (kd (tg st)).l&&(YL (kd (sd st).e).l&&(decide (is=[is.headD 0,is.tail.headD 0])&&(Bm Γ (is.headD 0) (hd1 (kd (tg st)).l)&&(Bm Γ (is.tail.headD 0) (hd1 (kd (tg st)).l.tail) &&
   (Xq Γ (hd1 (kd (tg st)).l) (hd1 (kd (tg st)).l.tail) (hd1 (kd (sd st).e).l) (hd1 (kd (sd st).e).l.tail)&&mL T xs L Γ [hd1 (kd (sd st).e).l,hd1 (kd (sd st).e).l.tail]))))))))
 | .asI a i x,st=>Nj st&&(Au 11 (tg st)&&(CK (sd st).e&&(mX T a L Γ (kd (tg st)).a&&(mX T i L Γ (kd (tg st)).b&&mX T x L Γ (sd st).e))))
 | .asV a x,st=>Nj st&&(Au 10 (tg st)&&(decide ((kd (tg st)).x = "value")&&(CK (sd st).e&&(mX T a L Γ (kd (tg st)).a&&mX T x L Γ (sd st).e))))
 | .aug i op x,st=>Go 2 st&&(decide ((sd st).op=op)&&(Bm Γ i (sd st).f&&(Ym (sd st).f&&mX T x L Γ (sd st).e)))
 | .iff t b o,st=>Go 3 st&&(mX T t L Γ (sd st).e&&(mSL b (sd st).b&&mSL o (sd st).o))
 | .wh t b,st=>Go 4 st&&(QO (sd st).o&&(mX T t L Γ (sd st).e&&mSL b (sd st).b))
 | .fo is it b,st=>Go 5 st&&(QO (sd st).o&&(Ed Γ is (sd st).f&&(IS (sd st).e&&(mX T it L Γ (sd st).e&&mSL b (sd st).b))))
 | .ret x,st=>Go 6 st&&((sd st).oe.isSome&&mX T x L Γ (oe (sd st).oe))
 | .asr t,st=>Go 7 st&&mX T t L Γ (sd st).e
 | .ra x,st=>Go 8 st&&((sd st).oe.isSome&&((sd st).oc.isNone&&(GY (oe (sd st).oe)&&(decide (MN (oe (sd st).oe) = "ValueError")&&(GM Γ (MN (oe (sd st).oe))&&(Kc (kd (oe (sd st).oe)).l&&(!CE (hd1 (kd (oe (sd st).oe)).l)&&mX T x L Γ (hd1 (kd (oe (sd st).oe)).l))))))))
 | .brk,st=>Go 10 st
 | .delI a i,st=>Go 12 st&&(Kc (sd st).ts&&(Au 11 (tg st)&&(mX T a L Γ (kd (tg st)).a&&mX T i L Γ (kd (tg st)).b)))
 | .cont,st=>Go 11 st
 | .callA i f xs,st=>Nj st&&(Bm Γ i (tg st)&&(GY (sd st).e&&(decide (T f=some (MN (sd st).e))&&(GM Γ (MN (sd st).e)&&mL T xs L Γ (kd (sd st).e).l))))
 | .tryR b w o,st=>Go 9 st&&(QO (sd st).w&&(Kc (sd st).hs&&(mG Γ w (hs1 (sd st))&&(mSL b (sd st).b&&mSL o (sd st).o))))
noncomputable def mSL:SL→List Stmt→Bool
 | .nil,sts=>QO sts
 | .cons s r,sts=>NP sts&&(mS s (sts.headD (.Pass ⟨0,0,0,0⟩))&&mSL r sts.tail)
end
end
structure rC(lv:Nat)(T:Nat→Option Str)(Φ:Nat→Option Spec)(L:List (Pos×Str))(c:Cx):Prop where
 ck:Ft lv T Φ L c
 fr:∃outer,c.A.frames=some (c.env::outer)
 fl:c.env.frame=some c.env.locals
section
variable{lv:Nat}{T:Nat→Option Str}{Φ:Nat→Option Spec}{L:List (Pos×Str)}{c:Cx}
theorem nS{ω:Wd}{h:Heap}{m:Fm}(F:FR c ω h m):interactive c.env=false:=by
 unfold interactive;rw[F.kind];rfl
theorem sH(H:rC lv T Φ L c){i:Nat}{x:X}{t e:Expr}{pos:Pos}(h1:Bm c.Γ i t=true)(h2:mX T x L c.Γ e=true)(h3:(CK e||OD x)=true):Cn c (.Assign [t] e pos) (Ab Φ (.as i x)):=
 (Bool.or_eq_true_iff.mp h3).elim (fun hn=>rW h1 (AU x L _ c H.ck h2).se hn) fun hc=>(Option.isSome_iff_exists.mp hc).elim fun t' ht=>by
  rw[Tf ht]at h2 ⊢
  exact Ei (a:=Ny e) h2 fun h0 g1 g2 g3 g4=>Rb (P:=fun e=>Cn c (.Assign [t] e pos) (Ab Φ (.as i (.comp t'.1 t'.2.1 t'.2.2.1 t'.2.2.2)))) h0 fun _=>
   bC h1 (Nq H.ck g1 (AU t'.2.2.1 L _ c H.ck g2) (fun c' H' e3=>AU t'.2.1 [] _ c' H' (e3▸g3)) fun c' H' e3=>mL_ok t'.2.2.2 [] _ c' H' (e3▸g4))
theorem fV(H:rC lv T Φ L c){is:List Nat}{x:X}{t e:Expr}{pos:Pos}(h1:Au 7 t=true)(h2:Au 9 e=true)(h3:Ed c.Γ is t=true)(h4:mX T x L c.Γ e=true):Cn c (.Assign [t] e pos) (Ab Φ (.asT is x)):=by
 have y:=(AU x L _ c H.ck h4).se
 refine cH H.ck.R.hh h3 y ?_ ?_ ?_
 ·rw[show e=.Call (kd e).a (kd e).l (kd e).kw (kd e).p from AY h2];rfl
 ·rw[show e=.Call (kd e).a (kd e).l (kd e).kw (kd e).p from AY h2]
  exact tup_el (P:=fun t=>swappedStores [t] (.Call (kd e).a (kd e).l (kd e).kw (kd e).p) c.env=pure none) rfl h1 fun _ _=>rfl
 ·exact tup_el (P:=fun t=>(assignEach [t] c.env).map (·.2)=[assign t c.env]) rfl h1 fun _ _=>rfl
theorem jV(H:rC lv T Φ L c){b o:SL}{bs os:List Stmt}{w:Nat}{h:ExceptHandler}{pos:Pos}(hB:mG c.Γ w h=true)(hb:Mx c bs (evSL Φ b))(ho:Mx c os (evSL Φ o)):Cn c (.Try bs [h] os [] pos) (Ab Φ (.tryR b w o)):=
 JZ hB fun h1 h2 h3 h4 h5 h6 h7 hB=>Ei hB fun h8 h9 h10 h11 hB=>AF hB fun h12 hB=>
 Ei hB fun h13 h14 h15 h16 h17=>(qW h).elim fun q hq=>by
  have e1:(hk h).b=[OO h]:=Yw h6
  have e2:(hk h).n=some (Vd h):=bQ h5
  rw[hq,Qb h1,e1,e2]
  refine FH (P:=fun x=>Cn c (.Try bs [.ExceptHandler (some x) (some (Vd h)) [OO h] q] os [] pos) (Ab Φ (.tryR b w o))) h2 fun p1=>?_
  refine Es (P:=fun s=>Cn c (.Try bs [.ExceptHandler (some (.Name (kd (oe (hk h).t)).x p1)) (some (Vd h)) [s] q] os [] pos) (Ab Φ (.tryR b w o))) h7 fun p2=>?_
  refine Dd (P:=fun s=>Cn c (.Try bs [.ExceptHandler (some (.Name (kd (oe (hk h).t)).x p1)) (some (Vd h)) [.Assign [tg (OO h)] s p2] q] os [] pos) (Ab Φ (.tryR b w o))) h8 fun p3=>?_
  rw[DL h11]
  refine FH (P:=fun s=>Cn c (.Try bs [.ExceptHandler (some (.Name (kd (oe (hk h).t)).x p1)) (some (Vd h)) [.Assign [tg (OO h)] (.Call (.Name (MN (sd (OO h)).e) p3) [s] [] (kd (sd (OO h)).e).p) p2] q] os [] pos) (Ab Φ (.tryR b w o))) h12 fun p4=>?_
  exact fC H.ck.R H.ck.N H.fr H.fl hb ho (An h3) h4 (An h9) h10 (An h13) (beq_iff_eq.mp h14) (fun hm=>Bool.noConfusion ((Af h15).symm.trans (List.contains_iff_mem.mpr hm))) (Af h16) h17
theorem vL{a a' b b':Option Expr}{p:Pos}(h1:a=a')(h2:b=b'):Stmt.Raise a b p=Stmt.Raise a' b' p:=by rw[h1,h2]
theorem qO{b o w w':List Stmt}{h h':List ExceptHandler}{p:Pos}(h1:h=h')(h2:w=w'):Stmt.Try b h o w p=Stmt.Try b h' o w' p:=by rw[h1,h2]
mutual
theorem oP:∀(x:S) (st:Stmt),rC lv T Φ L c→mS T L c.Γ x st=true→Cn c st (Ab Φ x)
 | .bad=>fun st H h=>fun ω m σ s Q E r m' σ' F I he k kx=>nn he
 | .ex x=>fun st H h=>CY (a:=Go 0 st) h fun h0 h1 h2=>CW (P:=fun st=>Cn c st (Ab Φ (.ex x))) (f:=fun p=>.Expr (sd st).e p) (CF h0) fun p=>qZ (AU x L _ c H.ck h2).se (fun F=>nS F) (EJ h1 _ _ _)
 | .as i x=>fun st H h=>DQ (a:=Nj st) h fun h0 h1 h2 h3=>Es h0 fun p=>sH H h1 h2 h3
 | .asT is x=>fun st H h=>Ei (a:=Nj st) h fun h0 h1 h2 h3 h4=>Es h0 fun p=>fV H h1 h2 h3 h4
 | .asW is xs=>fun st H h=>JZ (a:=Nj st) h fun h0 h1 h2 h3 h4 h5 h6 h=>CY h fun h7 h8 h9=>Es h0 fun p=>by
  rw[An h5]
  refine tup_el (P:=fun t=>Cn c (.Assign [t] (sd st).e p) (Ab Φ (.asW [is.headD 0,is.tail.headD 0] xs))) (Fh h3) h1 fun q1 q2=>?_
  refine tup_el (P:=fun t=>Cn c (.Assign [.Tuple [hd1 (kd (tg st)).l,hd1 (kd (tg st)).l.tail] q1 q2] t p) (Ab Φ (.asW [is.headD 0,is.tail.headD 0] xs))) (Fh h4) h2 fun q3 q4=>?_
  exact iJ H.ck.R.hh (mL_ok xs L _ c H.ck h9) h6 h7 h8
 | .asI a i x=>fun st H h=>KZ (a:=Nj st) h fun h0 h1 h2 h3 h4 h5=>Es h0 fun p=>
  Fx (P:=fun t=>Cn c (.Assign [t] (sd st).e p) (Ab Φ (.asI a i x))) h1 fun _=>jR (AU a L _ c H.ck h3).se (AU i L _ c H.ck h4).se (AU x L _ c H.ck h5).se h2
 | .asV a x=>fun st H h=>KZ (a:=Nj st) h fun h0 h1 h2 h3 h4 h5=>Es h0 fun p=>
  NA (P:=fun t=>Cn c (.Assign [t] (sd st).e p) (Ab Φ (.asV a x))) h1 h2 fun _=>H.ck.str.elim fun K q=>q.elim fun fI q=>q.elim fun q W=>kH W.1 W.2 (AU a L _ c H.ck h4).se (AU x L _ c H.ck h5).se h3 rfl
 | .aug i op x=>fun st H h=>Ei (a:=Go 2 st) h fun h0 h1 h2 h3 h4=>CW (P:=fun st=>Cn c st (Ab Φ (.aug i op x))) (f:=fun p=>.AugAssign (sd st).f op (sd st).e p) (show ∃p,st=.AugAssign (sd st).f op (sd st).e p from An h1▸CF h0) fun p=>
  eF h2 (tU h3) (AU x L _ c H.ck h4).se
 | .iff t b o=>fun st H h=>DQ (a:=Go 3 st) h fun h0 h1 h2 h3=>CW (P:=fun st=>Cn c st (Ab Φ (.iff t b o))) (f:=fun p=>.If (sd st).e (sd st).b (sd st).o p) (CF h0) fun p=>fF (AU t L _ c H.ck h1).st (mSL_ok b _ H h2) (mSL_ok o _ H h3)
 | .wh t b=>fun st H h=>DQ (a:=Go 4 st) h fun h0 h1 h2 h3=>CW (P:=fun st=>Cn c st (Ab Φ (.wh t b))) (f:=fun p=>.While (sd st).e (sd st).b [] p) (show ∃p,st=.While (sd st).e (sd st).b [] p from CV h1▸CF h0) fun p=>yV (AU t L _ c H.ck h2).st (mSL_ok b _ H h3)
 | .fo is it b=>fun st H h=>KZ (a:=Go 5 st) h fun h0 h1 h2 h3 h4 h5=>CW (P:=fun st=>Cn c st (Ab Φ (.fo is it b))) (f:=fun p=>.For (sd st).f (sd st).e (sd st).b [] p) (show ∃p,st=.For (sd st).f (sd st).e (sd st).b [] p from CV h1▸CF h0) fun p=>
  mH H.ck.R.hh h2 (AU it L _ c H.ck h4).se (RT h3 _) (mSL_ok b _ H h5)
 | .ret x=>fun st H h=>CY (a:=Go 6 st) h fun h0 h1 h2=>CW (P:=fun st=>Cn c st (Ab Φ (.ret x))) (f:=fun p=>.Return (some (oe (sd st).oe)) p) (show ∃p,st=.Return (some (oe (sd st).oe)) p from Qb h1▸CF h0) fun p=>aY (AU x L _ c H.ck h2).se
 | .asr t=>fun st H h=>AF (a:=Go 7 st) h fun h0 h=>(show ∃p,∃m,st=.Assert (sd st).e m p from CF h0).elim fun p q=>q.elim fun m q=>by rw[q];exact eQ (AU t L _ c H.ck h).st
 | .ra x=>fun st H h=>JZ (a:=Go 8 st) h fun h0 h1 h2 h3 h4 h5 h6 h=>AF h fun h7 h8=>
  CW (P:=fun st=>Cn c st (Ab Φ (.ra x))) (f:=fun p=>.Raise (some (oe (sd st).oe)) none p) (show ∃p,st=.Raise (some (oe (sd st).oe)) none p from(CF h0:∃p,st=.Raise (sd st).oe (sd st).oc p).elim fun p q=>⟨p,q.trans (vL (Qb h1) (Option.isNone_iff_eq_none.mp h2))⟩) fun p=>
  Dd (P:=fun e=>Cn c (.Raise (some e) none p) (Ab Φ (.ra x))) h3 fun p1=>by
   rw[DL h6]
   exact wN H.ck.R.hh H.ck.N (An h4) h5 (AU x L _ c H.ck h8).se (EW (Af h7))
 | .delI a i=>fun st H h=>Ei (a:=Go 12 st) h fun h0 h1 h2 h3 h4=>CW (P:=fun st=>Cn c st (Ab Φ (.delI a i))) (f:=fun p=>.Delete [tg st] p) (show ∃p,st=.Delete [tg st] p from(CF h0:∃p,st=.Delete (sd st).ts p).imp fun p q=>q.trans (congrArg (Stmt.Delete · p) (DL h1))) fun p=>
  Fx (P:=fun t=>Cn c (.Delete [t] p) (Ab Φ (.delI a i))) h2 fun _=>kD (AU a L _ c H.ck h3).se (AU i L _ c H.ck h4).se
 | .brk=>fun st H h=>CW (P:=fun st=>Cn c st (Ab Φ .brk)) (f:=fun p=>.Break p) (CF (n:=10) h) fun p=>aS
 | .cont=>fun st H h=>CW (P:=fun st=>Cn c st (Ab Φ .cont)) (f:=fun p=>.Continue p) (CF (n:=11) h) fun p=>Vk
 | .callA i f xs=>fun st H h=>KZ (a:=Nj st) h fun h0 h1 h2 h3 h4 h5=>Es h0 fun p=>
  Dd (P:=fun e=>Cn c (.Assign [tg st] e p) (Ab Φ (.callA i f xs))) h2 fun _=>SM H.ck.R0 H.ck.K (An h3) h4 h1 (mL_ok xs L _ c H.ck h5)
 | .tryR b w o=>fun st H h=>Ei (a:=Go 9 st) h fun h0 h1 h2 h3 h=>AF h fun h4 h5=>
  CW (P:=fun st=>Cn c st (Ab Φ (.tryR b w o))) (f:=fun p=>.Try (sd st).b [hs1 (sd st)] (sd st).o [] p) (show ∃p,st=.Try (sd st).b [hs1 (sd st)] (sd st).o [] p from(CF h0:∃p,st=.Try (sd st).b (sd st).hs (sd st).o (sd st).w p).elim fun p q=>⟨p,q.trans (qO (h':=[hs1 (sd st)]) (Yw h2) (CV h1))⟩) fun p=>
  jV H h3 (mSL_ok b _ H h4) (mSL_ok o _ H h5)
theorem mSL_ok:∀(x:SL) (sts:List Stmt),rC lv T Φ L c→mSL T L c.Γ x sts=true→Mx c sts (evSL Φ x)
 | .nil,sts,H,h=>by rw[CV (l:=sts) h];exact Un
 | .cons s r,st::sts,H,h=>CY h fun _ h1 h2=>Sz (oP s st H h1) (mSL_ok r sts H h2)
 | .cons s r,[],H,h=>Bool.noConfusion (show false=true from h)
end
end
noncomputable def tab:List (Nat×Spec)→Nat→Option Spec
 | [],_=>none
 | x::r,f=>cond (f==x.1) (some x.2) (tab r f)
def jH:List Str:=[(qS "translate"),(qS "escape"),(qS "_translate"),(qS "_join_translated_parts"),(qS "heappush"),(qS "heappop"),(qS "_siftdown"),(qS "_siftup"),(qS "read_uint1"),(qS "read_string1"),(qS "_law_take"),(qS "_law_stream"),(qS "_law_counted"),(qS "_law_row"),(qS "_law_name"),(qS "_law_means"),(qS "_law_piece"),(qS "_law_parts"),(qS "_law_takes"),(qS "_law_read"),(qS "_law_seat"),(qS "_law_seated"),(qS "_law_good"),(qS "_law_first"),(qS "_law_beaten"),(qS "law")]
def oK:Spec:=sG
def D9:List Str:=[(qS "pat"),(qS "STAR"),(qS "QUESTION_MARK"),(qS "res"),(qS "add"),(qS "i"),(qS "n"),(qS "c"),(qS "j"),(qS "stuff"),(qS "chunks"),(qS "k"),(qS "chunk")]
def kN:SL:=(.cons (.as 3 (.mlist .nil))
 (.cons (.as 4 (.app (.v 3)))
 (.cons (.asW [5,6] (.cons (.int 0) (.cons (.bi .len (.cons (.v 0) .nil)) .nil)))
 (.cons (.wh (.cmp .Lt (.v 5) (.v 6))
 (.cons (.as 7 (.idx (.v 0) (.v 5)))
 (.cons (.as 5 (.bin .Add (.v 5) (.int 1)))
 (.cons (.iff (.cmp .Eq (.v 7) (.str "*"))
 (.cons (.iff (.bo .Or (.cons (.no (.v 3)) (.cons (.cmp .IsNot (.idx (.v 3) (.neg (.int 1))) (.v 1)) .nil)))
 (.cons (.ex (.callv 4 (.v 1)))
 .nil)
 .nil)
 .nil)
 (.cons (.iff (.cmp .Eq (.v 7) (.str "?"))
 (.cons (.ex (.callv 4 (.v 2)))
 .nil)
 (.cons (.iff (.cmp .Eq (.v 7) (.str "["))
 (.cons (.as 8 (.v 5))
 (.cons (.iff (.bo .And (.cons (.cmp .Lt (.v 8) (.v 6)) (.cons (.cmp .Eq (.idx (.v 0) (.v 8)) (.str "!")) .nil)))
 (.cons (.as 8 (.bin .Add (.v 8) (.int 1)))
 .nil)
 .nil)
 (.cons (.iff (.bo .And (.cons (.cmp .Lt (.v 8) (.v 6)) (.cons (.cmp .Eq (.idx (.v 0) (.v 8)) (.str "]")) .nil)))
 (.cons (.as 8 (.bin .Add (.v 8) (.int 1)))
 .nil)
 .nil)
 (.cons (.wh (.bo .And (.cons (.cmp .Lt (.v 8) (.v 6)) (.cons (.cmp .NotEq (.idx (.v 0) (.v 8)) (.str "]")) .nil)))
 (.cons (.as 8 (.bin .Add (.v 8) (.int 1)))
 .nil))
 (.cons (.iff (.cmp .GtE (.v 8) (.v 6))
 (.cons (.ex (.callv 4 (.str "\\[")))
 .nil)
 (.cons (.as 9 (.slc (.v 0) (.yes (.v 5)) (.yes (.v 8))))
 (.cons (.iff (.cmp .NotIn (.str "-") (.v 9))
 (.cons (.as 9 (.me .replace (.v 9) (.cons (.str "\\") (.cons (.str "\\\\") .nil))))
 .nil)
 (.cons (.as 10 (.mlist .nil))
 (.cons (.as 11 (.ite (.cmp .Eq (.idx (.v 0) (.v 5)) (.str "!")) (.bin .Add (.v 5) (.int 2)) (.bin .Add (.v 5) (.int 1))))
 (.cons (.wh (.bool true)
 (.cons (.as 11 (.me .find (.v 0) (.cons (.str "-") (.cons (.v 11) (.cons (.v 8) .nil)))))
 (.cons (.iff (.cmp .Lt (.v 11) (.int 0))
 (.cons .brk
 .nil)
 .nil)
 (.cons (.ex (.me .append (.v 10) (.cons (.slc (.v 0) (.yes (.v 5)) (.yes (.v 11))) .nil)))
 (.cons (.as 5 (.bin .Add (.v 11) (.int 1)))
 (.cons (.as 11 (.bin .Add (.v 11) (.int 3)))
 .nil))))))
 (.cons (.as 12 (.slc (.v 0) (.yes (.v 5)) (.yes (.v 8))))
 (.cons (.iff (.v 12)
 (.cons (.ex (.me .append (.v 10) (.cons (.v 12) .nil)))
 .nil)
 (.cons .bad
 .nil))
 (.cons (.fo [11] (.bi .range (.cons (.bin .Sub (.bi .len (.cons (.v 10) .nil)) (.int 1)) (.cons (.int 0) (.cons (.neg (.int 1)) .nil))))
 (.cons (.iff (.cmp .Gt (.idx (.idx (.v 10) (.bin .Sub (.v 11) (.int 1))) (.neg (.int 1))) (.idx (.idx (.v 10) (.v 11)) (.int 0)))
 (.cons (.asI (.v 10) (.bin .Sub (.v 11) (.int 1)) (.bin .Add (.slc (.idx (.v 10) (.bin .Sub (.v 11) (.int 1))) .no (.yes (.neg (.int 1)))) (.slc (.idx (.v 10) (.v 11)) (.yes (.int 1)) .no)))
 (.cons (.delI (.v 10) (.v 11))
 .nil))
 .nil)
 .nil))
 (.cons (.as 9 (.jog (qS "-") (.v 10)))
 .nil))))))))
 (.cons (.as 9 (.sub (.v 9)))
 (.cons (.as 5 (.bin .Add (.v 8) (.int 1)))
 (.cons (.iff (.no (.v 9))
 (.cons (.ex (.callv 4 (.str "(?!)")))
 .nil)
 (.cons (.iff (.cmp .Eq (.v 9) (.str "!"))
 (.cons (.ex (.callv 4 (.str ".")))
 .nil)
 (.cons (.iff (.cmp .Eq (.idx (.v 9) (.int 0)) (.str "!"))
 (.cons (.as 9 (.bin .Add (.str "^") (.slc (.v 9) (.yes (.int 1)) .no)))
 .nil)
 (.cons (.iff (.cmp .In (.idx (.v 9) (.int 0)) (.tup (.cons (.str "^") (.cons (.str "[") .nil))))
 (.cons (.as 9 (.bin .Add (.str "\\") (.v 9)))
 .nil)
 .nil)
 .nil))
 (.cons (.ex (.callv 4 (.fstr (.cons (.str "[") (.cons (.v 9) (.cons (.str "]") .nil))))))
 .nil)))
 .nil))
 .nil))))))
 .nil)))))
 (.cons (.ex (.callv 4 (.call 1 (.cons (.v 7) .nil))))
 .nil))
 .nil))
 .nil))
 .nil))))
 (.cons (.asr (.cmp .Eq (.v 5) (.v 6)))
 (.cons (.ret (.v 3))
 .nil))))))
def aW:List (Nat×Spec):=[(1,oK)]
def F5:Spec:=As (Ae (tab aW) 3 13 kN)
def F3:List Str:=[(qS "inp"),(qS "STAR"),(qS "res"),(qS "add"),(qS "i"),(qS "n"),(qS "fixed")]
noncomputable def Y7:SL:=(.cons (.as 2 (.mlist .nil))
 (.cons (.as 3 (.app (.v 2)))
 (.cons (.asW [4,5] (.cons (.int 0) (.cons (.bi .len (.cons (.v 0) .nil)) .nil)))
 (.cons (.wh (.bo .And (.cons (.cmp .Lt (.v 4) (.v 5)) (.cons (.cmp .IsNot (.idx (.v 0) (.v 4)) (.v 1)) .nil)))
 (.cons (.ex (.callv 3 (.idx (.v 0) (.v 4))))
 (.cons (.aug 4 .Add (.int 1))
 .nil)))
 (.cons (.wh (.cmp .Lt (.v 4) (.v 5))
 (.cons (.asr (.cmp .Is (.idx (.v 0) (.v 4)) (.v 1)))
 (.cons (.aug 4 .Add (.int 1))
 (.cons (.iff (.cmp .Eq (.v 4) (.v 5))
 (.cons (.ex (.callv 3 (.str ".*")))
 (.cons .brk
 .nil))
 .nil)
 (.cons (.asr (.cmp .IsNot (.idx (.v 0) (.v 4)) (.v 1)))
 (.cons (.as 6 (.mlist .nil))
 (.cons (.wh (.bo .And (.cons (.cmp .Lt (.v 4) (.v 5)) (.cons (.cmp .IsNot (.idx (.v 0) (.v 4)) (.v 1)) .nil)))
 (.cons (.ex (.me .append (.v 6) (.cons (.idx (.v 0) (.v 4)) .nil)))
 (.cons (.aug 4 .Add (.int 1))
 .nil)))
 (.cons (.as 6 (.me .join (.str "") (.cons (.v 6) .nil)))
 (.cons (.iff (.cmp .Eq (.v 4) (.v 5))
 (.cons (.ex (.callv 3 (.str ".*")))
 (.cons (.ex (.callv 3 (.v 6)))
 .nil))
 (.cons (.ex (.callv 3 (.fstr (.cons (.str "(?>.*?") (.cons (.v 6) (.cons (.str ")") .nil))))))
 .nil))
 .nil)))))))))
 (.cons (.asr (.cmp .Eq (.v 4) (.v 5)))
 (.cons (.as 2 (.me .join (.str "") (.cons (.v 2) .nil)))
 (.cons (.ret (.fstr (.cons (.str "(?s:") (.cons (.v 2) (.cons (.str ")\\Z") .nil)))))
 .nil))))))))
noncomputable def tL3:List (Nat×Spec):=[]
def K1:Spec:=As (Ae (tab tL3) 2 7 Y7)
def N3:List Str:=[(qS "pat"),(qS "STAR"),(qS "parts")]
noncomputable def zJ:SL:=(.cons (.as 1 .star)
 (.cons (.as 2 (.call 2 (.cons (.v 0) (.cons (.v 1) (.cons (.str ".") .nil)))))
 (.cons (.ret (.call 3 (.cons (.v 2) (.cons (.v 1) .nil))))
 .nil)))
def kP:List (Nat×Spec):=[(2,F5),(3,K1)]
def zP:Spec:=As (Ae (tab kP) 1 3 zJ)
def N6:List Str:=[(qS "heap"),(qS "startpos"),(qS "pos"),(qS "newitem"),(qS "parentpos"),(qS "parent")]
noncomputable def rK:SL:=(.cons (.as 3 (.idx (.v 0) (.v 2)))
 (.cons (.wh (.cmp .Gt (.v 2) (.v 1))
 (.cons (.as 4 (.bin .RShift (.bin .Sub (.v 2) (.int 1)) (.int 1)))
 (.cons (.as 5 (.idx (.v 0) (.v 4)))
 (.cons (.iff (.cmp .Lt (.v 3) (.v 5))
 (.cons (.asI (.v 0) (.v 2) (.v 5))
 (.cons (.as 2 (.v 4))
 (.cons .cont
 .nil)))
 .nil)
 (.cons .brk
 .nil)))))
 (.cons (.asI (.v 0) (.v 2) (.v 3))
 .nil)))
noncomputable def D0:List (Nat×Spec):=[]
def zW:Spec:=As (Ae (tab D0) 3 6 rK)
def R7:List Str:=[(qS "heap"),(qS "item")]
noncomputable def U6:SL:=(.cons (.ex (.me .append (.v 0) (.cons (.v 1) .nil)))
 (.cons (.ex (.call 6 (.cons (.v 0) (.cons (.int 0) (.cons (.bin .Sub (.bi .len (.cons (.v 0) .nil)) (.int 1)) .nil)))))
 .nil))
def T0:List (Nat×Spec):=[(6,zW)]
def G1:Spec:=As (Ae (tab T0) 2 2 U6)
def O1:List Str:=[(qS "heap"),(qS "pos"),(qS "endpos"),(qS "startpos"),(qS "newitem"),(qS "childpos"),(qS "rightpos")]
noncomputable def zX:SL:=(.cons (.as 2 (.bi .len (.cons (.v 0) .nil)))
 (.cons (.as 3 (.v 1))
 (.cons (.as 4 (.idx (.v 0) (.v 1)))
 (.cons (.as 5 (.bin .Add (.bin .Mult (.int 2) (.v 1)) (.int 1)))
 (.cons (.wh (.cmp .Lt (.v 5) (.v 2))
 (.cons (.as 6 (.bin .Add (.v 5) (.int 1)))
 (.cons (.iff (.bo .And (.cons (.cmp .Lt (.v 6) (.v 2)) (.cons (.no (.cmp .Lt (.idx (.v 0) (.v 5)) (.idx (.v 0) (.v 6)))) .nil)))
 (.cons (.as 5 (.v 6))
 .nil)
 .nil)
 (.cons (.asI (.v 0) (.v 1) (.idx (.v 0) (.v 5)))
 (.cons (.as 1 (.v 5))
 (.cons (.as 5 (.bin .Add (.bin .Mult (.int 2) (.v 1)) (.int 1)))
 .nil))))))
 (.cons (.asI (.v 0) (.v 1) (.v 4))
 (.cons (.ex (.call 6 (.cons (.v 0) (.cons (.v 3) (.cons (.v 1) .nil)))))
 .nil)))))))
def lC:List (Nat×Spec):=[(6,zW)]
def B6:Spec:=As (Ae (tab lC) 2 7 zX)
def L3:List Str:=[(qS "heap"),(qS "lastelt"),(qS "returnitem")]
noncomputable def W9:SL:=(.cons (.as 1 (.me .pop (.v 0) .nil))
 (.cons (.iff (.v 0)
 (.cons (.as 2 (.idx (.v 0) (.int 0)))
 (.cons (.asI (.v 0) (.int 0) (.v 1))
 (.cons (.ex (.call 7 (.cons (.v 0) (.cons (.int 0) .nil))))
 (.cons (.ret (.v 2))
 .nil))))
 .nil)
 (.cons (.ret (.v 1))
 .nil)))
def zY:List (Nat×Spec):=[(7,B6)]
def J9:Spec:=As (Ae (tab zY) 1 3 W9)
def zB:List Str:=[(qS "stream"),(qS "size"),(qS "took")]
noncomputable def uK:SL:=(.cons (.as 2 (.slc (.val (.v 0)) .no (.yes (.v 1))))
 (.cons (.asV (.v 0) (.slc (.val (.v 0)) (.yes (.v 1)) .no))
 (.cons (.ret (.v 2))
 .nil)))
noncomputable def Um:List (Nat×Spec):=[]
def RA:Spec:=As (Ae (tab Um) 2 3 uK)
def E8:List Str:=[(qS "f"),(qS "data")]
noncomputable def P0:SL:=(.cons (.as 1 (.read 10 (.v 0) (.int 1)))
 (.cons (.iff (.v 1)
 (.cons (.ret (.idx (.v 1) (.int 0)))
 .nil)
 .nil)
 (.cons (.ra (.str "not enough data in stream to read uint1"))
 .nil)))
def rO:List (Nat×Spec):=[(10,RA)]
def oC:Spec:=As (Ae (tab rO) 1 2 P0)
def O8:List Str:=[(qS "f"),(qS "n"),(qS "data")]
noncomputable def Y2:SL:=(.cons (.callA 1 8 (.cons (.v 0) .nil))
 (.cons (.asr (.cmp .GtE (.v 1) (.int 0)))
 (.cons (.as 2 (.read 10 (.v 0) (.v 1)))
 (.cons (.iff (.cmp .Eq (.bi .len (.cons (.v 2) .nil)) (.v 1))
 (.cons (.ret (.me .decode (.v 2) (.cons (.str "latin-1") .nil)))
 .nil)
 .nil)
 (.cons .bad
 .nil)))))
def lB:List (Nat×Spec):=[(8,oC),(10,RA)]
def oL:Spec:=As (Ae (tab lB) 1 3 Y2)
def Vs:Spec:=Xo
def qB:List Str:=[(qS "text")]
noncomputable def oD:SL:=(.cons (.ret (.bin .Add (.bi .bytes (.cons (.list (.cons (.bi .len (.cons (.v 0) .nil)) .nil)) .nil)) (.me .encode (.v 0) (.cons (.str "latin-1") .nil))))
 .nil)
noncomputable def pO:List (Nat×Spec):=[]
def TB:Spec:=As (Ae (tab pO) 1 1 oD)
def yO:List Str:=[(qS "number"),(qS "table")]
noncomputable def TH:SL:=(.cons (.as 1 (.mlist (.cons (.tup (.cons (.str "*") (.cons .none .nil))) (.cons (.tup (.cons (.str "?") (.cons (.str ".ab") .nil))) (.cons (.tup (.cons (.str "a") (.cons (.str "a") .nil))) (.cons (.tup (.cons (.str "b") (.cons (.str "b") .nil))) (.cons (.tup (.cons (.str ".") (.cons (.str ".") .nil))) (.cons (.tup (.cons (.str "[!a]") (.cons (.str ".b") .nil))) .nil))))))))
 (.cons (.ex (.me .extend (.v 1) (.cons (.list (.cons (.tup (.cons (.str "[a-b]") (.cons (.str "ab") .nil))) (.cons (.tup (.cons (.str "[.a]") (.cons (.str ".a") .nil))) (.cons (.tup (.cons (.str "[b-a]") (.cons (.str "") .nil))) (.cons (.tup (.cons (.str "[!b-a]") (.cons (.str ".ab") .nil))) (.cons (.tup (.cons (.str "[!.-a]") (.cons (.str "b") .nil))) (.cons (.tup (.cons (.str "[b-b.]") (.cons (.str ".b") .nil))) .nil))))))) .nil)))
 (.cons (.ret (.comp 1 (.idx (.v 1) (.bin .Mod (.bin .FloorDiv (.v 0) (.bin .Pow (.int 12) (.v 2))) (.int 12))) (.bi .range (.cons (.int 3) .nil)) .nil))
 .nil)))
noncomputable def Jm:List (Nat×Spec):=[]
def Wr:Spec:=As (Ae (tab Jm) 1 2 TH)
def qF:List Str:=[(qS "number")]
noncomputable def kG:SL:=(.cons (.ret (.me .join (.str "") (.cons (.comp 1 (.idx (.str ".ab") (.bin .Mod (.bin .FloorDiv (.v 0) (.bin .Pow (.int 3) (.bin .Add (.v 1) (.int 1)))) (.int 3))) (.bi .range (.cons (.bin .Add (.int 1) (.bin .Mod (.v 0) (.int 3))) .nil)) .nil) .nil)))
 .nil)
noncomputable def Me:List (Nat×Spec):=[]
def Vj:Spec:=As (Ae (tab Me) 1 1 kG)
def yJ:List Str:=[(qS "row"),(qS "name"),(qS "met"),(qS "written"),(qS "held")]
noncomputable def Wv:SL:=(.cons (.as 2 (.list (.cons (.int 0) .nil)))
 (.cons (.fo [3,4] (.v 0)
 (.cons (.iff (.cmp .IsNot (.v 4) .none)
 (.cons (.as 2 (.comp 1 (.bin .Add (.v 5) (.int 1)) (.v 2) (.cons (.bo .And (.cons (.cmp .Lt (.v 5) (.bi .len (.cons (.v 1) .nil))) (.cons (.cmp .In (.idx (.v 1) (.v 5)) (.v 4)) .nil))) .nil)))
 .nil)
 (.cons (.iff (.cmp .NotEq (.v 2) (.list .nil))
 (.cons (.as 2 (.bi .list (.cons (.bi .range (.cons (.idx (.v 2) (.int 0)) (.cons (.bin .Add (.bi .len (.cons (.v 1) .nil)) (.int 1)) .nil))) .nil)))
 .nil)
 .nil)
 .nil))
 .nil))
 (.cons (.ret (.cmp .In (.bi .len (.cons (.v 1) .nil)) (.v 2)))
 .nil)))
noncomputable def NS:List (Nat×Spec):=[]
def SS:Spec:=As (Ae (tab NS) 2 5 Wv)
def rD:List Str:=[(qS "body"),(qS "k"),(qS "size"),(qS "inner"),(qS "barred"),(qS "members"),(qS "i"),(qS "ranged"),(qS "high")]
noncomputable def Ra:SL:=(.cons (.iff (.cmp .Eq (.slc (.v 0) (.yes (.v 1)) (.yes (.bin .Add (.v 1) (.int 4)))) (.str "(?!)"))
 (.cons (.ret (.tup (.cons (.int 4) (.cons (.str "") .nil))))
 .nil)
 .nil)
 (.cons (.iff (.cmp .Eq (.idx (.v 0) (.v 1)) (.str "\\"))
 (.cons (.ret (.tup (.cons (.int 2) (.cons (.slc (.v 0) (.yes (.bin .Add (.v 1) (.int 1))) (.yes (.bin .Add (.v 1) (.int 2)))) .nil))))
 .nil)
 .nil)
 (.cons (.iff (.cmp .NotEq (.idx (.v 0) (.v 1)) (.str "["))
 (.cons (.ret (.tup (.cons (.int 1) (.cons (.ite (.cmp .Eq (.idx (.v 0) (.v 1)) (.str ".")) (.str ".ab") (.idx (.v 0) (.v 1))) .nil))))
 .nil)
 .nil)
 (.cons (.as 2 (.bi .max (.cons (.int 2) (.cons (.bin .Sub (.bin .Add (.me .find (.v 0) (.cons (.str "]") (.cons (.v 1) .nil))) (.int 1)) (.v 1)) .nil))))
 (.cons (.as 3 (.slc (.v 0) (.yes (.bin .Add (.v 1) (.int 1))) (.yes (.bin .Sub (.bin .Add (.v 1) (.v 2)) (.int 1)))))
 (.cons (.as 4 (.cmp .Eq (.slc (.v 3) .no (.yes (.int 1))) (.str "^")))
 (.cons (.as 5 (.str ""))
 (.cons (.as 6 (.ite (.v 4) (.int 1) (.int 0)))
 (.cons (.wh (.cmp .Lt (.v 6) (.bi .len (.cons (.v 3) .nil)))
 (.cons (.as 7 (.cmp .Eq (.slc (.v 3) (.yes (.bin .Add (.v 6) (.int 1))) (.yes (.bin .Add (.v 6) (.int 2)))) (.str "-")))
 (.cons (.as 8 (.ite (.v 7) (.slc (.v 3) (.yes (.bin .Add (.v 6) (.int 2))) (.yes (.bin .Add (.v 6) (.int 3)))) (.idx (.v 3) (.v 6))))
 (.cons (.aug 5 .Add (.me .join (.str "") (.cons (.comp 1 (.v 9) (.str ".ab") (.cons (.cmp2 .LtE .LtE (.idx (.v 3) (.v 6)) (.v 9) (.v 8)) .nil)) .nil)))
 (.cons (.aug 6 .Add (.ite (.v 7) (.int 3) (.int 1)))
 .nil)))))
 (.cons (.ret (.tup (.cons (.v 2) (.cons (.me .join (.str "") (.cons (.comp 1 (.v 9) (.str ".ab") (.cons (.cmp .NotEq (.cmp .In (.v 9) (.v 5)) (.v 4)) .nil)) .nil)) .nil))))
 .nil))))))))))
noncomputable def Fy:List (Nat×Spec):=[]
def PR:Spec:=As (Ae (tab Fy) 2 9 Ra)
def sD:List Str:=[(qS "text"),(qS "body"),(qS "parts"),(qS "k"),(qS "size"),(qS "signs")]
noncomputable def QX:SL:=(.cons (.iff (.bo .Or (.cons (.cmp .NotEq (.slc (.v 0) .no (.yes (.int 4))) (.str "(?s:")) (.cons (.cmp .NotEq (.slc (.v 0) (.yes (.neg (.int 3))) .no) (.str ")\\Z")) .nil)))
 (.cons (.ret (.mlist (.cons (.tup (.cons (.str "none") (.cons (.mlist .nil) .nil))) .nil)))
 .nil)
 .nil)
 (.cons (.as 1 (.slc (.v 0) (.yes (.int 4)) (.yes (.neg (.int 3)))))
 (.cons (.as 2 (.mlist (.cons (.tup (.cons (.str "bare") (.cons (.mlist .nil) .nil))) .nil)))
 (.cons (.as 3 (.int 0))
 (.cons (.wh (.cmp .Lt (.v 3) (.bi .len (.cons (.v 1) .nil)))
 (.cons (.iff (.cmp .Eq (.slc (.v 1) (.yes (.v 3)) (.yes (.bin .Add (.v 3) (.int 6)))) (.str "(?>.*?"))
 (.cons (.ex (.me .append (.v 2) (.cons (.tup (.cons (.str "held") (.cons (.mlist .nil) .nil))) .nil)))
 (.cons (.aug 3 .Add (.int 6))
 .nil))
 (.cons (.iff (.cmp .Eq (.slc (.v 1) (.yes (.v 3)) (.yes (.bin .Add (.v 3) (.int 2)))) (.str ".*"))
 (.cons (.ex (.me .append (.v 2) (.cons (.tup (.cons (.str "last") (.cons (.mlist .nil) .nil))) .nil)))
 (.cons (.aug 3 .Add (.int 2))
 .nil))
 (.cons (.iff (.cmp .Eq (.idx (.v 1) (.v 3)) (.str ")"))
 (.cons (.aug 3 .Add (.int 1))
 .nil)
 (.cons (.asT [4,5] (.call 16 (.cons (.v 1) (.cons (.v 3) .nil))))
 (.cons (.ex (.me .append (.idx (.idx (.v 2) (.neg (.int 1))) (.int 1)) (.cons (.v 5) .nil)))
 (.cons (.aug 3 .Add (.v 4))
 .nil))))
 .nil))
 .nil))
 .nil))
 (.cons (.ret (.v 2))
 .nil))))))
def Ci:List (Nat×Spec):=[(16,PR)]
def SV:Spec:=As (Ae (tab Ci) 1 6 QX)
def uZ:List Str:=[(qS "parts"),(qS "name"),(qS "at"),(qS "kind"),(qS "tests"),(qS "size"),(qS "spots")]
def NG:SL:=(.cons (.as 2 (.int 0))
 (.cons (.fo [3,4] (.v 0)
 (.cons (.as 5 (.bi .len (.cons (.v 4) .nil)))
 (.cons (.as 6 (.dsp [(qS "bare"),(qS "held"),(qS "last"),(qS "none")] (.cons (.list (.cons (.v 2) .nil)) (.cons (.bi .range (.cons (.v 2) (.cons (.bin .Add (.bin .Sub (.bi .len (.cons (.v 1) .nil)) (.v 5)) (.int 1)) .nil))) (.cons (.list (.cons (.bin .Sub (.bi .len (.cons (.v 1) .nil)) (.v 5)) .nil)) (.cons (.list .nil) .nil)))) (.v 3)))
 (.cons (.as 6 (.comp 1 (.v 7) (.v 6) (.cons (.bo .And (.cons (.cmp2 .LtE .LtE (.v 2) (.v 7) (.bin .Sub (.bi .len (.cons (.v 1) .nil)) (.v 5))) (.cons (.cmp .Eq (.comp 1 (.v 8) (.bi .range (.cons (.v 5) .nil)) (.cons (.cmp .NotIn (.idx (.v 1) (.bin .Add (.v 7) (.v 8))) (.idx (.v 4) (.v 8))) .nil)) (.list .nil)) .nil))) .nil)))
 (.cons (.iff (.cmp .Eq (.v 6) (.list .nil))
 (.cons (.ret (.bool false))
 .nil)
 .nil)
 (.cons (.as 2 (.bin .Add (.idx (.v 6) (.int 0)) (.v 5)))
 .nil))))))
 (.cons (.ret (.cmp .Eq (.v 2) (.bi .len (.cons (.v 1) .nil))))
 .nil)))
noncomputable def Mt:List (Nat×Spec):=[]
def Rh:Spec:=As (Ae (tab Mt) 2 7 NG)
def wZ:List Str:=[(qS "stream"),(qS "patterns"),(qS "names"),(qS "weights"),(qS "words"),(qS "weight"),(qS "name")]
noncomputable def Rw:SL:=(.cons (.as 1 (.comp 1 (.call 9 (.cons (.v 0) .nil)) (.bi .range (.cons (.call 8 (.cons (.v 0) .nil)) .nil)) .nil))
 (.cons (.as 2 (.mlist .nil))
 (.cons (.as 3 (.mlist .nil))
 (.cons (.as 4 (.str ""))
 (.cons (.wh (.cmp .Eq (.v 4) (.str ""))
 (.cons (.tryR (.cons (.callA 5 8 (.cons (.v 0) .nil))
 (.cons (.callA 6 9 (.cons (.v 0) .nil))
 .nil)) 4
 (.cons (.ex (.me .append (.v 3) (.cons (.v 5) .nil)))
 (.cons (.ex (.me .append (.v 2) (.cons (.v 6) .nil)))
 .nil)))
 .nil))
 (.cons (.ret (.tup (.cons (.v 1) (.cons (.v 2) (.cons (.v 3) (.cons (.v 4) .nil))))))
 .nil))))))
def Fu:List (Nat×Spec):=[(8,oC),(9,oL)]
def TK:Spec:=As (Ae (tab Fu) 1 7 Rw)
def oW:List Str:=[(qS "name"),(qS "takes"),(qS "seats"),(qS "tried"),(qS "j")]
noncomputable def jP:SL:=(.cons (.fo [4] (.idx (.v 1) (.v 0))
 (.cons (.iff (.cmp .NotIn (.v 4) (.v 3))
 (.cons (.ex (.me .append (.v 3) (.cons (.v 4) .nil)))
 (.cons (.iff (.bo .Or (.cons (.cmp .Is (.idx (.v 2) (.v 4)) .none) (.cons (.call 20 (.cons (.idx (.v 2) (.v 4)) (.cons (.v 1) (.cons (.v 2) (.cons (.v 3) .nil))))) .nil)))
 (.cons (.asI (.v 2) (.v 4) (.v 0))
 (.cons (.ret (.bool true))
 .nil))
 .nil)
 .nil))
 .nil)
 .nil))
 (.cons (.ret (.bool false))
 .nil))
def Lo:Nat→Spec
 | 0=>fun _ _=>none
 | n+1=>As (Ae (tab [(20,Lo n)]) 4 5 jP)
def yT:Spec:=Lo 6
def tH:List Str:=[(qS "weights"),(qS "takes"),(qS "heap"),(qS "k"),(qS "seats"),(qS "chosen"),(qS "name")]
noncomputable def Tj:SL:=(.cons (.as 2 (.mlist .nil))
 (.cons (.fo [3] (.bi .range (.cons (.bi .len (.cons (.v 0) .nil)) .nil))
 (.cons (.ex (.call 4 (.cons (.v 2) (.cons (.tup (.cons (.neg (.idx (.v 0) (.v 3))) (.cons (.v 3) .nil))) .nil))))
 .nil))
 (.cons (.as 4 (.mrep .none 4))
 (.cons (.as 5 (.mlist .nil))
 (.cons (.wh (.cmp .NotEq (.v 2) (.list .nil))
 (.cons (.as 6 (.idx (.call 5 (.cons (.v 2) .nil)) (.int 1)))
 (.cons (.iff (.call 20 (.cons (.v 6) (.cons (.v 1) (.cons (.v 4) (.cons (.mlist .nil) .nil)))))
 (.cons (.ex (.me .append (.v 5) (.cons (.v 6) .nil)))
 .nil)
 .nil)
 .nil)))
 (.cons (.ret (.v 5))
 .nil))))))
def FD:List (Nat×Spec):=[(4,G1),(5,J9),(20,yT)]
def Vz:Spec:=As (Ae (tab FD) 2 7 Tj)
def uQ:List Str:=[(qS "takes"),(qS "good"),(qS "group"),(qS "inside"),(qS "reach")]
noncomputable def TA:SL:=(.cons (.as 1 (.mlist .nil))
 (.cons (.fo [2] (.bi .range (.cons (.bin .Pow (.int 2) (.bi .len (.cons (.v 0) .nil))) .nil))
 (.cons (.as 3 (.comp 1 (.v 5) (.bi .range (.cons (.bi .len (.cons (.v 0) .nil)) .nil)) (.cons (.cmp .Eq (.bin .Mod (.bin .FloorDiv (.v 2) (.bin .Pow (.int 2) (.v 5))) (.int 2)) (.int 1)) .nil)))
 (.cons (.as 4 (.comp 1 (.v 5) (.bi .range (.cons (.int 4) .nil)) (.cons (.cmp .NotEq (.comp 1 (.v 6) (.v 3) (.cons (.cmp .In (.v 5) (.idx (.v 0) (.v 6))) .nil)) (.list .nil)) .nil)))
 (.cons (.ex (.me .append (.v 1) (.cons (.bo .And (.cons (.cmp .GtE (.bi .len (.cons (.v 4) .nil)) (.bi .len (.cons (.v 3) .nil))) (.cons (.cmp .Eq (.comp 1 (.v 5) (.v 3) (.cons (.no (.idx (.v 1) (.bin .Sub (.v 2) (.bin .Pow (.int 2) (.v 5))))) .nil)) (.list .nil)) .nil))) .nil)))
 .nil))))
 (.cons (.ret (.v 1))
 .nil)))
noncomputable def SN:List (Nat×Spec):=[]
def UW:Spec:=As (Ae (tab SN) 1 5 TA)
def xQ:List Str:=[(qS "weights"),(qS "good"),(qS "group"),(qS "chosen"),(qS "back"),(qS "k")]
noncomputable def RI:SL:=(.cons (.as 2 (.int 0))
 (.cons (.as 3 (.mlist .nil))
 (.cons (.fo [4,5] (.bi .sorted (.cons (.comp 1 (.tup (.cons (.neg (.idx (.v 0) (.v 6))) (.cons (.v 6) .nil))) (.bi .range (.cons (.bi .len (.cons (.v 0) .nil)) .nil)) .nil) .nil))
 (.cons (.iff (.idx (.v 1) (.bin .Add (.v 2) (.bin .Pow (.int 2) (.v 5))))
 (.cons (.aug 2 .Add (.bin .Pow (.int 2) (.v 5)))
 (.cons (.ex (.me .append (.v 3) (.cons (.v 5) .nil)))
 .nil))
 .nil)
 .nil))
 (.cons (.ret (.v 3))
 .nil))))
noncomputable def Ko:List (Nat×Spec):=[]
def Uy:Spec:=As (Ae (tab Ko) 2 6 RI)
def uY:List Str:=[(qS "best"),(qS "weights"),(qS "good"),(qS "group"),(qS "row")]
noncomputable def Wt:SL:=(.cons (.fo [3] (.bi .range (.cons (.bi .len (.cons (.v 2) .nil)) .nil))
 (.cons (.as 4 (.bi .sorted (.cons (.comp 1 (.neg (.idx (.v 1) (.v 5))) (.bi .range (.cons (.bi .len (.cons (.v 1) .nil)) .nil)) (.cons (.cmp .Eq (.bin .Mod (.bin .FloorDiv (.v 3) (.bin .Pow (.int 2) (.v 5))) (.int 2)) (.int 1)) .nil)) .nil)))
 (.cons (.iff (.bo .And (.cons (.idx (.v 2) (.v 3)) (.cons (.bo .Or (.cons (.cmp .Gt (.bi .len (.cons (.v 4) .nil)) (.bi .len (.cons (.v 0) .nil))) (.cons (.cmp .NotEq (.comp 1 (.v 5) (.bi .range (.cons (.bi .len (.cons (.v 4) .nil)) .nil)) (.cons (.cmp .Gt (.neg (.idx (.v 4) (.v 5))) (.idx (.v 0) (.v 5))) .nil)) (.list .nil)) .nil))) .nil)))
 (.cons (.ret (.bool true))
 .nil)
 .nil)
 .nil)))
 (.cons (.ret (.bool false))
 .nil))
noncomputable def MW:List (Nat×Spec):=[]
def VD:Spec:=As (Ae (tab MW) 3 5 Wt)
def mU:List Str:=[(qS "script"),(qS "numbers"),(qS "marks"),(qS "rows"),(qS "written"),(qS "people"),(qS "octets"),(qS "stream"),(qS "patterns"),(qS "names"),(qS "weights"),(qS "words"),(qS "parts"),(qS "takes"),(qS "chosen"),(qS "good")]
noncomputable def RL:SL:=(.cons (.as 1 (.comp 1 (.bin .Mod (.v 16) (.bin .Pow (.int 10) (.int 9))) (.slc (.v 0) .no (.yes (.int 20))) .nil))
 (.cons (.as 2 (.comp 1 (.bin .Add (.idx (.list (.cons (.int 3) (.cons (.int 22) (.cons (.int 7) (.cons (.int 23) (.cons (.int 25) .nil)))))) (.v 16)) (.bi .sum (.cons (.stp (.v 1) (.v 16) 5) .nil))) (.bi .range (.cons (.int 5) .nil)) .nil))
 (.cons (.as 3 (.comp 1 (.call 13 (.cons (.bin .Add (.idx (.list (.cons (.int 2) (.cons (.int 36) (.cons (.int 61) (.cons (.int 912) .nil))))) (.v 16)) (.bi .sum (.cons (.stp (.v 1) (.v 16) 4) .nil))) .nil)) (.bi .range (.cons (.int 4) .nil)) .nil))
 (.cons (.as 4 (.comp 1 (.me .join (.str "") (.cons (.comp 2 (.v 17) (.v 16) .nil) .nil)) (.v 3) .nil))
 (.cons (.as 5 (.comp 1 (.tup (.cons (.bin .Add (.int 1) (.bin .Mod (.v 16) (.int 7))) (.cons (.call 14 (.cons (.v 16) .nil)) .nil))) (.v 2) .nil))
 (.cons (.as 6 (.bin .Add (.byt [4]) (.me .join (.byt []) (.cons (.comp 1 (.call 12 (.cons (.v 16) .nil)) (.v 4) .nil) .nil))))
 (.cons (.as 7 (.call 11 (.cons (.bin .Add (.v 6) (.me .join (.byt []) (.cons (.comp 2 (.bin .Add (.bi .bytes (.cons (.list (.cons (.v 16) .nil)) .nil)) (.call 12 (.cons (.v 17) .nil))) (.v 5) .nil) .nil))) .nil)))
 (.cons (.asT [8,9,10,11] (.call 19 (.cons (.v 7) .nil)))
 (.cons (.iff (.bo .Or (.cons (.cmp .NotEq (.v 8) (.v 4)) (.cons (.cmp .NotEq (.comp 1 (.tup (.cons (.idx (.v 10) (.v 16)) (.cons (.idx (.v 9) (.v 16)) .nil))) (.bi .range (.cons (.bi .len (.cons (.v 9) .nil)) .nil)) .nil) (.v 5)) .nil)))
 (.cons (.ret (.bool false))
 .nil)
 .nil)
 (.cons (.iff (.bo .Or (.cons (.cmp .NotEq (.v 11) (.str "not enough data in stream to read uint1")) (.cons (.cmp .NotEq (.val (.v 7)) (.byt [])) .nil)))
 (.cons (.ret (.bool false))
 .nil)
 .nil)
 (.cons (.as 12 (.comp 1 (.call 17 (.cons (.call 0 (.cons (.v 16) .nil)) .nil)) (.v 8) .nil))
 (.cons (.as 13 (.comp 1 (.comp 1 (.v 17) (.bi .range (.cons (.int 4) .nil)) (.cons (.call 18 (.cons (.idx (.v 12) (.v 17)) (.cons (.v 16) .nil))) .nil)) (.v 9) .nil))
 (.cons (.iff (.cmp .NotEq (.v 13) (.comp 1 (.comp 1 (.v 17) (.bi .range (.cons (.int 4) .nil)) (.cons (.call 15 (.cons (.idx (.v 3) (.v 17)) (.cons (.v 16) .nil))) .nil)) (.v 9) .nil))
 (.cons (.ret (.bool false))
 .nil)
 .nil)
 (.cons (.as 14 (.call 21 (.cons (.v 10) (.cons (.v 13) .nil))))
 (.cons (.as 15 (.call 22 (.cons (.v 13) .nil)))
 (.cons (.iff (.call 24 (.cons (.comp 1 (.idx (.v 10) (.v 16)) (.v 14) .nil) (.cons (.v 10) (.cons (.v 15) .nil))))
 (.cons (.ret (.bool false))
 .nil)
 .nil)
 (.cons (.ret (.cmp .Eq (.v 14) (.call 23 (.cons (.v 10) (.cons (.v 15) .nil)))))
 .nil)))))))))))))))))
def CD:List (Nat×Spec):=[(0,zP),(11,Vs),(12,TB),(13,Wr),(14,Vj),(15,SS),(17,SV),(18,Rh),(19,TK),(21,Vz),(22,UW),(23,Uy),(24,VD)]
def Vv:Spec:=As (Ae (tab CD) 1 16 RL)
noncomputable def Fo(h:Heap)(as:List Addr):Frag:=as.filterMap fun a=>(h.get? a).map fun o=>(a,o)
theorem Hg{h:Heap}{a:Addr}{o:Obj}:∀{as:List Addr},(Fo h as).lookup a=some o→h.get? a=some o
 | [],e=>nn e
 | b::as,e=>by
  unfold Fo at e
  rw[List.filterMap_cons]at e
  cases hb:h.get? b with
  | none=>rw[hb]at e;exact Hg (as:=as) e
  | some o'=>
   rw[hb]at e
   have e:List.lookup a ((b,o')::Fo h as)=some o:=e
   rw[List.lookup_cons]at e
   cases q:a==b with
   | true=>rw[q]at e;rw[beq_iff_eq.mp q,hb];exact e
   | false=>rw[q]at e;exact Hg (as:=as) e
noncomputable def Rl(v:Value):Option Addr:=match v with
 | .ref b=>some b
 | _=>none
theorem MD{v:Value}{a:Addr}(h:Rl v=some a):v=.ref a:=by cases v<;>first|exact nn h | exact congrArg _ (so h)
theorem BY{α:Type}{G:Prop}{o:Option α}{f:α→Bool}(h:o.elim false f=true)(k:∀a,o=some a→f a=true→G):G:=match o,h,k with
 | some a,h,k=>k a rfl h
def NI(v:Value)(a:Addr):Bool:=(Rl v).elim false fun b=>b==a
theorem Ip{v:Value}{a:Addr}(h:NI v a=true):v=.ref a:=BY h fun b e h=>by rw[MD e,beq_iff_eq.mp h]
def RV(v:Option Value)(a:Addr):Bool:=v.elim false fun v=>NI v a
theorem QM{v:Option Value}{a:Addr}(h:RV v a=true):v=some (.ref a):=BY h fun w e h=>by rw[e,Ip h]
noncomputable def EB(o:Obj):Bool:=match o.cls with
 | .none=>false
 | _=>true
theorem BW{o:Obj}(h:EB o=true):o.cls≠.none:=fun q=>by unfold EB at h;rw[q]at h;exact Bool.noConfusion h
def lH(K:Frag)(C fI:Addr):Bool:=K.all (fun x=>EB x.2)&&(hasDictIn K C&&(plainGet K C "value" && ((findIn K (.ref C) "value").elim false (noGet K)&&(findIn K (.ref C) "read" == some none &&
 (findIn K (.ref C) "__setattr__" == some (some (.builtin "object.__setattr__"))&&(plainOver K C&&(takerIn K C "value" == some none&&(takerIn K C "read" == some none&&(makesIn K C&&(findIn K (.ref C) "__init__" == some (some (.ref fI))&&typeIn K (.ref fI)==some (.type "function")))))))))))
noncomputable def MQ(d:Data):Option (Array Value):=match d with | .fields vs=>some vs | _=>none
noncomputable def Xz(d:Data):Option (Array Value×Nat):=match d with | .seq vs n=>some (vs,n) | _=>none
noncomputable def aN(d:Data):Option (Array DictEntry×Nat):=match d with | .dict vs n=>some (vs,n) | _=>none
noncomputable def OE(d:Data):Option FuncData:=match d with | .func f=>some f | _=>none
def vW(h:Heap)(p c:Addr):Bool:=(h.get? p).elim false fun o=>o.cls==.type "re.Pattern" && (o.dict.isNone&&(MQ o.data).elim false fun fs=>Builtin.Re.reRawNat (fs.getD 6 .none)==0&&(NI (fs.getD 5 .none) c&&(Builtin.Re.reRawNat (fs.getD 2 .none)==1 &&
 (h.get? c).elim false fun oc=>EB oc&&(Xz oc.data).elim false fun xs=>decide ((xs.1.map Builtin.Re.reRawOf).map (·.toNat)=Ez))))
noncomputable def Zb(v:Value):Option (Str×Tok):=match v with
 | .str x t=>some (x,t)
 | _=>none
theorem Ss{v:Value}{x:Str×Tok}(h:Zb v=some x):v=.str x.1 x.2:=by cases v<;>first|exact nn h | (cases so h;rfl)
def Mu(v:Option Value)(q:Str):Bool:=v.elim false fun v=>(Zb v).elim false fun x=>x.1==q
def uN(h:Heap)(D:Addr):Bool:=(h.get? D).elim false fun o=>EB o&&(o.cls==.type "dict" && (o.dict.isNone&&(o.slots.isEmpty&&(aN o.data).elim false fun es=>aF es.1&&((findBy Value.isInt es.1 97).isNone&&((findBy Value.isInt es.1 98).isNone&&Mu (findBy Value.isInt es.1 46) ⟨#[92,46]⟩)))))
def mN(h:Heap)(f:Addr)(q:Str):Bool:=(h.get? f).elim false fun o=>EB o&&(OE o.data).elim false fun d=>d.closure.isEmpty&&(d.qualname==q&&(d.globals==mainGlobals&&(d.builtins==builtinsNs&&(d.defaults==.none&&(d.kwdefaults==.none &&
 (Rl d.code).elim false fun c=>(h.get? c).elim false fun oc=>EB oc&&(MQ oc.data).elim false fun vs=>Mu vs[1]? q)))))
def Wk(h:Heap)(f:Addr):Option (Arguments×FuncBody×Scope):=(h.get? f).bind fun o=>(OE o.data).map fun d=>(d.params,d.body,d.scope)
def Bd(h:Heap)(a:Addr):Bool:=(h.get? a).elim false EB
structure Ad where
 as:List Addr
 C:Addr
 fI:Addr
 p:Addr
 pc:Addr
 D:Addr
 fns:List (Str×Addr)
def T4(d:Ad)(h:Heap):Bool:=lH (Fo h d.as) d.C d.fI&&(vW h d.p d.pc&&(uN h d.D&&(mN h d.fI "_Example.__init__" && (d.fns.all fun x=>RV (h.nsMap mainGlobals x.1) x.2&&Bd h x.2)&&(Bd h mainGlobals&&Bd h builtinsNs))))
noncomputable def DA:Ad:=⟨[124,125,126,127,128,129,130],128,125,36,35,45,[("_twin_re_1",36),("_special_chars_map",45),("_Example",128),("translate",43),("escape",55),("_translate",62),("_join_translated_parts",69),("heappush",76),("heappop",83),("_siftdown",90),("_siftup",97),("read_uint1",104),("read_string1",111),("_law_take",139),("_law_stream",146),("_law_counted",153),("_law_row",158),("_law_name",163),("_law_means",168),("_law_piece",173),("_law_parts",180),("_law_takes",185),("_law_read",190),("_law_seat",197),("_law_seated",204),("_law_good",209),("_law_first",214),("_law_beaten",219),("law",224)]⟩
noncomputable def Bk(p:Program)(c:Str):Option (Arguments×FuncBody×Scope):=p.main.body.findSome? fun s=>match s with
 | .ClassDef n _ _ (.FunctionDef _ as b _ _ _ sc _ _ _::_) ..=>cond (n==c) (some (as,.stmts b,sc)) none
 | _=>none
noncomputable def vw:Program:=view PySem.Challenge.pw_rx0126_01 [0,3,6,8,9,11,12,13,14,16,17,18,20,21,22,23,24,25,26,27,28,29,30,31,32,33,34,35]
noncomputable def lo:List PySem.Str:=["_twin_re_1","_special_chars_map"]
def WM(d:Ad)(s:Shared):Bool×Option (Arguments×FuncBody×Scope):=(T4 d s.heap,Wk s.heap d.fI)
def hk1:Hook where
 α:=Bool×Option (Arguments×FuncBody×Scope)
 obs:=WM DA
 val:=fun _=>(true,Bk PySem.Challenge.pw_rx0126_01 "_Example")
 says:=fun _ h=>∃h₁:Heap,(T4 DA h₁=true∧Wk h₁ DA.fI=Bk PySem.Challenge.pw_rx0126_01 "_Example")∧∀b o,h₁.get? b=some o→h.get? b=some o
 of:=fun w s x=>⟨s.heap,⟨(Prod.mk.inj x).1,(Prod.mk.inj x).2⟩,fun _ _ e=>e⟩
 keeps:=fun w h h' x k=>x.elim fun h₁ x=>⟨h₁,x.1,fun b o e=>k _ _ (x.2 b o e)⟩
abbrev EX:Program:=PySem.Challenge.pw_rx0126_01
abbrev Ov(a b c d:Nat):Pos:={line:=a,col:=b,endLine:=c,endCol:=d}
abbrev QI:Pos:=Ov 0 0 0 0
def LH:Env:={scope:=EX.main.scope,locals:=mainNs,globals:=mainNs,cells:=[],code:=(.ref 30),frame:=some 31}
def bT:List Stmt:=behindTheImports EX
def cT:Code:=.body bT LH
def nB(n:Str)(s:Stmt):Option (Arguments×List Stmt×Scope):=match s with
 | .FunctionDef m as b _ _ _ sc _ _ _=>cond (n==m) (some (as,b,sc)) none
 | _=>none
def dO(n:Str):Arguments×List Stmt×Scope:=(bT.findSome? fun s=>match s with
 | .ClassDef _ _ _ b ..=>b.findSome? (nB n)
 | s=>nB n s).getD default
def Fa(n q:Str)(g:Addr)(cl:List (Str×Addr))(df kd doc pm:Value)(an:Option Addr)(c ct:Value)(bl:Addr):FuncData:=⟨n,q,(dO n).1,.stmts (dO n).2.1,(dO n).2.2,g,cl,df,kd,doc,pm,an,c,ct,bl⟩
noncomputable section
noncomputable abbrev kE(P:Params)(k:String)(n:Nat)(v:Value):DictEntry:=⟨PyData.keyHash P (qS k),.str (qS k) n,v⟩
noncomputable abbrev kA(P:Params)(k:Str)(n:Nat)(v:Value):DictEntry:=⟨PyData.keyHash P k,.str k n,v⟩
noncomputable abbrev vS(k:String)(n:Nat):Value:=.str (qS k) n
noncomputable abbrev vI(k:Int)(n:Nat):Value:=.int k n
noncomputable abbrev sT(a:Array Value)(n:Nat):Obj:=⟨.type "tuple",none,.seq a n,#[]⟩
noncomputable abbrev cO(a:Array Value):Obj:=⟨.type "code",none,.fields a,#[]⟩
noncomputable abbrev tF(a:Array Value):Obj:=⟨.none,none,.fields a,#[]⟩
noncomputable abbrev dT(a:Array DictEntry)(n:Nat):Obj:=⟨.type "dict",none,.dict a n,#[]⟩
noncomputable abbrev fT(n:Str)(q:String)(v:Value)(c:Nat):Obj:=⟨.type "function",none,.func (Fa n (qS q) 3 [] .none .none .none v none (.ref c) .none 0),#[]⟩
noncomputable abbrev lf(o:Obj):BT:=.node o .nil .nil
section
variable(P:Params)
def eL:List DictEntry:=[(kE P "__doc__" 166 .none),(kE P "__package__" 167 .none),(kE P "__loader__" 168 (.builtin "__main__.__loader__#opaque")),(kE P "__spec__" 169 .none),(kE P "__annotations__" 170 (.ref 6)),(kE P "__builtins__" 171 (.ref 4)),(kE P "__file__" 173 (vS "/claim/cut.py" 172)),(kE P "__cached__" 174 .none),(kE P "_sre" 275 (.ref 12)),(kE P "_twin_re_1" 321 (.ref 36)),(kE P "translate" 330 (.ref 43)),(kE P "_special_chars_map" 478 (.ref 45)),(kE P "escape" 485 (.ref 55)),(kE P "_translate" 506 (.ref 62)),(kE P "_join_translated_parts" 519 (.ref 69)),(kE P "heappush" 529 (.ref 76)),(kE P "heappop" 538 (.ref 83)),(kE P "_siftdown" 550 (.ref 90)),(kE P "_siftup" 563 (.ref 97)),(kE P "read_uint1" 573 (.ref 104)),(kE P "read_string1" 582 (.ref 111)),(kE P "_Example" 611 (.ref 128)),(kE P "_law_take" 622 (.ref 139)),(kE P "_law_stream" 630 (.ref 146)),(kE P "_law_counted" 637 (.ref 153)),(kE P "_law_row" 643 (.ref 158)),(kE P "_law_name" 649 (.ref 163)),(kE P "_law_means" 655 (.ref 168)),(kE P "_law_piece" 661 (.ref 173)),(kE P "_law_parts" 673 (.ref 180)),(kE P "_law_takes" 679 (.ref 185)),(kE P "_law_read" 685 (.ref 190)),(kE P "_law_seat" 696 (.ref 197)),(kE P "_law_seated" 709 (.ref 204)),(kE P "_law_good" 715 (.ref 209)),(kE P "_law_first" 721 (.ref 214)),(kE P "_law_beaten" 727 (.ref 219)),(kE P "law" 733 (.ref 224))]
def ZO:Obj:=dT #[(kE P "__name__" 1 (vS "builtins" 160)),(kE P "__doc__" 2 (.builtin "builtins.__doc__:str#opaque")),(kE P "__package__" 3 (.builtin "builtins.__package__:str#opaque")),(kE P "__loader__" 4 (.builtin "builtins.__loader__:shared#opaque")),(kE P "__spec__" 5 (.builtin "builtins.__spec__#opaque")),(kE P "__build_class__" 6 (.builtin "__build_class__")),(kE P ("__imp" ++ "ort__") 7 (.builtin "__import__")),(kE P "abs" 8 (.builtin "abs")),(kE P "all" 9 (.builtin "all")),(kE P "any" 10 (.builtin "any")),(kE P "ascii" 11 (.builtin "ascii")),(kE P "bin" 12 (.builtin "bin")),(kE P "breakpoint" 13 (.builtin "breakpoint")),(kE P "callable" 14 (.builtin "callable")),(kE P "chr" 15 (.builtin "chr")),(kE P "compile" 16 (.builtin "compile")),(kE P "delattr" 17 (.builtin "delattr")),(kE P "dir" 18 (.builtin "dir")),(kE P "divmod" 19 (.builtin "divmod")),(kE P "eval" 20 (.builtin "eval")),(kE P "exec" 21 (.builtin "exec")),(kE P "format" 22 (.builtin "format")),(kE P "getattr" 23 (.builtin "getattr")),(kE P "globals" 24 (.builtin "globals")),(kE P "hasattr" 25 (.builtin "hasattr")),(kE P "hash" 26 (.builtin "hash")),(kE P "hex" 27 (.builtin "hex")),(kE P "id" 28 (.builtin "id")),(kE P "input" 29 (.builtin "input")),(kE P "isinstance" 30 (.builtin "isinstance")),(kE P "issubclass" 31 (.builtin "issubclass")),(kE P "iter" 32 (.builtin "iter")),(kE P "aiter" 33 (.builtin "aiter")),(kE P "len" 34 (.builtin "len")),(kE P "locals" 35 (.builtin "locals")),(kE P "max" 36 (.builtin "max")),(kE P "min" 37 (.builtin "min")),(kE P "next" 38 (.builtin "next")),(kE P "anext" 39 (.builtin "anext")),(kE P "oct" 40 (.builtin "oct")),(kE P "ord" 41 (.builtin "ord")),(kE P "pow" 42 (.builtin "pow")),(kE P "print" 43 (.builtin "print")),(kE P "repr" 44 (.builtin "repr")),(kE P "round" 45 (.builtin "round")),(kE P "setattr" 46 (.builtin "setattr")),(kE P "sorted" 47 (.builtin "sorted")),(kE P "sum" 48 (.builtin "sum")),(kE P "vars" 49 (.builtin "vars")),(kE P "None" 50 .none),(kE P "Ellipsis" 51 .ellipsis),(kE P "NotImplemented" 52 .notImplemented),(kE P "False" 53 (.bool false)),(kE P "True" 54 (.bool true)),(kE P "bool" 55 (.type "bool")),(kE P "memoryview" 56 (.type "memoryview")),(kE P "bytearray" 57 (.type "bytearray")),(kE P "bytes" 58 (.type "bytes")),(kE P "classmethod" 59 (.type "classmethod")),(kE P "complex" 60 (.type "complex")),(kE P "dict" 61 (.type "dict")),(kE P "enumerate" 62 (.type "enumerate")),(kE P "filter" 63 (.type "filter")),(kE P "float" 64 (.type "float")),(kE P "frozenset" 65 (.type "frozenset")),(kE P "property" 66 (.type "property")),(kE P "int" 67 (.type "int")),(kE P "list" 68 (.type "list")),(kE P "map" 69 (.type "map")),(kE P "object" 70 (.type "object")),(kE P "range" 71 (.type "range")),(kE P "reversed" 72 (.type "reversed")),(kE P "set" 73 (.type "set")),(kE P "slice" 74 (.type "slice")),(kE P "staticmethod" 75 (.type "staticmethod")),(kE P "str" 76 (.type "str")),(kE P "super" 77 (.type "super")),(kE P "tuple" 78 (.type "tuple")),(kE P "type" 79 (.type "type")),(kE P "zip" 80 (.type "zip")),(kE P "__debug__" 81 (.bool true)),(kE P "BaseException" 82 (.type "BaseException")),(kE P "BaseExceptionGroup" 83 (.type "BaseExceptionGroup")),(kE P "Exception" 84 (.type "Exception")),(kE P "GeneratorExit" 85 (.type "GeneratorExit")),(kE P "KeyboardInterrupt" 86 (.type "KeyboardInterrupt")),(kE P "SystemExit" 87 (.type "SystemExit")),(kE P "ArithmeticError" 88 (.type "ArithmeticError")),(kE P "AssertionError" 89 (.type "AssertionError")),(kE P "AttributeError" 90 (.type "AttributeError")),(kE P "BufferError" 91 (.type "BufferError")),(kE P "EOFError" 92 (.type "EOFError")),(kE P "ImportError" 93 (.type "ImportError")),(kE P "LookupError" 94 (.type "LookupError")),(kE P "MemoryError" 95 (.type "MemoryError")),(kE P "NameError" 96 (.type "NameError")),(kE P "OSError" 97 (.type "OSError")),(kE P "ReferenceError" 98 (.type "ReferenceError")),(kE P "RuntimeError" 99 (.type "RuntimeError")),(kE P "StopAsyncIteration" 100 (.type "StopAsyncIteration")),(kE P "StopIteration" 101 (.type "StopIteration")),(kE P "SyntaxError" 102 (.type "SyntaxError")),(kE P "SystemError" 103 (.type "SystemError")),(kE P "TypeError" 104 (.type "TypeError")),(kE P "ValueError" 105 (.type "ValueError")),(kE P "Warning" 106 (.type "Warning")),(kE P "FloatingPointError" 107 (.type "FloatingPointError")),(kE P "OverflowError" 108 (.type "OverflowError")),(kE P "ZeroDivisionError" 109 (.type "ZeroDivisionError")),(kE P "BytesWarning" 110 (.type "BytesWarning")),(kE P "DeprecationWarning" 111 (.type "DeprecationWarning")),(kE P "EncodingWarning" 112 (.type "EncodingWarning")),(kE P "FutureWarning" 113 (.type "FutureWarning")),(kE P "ImportWarning" 114 (.type "ImportWarning")),(kE P "PendingDeprecationWarning" 115 (.type "PendingDeprecationWarning")),(kE P "ResourceWarning" 116 (.type "ResourceWarning")),(kE P "RuntimeWarning" 117 (.type "RuntimeWarning")),(kE P "SyntaxWarning" 118 (.type "SyntaxWarning")),(kE P "UnicodeWarning" 119 (.type "UnicodeWarning")),(kE P "UserWarning" 120 (.type "UserWarning")),(kE P "BlockingIOError" 121 (.type "BlockingIOError")),(kE P "ChildProcessError" 122 (.type "ChildProcessError")),(kE P "ConnectionError" 123 (.type "ConnectionError")),(kE P "FileExistsError" 124 (.type "FileExistsError")),(kE P "FileNotFoundError" 125 (.type "FileNotFoundError")),(kE P "InterruptedError" 126 (.type "InterruptedError")),(kE P "IsADirectoryError" 127 (.type "IsADirectoryError")),(kE P "NotADirectoryError" 128 (.type "NotADirectoryError")),(kE P "PermissionError" 129 (.type "PermissionError")),(kE P "ProcessLookupError" 130 (.type "ProcessLookupError")),(kE P "TimeoutError" 131 (.type "TimeoutError")),(kE P "IndentationError" 132 (.type "IndentationError")),(kE P "_IncompleteInputError" 133 (.type "_IncompleteInputError")),(kE P "IndexError" 134 (.type "IndexError")),(kE P "KeyError" 135 (.type "KeyError")),(kE P "ModuleNotFoundError" 136 (.type "ModuleNotFoundError")),(kE P "NotImplementedError" 137 (.type "NotImplementedError")),(kE P "PythonFinalizationError" 138 (.type "PythonFinalizationError")),(kE P "RecursionError" 139 (.type "RecursionError")),(kE P "UnboundLocalError" 140 (.type "UnboundLocalError")),(kE P "UnicodeError" 141 (.type "UnicodeError")),(kE P "BrokenPipeError" 142 (.type "BrokenPipeError")),(kE P "ConnectionAbortedError" 143 (.type "ConnectionAbortedError")),(kE P "ConnectionRefusedError" 144 (.type "ConnectionRefusedError")),(kE P "ConnectionResetError" 145 (.type "ConnectionResetError")),(kE P "TabError" 146 (.type "TabError")),(kE P "UnicodeDecodeError" 147 (.type "UnicodeDecodeError")),(kE P "UnicodeEncodeError" 148 (.type "UnicodeEncodeError")),(kE P "UnicodeTranslateError" 149 (.type "UnicodeTranslateError")),(kE P "ExceptionGroup" 150 (.type "ExceptionGroup")),(kE P "EnvironmentError" 151 (.type "OSError")),(kE P "IOError" 152 (.type "OSError")),(kE P "open" 153 (.builtin "open")),(kE P "quit" 154 (.builtin "builtins.quit#opaque")),(kE P "exit" 155 (.builtin "builtins.exit#opaque")),(kE P "copyright" 156 (.builtin "builtins.copyright#opaque")),(kE P "credits" 157 (.builtin "builtins.credits#opaque")),(kE P "license" 158 (.builtin "builtins.license#opaque")),(kE P "help" 159 (.builtin "builtins.help#opaque"))] 159
def ho1:Obj:=dT #[(kE P "builtins" 162 (.ref 4)),(kE P "__main__" 163 (.ref 5)),(kE P "_sre" 244 (.ref 12))] 3
def YS:Obj:=⟨.none,none,(.dict #[(kE P ("imp" ++ "ort.loaded._sre") 183 (.bool true)),(kE P ("class._frozen_imp" ++ "ortlib.BuiltinImporter") 185 (.ref 14)),(kE P ("watched.imp" ++ "ort") 206 (.ref 18)),(kE P ("class._frozen_imp" ++ "ortlib.ModuleSpec") 216 (.ref 22)),(kE P "sys.modules.booked-epoch" 245 (vI 3 0)),(kE P ("imp" ++ "ort.later-laid._sre") 270 (.bool true)),(kE P "watched.library" 272 (.ref 27)),(kE P "watched.library-objects" 0 (vS "\x0c" 0)),(kE P "watched.library-deep._sre" 273 (vS "\x04\x00\x00\x0b\x04\x00\x00\x0b\x04\x00\x00\x03\x04\x00\x00\x0b\x08\x04dict\x02" 0))] 9),#[]⟩
def Z7:Obj:=dT ⟨(kE P "__name__" 165 (vS "__main__" 164))::(eL P).take 9⟩ 10
def Xl:Obj:=⟨(.type "module"),(some 0),.plain,#[]⟩
def XQ:Obj:=⟨(.type "module"),(some 3),.plain,#[]⟩
def ho6:Obj:=dT #[] 0
def AZ:Obj:=sT #[] 0
def Ba:Obj:=tF #[]
def aL:Obj:=cO #[(vS "<module>" 176),(vS "<module>" 177),(vS "/claim/cut.py" 178),(vI 1 0),(vI 0 0),(vI 0 0),(vI 0 0),(vI 0 0),(.ref 7),(.bool false),(vI 175 0),(.ref 8),.none,.none,.none,.none,(vI 179 0),(vI 1 0),(vS "/claim/cut.py" 180)]
def LB:Obj:=⟨(.type "frame"),none,.plain,#[(some (.ref 9)),(some (.ref 3)),(some (.ref 3)),none,(some (vS "__main__" 164)),none,(some (.ref 0))]⟩
def LT:Obj:=dT #[(kE P "__name__" 247 (vS "_sre" 246)),(kE P "__doc__" 248 .none),(kE P "__package__" 250 (vS "" 249)),(kE P "__loader__" 251 (.builtin "off-the-table:_sre.__loader__:shared#opaque")),(kE P "__spec__" 252 (.builtin "off-the-table:_sre.__spec__:shared#opaque")),(kE P "compile" 253 (.builtin "_sre.compile")),(kE P "template" 254 (.builtin "off-the-table:_sre.template:shared#opaque")),(kE P "getcodesize" 255 (.builtin "off-the-table:_sre.getcodesize:shared#opaque")),(kE P "ascii_iscased" 256 (.builtin "off-the-table:_sre.ascii_iscased:shared#opaque")),(kE P "unicode_iscased" 257 (.builtin "off-the-table:_sre.unicode_iscased:shared#opaque")),(kE P "ascii_tolower" 258 (.builtin "off-the-table:_sre.ascii_tolower:shared#opaque")),(kE P "unicode_tolower" 259 (.builtin "off-the-table:_sre.unicode_tolower:shared#opaque")),(kE P "MAGIC" 261 (vI 20230612 260)),(kE P "CODESIZE" 263 (vI 4 262)),(kE P "MAXREPEAT" 265 (vI 4294967295 264)),(kE P "MAXGROUPS" 267 (vI 1073741823 266)),(kE P "copyright" 269 (vS " SRE 2.2.2 Copyright (c) 1997-2002 by Secret Labs AB " 268))] 17
def Ls:Obj:=⟨(.type "module"),(some 11),.plain,#[]⟩
def Kf:Obj:=dT #[(kE P "__module__" 189 (vS ("_frozen_imp" ++ "ortlib") 186)),(kE P "__firstlineno__" 190 (vI 971 187)),(kE P "__doc__" 191 (.builtin "_frozen_importlib.BuiltinImporter.__doc__:str#opaque")),(kE P "_ORIGIN" 192 (vS "built-in" 188)),(kE P "find_spec" 193 (.builtin "_frozen_importlib.BuiltinImporter.find_spec#opaque")),(kE P "create_module" 194 (.builtin "_frozen_importlib.BuiltinImporter.create_module#opaque")),(kE P "exec_module" 195 (.builtin "_frozen_importlib.BuiltinImporter.exec_module#opaque")),(kE P "get_code" 196 (.builtin "_frozen_importlib.BuiltinImporter.get_code#opaque")),(kE P "get_source" 197 (.builtin "_frozen_importlib.BuiltinImporter.get_source#opaque")),(kE P "is_package" 198 (.builtin "_frozen_importlib.BuiltinImporter.is_package#opaque")),(kE P "load_module" 199 (.builtin "_frozen_importlib.BuiltinImporter.load_module#opaque")),(kE P "__static_attributes__" 200 (.ref 15)),(kE P "__dict__" 202 (.ref 16)),(kE P "__weakref__" 204 (.ref 17))] 14
def MH:Obj:=⟨(.type "type"),none,(.cls {name:=(qS "BuiltinImporter"),bases:=[(.type "object")],mro:=[(.ref 14),(.type "object")],ns:=13,qualname:=(qS "BuiltinImporter"),hasDict:=true,slotNames:=[],subclasses:=[],abstract:=false,collection:=none,hasDel:=false}),#[]⟩
def Lc:Obj:=⟨(.type "getset_descriptor"),none,(.fields #[(vS "__dict__" 201),(.ref 14),(.builtin "function.__dict__"),(.builtin "function.__dict__#set")]),#[]⟩
def Kl:Obj:=⟨(.type "getset_descriptor"),none,(.fields #[(vS "__weakref__" 203),(.ref 14),(.builtin "ExceptionGroup.__weakref__"),.none]),#[]⟩
def Lh:Obj:=⟨.none,none,(.seq #[(vI 13 0),(vS ("\x06\u00bd\n__module__\x06\u00ba\x11_frozen_imp" ++ "ortlib\x06\u00be\x0f__firstlineno__\x04\u00bb\x00\u03cb\x06\u00bf\x07__doc__\x094_frozen_imp" ++ "ortlib.BuiltinImporter.__doc__:str#opaque\x06\u00c0\x07_ORIGIN\x06\u00bc\x08built-in\x06\u00c1\x09find_spec\x092_frozen_imp" ++ "ortlib.BuiltinImporter.find_spec#opaque\x06\u00c2\x0dcreate_module\x096_frozen_imp" ++ "ortlib.BuiltinImporter.create_module#opaque\x06\u00c3\x0bexec_module\x094_frozen_imp" ++ "ortlib.BuiltinImporter.exec_module#opaque\x06\u00c4\x08get_code\x091_frozen_imp" ++ "ortlib.BuiltinImporter.get_code#opaque\x06\u00c5\nget_source\x093_frozen_imp" ++ "ortlib.BuiltinImporter.get_source#opaque\x06\u00c6\nis_package\x093_frozen_imp" ++ "ortlib.BuiltinImporter.is_package#opaque\x06\u00c7\x0bload_module\x094_frozen_imp" ++ "ortlib.BuiltinImporter.load_module#opaque\x06\u00c8\x15__static_attributes__\x04\x00\x00\x0f\x06\u00ca\x08__dict__\x04\x00\x00\x10\x06\u00cc\x0b__weakref__\x04\x00\x00\x11") 0),(.bool true),(.bool true),(vS "" 205),(vI 21 0),(vS ("\x06\u00e3\n__module__\x06\u00d9\x11_frozen_imp" ++ "ortlib\x06\u00e4\x0f__firstlineno__\x04\u00da\x00\u0232\x06\u00e5\x07__doc__\x09/_frozen_imp" ++ "ortlib.ModuleSpec.__doc__:str#opaque\x06\u00e6\x08__init__\x09,_frozen_imp" ++ "ortlib.ModuleSpec.__init__#opaque\x06\u00e7\x08__repr__\x09,_frozen_imp" ++ "ortlib.ModuleSpec.__repr__#opaque\x06\u00e8\x06__eq__\x09*_frozen_imp" ++ "ortlib.ModuleSpec.__eq__#opaque\x06\u00e9\x06cached\x09*_frozen_imp" ++ "ortlib.ModuleSpec.cached#opaque\x06\u00ea\x06parent\x09*_frozen_imp" ++ "ortlib.ModuleSpec.parent#opaque\x06\u00eb\x0chas_location\x090_frozen_imp" ++ "ortlib.ModuleSpec.has_location#opaque\x06\u00ec\x15__static_attributes__\x04\x00\x00\x17\x06\u00ee\x08__dict__\x04\x00\x00\x18\x06\u00f0\x0b__weakref__\x04\x00\x00\x19\x06\u00f1\x08__hash__\x00") 0),(.bool true),(.bool true),(vS "" 242)] 1),#[]⟩
def Li:Obj:=⟨(.type "list"),none,(.seq #[] 0),#[]⟩
def LM:Obj:=dT #[(kE P "name" 208 (vS "_sre" 207)),(kE P "loader" 209 (.ref 14)),(kE P "origin" 210 (vS "built-in" 184)),(kE P "loader_state" 211 .none),(kE P "submodule_search_locations" 212 .none),(kE P "_uninitialized_submodules" 213 (.ref 19)),(kE P "_set_fileattr" 214 (.bool false)),(kE P "_cached" 215 .none),(kE P "_initializing" 243 (.bool false))] 9
def LF:Obj:=dT #[(kE P "__module__" 227 (vS ("_frozen_imp" ++ "ortlib") 217)),(kE P "__firstlineno__" 228 (vI 562 218)),(kE P "__doc__" 229 (.builtin "_frozen_importlib.ModuleSpec.__doc__:str#opaque")),(kE P "__init__" 230 (.builtin "_frozen_importlib.ModuleSpec.__init__#opaque")),(kE P "__repr__" 231 (.builtin "_frozen_importlib.ModuleSpec.__repr__#opaque")),(kE P "__eq__" 232 (.builtin "_frozen_importlib.ModuleSpec.__eq__#opaque")),(kE P "cached" 233 (.builtin "_frozen_importlib.ModuleSpec.cached#opaque")),(kE P "parent" 234 (.builtin "_frozen_importlib.ModuleSpec.parent#opaque")),(kE P "has_location" 235 (.builtin "_frozen_importlib.ModuleSpec.has_location#opaque")),(kE P "__static_attributes__" 236 (.ref 23)),(kE P "__dict__" 238 (.ref 24)),(kE P "__weakref__" 240 (.ref 25)),(kE P "__hash__" 241 .none)] 13
def Ll:Obj:=⟨(.type "type"),none,(.cls {name:=(qS "ModuleSpec"),bases:=[(.type "object")],mro:=[(.ref 22),(.type "object")],ns:=21,qualname:=(qS "ModuleSpec"),hasDict:=true,slotNames:=[],subclasses:=[],abstract:=false,collection:=none,hasDel:=false}),#[]⟩
def LR:Obj:=sT #[(vS "_cached" 219),(vS "_set_fileattr" 220),(vS "_uninitialized_submodules" 221),(vS "loader" 222),(vS "loader_state" 223),(vS "name" 224),(vS "origin" 225),(vS "submodule_search_locations" 226)] 0
def LP:Obj:=⟨(.type "getset_descriptor"),none,(.fields #[(vS "__dict__" 237),(.ref 22),(.builtin "function.__dict__"),(.builtin "function.__dict__#set")]),#[]⟩
def Ke:Obj:=⟨(.type "getset_descriptor"),none,(.fields #[(vS "__weakref__" 239),(.ref 22),(.builtin "ExceptionGroup.__weakref__"),.none]),#[]⟩
def Ki:Obj:=⟨(.ref 22),(some 20),.plain,#[]⟩
def Kz:Obj:=⟨.none,none,(.seq #[(vI 11 0),(.str (⟨#[6,247,8,95,95,110,97,109,101,95,95,6,246,4,95,115,114,101,6,248,7,95,95,100,111,99,95,95,0,6,250,11,95,95,112,97,99,107,97,103,101,95,95,6,249,0,6,251,10,95,95,108,111,97,100,101,114,95,95,4,0,0,14,6,252,8,95,95,115,112,101,99,95,95,4,0,0,26,6,253,7,99,111,109,112,105,108,101,9,12,95,115,114,101,46,99,111,109,112,105,108,101,6,254,8,116,101,109,112,108,97,116,101,9,13,95,115,114,101,46,116,101,109,112,108,97,116,101,6,255,11,103,101,116,99,111,100,101,115,105,122,101,9,16,95,115,114,101,46,103,101,116,99,111,100,101,115,105,122,101,6,256,13,97,115,99,105,105,95,105,115,99,97,115,101,100,9,18,95,115,114,101,46,97,115,99,105,105,95,105,115,99,97,115,101,100,6,257,15,117,110,105,99,111,100,101,95,105,115,99,97,115,101,100,9,20,95,115,114,101,46,117,110,105,99,111,100,101,95,105,115,99,97,115,101,100,6,258,13,97,115,99,105,105,95,116,111,108,111,119,101,114,9,18,95,115,114,101,46,97,115,99,105,105,95,116,111,108,111,119,101,114,6,259,15,117,110,105,99,111,100,101,95,116,111,108,111,119,101,114,9,20,95,115,114,101,46,117,110,105,99,111,100,101,95,116,111,108,111,119,101,114,6,261,5,77,65,71,73,67,4,260,0,20230612,6,263,8,67,79,68,69,83,73,90,69,4,262,0,4,6,265,9,77,65,88,82,69,80,69,65,84,4,264,0,4294967295,6,267,9,77,65,88,71,82,79,85,80,83,4,266,0,1073741823,6,269,9,99,111,112,121,114,105,103,104,116,6,268,53,32,83,82,69,32,50,46,50,46,50,32,67,111,112,121,114,105,103,104,116,32,40,99,41,32,49,57,57,55,45,50,48,48,50,32,98,121,32,83,101,99,114,101,116,32,76,97,98,115,32,65,66,32]⟩:Str) 0),(.bool true),(.bool false),(vS "_sre" 271)] 0),#[]⟩
def MS:Obj:=cO #[(vS "<module>" 277),(vS "<module>" 278),(vS "/claim/cut.py" 279),(vI 1 0),(vI 0 0),(vI 0 0),(vI 0 0),(vI 0 0),(.ref 28),(.bool false),(vI 276 0),(.ref 29),.none,.none,.none,.none,(vI 280 0),(vI 1 0),(vS "/claim/cut.py" 281)]
def Pc:Obj:=⟨(.type "frame"),none,.plain,#[(some (.ref 30)),(some (.ref 3)),(some (.ref 3)),none,(some (vS "__main__" 164)),none,(some (.ref 0))]⟩
def S4:Obj:=dT ⟨(kE P "__name__" 165 (vS "re" 331))::(eL P).take 12⟩ 13
def J2:Obj:=tF #[(vI 4 0),(vI 0 0),(.ref 42)]
def Rq:Obj:=⟨(.type "list"),none,(.seq #[(vI 14 287),(vI 14 288),(vI 4 289),(vI 1 290),(vI 1 291),(vI 9 292),(vI 0 293),(vI 64 294),(vI 0 295),(vI 1342177280 296),(vI 0 297),(vI 0 298),(vI 0 299),(vI 0 300),(vI 0 301),(vI 17 302),(vI 0 303),(vI 13 304),(vI 11 305),(vI 9 306),(vI 0 307),(vI 64 308),(vI 0 309),(vI 1342177280 310),(vI 0 311),(vI 0 312),(vI 0 313),(vI 0 314),(vI 0 315),(vI 17 316),(vI 1 317),(vI 1 318)] 0),#[]⟩
def Qz:Obj:=sT #[.none,.none] 0
def Qh:Obj:=sT #[(vI 14 0),(vI 14 0),(vI 4 0),(vI 1 0),(vI 1 0),(vI 9 0),(vI 0 0),(vI 64 0),(vI 0 0),(vI 1342177280 0),(vI 0 0),(vI 0 0),(vI 0 0),(vI 0 0),(vI 0 0),(vI 17 0),(vI 0 0),(vI 13 0),(vI 11 0),(vI 9 0),(vI 0 0),(vI 64 0),(vI 0 0),(vI 1342177280 0),(vI 0 0),(vI 0 0),(vI 0 0),(vI 0 0),(vI 0 0),(vI 17 0),(vI 1 0),(vI 1 0)] 0
def Ro:Obj:=⟨(.type "re.Pattern"),none,(.fields #[(vS "([&~|])" 285),(vI 32 320),(vI 1 0),.none,.none,(.ref 35),(vI 0 0)]),#[]⟩
def Pj:Obj:=sT #[(vS "pat" 325),(vS "STAR" 326),(vS "parts" 327)] 0
def Pq:Obj:=⟨.none,none,(.func (Fa "translate" (qS "translate") 0 [] .none .none .none .none none .none .none 0)),#[]⟩
def Pr:Obj:=cO #[(vS "translate" 322),(vS "translate" 323),(vS "/claim/cut.py" 324),(vI 4 0),(vI 1 0),(vI 0 0),(vI 0 0),(vI 3 0),(.ref 37),(.bool true),(vI 276 0),(.ref 38),.none,(.ref 39),(.ref 40),(.ref 41),(vI 328 0),(vI 4 0),(vS "/claim/cut.py" 329)]
def PA:Obj:=fT "translate" "translate" (vS "cpy313.fnmatch" 282) 42
def Pa:Obj:=⟨(.type "bytes_iterator"),none,(.fields #[.none,(vI 24 0)]),#[]⟩
def QH:Obj:=dT #[⟨40,(vI 40 334),(vS "\\(" 338)⟩,⟨41,(vI 41 340),(vS "\\)" 344)⟩,⟨91,(vI 91 346),(vS "\\[" 350)⟩,⟨93,(vI 93 352),(vS "\\]" 356)⟩,⟨123,(vI 123 358),(vS "\\{" 362)⟩,⟨125,(vI 125 364),(vS "\\}" 368)⟩,⟨63,(vI 63 370),(vS "\\?" 374)⟩,⟨42,(vI 42 376),(vS "\\*" 380)⟩,⟨43,(vI 43 382),(vS "\\+" 386)⟩,⟨45,(vI 45 388),(vS "\\-" 392)⟩,⟨124,(vI 124 394),(vS "\\|" 398)⟩,⟨94,(vI 94 400),(vS "\\^" 404)⟩,⟨36,(vI 36 406),(vS "\\$" 410)⟩,⟨92,(vI 92 412),(vS "\\\\" 416)⟩,⟨46,(vI 46 418),(vS "\\." 422)⟩,⟨38,(vI 38 424),(vS "\\&" 428)⟩,⟨126,(vI 126 430),(vS "\\~" 434)⟩,⟨35,(vI 35 436),(vS "\\#" 440)⟩,⟨32,(vI 32 442),(vS "\\ " 446)⟩,⟨9,(vI 9 448),(vS "\\\x09" 452)⟩,⟨10,(vI 10 454),(vS "\\\n" 458)⟩,⟨13,(vI 13 460),(vS "\\\x0d" 464)⟩,⟨11,(vI 11 466),(vS "\\\x0b" 470)⟩,⟨12,(vI 12 472),(vS "\\\x0c" 476)⟩] 24
def Ox:Obj:=dT #[] 2
def QL:Obj:=⟨(.type "StopIteration"),none,(.fields #[(.ref 47),.none,.none,.none,(.bool false),.none]),#[]⟩
def E4:Obj:=dT ⟨(kE P "__name__" 165 (vS "cpy313.heapq" 520))::(eL P).take 18⟩ 19
def B3:Obj:=tF #[(vI 4 0),(vI 0 0),(.ref 42),(vI 10 0),(vI 0 0),(.ref 54),(vI 17 0),(vI 0 0),(.ref 61),(vI 79 0),(vI 0 0),(.ref 68),(vI 107 0),(vI 0 0),(.ref 75),(vI 110 0),(vI 0 0),(.ref 82),(vI 118 0),(vI 0 0),(.ref 89)]
def SF:Obj:=sT #[(vS "pattern" 482)] 0
def Sv:Obj:=⟨.none,none,(.func (Fa "escape" (qS "escape") 0 [] .none .none .none .none none .none .none 0)),#[]⟩
def RY:Obj:=cO #[(vS "escape" 479),(vS "escape" 480),(vS "/claim/cut.py" 481),(vI 10 0),(vI 1 0),(vI 0 0),(vI 0 0),(vI 3 0),(.ref 49),(.bool true),(vI 276 0),(.ref 50),.none,(.ref 51),(.ref 52),(.ref 53),(vI 483 0),(vI 10 0),(vS "/claim/cut.py" 484)]
def QQ:Obj:=fT "escape" "escape" (vS "re" 331) 54
def TG:Obj:=sT #[(vS "pat" 491),(vS "STAR" 492),(vS "QUESTION_MARK" 493),(vS "res" 494),(vS "add" 495),(vS "i" 496),(vS "n" 497),(vS "c" 498),(vS "j" 499),(vS "stuff" 500),(vS "chunks" 501),(vS "k" 502),(vS "chunk" 503)] 0
def Qa:Obj:=⟨.none,none,(.func (Fa "_translate" (qS "_translate") 0 [] .none .none .none .none none .none .none 0)),#[]⟩
def RF:Obj:=cO #[(vS "_translate" 488),(vS "_translate" 489),(vS "/claim/cut.py" 490),(vI 17 0),(vI 3 0),(vI 0 0),(vI 0 0),(vI 3 0),(.ref 56),(.bool true),(vI 276 0),(.ref 57),.none,(.ref 58),(.ref 59),(.ref 60),(vI 504 0),(vI 17 0),(vS "/claim/cut.py" 505)]
def TL:Obj:=fT "_translate" "_translate" (vS "cpy313.fnmatch" 486) 61
def iA:Obj:=sT #[(vS "inp" 510),(vS "STAR" 511),(vS "res" 512),(vS "add" 513),(vS "i" 514),(vS "n" 515),(vS "fixed" 516)] 0
def dQ:Obj:=⟨.none,none,(.func (Fa "_join_translated_parts" (qS "_join_translated_parts") 0 [] .none .none .none .none none .none .none 0)),#[]⟩
def dZ:Obj:=cO #[(vS "_join_translated_parts" 507),(vS "_join_translated_parts" 508),(vS "/claim/cut.py" 509),(vI 79 0),(vI 2 0),(vI 0 0),(vI 0 0),(vI 3 0),(.ref 63),(.bool true),(vI 276 0),(.ref 64),.none,(.ref 65),(.ref 66),(.ref 67),(vI 517 0),(vI 79 0),(vS "/claim/cut.py" 518)]
def WC:Obj:=fT "_join_translated_parts" "_join_translated_parts" (vS "cpy313.fnmatch" 486) 68
def Vl:Obj:=sT #[(vS "heap" 525),(vS "item" 526)] 0
def Wc:Obj:=⟨.none,none,(.func (Fa "heappush" (qS "heappush") 0 [] .none .none .none .none none .none .none 0)),#[]⟩
def WS:Obj:=cO #[(vS "heappush" 522),(vS "heappush" 523),(vS "/claim/cut.py" 524),(vI 107 0),(vI 2 0),(vI 0 0),(vI 0 0),(vI 3 0),(.ref 70),(.bool true),(vI 276 0),(.ref 71),.none,(.ref 72),(.ref 73),(.ref 74),(vI 527 0),(vI 107 0),(vS "/claim/cut.py" 528)]
def UI:Obj:=fT "heappush" "heappush" (vS "cpy313.heapq" 520) 75
def WT:Obj:=sT #[(vS "heap" 533),(vS "lastelt" 534),(vS "returnitem" 535)] 0
def WW:Obj:=⟨.none,none,(.func (Fa "heappop" (qS "heappop") 0 [] .none .none .none .none none .none .none 0)),#[]⟩
def VN:Obj:=cO #[(vS "heappop" 530),(vS "heappop" 531),(vS "/claim/cut.py" 532),(vI 110 0),(vI 1 0),(vI 0 0),(vI 0 0),(vI 3 0),(.ref 77),(.bool true),(vI 276 0),(.ref 78),.none,(.ref 79),(.ref 80),(.ref 81),(vI 536 0),(vI 110 0),(vS "/claim/cut.py" 537)]
def VE:Obj:=fT "heappop" "heappop" (vS "cpy313.heapq" 520) 82
def Ua:Obj:=sT #[(vS "heap" 542),(vS "startpos" 543),(vS "pos" 544),(vS "newitem" 545),(vS "parentpos" 546),(vS "parent" 547)] 0
def VU:Obj:=⟨.none,none,(.func (Fa "_siftdown" (qS "_siftdown") 0 [] .none .none .none .none none .none .none 0)),#[]⟩
def VV:Obj:=cO #[(vS "_siftdown" 539),(vS "_siftdown" 540),(vS "/claim/cut.py" 541),(vI 118 0),(vI 3 0),(vI 0 0),(vI 0 0),(vI 3 0),(.ref 84),(.bool true),(vI 276 0),(.ref 85),.none,(.ref 86),(.ref 87),(.ref 88),(vI 548 0),(vI 118 0),(vS "/claim/cut.py" 549)]
def Vo:Obj:=fT "_siftdown" "_siftdown" (vS "cpy313.heapq" 520) 89
def J0:Obj:=dT ⟨(kE P "__name__" 165 (vS "cpy313.pickletools" 564))::(eL P).take 22⟩ 23
def K5:Obj:=tF #[(vI 4 0),(vI 0 0),(.ref 42),(vI 10 0),(vI 0 0),(.ref 54),(vI 17 0),(vI 0 0),(.ref 61),(vI 79 0),(vI 0 0),(.ref 68),(vI 107 0),(vI 0 0),(.ref 75),(vI 110 0),(vI 0 0),(.ref 82),(vI 118 0),(vI 0 0),(.ref 89),(vI 129 0),(vI 0 0),(.ref 96),(vI 144 0),(vI 0 0),(.ref 103),(vI 149 0),(vI 0 0),(.ref 110),(vI 156 0),(vI 0 0),(.ref 117)]
def fN:Obj:=sT #[(vS "heap" 554),(vS "pos" 555),(vS "endpos" 556),(vS "startpos" 557),(vS "newitem" 558),(vS "childpos" 559),(vS "rightpos" 560)] 0
def bW:Obj:=⟨.none,none,(.func (Fa "_siftup" (qS "_siftup") 0 [] .none .none .none .none none .none .none 0)),#[]⟩
def bS:Obj:=cO #[(vS "_siftup" 551),(vS "_siftup" 552),(vS "/claim/cut.py" 553),(vI 129 0),(vI 2 0),(vI 0 0),(vI 0 0),(vI 3 0),(.ref 91),(.bool true),(vI 276 0),(.ref 92),.none,(.ref 93),(.ref 94),(.ref 95),(vI 561 0),(vI 129 0),(vS "/claim/cut.py" 562)]
def oX:Obj:=fT "_siftup" "_siftup" (vS "cpy313.heapq" 520) 96
def mI:Obj:=sT #[(vS "f" 569),(vS "data" 570)] 0
def dG:Obj:=⟨.none,none,(.func (Fa "read_uint1" (qS "read_uint1") 0 [] .none .none .none .none none .none .none 0)),#[]⟩
def aO:Obj:=cO #[(vS "read_uint1" 566),(vS "read_uint1" 567),(vS "/claim/cut.py" 568),(vI 144 0),(vI 1 0),(vI 0 0),(vI 0 0),(vI 3 0),(.ref 98),(.bool true),(vI 276 0),(.ref 99),.none,(.ref 100),(.ref 101),(.ref 102),(vI 571 0),(vI 144 0),(vS "/claim/cut.py" 572)]
def aZ:Obj:=fT "read_uint1" "read_uint1" (vS "cpy313.pickletools" 564) 103
def iD:Obj:=sT #[(vS "f" 577),(vS "n" 578),(vS "data" 579)] 0
def jY:Obj:=⟨.none,none,(.func (Fa "read_string1" (qS "read_string1") 0 [] .none .none .none .none none .none .none 0)),#[]⟩
def kB:Obj:=cO #[(vS "read_string1" 574),(vS "read_string1" 575),(vS "/claim/cut.py" 576),(vI 149 0),(vI 1 0),(vI 0 0),(vI 0 0),(vI 3 0),(.ref 105),(.bool true),(vI 276 0),(.ref 106),.none,(.ref 107),(.ref 108),(.ref 109),(vI 580 0),(vI 149 0),(vS "/claim/cut.py" 581)]
def bE:Obj:=fT "read_string1" "read_string1" (vS "cpy313.pickletools" 564) 110
def eS:Obj:=⟨(.type "builtin_function_or_method"),none,(.fields #[(.builtin "type.__prepare__"),(.type "type")]),#[]⟩
def jC:Obj:=dT #[(kE P "__module__" 590 (vS "cpy313.pickletools" 564)),(kE P "__qualname__" 592 (vS "_Example" 591)),(kE P "__firstlineno__" 594 (vI 156 593)),(kE P "__init__" 602 (.ref 125)),(kE P "__static_attributes__" 604 (.ref 126))] 5
def jM:Obj:=tF #[(vI 158 0),(vI 4 0),(.ref 124)]
def hH:Obj:=cO #[(vS "_Example" 585),(vS "_Example" 586),(vS "/claim/cut.py" 587),(vI 156 0),(vI 0 0),(vI 0 0),(vI 0 0),(vI 0 0),(.ref 115),(.bool false),(vI 276 0),(.ref 116),.none,.none,.none,.none,(vI 588 0),(vI 156 0),(vS "/claim/cut.py" 589)]
def dY:Obj:=⟨(.type "frame"),none,.plain,#[(some (.ref 117)),(some (.ref 3)),(some (.ref 114)),none,(some (vS "cpy313.pickletools" 564)),none,(some (.ref 0))]⟩
def bI:Obj:=sT #[(vS "self" 598),(vS "value" 599)] 0
def iH:Obj:=⟨.none,none,(.func (Fa "__init__" (qS "_Example.__init__") 0 [] .none .none .none .none none .none .none 0)),#[]⟩
def dX:Obj:=cO #[(vS "__init__" 595),(vS "_Example.__init__" 596),(vS "/claim/cut.py" 597),(vI 158 0),(vI 2 0),(vI 0 0),(vI 0 0),(vI 3 0),(.ref 119),(.bool true),(vI 276 0),(.ref 120),.none,(.ref 121),(.ref 122),(.ref 123),(vI 600 0),(vI 158 0),(vS "/claim/cut.py" 601)]
def eJ:Obj:=fT "__init__" "_Example.__init__" (vS "cpy313.pickletools" 564) 124
def jI:Obj:=sT #[(vS "value" 603)] 0
def mT:Obj:=dT #[(kE P "__module__" 590 (vS "cpy313.pickletools" 564)),(kE P "__firstlineno__" 594 (vI 156 593)),(kE P "__init__" 602 (.ref 125)),(kE P "__static_attributes__" 604 (.ref 126)),(kE P "__dict__" 606 (.ref 129)),(kE P "__weakref__" 608 (.ref 130)),(kE P "__doc__" 609 .none)] 4
def xV:Obj:=⟨(.type "type"),none,(.cls {name:=(qS "_Example"),bases:=[(.type "object")],mro:=[(.ref 128),(.type "object")],ns:=127,qualname:=(qS "_Example"),hasDict:=true,slotNames:=[],subclasses:=[],abstract:=false,collection:=none,hasDel:=false}),#[none,none,(some (vS "_Example" 583)),(some (vS "_Example" 591)),(some (.builtin "object.__new__")),(some (.bool true))]⟩
def tC:Obj:=⟨(.type "getset_descriptor"),none,(.fields #[(vS "__dict__" 605),(.ref 128),(.builtin "function.__dict__"),(.builtin "function.__dict__#set")]),#[]⟩
def rY:Obj:=⟨(.type "getset_descriptor"),none,(.fields #[(vS "__weakref__" 607),(.ref 128),(.builtin "ExceptionGroup.__weakref__"),.none]),#[]⟩
def uD:Obj:=⟨(.type "super"),none,(.fields #[(.ref 128),(.ref 128),(.ref 128)]),#[]⟩
def nY:Obj:=⟨(.type "builtin_function_or_method"),none,(.fields #[(.builtin "object.__init_subclass__"),(.ref 128)]),#[]⟩
def Q0:Obj:=dT ⟨(kE P "__name__" 165 (vS "law_rx0126_01" 612))::(eL P).take 26⟩ 27
def sI:Obj:=tF #[(vI 4 0),(vI 0 0),(.ref 42),(vI 10 0),(vI 0 0),(.ref 54),(vI 17 0),(vI 0 0),(.ref 61),(vI 79 0),(vI 0 0),(.ref 68),(vI 107 0),(vI 0 0),(.ref 75),(vI 110 0),(vI 0 0),(.ref 82),(vI 118 0),(vI 0 0),(.ref 89),(vI 129 0),(vI 0 0),(.ref 96),(vI 144 0),(vI 0 0),(.ref 103),(vI 149 0),(vI 0 0),(.ref 110),(vI 156 0),(vI 0 0),(.ref 117),(vI 161 0),(vI 0 0),(.ref 138),(vI 165 0),(vI 0 0),(.ref 145),(vI 169 0),(vI 0 0),(.ref 152),(vI 171 0),(vI 0 0),(.ref 157)]
def YG:Obj:=sT #[(vS "stream" 617),(vS "size" 618),(vS "took" 619)] 0
def Xh:Obj:=⟨.none,none,(.func (Fa "_law_take" (qS "_law_take") 0 [] .none .none .none .none none .none .none 0)),#[]⟩
def Zn:Obj:=cO #[(vS "_law_take" 614),(vS "_law_take" 615),(vS "/claim/cut.py" 616),(vI 161 0),(vI 2 0),(vI 0 0),(vI 0 0),(vI 3 0),(.ref 133),(.bool true),(vI 276 0),(.ref 134),.none,(.ref 135),(.ref 136),(.ref 137),(vI 620 0),(vI 161 0),(vS "/claim/cut.py" 621)]
def XY:Obj:=fT "_law_take" "_law_take" (vS "law_rx0126_01" 612) 138
def Yx:Obj:=sT #[(vS "octets" 626)] 0
def Yb:Obj:=sT #[(vS "stream" 627)] 0
def XJ:Obj:=⟨.none,none,(.func (Fa "_law_stream" (qS "_law_stream") 0 [] .none .none .none .none none .none .none 0)),#[]⟩
def YM:Obj:=cO #[(vS "_law_stream" 623),(vS "_law_stream" 624),(vS "/claim/cut.py" 625),(vI 165 0),(vI 1 0),(vI 0 0),(vI 0 0),(vI 3 0),(.ref 140),(.bool true),(vI 276 0),(.ref 141),.none,(.ref 142),(.ref 143),(.ref 144),(vI 628 0),(vI 165 0),(vS "/claim/cut.py" 629)]
def ZU:Obj:=fT "_law_stream" "_law_stream" (vS "law_rx0126_01" 612) 145
def XT:Obj:=sT #[(vS "text" 634)] 0
def ZT:Obj:=⟨.none,none,(.func (Fa "_law_counted" (qS "_law_counted") 0 [] .none .none .none .none none .none .none 0)),#[]⟩
def Zz:Obj:=cO #[(vS "_law_counted" 631),(vS "_law_counted" 632),(vS "/claim/cut.py" 633),(vI 169 0),(vI 1 0),(vI 0 0),(vI 0 0),(vI 3 0),(.ref 147),(.bool true),(vI 276 0),(.ref 148),.none,(.ref 149),(.ref 150),(.ref 151),(vI 635 0),(vI 169 0),(vS "/claim/cut.py" 636)]
def XC:Obj:=fT "_law_counted" "_law_counted" (vS "law_rx0126_01" 612) 152
def YC:Obj:=⟨.none,none,(.func (Fa "_law_row" (qS "_law_row") 0 [] .none .none .none .none none .none .none 0)),#[]⟩
def XK:Obj:=cO #[(vS "_law_row" 638),(vS "_law_row" 639),(vS "/claim/cut.py" 640),(vI 171 0),(vI 1 0),(vI 0 0),(vI 0 0),(vI 3 0),(.ref 154),(.bool true),(vI 276 0),(.ref 155),.none,.none,.none,(.ref 156),(vI 641 0),(vI 171 0),(vS "/claim/cut.py" 642)]
def Zv:Obj:=fT "_law_row" "_law_row" (vS "law_rx0126_01" 612) 157
def yL:Obj:=dT ⟨(kE P "__name__" 165 (vS "law_rx0126_01" 612))::(eL P).take 32⟩ 33
def oH:Obj:=tF #[(vI 4 0),(vI 0 0),(.ref 42),(vI 10 0),(vI 0 0),(.ref 54),(vI 17 0),(vI 0 0),(.ref 61),(vI 79 0),(vI 0 0),(.ref 68),(vI 107 0),(vI 0 0),(.ref 75),(vI 110 0),(vI 0 0),(.ref 82),(vI 118 0),(vI 0 0),(.ref 89),(vI 129 0),(vI 0 0),(.ref 96),(vI 144 0),(vI 0 0),(.ref 103),(vI 149 0),(vI 0 0),(.ref 110),(vI 156 0),(vI 0 0),(.ref 117),(vI 161 0),(vI 0 0),(.ref 138),(vI 165 0),(vI 0 0),(.ref 145),(vI 169 0),(vI 0 0),(.ref 152),(vI 171 0),(vI 0 0),(.ref 157),(vI 175 0),(vI 0 0),(.ref 162),(vI 177 0),(vI 0 0),(.ref 167),(vI 185 0),(vI 0 0),(.ref 172),(vI 203 0),(vI 0 0),(.ref 179),(vI 223 0),(vI 0 0),(.ref 184),(vI 233 0),(vI 0 0),(.ref 189)]
def xM:Obj:=⟨.none,none,(.func (Fa "_law_name" (qS "_law_name") 0 [] .none .none .none .none none .none .none 0)),#[]⟩
def vE:Obj:=cO #[(vS "_law_name" 644),(vS "_law_name" 645),(vS "/claim/cut.py" 646),(vI 175 0),(vI 1 0),(vI 0 0),(vI 0 0),(vI 3 0),(.ref 159),(.bool true),(vI 276 0),(.ref 160),.none,.none,.none,(.ref 161),(vI 647 0),(vI 175 0),(vS "/claim/cut.py" 648)]
def tG:Obj:=fT "_law_name" "_law_name" (vS "law_rx0126_01" 612) 162
def mA:Obj:=⟨.none,none,(.func (Fa "_law_means" (qS "_law_means") 0 [] .none .none .none .none none .none .none 0)),#[]⟩
def xR:Obj:=cO #[(vS "_law_means" 650),(vS "_law_means" 651),(vS "/claim/cut.py" 652),(vI 177 0),(vI 2 0),(vI 0 0),(vI 0 0),(vI 3 0),(.ref 164),(.bool true),(vI 276 0),(.ref 165),.none,.none,.none,(.ref 166),(vI 653 0),(vI 177 0),(vS "/claim/cut.py" 654)]
def nM:Obj:=fT "_law_means" "_law_means" (vS "law_rx0126_01" 612) 167
def nU:Obj:=⟨.none,none,(.func (Fa "_law_piece" (qS "_law_piece") 0 [] .none .none .none .none none .none .none 0)),#[]⟩
def wD:Obj:=cO #[(vS "_law_piece" 656),(vS "_law_piece" 657),(vS "/claim/cut.py" 658),(vI 185 0),(vI 2 0),(vI 0 0),(vI 0 0),(vI 3 0),(.ref 169),(.bool true),(vI 276 0),(.ref 170),.none,.none,.none,(.ref 171),(vI 659 0),(vI 185 0),(vS "/claim/cut.py" 660)]
def wF:Obj:=fT "_law_piece" "_law_piece" (vS "law_rx0126_01" 612) 172
def rZ:Obj:=sT #[(vS "text" 665),(vS "body" 666),(vS "parts" 667),(vS "k" 668),(vS "size" 669),(vS "signs" 670)] 0
def lN:Obj:=⟨.none,none,(.func (Fa "_law_parts" (qS "_law_parts") 0 [] .none .none .none .none none .none .none 0)),#[]⟩
def xW:Obj:=cO #[(vS "_law_parts" 662),(vS "_law_parts" 663),(vS "/claim/cut.py" 664),(vI 203 0),(vI 1 0),(vI 0 0),(vI 0 0),(vI 3 0),(.ref 174),(.bool true),(vI 276 0),(.ref 175),.none,(.ref 176),(.ref 177),(.ref 178),(vI 671 0),(vI 203 0),(vS "/claim/cut.py" 672)]
def pJ:Obj:=fT "_law_parts" "_law_parts" (vS "law_rx0126_01" 612) 179
def uE:Obj:=⟨.none,none,(.func (Fa "_law_takes" (qS "_law_takes") 0 [] .none .none .none .none none .none .none 0)),#[]⟩
def sR:Obj:=cO #[(vS "_law_takes" 674),(vS "_law_takes" 675),(vS "/claim/cut.py" 676),(vI 223 0),(vI 2 0),(vI 0 0),(vI 0 0),(vI 3 0),(.ref 181),(.bool true),(vI 276 0),(.ref 182),.none,.none,.none,(.ref 183),(vI 677 0),(vI 223 0),(vS "/claim/cut.py" 678)]
def sN:Obj:=fT "_law_takes" "_law_takes" (vS "law_rx0126_01" 612) 184
def lI:Obj:=⟨.none,none,(.func (Fa "_law_read" (qS "_law_read") 0 [] .none .none .none .none none .none .none 0)),#[]⟩
def tD:Obj:=cO #[(vS "_law_read" 680),(vS "_law_read" 681),(vS "/claim/cut.py" 682),(vI 233 0),(vI 1 0),(vI 0 0),(vI 0 0),(vI 3 0),(.ref 186),(.bool true),(vI 276 0),(.ref 187),.none,.none,.none,(.ref 188),(vI 683 0),(vI 233 0),(vS "/claim/cut.py" 684)]
def oJ:Obj:=fT "_law_read" "_law_read" (vS "law_rx0126_01" 612) 189
def oT:Obj:=dT ⟨(kE P "__name__" 165 (vS "law_rx0126_01" 612))::(eL P).take 38⟩ 39
def mJ:Obj:=tF #[(vI 4 0),(vI 0 0),(.ref 42),(vI 10 0),(vI 0 0),(.ref 54),(vI 17 0),(vI 0 0),(.ref 61),(vI 79 0),(vI 0 0),(.ref 68),(vI 107 0),(vI 0 0),(.ref 75),(vI 110 0),(vI 0 0),(.ref 82),(vI 118 0),(vI 0 0),(.ref 89),(vI 129 0),(vI 0 0),(.ref 96),(vI 144 0),(vI 0 0),(.ref 103),(vI 149 0),(vI 0 0),(.ref 110),(vI 156 0),(vI 0 0),(.ref 117),(vI 161 0),(vI 0 0),(.ref 138),(vI 165 0),(vI 0 0),(.ref 145),(vI 169 0),(vI 0 0),(.ref 152),(vI 171 0),(vI 0 0),(.ref 157),(vI 175 0),(vI 0 0),(.ref 162),(vI 177 0),(vI 0 0),(.ref 167),(vI 185 0),(vI 0 0),(.ref 172),(vI 203 0),(vI 0 0),(.ref 179),(vI 223 0),(vI 0 0),(.ref 184),(vI 233 0),(vI 0 0),(.ref 189),(vI 248 0),(vI 0 0),(.ref 196),(vI 256 0),(vI 0 0),(.ref 203),(vI 267 0),(vI 0 0),(.ref 208),(vI 274 0),(vI 0 0),(.ref 213),(vI 282 0),(vI 0 0),(.ref 218),(vI 288 0),(vI 0 0),(.ref 223)]
def yY:Obj:=sT #[(vS "name" 689),(vS "takes" 690),(vS "seats" 691),(vS "tried" 692),(vS "j" 693)] 0
def uV:Obj:=⟨.none,none,(.func (Fa "_law_seat" (qS "_law_seat") 0 [] .none .none .none .none none .none .none 0)),#[]⟩
def sF:Obj:=cO #[(vS "_law_seat" 686),(vS "_law_seat" 687),(vS "/claim/cut.py" 688),(vI 248 0),(vI 4 0),(vI 0 0),(vI 0 0),(vI 3 0),(.ref 191),(.bool true),(vI 276 0),(.ref 192),.none,(.ref 193),(.ref 194),(.ref 195),(vI 694 0),(vI 248 0),(vS "/claim/cut.py" 695)]
def mR:Obj:=fT "_law_seat" "_law_seat" (vS "law_rx0126_01" 612) 196
def tO:Obj:=sT #[(vS "weights" 700),(vS "takes" 701),(vS "heap" 702),(vS "k" 703),(vS "seats" 704),(vS "chosen" 705),(vS "name" 706)] 0
def uG:Obj:=⟨.none,none,(.func (Fa "_law_seated" (qS "_law_seated") 0 [] .none .none .none .none none .none .none 0)),#[]⟩
def vN:Obj:=cO #[(vS "_law_seated" 697),(vS "_law_seated" 698),(vS "/claim/cut.py" 699),(vI 256 0),(vI 2 0),(vI 0 0),(vI 0 0),(vI 3 0),(.ref 198),(.bool true),(vI 276 0),(.ref 199),.none,(.ref 200),(.ref 201),(.ref 202),(vI 707 0),(vI 256 0),(vS "/claim/cut.py" 708)]
def vB:Obj:=fT "_law_seated" "_law_seated" (vS "law_rx0126_01" 612) 203
def vH:Obj:=⟨.none,none,(.func (Fa "_law_good" (qS "_law_good") 0 [] .none .none .none .none none .none .none 0)),#[]⟩
def tJ:Obj:=cO #[(vS "_law_good" 710),(vS "_law_good" 711),(vS "/claim/cut.py" 712),(vI 267 0),(vI 1 0),(vI 0 0),(vI 0 0),(vI 3 0),(.ref 205),(.bool true),(vI 276 0),(.ref 206),.none,.none,.none,(.ref 207),(vI 713 0),(vI 267 0),(vS "/claim/cut.py" 714)]
def pC:Obj:=fT "_law_good" "_law_good" (vS "law_rx0126_01" 612) 208
def lL:Obj:=⟨.none,none,(.func (Fa "_law_first" (qS "_law_first") 0 [] .none .none .none .none none .none .none 0)),#[]⟩
def uC:Obj:=cO #[(vS "_law_first" 716),(vS "_law_first" 717),(vS "/claim/cut.py" 718),(vI 274 0),(vI 2 0),(vI 0 0),(vI 0 0),(vI 3 0),(.ref 210),(.bool true),(vI 276 0),(.ref 211),.none,.none,.none,(.ref 212),(vI 719 0),(vI 274 0),(vS "/claim/cut.py" 720)]
def xA:Obj:=fT "_law_first" "_law_first" (vS "law_rx0126_01" 612) 213
def uM:Obj:=⟨.none,none,(.func (Fa "_law_beaten" (qS "_law_beaten") 0 [] .none .none .none .none none .none .none 0)),#[]⟩
def yD:Obj:=cO #[(vS "_law_beaten" 722),(vS "_law_beaten" 723),(vS "/claim/cut.py" 724),(vI 282 0),(vI 3 0),(vI 0 0),(vI 0 0),(vI 3 0),(.ref 215),(.bool true),(vI 276 0),(.ref 216),.none,.none,.none,(.ref 217),(vI 725 0),(vI 282 0),(vS "/claim/cut.py" 726)]
def yQ:Obj:=fT "_law_beaten" "_law_beaten" (vS "law_rx0126_01" 612) 218
def tI:Obj:=⟨.none,none,(.func (Fa "law" (qS "law") 0 [] .none .none .none .none none .none .none 0)),#[]⟩
def wB:Obj:=cO #[(vS "law" 728),(vS "law" 729),(vS "/claim/cut.py" 730),(vI 288 0),(vI 1 0),(vI 0 0),(vI 0 0),(vI 3 0),(.ref 220),(.bool true),(vI 276 0),(.ref 221),.none,.none,.none,(.ref 222),(vI 731 0),(vI 288 0),(vS "/claim/cut.py" 732)]
def xU:Obj:=fT "law" "law" (vS "law_rx0126_01" 612) 223
end
def fH(P:Params):Heap:=⟨#[(ZO P),(ho1 P),(YS P),(Z7 P),Xl,XQ,ho6,AZ,Ba,aL,LB,(LT P),Ls,(Kf P),MH,AZ,Lc,Kl,Lh,Li,(LM P),(LF P),Ll,LR,LP,Ke,Ki,Kz],{}⟩
def fS(w:World):Shared:=⟨fH w.params,#[],{},276,(start (opening EX)).1.os⟩
section
variable(P:Params)
def R5:BT:=.node (ZO P) (.node (ho1 P) (.node (Z7 P) (.node AZ (.node AZ (lf Pc) .nil) (lf LR)) (.node (LT P) (lf Li) (lf Kz))) (.node XQ (.node aL (lf Kl) (lf Ke)) (.node (Kf P) (lf (LF P)) (lf Ba)))) (.node (YS P) (.node Xl (.node Ba (lf Lc) (lf LP)) (.node Ls (lf (LM P)) (lf AZ))) (.node ho6 (.node LB (lf Lh) (lf Ki)) (.node MH (lf Ll) (lf MS))))
def C6:BT:=.node (ZO P) (.node (ho1 P) (.node (S4 P) (.node AZ (.node AZ (lf Pc) (lf AZ)) (.node LR (lf Pj) .nil)) (.node (LT P) (.node Li (lf Qh) .nil) (.node Kz (lf PA) .nil))) (.node XQ (.node aL (.node Kl (lf ho6) .nil) (.node Ke (lf Pq) .nil)) (.node (Kf P) (.node (LF P) (lf AZ) .nil) (.node J2 (lf QH) .nil)))) (.node (YS P) (.node Xl (.node Ba (.node Lc (lf Rq) (lf QL)) (.node LP (lf AZ) .nil)) (.node Ls (.node (LM P) (lf Ro) .nil) (.node AZ (lf Pa) .nil))) (.node ho6 (.node LB (.node Lh (lf Qz) .nil) (.node Ki (lf Pr) .nil)) (.node MH (.node Ll (lf Ba) .nil) (.node MS (lf Ox) .nil))))
def LD:BT:=.node AZ (lf AZ) .nil
def oM:BT:=.node (ZO P) (.node (ho1 P) (.node (E4 P) (.node AZ (.node AZ (.node Pc (lf AZ) .nil) (.node AZ (lf WT) .nil)) (.node LR (.node Pj (lf Ba) .nil) (.node QQ (lf AZ) .nil))) (.node (LT P) (.node Li (.node Qh (lf dQ) .nil) (.node SF (lf VE) .nil)) (.node Kz (.node PA (lf WS) .nil) (lf AZ)))) (.node XQ (.node aL (.node Kl (.node ho6 (lf iA) .nil) (.node AZ (lf WW) .nil)) (.node Ke (.node Pq (lf AZ) .nil) (.node Ba (lf VV) .nil))) (.node (Kf P) (.node (LF P) (.node AZ (lf WC) .nil) (.node Sv (lf Ba) .nil)) (.node B3 (.node QH (lf AZ) .nil) (lf RF))))) (.node (YS P) (.node Xl (.node Ba (.node Lc (.node Rq (lf Ba) .nil) (.node QL (lf AZ) .nil)) (.node LP (.node AZ (lf Vl) .nil) (.node AZ (lf VU) .nil))) (.node Ls (.node (LM P) (.node Ro (lf dZ) .nil) LD) (.node AZ (.node Pa (lf UI) .nil) (lf Qa)))) (.node ho6 (.node LB (.node Lh (.node Qz (lf AZ) .nil) (.node Ba (lf VN) .nil)) (.node Ki (.node Pr (lf Wc) .nil) (.node TG (lf Vo) .nil))) (.node MH (.node Ll (.node Ba (lf AZ) .nil) (.node RY (lf Ua) .nil)) (.node MS (.node Ox (lf Ba) .nil) (lf TL)))))
def YW:BT:=.node AZ (lf (mT P)) .nil
def ZD:BT:=.node Pc (YW P) (lf bW)
def Zg:BT:=.node dQ (lf uD) .nil
def YA:BT:=.node Qh Zg (lf Ba)
def Xw:BT:=.node iA (lf tC) .nil
def Yg:BT:=.node ho6 Xw (lf oX)
def XF:BT:=.node Ba (lf xV) .nil
def Zt:BT:=.node Rq XF (lf bS)
def Xm:BT:=.node dZ (lf nY) .nil
def YT:BT:=.node Ro Xm (lf mI)
def Yj:BT:=.node AZ (lf rY) .nil
def ZJ:BT:=.node Qz Yj (lf AZ)
def tZ:BT:=.node (ZO P) (.node (ho1 P) (.node (J0 P) (.node AZ (.node AZ (ZD P) (.node AZ (lf WT) (lf bE))) (.node LR (.node Pj (lf Ba) (lf aO)) (.node QQ (lf AZ) (lf AZ)))) (.node (LT P) (.node Li YA (.node SF (lf VE) (lf AZ))) (.node Kz (.node PA (lf WS) (lf iD)) (.node AZ (lf AZ) (lf iH))))) (.node XQ (.node aL (.node Kl Yg (.node AZ (lf WW) (lf eS))) (.node Ke (.node Pq (lf AZ) (lf AZ)) (.node Ba (lf VV) (lf bI)))) (.node (Kf P) (.node (LF P) (.node AZ (lf WC) (lf AZ)) (.node Sv (lf Ba) (lf hH))) (.node K5 (.node QH (lf AZ) (lf jY)) (.node RF (lf fN) (lf eJ)))))) (.node (YS P) (.node Xl (.node Ba (.node Lc Zt (.node QL (lf AZ) (lf AZ))) (.node LP (.node AZ (lf Vl) (lf aZ)) (.node AZ (lf VU) (lf Ba)))) (.node Ls (.node (LM P) YT (.node AZ (lf AZ) (lf jM))) (.node AZ (.node Pa (lf UI) (lf AZ)) (.node Qa (lf Ba) (lf dX))))) (.node ho6 (.node LB (.node Lh ZJ (.node Ba (lf VN) (lf (jC P)))) (.node Ki (.node Pr (lf Wc) (lf Ba)) (.node TG (lf Vo) (lf AZ)))) (.node MH (.node Ll (.node Ba (lf AZ) (lf dG)) (.node RY (lf Ua) (lf dY))) (.node MS (.node Ox (lf Ba) (lf kB)) (.node TL (lf AZ) (lf jI))))))
def YI:BT:=.node WT (lf Yb) .nil
def Xf:BT:=.node Ba (lf YG) .nil
def Yh:BT:=.node AZ (lf ZT) .nil
def Zy:BT:=.node VE (lf AZ) .nil
def ZM:BT:=.node WS (lf XY) .nil
def Ec:BT:=.node AZ (lf Ba) .nil
def Zi:BT:=.node WW (lf YM) .nil
def Xg:BT:=.node AZ (lf Xh) .nil
def aD:BT:=.node VV (lf XC) .nil
def Yr:BT:=.node WC (lf AZ) .nil
def aH:BT:=.node Ba (lf XT) .nil
def Yn:BT:=.node fN (lf XK) .nil
def Xi:BT:=.node AZ (lf XJ) .nil
def Yd:BT:=.node Vl (lf AZ) .nil
def ZV:BT:=.node VU (lf Zz) .nil
def YY:BT:=.node UI (lf AZ) .nil
def YK:BT:=.node Ba (lf YC) .nil
def Xr:BT:=.node VN (lf ZU) .nil
def Zu:BT:=.node Wc (lf Zn) .nil
def ZS:BT:=.node Vo (lf AZ) .nil
def Xd:BT:=.node Ua (lf AZ) .nil
def YJ:BT:=.node Ba (lf Yx) .nil
def aK:BT:=.node AZ (lf Zv) .nil
def qI:BT:=.node (ZO P) (.node (ho1 P) (.node (Q0 P) (.node AZ (.node AZ (ZD P) (.node AZ YI (lf bE))) (.node LR (.node Pj Xf (lf aO)) (.node QQ Yh (lf AZ)))) (.node (LT P) (.node Li YA (.node SF Zy (lf AZ))) (.node Kz (.node PA ZM (lf iD)) (.node AZ Ec (lf iH))))) (.node XQ (.node aL (.node Kl Yg (.node AZ Zi (lf eS))) (.node Ke (.node Pq Xg (lf AZ)) (.node Ba aD (lf bI)))) (.node (Kf P) (.node (LF P) (.node AZ Yr (lf AZ)) (.node Sv aH (lf hH))) (.node sI (.node QH Ec (lf jY)) (.node RF Yn (lf eJ)))))) (.node (YS P) (.node Xl (.node Ba (.node Lc Zt (.node QL Xi (lf AZ))) (.node LP (.node AZ Yd (lf aZ)) (.node AZ ZV (lf Ba)))) (.node Ls (.node (LM P) YT (.node AZ Ec (lf jM))) (.node AZ (.node Pa YY (lf AZ)) (.node Qa YK (lf dX))))) (.node ho6 (.node LB (.node Lh ZJ (.node Ba Xr (lf (jC P)))) (.node Ki (.node Pr Zu (lf Ba)) (.node TG ZS (lf AZ)))) (.node MH (.node Ll (.node Ba Ec (lf dG)) (.node RY Xd (lf dY))) (.node MS (.node Ox YJ (lf kB)) (.node TL aK (lf jI))))))
def XH:BT:=.node bE (lf Ba) .nil
def Xe:BT:=.node aO (lf xR) .nil
def ZF:BT:=.node AZ (lf uE) .nil
def Zw:BT:=.node Ba (lf tG) .nil
def YQ:BT:=.node AZ (lf xW) .nil
def aB:BT:=.node iD (lf nU) .nil
def Xc:BT:=.node iH (lf Ba) .nil
def Xx:BT:=.node oX (lf xM) .nil
def ZY:BT:=.node eS (lf AZ) .nil
def Xk:BT:=.node bI (lf sN) .nil
def ZB:BT:=.node hH (lf AZ) .nil
def Zd:BT:=.node jY (lf wF) .nil
def ZP:BT:=.node eJ (lf tD) .nil
def YX:BT:=.node AZ (lf rZ) .nil
def Yz:BT:=.node aZ (lf nM) .nil
def Wz:BT:=.node Ba (lf sR) .nil
def Zr:BT:=.node mI (lf AZ) .nil
def XD:BT:=.node jM (lf pJ) .nil
def aI:BT:=.node AZ (lf wD) .nil
def XW:BT:=.node dX (lf lI) .nil
def Yp:BT:=.node AZ (lf vE) .nil
def ZA:BT:=.node (jC P) (lf lN) .nil
def XG:BT:=.node Ba (lf Ba) .nil
def XM:BT:=.node dG (lf mA) .nil
def Za:BT:=.node dY (lf Ba) .nil
def Zc:BT:=.node kB (lf AZ) .nil
def Zm:BT:=.node jI (lf oJ) .nil
def mE:BT:=.node (ZO P) (.node (ho1 P) (.node (yL P) (.node AZ (.node AZ (.node Pc (YW P) (.node bW (lf AZ) .nil)) (.node AZ YI XH)) (.node LR (.node Pj Xf Xe) (.node QQ Yh ZF))) (.node (LT P) (.node Li (.node Qh Zg Zw) (.node SF Zy YQ)) (.node Kz (.node PA ZM aB) (.node AZ Ec Xc)))) (.node XQ (.node aL (.node Kl (.node ho6 Xw Xx) (.node AZ Zi ZY)) (.node Ke (.node Pq Xg LD) (.node Ba aD Xk))) (.node (Kf P) (.node (LF P) (.node AZ Yr Ec) (.node Sv aH ZB)) (.node oH (.node QH Ec Zd) (.node RF Yn ZP))))) (.node (YS P) (.node Xl (.node Ba (.node Lc (.node Rq XF (.node bS (lf Ba) .nil)) (.node QL Xi YX)) (.node LP (.node AZ Yd Yz) (.node AZ ZV Wz))) (.node Ls (.node (LM P) (.node Ro Xm Zr) (.node AZ Ec XD)) (.node AZ (.node Pa YY aI) (.node Qa YK XW)))) (.node ho6 (.node LB (.node Lh (.node Qz Yj Yp) (.node Ba Xr (ZA P))) (.node Ki (.node Pr Zu XG) (.node TG ZS LD))) (.node MH (.node Ll (.node Ba Ec XM) (.node RY Xd Za)) (.node MS (.node Ox YJ Zc) (.node TL aK Zm)))))
def Xy:BT:=.node AZ (lf Ba) (lf AZ)
def qE:BT:=.node (ZO P) (.node (ho1 P) (.node (oT P) (.node AZ (.node AZ (.node Pc (.node AZ (lf (mT P)) (lf AZ)) (.node bW (lf AZ) (lf wB))) (.node AZ (.node WT (lf Yb) (lf vH)) XH)) (.node LR (.node Pj (.node Ba (lf YG) (lf Ba)) Xe) (.node QQ (.node AZ (lf ZT) (lf AZ)) ZF))) (.node (LT P) (.node Li (.node Qh (.node dQ (lf uD) (lf uV)) Zw) (.node SF (.node VE (lf AZ) (lf Ba)) YQ)) (.node Kz (.node PA (.node WS (lf XY) (lf vN)) aB) (.node AZ (.node AZ (lf Ba) (lf yQ)) Xc)))) (.node XQ (.node aL (.node Kl (.node ho6 (.node iA (lf tC) (lf yY)) Xx) (.node AZ (.node WW (lf YM) (lf pC)) ZY)) (.node Ke (.node Pq (.node AZ (lf Xh) (lf AZ)) LD) (.node Ba (.node VV (lf XC) (lf uM)) Xk))) (.node (Kf P) (.node (LF P) (.node AZ (.node WC (lf AZ) (lf mR)) Ec) (.node Sv (.node Ba (lf XT) (lf uC)) ZB)) (.node mJ (.node QH Xy Zd) (.node RF (.node fN (lf XK) (lf Ba)) ZP))))) (.node (YS P) (.node Xl (.node Ba (.node Lc (.node Rq (.node Ba (lf xV) (lf Ba)) (.node bS (lf Ba) (lf xU))) (.node QL (.node AZ (lf XJ) (lf tJ)) YX)) (.node LP (.node AZ (.node Vl (lf AZ) (lf tO)) Yz) (.node AZ (.node VU (lf Zz) (lf Ba)) Wz))) (.node Ls (.node (LM P) (.node Ro (.node dZ (lf nY) (lf sF)) Zr) (.node AZ (.node AZ (lf Ba) (lf lL)) XD)) (.node AZ (.node Pa (.node UI (lf AZ) (lf vB)) aI) (.node Qa (.node Ba (lf YC) (lf AZ)) XW)))) (.node ho6 (.node LB (.node Lh (.node Qz (.node AZ (lf rY) (lf AZ)) Yp) (.node Ba (.node VN (lf ZU) (lf AZ)) (ZA P))) (.node Ki (.node Pr (.node Wc (lf Zn) (lf uG)) XG) (.node TG (.node Vo (lf AZ) (lf yD)) LD))) (.node MH (.node Ll (.node Ba Xy XM) (.node RY (.node Ua (lf AZ) (lf xA)) Za)) (.node MS (.node Ox (.node Ba (lf Yx) (lf Ba)) Zc) (.node TL (.node AZ (lf Zv) (lf tI)) Zm)))))
def tT1:BT:=(R5 P)
def tT2:BT:=(C6 P)
def tT3:BT:=(oM P)
def tT4:BT:=(tZ P)
def tT5:BT:=(qI P)
def tT6:BT:=(mE P)
def tT7:BT:=(qE P)
end
def zR(w:World):SharedT:=⟨tT1 w.params,32,{},#[],{},282,(start (opening EX)).1.os⟩
def U8(w:World):SharedT:=⟨tT2 w.params,49,{},#[],{},479,(start (opening EX)).1.os⟩
def X9(w:World):SharedT:=⟨tT3 w.params,91,{},#[],{},551,(start (opening EX)).1.os⟩
def U9(w:World):SharedT:=⟨tT4 w.params,133,{},#[],{},612,(start (opening EX)).1.os⟩
def S7(w:World):SharedT:=⟨tT5 w.params,159,{},#[],{},644,(start (opening EX)).1.os⟩
def sT6(w:World):SharedT:=⟨tT6 w.params,191,{},#[],{},686,(start (opening EX)).1.os⟩
def ND(w:World):SharedT:=⟨tT7 w.params,225,{},#[],{},734,(start (opening EX)).1.os⟩
theorem SO(w:World):fencedOpening treeTable EX w 9000=some (fS w):=by kernel_rfl
theorem kL(w:World):topGo treeTable EX w 28 (some (.ref 6)) 12 (fS w) (topStub EX)=some ((zR w).abs,⟨denote treeTable cT,cT,QI,[topFrame QI]⟩):=by kernel_rfl
theorem RB(w:World):segRun treeTable EX w 28 (some (.ref 6)) 1 1 (zR w).abs (blockOf bT LH cT QI [topFrame QI])=some (.next,(zR w).abs,cT,QI):=by kernel_rfl
theorem Gk(w:World):(fS w).heap.isNs mainGlobals=true∧(fS w).gens.size=0∧(fS w).heap.objs.size=28∧(fS w).heap.nsMap mainGlobals "__annotations__" = (some (.ref 6)):=⟨by kernel_rfl,rfl,rfl,by kernel_rfl⟩
def Z3:List Stmt:=(bT.drop 0).take 5
abbrev wO(w:World):Prop:=segRunT treeTable EX w 28 (some (.ref 6)) 1 1772 (zR w) (piecesOf Z3 LH cT QI [topFrame QI])=some (Flow.next,U8 w,cT,(Ov 9 0 9 18))
theorem jW(w:World):wO ((w.withFollow "special-get-raises" false).withFollow "comprehension-iter-twice" false):=by kernel_rfl
theorem jD(w:World):wO ((w.withFollow "special-get-raises" false).withFollow "comprehension-iter-twice" true):=by kernel_rfl
theorem dI(w:World):wO ((w.withFollow "special-get-raises" true).withFollow "comprehension-iter-twice" false):=by kernel_rfl
theorem dA(w:World):wO ((w.withFollow "special-get-raises" true).withFollow "comprehension-iter-twice" true):=by kernel_rfl
theorem go2(w:World):wO w:=byRow2 "comprehension-iter-twice" (byRow2 "special-get-raises" jW dI) (byRow2 "special-get-raises" jD dA) w
def T1:List Stmt:=(bT.drop 5).take 8
abbrev Go3(w:World):Prop:=segRunT treeTable EX w 28 (some (.ref 6)) 1 228 (U8 w) (piecesOf T1 LH cT (Ov 9 0 9 18) [topFrame QI])=some (Flow.next,X9 w,cT,(Ov 118 0 128 23))
theorem go3(w:World):Go3 w:=by kernel_rfl
def U1:List Stmt:=(bT.drop 13).take 5
abbrev Go4(w:World):Prop:=segRunT treeTable EX w 28 (some (.ref 6)) 1 337 (X9 w) (piecesOf U1 LH cT (Ov 118 0 128 23) [topFrame QI])=some (Flow.next,U9 w,cT,(Ov 156 0 159 26))
theorem go4(w:World):Go4 w:=by kernel_rfl
def W5:List Stmt:=(bT.drop 18).take 5
abbrev Go5(w:World):Prop:=segRunT treeTable EX w 28 (some (.ref 6)) 1 135 (U9 w) (piecesOf W5 LH cT (Ov 156 0 159 26) [topFrame QI])=some (Flow.next,S7 w,cT,(Ov 171 0 174 60))
theorem go5(w:World):Go5 w:=by kernel_rfl
def X4:List Stmt:=(bT.drop 23).take 6
abbrev Go6(w:World):Prop:=segRunT treeTable EX w 28 (some (.ref 6)) 1 174 (S7 w) (piecesOf X4 LH cT (Ov 171 0 174 60) [topFrame QI])=some (Flow.next,sT6 w,cT,(Ov 233 0 247 44))
theorem go6(w:World):Go6 w:=by kernel_rfl
def Y8:List Stmt:=(bT.drop 29).take 6
abbrev Go7(w:World):Prop:=segRunT treeTable EX w 28 (some (.ref 6)) 1 182 (sT6 w) (piecesOf Y8 LH cT (Ov 233 0 247 44) [topFrame QI])=some (Flow.next,ND w,cT,(Ov 288 0 309 46))
theorem go7(w:World):Go7 w:=by kernel_rfl
theorem rN:bT=Z3++(T1++(U1++(W5++(X4++(Y8++[]))))):=by kernel_rfl
theorem bK(w:World):topRun treeTable EX w 28 (some (.ref 6)) (12+(1+(1772+(228+(337+(135+(174+(182+2)))))))) (fS w) (topStub EX)=some (ND w).abs:=go_top (kL w) (piece_block (RB w) (by rw[rN];exact piece_app (segRun_of (go2 w)) (piece_app (segRun_of (go3 w)) (piece_app (segRun_of (go4 w)) (piece_app (segRun_of (go5 w)) (piece_app (segRun_of (go6 w)) (piece_app (segRun_of (go7 w)) (piece_nil (show topRun treeTable EX w 28 (some (.ref 6)) 2 (ND w).abs ⟨doneF .next,cT,(Ov 288 0 309 46),[topFrame QI]⟩=some (ND w).abs from rfl)))))))))
theorem gY(w:World):openSeen vw lo (importedModules EX.main.body) (fun s=>xlAt vw [] s&&recOk [] s) true (ND w).abs=openGood vw lo:=by kernel_rfl
theorem cZ(w:World):WM DA (ND w).abs=(true,Bk EX "_Example"):=by kernel_rfl
theorem gQ(w:World):(staticsOk (importedModules EX.main.body) (fS w).heap (ND w).abs.heap&&namesBound EX (ND w).abs.heap&&gensDone (ND w).abs&&laidKept (fS w).heap (ND w).abs.heap)=true:=by kernel_rfl
theorem Q2(w:World):(openEnds treeTable EX w 9000).map (fun s=>(openSeen vw lo (importedModules EX.main.body) (fun s=>xlAt vw [] s&&recOk [] s) true s,WM DA s))=some (openGood vw lo,(true,Bk EX "_Example")):=by
 have t:topFrom treeTable EX w 9000 (fS w)=some (ND w).abs:=by
  unfold topFrom
  rw[(Gk w).1,(Gk w).2.1,(Gk w).2.2.1,(Gk w).2.2.2,show(9000:Nat)=2843+6157 from rfl,topRun_mono 6157 2843 _ _ _ (bK w)]
  show(match staticsOk (importedModules EX.main.body) (fS w).heap (ND w).abs.heap&&namesBound EX (ND w).abs.heap&&gensDone (ND w).abs&&laidKept (fS w).heap (ND w).abs.heap with | true=>_ | false=>_)=_
  rw[gQ]
 unfold openEnds
 rw[SO w]
 show(topFrom treeTable EX w 9000 (fS w)).map _=_
 rw[t]
 exact congrArg some (Prod.ext (gY w) (cZ w))
end
noncomputable def Ev:DefRec:=⟨"",⟨[],[],none,[],[],none,[]⟩,[],⟨.function,[],false,false,[]⟩,⟨0,0,0,0⟩⟩
def Aj(n:Str):Option DefRec:=(recsOf vw).find? fun e=>e.name==n
noncomputable def iM(d:DefRec)(nt:List Str):Sc:=⟨d.scope.names,nt,(d.scope.names.filter fun x=>x.2==.cell).map (·.1)⟩
noncomputable def AX(d:DefRec):List Str:=d.params.args.map (·.arg)
def CB(T:Nat→Option Str)(L:List (Pos×Str))(nt:List Str)(b:SL)(d:DefRec):Bool:=
 mSL T L (iM d nt) b d.body&&(xB (iM d nt) (AX d) d.scope.names&&(decide (AX d).Nodup&&decide ((AX d).length≤nt.length)))
noncomputable def AQ(s:Scope):Bool:=s.kind==.function&&(!s.isCoroutine&&!s.isGenerator)
def tT(f:Nat):Option Str:=jH[f]?
noncomputable def xF:Pos:=⟨63,39,63,76⟩
noncomputable def uX:Pos:=⟨62,37,62,98⟩
def lpT:List (Pos×Str):=[(xF,"<lambda>"),(uX,"<genexpr>")]
def d0:DefRec:=(Aj "translate").getD Ev
theorem B2:Aj "translate" = some d0:=by kernel_rfl
theorem N7:AQ d0.scope=true:=by decide +kernel
theorem G0(pm c doc:Value)(v:Value):bindArgs (docDef d0.name d0.params d0.body d0.scope pm c doc) ⟨[v],[]⟩=pure [(("pat" : Str),v)]:=by kernel_rfl
theorem F9:CB tT [] N3 zJ d0=true:=by decide +kernel
def d1:DefRec:=(Aj "escape").getD Ev
theorem J6:Aj "escape" = some d1:=by kernel_rfl
theorem F8:AQ d1.scope=true:=by decide +kernel
theorem H9(pm c doc:Value)(v:Value):bindArgs (docDef d1.name d1.params d1.body d1.scope pm c doc) ⟨[v],[]⟩=pure [(("pattern" : Str),v)]:=by kernel_rfl
def d2:DefRec:=(Aj "_translate").getD Ev
theorem rJ:Aj "_translate" = some d2:=by kernel_rfl
theorem I3:AQ d2.scope=true:=by decide +kernel
theorem A5(pm c doc:Value)(v w u:Value):bindArgs (docDef d2.name d2.params d2.body d2.scope pm c doc) ⟨[v,w,u],[]⟩=pure [(("pat" : Str),v),(("STAR" : Str),w),(("QUESTION_MARK" : Str),u)]:=by kernel_rfl
theorem G9:CB tT lpT D9 kN d2=true:=by decide +kernel
def d3:DefRec:=(Aj "_join_translated_parts").getD Ev
theorem Q5:Aj "_join_translated_parts" = some d3:=by kernel_rfl
theorem L8:AQ d3.scope=true:=by decide +kernel
theorem H3(pm c doc:Value)(v w:Value):bindArgs (docDef d3.name d3.params d3.body d3.scope pm c doc) ⟨[v,w],[]⟩=pure [(("inp" : Str),v),(("STAR" : Str),w)]:=by kernel_rfl
theorem H0:CB tT [] F3 Y7 d3=true:=by decide +kernel
def d4:DefRec:=(Aj "heappush").getD Ev
theorem O4:Aj "heappush" = some d4:=by kernel_rfl
theorem B8:AQ d4.scope=true:=by decide +kernel
theorem E3(pm c doc:Value)(v w:Value):bindArgs (docDef d4.name d4.params d4.body d4.scope pm c doc) ⟨[v,w],[]⟩=pure [(("heap" : Str),v),(("item" : Str),w)]:=by kernel_rfl
theorem D2:CB tT [] R7 U6 d4=true:=by decide +kernel
def d5:DefRec:=(Aj "heappop").getD Ev
theorem M0:Aj "heappop" = some d5:=by kernel_rfl
theorem E7:AQ d5.scope=true:=by decide +kernel
theorem F4(pm c doc:Value)(v:Value):bindArgs (docDef d5.name d5.params d5.body d5.scope pm c doc) ⟨[v],[]⟩=pure [(("heap" : Str),v)]:=by kernel_rfl
theorem P7:CB tT [] L3 W9 d5=true:=by decide +kernel
def d6:DefRec:=(Aj "_siftdown").getD Ev
theorem N0:Aj "_siftdown" = some d6:=by kernel_rfl
theorem Q7:AQ d6.scope=true:=by decide +kernel
theorem Q8(pm c doc:Value)(v w u:Value):bindArgs (docDef d6.name d6.params d6.body d6.scope pm c doc) ⟨[v,w,u],[]⟩=pure [(("heap" : Str),v),(("startpos" : Str),w),(("pos" : Str),u)]:=by kernel_rfl
theorem P8:CB tT [] N6 rK d6=true:=by decide +kernel
def d7:DefRec:=(Aj "_siftup").getD Ev
theorem N4:Aj "_siftup" = some d7:=by kernel_rfl
theorem A9:AQ d7.scope=true:=by decide +kernel
theorem K6(pm c doc:Value)(v w:Value):bindArgs (docDef d7.name d7.params d7.body d7.scope pm c doc) ⟨[v,w],[]⟩=pure [(("heap" : Str),v),(("pos" : Str),w)]:=by kernel_rfl
theorem C3:CB tT [] O1 zX d7=true:=by decide +kernel
def d8:DefRec:=(Aj "read_uint1").getD Ev
theorem K3:Aj "read_uint1" = some d8:=by kernel_rfl
theorem P9:AQ d8.scope=true:=by decide +kernel
theorem J8(pm c doc:Value)(v:Value):bindArgs (docDef d8.name d8.params d8.body d8.scope pm c doc) ⟨[v],[]⟩=pure [(("f" : Str),v)]:=by kernel_rfl
theorem Q3:CB tT [] E8 P0 d8=true:=by decide +kernel
def d9:DefRec:=(Aj "read_string1").getD Ev
theorem H8:Aj "read_string1" = some d9:=by kernel_rfl
theorem I4:AQ d9.scope=true:=by decide +kernel
theorem S2(pm c doc:Value)(v:Value):bindArgs (docDef d9.name d9.params d9.body d9.scope pm c doc) ⟨[v],[]⟩=pure [(("f" : Str),v)]:=by kernel_rfl
theorem C8:CB tT [] O8 Y2 d9=true:=by decide +kernel
def Zf:DefRec:=(Aj "_law_take").getD Ev
theorem vF:Aj "_law_take" = some Zf:=by kernel_rfl
theorem qY:AQ Zf.scope=true:=by decide +kernel
theorem qT(pm c doc:Value)(v w:Value):bindArgs (docDef Zf.name Zf.params Zf.body Zf.scope pm c doc) ⟨[v,w],[]⟩=pure [(("stream" : Str),v),(("size" : Str),w)]:=by kernel_rfl
theorem yP:CB tT [] zB uK Zf=true:=by decide +kernel
def Rv:DefRec:=(Aj "_law_stream").getD Ev
theorem Xa:Aj "_law_stream" = some Rv:=by kernel_rfl
theorem uP:AQ Rv.scope=true:=by decide +kernel
theorem nJ(pm c doc:Value)(v:Value):bindArgs (docDef Rv.name Rv.params Rv.body Rv.scope pm c doc) ⟨[v],[]⟩=pure [(("octets" : Str),v)]:=by kernel_rfl
theorem nD:Rv.name = "_law_stream" := by decide +kernel
def Yi:DefRec:=(Aj "_law_counted").getD Ev
theorem wG:Aj "_law_counted" = some Yi:=by kernel_rfl
theorem pG:AQ Yi.scope=true:=by decide +kernel
theorem tA(pm c doc:Value)(v:Value):bindArgs (docDef Yi.name Yi.params Yi.body Yi.scope pm c doc) ⟨[v],[]⟩=pure [(("text" : Str),v)]:=by kernel_rfl
theorem lQ:CB tT [] qB oD Yi=true:=by decide +kernel
def ZZ:DefRec:=(Aj "_law_row").getD Ev
theorem lZ:Aj "_law_row" = some ZZ:=by kernel_rfl
theorem rM:AQ ZZ.scope=true:=by decide +kernel
theorem xT(pm c doc:Value)(v:Value):bindArgs (docDef ZZ.name ZZ.params ZZ.body ZZ.scope pm c doc) ⟨[v],[]⟩=pure [(("number" : Str),v)]:=by kernel_rfl
theorem nW:CB tT [] yO TH ZZ=true:=by decide +kernel
def Zo:DefRec:=(Aj "_law_name").getD Ev
theorem uS:Aj "_law_name" = some Zo:=by kernel_rfl
theorem rL:AQ Zo.scope=true:=by decide +kernel
theorem wC(pm c doc:Value)(v:Value):bindArgs (docDef Zo.name Zo.params Zo.body Zo.scope pm c doc) ⟨[v],[]⟩=pure [(("number" : Str),v)]:=by kernel_rfl
theorem xS:CB tT [] qF kG Zo=true:=by decide +kernel
def Xs:DefRec:=(Aj "_law_means").getD Ev
theorem wM:Aj "_law_means" = some Xs:=by kernel_rfl
theorem zA:AQ Xs.scope=true:=by decide +kernel
theorem yG(pm c doc:Value)(v w:Value):bindArgs (docDef Xs.name Xs.params Xs.body Xs.scope pm c doc) ⟨[v,w],[]⟩=pure [(("row" : Str),v),(("name" : Str),w)]:=by kernel_rfl
theorem xO:CB tT [] yJ Wv Xs=true:=by decide +kernel
def ZX:DefRec:=(Aj "_law_piece").getD Ev
theorem sZ:Aj "_law_piece" = some ZX:=by kernel_rfl
theorem yZ:AQ ZX.scope=true:=by decide +kernel
theorem qV(pm c doc:Value)(v w:Value):bindArgs (docDef ZX.name ZX.params ZX.body ZX.scope pm c doc) ⟨[v,w],[]⟩=pure [(("body" : Str),v),(("k" : Str),w)]:=by kernel_rfl
theorem qJ:CB tT [] rD Ra ZX=true:=by decide +kernel
def YR:DefRec:=(Aj "_law_parts").getD Ev
theorem oY:Aj "_law_parts" = some YR:=by kernel_rfl
theorem wY:AQ YR.scope=true:=by decide +kernel
theorem pL(pm c doc:Value)(v:Value):bindArgs (docDef YR.name YR.params YR.body YR.scope pm c doc) ⟨[v],[]⟩=pure [(("text" : Str),v)]:=by kernel_rfl
theorem wJ:CB tT [] sD QX YR=true:=by decide +kernel
def ZG:DefRec:=(Aj "_law_takes").getD Ev
theorem lJ:Aj "_law_takes" = some ZG:=by kernel_rfl
theorem rG:AQ ZG.scope=true:=by decide +kernel
theorem wT(pm c doc:Value)(v w:Value):bindArgs (docDef ZG.name ZG.params ZG.body ZG.scope pm c doc) ⟨[v,w],[]⟩=pure [(("parts" : Str),v),(("name" : Str),w)]:=by kernel_rfl
theorem vO:CB tT [] uZ NG ZG=true:=by decide +kernel
def ZQ:DefRec:=(Aj "_law_read").getD Ev
theorem xI:Aj "_law_read" = some ZQ:=by kernel_rfl
theorem yR:AQ ZQ.scope=true:=by decide +kernel
theorem yC(pm c doc:Value)(v:Value):bindArgs (docDef ZQ.name ZQ.params ZQ.body ZQ.scope pm c doc) ⟨[v],[]⟩=pure [(("stream" : Str),v)]:=by kernel_rfl
theorem uL:CB tT [] wZ Rw ZQ=true:=by decide +kernel
def Zp:DefRec:=(Aj "_law_seat").getD Ev
theorem YF:Aj "_law_seat" = some Zp:=by kernel_rfl
theorem Ye:AQ Zp.scope=true:=by decide +kernel
theorem aM(pm c doc:Value)(v w u t:Value):bindArgs (docDef Zp.name Zp.params Zp.body Zp.scope pm c doc) ⟨[v,w,u,t],[]⟩=pure [(("name" : Str),v),(("takes" : Str),w),(("seats" : Str),u),(("tried" : Str),t)]:=by kernel_rfl
theorem Xp:CB tT [] oW jP Zp=true:=by decide +kernel
def ZE:DefRec:=(Aj "_law_seated").getD Ev
theorem oR:Aj "_law_seated" = some ZE:=by kernel_rfl
theorem yF:AQ ZE.scope=true:=by decide +kernel
theorem wL(pm c doc:Value)(v w:Value):bindArgs (docDef ZE.name ZE.params ZE.body ZE.scope pm c doc) ⟨[v,w],[]⟩=pure [(("weights" : Str),v),(("takes" : Str),w)]:=by kernel_rfl
theorem pT:CB tT [] tH Tj ZE=true:=by decide +kernel
def ZH:DefRec:=(Aj "_law_good").getD Ev
theorem sP:Aj "_law_good" = some ZH:=by kernel_rfl
theorem qG:AQ ZH.scope=true:=by decide +kernel
theorem lR(pm c doc:Value)(v:Value):bindArgs (docDef ZH.name ZH.params ZH.body ZH.scope pm c doc) ⟨[v],[]⟩=pure [(("takes" : Str),v)]:=by kernel_rfl
theorem vX:CB tT [] uQ TA ZH=true:=by decide +kernel
def ZC:DefRec:=(Aj "_law_first").getD Ev
theorem sY:Aj "_law_first" = some ZC:=by kernel_rfl
theorem lS:AQ ZC.scope=true:=by decide +kernel
theorem wQ(pm c doc:Value)(v w:Value):bindArgs (docDef ZC.name ZC.params ZC.body ZC.scope pm c doc) ⟨[v,w],[]⟩=pure [(("weights" : Str),v),(("good" : Str),w)]:=by kernel_rfl
theorem pH:CB tT [] xQ RI ZC=true:=by decide +kernel
def Xv:DefRec:=(Aj "_law_beaten").getD Ev
theorem wX:Aj "_law_beaten" = some Xv:=by kernel_rfl
theorem yE:AQ Xv.scope=true:=by decide +kernel
theorem sA(pm c doc:Value)(v w u:Value):bindArgs (docDef Xv.name Xv.params Xv.body Xv.scope pm c doc) ⟨[v,w,u],[]⟩=pure [(("best" : Str),v),(("weights" : Str),w),(("good" : Str),u)]:=by kernel_rfl
theorem lF:CB tT [] uY Wt Xv=true:=by decide +kernel
def ME:DefRec:=(Aj "law").getD Ev
theorem pR:Aj "law" = some ME:=by kernel_rfl
theorem xJ:AQ ME.scope=true:=by decide +kernel
theorem yX(pm c doc:Value)(v:Value):bindArgs (docDef ME.name ME.params ME.body ME.scope pm c doc) ⟨[v],[]⟩=pure [(("script" : Str),v)]:=by kernel_rfl
theorem yA:ME.name = "law" := by decide +kernel
theorem sK:CB tT [] mU RL ME=true:=by decide +kernel
structure FA(h:Heap)(mg:Str→Option Value)(n:Str)(d:DefRec)(a c P:Addr)(pm doc:Value):Prop where
 g:mg n=some (.ref a)
 o:∃o,h.get? a=some o∧o.cls≠.none∧o.data=.func (docDef d.name d.params d.body d.scope pm (.ref c) doc)
 cr:h.CodeRec (.ref c) d.name
 hd:CodeHd h c P
 tb:h.get? P=some (tabObj #[])
theorem xD{p:Program}{loose:List Str}{mean:ExcName→Option Value}{mg mb:Str→Option Value}{h:Heap}{n:Str}{d:DefRec}(T:Top p loose mean mg mb h)(hf:(recsOf p).find? (fun e=>e.name==n)=some d)
  (hc:∀a o,mg n=some (.ref a)→h.get? a=some o→o.cls≠.none):∃a c P pm doc,FA h mg n d a c P pm doc:=by
 have hn:d.name=n:=beq_iff_eq.mp (List.find?_some (p:=fun e:DefRec=>e.name==n) hf)
 have hm:=List.mem_of_find?_eq_some hf
 obtain⟨a,o,pm,cd,doc,h1,h2,h3,h4⟩:=T.fn d hm
 obtain⟨a',o',fd,c,P,k1,k2,k3,k4,k5,k6⟩:=T.tab d hm
 cases so (h1.symm.trans k1)
 cases so (h2.symm.trans k2)
 cases h3.symm.trans k3
 cases (show cd=.ref c from k4)
 exact⟨a,c,P,pm,doc,hn▸h1,⟨o,h2,hc a o (hn▸h1) h2,h3⟩,h4,.of k5 k6,k6.2⟩
theorem Fi{h:Heap}{c P:Addr}{G:Prop}(x:CodeHd h c P)(k:∀o vs,h.get? c=some o→o.cls=.type "code" → o.data=.fields vs→vs[11]?=some (.ref P)→G):G:=
 x.elim fun o x=>x.elim fun vs x=>x.elim fun _ x=>x.elim fun _ x=>x.elim fun _ x=>x.elim fun _ x=>x.elim fun _ x=>x.elim fun _ x=>x.elim fun _ x=>k o vs x.1 x.2.1 x.2.2.1 x.2.2.2.1
theorem FA.fn{B:AV}{n:Str}{d:DefRec}{a c P:Addr}{pm doc:Value}(F:FA B.h₀ B.mg n d a c P pm doc)(hs:AQ d.scope=true):Lj B a (docDef d.name d.params d.body d.scope pm (.ref c) doc):=
 CY hs fun s1 s2 s3=>⟨F.o,rfl,rfl,rfl,fun h k=>Fi F.hd fun o vs e1 e2 _ _=>F.cr.elim fun c' q=>q.elim fun o' q=>q.elim fun vs' q=>q.elim fun t q=>
  ⟨c',o',vs',t,q.1,k _ _ q.2.1 (by rw[←Value.ref.inj q.1]at q;rw[so (q.2.1.symm.trans e1),e2];exact fun q=>nomatch q),q.2.2⟩,Af s2,Af s3,eq_of_beq s1⟩
def Fn(B:AV)(lv:Nat)(n:Str)(sp:Spec):Prop:=∃v,B.mg n=some v∧MP B lv v sp
theorem Fn.more{B:AV}{lv lv':Nat}{n:Str}{sp:Spec}(h:Fn B lv n sp)(hl:lv≤lv'):Fn B lv' n sp:=h.imp fun _ q=>⟨q.1,q.2.more hl⟩
theorem AM{B:AV}{lv:Nat}{T:Nat→Option Str}:Dt B lv T (tab []):=fun f n sp _ h2=>nn h2
theorem Hx{B:AV}{lv i lv':Nat}{T:Nat→Option Str}{n:Str}{sp:Spec}{r:List (Nat×Spec)}(hT:T i=some n)(h:Fn B lv' n sp)(hl:lv'≤lv)(K:Dt B lv T (tab r)):Dt B lv T (tab ((i,sp)::r)):=fun f n' sp' h1 h2=>by
 have h2:cond (f==i) (some sp) (tab r f)=some sp':=h2
 cases hb:f==i with
 | true=>rw[hb]at h2;cases beq_iff_eq.mp hb;cases so (hT.symm.trans h1);cases so (ct h2);exact h.more hl
 | false=>rw[hb]at h2;exact K f n' sp' h1 (cf h2)
structure V5(B:AV):Prop where
 N:Eh B
 P:Nk B HD
 str:∃K fI q,Ib B K fI∧B.Z=Tv B.C q
noncomputable def Pi(n k:Str):Str:=n ++ ".<locals>." ++ k
theorem eU{B:AV}{lv:Nat}{T:Nat→Option Str}{L:List (Pos×Str)}{Φ:Nat→Option Spec}{nt:List Str}{b:SL}{n:Str}{d:DefRec}{a c P:Addr}{pm doc:Value}(W:V5 B)(F:FA B.h₀ B.mg n d a c P pm doc)(hs:AQ d.scope=true)
  (hL:∀p k,(p,k)∈L→Dv B c P p (Pi d.name k)) (hk:CB T L nt b d=true) (K:Dt B lv T Φ)
  (hb:∀vals:List Value,vals.length=(AX d).length→bindArgs (docDef d.name d.params d.body d.scope pm (.ref c) doc) ⟨vals,[]⟩=pure ((AX d).zip vals)):MP B (lv+2) (.ref a) (As (Ae Φ (AX d).length nt.length b)):=
 DQ hk fun k1 k2 k3 k4=>Wg (WG (Γ:=iM d nt) (F.fn hs) rfl hb (An k3) k2 (An k4) fun cx hc=>
  mSL_ok (T:=T) (L:=L) b d.body ⟨⟨hc.R,hc.hB▸K,hc.hB▸W.N,hc.hB▸W.P,fun p k hp=>⟨c,P,Pi d.name k,hc.hB▸hL p k hp,hc.cd,by rw[hc.qual];rfl⟩,hc.hB▸W.str⟩,hc.fr,hc.fl⟩ (hc.hΓ▸k1))
theorem JO{fd:FuncData}{n m:Str}(h:∀v w,bindArgs fd ⟨[v,w],[]⟩=pure [(n,v),(m,w)])(vals:List Value)(hv:vals.length=2):bindArgs fd ⟨vals,[]⟩=pure ([n,m].zip vals):=
 Ef (P:=fun vals=>bindArgs fd ⟨vals,[]⟩=pure ([n,m].zip vals)) hv fun v t ht=>Ef (P:=fun t=>bindArgs fd ⟨v::t,[]⟩=pure ([n,m].zip (v::t))) ht fun w t ht=>Nb (P:=fun t=>bindArgs fd ⟨v::w::t,[]⟩=pure ([n,m].zip (v::w::t))) ht (h v w)
theorem eH{fd:FuncData}{n m k:Str}(h:∀v w u,bindArgs fd ⟨[v,w,u],[]⟩=pure [(n,v),(m,w),(k,u)])(vals:List Value)(hv:vals.length=3):bindArgs fd ⟨vals,[]⟩=pure ([n,m,k].zip vals):=
 Ef (P:=fun vals=>bindArgs fd ⟨vals,[]⟩=pure ([n,m,k].zip vals)) hv fun v t ht=>Ef (P:=fun t=>bindArgs fd ⟨v::t,[]⟩=pure ([n,m,k].zip (v::t))) ht fun w t ht=>Ef (P:=fun t=>bindArgs fd ⟨v::w::t,[]⟩=pure ([n,m,k].zip (v::w::t))) ht fun u t ht=>
  Nb (P:=fun t=>bindArgs fd ⟨v::w::u::t,[]⟩=pure ([n,m,k].zip (v::w::u::t))) ht (h v w u)
theorem qA{fd:FuncData}{n m k j:Str}(h:∀v w u t,bindArgs fd ⟨[v,w,u,t],[]⟩=pure [(n,v),(m,w),(k,u),(j,t)])(vals:List Value)(hv:vals.length=4):bindArgs fd ⟨vals,[]⟩=pure ([n,m,k,j].zip vals):=
 Ef (P:=fun vals=>bindArgs fd ⟨vals,[]⟩=pure ([n,m,k,j].zip vals)) hv fun v t ht=>Ef (P:=fun t=>bindArgs fd ⟨v::t,[]⟩=pure ([n,m,k,j].zip (v::t))) ht fun w t ht=>Ef (P:=fun t=>bindArgs fd ⟨v::w::t,[]⟩=pure ([n,m,k,j].zip (v::w::t))) ht fun u t ht=>
  Ef (P:=fun t=>bindArgs fd ⟨v::w::u::t,[]⟩=pure ([n,m,k,j].zip (v::w::u::t))) ht fun x t ht=>Nb (P:=fun t=>bindArgs fd ⟨v::w::u::x::t,[]⟩=pure ([n,m,k,j].zip (v::w::u::x::t))) ht (h v w u x)
noncomputable def qL:Jx:=⟨⟨167,25,167,29⟩,⟨167,31,167,40⟩,⟨167,41,167,47⟩,⟨167,49,167,53⟩,⟨167,31,167,54⟩⟩
noncomputable def L9:Pos:=⟨167,18,167,54⟩
theorem pA:Rv.body=[.Assign [.Name "stream" ⟨166,4,166,10⟩] (.Call (.Name "_Example" ⟨166,13,166,21⟩) [.Name "octets" ⟨166,22,166,28⟩] [] ⟨166,13,166,29⟩) ⟨166,4,166,29⟩,.Assign [.Attribute (.Name "stream" ⟨167,4,167,10⟩) "read" ⟨167,4,167,15⟩] (.Lambda (Bn qL) (Cu qL) BC L9) ⟨167,4,167,54⟩,.Return (some (.Name "stream" ⟨168,11,168,17⟩)) ⟨168,4,168,17⟩]:=by kernel_rfl
theorem vZ:Rv.scope.names=Fv:=by kernel_rfl
def osE:List Stmt:=match d1.body with | [.If _ _ o _]=>o | _=>[]
theorem E1:d1.body=[.If (.Call (.Name "isinstance" ⟨11,7,11,17⟩) [.Name "pattern" ⟨11,18,11,25⟩,.Name "str" ⟨11,27,11,30⟩] [] ⟨11,7,11,31⟩) [.Return (some (.Call (.Attribute (.Name "pattern" ⟨12,15,12,22⟩) "translate" ⟨12,15,12,32⟩) [.Name "_special_chars_map" ⟨12,33,12,51⟩] [] ⟨12,15,12,52⟩)) ⟨12,8,12,52⟩] osE ⟨11,4,15,69⟩]:=by kernel_rfl
theorem R1:d1.scope.names=Hk:=by kernel_rfl
noncomputable def Po:List Stmt:=[.Assign [.Attribute (.Name "self" ⟨159,8,159,12⟩) "value" ⟨159,8,159,18⟩] (.Name "value" ⟨159,21,159,26⟩) ⟨159,8,159,26⟩]
def Os:Arguments:=((Bk PySem.Challenge.pw_rx0126_01 "_Example").getD (Ev.params,.stmts [],Ev.scope)).1
def LN:Scope:=((Bk PySem.Challenge.pw_rx0126_01 "_Example").getD (Ev.params,.stmts [],Ev.scope)).2.2
theorem C4:Bk PySem.Challenge.pw_rx0126_01 "_Example" = some (Os,.stmts Po,LN):=by kernel_rfl
theorem E9:LN.names=GJ:=by kernel_rfl
theorem E2:AQ LN=true:=by decide +kernel
theorem I2(name doc pm an co ct)(u v:Value):bindArgs ⟨name,"_Example.__init__",Os,.stmts Po,LN,mainGlobals,[],.none,.none,doc,pm,an,co,ct,builtinsNs⟩ ⟨[u,v],[]⟩=pure [(("self" : Str),u),(("value" : Str),v)]:=by kernel_rfl
theorem R6:AX d0=(["pat"]:List Str):=by decide +kernel
theorem Aah:AX d1=(["pattern"]:List Str):=by decide +kernel
theorem M2:AX d2=(["pat","STAR","QUESTION_MARK"]:List Str):=by decide +kernel
theorem D1:AX d3=(["inp","STAR"]:List Str):=by decide +kernel
theorem E6:AX d4=(["heap","item"]:List Str):=by decide +kernel
theorem G7:AX d5=(["heap"]:List Str):=by decide +kernel
theorem L2:AX d6=(["heap","startpos","pos"]:List Str):=by decide +kernel
theorem P3:AX d7=(["heap","pos"]:List Str):=by decide +kernel
theorem O2:AX d8=(["f"]:List Str):=by decide +kernel
theorem A8:AX d9=(["f"]:List Str):=by decide +kernel
theorem sX:AX Zf=(["stream","size"]:List Str):=by decide +kernel
theorem X6:AX Rv=(["octets"]:List Str):=by decide +kernel
theorem qU:AX Yi=(["text"]:List Str):=by decide +kernel
theorem qP:AX ZZ=(["number"]:List Str):=by decide +kernel
theorem nT:AX Zo=(["number"]:List Str):=by decide +kernel
theorem vC:AX Xs=(["row","name"]:List Str):=by decide +kernel
theorem mV:AX ZX=(["body","k"]:List Str):=by decide +kernel
theorem vT:AX YR=(["text"]:List Str):=by decide +kernel
theorem pM:AX ZG=(["parts","name"]:List Str):=by decide +kernel
theorem sC:AX ZQ=(["stream"]:List Str):=by decide +kernel
theorem aC:AX Zp=(["name","takes","seats","tried"]:List Str):=by decide +kernel
theorem tK:AX ZE=(["weights","takes"]:List Str):=by decide +kernel
theorem yK:AX ZH=(["takes"]:List Str):=by decide +kernel
theorem pP:AX ZC=(["weights","good"]:List Str):=by decide +kernel
theorem mW:AX Xv=(["best","weights","good"]:List Str):=by decide +kernel
theorem pV:AX ME=(["script"]:List Str):=by decide +kernel
theorem iF:Gy.all (fun x=>!startupNames.contains x&&(!(looseW vw lo).contains x&&(!((recsOf vw).map (·.name)).contains x&&(!((litsOf vw).map (·.1)).contains x&&!((clssOf vw (looseW vw lo)).map (·.name)).contains x))))=true:=by decide +kernel
theorem OW{d:Data}{v:Array Value}(h:MQ d=some v):d=.fields v:=by cases d<;>first|exact nn h | exact congrArg _ (so h)
theorem gI{d:Data}{v:Array Value×Nat}(h:Xz d=some v):d=.seq v.1 v.2:=by cases d<;>first|exact nn h | (cases so h;rfl)
theorem QU{d:Data}{v:Array DictEntry×Nat}(h:aN d=some v):d=.dict v.1 v.2:=by cases d<;>first|exact nn h | (cases so h;rfl)
theorem eC{d:Data}{v:FuncData}(h:OE d=some v):d=.func v:=by cases d<;>first|exact nn h | exact congrArg _ (so h)
theorem It{v:Option Value}{q:Str}(h:Mu v q=true):∃t,v=some (.str q t):=BY h fun w e h=>BY h fun x e2 h=>⟨x.2,by rw[e,Ss e2,eq_of_beq h]⟩
section
variable{B:AV}{h₁:Heap}
theorem Vw{as:List Addr}{fI:Addr}(h:lH (Fo h₁ as) B.C fI=true)(k:∀b o,h₁.get? b=some o→B.h₀.get? b=some o):Ib B (Fo h₁ as) fI:=
 JZ h fun a1 a2 a3 a4 a5 a6 a7 h=>DQ h fun a8 a9 a10 h=>AF h fun a11 a12=>
  ⟨fun KO a o e=>KO.get_of_cls (k _ _ (Hg e)) (BW (List.all_eq_true.mp a1 (a,o) (Cq e))),a2,a3,BY a4 fun attr q1 q2=>⟨attr,q1,q2⟩,eq_of_beq a5,eq_of_beq a6,a7,eq_of_beq a8,eq_of_beq a9,a10,eq_of_beq a11,eq_of_beq a12⟩
where Cq {α:Type}:∀{l:List (Addr×α)} {n:Addr} {c:α},l.lookup n=some c→(n,c)∈l
 | [],_,_,h=>nn h
 | (m,d)::r,n,c,h=>by
  rw[List.lookup_cons]at h
  cases q:n==m with
  | true=>rw[q]at h;rw[beq_iff_eq.mp q,so (show some d=some c from h)];exact .head _
  | false=>rw[q]at h;exact .tail _ (Cq h)
theorem cK{n:Str}{p c:Addr}(h:vW h₁ p c=true)(k:∀b o,h₁.get? b=some o→B.h₀.get? b=some o)(hg:B.mg n=some (.ref p)):Nk B n:=
 BY h fun o e1 h=>CY h fun a1 a2 h=>BY h fun fs e2 h=>DQ h fun a3 a4 a5 h=>BY h fun oc e3 h=>AF h fun a6 h=>BY h fun xs e4 h=>
  ⟨p,o,fs,c,oc,xs.1,xs.2,hg,k _ _ e1,eq_of_beq a1,Option.isNone_iff_eq_none.mp a2,OW e2,eq_of_beq a3,Ip a4,k _ _ e3,BW a6,gI e4,An h,eq_of_beq a5⟩
theorem cY{n:Str}{D:Addr}{G:Prop}(h:uN h₁ D=true)(k:∀b o,h₁.get? b=some o→B.h₀.get? b=some o)(hg:B.mg n=some (.ref D))(hD:(D==sysModules)=false)(g:∀o es ep,Im B n D o es ep→G):G:=
 BY h fun o e1 h=>Ei h fun a1 a2 a3 a4 h=>BY h fun es e2 h=>CY h fun a5 a6 h=>AF h fun a7 a8=>
  g o es.1 es.2 ⟨hg,hD,k _ _ e1,BW a1,⟨eq_of_beq a2,Option.isNone_iff_eq_none.mp a3,Array.isEmpty_iff.mp a4⟩,QU e2,a5,Option.isNone_iff_eq_none.mp a6,Option.isNone_iff_eq_none.mp a7,(It a8)⟩
structure Ut(d:FuncData):Prop where
 q:d.qualname = "_Example.__init__"
 pr:d.params=Os
 bd:d.body=.stmts Po
 sc:d.scope=LN
 gl:d.globals=mainGlobals
 cl:d.closure=[]
 df:d.defaults=.none
 kd:d.kwdefaults=.none
 bl:d.builtins=builtinsNs
theorem Ut.bind{d:FuncData}(I:Ut d)(u v:Value):bindArgs d ⟨[u,v],[]⟩=pure [(("self" : Str),u),(("value" : Str),v)]:=
 (congrArg (fun d=>bindArgs d ⟨[u,v],[]⟩) (show d=⟨d.name,"_Example.__init__",Os,.stmts Po,LN,mainGlobals,[],.none,.none,d.doc,d.pyModule,d.annotations,d.code,d.closureTuple,builtinsNs⟩ by
  have e:d=⟨d.name,d.qualname,d.params,d.body,d.scope,d.globals,d.closure,d.defaults,d.kwdefaults,d.doc,d.pyModule,d.annotations,d.code,d.closureTuple,d.builtins⟩:=rfl
  rw[I.q,I.pr,I.bd,I.sc,I.gl,I.cl,I.df,I.kd,I.bl]at e
  exact e)).trans (I2 _ _ _ _ _ _ u v)
theorem iZ{f:Addr}{G:Prop}(h:mN h₁ f "_Example.__init__" = true)(hp:Wk h₁ f=some (Os,.stmts Po,LN))(k:∀b o,h₁.get? b=some o→B.h₀.get? b=some o)
  (g:∀d,Ut d→Lj B f d→G):G:=
 BY h fun o e1 h=>AF h fun a1 h=>BY h fun d e2 h=>Pg h fun a2 a3 a4 a5 a6 a7 h=>by
  unfold Wk at hp
  rw[e1,Option.bind_some,e2]at hp
  have hp:=so (show some (d.params,d.body,d.scope)=some (Os,.stmts Po,LN) from hp)
  have hq:=eq_of_beq a3
  have hs:AQ d.scope=true:=(congrArg (fun x=>AQ x.2.2) hp).trans E2
  refine CY hs fun s1 s2 s3=>g d ⟨hq,congrArg (·.1) hp,congrArg (·.2.1) hp,congrArg (·.2.2) hp,eq_of_beq a4,List.isEmpty_iff.mp a2,eq_of_beq a6,eq_of_beq a7,eq_of_beq a5⟩
   ⟨⟨o,k _ _ e1,BW a1,eC e2⟩,eq_of_beq a4,eq_of_beq a5,List.isEmpty_iff.mp a2,fun hh kk=>?_,Af s2,Af s3,eq_of_beq s1⟩
  exact BY h fun c ec h=>BY h fun oc e3 h=>AF h fun b1 h=>BY h fun vs e4 h=>(It h).elim fun t ht=>⟨c,oc,vs,t,MD ec,kk _ _ (k _ _ e3) (BW b1),OW e4,hq▸ht⟩
end
def Ux(w:World)(s:Shared)(mg mb:Str→Option Value)(P6 P11:Addr):AV:=
 ⟨PySem.Challenge.pw_rx0126_01,w,s.heap,mg,mb,s.os,DA.C,Tv DA.C qL,[(P6,[(xF,Pi d2.name "<lambda>"),(uX,Pi d2.name "<genexpr>")]),(P11,[(L9,BR)])]⟩
section
variable{w:World}{s:Shared}{mg mb:Str→Option Value}{mean:ExcName→Option Value}{loose:List Str}
theorem gB{h:Heap}{P Q:Addr}(h1:h.get? P=some (tabObj #[]))(h2:Bd h Q=true):Q≠P:=fun e=>BY h2 fun o e1 h2=>by
 rw[e,h1]at e1;cases e1;exact BW h2 rfl
theorem Tn{h:Heap}{P:Addr}(T:Top vw loose mean mg mb h)(h1:h.get? P=some (tabObj #[])):h.BuiltinsAt mg P:=by
 obtain⟨bm,ob,b1,b2,b3,b4,b5,b6⟩:=T.bmain
 refine⟨bm,ob,b1,b2,fun e=>?_,fun e=>?_,b3,b4,b5,b6⟩
 ·obtain⟨o,es,ep,q1,q2,_⟩:=T.g
  rw[e,q1]at b3;cases b3;rw[q2]at b6;cases b6
 ·rw[e,h1]at b3;cases b3;cases b4
theorem VL{P6 P11:Addr}(T:Top vw loose mean mg mb s.heap)(h1:s.heap.get? P6=some (tabObj #[]))(h2:s.heap.get? P11=some (tabObj #[]))(g1:Bd s.heap mainGlobals=true)(g2:Bd s.heap builtinsNs=true):(Ux w s mg mb P6 P11).OK:=
 ⟨T.g,T.b,T.builtins,T.nolimit,BY g1 fun o e h=>⟨o,e,BW h⟩,BY g2 fun o e h=>⟨o,e,BW h⟩,fun x hx=>by
  have key:∀P,s.heap.get? P=some (tabObj #[])→(∃o,s.heap.get? P=some o)∧mainGlobals≠P∧s.heap.BuiltinsAt mg P:=fun P hP=>⟨⟨_,hP⟩,gB hP g1,Tn T hP⟩
  rcases List.mem_cons.mp hx with e|hx
  ·rw[e];exact key _ h1
  ·rw[List.mem_singleton.mp hx];exact key _ h2⟩
theorem vY{P6 P11:Addr}(ok:(Ux w s mg mb P6 P11).OK)(h1:s.heap.get? P6=some (tabObj #[]))(h2:s.heap.get? P11=some (tabObj #[]))(hg:s.gens=#[]):AL (Ux w s mg mb P6 P11) ⟨[],[]⟩ [] s:=
 ⟨ok,ok.lim,.refl _,rfl,.nil,fun a q=>q.elim (fun q=>(nomatch q)) fun q=>(nomatch q),fun a q=>(nomatch q),fun a q=>(nomatch q),fun i a o e=>nn e,rfl,.of_eq hg,fun x hx=>by
  have key:∀P (ys:List (Pos×Str)),s.heap.get? P=some (tabObj #[])→∃ps,s.heap.get? P=some (tabObj ps)∧TriplesOk ps.toList∧∀y∈ys,codeAmong y.1 ps.toList=none∨∃c' o vs t,codeAmong y.1 ps.toList=some (.ref c')∧Fz ⟨[],[]⟩ s.heap c' o∧o.data=.fields vs∧vs[1]?=some (.str y.2 t):=fun P ys hP=>⟨_,hP,trivial,fun y _=>.inl rfl⟩
  rcases List.mem_cons.mp hx with e|hx
  ·rw[e];exact key _ _ h1
  ·rw[List.mem_singleton.mp hx];exact key _ _ h2⟩
end
theorem F0:(("translate" : Str),(43:Addr))∈DA.fns:=by decide +kernel
theorem N2:(("escape" : Str),(55:Addr))∈DA.fns:=by decide +kernel
theorem nZ:(("_translate" : Str),(62:Addr))∈DA.fns:=by decide +kernel
theorem C5:(("_join_translated_parts" : Str),(69:Addr))∈DA.fns:=by decide +kernel
theorem H7:(("heappush" : Str),(76:Addr))∈DA.fns:=by decide +kernel
theorem D6:(("heappop" : Str),(83:Addr))∈DA.fns:=by decide +kernel
theorem M3:(("_siftdown" : Str),(90:Addr))∈DA.fns:=by decide +kernel
theorem F7:(("_siftup" : Str),(97:Addr))∈DA.fns:=by decide +kernel
theorem I7:(("read_uint1" : Str),(104:Addr))∈DA.fns:=by decide +kernel
theorem M5:(("read_string1" : Str),(111:Addr))∈DA.fns:=by decide +kernel
theorem sJ:(("_law_take" : Str),(139:Addr))∈DA.fns:=by decide +kernel
theorem Yo:(("_law_stream" : Str),(146:Addr))∈DA.fns:=by decide +kernel
theorem tP:(("_law_counted" : Str),(153:Addr))∈DA.fns:=by decide +kernel
theorem lO:(("_law_row" : Str),(158:Addr))∈DA.fns:=by decide +kernel
theorem xX:(("_law_name" : Str),(163:Addr))∈DA.fns:=by decide +kernel
theorem rE:(("_law_means" : Str),(168:Addr))∈DA.fns:=by decide +kernel
theorem uI:(("_law_piece" : Str),(173:Addr))∈DA.fns:=by decide +kernel
theorem pW:(("_law_parts" : Str),(180:Addr))∈DA.fns:=by decide +kernel
theorem lV:(("_law_takes" : Str),(185:Addr))∈DA.fns:=by decide +kernel
theorem tX:(("_law_read" : Str),(190:Addr))∈DA.fns:=by decide +kernel
theorem Zj:(("_law_seat" : Str),(197:Addr))∈DA.fns:=by decide +kernel
theorem pE:(("_law_seated" : Str),(204:Addr))∈DA.fns:=by decide +kernel
theorem nR:(("_law_good" : Str),(209:Addr))∈DA.fns:=by decide +kernel
theorem xH:(("_law_first" : Str),(214:Addr))∈DA.fns:=by decide +kernel
theorem lP:(("_law_beaten" : Str),(219:Addr))∈DA.fns:=by decide +kernel
theorem pD:(("law" : Str),(224:Addr))∈DA.fns:=by decide +kernel
theorem B1:((HD:Str),(36:Addr))∈DA.fns:=by decide +kernel
theorem R2:(("_special_chars_map" : Str),(45:Addr))∈DA.fns:=by decide +kernel
theorem N1:(("_Example" : Str),(128:Addr))∈DA.fns:=by decide +kernel
theorem pK{mg mb:Str→Option Value}{mean:ExcName→Option Value}{h:Heap}(T:Top vw (looseW vw lo) mean mg mb h):∀x∈Gy,mg x=none:=fun x hx=>
 AF (List.all_eq_true.mp iF x hx) fun h1 h=>CY h fun h2 h3 h=>AF h fun h4 h5=>
  T.free x (nc (Af h1)) (nc (Af h2)) (nc (Af h3)) (nc (Af h4)) (nc (Af h5))
where nc {l:List Str} {x:Str} (h:l.contains x=false):x∉l:=fun q=>Bool.noConfusion (h.symm.trans (List.contains_iff_mem.mpr q))
theorem wP(x y:Pos):Cy x y=Cy y x:=by unfold Cy;rw[Bool.beq_comm (a:=x.line),Bool.beq_comm (a:=x.col)]
theorem Oa{h:Heap}{mg:Str→Option Value}{n:Str}{d:DefRec}{a c P a' c' P':Addr}{pm doc pm' doc':Value}(F:FA h mg n d a c P pm doc)(F':FA h mg n d a' c' P' pm' doc'):c=c'∧P=P':=by
 cases so (F.g.symm.trans F'.g)
 obtain⟨o,e1,_,e2⟩:=F.o
 obtain⟨o',e1',_,e2'⟩:=F'.o
 cases so (e1.symm.trans e1')
 cases (show Value.ref c=Value.ref c' from congrArg (fun x=>(OE x).elim Value.none FuncData.code) (e2.symm.trans e2'))
 exact⟨rfl,Fi F.hd fun o vs q1 _ q2 q3=>Fi F'.hd fun o' vs' q1' _ q2' q3'=>by
  rw[so (q1.symm.trans q1')]at q2
  rw[Data.fields.inj (q2.symm.trans q2')]at q3
  exact Value.ref.inj (so (q3.symm.trans q3'))⟩
structure WF(B:AV):Prop where
 W:V5 B
 fa:∀n d,Aj n=some d→(∃a,(n,a)∈DA.fns)→∃a c P pm doc,FA B.h₀ B.mg n d a c P pm doc
 t6:∀a c P pm doc,FA B.h₀ B.mg "_translate" d2 a c P pm doc→∀p k,(p,k)∈lpT→Dv B c P p (Pi d2.name k)
 t11:∀a c P pm doc,FA B.h₀ B.mg "_law_stream" Rv a c P pm doc→Dv B c P L9 BR
 map:∃o es ep,Im B "_special_chars_map" 45 o es ep
 ini:∃K fI d,Ib B K fI∧Ut d∧Lj B fI d
 Z:B.Z=Tv B.C qL
 ex:B.mg "_Example" = some (.ref B.C)
theorem XE{B:AV}{lv:Nat}{T:Nat→Option Str}{L:List (Pos×Str)}{Φ:Nat→Option Spec}{nt ps:List Str}{b:SL}{n:Str}{d:DefRec}{ad:Addr}(w:WF B)(hr:Aj n=some d)(hm:(n,ad)∈DA.fns)(hs:AQ d.scope=true)
  (hL:∀a c P pm doc,FA B.h₀ B.mg n d a c P pm doc→∀p k,(p,k)∈L→Dv B c P p (Pi d.name k)) (hk:CB T L nt b d=true) (K:Dt B lv T Φ) (hp:AX d=ps)
  (hb:∀(pm c doc:Value) (vals:List Value),vals.length=ps.length→bindArgs (docDef d.name d.params d.body d.scope pm c doc) ⟨vals,[]⟩=pure (ps.zip vals)):Fn B (lv+2) n (As (Ae Φ ps.length nt.length b)):=by
 subst hp
 obtain⟨a,c,P,pm,doc,F⟩:=w.fa n d hr ⟨ad,hm⟩
 exact⟨_,F.g,eU w.W F hs (hL _ _ _ _ _ F) hk K (hb pm (.ref c) doc)⟩
theorem kc{B:AV}{lv i lv':Nat}{n:Str}{sp:Spec}{r:List (Nat×Spec)}(hT:tT i=some n)(h:Fn B lv' n sp)(hl:lv'≤lv)(K:Dt B lv tT (tab r)):Dt B lv tT (tab ((i,sp)::r)):=Hx hT h hl K
theorem Ch{B:AV}{lv:Nat}{T:Nat→Option Str}{Φ:Nat→Option Spec}{nt ps:List Str}{b:SL}{n:Str}{d:DefRec}{ad:Addr}(w:WF B)(hr:Aj n=some d)(hm:(n,ad)∈DA.fns)(hs:AQ d.scope=true)(hk:CB T [] nt b d=true)(K:Dt B lv T Φ)(hp:AX d=ps)
  (hb:∀(pm c doc:Value) (vals:List Value),vals.length=ps.length→bindArgs (docDef d.name d.params d.body d.scope pm c doc) ⟨vals,[]⟩=pure (ps.zip vals)):Fn B (lv+2) n (As (Ae Φ ps.length nt.length b)):=XE w hr hm hs (fun _ _ _ _ _ _ p k hp=>absurd hp List.not_mem_nil) hk K hp hb
theorem TP{B:AV}{cc P:Addr}{pos:Pos}{qual:Str}(hm:∃ys,(P,ys)∈B.tabs∧(pos,qual)∈ys)(h1:∀x∈B.tabs,x.2.all (fun y=>!Cy y.1 pos||y.2==qual)=true)(hd:CodeHd B.h₀ cc P):Dv B cc P pos qual:=
 ⟨hm,fun x hx _ y hy hs=>(Bool.or_eq_true_iff.mp (List.all_eq_true.mp (h1 x hx) y hy)).elim (fun q=>by rw[hs]at q;exact Bool.noConfusion q) fun q=>beq_iff_eq.mp q,hd⟩
section
variable{B:AV}(w:WF B)
include w
theorem f1:Fn B 1 "escape" oK:=by
 obtain⟨a,c,P,pm,doc,F⟩:=w.fa _ _ J6 ⟨_,N2⟩
 obtain⟨o,es,ep,M⟩:=w.map
 exact⟨_,F.g,gN (lv:=0) (F.fn F8) w.W.N M (congrArg FuncBody.stmts E1) rfl R1 (H9 _ _ _)⟩
theorem f2:Fn B 3 "_translate" F5:=XE (lv:=1) (Φ:=tab aW) w rJ nZ I3 w.t6 G9 (kc (i:=1) rfl (f1 w) (by decide) AM) M2 fun pm c doc=>eH (A5 pm c doc)
theorem f3:Fn B 2 "_join_translated_parts" K1:=Ch (lv:=0) (Φ:=tab tL3) w Q5 C5 L8 H0 AM D1 fun pm c doc=>JO (H3 pm c doc)
theorem f0:Fn B 5 "translate" zP:=Ch (lv:=3) (Φ:=tab kP) w B2 F0 N7 F9 (kc (i:=2) rfl (f2 w) (by decide) (kc (i:=3) rfl (f3 w) (by decide) AM)) R6 fun pm c doc=>Ga (G0 pm c doc)
theorem f6:Fn B 2 "_siftdown" zW:=Ch (lv:=0) (Φ:=tab D0) w N0 M3 Q7 P8 AM L2 fun pm c doc=>eH (Q8 pm c doc)
theorem f4:Fn B 4 "heappush" G1:=Ch (lv:=2) (Φ:=tab T0) w O4 H7 B8 D2 (kc (i:=6) rfl (f6 w) (by decide) AM) E6 fun pm c doc=>JO (E3 pm c doc)
theorem f7:Fn B 4 "_siftup" B6:=Ch (lv:=2) (Φ:=tab lC) w N4 F7 A9 C3 (kc (i:=6) rfl (f6 w) (by decide) AM) P3 fun pm c doc=>JO (K6 pm c doc)
theorem f5:Fn B 6 "heappop" J9:=Ch (lv:=4) (Φ:=tab zY) w M0 D6 E7 P7 (kc (i:=7) rfl (f7 w) (by decide) AM) G7 fun pm c doc=>Ga (F4 pm c doc)
theorem X1:Fn B 2 "_law_take" RA:=Ch (lv:=0) (Φ:=tab Um) w vF sJ qY yP AM sX fun pm c doc=>JO (qT pm c doc)
theorem f8:Fn B 4 "read_uint1" oC:=Ch (lv:=2) (Φ:=tab rO) w K3 I7 P9 Q3 (kc (i:=10) rfl (X1 w) (by decide) AM) O2 fun pm c doc=>Ga (J8 pm c doc)
theorem f9:Fn B 6 "read_string1" oL:=Ch (lv:=4) (Φ:=tab lB) w H8 M5 I4 C8 (kc (i:=8) rfl (f8 w) (by decide) (kc (i:=10) rfl (X1 w) (by decide) AM)) A8 fun pm c doc=>Ga (S2 pm c doc)
theorem f11:Fn B 3 "_law_stream" Vs:=by
 obtain⟨a,c,P,pm,doc,F⟩:=w.fa _ _ Xa ⟨_,Yo⟩
 obtain⟨K,fI,d,S,I,XI⟩:=w.ini
 exact⟨_,F.g,Pn (lv:=0) S w.Z (F.fn uP) XI (congrArg FuncBody.stmts pA) vZ (nJ _ _ _) nD rfl (w.t11 _ _ _ _ _ F) w.ex I.bd ((congrArg Scope.names I.sc).trans E9) I.bind⟩
theorem f12:Fn B 2 "_law_counted" TB:=Ch (lv:=0) (Φ:=tab pO) w wG tP pG lQ AM qU fun pm c doc=>Ga (tA pm c doc)
theorem f13:Fn B 2 "_law_row" Wr:=Ch (lv:=0) (Φ:=tab Jm) w lZ lO rM nW AM qP fun pm c doc=>Ga (xT pm c doc)
theorem f14:Fn B 2 "_law_name" Vj:=Ch (lv:=0) (Φ:=tab Me) w uS xX rL xS AM nT fun pm c doc=>Ga (wC pm c doc)
theorem f15:Fn B 2 "_law_means" SS:=Ch (lv:=0) (Φ:=tab NS) w wM rE zA xO AM vC fun pm c doc=>JO (yG pm c doc)
theorem f16:Fn B 2 "_law_piece" PR:=Ch (lv:=0) (Φ:=tab Fy) w sZ uI yZ qJ AM mV fun pm c doc=>JO (qV pm c doc)
theorem f17:Fn B 4 "_law_parts" SV:=Ch (lv:=2) (Φ:=tab Ci) w oY pW wY wJ (kc (i:=16) rfl (f16 w) (by decide) AM) vT fun pm c doc=>Ga (pL pm c doc)
theorem f18:Fn B 2 "_law_takes" Rh:=Ch (lv:=0) (Φ:=tab Mt) w lJ lV rG vO AM pM fun pm c doc=>JO (wT pm c doc)
theorem f19:Fn B 8 "_law_read" TK:=Ch (lv:=6) (Φ:=tab Fu) w xI tX yR uL (kc (i:=8) rfl (f8 w) (by decide) (kc (i:=9) rfl (f9 w) (by decide) AM)) sC fun pm c doc=>Ga (yC pm c doc)
theorem W3:∀n,Fn B (2*n+2) "_law_seat" (Lo n)
 | 0=>(Ch (lv:=0) (Φ:=tab []) w YF Zj Ye Xp AM aC fun pm c doc=>qA (aM pm c doc)).imp fun v q=>⟨q.1,q.2.1,fun A R ω σ s Q E ps vs out σ' l hl I x e=>nn e⟩
 | n+1=>Ch (lv:=2*n+2) (Φ:=tab [(20,Lo n)]) w YF Zj Ye Xp (Hx (show tT 20=some "_law_seat" from rfl) (W3 n) (Nat.le_refl _) AM) aC fun pm c doc=>qA (aM pm c doc)
theorem f20:Fn B 14 "_law_seat" yT:=W3 w 6
theorem f21:Fn B 16 "_law_seated" Vz:=Ch (lv:=14) (Φ:=tab FD) w oR pE yF pT (kc (i:=4) rfl (f4 w) (by decide) (kc (i:=5) rfl (f5 w) (by decide) (kc (i:=20) rfl (f20 w) (by decide) AM))) tK fun pm c doc=>JO (wL pm c doc)
theorem f22:Fn B 2 "_law_good" UW:=Ch (lv:=0) (Φ:=tab SN) w sP nR qG vX AM yK fun pm c doc=>Ga (lR pm c doc)
theorem f23:Fn B 2 "_law_first" Uy:=Ch (lv:=0) (Φ:=tab Ko) w sY xH lS pH AM pP fun pm c doc=>JO (wQ pm c doc)
theorem f24:Fn B 2 "_law_beaten" VD:=Ch (lv:=0) (Φ:=tab MW) w wX lP yE lF AM mW fun pm c doc=>eH (sA pm c doc)
theorem f25:Fn B 18 "law" Vv:=Ch (lv:=16) (Φ:=tab CD) w pR pD xJ sK (kc (i:=0) rfl (f0 w) (by decide) (kc (i:=11) rfl (f11 w) (by decide) (kc (i:=12) rfl (f12 w) (by decide) (kc (i:=13) rfl (f13 w) (by decide) (kc (i:=14) rfl (f14 w) (by decide) (kc (i:=15) rfl (f15 w) (by decide) (kc (i:=17) rfl (f17 w) (by decide) (kc (i:=18) rfl (f18 w) (by decide) (kc (i:=19) rfl (f19 w) (by decide) (kc (i:=21) rfl (f21 w) (by decide) (kc (i:=22) rfl (f22 w) (by decide) (kc (i:=23) rfl (f23 w) (by decide) (kc (i:=24) rfl (f24 w) (by decide) AM))))))))))))) pV fun pm c doc=>Ga (yX pm c doc)
end
theorem To{w:World}{s:Shared}{mg mb:Str→Option Value}{mean:ExcName→Option Value}(T:Top vw (looseW vw lo) mean mg mb s.heap)(Y:hk1.says w s.heap)(hg:s.gens=#[]) :
  ∃B:AV,B.prog=PySem.Challenge.pw_rx0126_01∧B.w=w∧B.h₀=s.heap∧B.mg=mg∧B.os=s.os∧AL B ⟨[],[]⟩ [] s∧Fn B 18 "law" Vv:=
 Y.elim fun h₁ Y=>AF Y.1.1 fun y1 y=>CY y fun y2 y3 y=>AF y fun y' y=>AF y' fun y4 y5=>AF y fun y6 y7=>by
 have k:=Y.2
 have yI:=Y.1.2
 have ka:∀a,Bd h₁ a=true→Bd s.heap a=true:=fun a q=>BY q fun o e h=>by unfold Bd;rw[k _ _ e];exact h
 have at1:∀n a,(n,a)∈DA.fns→mg n=some (.ref a)∧Bd s.heap a=true:=fun n a q=>AF (List.all_eq_true.mp y5 (n,a) q) fun q1 q2=>⟨BY y6 fun o e _=>by
  rw[T.g.eq_nsMap,←QM q1];unfold Heap.nsMap;rw[e,k _ _ e],ka a q2⟩
 have fa:∀n d,Aj n=some d→(∃a,(n,a)∈DA.fns)→∃a c P pm doc,FA s.heap mg n d a c P pm doc:=fun n d hr hm=>xD T hr fun a' o e1 e2=>hm.elim fun a q=>by
  have ea:a'=a:=by injection so (e1.symm.trans (at1 n a q).1)
  rw[ea]at e2
  exact BY (at1 n a q).2 fun o' e h=>by rw[e2]at e;cases e;exact BW h
 obtain⟨a6,c6,P6,m6,o6,F6⟩:=fa _ _ rJ ⟨_,nZ⟩
 obtain⟨a11,c11,P11,m11,o11,F11⟩:=fa _ _ Xa ⟨_,Yo⟩
 have ok:=VL (w:=w) T F6.tb F11.tb (ka _ y6) (ka _ y7)
 have S:=Vw (B:=Ux w s mg mb P6 P11) (h₁:=h₁) (as:=DA.as) (fI:=DA.fI) y1 k
 refine⟨Ux w s mg mb P6 P11,rfl,rfl,rfl,rfl,rfl,vY ok F6.tb F11.tb hg,f25 ⟨⟨pK T,cK y2 k (at1 _ _ B1).1,⟨_,_,_,S,rfl⟩⟩,fa,fun a c P pm doc F=>?_,fun a c P pm doc F=>?_,
  cY (B:=Ux w s mg mb P6 P11) y3 k (at1 _ _ R2).1 (by decide) fun o es ep M=>⟨o,es,ep,M⟩,iZ (B:=Ux w s mg mb P6 P11) y4 (yI.trans C4) k fun d I XI=>⟨_,_,d,S,I,XI⟩,rfl,(at1 _ _ N1).1⟩⟩
 ·have u:=Oa F F6
  rw[u.1,u.2]
  refine fun p k hp=>TP (B:=Ux w s mg mb P6 P11) ⟨_,.head _,?_⟩ (fun x hx=>?_) F6.hd
  ·rcases List.mem_cons.mp hp with e|hp
   ·cases e;exact .head _
   ·cases List.mem_singleton.mp hp;exact .tail _ (.head _)
  ·rcases List.mem_cons.mp hp with e|hp
   ·cases e
    rcases List.mem_cons.mp hx with e|hx
    ·rw[e];dsimp only;decide +kernel
    ·rw[List.mem_singleton.mp hx];dsimp only;decide +kernel
   ·cases List.mem_singleton.mp hp
    rcases List.mem_cons.mp hx with e|hx
    ·rw[e];dsimp only;decide +kernel
    ·rw[List.mem_singleton.mp hx];dsimp only;decide +kernel
 ·have u:=Oa F F11
  rw[u.1,u.2]
  refine TP (B:=Ux w s mg mb P6 P11) ⟨_,.tail _ (.head _),.head _⟩ (fun x hx=>?_) F11.hd
  rcases List.mem_cons.mp hx with e|hx
  ·rw[e];dsimp only;decide +kernel
  ·rw[List.mem_singleton.mp hx];dsimp only;decide +kernel
abbrev P1:Prop:=LeftO PySem.Challenge.pw_rx0126_01 vw lo (fun s=>xlAt vw [] s&&recOk [] s) (WM DA) (fun _=>(true,Bk PySem.Challenge.pw_rx0126_01 "_Example")) 9000
def Xu:Prop:=∀l:List Int,l.length≤63→Vv [.lst (l.map .int)] []=some (.val (.bool true),[])
theorem oG:defOf vw "law" = some (ME,[]):=by kernel_rfl
theorem oN:PySem.Challenge.pw_rx0126_01.theDef "law" = some (ME.params,ME.body,ME.scope):=by kernel_rfl
theorem R4:kwWritten? ME.params.kwonlyargs ME.params.kw_defaults=some []:=by kernel_rfl
theorem pU:PySem.Challenge.rw_rx0126_01.wellSaid=true:=by decide +kernel
theorem nE:(chainsOk vw&&opensWell PySem.Challenge.pw_rx0126_01&&(frees PySem.Challenge.rw_rx0126_01.row.toRowW&&PySem.Challenge.rw_rx0126_01.row.toRowW.within.isEmpty))=true:=by decide +kernel
theorem nO:PySem.Challenge.pw_rx0126_01.bare:=⟨rfl,rfl,rfl,rfl,rfl,by decide +kernel⟩
theorem tW:PySem.Challenge.rw_rx0126_01.row.toRowW.promised:=by w_witness2
theorem Nh{C:Addr}{ω:Wd}{h:Heap}:∀{vs:List Value} {ns:List Int},IntsAre vs ns→VRs C ω h (ns.map .int) vs
 | _,_,.nil=>.nil
 | _,_,.cons n t r=>.cons_in .int_in (Nh r)
theorem Q4:Rm 18 callerA:=⟨rfl,by decide +kernel,by decide +kernel⟩
theorem SB{w:World}{s:Shared}{mg mb:Str→Option Value}{mean:ExcName→Option Value}{fa a:Addr}{vs:List Value}{l:List Int}{E Q:Value→Shared→Prop}(T:Top vw (looseW vw lo) mean mg mb s.heap)(Y:hk1.says w s.heap)(hg:s.gens=#[])(hmg:mg ME.name=some (.ref fa))
  (hp:Xu) (hL:s.heap.IsList a vs.toArray) (hI:IntsAre vs l) (hl:l.length≤63) (k:∀s',OldK s.heap s'.heap→s'.os=s.os→AllBare s'.gens→Q (.bool true) s'):wpAny (model PySem.Challenge.pw_rx0126_01 w) callerA (call (.ref fa) [.ref a]) Q E s:=by
 obtain⟨B,b1,b2,b3,b4,b5,I,v,hv,hf⟩:=To T Y hg
 rw[b4,←yA,hmg]at hv
 cases so hv
 obtain⟨o,e1,e2,n,e3⟩:=hL
 have fz:Fz ⟨[],[]⟩ s.heap a o:=⟨(fun q=>nomatch q),(fun q=>nomatch q),e1,HE e3⟩
 have:=hf.2 callerA Q4 ⟨[],[]⟩ [] s Q E [.lst (l.map .int)] [.ref a] _ [] [] ⟨rfl,(fun e he=>nomatch he)⟩ I (.one (.lst_in fz e2 e3 (by rw[List.toList_toArray];exact Nh hI))) (hp l hl) fun v ω' s' G I' x=>VR.bool_el (P:=fun v=>Q v s') x (k s' (b3▸I'.old) (I'.os.trans b5) I'.gens)
 rw[b1,b2]at this
 exact this
set_option tactic.hygienic true in
theorem dS(hp:Xu)(hr:P1):PySem.Challenge.rw_rx0126_01.Holds:=by
 refine holds_law pU fun said=>?_
 refine PySem.W.holds_open (q:=vw) (loose:=lo) (d:=ME) (kwd:=[]) (Xt:=fun s=>xlAt vw [] s&&recOk [] s) (XP:=PySem.W.XL vw []) (Yf:=Hook.obs hk1) (Ya:=Hook.val hk1) (YP:=Hook.says hk1) (N:=9000) hr (Hook.of hk1) (Hook.keeps hk1) (fun s e=>xl_of s (Bool.and_eq_true_iff.mp e).1) PySem.W.XL.keeps oG oN R4 (fun s e=>recFacts_of (Bool.and_eq_true_iff.mp e).2) (by rfl) said nE nO tW ?hc
 intro w s₀ s₁ mg mb G Y fa o pm cd doc dV kV ho hd hcd hD hmg hg args vals as hpre hlay hrd hwl hlo
 wrow_args hpre hlay hrd hwl hlo
 rename_i l hs hlay0 hL1 hr1 hl2 w4 w3 a vs w0 hL ra w1 r0 hI hr' hc1 hc2
 refine SB G.T Y hg hmg hp hL hI (by omega) fun s' ok os gens=>⟨.inl ⟨.bool true,.bool true,[],rfl,?_,.bool _,?_,fun _=>⟨.nil,fun a q=>(nomatch q)⟩⟩,ok,os,gens⟩
 ·exact raisesW_false (r:=PySem.Challenge.rw_rx0126_01.row.toRowW) (by wrow_none_raised)
 ·wrow_post
end Sh
namespace Sh
open PySem PySem.Calls
section
variable{α β:Type}
theorem AC{o:Option α}{f:α→Option β}{a:α}{r:Option β}(h:o=some a)(k:f a=r):bd o f=r:=h▸k
theorem AE{o:Option (α×St)}{f:α→St→Option β}{a:α}{σ:St}{r:Option β}(h:o=some (a,σ))(k:f a σ=r):sq o f=r:=h▸k
theorem BO{o:Option (SR×Fm×St)}{f:SR→Fm→St→Option β}{t:SR}{m:Fm}{σ:St}{r:Option β}(h:o=some (t,m,σ))(k:f t m σ=r):s3 o f=r:=h▸k
theorem AK{b:Bool}{x r:Option α}(h:b=true)(k:x=r):gd b x=r:=h▸k
theorem BD{o:Option α}{σ:St}{x:α}(h:o=some x):vl o σ=some (x,σ):=h▸rfl
theorem DP{a b:Option α}{x:α}(h:a=some x):ql a b=some x:=by rw[h];rfl
theorem Av{a b r:Option α}(h:a=none)(k:b=r):ql a b=r:=h▸k
theorem Sw{b:Bool}{x y r:Option α}(h:b=true)(k:x=r):cond b x y=r:=h▸k
theorem YN{b:Bool}{x y r:Option α}(h:b=false)(k:y=r):cond b x y=r:=h▸k
end
theorem Ag{n:Nat}(h:n≤1000):decide (n≤BM)=true:=decide_eq_true (Nat.le_trans h (by decide))
section
variable{Φ:Nat→Option Spec}{s:S}{r:SL}{m m':Fm}{σ σ':St}{t:SR}
theorem AA{R:Option (SR×Fm×St)}(h:Ab Φ s m σ=some (.next,m',σ'))(k:evSL Φ r m' σ'=R):evSL Φ (.cons s r) m σ=R:=BO h k
theorem AN(h:Ab Φ s m σ=some (t,m',σ'))(ht:KB t=false):evSL Φ (.cons s r) m σ=some (t,m',σ'):=BO h (by rw[ht];rfl)
theorem L6:evSL Φ .nil m σ=some (.next,m,σ):=rfl
end
section
variable{Φ:Nat→Option Spec}{m m':Fm}{σ σ₁ σ₂ σ₃ σ₄:St}{p q r u:PV}{x y z a:X}{xs:XL}{ps:List PV}{R:Option (SR×Fm×St)}{b o:SL}{i f:Nat}
theorem Am(h:ev Φ x m σ=some (p,σ₁)):Ab Φ (.as i x) m σ=some (.next,m.set i (some p),σ₁):=AE h rfl
theorem Ea(h:ev Φ x m σ=some (p,σ₁)):Ab Φ (.ex x) m σ=some (.next,m,σ₁):=AE h rfl
theorem Bz(h:ev Φ x m σ=some (p,σ₁)):Ab Φ (.ret x) m σ=some (.ret p,m,σ₁):=AE h rfl
theorem Hz(h1:ev Φ x m σ=some (r,σ₁))(h2:ev Φ y m σ₁=some (p,σ₂))(h3:ev Φ z m σ₂=some (q,σ₃))(h4:PE p q r σ₃=some σ₄):Ab Φ (.asI y z x) m σ=some (.next,m,σ₄):=AE h1 (AE h2 (AE h3 (AC h4 rfl)))
theorem Ao(h:ev Φ x m σ=some (p,σ₁))(h2:AT σ₁ p=some true)(h3:evSL Φ b m σ₁=R):Ab Φ (.iff x b o) m σ=R:=AE h (AC h2 h3)
theorem AS(h:ev Φ x m σ=some (p,σ₁))(h2:AT σ₁ p=some false)(h3:evSL Φ o m σ₁=R):Ab Φ (.iff x b o) m σ=R:=AE h (AC h2 h3)
theorem Ac(h1:ev Φ x m σ=some (p,σ₁))(h2:ev Φ y m σ₁=some (q,σ₂))(h3:CC σ₂ p q=some r):ev Φ (.idx x y) m σ=some (r,σ₂):=AE h1 (AE h2 (BD h3))
theorem Az{op:Operator}(h1:ev Φ x m σ=some (p,σ₁))(h2:ev Φ y m σ₁=some (q,σ₂))(h3:Ie op p q σ₂=some r):ev Φ (.bin op x y) m σ=some (r,σ₂):=AE h1 (AE h2 (BD h3))
theorem AI{op:CmpOp}{t:Bool}(h1:ev Φ x m σ=some (p,σ₁))(h2:ev Φ y m σ₁=some (q,σ₂))(h3:Co op p q σ₂=some t):ev Φ (.cmp op x y) m σ=some (.bool t,σ₂):=AE h1 (AE h2 (AC h3 rfl))
theorem Ai{sp:Spec}(h1:evL Φ xs m σ=some (ps,σ₁))(h2:Φ f=some sp)(h3:sp ps σ₁=some (.val r,σ₂)):ev Φ (.call f xs) m σ=some (r,σ₂):=AE h1 (AC h2 (AE h3 rfl))
theorem CT{k:BI}(h1:evL Φ xs m σ=some (ps,σ₁))(h2:UD k ps σ₁=some r):ev Φ (.bi k xs) m σ=some (r,σ₁):=AE h1 (BD h2)
theorem DW{k:MT}(h1:ev Φ x m σ=some (p,σ₁))(h2:Pu k p σ₁=some ())(h3:evL Φ xs m σ₁=some (ps,σ₂))(h4:MO k p ps σ₂=some (r,σ₃)):ev Φ (.me k x xs) m σ=some (r,σ₃):=AE h1 (AC h2 (AE h3 h4))
theorem AG:evL Φ .nil m σ=some ([],σ):=rfl
theorem AD(h1:ev Φ x m σ=some (p,σ₁))(h2:evL Φ xs m σ₁=some (ps,σ₂)):evL Φ (.cons x xs) m σ=some (p::ps,σ₂):=AE h1 (AE h2 rfl)
end
inductive B0(t:Fm→St→Option (Bool×St))(b:ML)(I:Nat→Fm→St→Prop)(Q:Fm→St→Prop)(k:Nat)(m:Fm)(σ:St):Prop
 | stop {σ':St} (h:t m σ=some (false,σ')) (q:Q m σ')
 | go {σ₁ σ':St} {r:SR} {m':Fm} {k':Nat} (h:t m σ=some (true,σ₁)) (hb:b m σ₁=some (r,m',σ')) (hr:r=.next∨r=.cont) (hk:k'<k) (i:I k' m' σ')
 | brk {σ₁ σ':St} {m':Fm} (h:t m σ=some (true,σ₁)) (hb:b m σ₁=some (.brk,m',σ')) (q:Q m' σ')
theorem GL{t:Fm→St→Option (Bool×St)}{b:ML}{I:Nat→Fm→St→Prop}{Q:Fm→St→Prop}(step:∀k m σ,I k m σ→B0 t b I Q k m σ) :
  ∀(n k:Nat) (m:Fm) (σ:St),k<n→I k m σ→∃m' σ',ED t b n m σ=some (.next,m',σ')∧Q m' σ'
 | 0,_,_,_,h,_=>absurd h (Nat.not_lt_zero _)
 | n+1,k,m,σ,h,i=>match step k m σ i with
  | .stop (σ':=σ') h q=>⟨m,σ',AE h rfl,q⟩
  | .go h1 hb hr hk i=>(GL step n _ _ _ (Nat.lt_of_lt_of_le hk (Nat.le_of_lt_succ h)) i).elim fun m' q=>q.elim fun σ' q=>⟨m',σ',AE h1 (BO hb (by rcases hr with e|e<;>(rw[e];exact q.1))),q.2⟩
  | .brk (m':=m') (σ':=σ') h1 hb q=>⟨m',σ',AE h1 (BO hb rfl),q⟩
def DI(σ:St):Prop:=∀n,σ.all (Ex n)=true
theorem Bf{sp:Spec}{ps:List PV}{σ σ' e:St}{p q:PV}(h:sp ps σ=some (.val p,σ'++e))(hl:σ'.length=σ.length)(hp:OF σ.length (σ'++e) 100000 p=some q)(hc:DI σ'):As sp ps σ=some (.val q,σ'):=by
 have ht:(σ'++e).take σ.length=σ':=by rw[←hl];exact List.take_left
 exact AE h (AC (AC hp rfl) (AK (by rw[ht];exact hc _) (by rw[ht])))
section
variable{σ:St}{n:Nat}{l:List PV}
theorem BS(h:σ[n]?=some (.lst l)):Bv σ n=some l:=AC h rfl
theorem ER(h:σ[n]?=some (.lst l)):Bx σ (.loc n)=some l:=Av rfl (AC rfl (BS h))
theorem Bh{i:Nat}{p:PV}(h:σ[n]?=some (.lst l))(hl:l.length≤1000)(hi:l[i]?=some p):CC σ (.loc n) (.int i)=some p:=by
 have hlt:i<l.length:=(List.getElem?_eq_some_iff.mp hi).1
 refine AK (decide_eq_true ?_) (Av rfl (Av rfl (Av rfl (AC (ER h) (AK (Ag hl) (AC (a:=i) ?_ hi))))))
 ·show i<2^60;lia
 ·exact seqIndex_of (Int.natCast_nonneg i) (Int.ofNat_lt.mpr hlt)
theorem Dk{i:Nat}{p:PV}(h:σ[n]?=some (.lst l))(hl:l.length≤1000)(hi:i<l.length):PE (.loc n) (.int i) p σ=some (σ.set n (.lst (l.set i p))):=
 AC rfl (AC rfl (AC (BS h) (AK (Bool.and_eq_true_iff.mpr ⟨decide_eq_true (Int.natCast_nonneg _),Bool.and_eq_true_iff.mpr ⟨decide_eq_true (Int.ofNat_lt.mpr hi),Ag hl⟩⟩) rfl)))
theorem Jq(h:σ[n]?=some (.lst l))(hl:l.length≤1000):LI σ (.loc n)=some (.int l.length):=Av rfl (Av rfl (AC (ER h) (AK (Ag hl) rfl)))
theorem Ja(h:σ[n]?=some (.lst l))(hl:l.length≤1000):AT σ (.loc n)=some (!l.isEmpty):=AC (BS h) (AK (Ag hl) rfl)
theorem CN{o:PO}(h:n<σ.length):(σ.set n o)[n]?=some o:=List.getElem?_set_self h
theorem DY{o:PO}(h:σ[n]?=some o):n<σ.length:=(List.getElem?_eq_some_iff.mp h).1
end
def Hp(g:Nat→Nat)(n:Nat):Prop:=∀i,0<i→i<n→g ((i-1)/2)≤g i
structure Ff(g:Nat→Nat)(n p:Nat):Prop where
 far:∀i,0<i→i<n→i≠p→(i-1)/2≠p→g ((i-1)/2)≤g i
 skip:∀i,0<i→i<n→(i-1)/2=p→0<p→g ((p-1)/2)≤g i
def Vm(g:Nat→Nat)(n p x:Nat):Prop:=∀i,0<i→i<n→(i-1)/2=p→x≤g i
section
variable{g g':Nat→Nat}{n p x c:Nat}
theorem UV(H:Ff g n p)(hc:Vm g n p x)(hp:0<p)(hpn:p<n)(hx:x<g ((p-1)/2))(hg:∀j,g' j=if j=p then g ((p-1)/2) else g j):Ff g' n ((p-1)/2)∧Vm g' n ((p-1)/2) x:=by
 refine⟨⟨fun i h1 h2 h3 h4=>?_,fun i h1 h2 h3 h4=>?_⟩,fun i h1 h2 h3=>?_⟩
 ·rw[hg,hg,if_neg (show ¬i=p from fun e=>h4 (by rw[e]))]
  by_cases q:(i-1)/2=p
  ·rw[if_pos q];exact H.skip i h1 h2 q hp
  ·rw[if_neg q];exact H.far i h1 h2 (fun e=>h4 (by rw[e])) q
 ·have hq:=H.far ((p-1)/2) h4 (by lia) (by omega) (by lia)
  rw[hg,hg,if_neg (show ¬((p-1)/2-1)/2=p by omega)]
  by_cases q:i=p
  ·rw[if_pos q];exact hq
  ·rw[if_neg q];have:=H.far i h1 h2 q (by omega);rw[h3]at this;lia
 ·rw[hg]
  by_cases q:i=p
  ·rw[if_pos q];lia
  ·rw[if_neg q];have:=H.far i h1 h2 q (by omega);rw[h3]at this;lia
theorem QJ(H:Ff g n p)(hc:Vm g n p x)(hq:0<p→g ((p-1)/2)≤x)(hg:∀j,g' j=if j=p then x else g j):Hp g' n:=fun i h1 h2=>by
 rw[hg,hg]
 by_cases q:i=p
 ·rw[if_pos q,if_neg (by omega),q];exact hq (by lia)
 ·rw[if_neg q]
  by_cases q':(i-1)/2=p
  ·rw[if_pos q'];exact hc i h1 h2 q'
  ·rw[if_neg q'];exact H.far i h1 h2 q q'
theorem Ph(H:Ff g n p)(h0:0<c)(hcp:(c-1)/2=p)(hcn:c<n)(hmin:Vm g n p (g c))(hg:∀j,g' j=if j=p then g c else g j):Ff g' n c:=by
 refine⟨fun i h1 h2 h3 h4=>?_,fun i h1 h2 h3 h4=>?_⟩
 ·rw[hg,hg]
  by_cases q:i=p
  ·rw[if_pos q,if_neg (by omega),q];exact H.skip c h0 hcn hcp (by omega)
  ·rw[if_neg q]
   by_cases q':(i-1)/2=p
   ·rw[if_pos q'];exact hmin i h1 h2 q'
   ·rw[if_neg q'];exact H.far i h1 h2 q q'
 ·rw[hg,hg,hcp,if_pos rfl,if_neg (by lia)]
  have:=H.far i h1 h2 (by lia) (by lia)
  rw[h3]at this;exact this
theorem zM(H:Hp g n):Ff g n 0:=⟨fun i h1 h2 _ _=>H i h1 h2,fun i _ _ _ h=>absurd h (Nat.lt_irrefl 0)⟩
theorem gJ(H:Hp g n):∀i,i<n→g 0≤g i:=fun i=>by
 induction i using Nat.strongRecOn with
 | _ i ih=>exact fun h=>(Nat.eq_zero_or_pos i).elim (fun e=>e▸Nat.le_refl _) fun h0=>Nat.le_trans (ih ((i-1)/2) (by lia) (by lia)) (H i h0 h)
theorem zV(H:Hp g n){m:Nat}(h:m≤n):Hp g m:=fun i h1 h2=>H i h1 (Nat.lt_of_lt_of_le h2 h)
end
section
variable{α:Type}{κ:α→Nat}{f:α→PV}
noncomputable def ky(κ:α→Nat)(l:List α)(i:Nat):Nat:=(l[i]?).elim 0 κ
theorem FW{l:List α}{i:Nat}{a:α}(h:l[i]?=some a):ky κ l i=κ a:=by unfold ky;rw[h];rfl
theorem Jk{l:List α}{p:Nat}{x:α}(h:p<l.length)(j:Nat):ky κ (l.set p x) j=if j=p then κ x else ky κ l j:=by
 unfold ky
 by_cases q:j=p
 ·rw[if_pos q,q,List.getElem?_set_self h];rfl
 ·rw[if_neg q,List.getElem?_set_ne (Ne.symm q)]
theorem JA{l:List α}{p q:Nat}{x y:α}(hp:p<l.length)(hq:q<l.length)(hpq:p≠q)(hy:l[q]?=some y):((l.set p y).set q x).Perm (l.set p x):=by
 have h1:p<(l.set p x).length:=by rw[List.length_set];exact hp
 have h2:q<(l.set p x).length:=by rw[List.length_set];exact hq
 have:=List.set_set_perm h1 h2
 rw[List.getElem_set_self,List.getElem_set_ne hpq,List.set_set]at this
 rw[show l[q]=y from Option.some.inj ((List.getElem?_eq_getElem hq).symm.trans hy)]at this
 exact this
noncomputable def F2:X:=.cmp .Gt (.v 2) (.v 1)
noncomputable def V9:SL:=.cons (.as 4 (.bin .RShift (.bin .Sub (.v 2) (.int 1)) (.int 1))) (.cons (.as 5 (.idx (.v 0) (.v 4))) (.cons (.iff (.cmp .Lt (.v 3) (.v 5)) (.cons (.asI (.v 0) (.v 2) (.v 5)) (.cons (.as 2 (.v 4)) (.cons .cont .nil))) .nil) (.cons .brk .nil)))
theorem kJ:rK=.cons (.as 3 (.idx (.v 0) (.v 2))) (.cons (.wh F2 V9) (.cons (.asI (.v 0) (.v 2) (.v 3)) .nil)):=rfl
variable{Φ:Nat→Option Spec}{σ:St}{n N:Nat}{x:α}
structure Z4(f:α→PV)(κ:α→Nat)(σ:St)(n N:Nat)(x:α)(L₀:List α)(p:Nat)(L:List α):Prop where
 lt:p<N
 len:L.length=N
 hole:Ff (ky κ L) N p
 chi:Vm (ky κ L) N p (κ x)
 perm:(L.set p x).Perm L₀
noncomputable def Ow(f:α→PV)(n p:Nat)(x:α)(o4 o5:Option PV):Fm:=[some (.loc n),some (.int 0),some (.int p),some (f x),o4,o5]
theorem VW(hlt:∀a b,kO (f a) (f b)=some (decide (κ a<κ b)))(hn:n<σ.length)(hN:N≤900){L₀ L:List α}{p:Nat}(I:Z4 f κ σ n N x L₀ p L){o4 o5:Option PV} :
  ∃m' σ',ED (Gg Φ F2) (evSL Φ V9) WH (Ow f n p x o4 o5) (σ.set n (.lst (L.map f)))=some (.next,m',σ')∧∃(p:Nat) (L:List α) (o4 o5:Option PV),m'=Ow f n p x o4 o5∧σ'=σ.set n (.lst (L.map f))∧L.length=N∧p<N∧(L.set p x).Perm L₀∧Hp (ky κ (L.set p x)) N:=by
 refine GL (I:=fun k m σ'=>∃(L:List α) (o4 o5:Option PV),m=Ow f n k x o4 o5∧σ'=σ.set n (.lst (L.map f))∧Z4 f κ σ n N x L₀ k L) (fun k m σ' ⟨L,o4,o5,hm,hσ,I⟩=>?_) WH p _ _ (by have:=I.lt;show p<100000;lia) ⟨L,o4,o5,rfl,rfl,I⟩
 subst hm hσ
 have hk:k<L.length:=by rw[I.len];exact I.lt
 have ht:Gg Φ F2 (Ow f n k x o4 o5) (σ.set n (.lst (L.map f)))=some (decide ((0:Int)<(k:Int)),σ.set n (.lst (L.map f))):=rfl
 have fin:(0<k→ky κ L ((k-1)/2)≤κ x)→Hp (ky κ (L.set k x)) N:=fun h=>QJ I.hole I.chi h (Jk hk)
 by_cases h0:k=0
 ·rw[show decide ((0:Int)<(k:Int))=false from decide_eq_false (by lia)]at ht
  exact .stop ht ⟨k,L,o4,o5,rfl,rfl,I.len,I.lt,I.perm,fin fun h=>absurd h (by lia)⟩
 ·rw[show decide ((0:Int)<(k:Int))=true from decide_eq_true (by lia)]at ht
  have hq:(k-1)/2<L.length:=by omega
  obtain⟨y,hy⟩:∃y,L[(k-1)/2]?=some y:=⟨_,List.getElem?_eq_getElem hq⟩
  have hσn:=CN (o:=.lst (L.map f)) hn
  have hl:(L.map f).length≤1000:=by rw[List.length_map,I.len];lia
  have e4:Ab Φ (.as 4 (.bin .RShift (.bin .Sub (.v 2) (.int 1)) (.int 1))) (Ow f n k x o4 o5) (σ.set n (.lst (L.map f)))=some (.next,Ow f n k x (some (.int ((k-1)/2:Nat))) o5,σ.set n (.lst (L.map f))):=by
   show some (SR.next,Ow f n k x (some (.int (((k:Int)-1).fdiv (2^((1:Int).toNat))))) o5,_)=_
   rw[show((k:Int)-1).fdiv (2^((1:Int).toNat))=((k-1)/2:Nat) by
    rw[show(2:Int)^((1:Int).toNat)=2 from rfl,Int.fdiv_eq_ediv_of_nonneg _ (by decide)];omega]
  have e5:Ab Φ (.as 5 (.idx (.v 0) (.v 4))) (Ow f n k x (some (.int ((k-1)/2:Nat))) o5) (σ.set n (.lst (L.map f)))=some (.next,Ow f n k x (some (.int ((k-1)/2:Nat))) (some (f y)),σ.set n (.lst (L.map f))):=
   AE (AE rfl (AE rfl (BD (Bh hσn hl (by rw[List.getElem?_map,hy];rfl))))) rfl
  by_cases hc:κ x<κ y
  ·have e6:Ab Φ (.iff (.cmp .Lt (.v 3) (.v 5)) (.cons (.asI (.v 0) (.v 2) (.v 5)) (.cons (.as 2 (.v 4)) (.cons .cont .nil))) .nil) (Ow f n k x (some (.int ((k-1)/2:Nat))) (some (f y))) (σ.set n (.lst (L.map f))) =
     some (.cont,Ow f n ((k-1)/2) x (some (.int ((k-1)/2:Nat))) (some (f y)),(σ.set n (.lst (L.map f))).set n (.lst ((L.map f).set k (f y)))):=
    Ao (AI rfl rfl (hlt x y)) (congrArg some (decide_eq_true hc)) (AA (Hz rfl rfl rfl (Dk hσn hl (by rw[List.length_map];exact hk))) (AA (Am rfl) rfl))
   refine .go ht (AA e4 (AA e5 (AN e6 rfl))) (.inr rfl) (show(k-1)/2<k by omega) ⟨L.set k y,some (.int ((k-1)/2:Nat)),some (f y),rfl,?_,?_⟩
   ·rw[List.set_set,List.map_set]
   ·have u:=UV (g':=ky κ (L.set k y)) I.hole I.chi (by lia) I.lt (by rw[FW hy];exact hc) (fun j=>by rw[Jk hk,FW hy])
    exact⟨by have:=I.lt;omega,by rw[List.length_set];exact I.len,u.1,u.2,(JA hk hq (by omega) hy).trans I.perm⟩
  ·exact .brk ht (AA e4 (AA e5 (AA (AS (AI rfl rfl (hlt x y)) (congrArg some (decide_eq_false hc)) rfl) (AN (t:=.brk) rfl rfl))))
    ⟨k,L,_,_,rfl,rfl,I.len,I.lt,I.perm,fin fun _=>by rw[FW hy];lia⟩
theorem eE(hlt:∀a b,kO (f a) (f b)=some (decide (κ a<κ b))){L:List α}{p:Nat}(h:σ[n]?=some (.lst (L.map f)))(hN:L.length≤900)(hx:L[p]?=some x)(H:Ff (ky κ L) L.length p)(hc:Vm (ky κ L) L.length p (κ x)) :
  ∃L',Ae Φ 3 6 rK [.loc n,.int 0,.int p] σ=some (.val .none,σ.set n (.lst (L'.map f)))∧L'.Perm L∧Hp (ky κ L') L.length:=by
 have hn:=DY h
 have hp:p<L.length:=(List.getElem?_eq_some_iff.mp hx).1
 have hσ:σ=σ.set n (.lst (L.map f)):=by
  refine List.ext_getElem? fun i=>?_
  by_cases q:i=n
  ·rw[q,h,CN hn]
  ·rw[List.getElem?_set_ne (Ne.symm q)]
 have hs:L.set p x=L:=by
  refine List.ext_getElem? fun i=>?_
  by_cases q:i=p
  ·rw[q,hx,List.getElem?_set_self hp]
  ·rw[List.getElem?_set_ne (Ne.symm q)]
 obtain⟨m',σ',h1,p',L',o4,o5,hm,hσ',hl,hp',pm,hh⟩:=VW (Φ:=Φ) (x:=x) hlt hn hN (L₀:=L) (L:=L) (p:=p) ⟨hp,rfl,H,hc,by rw[hs]⟩ (o4:=none) (o5:=none)
 rw[←hσ]at h1
 subst hm hσ'
 have h3:Ab Φ (.as 3 (.idx (.v 0) (.v 2))) [some (.loc n),some (.int 0),some (.int p),none,none,none] σ=some (.next,Ow f n p x none none,σ):=
  AE (AE rfl (AE rfl (BD (Bh h (by rw[List.length_map];lia) (by rw[List.getElem?_map,hx];rfl))))) rfl
 refine⟨L'.set p' x,AK rfl (BO (t:=.next) (m:=Ow f n p' x o4 o5) (σ:=(σ.set n (.lst (L'.map f))).set n (.lst ((L'.map f).set p' (f x)))) ?_ ?_),pm,hh⟩
 ·show evSL Φ rK _ _=_
  rw[kJ]
  exact AA h3 (AA h1 (AA (Hz rfl rfl rfl (Dk (CN hn) (by rw[List.length_map];lia) (by rw[List.length_map];lia))) rfl))
 ·rw[List.set_set,List.map_set];rfl
end
theorem DV{sp:Spec}{ps:List PV}{σ σ':St}{p q:PV}(h:sp ps σ=some (.val p,σ'))(hl:σ'.length=σ.length)(hp:OF σ.length σ' 100000 p=some q)(hc:DI σ'):As sp ps σ=some (.val q,σ'):=
 Bf (e:=[]) (by rw[List.append_nil];exact h) hl (by rw[List.append_nil];exact hp) hc
theorem Gu{σ:St}{n:Nat}{o:PO}(h:DI σ)(ho:∀k,Ex k o=true):DI (σ.set n o):=fun k=>List.all_eq_true.mpr fun x hx=>(List.mem_or_eq_of_mem_set hx).elim (List.all_eq_true.mp (h k) x) fun e=>e▸ho k
theorem Dl{α:Type}{f:α→PV}(h:∀a k,uO k (f a)=true)(k:Nat):∀l:List α,clL k (l.map f)=true
 | []=>rfl
 | a::l=>Bool.and_eq_true_iff.mpr ⟨h a k,Dl h k l⟩
section
variable{Φ:Nat→Option Spec}{m:Fm}{σ σ₁ σ₂:St}{p q:PV}{x y:X}
theorem FZ(h:ev Φ x m σ=some (p,σ₁))(t:AT σ₁ p=some false):ev Φ (.bo .And (.cons x (.cons y .nil))) m σ=some (p,σ₁):=AE h (AC t rfl)
theorem CO(h:ev Φ x m σ=some (p,σ₁))(t:AT σ₁ p=some true)(h2:ev Φ y m σ₁=some (q,σ₂)):ev Φ (.bo .And (.cons x (.cons y .nil))) m σ=some (q,σ₂):=AE h (AC t (AE h2 rfl))
theorem VS{b:Bool}(h:ev Φ x m σ=some (p,σ₁))(t:AT σ₁ p=some b):ev Φ (.no x) m σ=some (.bool (!b),σ₁):=AE h (AC t rfl)
theorem O0{p:Nat}(h:p≤1000):Ie .Mult (.int 2) (.int p) σ=some (.int (2*p:Nat)):=AK (Bool.and_eq_true_iff.mpr ⟨rfl,decide_eq_true (by show p<2^60;lia)⟩) rfl
end
structure HQ(α:Type) where
 f:α→PV
 κ:α→Nat
 lt:∀a b,kO (f a) (f b)=some (decide (κ a<κ b))
 cl:∀a k,uO k (f a)=true
 fz:∀a n σ,OF n σ 100000 (f a)=some (f a)
section
variable{α:Type}(H:HQ α){σ:St}{n:Nat}{x:α}{L:List α}
noncomputable def HQ.lst(L:List α):PO:=.lst (L.map H.f)
def HQ.Hp(L:List α):Prop:=Sh.Hp (ky H.κ L) L.length
variable{H}
theorem Cw(h:DI σ)(L:List α):DI (σ.set n (H.lst L)):=Gu h fun k=>Bool.and_eq_true_iff.mpr ⟨Dl H.cl k L,rfl⟩
theorem OH{p:Nat}(h:σ[n]?=some (H.lst L))(hN:L.length≤900)(hx:L[p]?=some x)(Ho:Ff (ky H.κ L) L.length p)(hc:Vm (ky H.κ L) L.length p (H.κ x))(c:DI σ) :
  ∃L',zW [.loc n,.int 0,.int p] σ=some (.val .none,σ.set n (H.lst L'))∧L'.Perm L∧H.Hp L':=
 (eE (Φ:=tab D0) H.lt h hN hx Ho hc).imp fun L' q=>⟨DV q.1 List.length_set rfl (Cw c L'),q.2.1,by unfold HQ.Hp;rw[q.2.1.length_eq];exact q.2.2⟩
theorem Io(h:H.Hp L)(y:α):Ff (ky H.κ (L++[y])) (L++[y]).length L.length∧∀z,Vm (ky H.κ (L++[y])) (L++[y]).length L.length z:=by
 have hl:(L++[y]).length=L.length+1:=by simp
 have hk:∀i,i<L.length→ky H.κ (L++[y]) i=ky H.κ L i:=fun i hi=>by unfold ky;rw[List.getElem?_append_left hi]
 rw[hl]
 refine⟨⟨fun i h1 h2 h3 h4=>?_,fun i h1 h2 h3 _=>by lia⟩,fun z i h1 h2 h3=>by lia⟩
 rw[hk i (by lia),hk _ (by lia)]
 exact h i h1 (by lia)
theorem TD(h:σ[n]?=some (H.lst L))(hN:L.length≤800)(hp:H.Hp L)(c:DI σ):∃L',G1 [.loc n,H.f x] σ=some (.val .none,σ.set n (H.lst L'))∧L'.Perm (L++[x])∧H.Hp L':=by
 have hn:=DY h
 have hl:(L++[x]).length=L.length+1:=by simp
 have hσ:(σ.set n (H.lst (L++[x])))[n]?=some (H.lst (L++[x])):=CN hn
 obtain⟨L',h1,h2,h3⟩:=OH (p:=L.length) (x:=x) hσ (by lia) (by simp) (Io hp x).1 ((Io hp x).2 _) (Cw c _)
 rw[List.set_set]at h1
 refine⟨L',DV (AK rfl (BO (t:=.next) (m:=[some (.loc n),some (H.f x)]) ?_ rfl)) List.length_set rfl (Cw c L'),h2,h3⟩
 have e1:MO .append (.loc n) [H.f x] σ=some (.none,σ.set n (H.lst (L++[x]))):=
  Av rfl (Av rfl (AC rfl (AC (BS h) (AC (AK (Ag (by rw[List.length_map];lia)) rfl) (by show some (PV.none,σ.set n (.lst (L.map H.f++[H.f x])))=_;unfold HQ.lst;rw[List.map_append];rfl)))))
 have e0:Pu .append (.loc n) σ=some ():=Av rfl (Av rfl (AC rfl (AC (BS h) rfl)))
 have e2:UD .len [.loc n] (σ.set n (H.lst (L++[x])))=some (.int (L.length+1:Nat)):=AC rfl ((Jq hσ (by rw[List.length_map];lia)).trans (by rw[List.length_map,hl]))
 have e3:Ie .Sub (.int (L.length+1:Nat)) (.int 1) (σ.set n (H.lst (L++[x])))=some (.int L.length):=by
  show some (PV.int (((L.length+1:Nat):Int)-1))=_
  rw[show(((L.length+1:Nat):Int)-1)=(L.length:Int) by lia]
 exact AA (Ea (DW rfl e0 (AD rfl AG) e1)) (AA (Ea (Ai (AD rfl (AD rfl (AD (Az (CT (AD rfl AG) e2) rfl e3) AG))) rfl h1)) rfl)
noncomputable def I9:X:=.cmp .Lt (.v 5) (.v 2)
noncomputable def suC:X:=.bo .And (.cons (.cmp .Lt (.v 6) (.v 2)) (.cons (.no (.cmp .Lt (.idx (.v 0) (.v 5)) (.idx (.v 0) (.v 6)))) .nil))
def V3:S:=.iff suC (.cons (.as 5 (.v 6)) .nil) .nil
noncomputable def B5:X:=.bin .Add (.bin .Mult (.int 2) (.v 1)) (.int 1)
def U7:SL:=.cons (.as 6 (.bin .Add (.v 5) (.int 1))) (.cons V3 (.cons (.asI (.v 0) (.v 1) (.idx (.v 0) (.v 5))) (.cons (.as 1 (.v 5)) (.cons (.as 5 B5) .nil))))
theorem aP:zX=.cons (.as 2 (.bi .len (.cons (.v 0) .nil))) (.cons (.as 3 (.v 1)) (.cons (.as 4 (.idx (.v 0) (.v 1))) (.cons (.as 5 B5) (.cons (.wh I9 U7) (.cons (.asI (.v 0) (.v 1) (.v 4)) (.cons (.ex (.call 6 (.cons (.v 0) (.cons (.v 3) (.cons (.v 1) .nil))))) .nil)))))):=rfl
noncomputable def LO(H:HQ α)(n N p c:Nat)(x:α)(o6:Option PV):Fm:=[some (.loc n),some (.int p),some (.int N),some (.int 0),some (H.f x),some (.int c),o6]
structure I6(H:HQ α)(N:Nat)(x:α)(L₀:List α)(p:Nat)(L:List α):Prop where
 lt:p<N
 len:L.length=N
 hole:Ff (ky H.κ L) N p
 perm:(L.set p x).Perm L₀
theorem Vr{Φ:Nat→Option Spec}{N:Nat}(hn:n<σ.length)(hN:N≤400){L₀:List α}{p:Nat}(I:I6 H N x L₀ p L):∃m' σ',ED (Gg Φ I9) (evSL Φ U7) WH (LO H n N p (2*p+1) x none) (σ.set n (H.lst L))=some (.next,m',σ') ∧
  ∃(p:Nat) (L:List α) (o6:Option PV),m'=LO H n N p (2*p+1) x o6∧σ'=σ.set n (H.lst L)∧N≤2*p+1∧I6 H N x L₀ p L:=by
 refine GL (I:=fun k m σ'=>∃(p:Nat) (L:List α) (o6:Option PV),m=LO H n N p (2*p+1) x o6∧σ'=σ.set n (H.lst L)∧I6 H N x L₀ p L∧k=N-p) (fun k m σ' ⟨p,L,o6,hm,hσ,I,hk⟩=>?_) WH (N-p) _ _ (by show N-p<100000;lia) ⟨p,L,none,rfl,rfl,I,rfl⟩
 subst hm hσ
 have hp:p<L.length:=by rw[I.len];exact I.lt
 have ht:Gg Φ I9 (LO H n N p (2*p+1) x o6) (σ.set n (H.lst L))=some (decide (((2*p+1:Nat):Int)<(N:Int)),σ.set n (H.lst L)):=rfl
 by_cases hc:2*p+1<N
 ·rw[show decide (((2*p+1:Nat):Int)<(N:Int))=true from decide_eq_true (by lia)]at ht
  have hσn:(σ.set n (H.lst L))[n]?=some (H.lst L):=CN hn
  have hl:(L.map H.f).length≤1000:=by rw[List.length_map,I.len];lia
  obtain⟨y,hy⟩:∃y,L[2*p+1]?=some y:=⟨_,List.getElem?_eq_getElem (by rw[I.len];exact hc)⟩
  have hat:∀{i:Nat} {a:α},L[i]?=some a→(L.map H.f)[i]?=some (H.f a):=fun h=>by rw[List.getElem?_map,h];rfl
  have e6:Ab Φ (.as 6 (.bin .Add (.v 5) (.int 1))) (LO H n N p (2*p+1) x o6) (σ.set n (H.lst L))=some (.next,LO H n N p (2*p+1) x (some (.int (2*p+2:Nat))),σ.set n (H.lst L)):=rfl
  obtain⟨c,z,hz,hc1,hc2,hmin,e7⟩:∃(c:Nat) (z:α),L[c]?=some z∧(c-1)/2=p∧0<c∧Vm (ky H.κ L) N p (ky H.κ L c) ∧
    Ab Φ V3 (LO H n N p (2*p+1) x (some (.int (2*p+2:Nat)))) (σ.set n (H.lst L))=some (.next,LO H n N p c x (some (.int (2*p+2:Nat))),σ.set n (H.lst L)):=by
   have h1:ev Φ (.cmp .Lt (.v 6) (.v 2)) (LO H n N p (2*p+1) x (some (.int (2*p+2:Nat)))) (σ.set n (H.lst L))=some (.bool (decide (((2*p+2:Nat):Int)<(N:Int))),σ.set n (H.lst L)):=rfl
   by_cases hr:2*p+2<N
   ·rw[show decide (((2*p+2:Nat):Int)<(N:Int))=true from decide_eq_true (by lia)]at h1
    obtain⟨w,hw⟩:∃w,L[2*p+2]?=some w:=⟨_,List.getElem?_eq_getElem (by rw[I.len];exact hr)⟩
    have h2:=VS (Φ:=Φ) (m:=LO H n N p (2*p+1) x (some (.int (2*p+2:Nat)))) (AI (op:=.Lt) (Ac (x:=.v 0) (y:=.v 5) rfl rfl (Bh hσn hl (hat hy))) (Ac (x:=.v 0) (y:=.v 6) rfl rfl (Bh hσn hl (hat hw))) (H.lt y w)) rfl
    by_cases hq:H.κ y<H.κ w
    ·refine⟨2*p+1,y,hy,by lia,by lia,fun i a1 a2 a3=>?_,AS (CO h1 rfl h2) (by rw[decide_eq_true hq];rfl) rfl⟩
     rcases(show i=2*p+1∨i=2*p+2 by lia) with e|e
     ·rw[e];exact Nat.le_refl _
     ·rw[e,FW hy,FW hw];lia
    ·refine⟨2*p+2,w,hw,by lia,by lia,fun i a1 a2 a3=>?_,Ao (CO h1 rfl h2) (by rw[decide_eq_false hq];rfl) (AA (Am rfl) rfl)⟩
     rcases(show i=2*p+1∨i=2*p+2 by lia) with e|e
     ·rw[e,FW hy,FW hw];lia
     ·rw[e];exact Nat.le_refl _
   ·rw[show decide (((2*p+2:Nat):Int)<(N:Int))=false from decide_eq_false (by lia)]at h1
    refine⟨2*p+1,y,hy,by lia,by lia,fun i a1 a2 a3=>?_,AS (FZ h1 rfl) rfl rfl⟩
    rw[show i=2*p+1 by lia];exact Nat.le_refl _
  have hcn:c<N:=by have:=(List.getElem?_eq_some_iff.mp hz).1;rw[I.len]at this;exact this
  have e8:Ab Φ (.asI (.v 0) (.v 1) (.idx (.v 0) (.v 5))) (LO H n N p c x (some (.int (2*p+2:Nat)))) (σ.set n (H.lst L))=some (.next,LO H n N p c x (some (.int (2*p+2:Nat))),σ.set n (H.lst (L.set p z))):=
   (Hz (Ac rfl rfl (Bh hσn hl (hat hz))) rfl rfl (Dk hσn hl (by rw[List.length_map];exact hp))).trans (by rw[List.set_set];unfold HQ.lst;rw[List.map_set])
  have e9:Ab Φ (.as 5 B5) (LO H n N c c x (some (.int (2*p+2:Nat)))) (σ.set n (H.lst (L.set p z)))=some (.next,LO H n N c (2*c+1) x (some (.int (2*p+2:Nat))),σ.set n (H.lst (L.set p z))):=
   Am (Az (Az rfl rfl (O0 (by lia))) rfl rfl)
  refine .go ht (AA e6 (AA e7 (AA e8 (AA (Am rfl) (AA e9 rfl))))) (.inl rfl) (show N-c<k by have:=I.lt;lia) ⟨c,L.set p z,some (.int (2*p+2:Nat)),rfl,rfl,⟨hcn,by rw[List.length_set];exact I.len,?_,?_⟩,rfl⟩
  ·exact Ph I.hole hc2 hc1 hcn hmin fun j=>by rw[Jk hp,FW hz]
  ·exact(JA hp (by rw[I.len];exact hcn) (by lia) hz).trans I.perm
 ·rw[show decide (((2*p+1:Nat):Int)<(N:Int))=false from decide_eq_false (by lia)]at ht
  exact .stop ht ⟨p,L,o6,rfl,rfl,by lia,I⟩
theorem FT{α:Type}{l:List α}{p:Nat}{x:α}(h:l[p]?=some x):l.set p x=l:=List.ext_getElem? fun i=>by
 by_cases q:i=p
 ·rw[q,h,List.getElem?_set_self (List.getElem?_eq_some_iff.mp h).1]
 ·rw[List.getElem?_set_ne (Ne.symm q)]
theorem cL(h:σ[n]?=some (H.lst L))(hN:L.length≤400)(hx:L[0]?=some x)(Ho:Ff (ky H.κ L) L.length 0)(c:DI σ):∃L',B6 [.loc n,.int 0] σ=some (.val .none,σ.set n (H.lst L'))∧L'.Perm L∧H.Hp L':=by
 have hn:=DY h
 have h0:0<L.length:=(List.getElem?_eq_some_iff.mp hx).1
 obtain⟨m',σ',h1,p,L1,o6,hm,hσ,hp,I⟩:=Vr (Φ:=tab lC) hn hN (L₀:=L) (p:=0) (x:=x) (L:=L) ⟨h0,rfl,Ho,by rw[FT hx]⟩
 rw[FT h]at h1
 subst hm hσ
 have hp1:p<L1.length:=by rw[I.len];exact I.lt
 have hg:∀i,i≠p→ky H.κ (L1.set p x) i=ky H.κ L1 i:=fun i hi=>by rw[Jk hp1,if_neg hi]
 have hl:(L1.set p x).length=L.length:=by rw[List.length_set];exact I.len
 obtain⟨L',h2,h3,h4⟩:=OH (σ:=σ.set n (H.lst (L1.set p x))) (n:=n) (L:=L1.set p x) (p:=p) (x:=x) (CN hn) (by lia) (List.getElem?_set_self hp1)
  ⟨fun i a1 a2 a3 a4=>by rw[hl]at a2;rw[hg i a3,hg _ a4];exact I.hole.far i a1 a2 a3 a4,fun i a1 a2 a3 _=>by rw[hl]at a2;lia⟩ (fun i a1 a2 a3=>by rw[hl]at a2;lia) (Cw c _)
 rw[List.set_set]at h2
 refine⟨L',DV (AK rfl (BO (t:=.next) (m:=LO H n L.length p (2*p+1) x o6) ?_ rfl)) List.length_set rfl (Cw c L'),h3.trans I.perm,h4⟩
 have a2:Ab (tab lC) (.as 2 (.bi .len (.cons (.v 0) .nil))) [some (.loc n),some (.int 0),none,none,none,none,none] σ=some (.next,[some (.loc n),some (.int 0),some (.int L.length),none,none,none,none],σ):=
  Am (CT (AD rfl AG) (AC rfl ((Jq h (by rw[List.length_map];lia)).trans (by rw[List.length_map]))))
 have a4:Ab (tab lC) (.as 4 (.idx (.v 0) (.v 1))) [some (.loc n),some (.int 0),some (.int L.length),some (.int 0),none,none,none] σ=some (.next,[some (.loc n),some (.int 0),some (.int L.length),some (.int 0),some (H.f x),none,none],σ):=
  Am (Ac rfl rfl (Bh (i:=0) h (by rw[List.length_map];lia) (by rw[List.getElem?_map,hx];rfl)))
 have a7:Ab (tab lC) (.asI (.v 0) (.v 1) (.v 4)) (LO H n L.length p (2*p+1) x o6) (σ.set n (H.lst L1))=some (.next,LO H n L.length p (2*p+1) x o6,σ.set n (H.lst (L1.set p x))):=
  (Hz rfl rfl rfl (Dk (CN hn) (by rw[List.length_map,I.len];lia) (by rw[List.length_map];exact hp1))).trans (by rw[List.set_set];unfold HQ.lst;rw[List.map_set])
 show evSL _ zX _ _=_
 rw[aP]
 exact AA a2 (AA (Am rfl) (AA a4 (AA rfl (AA h1 (AA a7 (AA (Ea (Ai (AD rfl (AD rfl (AD rfl AG))) rfl h2)) rfl))))))
end
section
variable{α:Type}{H:HQ α}{σ:St}{n:Nat}{x:α}{L:List α}
theorem Ug(h:σ[n]?=some (H.lst L))(hN:L.length≤400)(hp:H.Hp L)(hne:L≠[])(c:DI σ):∃x L',J9 [.loc n] σ=some (.val (H.f x),σ.set n (H.lst L'))∧(x::L').Perm L∧H.Hp L'∧∀y∈L,H.κ x≤H.κ y:=by
 have hn:=DY h
 obtain⟨l0,z,rfl⟩:∃l0 z,L=l0++[z]:=⟨L.dropLast,L.getLast hne,(List.dropLast_concat_getLast hne).symm⟩
 have hl:(l0++[z]).length=l0.length+1:=by simp
 have e0:Pu .pop (.loc n) σ=some ():=Av rfl (Av rfl (AC rfl (AC (BS h) rfl)))
 have e1:MO .pop (.loc n) [] σ=some (H.f z,σ.set n (H.lst l0)):=by
  refine Av rfl (Av rfl (AC rfl (AC (BS h) (AC (a:=(H.f z,l0.map H.f)) (AC rfl (AC (a:=H.f z) ?_ (AK (Ag (by rw[List.length_map];lia)) ?_))) rfl))))
  ·rw[List.map_append];exact List.getLast?_concat
  ·rw[List.map_append];exact congrArg (fun l=>some (H.f z,l)) List.dropLast_concat
 have hσ1:(σ.set n (H.lst l0))[n]?=some (H.lst l0):=CN hn
 have hk:∀i,i<l0.length→ky H.κ (l0++[z]) i=ky H.κ l0 i:=fun i hi=>by unfold ky;rw[List.getElem?_append_left hi]
 have b1:=Am (Φ:=tab zY) (i:=1) (m:=[some (.loc n),none,none]) (DW (x:=.v 0) rfl e0 AG e1)
 cases l0 with
 | nil=>
  refine⟨z,[],DV (AK rfl (BO (t:=.ret (H.f z)) (m:=[some (.loc n),some (H.f z),none]) (AA b1 (AA (AS rfl (Ja hσ1 (Nat.zero_le _)) rfl) (AN (Bz rfl) rfl))) rfl)) List.length_set (H.fz z _ _) (Cw c []),List.Perm.refl _,fun i _ h=>absurd h (Nat.not_lt_zero _),fun y hy=>?_⟩
  rw[List.mem_singleton.mp hy];exact Nat.le_refl _
 | cons a t=>
  have hl2:(z::t).length=(a::t).length:=rfl
  have hk2:∀i,i≠0→i<(z::t).length→ky H.κ (z::t) i=ky H.κ ((a::t)++[z]) i:=fun i h1 h2=>by
   rw[hk i h2]
   cases i with
   | zero=>exact absurd rfl h1
   | succ i=>rfl
  have hh:Ff (ky H.κ (z::t)) (z::t).length 0:=⟨fun i h1 h2 h3 h4=>by
   rw[hk2 i h3 h2,hk2 _ h4 (by lia)]
   exact hp i h1 (by rw[hl];exact Nat.lt_succ_of_lt h2),fun i _ _ _ h=>absurd h (Nat.lt_irrefl 0)⟩
  obtain⟨L',h1,h2,h3⟩:=cL (σ:=σ.set n (H.lst (z::t))) (n:=n) (x:=z) (L:=z::t) (CN hn) (by rw[hl]at hN;rw[hl2];lia) rfl hh (Cw c _)
  rw[List.set_set]at h1
  have hs:PE (.loc n) (.int 0) (H.f z) (σ.set n (H.lst (a::t)))=some (σ.set n (H.lst (z::t))):=(Dk (i:=0) hσ1 (by rw[List.length_map];lia) (by simp)).trans (by rw[List.set_set];rfl)
  have b2:evSL (tab zY) (.cons (.as 2 (.idx (.v 0) (.int 0))) (.cons (.asI (.v 0) (.int 0) (.v 1)) (.cons (.ex (.call 7 (.cons (.v 0) (.cons (.int 0) .nil)))) (.cons (.ret (.v 2)) .nil)))) [some (.loc n),some (H.f z),none] (σ.set n (H.lst (a::t))) =
    some (.ret (H.f a),[some (.loc n),some (H.f z),some (H.f a)],σ.set n (H.lst L')):=
   AA (Am (Ac rfl rfl (Bh (i:=0) hσ1 (by rw[List.length_map];lia) rfl))) (AA (Hz rfl rfl rfl hs) (AA (Ea (Ai (AD rfl (AD rfl AG)) rfl h1)) (AN (Bz rfl) rfl)))
  refine⟨a,L',DV (AK rfl (BO (t:=.ret (H.f a)) (m:=[some (.loc n),some (H.f z),some (H.f a)]) (AA b1 (AN (Ao rfl (Ja hσ1 (by rw[List.length_map];lia)) b2) rfl)) rfl)) List.length_set (H.fz a _ _) (Cw c L'),?_,h3,fun y hy=>?_⟩
  ·exact(h2.cons a).trans ((List.perm_append_singleton z t).symm.cons a)
  ·obtain⟨i,hi⟩:=List.mem_iff_getElem?.mp hy
   have:=gJ hp i (List.getElem?_eq_some_iff.mp hi).1
   rwa [FW hi,show ky H.κ (a::t++[z]) 0=H.κ a from rfl]at this
end
section
variable{α:Type}{g val:α→PV}{keep:α→Bool}{Φ:Nat→Option Spec}{is:List Nat}{b:ML}{n:Option Nat}{full:List α}
theorem Ir{I:List α→Fm→St→Prop}(hn:∀r m σ,I r m σ→∀j,n=some j→Bv σ j=some (full.map g))
  (step:∀a r m σ,I (a::r) m σ→∃m1 m2 σ',Cr is (g a) m=some m1∧b m1 σ=some (.next,m2,σ')∧I r m2 σ') :
  ∀(l:List α) (k:Nat) (m:Fm) (σ:St),full.drop k=l→k+l.length=full.length→I l m σ→∃m' σ',Eo n is b (l.map g) k m σ=some (.next,m',σ')∧I [] m' σ'
 | [],k,m,σ,hd,hk,i=>⟨m,σ,AK (by
   cases n with
   | none=>rfl
   | some j=>show(Bv σ j).elim false _=true;rw[hn _ _ _ i j rfl];show(((full.map g).length)==k)=true;rw[List.length_map,←hk];exact beq_self_eq_true _) rfl,i⟩
 | a::r,k,m,σ,hd,hk,i=>by
  obtain⟨m1,m2,σ',h1,h2,h3⟩:=step a r m σ i
  have hd':full.drop (k+1)=r:=by rw[←List.drop_drop,hd];rfl
  obtain⟨m',σ'',h4,h5⟩:=Ir hn step r (k+1) m2 σ' hd' (by rw[←hk];simp;lia) h3
  refine⟨m',σ'',AC (a:=g a) ?_ (AC h1 (BO h2 h4)),h5⟩
  cases n with
  | none=>rfl
  | some j=>
   refine AC (hn _ _ _ i j rfl) ?_
   rw[List.getElem?_map,show full[k]?=some a by rw[←List.head?_drop,hd];rfl];rfl
theorem Js{ar:Nat}{ts:Fm→St→Option (Bool×St)}{f:zG}{m:Fm}{σ:St}(hn:∀j,n=some j→Bv σ j=some (full.map g))
  (hb:∀a∈full,∃bs,Ni ar (g a)=some bs∧ts (m++bs) σ=some (keep a,σ)∧(keep a=true→f (m++bs) σ=some (val a,σ))) (hl:full.length≤1000) :
  ∀(l:List α) (k:Nat) (acc:List PV),full.drop k=l→k+l.length=full.length→acc.length≤k→EF n ar ts f m (l.map g) k σ acc=some (acc++(l.filter keep).map val,σ)
 | [],k,acc,hd,hk,ha=>AK (by
   cases n with
   | none=>rfl
   | some j=>show(Bv σ j).elim false _=true;rw[hn j rfl];show(((full.map g).length)==k)=true;rw[List.length_map,←hk];exact beq_self_eq_true _) (by rw[List.filter_nil,List.map_nil,List.append_nil])
 | a::r,k,acc,hd,hk,ha=>by
  have hd':full.drop (k+1)=r:=by rw[←List.drop_drop,hd];rfl
  have hk':k+1+r.length=full.length:=by rw[←hk];simp;lia
  obtain⟨bs,h1,h2,h3⟩:=hb a (List.mem_of_mem_drop (i:=k) (by rw[hd];exact .head _))
  refine AK (Ag (by lia)) (AC (a:=g a) ?_ (AC h1 (AE h2 ?_)))
  ·cases n with
   | none=>rfl
   | some j=>
    refine AC (hn j rfl) ?_
    rw[List.getElem?_map,show full[k]?=some a by rw[←List.head?_drop,hd];rfl];rfl
  ·rw[List.filter_cons]
   cases hk:keep a with
   | true=>
    refine Sw rfl (AE (h3 hk) ((Js hn hb hl r (k+1) (acc++[val a]) hd' hk' (by simp;omega)).trans ?_))
    rw[if_pos rfl,List.map_cons,List.append_assoc];rfl
   | false=>exact YN rfl ((Js hn hb hl r (k+1) acc hd' hk' (by lia)).trans (by rw[if_neg Bool.false_ne_true]))
theorem Ak{ar:Nat}{elt it:X}{ifs:XL}{m:Fm}{σ:St}{p:PV}(h1:ev Φ it m σ=some (p,σ))(h2:EM σ p=some (full.map g,n))(hn:∀j,n=some j→Bv σ j=some (full.map g))(hl:full.length≤1000)
  (hb:∀a∈full,∃bs,Ni ar (g a)=some bs∧evT Φ ifs (m++bs) σ=some (keep a,σ)∧(keep a=true→ev Φ elt (m++bs) σ=some (val a,σ))):ev Φ (.comp ar elt it ifs) m σ=some (.lst ((full.filter keep).map val),σ):=
 AE h1 (AC h2 (AE (Js hn hb hl full 0 [] rfl (Nat.zero_add _) (Nat.le_refl _)) rfl))
theorem Aaf{m:Fm}{σ:St}:evT Φ .nil m σ=some (true,σ):=rfl
theorem Ha{m:Fm}{σ:St}{x:X}{b:Bool}(h:ev Φ x m σ=some (.bool b,σ)):evT Φ (.cons x .nil) m σ=some (b,σ):=AE h (AC rfl (by cases b<;>rfl))
theorem BJ{σ:St}{l:List PV}:EM σ (.lst l)=some (l,none):=rfl
theorem C7{σ:St}{j:Nat}{l:List PV}(h:σ[j]?=some (.lst l)):EM σ (.loc j)=some (l,some j):=AC (BS h) rfl
end
theorem A0{σ:St}{a b:List PV}(h:a.length+b.length≤1000):Ie .Add (.lst a) (.lst b) σ=some (.lst (a++b)):=
 (show Ie .Add (.lst a) (.lst b) σ=gd (decide (a.length+b.length≤BM)) (some (.lst (a++b))) from rfl).trans (AK (Ag h) rfl)
theorem Br{σ:St}{n:Nat}{l:List PV}{p:PV}(h:σ[n]?=some (.lst l))(hl:l.length≤1000):MO .append (.loc n) [p] σ=some (.none,σ.set n (.lst (l++[p]))):=
 Av rfl (Av rfl (AC rfl (AC (BS h) (AC (AK (Ag hl) rfl) rfl))))
theorem DG{σ:St}{n:Nat}{l:List PV}(h:σ[n]?=some (.lst l)):Pu .append (.loc n) σ=some ():=Av rfl (Av rfl (AC rfl (AC (BS h) rfl)))
def QK(p:PV)(K:Nat):Prop:=∀n σ k,K≤k→OF n σ k p=some p
def Tz(l:List PV)(K:Nat):Prop:=∀n σ k,K≤k→fzL n σ k l=some l
theorem DM{K:Nat}{Q:Nat→Prop}(h:∀k,K≤k→Q (k+1)):∀k,K+1≤k→Q k
 | k+1,hk=>h k (Nat.le_of_succ_le_succ hk)
theorem GD(i:Int):QK (.int i) 1:=fun n σ=>DM fun k _=>rfl
theorem DH(x:Str):QK (.str x) 1:=fun n σ=>DM fun k _=>rfl
theorem Ww:QK .none 1:=fun n σ=>DM fun k _=>rfl
theorem Cv:Tz [] 1:=fun n σ=>DM fun k _=>rfl
theorem Cs{p:PV}{l:List PV}{K:Nat}(h:QK p K)(t:Tz l K):Tz (p::l) (K+1):=fun n σ=>DM fun k hk=>AC (h n σ k hk) (AC (t n σ k hk) rfl)
theorem NT{l:List PV}{K:Nat}(h:Tz l K):QK (.tup l) (K+1):=fun n σ=>DM fun k hk=>by show(fzL n σ k l).map PV.tup=_;rw[h n σ k hk];rfl
theorem Qj{l:List PV}{K:Nat}(h:Tz l K):QK (.lst l) (K+1):=fun n σ=>DM fun k hk=>by show(fzL n σ k l).map PV.lst=_;rw[h n σ k hk];rfl
theorem QK.more{p:PV}{K K':Nat}(h:QK p K)(hk:K≤K'):QK p K':=fun n σ k q=>h n σ k (Nat.le_trans hk q)
theorem Tz.more{l:List PV}{K K':Nat}(h:Tz l K)(hk:K≤K'):Tz l K':=fun n σ k q=>h n σ k (Nat.le_trans hk q)
theorem Cf{α:Type}{f:α→PV}{K:Nat}:∀{l:List α},(∀a∈l,QK (f a) K)→Tz (l.map f) (K+l.length+1)
 | [],_=>Cv.more (by lia)
 | a::l,h=>Cs ((h a (.head _)).more (by rw[List.length_cons];lia)) (Cf fun b hb=>h b (.tail _ hb))
theorem Fl{n j k K:Nat}{σ:St}{l:List PV}(hj:n≤j)(h:σ[j]?=some (.lst l))(hl:Tz l K)(hk:K+1≤k):OF n σ k (.loc j)=some (.lst l):=by
 match k,hk with
 | k+1,hk=>exact YN (decide_eq_false (Nat.not_lt.mpr hj)) (AC (BS h) (by rw[hl n σ k (by lia)];rfl))
theorem Fr{n K:Nat}{σ:St}{p q:PV}{l l':List PV}(h:∀k,K≤k→OF n σ k p=some q)(t:∀k,K≤k→fzL n σ k l=some l'):∀k,K+1≤k→fzL n σ k (p::l)=some (q::l'):=DM fun k hk=>AC (h k hk) (AC (t k hk) rfl)
theorem So{n K:Nat}{σ:St}{l l':List PV}(t:∀k,K≤k→fzL n σ k l=some l'):∀k,K+1≤k→OF n σ k (.tup l)=some (.tup l'):=DM fun k hk=>by show(fzL n σ k l).map PV.tup=_;rw[t k hk];rfl
theorem Z5{n K K':Nat}{σ:St}{l l':List PV}(h:K≤K')(t:∀k,K≤k→fzL n σ k l=some l'):∀k,K'≤k→fzL n σ k l=some l':=fun k hk=>t k (Nat.le_trans h hk)
theorem Gi{Φ:Nat→Option Spec}{i f:Nat}{xs:XL}{m:Fm}{σ σ₁ σ₂:St}{ps:List PV}{sp:Spec}{o:Oi}(h1:evL Φ xs m σ=some (ps,σ₁))(h2:Φ f=some sp)(h3:sp ps σ₁=some (o,σ₂)):Ab Φ (.callA i f xs) m σ=some (lW i o m σ₂):=AE h1 (AC h2 (AE h3 rfl))
theorem Yy{Φ:Nat→Option Spec}{x:X}{m:Fm}{σ σ₁:St}{p:PV}(h:ev Φ x m σ=some (p,σ₁))(h2:AT σ₁ p=some true):Ab Φ (.asr x) m σ=some (.next,m,σ₁):=AE h (AC h2 rfl)
theorem IN{α:Type}(l:List α)(k:Nat):Iz l none (some (k:Int))=l.take k:=by
 show(l.drop 0).take (clipAt l.length k-0)=_
 rw[clipAt_nat,List.drop_zero,Nat.sub_zero]
 by_cases h:k≤l.length
 ·rw[Nat.min_eq_left h]
 ·rw[Nat.min_eq_right (by lia),List.take_length,List.take_of_length_le (by lia)]
theorem RE{α:Type}(l:List α)(k:Nat):Iz l (some (k:Int)) none=l.drop k:=by
 show(l.drop (clipAt l.length k)).take (l.length-clipAt l.length k)=_
 rw[clipAt_nat]
 by_cases h:k≤l.length
 ·rw[Nat.min_eq_left h,List.take_of_length_le (by rw[List.length_drop];exact Nat.le_refl _)]
 ·rw[Nat.min_eq_right (by lia),Nat.sub_self,List.take_zero,List.drop_of_length_le (by lia)]
noncomputable def sB(l:List UInt8):PO:=.sdict l.toArray
theorem Zh{σ:St}{l:List UInt8}{lo hi:Option PV}{a b:Option Int}(h1:HS lo=some a)(h2:HS hi=some b)(hl:l.length≤1000):Kn σ (.byt l.toArray) lo hi=some (.byt (Iz l a b).toArray):=
 AC h1 (AC h2 (Av rfl (DP (AC rfl (AK (Ag hl) rfl)))))
theorem EZ{k:Nat}(h:k≤1000):HS (some (.int (k:Int)))=some (some (k:Int)):=AC rfl (AK (decide_eq_true (by show k<2^60;lia)) rfl)
section
variable{σ:St}{l:List UInt8}
theorem strm_in(h:σ[0]?=some (sB l)):Kw σ (.strm 0)=some (0,l.toArray):=AC rfl (AC h rfl)
theorem OZ(c:DI σ)(l:List UInt8):DI (σ.set 0 (sB l)):=Gu c fun _=>rfl
theorem Qu(h:σ[0]?=some (sB l))(hl:l.length≤1000){k:Nat}(hk:k≤1000)(c:DI σ):RA [.strm 0,.int k] σ=some (.val (.byt (l.take k).toArray),σ.set 0 (sB (l.drop k))):=by
 have e1:Ab (tab Um) (.as 2 (.slc (.val (.v 0)) .no (.yes (.v 1)))) [some (.strm 0),some (.int k),none] σ=some (.next,[some (.strm 0),some (.int k),some (.byt (l.take k).toArray)],σ):=
  Am (AE (AE rfl (AC (strm_in h) rfl)) (AE rfl (AE rfl (BD ((Zh rfl (EZ hk) hl).trans (by rw[IN]))))))
 have e2:Ab (tab Um) (.asV (.v 0) (.slc (.val (.v 0)) (.yes (.v 1)) .no)) [some (.strm 0),some (.int k),some (.byt (l.take k).toArray)] σ=some (.next,[some (.strm 0),some (.int k),some (.byt (l.take k).toArray)],σ.set 0 (sB (l.drop k))):=
  AE (AE (AE rfl (AC (strm_in h) rfl)) (AE rfl (AE rfl (BD ((Zh (EZ hk) rfl hl).trans (by rw[RE])))))) (AE rfl (AC (AC (strm_in h) (AC (a:=(l.drop k).toArray) rfl (AK (Ag (show(l.drop k).length≤1000 by rw[List.length_drop];omega)) rfl))) rfl))
 exact DV (AK rfl (BO (t:=.ret (.byt (l.take k).toArray)) (m:=[some (.strm 0),some (.int k),some (.byt (l.take k).toArray)]) (AA e1 (AA e2 (AN (Bz rfl) rfl))) rfl)) List.length_set rfl (OZ c _)
theorem pY(h:σ[0]?=some (sB l))(l':List UInt8):(σ.set 0 (sB l'))[0]?=some (sB l'):=CN (DY h)
theorem Jt{Φ:Nat→Option Spec}{m:Fm}{a n:X}(hΦ:Φ 10=some RA)(h:σ[0]?=some (sB l))(hl:l.length≤1000){k:Nat}(hk:k≤1000)(c:DI σ)(h1:ev Φ a m σ=some (.strm 0,σ))(h2:ev Φ n m σ=some (.int k,σ)) :
  ev Φ (.read 10 a n) m σ=some (.byt (l.take k).toArray,σ.set 0 (sB (l.drop k))):=AE h1 (AC (strm_in h) (AE h2 (AC hΦ (AE (Qu h hl hk c) rfl))))
theorem HN{b:UInt8}(h:σ[0]?=some (sB (b::l)))(hl:l.length≤900)(c:DI σ):oC [.strm 0] σ=some (.val (.int b.toNat),σ.set 0 (sB l)):=by
 have e1:Ab (tab rO) (.as 1 (.read 10 (.v 0) (.int 1))) [some (.strm 0),none] σ=some (.next,[some (.strm 0),some (.byt #[b])],σ.set 0 (sB l)):=Am (Jt (k:=1) rfl h (show l.length+1≤1000 by lia) (by decide) c rfl rfl)
 exact DV (AK rfl (BO (t:=.ret (.int b.toNat)) (m:=[some (.strm 0),some (.byt #[b])]) (AA e1 (AN (Ao rfl rfl (AN (Bz rfl) rfl)) rfl)) rfl)) List.length_set rfl (OZ c _)
theorem Qe(σ:St)(a b:Int):Co .Eq (.int a) (.int b) σ=some (a==b):=rfl
theorem V1(σ:St)(a b:Str):Co .Eq (.str a) (.str b) σ=some (a.cps.toList==b.cps.toList):=rfl
variable{x:List Nat}
noncomputable def pS(x:List Nat):PV:=.str ⟨x.toArray⟩
noncomputable def oB(x:List Nat):List UInt8:=x.map Nat.toUInt8
def cB(x:List Nat):List UInt8:=x.length.toUInt8::oB x
theorem Jv(x:List Nat):(oB x).length=x.length:=List.length_map _
theorem GF(x:List Nat):(cB x).length=x.length+1:=congrArg (·+1) (Jv x)
theorem Mm{n:Nat}(h:n<256):n.toUInt8.toNat=n:=Nat.mod_eq_of_lt h
theorem Vn(h:∀c∈x,c<256):(oB x).map UInt8.toNat=x:=by
 unfold oB
 rw[List.map_map]
 exact(List.map_congr_left fun c hc=>Mm (h c hc)).trans (List.map_id _)
theorem Kb:qS "latin-1" = BP:=rfl
theorem pN(σ:St)(h:∀c∈x,c<256)(hl:x.length≤1000):MO .decode (.byt (oB x).toArray) [.str "latin-1"] σ=some (pS x,σ):=by
 refine Av rfl (DP (AC (a:=(oB x).toArray) rfl (BD (AC (a:=.str "latin-1") rfl (AC (a:=qS "latin-1") rfl (AK (Bool.and_eq_true_iff.mpr ⟨decide_eq_true Kb,Ag (show(oB x).length≤1000 by rw[Jv];exact hl)⟩) ?_))))))
 have:(oB x).toArray.map UInt8.toNat=x.toArray:=by rw[List.map_toArray,Vn h]
 rw[this];rfl
theorem Nl(h:σ[0]?=some (sB (cB x++l)))(hx:∀c∈x,c<256)(hn:x.length≤100)(hl:l.length≤700)(c:DI σ):oL [.strm 0] σ=some (.val (pS x),σ.set 0 (sB l)):=by
 have hw:=Jv x
 have k1:Ab (tab lB) (.callA 1 8 (.cons (.v 0) .nil)) [some (.strm 0),none,none] σ=some (.next,[some (.strm 0),some (.int x.length),none],σ.set 0 (sB (oB x++l))):=
  (Gi (AD rfl AG) rfl (HN (l:=oB x++l) h (by rw[List.length_append];lia) c)).trans (by rw[Mm (by lia)];rfl)
 have hs:=pY h (oB x++l)
 have hc:=OZ c (oB x++l)
 have k2:Ab (tab lB) (.asr (.cmp .GtE (.v 1) (.int 0))) [some (.strm 0),some (.int x.length),none] (σ.set 0 (sB (oB x++l)))=some (.next,[some (.strm 0),some (.int x.length),none],σ.set 0 (sB (oB x++l))):=
  Yy (AI (t:=decide ((0:Int)≤(x.length:Int))) rfl rfl rfl) (congrArg some (decide_eq_true (Int.natCast_nonneg _)))
 have k3:Ab (tab lB) (.as 2 (.read 10 (.v 0) (.v 1))) [some (.strm 0),some (.int x.length),none] (σ.set 0 (sB (oB x++l)))=some (.next,[some (.strm 0),some (.int x.length),some (.byt (oB x).toArray)],σ.set 0 (sB l)):=by
  refine(Am (Jt (k:=x.length) rfl hs (by rw[List.length_append];lia) (by lia) hc rfl rfl)).trans ?_
  rw[List.set_set,←hw,List.take_left,List.drop_left];rfl
 have k4:ev (tab lB) (.cmp .Eq (.bi .len (.cons (.v 2) .nil)) (.v 1)) [some (.strm 0),some (.int x.length),some (.byt (oB x).toArray)] (σ.set 0 (sB l))=some (.bool true,σ.set 0 (sB l)):=by
  refine AI (q:=.int x.length) (CT (AD rfl AG) (AC rfl (Av rfl (DP (AC rfl (AK (Ag (show(oB x).length≤1000 by lia)) rfl)))))) rfl ((Qe _ _ _).trans ?_)
  show some (((oB x).length:Int)==(x.length:Int))=some true
  rw[hw];exact congrArg some (beq_self_eq_true _)
 exact DV (AK rfl (BO (t:=.ret (pS x)) (m:=[some (.strm 0),some (.int x.length),some (.byt (oB x).toArray)]) (AA k1 (AA k2 (AA k3 (AN (Ao k4 rfl (AN (Bz (DW rfl rfl (AD rfl AG) (pN _ hx (by lia)))) rfl)) rfl)))) rfl)) List.length_set rfl (OZ c _)
def Di:Str:=qS "not enough data in stream to read uint1"
theorem QW(h:σ[0]?=some (sB []))(c:DI σ):oC [.strm 0] σ=some (.exc Di,σ):=by
 have e1:Ab (tab rO) (.as 1 (.read 10 (.v 0) (.int 1))) [some (.strm 0),none] σ=some (.next,[some (.strm 0),some (.byt #[])],σ.set 0 (sB [])):=Am (Jt (k:=1) rfl h (by decide) (by decide) c rfl rfl)
 rw[FT h]at e1
 have hd:Ae (tab rO) 1 2 P0 [.strm 0] σ=some (.exc Di,σ):=AK rfl (BO (t:=.exm Di) (m:=[some (.strm 0),some (.byt #[])]) (AA e1 (AA rfl (AN rfl rfl))) rfl)
 refine AE hd (AC rfl ?_)
 rw[List.take_length]
 exact AK (c _) rfl
theorem Np(σ:St)(h:∀c∈x,c<256)(hl:x.length≤100)(c:DI σ):TB [pS x] σ=some (.val (.byt (cB x).toArray),σ):=by
 have e1:LI σ (pS x)=some (.int x.length):=DP (AC rfl (AK (Ag (show x.length≤1000 by lia)) rfl))
 have e2:UD .bytes [.lst [.int x.length]] σ=some (.byt #[x.length.toUInt8]):=
  AC rfl (AC (a:=[.int x.length]) rfl (AC (a:=[(x.length:Int)]) rfl (AK (Bool.and_eq_true_iff.mpr ⟨by
   show(decide ((0:Int)≤x.length)&&decide ((x.length:Int)<256)&&true)=true
   rw[decide_eq_true (Int.natCast_nonneg _),decide_eq_true (by lia)];rfl,rfl⟩) rfl)))
 have e3:MO .encode (pS x) [.str "latin-1"] σ=some (.byt (oB x).toArray,σ):=by
  refine DP (AC (a:=⟨x.toArray⟩) rfl (BD (AC (a:=.str "latin-1") rfl (AC (a:=qS "latin-1") rfl (AK (Bool.and_eq_true_iff.mpr ⟨decide_eq_true Kb,Bool.and_eq_true_iff.mpr ⟨List.all_eq_true.mpr fun c hc=>decide_eq_true (h c hc),Ag (show x.length≤1000 by lia)⟩⟩) ?_)))))
  show some (PV.byt (x.toArray.map Nat.toUInt8))=_
  rw[List.map_toArray];rfl
 have e4:Ie .Add (.byt #[x.length.toUInt8]) (.byt (oB x).toArray) σ=some (.byt (cB x).toArray):=by
  refine Av rfl (Av rfl (DP (AC rfl (AC rfl (AK (Ag ?_) ?_)))))
  ·show 1+(oB x).length≤1000
   rw[Jv];lia
  ·show some (PV.byt ([x.length.toUInt8].toArray++(oB x).toArray))=_
   rw[List.append_toArray];rfl
 exact DV (AK rfl (BO (t:=.ret (.byt (cB x).toArray)) (m:=[some (pS x)]) (AN (Bz (Az (CT (AD (AE (AD (CT (AD rfl AG) (AC rfl e1)) AG) rfl) AG) e2) (DW rfl rfl (AD rfl AG) e3) e4)) rfl) rfl)) rfl rfl c
end
end Sh
namespace Sh
noncomputable def cn(l:List Nat)(p:Nat→Bool):Nat:=(l.filter p).length
section
variable{l:List Nat}{p q:Nat→Bool}
theorem Cc(a:Nat)(l:List Nat)(p:Nat→Bool):cn (a::l) p=(p a).toNat+cn l p:=by
 unfold cn
 rw[List.filter_cons]
 cases p a
 ·show(l.filter p).length=0+_;lia
 ·show(l.filter p).length+1=1+_;lia
theorem Bi:∀{l:List Nat},(∀x∈l,p x=true→q x=true)→cn l p≤cn l q
 | [],_=>Nat.le_refl _
 | a::l,h=>by
  have ih:=Bi (l:=l) fun x hx=>h x (.tail _ hx)
  have ha:=h a (.head _)
  rw[Cc,Cc]
  cases hp:p a
  ·show 0+_≤_;lia
  ·rw[ha hp];lia
theorem Cl(h:∀x∈l,p x=q x):cn l p=cn l q:=Nat.le_antisymm (Bi fun x hx e=>by rw[←h x hx];exact e) (Bi fun x hx e=>by rw[h x hx];exact e)
theorem Da:∀l:List Nat,cn l (fun x=>p x||q x)+cn l (fun x=>p x&&q x)=cn l p+cn l q
 | []=>rfl
 | a::l=>by
  have ih:=Da l
  simp only[Cc]
  cases p a<;>cases q a<;>simp<;>lia
theorem FK:∀l:List Nat,cn l p=cn l (fun x=>p x&&q x)+cn l (fun x=>p x&&!q x)
 | []=>rfl
 | a::l=>by
  have ih:=FK l
  simp only[Cc]
  cases p a<;>cases q a<;>simp<;>lia
theorem Nf:∀{l:List Nat},(∀x∈l,p x=true→q x=true)→cn l q≤cn l p→∀x∈l,q x=true→p x=true
 | a::l,h,hc,x,hx,hq=>by
  have h':∀x∈l,p x=true→q x=true:=fun x hx=>h x (.tail _ hx)
  have m:=Bi h'
  rw[Cc,Cc]at hc
  have ha:=h a (.head _)
  rcases List.mem_cons.mp hx with e|hx
  ·rw[e]at hq ⊢
   rw[hq]at hc
   cases hp:p a
   ·rw[hp]at hc;simp at hc;lia
   ·rfl
  ·refine Nf h' ?_ x hx hq
   cases hp:p a
   ·rw[hp]at hc;simp at hc;lia
   ·rw[hp,ha hp]at hc;lia
theorem Hj:∀{l:List Nat} {x:Nat},x∈l→l.Nodup→p x=false→cn l (fun y=>p y||y==x)=cn l p+1
 | a::l,x,hx,hn,hp=>by
  rw[List.nodup_cons]at hn
  rw[Cc,Cc]
  rcases List.mem_cons.mp hx with e|hx
  ·rw[←e,hp,beq_self_eq_true]
   have:cn l (fun y=>p y||y==x)=cn l p:=Cl fun y hy=>by
    rw[show(y==x)=false from beq_false_of_ne fun q=>hn.1 (by rw[←e,←q];exact hy),Bool.or_false]
   rw[this];simp;lia
  ·have hax:(a==x)=false:=beq_false_of_ne fun q=>hn.1 (by rw[q];exact hx)
   rw[Hj hx hn.2 hp,hax,Bool.or_false];lia
theorem De(h:∀x∈l,p x=false):cn l p=0:=by
 unfold cn
 rw[List.filter_eq_nil_iff.mpr fun x hx e=>by rw[h x hx]at e;cases e];rfl
end
abbrev Nm:=List.range 5
abbrev Pt:=List.range 4
section
variable(t:Nat→Nat→Bool)
noncomputable def rc(S:Nat→Bool)(j:Nat):Bool:=Nm.any fun k=>S k&&t k j
def DZ(S:Nat→Bool):Prop:=∀S':Nat→Bool,(∀k∈Nm,S' k=true→S k=true)→cn Nm S'≤cn Pt (rc t S')
variable{t}
theorem Dh{S S':Nat→Bool}(h:∀k∈Nm,S k=true→S' k=true)(j:Nat)(e:rc t S j=true):rc t S' j=true:=by
 obtain⟨k,hk,e⟩:=List.any_eq_true.mp e
 exact List.any_eq_true.mpr ⟨k,hk,by rw[Bool.and_eq_true]at e ⊢;exact⟨h k hk e.1,e.2⟩⟩
theorem Lf{S:Nat→Bool}{k j:Nat}(hk:k∈Nm)(h:S k=true)(e:t k j=true):rc t S j=true:=List.any_eq_true.mpr ⟨k,hk,by rw[h,e];rfl⟩
theorem DZ.less{S S':Nat→Bool}(H:DZ t S)(h:∀k∈Nm,S' k=true→S k=true):DZ t S':=fun U hU=>H U fun k hk e=>h k hk (hU k hk e)
theorem kX:Nm.Nodup:=List.nodup_range
theorem V6:Pt.Nodup:=List.nodup_range
structure LL(t:Nat→Nat→Bool)(B U:Nat→Bool):Prop where
 sub:∀k∈Nm,U k=true→B k=true
 eq:cn Pt (rc t U)≤cn Nm U
theorem SJ{B U V:Nat→Bool}(H:DZ t B)(h1:LL t B U)(h2:LL t B V):LL t B (fun k=>U k||V k):=by
 refine⟨fun k hk e=>(Bool.or_eq_true_iff.mp e).elim (h1.sub k hk) (h2.sub k hk),?_⟩
 have a1:=Da (p:=U) (q:=V) Nm
 have a2:=Da (p:=rc t U) (q:=rc t V) Pt
 have a3:=H (fun k=>U k&&V k) fun k hk e=>h1.sub k hk (Bool.and_eq_true_iff.mp e).1
 have a4:cn Pt (rc t fun k=>U k&&V k)≤cn Pt (fun j=>rc t U j&&rc t V j):=Bi fun j _ e=>Bool.and_eq_true_iff.mpr ⟨Dh (fun k _ e=>(Bool.and_eq_true_iff.mp e).1) j e,Dh (fun k _ e=>(Bool.and_eq_true_iff.mp e).2) j e⟩
 have a5:cn Pt (rc t fun k=>U k||V k)≤cn Pt (fun j=>rc t U j||rc t V j):=Bi fun j _ e=>by
  obtain⟨k,hk,e⟩:=List.any_eq_true.mp e
  rw[Bool.and_eq_true]at e
  exact Bool.or_eq_true_iff.mpr ((Bool.or_eq_true_iff.mp e.1).imp (fun q=>Lf hk q e.2) fun q=>Lf hk q e.2)
 have:=h1.eq
 have:=h2.eq
 lia
theorem TC{B:Nat→Bool}{x:Nat}(H:DZ t B)(hx:x∈Nm)(hn:¬DZ t (fun k=>B k||k==x)):∃U,LL t B U∧∀j∈Pt,t x j=true→rc t U j=true:=by
 apply Classical.byContradiction
 intro hU
 refine hn fun S' hS=>Nat.not_lt.mp fun hlt=>hU ?_
 by_cases hx':S' x=true
 ·have hU2:∀k∈Nm,(S' k&&!(k==x))=true→B k=true:=fun k hk e=>by
   rw[Bool.and_eq_true]at e
   refine(Bool.or_eq_true_iff.mp (hS k hk e.1)).elim id fun q=>?_
   rw[q]at e;exact absurd e.2 (by decide)
  have c1:cn Nm S'=cn Nm (fun k=>S' k&&!(k==x))+1:=by
   rw[←Hj hx kX (p:=fun k=>S' k&&!(k==x)) (by rw[beq_self_eq_true];simp)]
   refine Cl fun k hk=>?_
   by_cases q:k=x
   ·rw[q,hx',beq_self_eq_true];simp
   ·rw[show(k==x)=false from beq_false_of_ne q];simp
  have hsub:∀k∈Nm,(S' k&&!(k==x))=true→S' k=true:=fun k _ e=>(Bool.and_eq_true_iff.mp e).1
  have c2:cn Pt (rc t fun k=>S' k&&!(k==x))≤cn Pt (rc t S'):=Bi fun j _ e=>Dh hsub j e
  have c3:=H _ hU2
  refine⟨_,⟨hU2,by lia⟩,fun j hj e=>Nf (p:=rc t fun k=>S' k&&!(k==x)) (q:=rc t S') (fun j _ e=>Dh hsub j e) (by lia) j hj (Lf hx hx' e)⟩
 ·have:=H S' fun k hk e=>(Bool.or_eq_true_iff.mp (hS k hk e)).elim id fun q=>by rw[beq_iff_eq]at q;rw[q]at e;exact absurd e hx'
  lia
theorem JB{B:Nat→Bool}(H:DZ t B):∀xs:List Nat,(∀x∈xs,x∈Nm∧¬DZ t (fun k=>B k||k==x))→∃U,LL t B U∧∀x∈xs,∀j∈Pt,t x j=true→rc t U j=true
 | [],_=>⟨fun _=>false,⟨fun _ _ e=>(nomatch e),Nat.le_trans (Nat.le_of_eq (De fun j _=>List.any_eq_false.mpr fun k _=>by simp)) (Nat.zero_le _)⟩,fun x hx=>(nomatch hx)⟩
 | x::xs,h=>by
  obtain⟨U,T,hU⟩:=JB H xs fun y hy=>h y (.tail _ hy)
  obtain⟨V,T',hV⟩:=TC H (h x (.head _)).1 (h x (.head _)).2
  refine⟨_,SJ H T T',fun y hy j hj e=>?_⟩
  rcases List.mem_cons.mp hy with q|hy
  ·rw[q]at e;exact Dh (fun k _ e=>Bool.or_eq_true_iff.mpr (.inr e)) j (hV j hj e)
  ·exact Dh (fun k _ e=>Bool.or_eq_true_iff.mpr (.inl e)) j (hU y hy j hj e)
theorem RM{A B:Nat→Bool}(HA:DZ t A)(HB:DZ t B)(hc:cn Nm B<cn Nm A):∃x∈Nm,A x=true∧B x=false∧DZ t (fun k=>B k||k==x):=by
 apply Classical.byContradiction
 intro hno
 obtain⟨U,T,hU⟩:=JB HB (Nm.filter fun x=>A x&&!B x) fun x hx=>by
  rw[List.mem_filter,Bool.and_eq_true,Bool.not_eq_true']at hx
  exact⟨hx.1,fun q=>hno ⟨x,hx.1,hx.2.1,hx.2.2,q⟩⟩
 have hT:=HA (fun k=>(A k&&!B k)||(A k&&U k)) fun k _ e=>(Bool.or_eq_true_iff.mp e).elim (fun q=>(Bool.and_eq_true_iff.mp q).1) fun q=>(Bool.and_eq_true_iff.mp q).1
 have c1:cn Pt (rc t fun k=>(A k&&!B k)||(A k&&U k))≤cn Pt (rc t U):=Bi fun j hj e=>by
  obtain⟨k,hk,e⟩:=List.any_eq_true.mp e
  rw[Bool.and_eq_true]at e
  exact(Bool.or_eq_true_iff.mp e.1).elim (fun q=>hU k (List.mem_filter.mpr ⟨hk,q⟩) j hj e.2) fun q=>Lf hk (Bool.and_eq_true_iff.mp q).2 e.2
 have c2:=Da (p:=fun k=>A k&&!B k) (q:=fun k=>A k&&U k) Nm
 have c3:cn Nm (fun k=>(A k&&!B k)&&(A k&&U k))=0:=De fun k hk=>by
  cases hu:U k
  ·simp
  ·rw[T.sub k hk hu];simp
 have c4:=FK (p:=U) (q:=A) Nm
 have c5:cn Nm (fun k=>U k&&!A k)≤cn Nm (fun k=>B k&&!A k):=Bi fun k hk e=>by
  rw[Bool.and_eq_true]at e ⊢
  exact⟨T.sub k hk e.1,e.2⟩
 have c6:cn Nm (fun k=>U k&&A k)=cn Nm (fun k=>A k&&U k):=Cl fun k _=>Bool.and_comm _ _
 have c7:=FK (p:=A) (q:=B) Nm
 have c8:=FK (p:=B) (q:=A) Nm
 have c9:cn Nm (fun k=>B k&&A k)=cn Nm (fun k=>A k&&B k):=Cl fun k _=>Bool.and_comm _ _
 have:=T.eq
 lia
end
end Sh
namespace Sh
noncomputable def bt(g k:Nat):Bool:=g/2^k%2==1
def Bq(g:Nat):List Nat:=Nm.filter (bt g)
theorem NQ:∀g∈List.range 32,∀k∈Nm,bt g k=true→g-2^k<g∧∀k'∈Nm,bt (g-2^k) k'=(bt g k'&&!(k'==k)):=by decide +kernel
theorem He:∀g∈List.range 32,∀k∈Nm,bt g k=false→g+2^k<32∧∀k'∈Nm,bt (g+2^k) k'=(bt g k'||k'==k):=by decide +kernel
section
variable(t:Nat→Nat→Bool)
def Sy(g:Nat):List Nat:=Pt.filter (rc t (bt g))
def IP(L:List Bool)(g:Nat):Bool:=decide ((Bq g).length≤(Sy t g).length)&&(Bq g).all fun k=>L.getD (g-2^k) false
def gL:Nat→List Bool
 | 0=>[]
 | g+1=>gL g++[IP t (gL g) g]
def Hn(g:Nat):Bool:=IP t (gL t g) g
variable{t}
theorem CG:∀n,(gL t n).length=n
 | 0=>rfl
 | n+1=>by show(gL t n++[_]).length=n+1;rw[List.length_append,CG n];rfl
theorem JN:∀(n g:Nat),g<n→(gL t n).getD g false=Hn t g
 | n+1,g,h=>by
  show(gL t n++[Hn t n]).getD g false=_
  rw[List.getD_eq_getElem?_getD]
  by_cases q:g=n
  ·rw[q,List.getElem?_append_right (by rw[CG];exact Nat.le_refl _),CG,Nat.sub_self];rfl
  ·rw[List.getElem?_append_left (by rw[CG];lia),←List.getD_eq_getElem?_getD]
   exact JN n g (by lia)
theorem WL{g:Nat}:Hn t g=(decide ((Bq g).length≤(Sy t g).length)&&(Bq g).all fun k=>(gL t g).getD (g-2^k) false):=rfl
theorem EV:∀g,g<32→(Hn t g=true↔DZ t (bt g)):=fun g=>by
 induction g using Nat.strongRecOn with
 | _ g ih=>
  intro hg
  have hr:=List.mem_range.mpr hg
  rw[WL,Bool.and_eq_true,decide_eq_true_iff,List.all_eq_true]
  constructor
  ·intro ⟨h1,h2⟩ S hS
   by_cases hk:∃k∈Nm,bt g k=true∧S k=false
   ·obtain⟨k,hk,e1,e2⟩:=hk
    obtain⟨q1,q2⟩:=NQ g hr k hk e1
    have:=h2 k (List.mem_filter.mpr ⟨hk,e1⟩)
    rw[JN _ _ q1,ih _ q1 (by lia)]at this
    refine this S fun k' hk' e=>?_
    rw[q2 k' hk',hS k' hk' e]
    rw[show(k'==k)=false from beq_false_of_ne fun q=>by rw[q,e2]at e;cases e];rfl
   ·have hb:∀k∈Nm,S k=bt g k:=fun k hk'=>by
     cases e1:bt g k
     ·cases e2:S k
      ·rfl
      ·rw[hS k hk' e2]at e1;cases e1
     ·cases e2:S k
      ·exact absurd ⟨k,hk',e1,e2⟩ hk
      ·rfl
    have c1:cn Nm S=(Bq g).length:=Cl hb
    have c2:(Sy t g).length≤cn Pt (rc t S):=Bi (p:=rc t (bt g)) fun j _ e=>Dh (fun k hk e=>by rw[hb k hk];exact e) j e
    lia
  ·intro H
   refine⟨H (bt g) fun k _ e=>e,fun k hk=>?_⟩
   have hk:=List.mem_filter.mp (show k∈Nm.filter (bt g) from hk)
   obtain⟨q1,q2⟩:=NQ g hr k hk.1 hk.2
   rw[JN _ _ q1,ih _ q1 (by lia)]
   exact H.less fun k' hk' e=>by rw[q2 k' hk',Bool.and_eq_true]at e;exact e.1
variable(t) in
def CU:List Nat→Nat→List Nat
 | [],_=>[]
 | k::r,m=>cond (Hn t (m+2^k)) (k::CU r (m+2^k)) (CU r m)
theorem Cz:∀{r:List Nat} {m:Nat},(CU t r m).Sublist r
 | [],_=>.slnil
 | k::r,m=>by
  show(cond (Hn t (m+2^k)) (k::CU t r (m+2^k)) (CU t r m)).Sublist (k::r)
  cases Hn t (m+2^k)
  ·exact Cz.cons k
  ·exact Cz.cons_cons k
theorem HV:∀{r:List Nat} {m:Nat},m<32→r.Nodup→(∀k∈r,k∈Nm∧bt m k=false)→DZ t (bt m)→DZ t (fun k=>bt m k||decide (k∈CU t r m))
 | [],m,_,_,_,H=>H.less fun k _ e=>(Bool.or_eq_true_iff.mp e).elim id fun q=>nomatch (of_decide_eq_true q)
 | k::r,m,hm,hn,hr,H=>by
  rw[List.nodup_cons]at hn
  obtain⟨q1,q2⟩:=He m (List.mem_range.mpr hm) k (hr k (.head _)).1 (hr k (.head _)).2
  cases hg:Hn t (m+2^k) with
  | false=>
   rw[show CU t (k::r) m=CU t r m by show cond _ _ _=_;rw[hg];rfl]
   exact HV hm hn.2 (fun x hx=>hr x (.tail _ hx)) H
  | true=>
   rw[show CU t (k::r) m=k::CU t r (m+2^k) by show cond _ _ _=_;rw[hg];rfl]
   refine(HV q1 hn.2 (fun x hx=>⟨(hr x (.tail _ hx)).1,?_⟩) ((EV _ q1).mp hg)).less fun x hx e=>?_
   ·rw[q2 x (hr x (.tail _ hx)).1,(hr x (.tail _ hx)).2,show(x==k)=false from beq_false_of_ne fun q=>hn.1 (q▸hx)];rfl
   ·rw[q2 x hx]
    rcases Bool.or_eq_true_iff.mp e with e|e
    ·rw[e];rfl
    ·rcases List.mem_cons.mp (of_decide_eq_true e) with q|q
     ·rw[q,beq_self_eq_true];simp
     ·rw[decide_eq_true q];simp
theorem JP{w:Nat→Nat}:∀{r:List Nat} {m:Nat},m<32→r.Nodup→(∀k∈r,k∈Nm∧bt m k=false)→r.Pairwise (fun a b=>w b≤w a)→∀x∈r,x∉CU t r m →
  ∃m',(∀k∈Nm,bt m' k=true→bt m k=true∨(k∈CU t r m∧w x≤w k))∧¬DZ t (fun k=>bt m' k||k==x)
 | k::r,m,hm,hn,hr,hp,x,hx,hx'=>by
  rw[List.nodup_cons]at hn
  rw[List.pairwise_cons]at hp
  obtain⟨q1,q2⟩:=He m (List.mem_range.mpr hm) k (hr k (.head _)).1 (hr k (.head _)).2
  cases hg:Hn t (m+2^k) with
  | false=>
   rw[show CU t (k::r) m=CU t r m by show cond _ _ _=_;rw[hg];rfl]at hx' ⊢
   rcases List.mem_cons.mp hx with e|hx
   ·refine⟨m,fun k' _ e=>.inl e,fun H=>?_⟩
    rw[e]at H
    have:=(EV (t:=t) _ q1).mpr (H.less fun k' hk' e=>by rw[q2 k' hk']at e;exact e)
    rw[hg]at this;cases this
   ·exact JP hm hn.2 (fun y hy=>hr y (.tail _ hy)) hp.2 x hx hx'
  | true=>
   rw[show CU t (k::r) m=k::CU t r (m+2^k) by show cond _ _ _=_;rw[hg];rfl]at hx' ⊢
   rcases List.mem_cons.mp hx with e|hx
   ·exact absurd (e▸.head _) hx'
   ·obtain⟨m',h1,h2⟩:=JP q1 hn.2 (fun y hy=>⟨(hr y (.tail _ hy)).1,by rw[q2 y (hr y (.tail _ hy)).1,(hr y (.tail _ hy)).2,show(y==k)=false from beq_false_of_ne fun q=>hn.1 (q▸hy)];rfl⟩) hp.2 x hx fun q=>hx' (.tail _ q)
    refine⟨m',fun k' hk' e=>?_,h2⟩
    rcases h1 k' hk' e with e|e
    ·rw[q2 k' hk']at e
     rcases Bool.or_eq_true_iff.mp e with e|e
     ·exact .inl e
     ·rw[beq_iff_eq]at e;rw[e];exact .inr ⟨.head _,hp.1 x hx⟩
    ·exact .inr ⟨.tail _ e.1,e.2⟩
theorem iY:DZ t (bt 0):=fun S hS=>by
 have e:∀k∈Nm,bt 0 k=false:=by decide
 rw[De fun k hk=>by cases h:S k;rfl;have:=hS k hk h;rw[e k hk]at this;cases this];exact Nat.zero_le _
theorem FF:∀k∈Nm,bt 0 k=false:=by decide
theorem Oe{p:Nat→Bool}:∀{c:List Nat} {l:List Nat},l.Nodup→cn l (fun k=>decide (k∈c)&&p k)≤(c.filter p).length
 | [],l,_=>by rw[De fun k _=>by simp];exact Nat.zero_le _
 | a::c,l,hn=>by
  have ih:=Oe (p:=p) (c:=c) hn
  have h1:cn l (fun k=>decide (k∈a::c)&&p k)≤cn l (fun k=>(k==a&&p a)||(decide (k∈c)&&p k)):=Bi fun k _ e=>by
   rw[Bool.and_eq_true]at e
   rcases List.mem_cons.mp (of_decide_eq_true e.1) with q|q
   ·rw[q]at e ⊢;rw[e.2,beq_self_eq_true];rfl
   ·rw[decide_eq_true q,e.2];simp
  have h2:=Da (p:=fun k=>k==a&&p a) (q:=fun k=>decide (k∈c)&&p k) l
  have h3:cn l (fun k=>k==a&&p a)≤(p a).toNat:=by
   cases hp:p a
   ·rw[De fun k _=>by simp];exact Nat.zero_le _
   ·by_cases ha:a∈l
    ·have:=Hj (p:=fun _=>false) ha hn rfl
     rw[De (p:=fun _=>false) fun k _=>rfl]at this
     rw[Cl (q:=fun y=>false||y==a) fun k _=>by simp,this];exact Nat.le_refl _
    ·rw[De fun k hk=>by rw[show(k==a)=false from beq_false_of_ne fun q=>ha (q▸hk)];rfl];exact Nat.zero_le _
  rw[List.filter_cons]
  cases hp:p a
  ·rw[hp]at h3 h1 h2
   rw[if_neg Bool.false_ne_true]
   have:false.toNat=0:=rfl
   lia
  ·rw[hp]at h3 h1 h2
   rw[if_pos rfl,List.length_cons]
   have:true.toNat=1:=rfl
   lia
theorem No{w:Nat→Nat}{θ:Nat}:∀{c:List Nat} {i:Nat},c.Pairwise (fun a b=>w b≤w a)→i<(c.filter fun k=>decide (θ≤w k)).length→∃x,c[i]?=some x∧θ≤w x
 | a::c,i,hp,hi=>by
  rw[List.pairwise_cons]at hp
  rw[List.filter_cons]at hi
  by_cases h:θ≤w a
  ·rw[decide_eq_true h,if_pos rfl]at hi
   cases i with
   | zero=>exact⟨a,rfl,h⟩
   | succ i=>exact(No hp.2 (Nat.lt_of_succ_lt_succ hi)).imp fun x q=>⟨q.1,q.2⟩
  ·rw[decide_eq_false h,if_neg Bool.false_ne_true]at hi
   have:(c.filter fun k=>decide (θ≤w k))=[]:=List.filter_eq_nil_iff.mpr fun k hk e=>h (Nat.le_trans (of_decide_eq_true e) (hp.1 k hk))
   rw[this]at hi;exact absurd hi (Nat.not_lt_zero _)
theorem XR{w:Nat→Nat}{ord:List Nat}{g θ:Nat}(ho:ord.Perm Nm)(hp:ord.Pairwise (fun a b=>w b≤w a))(hg:g<32)(H:Hn t g=true) :
  ((Bq g).filter fun k=>decide (θ≤w k)).length≤((CU t ord 0).filter fun k=>decide (θ≤w k)).length:=by
 have hnd:ord.Nodup:=ho.nodup_iff.mpr kX
 have hr:∀k∈ord,k∈Nm∧bt 0 k=false:=fun k hk=>⟨ho.mem_iff.mp hk,FF k (ho.mem_iff.mp hk)⟩
 have HC:=HV (by decide) hnd hr (iY (t:=t))
 have hB:DZ t (fun k=>decide (k∈CU t ord 0)&&decide (θ≤w k)):=HC.less fun k _ e=>Bool.or_eq_true_iff.mpr (.inr (Bool.and_eq_true_iff.mp e).1)
 have hA:DZ t (fun k=>bt g k&&decide (θ≤w k)):=((EV g hg).mp H).less fun k _ e=>(Bool.and_eq_true_iff.mp e).1
 have key:cn Nm (fun k=>bt g k&&decide (θ≤w k))≤cn Nm (fun k=>decide (k∈CU t ord 0)&&decide (θ≤w k)):=Nat.not_lt.mp fun hlt=>by
  obtain⟨x,hx,a1,a2,a3⟩:=RM hA hB hlt
  have hθ:=of_decide_eq_true (Bool.and_eq_true_iff.mp a1).2
  have hxc:x∉CU t ord 0:=fun q=>by rw[decide_eq_true q,decide_eq_true hθ]at a2;cases a2
  obtain⟨m',h1,h2⟩:=JP (w:=w) (by decide) hnd hr hp x (ho.mem_iff.mpr hx) hxc
  refine h2 (a3.less fun k hk e=>?_)
  rcases Bool.or_eq_true_iff.mp e with e|e
  ·rcases h1 k hk e with q|q
   ·rw[FF k hk]at q;cases q
   ·rw[decide_eq_true q.1,decide_eq_true (Nat.le_trans hθ q.2)];rfl
  ·rw[e];simp
 refine Nat.le_trans (Nat.le_of_eq ?_) (Nat.le_trans key (Oe kX))
 show((Nm.filter (bt g)).filter _).length=(Nm.filter _).length
 rw[List.filter_filter]
 exact congrArg List.length (List.filter_congr fun k _=>Bool.and_comm _ _)
end
end Sh
namespace Sh
theorem Fe:∀{c l:List Nat},c.Nodup→(∀x∈c,x∈l)→c.length≤l.length
 | [],_,_,_=>Nat.zero_le _
 | a::c,l,hn,h=>by
  rw[List.nodup_cons]at hn
  have:=Fe (l:=l.erase a) hn.2 fun x hx=>(List.mem_erase_of_ne (show x≠a from fun q=>hn.1 (q▸hx))).mpr (h x (.tail _ hx))
  rw[List.length_erase_of_mem (h a (.head _))]at this
  have:0<l.length:=List.length_pos_of_mem (h a (.head _))
  rw[List.length_cons];lia
theorem JJ{R:Nat→Nat→Prop}:∀{l l':List Nat} {p q:Nat→Bool},l.Nodup→l'.Nodup→(∀x∈l,p x=true→∃y∈l',q y=true∧R x y)→(∀x∈l,∀x'∈l,∀y,p x=true→p x'=true→R x y→R x' y→x=x')→cn l p≤cn l' q
 | [],_,_,_,_,_,_,_=>Nat.zero_le _
 | a::l,l',p,q,hn,hn',h,hR=>by
  rw[List.nodup_cons]at hn
  rw[Cc]
  cases hp:p a with
  | false=>
   show 0+_≤_
   rw[Nat.zero_add]
   exact JJ hn.2 hn' (fun x hx=>h x (.tail _ hx)) fun x hx x' hx'=>hR x (.tail _ hx) x' (.tail _ hx')
  | true=>
   obtain⟨y,hy,hq,hr⟩:=h a (.head _) hp
   have c1:=Hj (p:=fun z=>q z&&!(z==y)) hy hn' (by rw[beq_self_eq_true];simp)
   have c2:cn l' (fun z=>(q z&&!(z==y))||z==y)=cn l' q:=Cl fun z _=>by
    by_cases e:z=y
    ·rw[e,hq,beq_self_eq_true];rfl
    ·rw[show(z==y)=false from beq_false_of_ne e];simp
   have:=JJ (q:=fun z=>q z&&!(z==y)) hn.2 hn' (fun x hx e=>by
    obtain⟨z,hz,hqz,hrz⟩:=h x (.tail _ hx) e
    refine⟨z,hz,?_,hrz⟩
    rw[hqz,show(z==y)=false from beq_false_of_ne fun e2=>hn.1 (by rw[hR a (.head _) x (.tail _ hx) y hp e hr (e2▸hrz)];exact hx)];rfl) fun x hx x' hx'=>hR x (.tail _ hx) x' (.tail _ hx')
   have:true.toNat=1:=rfl
   lia
abbrev AW:=List (Option Nat)
section
variable(t:Nat→Nat→Bool)
noncomputable def tk(k:Nat):List Nat:=Pt.filter (t k)
noncomputable def DE(rec:Nat→AW→List Nat→Option (Bool×AW×List Nat))(k:Nat):List Nat→AW→List Nat→Option (Bool×AW×List Nat)
 | [],s,tr=>some (false,s,tr)
 | j::r,s,tr=>cond (decide (j∈tr)) (DE rec k r s tr) ((s[j]?).elim none fun o=>o.elim (some (true,s.set j (some k),tr++[j])) fun o=>(rec o s (tr++[j])).elim none fun x=>cond x.1 (some (true,x.2.1.set j (some k),x.2.2)) (DE rec k r x.2.1 x.2.2))
def MC:Nat→Nat→AW→List Nat→Option (Bool×AW×List Nat)
 | 0,_,_,_=>none
 | f+1,k,s,tr=>DE (MC f) k (tk t k) s tr
def At(s:AW)(j o:Nat):Prop:=s[j]?=some (some o)
structure Ok(s:AW):Prop where
 len:s.length=4
 edge:∀j o,At s j o→o∈Nm∧t o j=true
def nK(s:AW):Prop:=∀j j' o,At s j o→At s j' o→j=j'
structure kZ(k:Nat)(s:AW)(tr:List Nat):Prop where
 ok:Ok t s
 inj:nK s
 own:∀j,At s j k→j∈tr
 nd:tr.Nodup
 sub:∀j∈tr,j∈Pt
structure Won(k:Nat)(s:AW)(tr:List Nat)(s':AW):Prop where
 ok:Ok t s'
 old:∀j∈tr,s'[j]?=s[j]?
 new:∃j,j∉tr∧At s' j k
 inj:∀j j' o,At s' j o→At s' j' o→j=j'∨(o=k∧(j∈tr∨j'∈tr))
 own:∀o,(∃j,At s' j o)↔(o=k∨∃j,At s j o)
structure tY(l:List Nat)(s:AW)(tr tr':List Nat):Prop where
 all:∀j∈l,j∈tr'
 cl:∀j∈tr',j∉tr→∃o,At s j o∧∀j'∈tk t o,j'∈tr'
structure jT(tr tr':List Nat):Prop where
 up:∀j∈tr,j∈tr'
 nd:tr'.Nodup
 sub:∀j∈tr',j∈Pt
inductive K9(l:List Nat)(k:Nat)(s:AW)(tr:List Nat)(o:Option (Bool×AW×List Nat)):Prop
 | won {s':AW} {tr':List Nat} (e:o=some (true,s',tr')) (w:Won t k s tr s') (m:jT tr tr')
 | lost {tr':List Nat} (e:o=some (false,s,tr')) (w:tY t l s tr tr') (m:jT tr tr')
variable{t}
theorem BK{s:AW}{j j' k o:Nat}(hj:j<s.length):At (s.set j (some k)) j' o↔(j'=j∧o=k)∨(j'≠j∧At s j' o):=by
 unfold At
 by_cases h:j'=j
 ·rw[h,List.getElem?_set_self hj]
  constructor
  ·intro e;cases e;exact .inl ⟨rfl,rfl⟩
  ·rintro(⟨_,rfl⟩|⟨h,_⟩)
   ·rfl
   ·exact absurd rfl h
 ·rw[List.getElem?_set_ne (Ne.symm h)]
  constructor
  ·intro e;exact .inr ⟨h,e⟩
  ·rintro(⟨h',_⟩|⟨_,e⟩)
   ·exact absurd h' h
   ·exact e
set_option tactic.hygienic true in
theorem Fg{f:Nat→AW→List Nat→Option (Bool×AW×List Nat)}{k n:Nat}(hk:k∈Nm)(hf:∀o s tr,o∈Nm→kZ t o s tr→n≤tr.length→K9 t (tk t o) o s tr (f o s tr)) :
  ∀(l:List Nat) (s:AW) (tr:List Nat),(∀j∈l,j∈Pt∧t k j=true)→kZ t k s tr→n≤tr.length+1→K9 t l k s tr (DE f k l s tr)
 | [],s,tr,hl,P,hn=>.lost rfl ⟨fun j h=>(nomatch h),fun j h h'=>absurd h h'⟩ ⟨fun _ h=>h,P.nd,P.sub⟩
 | j::l,s,tr,hl,P,hn=>by
  have hl':∀j∈l,j∈Pt∧t k j=true:=fun x hx=>hl x (.tail _ hx)
  obtain⟨hj,hkj⟩:=hl j (.head _)
  by_cases hm:j∈tr
  ·have e:DE f k (j::l) s tr=DE f k l s tr:=by show cond (decide (j∈tr)) _ _=_;rw[decide_eq_true hm];rfl
   rw[e]
   cases Fg hk hf l s tr hl' P hn with
   | won e w m=>exact .won e w m
   | lost e w m=>exact .lost e ⟨fun x hx=>(List.mem_cons.mp hx).elim (fun q=>m.up _ (q▸hm)) (w.all x),w.cl⟩ m
  ·have hjl:j<s.length:=by rw[P.ok.len];exact List.mem_range.mp hj
   have nd1:(tr++[j]).Nodup:=List.nodup_append.mpr ⟨P.nd,List.nodup_cons.mpr ⟨fun h=>(nomatch h),.nil⟩,fun a ha b hb q=>hm (by rw[List.mem_singleton.mp hb]at q;exact q▸ha)⟩
   have sub1:∀x∈tr++[j],x∈Pt:=fun x hx=>(List.mem_append.mp hx).elim (P.sub x) fun q=>List.mem_singleton.mp q▸hj
   have e:DE f k (j::l) s tr=(s[j]?).elim none fun o=>o.elim (some (true,s.set j (some k),tr++[j])) fun o=>(f o s (tr++[j])).elim none fun x=>cond x.1 (some (true,x.2.1.set j (some k),x.2.2)) (DE f k l x.2.1 x.2.2):=by
    show cond (decide (j∈tr)) _ _=_;rw[decide_eq_false hm];rfl
   rw[e]
   obtain⟨o,ho⟩:∃o,s[j]?=some o:=⟨_,List.getElem?_eq_getElem hjl⟩
   rw[ho]
   cases o with
   | none=>
    refine .won rfl ⟨⟨by rw[List.length_set];exact P.ok.len,fun a o h=>?_⟩,fun a ha=>?_,⟨j,hm,(BK hjl).mpr (.inl ⟨rfl,rfl⟩)⟩,fun a b o h1 h2=>?_,fun o=>⟨fun⟨a,h⟩=>?_,fun h=>?_⟩⟩ ⟨fun a ha=>List.mem_append_left _ ha,nd1,sub1⟩
    ·rcases(BK hjl).mp h with⟨rfl,rfl⟩|⟨_,h⟩
     ·exact⟨hk,hkj⟩
     ·exact P.ok.edge a o h
    ·exact List.getElem?_set_ne (show j≠a from fun q=>hm (q▸ha))
    ·rcases(BK hjl).mp h1 with⟨ha,rfl⟩|⟨ha,g1⟩
     ·rcases(BK hjl).mp h2 with⟨hb,_⟩|⟨hb,g2⟩
      ·exact .inl (ha.trans hb.symm)
      ·exact .inr ⟨rfl,.inr (P.own b g2)⟩
     ·rcases(BK hjl).mp h2 with⟨hb,rfl⟩|⟨hb,g2⟩
      ·exact .inr ⟨rfl,.inl (P.own a g1)⟩
      ·exact .inl (P.inj a b o g1 g2)
    ·rcases(BK hjl).mp h with⟨_,q⟩|⟨_,h⟩
     ·exact .inl q
     ·exact .inr ⟨a,h⟩
    ·rcases h with q|⟨a,h⟩
     ·exact⟨j,(BK hjl).mpr (.inl ⟨rfl,q⟩)⟩
     ·exact⟨a,(BK hjl).mpr (.inr ⟨(fun q=>by unfold At at h;rw[q,ho]at h;cases h),h⟩)⟩
   | some o=>
    have P1:kZ t o s (tr++[j]):=⟨P.ok,P.inj,fun a h=>List.mem_append_right _ (List.mem_singleton.mpr (P.inj a j o h ho)),nd1,sub1⟩
    have hon:o∈Nm:=(P.ok.edge j o ho).1
    cases hf o s (tr++[j]) hon P1 (by rw[List.length_append];exact hn) with
    | won e w m=>
     rename_i s2 tr2
     have hj2:j<s2.length:=by rw[w.ok.len];exact List.mem_range.mp hj
     have hj1:j∈tr++[j]:=List.mem_append_right _ (.head _)
     have h2j:At s2 j o:=(w.old j hj1).trans ho
     have up:∀a∈tr,a∈tr++[j]:=fun a ha=>List.mem_append_left _ ha
     have hko:k≠o:=fun q=>hm (P.own j (q▸ho))
     have key:∀b,b≠j→At s2 b k→b∈tr:=fun b hb h=>by
      rcases(w.own k).mp ⟨b,h⟩ with q|⟨p,hp⟩
      ·exact absurd q hko
      ·have hp':=P.own p hp
       rcases w.inj b p k h ((w.old p (up p hp')).trans hp) with q|q
       ·exact q▸hp'
       ·exact absurd q.1 hko
     refine .won (s':=s2.set j (some k)) (tr':=tr2) (by rw[show(some (some o)).elim none _=_ from rfl];show(f o s (tr++[j])).elim none _=_;rw[e];rfl) ⟨⟨by rw[List.length_set];exact w.ok.len,fun a x h=>?_⟩,fun a ha=>?_,⟨j,hm,(BK hj2).mpr (.inl ⟨rfl,rfl⟩)⟩,fun a b x h1 h2=>?_,fun x=>⟨fun⟨a,h⟩=>?_,fun h=>?_⟩⟩ ⟨fun a ha=>m.up a (up a ha),m.nd,m.sub⟩
     ·rcases(BK hj2).mp h with⟨rfl,rfl⟩|⟨_,h⟩
      ·exact⟨hk,hkj⟩
      ·exact w.ok.edge a x h
     ·exact(List.getElem?_set_ne (show j≠a from fun q=>hm (q▸ha))).trans (w.old a (up a ha))
     ·rcases(BK hj2).mp h1 with⟨ha,rfl⟩|⟨ha,g1⟩
      ·rcases(BK hj2).mp h2 with⟨hb,_⟩|⟨hb,g2⟩
       ·exact .inl (ha.trans hb.symm)
       ·exact .inr ⟨rfl,.inr (key b hb g2)⟩
      ·rcases(BK hj2).mp h2 with⟨hb,rfl⟩|⟨hb,g2⟩
       ·exact .inr ⟨rfl,.inl (key a ha g1)⟩
       ·rcases w.inj a b x g1 g2 with q|⟨rfl,q⟩
        ·exact .inl q
        ·rcases q with q|q
         ·exact absurd (P.inj a j x ((w.old a q).symm.trans g1) ho) ha
         ·exact absurd (P.inj b j x ((w.old b q).symm.trans g2) ho) hb
     ·rcases(BK hj2).mp h with⟨_,q⟩|⟨_,h⟩
      ·exact .inl q
      ·rcases(w.own x).mp ⟨a,h⟩ with q|q
       ·exact .inr ⟨j,q▸ho⟩
       ·exact .inr q
     ·rcases h with q|h
      ·exact⟨j,(BK hj2).mpr (.inl ⟨rfl,q⟩)⟩
      ·obtain⟨a,h⟩:=(w.own x).mpr (.inr h)
       by_cases q:a=j
       ·rw[q]at h
        have:x=o:=Option.some.inj (Option.some.inj (h.symm.trans h2j))
        obtain⟨j1,n1,n2⟩:=w.new
        exact⟨j1,(BK hj2).mpr (.inr ⟨fun q=>n1 (q▸hj1),this▸n2⟩)⟩
       ·exact⟨a,(BK hj2).mpr (.inr ⟨q,h⟩)⟩
    | lost e w m=>
     rename_i tr2
     have P2:kZ t k s tr2:=⟨P.ok,P.inj,fun a h=>m.up a (List.mem_append_left _ (P.own a h)),m.nd,m.sub⟩
     have hl2:n≤tr2.length+1:=Nat.le_trans hn (Nat.succ_le_succ (Fe P.nd fun x hx=>m.up x (List.mem_append_left _ hx)))
     have e':(some (some o)).elim (none:Option (Bool×AW×List Nat)) (fun o=>o.elim (some (true,s.set j (some k),tr++[j])) fun o=>(f o s (tr++[j])).elim none fun x=>cond x.1 (some (true,x.2.1.set j (some k),x.2.2)) (DE f k l x.2.1 x.2.2))=DE f k l s tr2:=by
      show(f o s (tr++[j])).elim none _=_;rw[e];rfl
     rw[e']
     cases Fg hk hf l s tr2 hl' P2 hl2 with
     | won e3 w3 m3=>
      refine .won e3 ⟨w3.ok,fun a ha=>w3.old a (m.up a (List.mem_append_left _ ha)),w3.new.imp fun a q=>⟨fun h=>q.1 (m.up a (List.mem_append_left _ h)),q.2⟩,fun a b x h1 h2=>?_,w3.own⟩ ⟨fun a ha=>m3.up a (m.up a (List.mem_append_left _ ha)),m3.nd,m3.sub⟩
      rcases w3.inj a b x h1 h2 with q|⟨rfl,q⟩
      ·exact .inl q
      ·refine .inr ⟨rfl,q.imp (fun q=>?_) fun q=>?_⟩
       ·exact P.own a ((w3.old a q).symm.trans h1)
       ·exact P.own b ((w3.old b q).symm.trans h2)
     | lost e3 w3 m3=>
      rename_i tr3
      refine .lost e3 ⟨fun x hx=>(List.mem_cons.mp hx).elim (fun q=>q▸m3.up j (m.up j (List.mem_append_right _ (.head _)))) (w3.all x),fun a ha hna=>?_⟩ ⟨fun a ha=>m3.up a (m.up a (List.mem_append_left _ ha)),m3.nd,m3.sub⟩
      by_cases h2:a∈tr2
      ·by_cases hja:a=j
       ·exact⟨o,hja▸ho,fun x hx=>m3.up x (w.all x hx)⟩
       ·obtain⟨o',q1,q2⟩:=w.cl a h2 fun q=>(List.mem_append.mp q).elim hna fun q=>hja (List.mem_singleton.mp q)
        exact⟨o',q1,fun x hx=>m3.up x (q2 x hx)⟩
      ·exact w3.cl a ha h2
theorem Fw{k j:Nat}:j∈tk t k↔j∈Pt∧t k j=true:=List.mem_filter
theorem OX:∀(f:Nat) (k:Nat) (s:AW) (tr:List Nat),k∈Nm→kZ t k s tr→5≤tr.length+f→K9 t (tk t k) k s tr (MC t f k s tr)
 | 0,k,s,tr,hk,P,h=>absurd (Fe P.nd P.sub) (by rw[List.length_range];lia)
 | f+1,k,s,tr,hk,P,h=>Fg (n:=5-f) hk (fun o s tr ho P hn=>OX f o s tr ho P (by lia)) (tk t k) s tr (fun j hj=>Fw.mp hj) P (by omega)
theorem VM{s:AW}{S:Nat→Bool}(O:Ok t s)(I:nK s)(h:∀o∈Nm,S o=true→∃j,At s j o):DZ t S:=fun S' hS=>by
 refine JJ (R:=fun o j=>At s j o) kX V6 (fun o ho e=>?_) fun o _ o' _ j _ _ h1 h2=>Option.some.inj (Option.some.inj (h1.symm.trans h2))
 obtain⟨j,hj⟩:=h o ho (hS o ho e)
 have hlt:j<4:=by rw[←O.len];exact(List.getElem?_eq_some_iff.mp hj).1
 exact⟨j,List.mem_range.mpr hlt,Lf ho e (O.edge j o hj).2,hj⟩
theorem Vh{s:AW}{S:Nat→Bool}{k:Nat}{tr:List Nat}(hk:k∈Nm)(O:Ok t s)(I:nK s)(h:∀o∈Nm,(∃j,At s j o)→S o=true)(hks:∀j,¬At s j k)(L:tY t (tk t k) s [] tr)(m:jT [] tr):¬DZ t (fun o=>S o||o==k):=fun H=>by
 have hT:=H (fun o=>(tr.any fun j=>s[j]?==some (some o))||o==k) fun o ho e=>by
  rcases Bool.or_eq_true_iff.mp e with e|e
  ·obtain⟨j,_,hj⟩:=List.any_eq_true.mp e
   show(S o||o==k)=true
   rw[h o ho ⟨j,beq_iff_eq.mp hj⟩];rfl
  ·show(S o||o==k)=true
   rw[e];simp
 have hk0:(tr.any fun j=>s[j]?==some (some k))=false:=List.any_eq_false.mpr fun j _ e=>hks j (beq_iff_eq.mp e)
 rw[Hj hk kX hk0]at hT
 have c1:cn Pt (rc t fun o=>(tr.any fun j=>s[j]?==some (some o))||o==k)≤cn Pt (fun j=>decide (j∈tr)):=Bi fun j hj e=>by
  obtain⟨o,ho,e⟩:=List.any_eq_true.mp e
  rw[Bool.and_eq_true]at e
  refine decide_eq_true ?_
  rcases Bool.or_eq_true_iff.mp e.1 with q|q
  ·obtain⟨a,ha,hq⟩:=List.any_eq_true.mp q
   obtain⟨o',q1,q2⟩:=L.cl a ha (fun h=>nomatch h)
   have:o=o':=Option.some.inj (Option.some.inj ((beq_iff_eq.mp hq).symm.trans q1))
   exact q2 j (Fw.mpr ⟨hj,this▸e.2⟩)
  ·rw[beq_iff_eq]at q;exact L.all j (Fw.mpr ⟨hj,q▸e.2⟩)
 have c2:cn Pt (fun j=>decide (j∈tr))≤cn Nm (fun o=>tr.any fun j=>s[j]?==some (some o)):=JJ (R:=fun j o=>At s j o) V6 kX (fun j hj e=>by
  obtain⟨o,q1,q2⟩:=L.cl j (of_decide_eq_true e) (fun h=>nomatch h)
  exact⟨o,(O.edge j o q1).1,List.any_eq_true.mpr ⟨j,of_decide_eq_true e,beq_iff_eq.mpr q1⟩,q1⟩) fun j _ j' _ o _ _ h1 h2=>I j j' o h1 h2
 lia
structure kR(t:Nat→Nat→Bool)(m:Nat)(s:AW):Prop where
 lt:m<32
 ok:Ok t s
 inj:nK s
 own:∀o∈Nm,(∃j,At s j o)↔bt m o=true
theorem mK:kR t 0 [none,none,none,none]:=by
 have no:∀j o,¬At [none,none,none,none] j o:=fun j o h=>by
  have:=List.mem_of_getElem? h
  simp at this
 exact⟨by decide,⟨rfl,fun j o h=>absurd h (no j o)⟩,fun j _ o h=>absurd h (no j o),fun o ho=>⟨fun⟨j,h⟩=>absurd h (no j o),fun h=>by rw[FF o ho]at h;cases h⟩⟩
inductive cU(t:Nat→Nat→Bool)(m k:Nat)(s:AW)(o:Option (Bool×AW×List Nat)):Prop
 | yes {s':AW} {tr:List Nat} (e:o=some (true,s',tr)) (g:Hn t (m+2^k)=true) (S:kR t (m+2^k) s') (ht:tr.length≤4):cU t m k s o
 | no {tr:List Nat} (e:o=some (false,s,tr)) (g:Hn t (m+2^k)=false) (ht:tr.length≤4):cU t m k s o
set_option tactic.hygienic true in
theorem Sf{m k:Nat}{s:AW}(S:kR t m s)(hk:k∈Nm)(hb:bt m k=false):cU t m k s (MC t 6 k s []):=by
 obtain⟨q1,q2⟩:=He m (List.mem_range.mpr S.lt) k hk hb
 have hks:∀j,¬At s j k:=fun j h=>by
  have:=(S.own k hk).mp ⟨j,h⟩
  rw[hb]at this;cases this
 have P:kZ t k s []:=⟨S.ok,S.inj,fun j h=>absurd h (hks j),.nil,fun j h=>nomatch h⟩
 cases OX 6 k s [] hk P (by decide) with
 | won e w m'=>
  rename_i s' tr'
  have I':nK s':=fun a b o h1 h2=>(w.inj a b o h1 h2).elim id fun q=>q.2.elim (fun q=>nomatch q) fun q=>nomatch q
  have own':∀o∈Nm,(∃j,At s' j o)↔bt (m+2^k) o=true:=fun o ho=>by
   rw[w.own o,S.own o ho,q2 o ho,Bool.or_eq_true,beq_iff_eq]
   exact Or.comm
  exact .yes e ((EV _ q1).mpr (VM w.ok I' fun o ho h=>(own' o ho).mpr h)) ⟨q1,w.ok,I',own'⟩ (Fe m'.nd m'.sub)
 | lost e w m'=>
  refine .no e ?_ (Fe m'.nd m'.sub)
  cases hg:Hn t (m+2^k) with
  | false=>rfl
  | true=>
   refine absurd ((EV _ q1).mp hg) fun H=>Vh (S:=bt m) hk S.ok S.inj (fun o ho h=>(S.own o ho).mp h) hks w m' (H.less fun o ho e=>?_)
   rw[q2 o ho];exact e
end
end Sh
namespace Sh
open PySem PySem.Calls
noncomputable def iL(l:List Nat):List PV:=l.map fun(j:Nat)=>PV.int (j:Int)
theorem XZ:∀l:List Nat,pyOfs (iL l)=some (l.map fun(j:Nat)=>PyData.int (j:Int))
 | []=>rfl
 | j::l=>by show bd (pyOfs (iL l)) _=_;rw[XZ l];rfl
theorem Rj(j:Nat):∀l:List Nat,(l.map fun(j:Nat)=>PyData.int (j:Int)).any (fun y=>PyData.eqv y (.int (j:Int)))=decide (j∈l)
 | []=>rfl
 | a::l=>by
  rw[List.map_cons,List.any_cons,Rj j l]
  have e:PyData.eqv (.int (a:Int)) (.int (j:Int))=decide (j=a):=by
   show((a:Int)==(j:Int))=_
   by_cases q:j=a
   ·rw[q,decide_eq_true rfl];exact beq_self_eq_true _
   ·rw[decide_eq_false q];exact beq_false_of_ne fun h=>q (by lia)
  rw[e]
  by_cases q:j=a
  ·rw[decide_eq_true q,Bool.true_or];exact(decide_eq_true (by rw[q];exact .head _)).symm
  ·rw[decide_eq_false q,Bool.false_or]
   exact decide_eq_decide.mpr ⟨fun h=>.tail _ h,fun h=>(List.mem_cons.mp h).elim (fun e=>absurd e q) id⟩
theorem YB{σ:St}{p:PV}{j:Nat}{l:List Nat}(h:ql p.tup? (Bx σ p)=some (iL l))(h2:p.str?=none):QC σ (.int j) p=some (decide (j∈l)):=by
 refine Av ?_ (AC h (AC rfl (AC (XZ l) (AK rfl (congrArg some (Rj j l))))))
 rfl
theorem fA{σ:St}{n j:Nat}{l:List Nat}(h:σ[n]?=some (.lst (iL l))):QC σ (.int j) (.loc n)=some (decide (j∈l)):=YB (Av rfl (ER h)) rfl
theorem Rr{σ:St}{j:Nat}{l:List Nat}:QC σ (.int j) (.lst (iL l))=some (decide (j∈l)):=YB rfl rfl
theorem EO(l:List Nat):(iL l).length=l.length:=List.length_map _
theorem EP{σ:St}{l:List PV}{i:Nat}{p:PV}(hl:l.length≤1000)(hi:l[i]?=some p):CC σ (.lst l) (.int i)=some p:=by
 have hlt:i<l.length:=(List.getElem?_eq_some_iff.mp hi).1
 refine AK (decide_eq_true ?_) (Av rfl (Av rfl (Av rfl (AC (a:=l) rfl (AK (Ag hl) (AC (a:=i) ?_ hi))))))
 ·show i<2^60;lia
 ·exact seqIndex_of (Int.natCast_nonneg i) (Int.ofNat_lt.mpr hlt)
section
variable{Φ:Nat→Option Spec}{m:Fm}{σ σ₁ σ₂:St}{p q:PV}{x y:X}
theorem SP(h:ev Φ x m σ=some (p,σ₁))(t:AT σ₁ p=some true):ev Φ (.bo .Or (.cons x (.cons y .nil))) m σ=some (p,σ₁):=AE h (AC t rfl)
theorem EE(h:ev Φ x m σ=some (p,σ₁))(t:AT σ₁ p=some false)(h2:ev Φ y m σ₁=some (q,σ₂)):ev Φ (.bo .Or (.cons x (.cons y .nil))) m σ=some (q,σ₂):=AE h (AC t (AE h2 rfl))
end
variable{t:Nat→Nat→Bool}
noncomputable def oV(o:Option Nat):PV:=o.elim .none fun k=>.int (k:Int)
def sV(s:AW):PO:=.lst (s.map oV)
def rV(l:List Nat):PO:=.lst (iL l)
def tV(t:Nat→Nat→Bool):PV:=.lst (Nm.map fun k=>.lst (iL (tk t k)))
theorem RD{k:Nat}(hk:k∈Nm)(σ:St):CC σ (tV t) (.int k)=some (.lst (iL (tk t k))):=by
 refine EP (by rw[List.length_map,List.length_range];decide) ?_
 rw[List.getElem?_map,List.getElem?_range (List.mem_range.mp hk)];rfl
theorem zD(n:Nat)(l:List Nat):clL n (iL l)=true:=Dl (f:=fun(j:Nat)=>PV.int (j:Int)) (fun _ _=>rfl) n l
theorem ZR(n:Nat)(s:AW):Ex n (sV s)=true:=Bool.and_eq_true_iff.mpr ⟨Dl (f:=oV) (fun o _=>by cases o<;>rfl) n s,rfl⟩
theorem RN(n:Nat)(l:List Nat):Ex n (rV l)=true:=Bool.and_eq_true_iff.mpr ⟨zD n l,rfl⟩
noncomputable def seI:S:=.iff (.bo .Or (.cons (.cmp .Is (.idx (.v 2) (.v 4)) .none) (.cons (.call 20 (.cons (.idx (.v 2) (.v 4)) (.cons (.v 1) (.cons (.v 2) (.cons (.v 3) .nil))))) .nil))) (.cons (.asI (.v 2) (.v 4) (.v 0)) (.cons (.ret (.bool true)) .nil)) .nil
def seJ:SL:=.cons (.ex (.me .append (.v 3) (.cons (.v 4) .nil))) (.cons seI .nil)
def kU:SL:=.cons (.iff (.cmp .NotIn (.v 4) (.v 3)) seJ .nil) .nil
theorem zQ:jP=.cons (.fo [4] (.idx (.v 1) (.v 0)) kU) (.cons (.ret (.bool false)) .nil):=rfl
def sM(k a b:Nat)(o:Option PV)(t:Nat→Nat→Bool):Fm:=[some (.int k),some (tV t),some (.loc a),some (.loc b),o]
def sS(σ:St)(a b:Nat)(s:AW)(tr:List Nat):St:=(σ.set a (sV s)).set b (rV tr)
structure Gd(s:AW)(tr:List Nat):Prop where
 len:s.length=4
 own:∀j o,At s j o→o∈Nm
 nd:tr.Nodup
 sub:∀j∈tr,j∈Pt
theorem Gd.tl{s:AW}{tr:List Nat}(g:Gd s tr):tr.length≤4:=Fe g.nd g.sub
theorem Gd.add{s:AW}{tr:List Nat}{j:Nat}(g:Gd s tr)(hj:j∈Pt)(hm:j∉tr):Gd s (tr++[j]):=
 ⟨g.len,g.own,List.nodup_append.mpr ⟨g.nd,List.nodup_cons.mpr ⟨fun h=>(nomatch h),.nil⟩,fun a ha b hb q=>hm (by rw[List.mem_singleton.mp hb]at q;exact q▸ha)⟩,fun x hx=>(List.mem_append.mp hx).elim (g.sub x) fun q=>List.mem_singleton.mp q▸hj⟩
theorem Gd.put{s:AW}{tr:List Nat}{j k:Nat}(g:Gd s tr)(hj:j∈Pt)(hk:k∈Nm):Gd (s.set j (some k)) tr:=
 ⟨by rw[List.length_set];exact g.len,fun a o h=>((BK (by rw[g.len];exact List.mem_range.mp hj)).mp h).elim (fun q=>q.2▸hk) fun q=>g.own a o q.2,g.nd,g.sub⟩
section
variable{σ:St}{a b:Nat}{s:AW}{tr:List Nat}
theorem wI(hab:a≠b)(ha:a<σ.length):(sS σ a b s tr)[a]?=some (sV s):=by
 unfold sS;rw[List.getElem?_set_ne (Ne.symm hab),List.getElem?_set_self ha]
theorem hJ(hb:b<σ.length):(sS σ a b s tr)[b]?=some (rV tr):=by
 unfold sS;exact List.getElem?_set_self (by rw[List.length_set];exact hb)
theorem lK(hab:a≠b)(s':AW):(sS σ a b s tr).set a (sV s')=sS σ a b s' tr:=by
 unfold sS;rw[List.set_comm _ _ (Ne.symm hab),List.set_set]
theorem qQ(tr':List Nat):(sS σ a b s tr).set b (rV tr')=sS σ a b s tr':=List.set_set ..
theorem Nw{f:Nat→AW→List Nat→Option (Bool×AW×List Nat)}{Φ:Nat→Option Spec}{sp:Spec}{k:Nat}(hΦ:Φ 20=some sp)(hk:k∈Nm)(hab:a≠b)(ha:a<σ.length)(hb:b<σ.length)
  (hf:∀o s tr r s' tr',o∈Nm→Gd s tr→f o s tr=some (r,s',tr')→sp [.int o,tV t,.loc a,.loc b] (sS σ a b s tr)=some (.val (.bool r),sS σ a b s' tr')∧Gd s' tr') :
  ∀(l:List Nat) (i:Nat) (s:AW) (tr:List Nat) (o4:Option PV) (r:Bool) (s':AW) (tr':List Nat),(∀j∈l,j∈Pt)→Gd s tr→DE f k l s tr=some (r,s',tr') →
   (∃m',Eo none [4] (evSL Φ kU) (iL l) i (sM k a b o4 t) (sS σ a b s tr)=some (cond r (.ret (.bool true)) .next,m',sS σ a b s' tr')∧∃o,m'=sM k a b o t)∧Gd s' tr'
 | [],i,s,tr,o4,r,s',tr',hl,g,e=>by
  cases (show some (false,s,tr)=some (r,s',tr') from e)
  exact⟨⟨_,rfl,o4,rfl⟩,g⟩
 | j::l,i,s,tr,o4,r,s',tr',hl,g,e=>by
  have hl':∀j∈l,j∈Pt:=fun x hx=>hl x (.tail _ hx)
  have hj:=hl j (.head _)
  have hj4:j<s.length:=by rw[g.len];exact List.mem_range.mp hj
  have IH:=Nw hΦ hk hab ha hb hf l (i+1)
  have go:∀{s1 tr1} {t1:SR} {R},evSL Φ kU (sM k a b (some (.int j)) t) (sS σ a b s tr)=some (t1,sM k a b (some (.int j)) t,sS σ a b s1 tr1) →
    LS t1 (Eo none [4] (evSL Φ kU) (iL l) (i+1) (sM k a b (some (.int j)) t) (sS σ a b s1 tr1)) (sM k a b (some (.int j)) t) (sS σ a b s1 tr1)=R →
    Eo none [4] (evSL Φ kU) (iL (j::l)) i (sM k a b o4 t) (sS σ a b s tr)=R:=fun h h2=>AC (a:=.int (j:Int)) rfl (AC (a:=sM k a b (some (.int j)) t) rfl (BO h h2))
  have hin:ev Φ (.cmp .NotIn (.v 4) (.v 3)) (sM k a b (some (.int j)) t) (sS σ a b s tr)=some (.bool (!decide (j∈tr)),sS σ a b s tr):=AI rfl rfl (by show(QC _ _ _).map (!·)=_;rw[fA (hJ hb)];rfl)
  have e:cond (decide (j∈tr)) (DE f k l s tr) ((s[j]?).elim none fun o=>o.elim (some (true,s.set j (some k),tr++[j])) fun o=>(f o s (tr++[j])).elim none fun x=>cond x.1 (some (true,x.2.1.set j (some k),x.2.2)) (DE f k l x.2.1 x.2.2))=some (r,s',tr'):=e
  by_cases hm:j∈tr
  ·rw[decide_eq_true hm]at e hin
   have:=IH s tr (some (.int j)) r s' tr' hl' g e
   exact⟨this.1.imp fun m' q=>⟨go (t1:=.next) (AA (AS hin rfl rfl) rfl) q.1,q.2⟩,this.2⟩
  ·rw[decide_eq_false hm]at e hin
   have g1:=g.add hj hm
   have app:Ab Φ (.ex (.me .append (.v 3) (.cons (.v 4) .nil))) (sM k a b (some (.int j)) t) (sS σ a b s tr)=some (.next,sM k a b (some (.int j)) t,sS σ a b s (tr++[j])):=
    Ea (DW rfl (DG (hJ hb)) (AD rfl AG) ((Br (hJ hb) (by rw[EO];have:=g.tl;lia)).trans (by
     rw[show(PO.lst (iL tr++[PV.int (j:Int)]))=rV (tr++[j]) by show _=PO.lst (iL (tr++[j]));unfold iL;rw[List.map_append];rfl,qQ])))
   have idx:∀{o},s[j]?=some o→ev Φ (.idx (.v 2) (.v 4)) (sM k a b (some (.int j)) t) (sS σ a b s (tr++[j]))=some (oV o,sS σ a b s (tr++[j])):=fun {o} ho=>
    Ac rfl rfl (Bh (wI hab ha) (by rw[List.length_map,g.len];decide) (by rw[List.getElem?_map,ho];rfl))
   have put:∀{s1 tr1},Gd s1 tr1→evSL Φ (.cons (.asI (.v 2) (.v 4) (.v 0)) (.cons (.ret (.bool true)) .nil)) (sM k a b (some (.int j)) t) (sS σ a b s1 tr1)=some (.ret (.bool true),sM k a b (some (.int j)) t,sS σ a b (s1.set j (some k)) tr1):=fun {s1 tr1} g1=>
    AA (Hz rfl rfl rfl ((Dk (wI hab ha) (by rw[List.length_map,g1.len];decide) (by rw[List.length_map,g1.len];exact List.mem_range.mp hj)).trans (by
     rw[show PO.lst ((s1.map oV).set j (.int (k:Int)))=sV (s1.set j (some k)) by show _=PO.lst ((s1.set j (some k)).map oV);rw[List.map_set];rfl,lK hab]))) (AN rfl rfl)
   obtain⟨o,ho⟩:∃o,s[j]?=some o:=⟨_,List.getElem?_eq_getElem hj4⟩
   rw[ho]at e
   cases o with
   | none=>
    cases (show some (true,s.set j (some k),tr++[j])=some (r,s',tr') from e)
    have h2:ev Φ (.cmp .Is (.idx (.v 2) (.v 4)) .none) (sM k a b (some (.int j)) t) (sS σ a b s (tr++[j]))=some (.bool true,sS σ a b s (tr++[j])):=AI (idx ho) rfl rfl
    exact⟨⟨_,go (t1:=.ret (.bool true)) (AN (Ao hin rfl (AA app (AN (Ao (SP h2 rfl) rfl (put g1)) rfl))) rfl) rfl,_,rfl⟩,g1.put hj hk⟩
   | some o=>
    have hon:=g.own j o ho
    have h2:ev Φ (.cmp .Is (.idx (.v 2) (.v 4)) .none) (sM k a b (some (.int j)) t) (sS σ a b s (tr++[j]))=some (.bool false,sS σ a b s (tr++[j])):=AI (idx ho) rfl rfl
    have e:(f o s (tr++[j])).elim none (fun x=>cond x.1 (some (true,x.2.1.set j (some k),x.2.2)) (DE f k l x.2.1 x.2.2))=some (r,s',tr'):=e
    cases hx:f o s (tr++[j]) with
    | none=>rw[hx]at e;cases e
    | some x=>
     rw[hx]at e
     obtain⟨r2,s2,tr2⟩:=x
     obtain⟨hc,g2⟩:=hf o s (tr++[j]) r2 s2 tr2 hon g1 hx
     have h3:ev Φ (.call 20 (.cons (.idx (.v 2) (.v 4)) (.cons (.v 1) (.cons (.v 2) (.cons (.v 3) .nil))))) (sM k a b (some (.int j)) t) (sS σ a b s (tr++[j]))=some (.bool r2,sS σ a b s2 tr2):=
      Ai (AD (idx ho) (AD rfl (AD rfl (AD rfl AG)))) hΦ hc
     cases r2 with
     | true=>
      cases (show some (true,s2.set j (some k),tr2)=some (r,s',tr') from e)
      exact⟨⟨_,go (t1:=.ret (.bool true)) (AN (Ao hin rfl (AA app (AN (Ao (EE h2 rfl h3) rfl (put g2)) rfl))) rfl) rfl,_,rfl⟩,g2.put hj hk⟩
     | false=>
      have:=IH s2 tr2 (some (.int j)) r s' tr' hl' g2 e
      exact⟨this.1.imp fun m' q=>⟨go (t1:=.next) (AA (Ao hin rfl (AA app (AA (AS (EE h2 rfl h3) rfl rfl) rfl))) rfl) q.1,q.2⟩,this.2⟩
theorem dN(c:DI σ):DI (sS σ a b s tr):=Gu (Gu c fun k=>ZR k s) fun k=>RN k tr
theorem Lv(hab:a≠b)(ha:a<σ.length)(hb:b<σ.length)(c:DI σ):∀(f k:Nat) (s:AW) (tr:List Nat) (r:Bool) (s':AW) (tr':List Nat),k∈Nm→Gd s tr→MC t f k s tr=some (r,s',tr') →
  Lo f [.int k,tV t,.loc a,.loc b] (sS σ a b s tr)=some (.val (.bool r),sS σ a b s' tr')∧Gd s' tr'
 | 0,k,s,tr,r,s',tr',hk,g,e=>nn e
 | f+1,k,s,tr,r,s',tr',hk,g,e=>by
  obtain⟨⟨m',h1,o,rfl⟩,g'⟩:=Nw (t:=t) (Φ:=tab [(20,Lo f)]) (sp:=Lo f) rfl hk hab ha hb (fun o s tr r s' tr' ho g e=>Lv hab ha hb c f o s tr r s' tr' ho g e) (tk t k) 0 s tr none r s' tr' (fun j hj=>(Fw.mp hj).1) g e
  refine⟨?_,g'⟩
  have h2:Ab (tab [(20,Lo f)]) (.fo [4] (.idx (.v 1) (.v 0)) kU) (sM k a b none t) (sS σ a b s tr)=some (cond r (.ret (.bool true)) .next,sM k a b o t,sS σ a b s' tr'):=
   AE (Ac rfl rfl (RD hk _)) (AC BJ h1)
  refine DV (AK rfl (BO (t:=.ret (.bool r)) (m:=sM k a b o t) (σ:=sS σ a b s' tr') ?_ rfl)) (by unfold sS;simp only[List.length_set]) rfl (dN c)
  cases r with
  | true=>exact AN h2 rfl
  | false=>exact AA h2 (AN rfl rfl)
end
structure PD(p:PV)(d:PyData)(k:Nat):Prop where
 py:JX p=some d
 dp:d.depth≤k
 lay:d.canLay0=true
theorem PD.more{p:PV}{d:PyData}{k k':Nat}(h:PD p d k)(hk:k≤k'):PD p d k':=⟨h.py,Nat.le_trans h.dp hk,h.lay⟩
structure Dz(l:List PV)(d:List PyData)(k:Nat):Prop where
 py:pyOfs l=some d
 dp:PyData.depthAll d≤k
 lay:PyData.canLayAll0 d=true
section
variable{k:Nat}
theorem Dz.nil:Dz [] [] k:=⟨rfl,Nat.zero_le _,rfl⟩
theorem Dz.cons{p:PV}{l:List PV}{d:PyData}{ds:List PyData}(h:PD p d k)(t:Dz l ds k):Dz (p::l) (d::ds) k:=
 ⟨AC h.py (AC t.py rfl),by show max d.depth (PyData.depthAll ds)≤k;exact Nat.max_le.mpr ⟨h.dp,t.dp⟩,Bool.and_eq_true_iff.mpr ⟨h.lay,t.lay⟩⟩
theorem Dz.map{α:Type}{g:α→PV}{d:α→PyData}:∀l:List α,(∀a∈l,PD (g a) (d a) k)→Dz (l.map g) (l.map d) k
 | [],_=>.nil
 | a::l,h=>.cons (h a (.head _)) (Dz.map l fun b hb=>h b (.tail _ hb))
theorem Dz.list{l:List PV}{ds:List PyData}(h:Dz l ds k):PD (.lst l) (.list ds) (k+1):=⟨by show(pyOfs l).map PyData.list=_;rw[h.py];rfl,Nat.succ_le_succ h.dp,h.lay⟩
theorem Dz.tup{l:List PV}{ds:List PyData}(h:Dz l ds k):PD (.tup l) (.tuple ds) (k+1):=⟨by show(pyOfs l).map PyData.tuple=_;rw[h.py];rfl,Nat.succ_le_succ h.dp,h.lay⟩
theorem PD.int(i:Int):PD (.int i) (.int i) 1:=⟨rfl,Nat.zero_le _,rfl⟩
theorem PD.none:PD .none .none 1:=⟨rfl,Nat.zero_le _,rfl⟩
variable{σ:St}{p q:PV}{d e:PyData}
theorem Yv{b:Bool}(hs:s2 p q (fun x y=>some (x.cps.toList==y.cps.toList))=Option.none)(hi:i2 p q (fun a b=>some (a==b))=Option.none)(hb:b2 p q (fun x y=>some (x.toList==y.toList))=Option.none)(h1:PD (DD σ p) d 8)(h2:PD (DD σ q) e 8)(h:PyData.eqv d e=b):kM σ p q=some b:=
 Av hs (Av hi (Av hb (AC h1.py (AC h2.py (AK (Bool.and_eq_true_iff.mpr ⟨decide_eq_true h1.dp,decide_eq_true h2.dp⟩) (congrArg some h))))))
theorem Ze{b:Bool}(hs:s2 p q (fun x y=>some (x.cps.toList==y.cps.toList))=Option.none)(hi:i2 p q (fun a b=>some (a==b))=Option.none)(hb:b2 p q (fun x y=>some (x.toList==y.toList))=Option.none)(h1:PD (DD σ p) d 8)(h2:PD (DD σ q) e 8)(h:PyData.eqv d e=b):Co .NotEq p q σ=some (!b):=by
 show(kM σ p q).map _=_;rw[Yv hs hi hb h1 h2 h];rfl
theorem UE{n:Nat}{l:List PV}(h:σ[n]?=some (.lst l)):DD σ (.loc n)=.lst l:=by
 show(bd (some n) (Bv σ)).elim _ _=_;rw[show bd (some n) (Bv σ)=some l from BS h];rfl
theorem eB{α:Type}{g:α→PV}{d:α→PyData}{n:Nat}{l:List α}(h:σ[n]?=some (.lst (l.map g)))(hg:∀a∈l,PD (g a) (d a) 7):Co .NotEq (.loc n) (.lst []) σ=some (!l.isEmpty):=
 Ze (d:=.list (l.map d)) (e:=.list []) rfl rfl rfl (by rw[UE h];exact(Dz.map l hg).list) Dz.nil.list (by cases l<;>rfl)
theorem bP{α:Type}{g:α→PV}{d:α→PyData}{l:List α}(hg:∀a∈l,PD (g a) (d a) 7):Co .NotEq (.lst (l.map g)) (.lst []) σ=some (!l.isEmpty):=
 Ze (d:=.list (l.map d)) (e:=.list []) rfl rfl rfl (Dz.map l hg).list Dz.nil.list (by cases l<;>rfl)
theorem Yc{l l':List PV}{ds ds':List PyData}(h:Dz l ds 7)(h':Dz l' ds' 7):Co .Eq (.lst l) (.lst l') σ=some (PyData.eqv (.list ds) (.list ds')):=Yv rfl rfl rfl h.list h'.list rfl
theorem Ix{l:List PV}{ds:List PyData}(h:Dz l ds 7):Co .Eq (.lst l) (.lst l) σ=some true:=(Yc h h).trans (congrArg some (PySem.SeqAt.eqv_refl _ h.list.lay))
theorem GG{l:List PV}{ds:List PyData}(h:Dz l ds 7):Co .NotEq (.lst l) (.lst l) σ=some false:=by
 show(Co .Eq (.lst l) (.lst l) σ).map (!·)=_;rw[Ix h];rfl
theorem eq_nil{α:Type}{g:α→PV}{d:α→PyData}{l:List α}(hg:∀a∈l,PD (g a) (d a) 7):Co .Eq (.lst (l.map g)) (.lst []) σ=some l.isEmpty:=(Yc (Dz.map l hg) .nil).trans (by cases l<;>rfl)
theorem RQ{x:List Nat}(h:∀c∈x,c<128):PyData.strOk ⟨x.toArray⟩=true:=by
 show x.toArray.all (fun c=>decide (c<0x110000))=true
 rw[List.all_toArray,List.all_eq_true]
 exact fun c hc=>decide_eq_true (Nat.lt_trans (h c hc) (by decide))
theorem PD.str{x:List Nat}(h:∀c∈x,c<128):PD (pS x) (.str ⟨x.toArray⟩) 1:=⟨AK (RQ h) rfl,Nat.zero_le _,RQ h⟩
theorem Dz.ints{l:List Nat}:Dz (iL l) (l.map fun(j:Nat)=>.int (j:Int)) 1:=Dz.map l fun a _=>PD.int _
end
section
variable{Φ:Nat→Option Spec}{is:List Nat}{it x:X}{b:SL}{m:Fm}{σ σ₁:St}{p:PV}{l:List PV}{n:Option Nat}{R:Option (SR×Fm×St)}
theorem Km(h:ev Φ it m σ=some (p,σ₁))(h2:EM σ₁ p=some (l,n))(h3:Eo n is (evSL Φ b) l 0 m σ₁=R):Ab Φ (.fo is it b) m σ=R:=AE h (AC h2 h3)
theorem Cp{np ns:Nat}{ps:List PV}{t:SR}{o:Oi}{m:Fm}{σ σ₁:St}(h:evSL Φ b (ps.map some++List.replicate (ns-np) none) σ=some (t,m,σ₁))(h1:decide (ps.length=np)=true)(h2:uJ t=some o):Ae Φ np ns b ps σ=some (o,σ₁):=AK h1 (BO h (BD h2))
theorem Mc(h:ED (Gg Φ x) (evSL Φ b) WH m σ=R):Ab Φ (.wh x b) m σ=R:=h
end
theorem CS(σ:St){n:Nat}(h:n<1000):EM σ (.rng 0 (n:Int) 1)=some ((List.range n).map fun(k:Nat)=>.int (k:Int),none):=by
 have h1:Builtin.Range.rangeSize 0 (n:Int) 1=(n:Int):=(PyProof.Rows.rangeSize_nat 0 n).trans (by rw[Int.sub_zero];rfl)
 have h2:Builtin.Range.small 0 (n:Int) 1=true:=small_one (by decide) (by decide) (Int.le_trans (by decide) (Int.natCast_nonneg n)) (Int.lt_trans (Int.ofNat_lt.mpr h) (by decide))
 refine AK (Bool.and_eq_true_iff.mpr ⟨h2,decide_eq_true (by rw[h1];exact Int.ofNat_le.mpr (Nat.le_trans (Nat.le_of_lt h) (by decide)))⟩) ?_
 unfold GA
 rw[h1]
 refine congrArg (fun l=>some (l,none)) (List.map_congr_left fun k _=>?_)
 show PV.int (0+(k:Int)*1)=_
 rw[Int.zero_add,Int.mul_one]
abbrev FS:List (Fin 5):=[0,1,2,3,4]
section
variable(w:Nat→Nat)
noncomputable def fK(k:Fin 5):PV:=.tup [.int (-(w k:Int)),.int (k.val:Int)]
noncomputable def kK(k:Fin 5):Nat:=(7-w k)*5+k.val
noncomputable def wV:PV:=.lst (Nm.map fun(k:Nat)=>.int (w k:Int))
variable{w}
theorem yB(hw:∀k,w k≤7)(a b:Fin 5):kO (fK w a) (fK w b)=some (decide (kK w a<kK w b)):=by
 have ha:=hw a
 have hb:=hw b
 have e:bd (mZ (.int (-(w a:Int))) (.int (-(w b:Int)))) (fun t=>cond t (bd (mZ (.int (a.val:Int)) (.int (b.val:Int))) fun t=>cond t (some false) (kQ (.int (a.val:Int)) (.int (b.val:Int)))) (kQ (.int (-(w a:Int))) (.int (-(w b:Int)))))=some (decide (kK w a<kK w b)):=by
  by_cases h:w a=w b
  ·refine AC (a:=true) (congrArg some (by rw[h];exact beq_self_eq_true _)) ?_
   by_cases q:a.val=b.val
   ·refine AC (a:=true) (congrArg some (by rw[q];exact beq_self_eq_true _)) ?_
    show some false=_
    rw[decide_eq_false];unfold kK;rw[h,q];lia
   ·refine AC (a:=false) (congrArg some (beq_false_of_ne fun z=>q (Int.ofNat_inj.mp z))) ?_
    show some (decide ((a.val:Int)<(b.val:Int)))=_
    unfold kK;rw[h]
    exact congrArg some (decide_eq_decide.mpr (by lia))
  ·refine AC (a:=false) (congrArg some (beq_false_of_ne fun z=>h (by lia))) ?_
   show some (decide (-(w a:Int) < -(w b:Int)))=_
   unfold kK
   exact congrArg some (decide_eq_decide.mpr (by lia))
 exact DP (AC rfl (AC rfl (AC rfl (AC rfl e))))
theorem sW(a:Fin 5):QK (fK w a) 5:=(NT (Cs ((GD _).more (K':=2) (by decide)) (Cs (GD _) Cv))).more (by decide)
variable(w) in
def HW(hw:∀k,w k≤7):HQ (Fin 5):=⟨fK w,kK w,yB hw,fun _ _=>rfl,fun a n σ=>sW a n σ 100000 (by decide)⟩
theorem TF(hw:∀k,w k≤7){a b:Fin 5}(h:kK w a=kK w b):a=b:=by
 have:=hw a;have:=hw b
 unfold kK at h
 exact Fin.ext (by lia)
variable(w) in
def Ap:List (Fin 5):=aV (fun a b=>decide (kK w a≤kK w b)) FS
theorem K8(hw:∀k,w k≤7):nI (fun a b:Fin 5=>decide (kK w a≤kK w b)):=
 ⟨fun a b c h h'=>decide_eq_true (Nat.le_trans (of_decide_eq_true h) (of_decide_eq_true h')),fun a b h h'=>TF hw (Nat.le_antisymm (of_decide_eq_true h) (of_decide_eq_true h')),fun a b h=>decide_eq_true (by have:=of_decide_eq_false h;lia)⟩
theorem BU:(Ap w).Perm FS:=FU FS
theorem Jl(hw:∀k,w k≤7):(Ap w).Pairwise fun a b=>kK w a<kK w b:=by
 have h1:=Df (K8 hw) FS
 have h2:(Ap w).Nodup:=BU.nodup_iff.mpr (by decide)
 exact(List.pairwise_and_iff.mpr ⟨h1,h2⟩).imp fun⟨h,n⟩=>Nat.lt_of_le_of_ne (of_decide_eq_true h) fun q=>n (TF hw q)
noncomputable def Ct(l:List (Fin 5)):List Nat:=l.map Fin.val
theorem BQ:(Ct (Ap w)).Perm Nm:=BU.map Fin.val
variable{t:Nat→Nat→Bool}{S:PO}
noncomputable def VG:X:=.cmp .NotEq (.v 2) (.list .nil)
noncomputable def W0:X:=.call 20 (.cons (.v 6) (.cons (.v 1) (.cons (.v 4) (.cons (.mlist .nil) .nil))))
def zC:SL:=.cons (.as 6 (.idx (.call 5 (.cons (.v 2) .nil)) (.int 1))) (.cons (.iff W0 (.cons (.ex (.me .append (.v 5) (.cons (.v 6) .nil))) .nil) .nil) .nil)
noncomputable def D7:SL:=.cons (.ex (.call 4 (.cons (.v 2) (.cons (.tup (.cons (.neg (.idx (.v 0) (.v 3))) (.cons (.v 3) .nil))) .nil)))) .nil
theorem Ws:Tj=.cons (.as 2 (.mlist .nil)) (.cons (.fo [3] (.bi .range (.cons (.bi .len (.cons (.v 0) .nil)) .nil)) D7) (.cons (.as 4 (.mrep .none 4)) (.cons (.as 5 (.mlist .nil)) (.cons (.wh VG zC) (.cons (.ret (.v 5)) .nil))))):=rfl
def Tu(w:Nat→Nat)(t:Nat→Nat→Bool)(o3 o6:Option PV):Fm:=[some (wV w),some (tV t),some (.loc 1),o3,some (.loc 2),some (.loc 3),o6]
def IF(S:PO)(w:Nat→Nat)(L:List (Fin 5))(s:AW)(C:List Nat)(J:St):St:=S::.lst (L.map (fK w))::sV s::rV C::J
theorem Bl{σ:St}{o:PO}(h:∀n,Ex n o=true)(c:DI σ):DI (o::σ):=fun n=>Bool.and_eq_true_iff.mpr ⟨h n,c n⟩
theorem Bo:DI []:=fun _=>rfl
theorem Qq{σ τ:St}(c:DI σ)(d:DI τ):DI (σ++τ):=fun n=>by rw[List.all_append,c n,d n];rfl
theorem YO(L:List (Fin 5))(n:Nat):Ex n (.lst (L.map (fK w)))=true:=Bool.and_eq_true_iff.mpr ⟨Dl (f:=fK w) (fun _ _=>rfl) n L,rfl⟩
theorem RX(hS:∀n,Ex n S=true){L:List (Fin 5)}{s:AW}{C:List Nat}{J:St}(c:DI J):DI (IF S w L s C J):=Bl hS (Bl (YO L) (Bl (fun n=>ZR n s) (Bl (fun n=>RN n C) c)))
theorem kR.gd{m:Nat}{s:AW}(h:kR t m s):Gd s []:=⟨h.ok.len,fun j o e=>(h.ok.edge j o e).1,.nil,fun _ q=>nomatch q⟩
inductive A3(S:PO)(w:Nat→Nat)(hw:∀k,w k≤7)(t:Nat→Nat→Bool)(G:List Nat)(o3:Option PV):Nat→Fm→St→Prop
 | mk {r L:List (Fin 5)} {m:Nat} {s:AW} {C:List Nat} {J:St} {o6:Option PV} (hL:L.Perm r) (hp:(HW w hw).Hp L) (up:r.Pairwise fun a b=>kK w a<kK w b) (si:kR t m s) (fr:∀k∈r,bt m k.val=false)
   (e:C++CU t (Ct r) m=G) (cJ:DI J) (hl:C.length+r.length≤5):A3 S w hw t G o3 r.length (Tu w t o3 o6) (IF S w L s C J)
theorem vR(a:Fin 5):PD (fK w a) (.tuple [.int (-(w a:Int)),.int (a.val:Int)]) 2:=Dz.tup (.cons (.int _) (.cons (.int _) .nil))
set_option tactic.hygienic true in
theorem Ln(hS:∀n,Ex n S=true)(hw:∀k,w k≤7){G:List Nat}{o3:Option PV}{k:Nat}{m:Fm}{σ:St}(hk:k<WH)(I:A3 S w hw t G o3 k m σ) :
  ∃m' σ',ED (Gg (tab FD) VG) (evSL (tab FD) zC) WH m σ=some (.next,m',σ')∧∃s J o6,m'=Tu w t o3 o6∧σ'=IF S w [] s G J:=by
 refine GL (I:=A3 S w hw t G o3) (fun k m σ I=>?_) WH k m σ hk I
 cases I with
 | @mk r L m s C J o6 hL hp up si fr e cJ hl=>
 have hLl:=hL.length_eq
 have hne:Gg (tab FD) VG (Tu w t o3 o6) (IF S w L s C J)=some (!L.isEmpty,IF S w L s C J):=AE (AI rfl rfl (eB (n:=1) rfl fun a _=>(vR a).more (by decide))) rfl
 cases r with
 | nil=>
  cases hL.eq_nil
  have e:C=G:=by rw[←e];exact(List.append_nil C).symm
  subst e
  exact .stop hne ⟨s,J,o6,rfl,rfl⟩
 | cons k r=>
  rw[List.length_cons]at hLl hl
  have hLn:L≠[]:=fun q=>by rw[q]at hLl;cases hLl
  obtain⟨x,L',h1,h2,h3,h4⟩:=Ug (H:=HW w hw) (σ:=IF S w L s C J) (n:=1) (L:=L) rfl (by lia) hp hLn (RX hS cJ)
  rw[List.pairwise_cons]at up
  have hx:x=k:=by
   have hxm:x∈k::r:=(h2.trans hL).subset (.head _)
   rcases List.mem_cons.mp hxm with q|q
   ·exact q
   ·have a1:kK w k<kK w x:=up.1 x q
    have a2:kK w x≤kK w k:=h4 k (hL.mem_iff.mpr (.head _))
    lia
  subst hx
  have hL':L'.Perm r:=(h2.trans hL).cons_inv
  have hne':Gg (tab FD) VG (Tu w t o3 o6) (IF S w L s C J)=some (true,IF S w L s C J):=by
   rw[hne];cases L with
   | nil=>exact absurd rfl hLn
   | cons _ _=>rfl
  have e1:Ab (tab FD) (.as 6 (.idx (.call 5 (.cons (.v 2) .nil)) (.int 1))) (Tu w t o3 o6) (IF S w L s C J)=some (.next,Tu w t o3 (some (.int x.val)),IF S w L' s C J):=
   Am (Ac (p:=fK w x) (r:=.int x.val) (Ai (AD rfl AG) rfl h1) rfl rfl)
  have hxN:x.val∈Nm:=List.mem_range.mpr x.isLt
  have hfx:=fr x (.head _)
  obtain⟨q1,q2⟩:=He m (List.mem_range.mpr si.lt) x.val hxN hfx
  have hσ0:sS (IF S w L' s C J++[.lst []]) 2 (J.length+4) s []=IF S w L' s C J++[.lst []]:=by
   show S::.lst (L'.map (fK w))::sV s::rV C::(J++[PO.lst []]).set J.length (rV [])=S::.lst (L'.map (fK w))::sV s::rV C::(J++[PO.lst []])
   rw[FT];rw[List.getElem?_append_right (Nat.le_refl _),Nat.sub_self];rfl
  have hσ1:∀s' tr,sS (IF S w L' s C J++[.lst []]) 2 (J.length+4) s' tr=IF S w L' s' C (J++[rV tr]):=fun s' tr=>by
   show S::.lst (L'.map (fK w))::sV s'::rV C::(J++[PO.lst []]).set J.length (rV tr)=_
   rw[List.set_append_right _ _ (Nat.le_refl _),Nat.sub_self];rfl
  have call:∀{r s' tr},MC t 6 x.val s []=some (r,s',tr)→ev (tab FD) W0 (Tu w t o3 (some (.int x.val))) (IF S w L' s C J)=some (.bool r,IF S w L' s' C (J++[rV tr])):=fun {r s' tr} e=>by
   have:=(Lv (t:=t) (σ:=IF S w L' s C J++[.lst []]) (a:=2) (b:=J.length+4) (by lia) (by show 2<_;simp[IF]) (by simp[IF]) (Qq (RX hS cJ) (Bl (fun _=>rfl) Bo)) 6 x.val s [] r s' tr hxN si.gd e).1
   rw[hσ0,hσ1]at this
   exact Ai (AD rfl (AD rfl (AD rfl (AD rfl AG)))) rfl this
  have hup:∀y∈r,y.val∈Nm∧y.val≠x.val:=fun y hy=>⟨List.mem_range.mpr y.isLt,fun q=>by have:=up.1 y hy;rw[Fin.ext q]at this;exact absurd this (Nat.lt_irrefl _)⟩
  have cJ':∀tr,DI (J++[rV tr]):=fun tr=>Qq cJ (Bl (fun n=>RN n tr) Bo)
  cases Sf si hxN hfx with
  | yes e2 g si' ht=>
   rename_i s' tr
   have e3:Ab (tab FD) (.ex (.me .append (.v 5) (.cons (.v 6) .nil))) (Tu w t o3 (some (.int x.val))) (IF S w L' s' C (J++[rV tr]))=some (.next,Tu w t o3 (some (.int x.val)),IF S w L' s' (C++[x.val]) (J++[rV tr])):=
    Ea (DW rfl (DG (n:=3) (l:=iL C) rfl) (AD rfl AG) ((Br (n:=3) (l:=iL C) rfl (by rw[EO];lia)).trans (by
     show some (PV.none,S::.lst (L'.map (fK w))::sV s'::.lst (iL C++[PV.int (x.val:Int)])::(J++[rV tr]))=_
     rw[show iL C++[PV.int (x.val:Int)]=iL (C++[x.val]) by unfold iL;rw[List.map_append];rfl];rfl)))
   exact .go (k':=r.length) hne' (AA e1 (AA (Ao (call e2) rfl (AA e3 rfl)) rfl)) (.inl rfl) (Nat.lt_succ_self _) (.mk hL' h3 up.2 si' (fun y hy=>by rw[q2 _ (hup y hy).1,fr y (.tail _ hy),beq_false_of_ne (hup y hy).2];rfl)
    (by rw[←e,List.append_assoc];show C++(x.val::CU t (Ct r) (m+2^x.val))=C++cond (Hn t (m+2^x.val)) _ _;rw[g];rfl) (cJ' tr) (by rw[List.length_append];show C.length+1+r.length≤5;lia))
  | no e2 g ht=>
   rename_i tr
   exact .go (k':=r.length) hne' (AA e1 (AA (AS (call e2) rfl rfl) rfl)) (.inl rfl) (Nat.lt_succ_self _) (.mk hL' h3 up.2 si (fun y hy=>fr y (.tail _ hy))
    (by rw[←e];show C++CU t (Ct r) m=C++cond (Hn t (m+2^x.val)) _ _;rw[g];rfl) (cJ' tr) (by lia))
theorem NL(σ:St)(k:Fin 5):CC σ (wV w) (.int k.val)=some (.int (w k:Int)):=
 EP (by rw[List.length_map,List.length_range];decide) (by rw[List.getElem?_map,List.getElem?_range k.isLt];rfl)
theorem SH(σ:St):LI σ (wV w)=some (.int (5:Nat)):=rfl
inductive Z8(S:PO)(w:Nat→Nat)(hw:∀k,w k≤7)(t:Nat→Nat→Bool):List (Fin 5)→Fm→St→Prop
 | mk {r L:List (Fin 5)} {o3:Option PV} (hL:(L++r).Perm FS) (hp:(HW w hw).Hp L):Z8 S w hw t r [some (wV w),some (tV t),some (.loc 1),o3,none,none,none] [S,.lst (L.map (fK w))]
theorem NB(hS:∀n,Ex n S=true)(hw:∀k,w k≤7):Vz [wV w,tV t] [S]=some (.val (.lst (iL (CU t (Ct (Ap w)) 0))),[S]):=by
 obtain⟨m1,σ1,h1,I⟩:=Ir (g:=fun(k:Fin 5)=>PV.int k.val) (is:=[3]) (b:=evSL (tab FD) D7) (n:=none) (full:=FS) (I:=Z8 S w hw t) (fun r m σ _ j hj=>nn hj) (fun k r m σ I=>by
  cases I with
  | @mk L o3 hL hp=>
  have hl:=hL.length_eq
  rw[List.length_append]at hl
  obtain⟨L',e1,e2,e3⟩:=TD (H:=HW w hw) (x:=k) (σ:=[S,.lst (L.map (fK w))]) (n:=1) (L:=L) rfl (by have:FS.length=5:=rfl;lia) hp (Bl hS (Bl (YO L) Bo))
  refine⟨[some (wV w),some (tV t),some (.loc 1),some (.int k.val),none,none,none],[some (wV w),some (tV t),some (.loc 1),some (.int k.val),none,none,none],[S,.lst (L'.map (fK w))],rfl,?_,.mk ?_ e3⟩
  ·exact AA (Ea (Ai (AD rfl (AD (AE (AD (AE (Ac rfl rfl (NL _ k)) rfl) (AD rfl AG)) rfl) AG)) rfl e1)) rfl
  ·exact(e2.append_right r).trans (by rw[List.append_assoc];exact hL)) FS 0 [some (wV w),some (tV t),some (.loc 1),none,none,none,none] [S,.lst []] rfl rfl (.mk (L:=[]) (.refl _) (fun i _ h=>absurd h (Nat.not_lt_zero _)))
 cases I with
 | @mk L o3 hL hp=>
 rw[List.append_nil]at hL
 have it5:ev (tab FD) (.bi .range (.cons (.bi .len (.cons (.v 0) .nil)) .nil)) [some (wV w),some (tV t),some (.loc 1),none,none,none,none] [S,.lst []]=some (PV.rng 0 ((5:Nat):Int) 1,[S,.lst []]):=
  CT (ps:=[PV.int ((5:Nat):Int)]) (AD (CT (ps:=[wV w]) (r:=PV.int ((5:Nat):Int)) (AD rfl AG) (AC (a:=wV w) rfl (SH _))) AG) (DP (AC (a:=PV.int ((5:Nat):Int)) rfl rfl))
 have r5:EM [S,.lst []] (PV.rng 0 ((5:Nat):Int) 1)=some (FS.map fun(k:Fin 5)=>PV.int k.val,none):=CS _ (by decide)
 have b2:Ab (tab FD) (.fo [3] (.bi .range (.cons (.bi .len (.cons (.v 0) .nil)) .nil)) D7) [some (wV w),some (tV t),some (.loc 1),none,none,none,none] [S,.lst []]=some (.next,[some (wV w),some (tV t),some (.loc 1),o3,none,none,none],[S,.lst (L.map (fK w))]):=
  Km it5 r5 h1
 have hr:(L.Perm (Ap w)):=hL.trans BU.symm
 obtain⟨m',σ',h2,s,J,o6,hm,hσ⟩:=Ln (t:=t) (G:=CU t (Ct (Ap w)) 0) (o3:=o3) (k:=(Ap w).length) hS hw (by rw[BU.length_eq];decide) (A3.mk (S:=S) (L:=L) (s:=[none,none,none,none]) (C:=[]) (J:=[]) (o6:=none) hr hp (Jl hw) mK (fun k _=>FF k.val (List.mem_range.mpr k.isLt)) rfl Bo (by rw[BU.length_eq];decide))
 subst hm hσ
 have h9:evSL (tab FD) Tj [some (wV w),some (tV t),none,none,none,none,none] [S]=some (.ret (.loc 3),Tu w t o3 o6,IF S w [] s (CU t (Ct (Ap w)) 0) J):=by
  rw[Ws]
  exact AA rfl (AA b2 (AA rfl (AA rfl (AA (Mc h2) (AN rfl rfl)))))
 have h8:Ae (tab FD) 2 7 Tj [wV w,tV t] [S]=some (.val (.loc 3),[S]++(IF S w [] s (CU t (Ct (Ap w)) 0) J).tail):=Cp h9 rfl rfl
 refine Bf h8 rfl (Fl (K:=(CU t (Ct (Ap w)) 0).length+2) (l:=iL (CU t (Ct (Ap w)) 0)) (show 1≤3 by decide) rfl ((Cf fun a _=>GD _).more (by lia)) ?_) (Bl hS Bo)
 ·have:=(Cz (t:=t) (r:=Ct (Ap w)) (m:=0)).length_le
  rw[BQ.length_eq,List.length_range]at this
  lia
end
noncomputable def bO:X:=.cmp .Eq (.bin .Mod (.bin .FloorDiv (.v 2) (.bin .Pow (.int 2) (.v 5))) (.int 2)) (.int 1)
noncomputable def gk:List (Nat×Nat):=(List.range 32).flatMap fun g=>Nm.map fun k=>(g,k)
theorem TM{g k:Nat}(hg:g<32)(hk:k∈Nm):(g,k)∈gk:=List.mem_flatMap.mpr ⟨g,List.mem_range.mpr hg,List.mem_map.mpr ⟨k,hk,rfl⟩⟩
theorem fY{g k:Nat}(hg:g<32)(hk:k∈Nm)(Φ:Nat→Option Spec)(p0 p1 o3 o4:Option PV)(σ:St):ev Φ bO [p0,p1,some (.int g),o3,o4,some (.int k)] σ=some (.bool (bt g k),σ):=
 List.map_inj_left.mp (show gk.map (fun x=>ev Φ bO [p0,p1,some (.int (x.1:Nat)),o3,o4,some (.int (x.2:Nat))] σ)=gk.map (fun x=>some (.bool (bt x.1 x.2),σ)) by kernel_rfl) (g,k) (TM hg hk)
noncomputable def gP:X:=.bin .Sub (.v 2) (.bin .Pow (.int 2) (.v 5))
theorem fR{g k:Nat}(hg:g<32)(hk:k∈Nm)(Φ:Nat→Option Spec)(p0 p1 o3 o4:Option PV)(σ:St):ev Φ gP [p0,p1,some (.int g),o3,o4,some (.int k)] σ=some (.int ((g:Int)-((2^k:Nat):Int)),σ):=
 List.map_inj_left.mp (show Nm.map (fun x=>ev Φ gP [p0,p1,some (.int g),o3,o4,some (.int (x:Nat))] σ)=Nm.map (fun x=>some (.int ((g:Int)-((2^x:Nat):Int)),σ)) from rfl) k hk
section
variable{t:Nat→Nat→Bool}{S:PO}
noncomputable def bL(l:List Bool):PO:=.lst (l.map PV.bool)
theorem U3(n:Nat)(l:List Bool):Ex n (bL l)=true:=Bool.and_eq_true_iff.mpr ⟨Dl (f:=PV.bool) (fun _ _=>rfl) n l,rfl⟩
def Tw(t:Nat→Nat→Bool)(o2 o3 o4:Option PV):Fm:=[some (tV t),some (.loc 1),o2,o3,o4]
def Sn(S:PO)(l:List Bool):St:=[S,bL l]
def T6:X:=.comp 1 (.v 5) (.bi .range (.cons (.bi .len (.cons (.v 0) .nil)) .nil)) (.cons bO .nil)
noncomputable def H6:X:=.comp 1 (.v 6) (.v 3) (.cons (.cmp .In (.v 5) (.idx (.v 0) (.v 6))) .nil)
def S8:X:=.comp 1 (.v 5) (.bi .range (.cons (.int 4) .nil)) (.cons (.cmp .NotEq H6 (.list .nil)) .nil)
def uF:X:=.comp 1 (.v 5) (.v 3) (.cons (.no (.idx (.v 1) gP)) .nil)
def Y6:X:=.bo .And (.cons (.cmp .GtE (.bi .len (.cons (.v 4) .nil)) (.bi .len (.cons (.v 3) .nil))) (.cons (.cmp .Eq uF (.list .nil)) .nil))
def X0:SL:=.cons (.as 3 T6) (.cons (.as 4 S8) (.cons (.ex (.me .append (.v 1) (.cons Y6 .nil))) .nil))
theorem Us:TA=.cons (.as 1 (.mlist .nil)) (.cons (.fo [2] (.bi .range (.cons (.bin .Pow (.int 2) (.bi .len (.cons (.v 0) .nil))) .nil)) X0) (.cons (.ret (.v 1)) .nil)):=rfl
variable{Φ:Nat→Option Spec}{g:Nat}{o2 o3 o4:Option PV}{σ:St}
theorem bB(σ:St):LI σ (tV t)=some (.int ((5:Nat):Int)):=rfl
theorem uH{m:Fm}(h:ev Φ (.v 0) m σ=some (tV t,σ)):ev Φ (.bi .len (.cons (.v 0) .nil)) m σ=some (.int ((5:Nat):Int),σ):=
 CT (ps:=[tV t]) (r:=.int ((5:Nat):Int)) (AD h AG) (AC (a:=tV t) rfl (bB _))
theorem Cj{m:Fm}{x:X}{n:Nat}(h:ev Φ x m σ=some (.int (n:Int),σ)):ev Φ (.bi .range (.cons x .nil)) m σ=some (.rng 0 (n:Int) 1,σ):=
 CT (ps:=[PV.int (n:Int)]) (AD h AG) (DP (AC (a:=PV.int (n:Int)) rfl rfl))
theorem dH(hg:g<32):ev Φ T6 (Tw t (some (.int g)) o3 o4) σ=some (.lst (iL (Bq g)),σ):=
 Ak (g:=fun(k:Nat)=>.int (k:Int)) (val:=fun(k:Nat)=>.int (k:Int)) (full:=Nm) (n:=none) (keep:=bt g) (Cj (uH rfl)) (CS _ (by decide)) (fun j h=>nn h) (by decide)
  fun k hk=>⟨[some (.int k)],rfl,Ha (fY hg hk _ _ _ _ _ _),fun _=>rfl⟩
theorem qK{k j:Nat}(hj:j∈Pt):decide (j∈tk t k)=t k j:=by
 cases h:t k j
 ·exact decide_eq_false fun q=>by rw[(Fw.mp q).2]at h;cases h
 ·exact decide_eq_true (Fw.mpr ⟨hj,h⟩)
theorem Nt{k:Nat}:k∈Bq g↔k∈Nm∧bt g k=true:=List.mem_filter
theorem Ey:(Bq g).length≤5:=Nat.le_trans (List.length_filter_le _ _) (by rw[List.length_range];exact Nat.le_refl _)
theorem Em{l:List Nat}{p:Nat→Bool}:(l.filter p).isEmpty=!l.any p:=by
 cases h:l.any p
 ·rw[List.isEmpty_iff.mpr (List.filter_eq_nil_iff.mpr fun x hx=>List.any_eq_false.mp h x hx)];rfl
 ·obtain⟨x,hx,e⟩:=List.any_eq_true.mp h
  have:x∈l.filter p:=List.mem_filter.mpr ⟨hx,e⟩
  cases hl:l.filter p with
  | nil=>rw[hl]at this;cases this
  | cons _ _=>rfl
theorem JQ{l:List Nat}:Co .NotEq (.lst (iL l)) (.lst []) σ=some (!l.isEmpty):=bP (d:=fun(j:Nat)=>.int (j:Int)) fun a _=>(PD.int _).more (by decide)
theorem Og{l:List Nat}:Co .Eq (.lst (iL l)) (.lst []) σ=some l.isEmpty:=eq_nil (d:=fun(j:Nat)=>.int (j:Int)) fun a _=>(PD.int _).more (by decide)
theorem jO:ev Φ S8 (Tw t o2 (some (.lst (iL (Bq g)))) o4) σ=some (.lst (iL (Sy t g)),σ):=
 Ak (g:=fun(k:Nat)=>.int (k:Int)) (val:=fun(k:Nat)=>.int (k:Int)) (full:=Pt) (n:=none) (keep:=rc t (bt g)) (Cj (n:=4) rfl) (CS _ (by decide)) (fun j h=>nn h) (by decide)
  fun j hj=>⟨[some (.int j)],rfl,Ha (AI (Ak (g:=fun(k:Nat)=>.int (k:Int)) (val:=fun(k:Nat)=>.int (k:Int)) (full:=Bq g) (n:=none) (keep:=fun k=>t k j) rfl BJ (fun j h=>nn h) (Nat.le_trans Ey (by decide))
   fun k hk=>⟨[some (.int k)],rfl,Ha (AI rfl (Ac rfl rfl (RD (Nt.mp hk).1 _)) (Rr.trans (congrArg some (qK hj)))),fun _=>rfl⟩) rfl (JQ.trans (congrArg some (by
    rw[Em,Bool.not_not]
    unfold rc Bq
    rw[List.any_filter])))),fun _=>rfl⟩
theorem JD{l:List PV}{m:Fm}{i:Nat}(h:ev Φ (.v i) m σ=some (.lst l,σ))(hl:l.length≤1000):ev Φ (.bi .len (.cons (.v i) .nil)) m σ=some (.int l.length,σ):=
 CT (ps:=[.lst l]) (AD h AG) (AC (a:=.lst l) rfl (Av rfl (Av rfl (AC (a:=l) rfl (AK (Ag hl) rfl)))))
theorem Wl:(Sy t g).length≤4:=Nat.le_trans (List.length_filter_le _ _) (by rw[List.length_range];exact Nat.le_refl _)
theorem eN(hg:g<32):ev Φ Y6 (Tw t (some (.int g)) (some (.lst (iL (Bq g)))) (some (.lst (iL (Sy t g))))) (Sn S (gL t g))=some (.bool (IP t (gL t g) g),Sn S (gL t g)):=by
 have a1:ev Φ (.cmp .GtE (.bi .len (.cons (.v 4) .nil)) (.bi .len (.cons (.v 3) .nil))) (Tw t (some (.int g)) (some (.lst (iL (Bq g)))) (some (.lst (iL (Sy t g))))) (Sn S (gL t g))=some (.bool (decide ((Bq g).length≤(Sy t g).length)),Sn S (gL t g)):=
  (AI (JD (i:=4) rfl (by rw[EO];exact Nat.le_trans Wl (by decide))) (JD (i:=3) rfl (by rw[EO];exact Nat.le_trans Ey (by decide))) rfl).trans (by
   rw[EO,EO]
   exact congrArg (fun b=>some (PV.bool b,Sn S (gL t g))) (decide_eq_decide.mpr (Int.ofNat_le)))
 have a2:ev Φ (.cmp .Eq uF (.list .nil)) (Tw t (some (.int g)) (some (.lst (iL (Bq g)))) (some (.lst (iL (Sy t g))))) (Sn S (gL t g))=some (.bool ((Bq g).all fun k=>(gL t g).getD (g-2^k) false),Sn S (gL t g)):=by
  refine AI (Ak (g:=fun(k:Nat)=>.int (k:Int)) (val:=fun(k:Nat)=>.int (k:Int)) (full:=Bq g) (n:=none) (keep:=fun k=>!(gL t g).getD (g-2^k) false) rfl BJ (fun j h=>nn h) (Nat.le_trans Ey (by decide)) fun k hk=>⟨[some (.int k)],rfl,Ha ?_,fun _=>rfl⟩) rfl (Og.trans (congrArg some ?_))
  ·obtain⟨q1,q2⟩:=Nt.mp hk
   have hlt:=(NQ g (List.mem_range.mpr hg) k q1 q2).1
   have h2k:2^k≤g:=Nat.not_lt.mp fun h=>by unfold bt at q2;rw[Nat.div_eq_of_lt h]at q2;cases q2
   refine VS (p:=.bool ((gL t g).getD (g-2^k) false)) (Ac rfl (fR hg q1 _ _ _ _ _ _) ?_) rfl
   rw[show((g:Int)-((2^k:Nat):Int))=((g-2^k:Nat):Int) by omega]
   refine Bh rfl (by rw[List.length_map,CG];lia) ?_
   rw[List.getElem?_map,List.getD_eq_getElem?_getD,List.getElem?_eq_getElem (by rw[CG];exact hlt)];rfl
  ·rw[Em,List.not_any_eq_all_not]
   exact congrArg (List.all (Bq g)) (funext fun k=>Bool.not_not _)
 unfold IP
 cases hd:decide ((Bq g).length≤(Sy t g).length) with
 | false=>rw[hd]at a1;exact FZ a1 rfl
 | true=>rw[hd]at a1;exact(CO a1 rfl a2).trans (by rw[Bool.true_and])
inductive T3(S:PO)(t:Nat→Nat→Bool):List Nat→Fm→St→Prop
 | mk {g:Nat} {r:List Nat} {o2 o3 o4:Option PV} (hr:(List.range 32).drop g=r) (hg:g≤32):T3 S t r (Tw t o2 o3 o4) (Sn S (gL t g))
theorem SQ(hS:∀n,Ex n S=true):UW [tV t] [S]=some (.val (.lst ((gL t 32).map PV.bool)),[S]):=by
 obtain⟨m1,σ1,h1,I⟩:=Ir (g:=fun(k:Nat)=>PV.int (k:Int)) (is:=[2]) (b:=evSL (tab SN) X0) (n:=none) (full:=List.range 32) (I:=T3 S t) (fun r m σ _ j hj=>nn hj) (fun a r m σ I=>by
  cases I with
  | @mk g _ o2 o3 o4 hr hg'=>
  have hg:g<32:=by
   apply Nat.not_le.mp
   intro h
   rw[List.drop_of_length_le (by rw[List.length_range];exact h)]at hr;cases hr
  have ha:a=g:=by
   have:=congrArg List.head? hr
   rw[List.head?_drop,List.getElem?_range hg]at this
   exact(Option.some.inj this).symm
  subst ha
  refine⟨Tw t (some (.int a)) o3 o4,Tw t (some (.int a)) (some (.lst (iL (Bq a)))) (some (.lst (iL (Sy t a)))),Sn S (gL t (a+1)),rfl,AA (Am (dH hg)) (AA (Am (jO)) (AA (Ea (p:=.none) (DW rfl (DG (n:=1) rfl) (AD (eN hg) AG) ((Br (n:=1) rfl (by rw[List.length_map,CG];lia)).trans ?_))) rfl)),.mk ?_ ?_⟩
  ·show some (PV.none,[S,.lst ((gL t a).map PV.bool++[PV.bool (IP t (gL t a) a)])])=_
   rw[show(gL t a).map PV.bool++[PV.bool (IP t (gL t a) a)]=(gL t (a+1)).map PV.bool by show _=(gL t a++[IP t (gL t a) a]).map PV.bool;rw[List.map_append];rfl];rfl
  ·rw[←List.drop_drop,hr];rfl
  ·exact hg) (List.range 32) 0 (Tw t none none none) (Sn S (gL t 0)) rfl rfl (.mk rfl (by decide))
 cases I with
 | @mk g _ o2 o3 o4 hr hg'=>
 have hg:32≤g:=by
  have:=congrArg List.length hr
  rw[List.length_drop,List.length_range]at this
  have:32-g=0:=this
  lia
 have h32:g=32:=by lia
 subst h32
 have h9:evSL (tab SN) TA [some (tV t),none,none,none,none] [S]=some (.ret (.loc 1),Tw t o2 o3 o4,Sn S (gL t 32)):=by
  rw[Us]
  exact AA rfl (AA (Km (Cj (n:=32) (Az (p:=.int 2) (q:=.int ((5:Nat):Int)) rfl (uH rfl) rfl)) (CS _ (by decide)) h1) (AN rfl rfl))
 have h8:Ae (tab SN) 1 5 TA [tV t] [S]=some (.val (.loc 1),[S]++[bL (gL t 32)]):=Cp h9 rfl rfl
 exact Bf h8 rfl (Fl (K:=(gL t 32).length+2) (l:=(gL t 32).map PV.bool) (show 1≤1 by decide) rfl ((Cf fun a _=>(fun n σ=>DM fun k _=>rfl:QK (.bool a) 1)).more (by lia)) (by rw[CG];decide)) (Bl hS Bo)
end
end Sh
namespace Sh
open PySem PySem.Calls PyProof.Rows PySem.W
theorem rX{Φ:Nat→Option Spec}{x:X}{m:Fm}{σ σ₁:St}{i:Int}(h:ev Φ x m σ=some (.int i,σ₁)):ev Φ (.neg x) m σ=some (.int (-i),σ₁):=AE h rfl
theorem HH{α:Type}{n:Nat}{lt lt':Nat→Nat→Bool}(h:∀i,i<n→∀j,j<n→lt i j=lt' i j):∀d:KasT α,FJ n lt d=FJ n lt' d
 | .ret a=>rfl
 | .ask i j k=>by
  show gd (decide (i<n)&&decide (j<n)) (FJ n lt (k (lt i j)))=gd (decide (i<n)&&decide (j<n)) (FJ n lt' (k (lt' i j)))
  cases hd:decide (i<n)&&decide (j<n) with
  | false=>rfl
  | true=>
   rw[Bool.and_eq_true]at hd
   rw[h i (of_decide_eq_true hd.1) j (of_decide_eq_true hd.2)]
   exact HH h (k (lt' i j))
noncomputable def E5(o:List Nat)(i j:Nat):Bool:=decide (o.idxOf i<o.idxOf j)
theorem QS:∀a b c d e:Fin 5,[a,b,c,d,e].Nodup→((FJ 5 (E5 (Ct [a,b,c,d,e])) (kas_sort 5)).map Array.toList==some (Ct [a,b,c,d,e]))=true:=by decide +kernel
theorem TY{f:Nat→Nat}:∀{l:List Nat} {x y:Nat},l.Pairwise (fun a b=>f a<f b)→x∈l→y∈l→(l.idxOf x<l.idxOf y↔f x<f y)
 | a::l,x,y,hp,hx,hy=>by
  rw[List.pairwise_cons]at hp
  rw[List.idxOf_cons,List.idxOf_cons]
  by_cases e1:a=x
  ·rw[show(a==x)=true from beq_iff_eq.mpr e1]
   by_cases e2:a=y
   ·rw[show(a==y)=true from beq_iff_eq.mpr e2,←e1,←e2];simp
   ·rw[show(a==y)=false from beq_false_of_ne e2,←e1]
    have:=hp.1 y ((List.mem_cons.mp hy).elim (fun q=>absurd q.symm e2) id)
    simp[this]
  ·rw[show(a==x)=false from beq_false_of_ne e1]
   have hx':=(List.mem_cons.mp hx).elim (fun q=>absurd q.symm e1) id
   by_cases e2:a=y
   ·rw[show(a==y)=true from beq_iff_eq.mpr e2,←e2]
    have:=hp.1 x hx'
    simp;lia
   ·rw[show(a==y)=false from beq_false_of_ne e2]
    have:=TY hp.2 hx' ((List.mem_cons.mp hy).elim (fun q=>absurd q.symm e2) id)
    simp;exact this
theorem LW{α:Type}{f:α→PV}{l:List PV}{v:α→Nat}:∀{o:List α},(∀a∈o,l[v a]?=some (f a))→IO l (o.map v)=some (o.map f)
 | [],_=>rfl
 | a::o,h=>AC (h a (.head _)) (AC (LW fun b hb=>h b (.tail _ hb)) rfl)
section
variable{w:Nat→Nat}{t:Nat→Nat→Bool}{S:PO}{σ:St}
noncomputable def Mz(w:Nat→Nat):List (Int×Int):=[(-(w 0:Int),0),(-(w 1:Int),1),(-(w 2:Int),2),(-(w 3:Int),3),(-(w 4:Int),4)]
theorem vQ(hw:∀k,w k≤7)(i j:Fin 5):Tx (Mz w) i.val j.val=decide (kK w i<kK w j):=by
 have h:Tx (Mz w) i.val j.val=vJ (-(w i:Int),(i.val:Int)) (-(w j:Int),(j.val:Int)):=by
  have hi:(Mz w)[i.val]?=some (-(w i:Int),(i.val:Int)):=by
   rcases i with⟨i,hi⟩
   rcases(show i=0∨i=1∨i=2∨i=3∨i=4 by lia) with e|e|e|e|e<;>subst e<;>rfl
  have hj:(Mz w)[j.val]?=some (-(w j:Int),(j.val:Int)):=by
   rcases j with⟨j,hj⟩
   rcases(show j=0∨j=1∨j=2∨j=3∨j=4 by lia) with e|e|e|e|e<;>subst e<;>rfl
  unfold Tx;rw[hi,hj];rfl
 rw[h]
 unfold vJ kK
 have:=hw i;have:=hw j
 by_cases e:w i=w j
 ·show cond ((-(w i:Int))==-(w j:Int)) _ _=_
  rw[show((-(w i:Int))==-(w j:Int))=true from beq_iff_eq.mpr (by rw[e])]
  exact decide_eq_decide.mpr (by show(i.val:Int)<j.val↔_;lia)
 ·show cond ((-(w i:Int))==-(w j:Int)) _ _=_
  rw[show((-(w i:Int))==-(w j:Int))=false from beq_false_of_ne fun q=>e (by lia)]
  exact decide_eq_decide.mpr (by show -(w i:Int) < -(w j:Int)↔_;lia)
theorem Pd(w:Nat→Nat):∃a b c d e,Ap w=[a,b,c,d,e]:=by
 have h:=(BU (w:=w)).length_eq
 match Ap w,h with
 | [a,b,c,d,e],_=>exact⟨a,b,c,d,e,rfl⟩
theorem PW(hw:∀k,w k≤7):UD .sorted [.lst (FS.map (fK w))] σ=some (.lst ((Ap w).map (fK w))):=by
 have hN:(Ap w).Nodup:=(BU (w:=w)).nodup_iff.mpr (by decide)
 have hup:=Jl hw
 have e1:∃p:Array Nat,FJ 5 (Tx (Mz w)) (kas_sort 5)=some p∧p.toList=Ct (Ap w):=by
  have h1:FJ 5 (Tx (Mz w)) (kas_sort 5)=FJ 5 (E5 (Ct (Ap w))) (kas_sort 5):=HH (fun i hi j hj=>by
   rw[vQ hw ⟨i,hi⟩ ⟨j,hj⟩]
   refine(decide_eq_decide.mpr ?_).symm
   have hp:(Ct (Ap w)).Pairwise (fun a b=>(7-w a)*5+a<(7-w b)*5+b):=List.pairwise_map.mpr hup
   exact TY (f:=fun a=>(7-w a)*5+a) hp (BQ.mem_iff.mpr (List.mem_range.mpr hi)) (BQ.mem_iff.mpr (List.mem_range.mpr hj))) _
  obtain⟨a,b,c,d,e,ho⟩:=Pd w
  rw[h1]
  rw[ho]at hN ⊢
  have:=beq_iff_eq.mp (QS a b c d e hN)
  cases hr:FJ 5 (E5 (Ct [a,b,c,d,e])) (kas_sort 5) with
  | none=>rw[hr]at this;cases this
  | some p=>rw[hr]at this;exact⟨p,rfl,Option.some.inj this⟩
 obtain⟨p,h1,h2⟩:=e1
 refine AC (a:=.lst (FS.map (fK w))) rfl (AC (a:=FS.map (fK w)) rfl (AK rfl (Av rfl (AC (a:=Mz w) rfl (AK rfl (AC h1 (AC (a:=(Ap w).map (fK w)) ?_ rfl)))))))
 rw[h2]
 refine LW (f:=fK w) (v:=Fin.val) fun k _=>?_
 rcases k with⟨k,hk⟩
 rcases(show k=0∨k=1∨k=2∨k=3∨k=4 by lia) with e|e|e|e|e<;>subst e<;>rfl
def gV(t:Nat→Nat→Bool):PV:=.lst ((gL t 32).map PV.bool)
theorem Se{g:Nat}(hg:g<32)(σ:St):CC σ (gV t) (.int g)=some (.bool (Hn t g)):=by
 refine EP (by rw[List.length_map,CG];decide) ?_
 have:=JN (t:=t) 32 g hg
 rw[List.getD_eq_getElem?_getD,List.getElem?_eq_getElem (by rw[CG];exact hg)]at this
 rw[List.getElem?_map,List.getElem?_eq_getElem (by rw[CG];exact hg)]
 exact congrArg (fun b=>some (PV.bool b)) this
noncomputable def PI:X:=.bin .Pow (.int 2) (.v 5)
theorem SY{k:Nat}(hk:k∈Nm)(Φ:Nat→Option Spec)(p0 p1 p2 p3 p4:Option PV)(σ:St):ev Φ PI [p0,p1,p2,p3,p4,some (.int k)] σ=some (.int ((2^k:Nat):Int),σ):=
 List.map_inj_left.mp (show Nm.map (fun x=>ev Φ PI [p0,p1,p2,p3,p4,some (.int (x:Nat))] σ)=Nm.map (fun x=>some (.int ((2^x:Nat):Int),σ)) from rfl) k hk
def Ty(w:Nat→Nat)(t:Nat→Nat→Bool)(m:Nat)(o4 o5:Option PV):Fm:=[some (wV w),some (gV t),some (.int m),some (.loc 1),o4,o5]
def Z9:Sh.S:=.iff (.idx (.v 1) (.bin .Add (.v 2) PI)) (.cons (.aug 2 .Add PI) (.cons (.ex (.me .append (.v 3) (.cons (.v 5) .nil))) .nil)) .nil
noncomputable def T8:X:=.bi .sorted (.cons (.comp 1 (.tup (.cons (.neg (.idx (.v 0) (.v 6))) (.cons (.v 6) .nil))) (.bi .range (.cons (.bi .len (.cons (.v 0) .nil)) .nil)) .nil) .nil)
theorem Vt:RI=.cons (.as 2 (.int 0)) (.cons (.as 3 (.mlist .nil)) (.cons (.fo [4,5] T8 (.cons Z9 .nil)) (.cons (.ret (.v 3)) .nil))):=rfl
inductive T2(S:PO)(w:Nat→Nat)(t:Nat→Nat→Bool)(G:List Nat):List (Fin 5)→Fm→St→Prop
 | mk {r:List (Fin 5)} {m:Nat} {C:List Nat} {o4 o5:Option PV} (hm:m<32) (nd:r.Nodup) (fr:∀k∈r,bt m k.val=false) (e:C++CU t (Ct r) m=G) (hl:C.length+r.length≤5):T2 S w t G r (Ty w t m o4 o5) [S,rV C]
theorem XN{Φ:Nat→Option Spec}{m:Fm}{i:Nat}(h:ev Φ (.v i) m σ=some (wV w,σ)):ev Φ (.bi .len (.cons (.v i) .nil)) m σ=some (.int ((5:Nat):Int),σ):=
 CT (ps:=[wV w]) (r:=.int ((5:Nat):Int)) (AD h AG) (AC (a:=wV w) rfl (SH _))
theorem Sk(σ:St){k:Nat}(hk:k∈Nm):CC σ (wV w) (.int k)=some (.int (w k:Int)):=NL σ ⟨k,List.mem_range.mp hk⟩
theorem PB(hS:∀n,Ex n S=true)(hw:∀k,w k≤7):Uy [wV w,gV t] [S]=some (.val (.lst (iL (CU t (Ct (Ap w)) 0))),[S]):=by
 obtain⟨m1,σ1,h1,I⟩:=Ir (g:=fK w) (is:=[4,5]) (b:=evSL (tab Ko) (.cons Z9 .nil)) (n:=none) (full:=Ap w) (I:=T2 S w t (CU t (Ct (Ap w)) 0)) (fun r m σ _ j hj=>nn hj) (fun k r m σ I=>by
  cases I with
  | @mk m C o4 o5 hm nd fr e hl=>
  rw[List.nodup_cons]at nd
  have hkN:k.val∈Nm:=List.mem_range.mpr k.isLt
  have hfx:=fr k (.head _)
  obtain⟨q1,q2⟩:=He m (List.mem_range.mpr hm) k.val hkN hfx
  have hup:∀y∈r,y.val∈Nm∧y.val≠k.val:=fun y hy=>⟨List.mem_range.mpr y.isLt,fun q=>nd.1 (Fin.ext q▸hy)⟩
  have hc:ev (tab Ko) (.idx (.v 1) (.bin .Add (.v 2) PI)) (Ty w t m (some (.int (-(w k:Int)))) (some (.int k.val))) [S,rV C]=some (.bool (Hn t (m+2^k.val)),[S,rV C]):=
   Ac rfl (Az (p:=.int (m:Int)) (q:=.int ((2^k.val:Nat):Int)) (r:=.int ((m+2^k.val:Nat):Int)) rfl (SY hkN _ _ _ _ _ _ _) (DP (AC rfl (AC rfl (congrArg (fun i=>some (PV.int i)) (by lia)))))) (Se q1 _)
  have hb:Cr [4,5] (fK w k) (Ty w t m o4 o5)=some (Ty w t m (some (.int (-(w k:Int)))) (some (.int k.val))):=rfl
  cases hg:Hn t (m+2^k.val) with
  | false=>
   rw[hg]at hc
   exact⟨_,_,_,hb,AA (AS hc rfl rfl) rfl,.mk hm nd.2 (fun y hy=>fr y (.tail _ hy)) (by rw[←e];show C++CU t (Ct r) m=C++cond (Hn t (m+2^k.val)) _ _;rw[hg];rfl) (by rw[List.length_cons]at hl;lia)⟩
  | true=>
   rw[hg]at hc
   have ag:Ab (tab Ko) (.aug 2 .Add PI) (Ty w t m (some (.int (-(w k:Int)))) (some (.int k.val))) [S,rV C]=some (.next,Ty w t (m+2^k.val) (some (.int (-(w k:Int)))) (some (.int k.val)),[S,rV C]):=
    AC (a:=.int (m:Int)) rfl (AE (SY hkN _ _ _ _ _ _ _) (AC (a:=.int ((m+2^k.val:Nat):Int)) (DP (AC rfl (AC rfl (congrArg (fun i=>some (PV.int i)) (by lia))))) rfl))
   refine⟨_,Ty w t (m+2^k.val) (some (.int (-(w k:Int)))) (some (.int k.val)),[S,rV (C++[k.val])],hb,AA (Ao hc rfl (AA ag (AA (Ea (p:=.none) (DW rfl (DG (n:=1) rfl) (AD rfl AG) ((Br (n:=1) (l:=iL C) rfl (by rw[EO];lia)).trans ?_))) rfl))) rfl,
    .mk q1 nd.2 (fun y hy=>by rw[q2 _ (hup y hy).1,fr y (.tail _ hy),beq_false_of_ne (hup y hy).2];rfl) (by rw[←e,List.append_assoc];show C++(k.val::CU t (Ct r) (m+2^k.val))=C++cond (Hn t (m+2^k.val)) _ _;rw[hg];rfl) (by rw[List.length_append];rw[List.length_cons]at hl;show C.length+1+r.length≤5;lia)⟩
   show some (PV.none,[S,.lst (iL C++[PV.int (k.val:Int)])])=_
   rw[show iL C++[PV.int (k.val:Int)]=iL (C++[k.val]) by unfold iL;rw[List.map_append];rfl];rfl) (Ap w) 0 (Ty w t 0 none none) [S,rV []] rfl (Nat.zero_add _) (.mk (by decide) (BU.nodup_iff.mpr (by decide)) (fun k _=>FF k.val (List.mem_range.mpr k.isLt)) rfl (by rw[BU.length_eq];decide))
 cases I with
 | @mk m C o4 o5 hm nd fr e hl=>
 have e:C=CU t (Ct (Ap w)) 0:=by rw[←e];exact(List.append_nil C).symm
 subst e
 have hx:ev (tab Ko) T8 (Ty w t 0 none none) [S,rV []]=some (.lst ((Ap w).map (fK w)),[S,rV []]):=by
  refine CT (ps:=[.lst (FS.map (fK w))]) (AD ?_ AG) (PW hw)
  exact Ak (g:=fun(k:Fin 5)=>.int k.val) (val:=fK w) (full:=FS) (n:=none) (keep:=fun _=>true) (p:=.rng 0 ((5:Nat):Int) 1) (Cj (XN rfl)) (CS _ (by decide)) (fun j h=>nn h) (by decide)
   fun k hk=>⟨[some (.int k.val)],rfl,rfl,fun _=>AE (AD (AE (Ac rfl rfl (NL _ k)) rfl) (AD rfl AG)) rfl⟩
 have h9:evSL (tab Ko) RI [some (wV w),some (gV t),none,none,none,none] [S]=some (.ret (.loc 1),Ty w t m o4 o5,[S,rV (CU t (Ct (Ap w)) 0)]):=by
  rw[Vt]
  exact AA rfl (AA rfl (AA (Km hx BJ h1) (AN rfl rfl)))
 have h8:Ae (tab Ko) 2 6 RI [wV w,gV t] [S]=some (.val (.loc 1),[S]++[rV (CU t (Ct (Ap w)) 0)]):=Cp h9 rfl rfl
 refine Bf h8 rfl (Fl (K:=(CU t (Ct (Ap w)) 0).length+2) (l:=iL (CU t (Ct (Ap w)) 0)) (show 1≤1 by decide) rfl ((Cf fun a _=>GD _).more (by lia)) ?_) (Bl hS Bo)
 have:=(Cz (t:=t) (r:=Ct (Ap w)) (m:=0)).length_le
 rw[BQ.length_eq,List.length_range]at this
 lia
noncomputable def Qy:X:=.cmp .Eq (.bin .Mod (.bin .FloorDiv (.v 3) (.bin .Pow (.int 2) (.v 5))) (.int 2)) (.int 1)
theorem Uq{g k:Nat}(hg:g<32)(hk:k∈Nm)(Φ:Nat→Option Spec)(p0 p1 p2 o4:Option PV)(σ:St):ev Φ Qy [p0,p1,p2,some (.int g),o4,some (.int k)] σ=some (.bool (bt g k),σ):=
 List.map_inj_left.mp (show gk.map (fun x=>ev Φ Qy [p0,p1,p2,some (.int (x.1:Nat)),o4,some (.int (x.2:Nat))] σ)=gk.map (fun x=>some (.bool (bt x.1 x.2),σ)) by kernel_rfl) (g,k) (TM hg hk)
def ET(w:Nat→Nat)(g:Nat):List Int:=UC ((Bq g).map fun k=>-(w k:Int))
noncomputable def Lu(w:Nat→Nat)(G:List Nat):PV:=.lst (G.map fun(k:Nat)=>.int (w k:Int))
def Tt(w:Nat→Nat)(t:Nat→Nat→Bool)(G:List Nat)(o3 o4:Option PV):Fm:=[some (Lu w G),some (wV w),some (gV t),o3,o4]
def V2:X:=.bi .sorted (.cons (.comp 1 (.neg (.idx (.v 1) (.v 5))) (.bi .range (.cons (.bi .len (.cons (.v 1) .nil)) .nil)) (.cons Qy .nil)) .nil)
noncomputable def W4:X:=.cmp .Gt (.bi .len (.cons (.v 4) .nil)) (.bi .len (.cons (.v 0) .nil))
noncomputable def W7:X:=.cmp .NotEq (.comp 1 (.v 5) (.bi .range (.cons (.bi .len (.cons (.v 4) .nil)) .nil)) (.cons (.cmp .Gt (.neg (.idx (.v 4) (.v 5))) (.idx (.v 0) (.v 5))) .nil)) (.list .nil)
def Y1:SL:=.cons (.as 4 V2) (.cons (.iff (.bo .And (.cons (.idx (.v 2) (.v 3)) (.cons (.bo .Or (.cons W4 (.cons W7 .nil))) .nil))) (.cons (.ret (.bool true)) .nil) .nil) .nil)
theorem WZ:Wt=.cons (.fo [3] (.bi .range (.cons (.bi .len (.cons (.v 2) .nil)) .nil)) Y1) (.cons (.ret (.bool false)) .nil):=rfl
theorem Hy{g:Nat}:(ET w g).Perm ((Bq g).map fun k=>-(w k:Int)):=FU _
theorem Nr{g:Nat}:(ET w g).length=(Bq g).length:=Hy.length_eq.trans (List.length_map _)
theorem hW{g:Nat}:(ET w g).Pairwise (·≤·):=(Df lE _).imp fun h=>of_decide_eq_true h
theorem JK:∀l:List Int,Ek (l.map PV.int)=some l
 | []=>rfl
 | a::l=>by show bd (Ek (l.map PV.int)) (fun r=>some (a::r))=_;rw[JK l];rfl
theorem iT{Φ:Nat→Option Spec}{g:Nat}{G:List Nat}{o4:Option PV}(hg:g<32):ev Φ V2 (Tt w t G (some (.int g)) o4) σ=some (.lst ((ET w g).map PV.int),σ):=by
 refine CT (ps:=[.lst (((Bq g).map fun(k:Nat)=>-(w k:Int)).map PV.int)]) (AD ?_ AG) (AC (a:=.lst (((Bq g).map fun(k:Nat)=>-(w k:Int)).map PV.int)) rfl (AC (a:=((Bq g).map fun(k:Nat)=>-(w k:Int)).map PV.int) rfl (AK (decide_eq_true (by rw[List.length_map,List.length_map];have:=Ey (g:=g);lia)) (DP (AC (JK _) rfl)))))
 rw[List.map_map]
 exact Ak (g:=fun(k:Nat)=>.int (k:Int)) (val:=fun(k:Nat)=>PV.int (-(w k:Int))) (full:=Nm) (n:=none) (keep:=bt g) (Cj (XN rfl)) (CS _ (by decide)) (fun j h=>nn h) (by decide)
  fun k hk=>⟨[some (.int k)],rfl,Ha (Uq hg hk _ _ _ _ _ _),fun _=>AE (Ac rfl rfl (Sk _ hk)) rfl⟩
theorem Wh{l:List Int}{i:Nat}{a:Int}(hp:l.Pairwise (·≤·))(h:l[i]?=some a):i<(l.filter fun x=>decide (x≤a)).length:=by
 have hi:i<l.length:=(List.getElem?_eq_some_iff.mp h).1
 rw[←List.take_append_drop (i+1) l,List.filter_append,List.length_append]
 have:(l.take (i+1)).filter (fun x=>decide (x≤a))=l.take (i+1):=List.filter_eq_self.mpr fun x hx=>by
  obtain⟨j,hj⟩:=List.mem_iff_getElem?.mp hx
  rw[List.getElem?_take]at hj
  by_cases q:j<i+1
  ·rw[if_pos q]at hj
   refine decide_eq_true ?_
   by_cases e:j=i
   ·rw[e,h]at hj;cases hj;exact Int.le_refl _
   ·obtain⟨h1,h2⟩:=List.getElem?_eq_some_iff.mp hj
    obtain⟨h3,h4⟩:=List.getElem?_eq_some_iff.mp h
    have:=List.pairwise_iff_getElem.mp hp j i h1 h3 (by lia)
    rw[h2,h4]at this;exact this
  ·rw[if_neg q]at hj;cases hj
 rw[this,List.length_take]
 lia
theorem Td(hw:∀k,w k≤7){g:Nat}(hg:g<32)(H:Hn t g=true):(ET w g).length≤(CU t (Ct (Ap w)) 0).length∧∀(i:Nat) (a:Int),(ET w g)[i]?=some a→∃x,(CU t (Ct (Ap w)) 0)[i]?=some x∧-a≤(w x:Int):=by
 have hp:(Ct (Ap w)).Pairwise (fun a b=>w b≤w a):=List.pairwise_map.mpr ((Jl hw).imp fun {a b} h=>by
  have:=hw a;have:=hw b
  unfold kK at h;lia)
 constructor
 ·have:=XR (w:=w) (θ:=0) BQ hp hg H
  rw[List.filter_eq_self.mpr fun k _=>decide_eq_true (Nat.zero_le _),List.filter_eq_self.mpr fun k _=>decide_eq_true (Nat.zero_le _)]at this
  rw[Nr];exact this
 ·intro i a h
  have hm:a∈(Bq g).map fun k=>-(w k:Int):=Hy.mem_iff.mp (List.mem_of_getElem? h)
  obtain⟨k,_,hk⟩:=List.mem_map.mp hm
  have c:=Wh hW h
  rw[(Hy.filter _).length_eq,List.filter_map,List.length_map]at c
  have e:∀x∈Bq g,((fun x=>decide (x≤a))∘fun k=>-(w k:Int)) x=decide (w k≤w x):=fun x _=>decide_eq_decide.mpr (by show -(w x:Int)≤a↔_;lia)
  rw[List.filter_congr e]at c
  have:=XR (w:=w) (θ:=w k) BQ hp hg H
  obtain⟨x,h1,h2⟩:=No (c:=CU t (Ct (Ap w)) 0) (hp.sublist Cz) (Nat.lt_of_lt_of_le c this)
  exact⟨x,h1,by lia⟩
theorem jB(σ:St):LI σ (gV t)=some (.int ((32:Nat):Int)):=by
 refine Av rfl (Av rfl (AC (a:=(gL t 32).map PV.bool) rfl (AK (Ag (by rw[List.length_map,CG];decide)) ?_)))
 rw[List.length_map,CG]
inductive U0(w:Nat→Nat)(t:Nat→Nat→Bool)(G:List Nat)(τ:St):List Nat→Fm→St→Prop
 | mk {g:Nat} {r:List Nat} {o3 o4:Option PV} (hr:(List.range 32).drop g=r):U0 w t G τ r (Tt w t G o3 o4) τ
theorem Ma(hw:∀k,w k≤7)(c:DI σ):VD [Lu w (CU t (Ct (Ap w)) 0),wV w,gV t] σ=some (.val (.bool false),σ):=by
 have hGl:(CU t (Ct (Ap w)) 0).length≤5:=by
  have:=(Cz (t:=t) (r:=Ct (Ap w)) (m:=0)).length_le
  rw[BQ.length_eq,List.length_range]at this
  exact this
 have hRl:∀g,(ET w g).length≤5:=fun g=>by rw[Nr];exact Ey
 obtain⟨m1,σ1,h1,I⟩:=Ir (g:=fun(k:Nat)=>PV.int (k:Int)) (is:=[3]) (b:=evSL (tab MW) Y1) (n:=none) (full:=List.range 32) (I:=U0 w t (CU t (Ct (Ap w)) 0) σ) (fun r m σ _ j hj=>nn hj) (fun a r m τ I=>by
  cases I with
  | @mk g _ o3 o4 hr=>
  have hg:g<32:=by
   apply Nat.not_le.mp
   intro h
   rw[List.drop_of_length_le (by rw[List.length_range];exact h)]at hr;cases hr
  have ha:a=g:=by
   have:=congrArg List.head? hr
   rw[List.head?_drop,List.getElem?_range hg]at this
   exact(Option.some.inj this).symm
  subst ha
  refine⟨Tt w t _ (some (.int a)) o4,Tt w t _ (some (.int a)) (some (.lst ((ET w a).map PV.int))),σ,rfl,AA (Am (iT hg)) (AA (?_:Ab _ _ _ _=some (.next,Tt w t _ (some (.int a)) (some (.lst ((ET w a).map PV.int))),σ)) rfl),.mk (g:=a+1) (by rw[←List.drop_drop,hr];rfl)⟩
  have c1:ev (tab MW) (.idx (.v 2) (.v 3)) (Tt w t (CU t (Ct (Ap w)) 0) (some (.int a)) (some (.lst ((ET w a).map PV.int)))) σ=some (.bool (Hn t a),σ):=Ac rfl rfl (Se hg _)
  cases hgd:Hn t a with
  | false=>rw[hgd]at c1;exact AS (FZ c1 rfl) rfl rfl
  | true=>
   rw[hgd]at c1
   obtain⟨b1,b2⟩:=Td hw hg hgd
   have c2:ev (tab MW) W4 (Tt w t (CU t (Ct (Ap w)) 0) (some (.int a)) (some (.lst ((ET w a).map PV.int)))) σ=some (.bool false,σ):=
    (AI (JD (i:=4) rfl (by rw[List.length_map];have:=hRl a;lia)) (JD (i:=0) rfl (by rw[List.length_map];lia)) rfl).trans (by
     rw[List.length_map,List.length_map]
     exact congrArg (fun b=>some (PV.bool b,σ)) (decide_eq_false (by lia)))
   have c3:ev (tab MW) W7 (Tt w t (CU t (Ct (Ap w)) 0) (some (.int a)) (some (.lst ((ET w a).map PV.int)))) σ=some (.bool false,σ):=by
    refine AI (Ak (g:=fun(k:Nat)=>.int (k:Int)) (val:=fun(k:Nat)=>.int (k:Int)) (full:=List.range (ET w a).length) (n:=none) (keep:=fun _=>false) (Cj ((JD (i:=4) rfl (by rw[List.length_map];have:=hRl a;lia)).trans (by rw[List.length_map]))) (CS _ (by have:=hRl a;lia)) (fun j h=>nn h) (by rw[List.length_range];have:=hRl a;lia)
     fun i hi=>⟨[some (.int i)],rfl,Ha ?_,fun h=>Bool.noConfusion h⟩) rfl (by rw[List.filter_eq_nil_iff.mpr fun _ _=>Bool.false_ne_true];exact JQ (l:=[]))
    have hil:=List.mem_range.mp hi
    have hri:(ET w a)[i]?=some (ET w a)[i]:=List.getElem?_eq_getElem hil
    obtain⟨x,hx1,hx2⟩:=b2 i _ hri
    refine(AI (p:=.int (-(ET w a)[i])) (q:=.int (w x:Int)) (rX (Ac (p:=.lst ((ET w a).map PV.int)) (q:=.int (i:Int)) rfl rfl (EP (by rw[List.length_map];have:=hRl a;lia) (by rw[List.getElem?_map,hri];rfl)))) (Ac (p:=Lu w (CU t (Ct (Ap w)) 0)) (q:=.int (i:Int)) rfl rfl (EP (by rw[List.length_map];lia) (by rw[List.getElem?_map,hx1];rfl))) rfl).trans ?_
    exact congrArg (fun b=>some (PV.bool b,σ)) (decide_eq_false (by lia))
   exact AS (CO c1 rfl (EE c2 rfl c3)) rfl rfl) (List.range 32) 0 (Tt w t (CU t (Ct (Ap w)) 0) none none) σ rfl rfl (.mk (g:=0) rfl)
 cases I with
 | @mk g _ o3 o4 hr=>
 have h9:evSL (tab MW) Wt [some (Lu w (CU t (Ct (Ap w)) 0)),some (wV w),some (gV t),none,none] σ=some (.ret (.bool false),Tt w t (CU t (Ct (Ap w)) 0) o3 o4,σ):=by
  rw[WZ]
  exact AA (Km (Cj (n:=32) (CT (ps:=[gV t]) (r:=.int ((32:Nat):Int)) (AD rfl AG) (AC (a:=gV t) rfl (jB _)))) (CS _ (by decide)) h1) (AN rfl rfl)
 exact DV (Cp h9 rfl rfl) rfl rfl c
end
end Sh
namespace Sh
open PySem PySem.Calls
noncomputable def A4:List (List Nat):=[[42],[63],[97],[98],[46],[91,33,97,93],[91,97,45,98,93],[91,46,97,93],[91,98,45,97,93],[91,33,98,45,97,93],[91,33,46,45,97,93],[91,98,45,98,46,93]]
noncomputable def M8:List (List Nat):=[[],[46,97,98],[97],[98],[46],[46,98],[97,98],[46,97],[],[46,97,98],[98],[46,98]]
def Bt(d:Fin 12):List Nat:=A4.getD d.val []
def GO(d:Fin 12):List Nat:=M8.getD d.val []
def hV(d:Fin 12):PV:=cond (d.val==0) .none (pS (GO d))
def KR(d:Fin 12):PV:=.tup [pS (Bt d),hV d]
abbrev LZ:List (Fin 12):=[0,1,2,3,4,5,6,7,8,9,10,11]
theorem wU:∀d:Fin 12,d∈LZ:=by decide +kernel
theorem cI{β:Type}{f g:Fin 12→β}(h:LZ.map f=LZ.map g)(d:Fin 12):f d=g d:=List.map_inj_left.mp h d (wU d)
abbrev Id:List (Fin 3):=[0,1,2]
theorem U5:∀d:Fin 3,d∈Id:=by decide +kernel
theorem by3{β:Type}{f g:Fin 3→β}(h:Id.map f=Id.map g)(d:Fin 3):f d=g d:=List.map_inj_left.mp h d (U5 d)
noncomputable def cd(c:Fin 3):Nat:=[46,97,98].getD c.val 0
def rH(d:Fin 12)(c:Fin 3):Bool:=(GO d).contains (cd c)
theorem Nz:∀d:Fin 12,∀c∈Bt d,c<128:=by decide +kernel
theorem OT:∀d:Fin 12,(Bt d).length≤6:=by decide +kernel
theorem zK:∀d:Fin 12,∀c∈GO d,c<128:=by decide +kernel
theorem Rk:∀c:Fin 3,cd c<128:=by decide +kernel
noncomputable def FY(y:Int):Fin 12:=Fin.ofNat 12 (y.fmod 12).toNat
theorem Oz(y:Int):((FY y).val:Int)=y.fmod 12:=by
 have hm:y.fmod 12=y%12:=Int.fmod_eq_emod_of_nonneg _ (by decide)
 show(((y.fmod 12).toNat%12:Nat):Int)=_
 lia
noncomputable def VH(y:Int):Fin 3:=Fin.ofNat 3 (y.fmod 3).toNat
theorem Ti(y:Int):((VH y).val:Int)=y.fmod 3:=by
 have hm:y.fmod 3=y%3:=Int.fmod_eq_emod_of_nonneg _ (by decide)
 show(((y.fmod 3).toNat%3:Nat):Int)=_
 lia
def LE(y:Int):List (Fin 12):=[FY (y.fdiv 1),FY (y.fdiv 12),FY (y.fdiv 144)]
def DR:List PV:=LZ.map KR
theorem Wn(σ:St)(d:Fin 12):CC [.lst DR] (.loc 0) (.int (d.val:Int))=some (KR d):=
 Bh (σ:=[.lst DR]) (n:=0) rfl (by decide) (cI (f:=fun d=>DR[d.val]?) (g:=fun d=>some (KR d)) (by kernel_rfl) d)
noncomputable def zZ:X:=.idx (.v 1) (.bin .Mod (.bin .FloorDiv (.v 0) (.bin .Pow (.int 12) (.v 2))) (.int 12))
def rwA:SL:=.cons (.ret (.comp 1 zZ (.bi .range (.cons (.int 3) .nil)) .nil)) .nil
theorem jJ(d:Fin 12):QK (KR d) 6:=by
 refine(NT (Cs ((DH _).more (K':=2) (by decide)) (Cs ?_ Cv))).more (by decide)
 unfold hV
 cases d.val==0
 ·exact DH _
 ·exact Ww
theorem UL(y:Int):Wr [.int y] []=some (.val (.lst ((LE y).map KR)),[]):=by
 have hx:∀k∈List.range 3,ev (tab Jm) zZ [some (.int y),some (.loc 0),some (.int (k:Nat))] [.lst DR]=some (KR (FY (y.fdiv (12^k))),[.lst DR]):=fun k hk=>by
  have hk:=List.mem_range.mp hk
  have h:ev (tab Jm) zZ [some (.int y),some (.loc 0),some (.int (k:Nat))] [.lst DR]=vl (CC [.lst DR] (.loc 0) (.int ((y.fdiv (12^k)).fmod 12))) [.lst DR]:=by
   match k,hk with
   | 0,_=>rfl
   | 1,_=>rfl
   | 2,_=>rfl
  rw[h,←Oz,Wn []];rfl
 have h1:ev (tab Jm) (.comp 1 zZ (.bi .range (.cons (.int 3) .nil)) .nil) [some (.int y),some (.loc 0)] [.lst DR]=some (.lst ((LE y).map KR),[.lst DR]):=
  Ak (g:=fun(k:Nat)=>.int (k:Int)) (val:=fun(k:Nat)=>KR (FY (y.fdiv (12^k)))) (full:=List.range 3) (n:=none) (keep:=fun _=>true) (Cj (n:=3) rfl) (CS _ (by decide)) (fun j h=>nn h) (by decide)
   fun k hk=>⟨[some (.int k)],rfl,rfl,fun _=>hx k hk⟩
 have h9:evSL (tab Jm) TH [some (.int y),none] []=some (.ret (.lst ((LE y).map KR)),[some (.int y),some (.loc 0)],[.lst DR]):=by
  have e1:∀(R:Option (SR×Fm×St)),evSL (tab Jm) rwA [some (.int y),some (.loc 0)] [.lst DR]=R→evSL (tab Jm) TH [some (.int y),none] []=R:=fun R h=>by rw[←h];kernel_rfl
  exact e1 _ (AN (Bz h1) rfl)
 have h8:Ae (tab Jm) 1 2 TH [.int y] []=some (.val (.lst ((LE y).map KR)),[]++[.lst DR]):=Cp h9 rfl rfl
 exact Bf h8 rfl (Qj (Cf fun a _=>jJ a) _ _ _ (show 6+3+1+1≤100000 by decide)) Bo
def LV(y:Int):List (Fin 3):=(List.range (1+(y.fmod 3).toNat)).map fun k=>VH (y.fdiv (3^(k+1)))
def Gm(l:List (Fin 3)):PV:=pS (l.map cd)
theorem EU(y:Int):1≤(LV y).length∧(LV y).length≤3:=by
 have hm:y.fmod 3=y%3:=Int.fmod_eq_emod_of_nonneg _ (by decide)
 unfold LV
 rw[List.length_map,List.length_range]
 lia
noncomputable def Pk:List (List (Fin 3)):=Id.map (fun a=>[a])++(Id.flatMap (fun a=>Id.map fun b=>[a,b])++Id.flatMap fun a=>Id.flatMap fun b=>Id.map fun c=>[a,b,c])
theorem oZ{l:List (Fin 3)}(h:1≤l.length)(h3:l.length≤3):l∈Pk:=by
 match l,h,h3 with
 | [a],_,_=>exact(by decide +kernel:∀a:Fin 3,[a]∈Pk) a
 | [a,b],_,_=>exact(by decide +kernel:∀a b:Fin 3,[a,b]∈Pk) a b
 | [a,b,c],_,_=>exact(by decide +kernel:∀a b c:Fin 3,[a,b,c]∈Pk) a b c
 | _::_::_::_::_,_,h3=>exact absurd h3 (by simp)
theorem P5{β:Type}{f g:List (Fin 3)→β}(h:Pk.map f=Pk.map g){l:List (Fin 3)}(h1:1≤l.length)(h3:l.length≤3):f l=g l:=List.map_inj_left.mp h l (oZ h1 h3)
theorem Ui(σ:St){l:List (Fin 3)}(h1:1≤l.length)(h3:l.length≤3):MO .join (.str "") [.lst (l.map fun c=>pS [cd c])] σ=some (Gm l,σ):=
 P5 (f:=fun l=>MO .join (.str "") [.lst (l.map fun c=>pS [cd c])] σ) (g:=fun l=>some (Gm l,σ)) (by kernel_rfl) h1 h3
noncomputable def M9:X:=.idx (.str ".ab") (.bin .Mod (.bin .FloorDiv (.v 0) (.bin .Pow (.int 3) (.bin .Add (.v 1) (.int 1)))) (.int 3))
theorem Uh(σ:St)(c:Fin 3):CC σ (.str ".ab") (.int (c.val:Int))=some (pS [cd c]):=by3 (f:=fun c=>CC σ (.str ".ab") (.int (c.val:Int))) (g:=fun c=>some (pS [cd c])) (by kernel_rfl) c
theorem Sl(y:Int):Vj [.int y] []=some (.val (Gm (LV y)),[]):=by
 have hm:y.fmod 3=y%3:=Int.fmod_eq_emod_of_nonneg _ (by decide)
 have hl:=EU y
 have hx:∀k∈List.range (1+(y.fmod 3).toNat),ev (tab Me) M9 [some (.int y),some (.int (k:Nat))] []=some (pS [cd (VH (y.fdiv (3^(k+1))))],[]):=fun k hk=>by
  have hk:k<3:=by have:=List.mem_range.mp hk;lia
  have h:ev (tab Me) M9 [some (.int y),some (.int (k:Nat))] []=vl (CC [] (.str ".ab") (.int ((y.fdiv (3^(k+1))).fmod 3))) []:=by
   match k,hk with
   | 0,_=>rfl
   | 1,_=>rfl
   | 2,_=>rfl
  rw[h,←Ti,Uh];rfl
 have hn:ev (tab Me) (.bin .Add (.int 1) (.bin .Mod (.v 0) (.int 3))) [some (.int y)] []=some (.int ((1+(y.fmod 3).toNat:Nat):Int),[]):=by
  show some (PV.int (1+y.fmod 3),([]:St))=_
  rw[show 1+y.fmod 3=((1+(y.fmod 3).toNat:Nat):Int) by lia]
 have h1:ev (tab Me) (.comp 1 M9 (.bi .range (.cons (.bin .Add (.int 1) (.bin .Mod (.v 0) (.int 3))) .nil)) .nil) [some (.int y)] []=some (.lst ((LV y).map fun c=>pS [cd c]),[]):=by
  refine(Ak (g:=fun(k:Nat)=>.int (k:Int)) (val:=fun(k:Nat)=>pS [cd (VH (y.fdiv (3^(k+1))))]) (full:=List.range (1+(y.fmod 3).toNat)) (n:=none) (keep:=fun _=>true) (Cj hn) (CS _ (by lia)) (fun j h=>nn h) (by rw[List.length_range];lia)
   fun k hk=>⟨[some (.int k)],rfl,rfl,fun _=>hx k hk⟩).trans ?_
  rw[List.filter_eq_self.mpr fun _ _=>rfl]
  unfold LV
  rw[List.map_map];rfl
 have h9:evSL (tab Me) kG [some (.int y)] []=some (.ret (Gm (LV y)),[some (.int y)],[]):=AN (Bz (DW rfl rfl (AD h1 AG) (Ui [] hl.1 hl.2))) rfl
 exact DV (Cp h9 rfl rfl) rfl (DH _ _ _ _ (by decide)) Bo
set_option genCtorIdx true in
inductive Kd where
 | bare | held | last
noncomputable def gH(n:Nat)(h:Nat→Nat→Bool)(i q:Nat):Bool:=decide (i<3)&&(decide (q<n)&&h i q)
noncomputable def IR(n:Nat)(h:Nat→Nat→Bool)(met:List Nat)(x:Nat×Bool):List Nat:=cond x.2 (met.head?.elim [] fun a=>List.range' a (n+1-a)) ((met.filter fun p=>decide (p<n)&&h x.1 p).map (·+1))
def Hl(n:Nat)(h:Nat→Nat→Bool)(st:List Bool):Bool:=decide (n∈((List.range 3).zip st).foldl (IR n h) [0])
noncomputable def JF(at_ n s:Int):Kd→List Int
 | .bare=>[at_]
 | .held=>(List.range (n-s+1-at_).toNat).map fun(k:Nat)=>at_+(k:Int)
 | .last=>[n-s]
noncomputable def ON(h:Nat→Nat→Bool)(ts:List Nat)(p:Nat):Bool:=(List.range ts.length).all fun i=>h (ts.getD i 0) (p+i)
def ID(n:Nat)(h:Nat→Nat→Bool)(at_:Nat)(x:Kd×List Nat):List Int:=(JF at_ n x.2.length x.1).filter fun p=>decide ((at_:Int)≤p)&&(decide (p≤(n:Int)-x.2.length)&&ON h x.2 p.toNat)
def Dm(n:Nat)(h:Nat→Nat→Bool):Nat→List (Kd×List Nat)→Bool
 | at_,[]=>decide (at_=n)
 | at_,x::r=>(ID n h at_ x).head?.elim false fun p=>Dm n h (p.toNat+x.2.length) r
noncomputable def Ij(l:List (Kd×List Nat))(i:Nat):List (Kd×List Nat):=match l.getLast? with
 | some (k,ts)=>l.dropLast++[(k,ts++[i])]
 | none=>l
noncomputable def BE(l:List Bool):List (Kd×List Nat):=match l with
 | [x,y,z]=>cond x (cond y [(.bare,[]),(.last,cond z [] [2])] (cond z [(.bare,[]),(.held,[1]),(.last,[])] [(.bare,[]),(.last,[1,2])]))
  (cond y [(.bare,[0]),(.last,cond z [] [2])] (cond z [(.bare,[0,1]),(.last,[])] [(.bare,[0,1,2])]))
 | _=>[]
noncomputable def m9(a b c d e f g h i:Bool)(x y:Nat):Bool:=match x,y with
 | 0,0=>a | 0,1=>b | 0,2=>c | 1,0=>d | 1,1=>e | 1,2=>f | 2,0=>g | 2,1=>h | 2,2=>i | _,_=>false
theorem rR(n:Nat)(hn:n≤3)(h:Nat→Nat→Bool):gH n h=gH n (m9 (h 0 0) (h 0 1) (h 0 2) (h 1 0) (h 1 1) (h 1 2) (h 2 0) (h 2 1) (h 2 2)):=funext fun i=>funext fun q=>by
 unfold gH
 by_cases hi:i<3
 ·by_cases hq:q<n
  ·have hq3:q<3:=Nat.lt_of_lt_of_le hq hn
   rw[decide_eq_true hi,decide_eq_true hq]
   rcases(show i=0∨i=1∨i=2 by lia) with e|e|e<;>rcases(show q=0∨q=1∨q=2 by lia) with e2|e2|e2<;>rw[e,e2]<;>rfl
  ·rw[decide_eq_false hq];rfl
 ·rw[decide_eq_false hi];rfl
theorem vM(h:Nat→Nat→Bool):gH 1 h=gH 1 (m9 (h 0 0) false false (h 1 0) false false (h 2 0) false false):=funext fun i=>funext fun q=>by
 unfold gH
 by_cases hi:i<3
 ·by_cases hq:q<1
  ·rw[decide_eq_true hi,decide_eq_true hq]
   rcases(show i=0∨i=1∨i=2 by lia) with e|e|e<;>rw[e,show q=0 by lia]<;>rfl
  ·rw[decide_eq_false hq];rfl
 ·rw[decide_eq_false hi];rfl
theorem oF(h:Nat→Nat→Bool):gH 2 h=gH 2 (m9 (h 0 0) (h 0 1) false (h 1 0) (h 1 1) false (h 2 0) (h 2 1) false):=funext fun i=>funext fun q=>by
 unfold gH
 by_cases hi:i<3
 ·by_cases hq:q<2
  ·rw[decide_eq_true hi,decide_eq_true hq]
   rcases(show i=0∨i=1∨i=2 by lia) with e|e|e<;>rcases(show q=0∨q=1 by lia) with e2|e2<;>rw[e,e2]<;>rfl
  ·rw[decide_eq_false hq];rfl
 ·rw[decide_eq_false hi];rfl
def same(n:Nat)(h:Nat→Nat→Bool)(x y z:Bool):Bool:=Dm n (gH n h) 0 (BE [x,y,z])==Hl n (gH n h) [x,y,z]
theorem oA:∀a d g x y z:Bool,same 1 (m9 a false false d false false g false false) x y z=true:=by decide +kernel
theorem tS:∀a b d e g h x y z:Bool,same 2 (m9 a b false d e false g h false) x y z=true:=by decide +kernel
theorem xZ:∀a b c d e f g h i x y z:Bool,same 3 (m9 a b c d e f g h i) x y z=true:=by decide +kernel
theorem Kj{n:Nat}(h1:1≤n)(h3:n≤3)(h:Nat→Nat→Bool)(x y z:Bool):Dm n (gH n h) 0 (BE [x,y,z])=Hl n (gH n h) [x,y,z]:=by
 refine beq_iff_eq.mp ?_
 rcases(show n=1∨n=2∨n=3 by lia) with e|e|e
 ·rw[e,vM];exact oA _ _ _ _ _ _
 ·rw[e,oF];exact tS _ _ _ _ _ _ _ _ _
 ·rw[e,rR 3 (by decide)];exact xZ _ _ _ _ _ _ _ _ _ _ _ _
section
variable{σ:St}{Φ:Nat→Option Spec}
theorem sE{x:List Nat}(h:x.length≤1000):LI σ (pS x)=some (.int x.length):=by
 refine DP (AC (a:=(⟨x.toArray⟩:Str)) rfl (AK ?_ rfl))
 exact Ag (n:=x.length) h
theorem GH{x:List Nat}{m:Fm}{i:Nat}(h:x.length≤1000)(h1:ev Φ (.v i) m σ=some (pS x,σ)):ev Φ (.bi .len (.cons (.v i) .nil)) m σ=some (.int x.length,σ):=CT (ps:=[pS x]) (AD h1 AG) (AC (a:=pS x) rfl (sE h))
theorem Iv{x:List Nat}{p c:Nat}(hl:x.length≤1000)(h:x[p]?=some c):CC σ (pS x) (.int p)=some (pS [c]):=by
 have hlt:p<x.length:=(List.getElem?_eq_some_iff.mp h).1
 refine AK (decide_eq_true ?_) (DP (AC (a:=⟨x.toArray⟩) rfl (AC (a:=p) ?_ (AC (a:=c) ?_ rfl))))
 ·show p<2^60;lia
 ·exact seqIndex_of (Int.natCast_nonneg p) (Int.ofNat_lt.mpr hlt)
 ·show x.toArray[p]?=some c;rw[List.getElem?_toArray];exact h
noncomputable def dM:List (Fin 12×Fin 3):=LZ.flatMap fun d=>Id.map fun c=>(d,c)
theorem yS(d:Fin 12)(c:Fin 3):(d,c)∈dM:=List.mem_flatMap.mpr ⟨d,wU d,List.mem_map.mpr ⟨c,U5 c,rfl⟩⟩
theorem Su(σ:St)(d:Fin 12)(c:Fin 3):QC σ (pS [cd c]) (pS (GO d))=some (rH d c):=
 List.map_inj_left.mp (show dM.map (fun x=>QC σ (pS [cd x.2]) (pS (GO x.1)))=dM.map (fun x=>some (rH x.1 x.2)) by kernel_rfl) (d,c) (yS d c)
theorem Qv(σ:St){a b:Int}(ha:-1000≤a∧a≤1000)(hb:-1000≤b∧b≤1000):(Builtin.Range.small a b 1&&decide (Builtin.Range.rangeSize a b 1≤BM))=true∧GA a b 1=(List.range (b-a).toNat).map fun(k:Nat)=>.int (a+(k:Int)):=by
 have h1:=PyProof.Rows.rangeSize_nat a b
 have h2:Builtin.Range.small a b 1=true:=small_one (Int.le_trans (by decide) ha.1) (Int.lt_of_le_of_lt ha.2 (by decide)) (Int.le_trans (by decide) hb.1) (Int.lt_of_le_of_lt hb.2 (by decide))
 refine⟨Bool.and_eq_true_iff.mpr ⟨h2,decide_eq_true (by rw[h1];exact(Int.ofNat_le (n:=100000)).mpr (Int.toNat_le.mpr (Int.le_trans (Int.sub_le_sub hb.2 ha.1) (by decide))))⟩,?_⟩
 unfold GA
 rw[h1]
 refine List.map_congr_left fun k _=>?_
 show PV.int (a+(k:Int)*1)=_
 rw[Int.mul_one]
theorem nA(σ:St){a b:Nat}(ha:a≤1000)(hb:b≤1000):UD .list [.rng (a:Int) (b:Int) 1] σ=some (.lst (iL (List.range' a (b-a)))):=by
 have h:=Qv σ (a:=(a:Int)) (b:=(b:Int)) (by lia) (by lia)
 refine AC (a:=.rng (a:Int) (b:Int) 1) rfl (AC (a:=((a:Int),(b:Int),(1:Int))) rfl (AK h.1 ?_))
 show some (PV.lst (GA a b 1))=_
 rw[h.2,List.range'_eq_map_range,show((b:Int)-a).toNat=b-a by lia]
 unfold iL
 rw[List.map_map]
 refine congrArg (fun l=>some (PV.lst l)) (List.map_congr_left fun k _=>?_)
 show PV.int _=PV.int _
 congr 1
end
def hM(row:List (Fin 12))(nm:List (Fin 3))(i q:Nat):Bool:=rH (row.getD i 0) (nm.getD q 0)
section
variable{row:List (Fin 12)}{nm:List (Fin 3)}{σ:St}
theorem DO(nm:List (Fin 3)):(nm.map cd).length=nm.length:=List.length_map _
theorem Sp{p:Nat}(h:p<nm.length):(nm.map cd)[p]?=some (cd (nm.getD p 0)):=by
 rw[List.getElem?_map,List.getD_eq_getElem?_getD,List.getElem?_eq_getElem h];rfl
noncomputable def Y5:X:=.comp 1 (.bin .Add (.v 5) (.int 1)) (.v 2) (.cons (.bo .And (.cons (.cmp .Lt (.v 5) (.bi .len (.cons (.v 1) .nil))) (.cons (.cmp .In (.idx (.v 1) (.v 5)) (.v 4)) .nil))) .nil)
noncomputable def Z1:X:=.bi .list (.cons (.bi .range (.cons (.idx (.v 2) (.int 0)) (.cons (.bin .Add (.bi .len (.cons (.v 1) .nil)) (.int 1)) .nil))) .nil)
def pZ:SL:=.cons (.iff (.cmp .IsNot (.v 4) .none) (.cons (.as 2 Y5) .nil) (.cons (.iff (.cmp .NotEq (.v 2) (.list .nil)) (.cons (.as 2 Z1) .nil) .nil) .nil)) .nil
theorem VZ:Wv=.cons (.as 2 (.list (.cons (.int 0) .nil))) (.cons (.fo [3,4] (.v 0) pZ) (.cons (.ret (.cmp .In (.bi .len (.cons (.v 1) .nil)) (.v 2))) .nil)):=rfl
def Oq(row:List (Fin 12))(nm:List (Fin 3))(met:List Nat)(o3 o4:Option PV):Fm:=[some (.lst (row.map KR)),some (Gm nm),some (.lst (iL met)),o3,o4]
theorem iW{Φ:Nat→Option Spec}{d:Fin 12}{met:List Nat}{o3:Option PV}{i:Nat}(hn:nm.length≤3)(hl:met.length≤4)(hi:i<3)(hd:row.getD i 0=d) :
  ev Φ Y5 (Oq row nm met o3 (some (pS (GO d)))) σ=some (.lst (iL ((met.filter fun p=>decide (p<nm.length)&&gH nm.length (hM row nm) i p).map (·+1))),σ):=by
 refine(Ak (g:=fun(k:Nat)=>.int (k:Int)) (val:=fun(k:Nat)=>.int ((k+1:Nat):Int)) (full:=met) (n:=none) (keep:=fun p=>decide (p<nm.length)&&gH nm.length (hM row nm) i p) rfl BJ (fun j h=>nn h) (by lia) fun p hp=>⟨[some (.int p)],rfl,Ha ?_,fun _=>rfl⟩).trans (by unfold iL;rw[List.map_map];rfl)
 have c1:ev Φ (.cmp .Lt (.v 5) (.bi .len (.cons (.v 1) .nil))) (Oq row nm met o3 (some (pS (GO d)))++[some (.int p)]) σ=some (.bool (decide (p<nm.length)),σ):=
  (AI (p:=.int (p:Int)) rfl (GH (i:=1) (x:=nm.map cd) (by rw[DO];lia) rfl) rfl).trans (by
   rw[DO];exact congrArg (fun b=>some (PV.bool b,σ)) (decide_eq_decide.mpr Int.ofNat_lt))
 by_cases h:p<nm.length
 ·rw[decide_eq_true h]at c1 ⊢
  rw[Bool.true_and]
  have:gH nm.length (hM row nm) i p=rH d (nm.getD p 0):=by unfold gH hM;rw[decide_eq_true hi,decide_eq_true h,hd];rfl
  rw[this]
  exact CO c1 rfl (AI (Ac rfl rfl (Iv (by rw[DO];lia) (Sp h))) rfl (Su σ d _))
 ·rw[decide_eq_false h]at c1 ⊢
  exact FZ c1 rfl
inductive Y4(row:List (Fin 12))(nm:List (Fin 3))(M:List Nat)(σ:St):List (Nat×Fin 12)→Fm→St→Prop
 | mk {r:List (Nat×Fin 12)} {met:List Nat} {o3 o4:Option PV} (hr:∀x∈r,x.1<3∧row.getD x.1 0=x.2) (e:(r.map fun x=>(x.1,x.2.val==0)).foldl (IR nm.length (gH nm.length (hM row nm))) met=M) (hl:met.length≤4) (hp:∀p∈met,p≤3):Y4 row nm M σ r (Oq row nm met o3 o4) σ
theorem Oy{a b d:Fin 12}(hn:nm.length≤3)(c:DI σ):SS [.lst ([a,b,d].map KR),Gm nm] σ=some (.val (.bool (Hl nm.length (gH nm.length (hM [a,b,d] nm)) ([a,b,d].map (·.val==0)))),σ):=by
 obtain⟨m1,σ1,h1,I⟩:=Ir (g:=fun(x:Nat×Fin 12)=>KR x.2) (is:=[3,4]) (b:=evSL (tab NS) pZ) (n:=none) (full:=[(0,a),(1,b),(2,d)]) (I:=Y4 [a,b,d] nm (((List.range 3).zip ([a,b,d].map (·.val==0))).foldl (IR nm.length (gH nm.length (hM [a,b,d] nm))) [0]) σ) (fun r m σ _ j hj=>nn hj) (fun x r m τ I=>by
  cases I with
  | @mk met o3 o4 hr e hl hp=>
  obtain⟨i,d'⟩:=x
  obtain⟨hi,hd⟩:=hr _ (.head _)
  have hb:Cr [3,4] (KR d') (Oq [a,b,d] nm met o3 o4)=some (Oq [a,b,d] nm met (some (pS (Bt d'))) (some (hV d'))):=rfl
  have hr':∀x∈r,x.1<3∧[a,b,d].getD x.1 0=x.2:=fun x hx=>hr x (.tail _ hx)
  have e:(r.map fun x=>(x.1,x.2.val==0)).foldl (IR nm.length (gH nm.length (hM [a,b,d] nm))) (IR nm.length (gH nm.length (hM [a,b,d] nm)) met (i,d'.val==0))=_:=e
  cases hz:d'.val==0 with
  | false=>
   have hv:hV d'=pS (GO d'):=by unfold hV;rw[hz];rfl
   rw[hz]at e
   refine⟨_,Oq [a,b,d] nm (IR nm.length (gH nm.length (hM [a,b,d] nm)) met (i,false)) (some (pS (Bt d'))) (some (pS (GO d'))),σ,hb,?_,.mk hr' e ?_ ?_⟩
   ·rw[hv]
    exact AA (Ao (AI (t:=true) rfl rfl rfl) rfl (AA (Am (iW hn hl hi hd)) rfl)) rfl
   ·show((met.filter _).map _).length≤4
    rw[List.length_map];exact Nat.le_trans (List.length_filter_le _ _) hl
   ·intro p hp'
    obtain⟨q,hq,rfl⟩:=List.mem_map.mp hp'
    have:=(List.mem_filter.mp hq).2
    rw[Bool.and_eq_true,decide_eq_true_iff]at this
    show q+1≤3
    lia
  | true=>
   have hv:hV d'=.none:=by unfold hV;rw[hz];rfl
   rw[hz]at e
   have c0:ev (tab NS) (.cmp .IsNot (.v 4) .none) (Oq [a,b,d] nm met (some (pS (Bt d'))) (some .none)) σ=some (.bool false,σ):=AI rfl rfl rfl
   have c1:ev (tab NS) (.cmp .NotEq (.v 2) (.list .nil)) (Oq [a,b,d] nm met (some (pS (Bt d'))) (some .none)) σ=some (.bool (!met.isEmpty),σ):=AI rfl rfl JQ
   cases met with
   | nil=>
    refine⟨_,Oq [a,b,d] nm [] (some (pS (Bt d'))) (some .none),σ,hb,?_,.mk hr' e (Nat.zero_le _) (fun p h=>nomatch h)⟩
    rw[hv]
    exact AA (AS c0 rfl (AA (AS c1 rfl rfl) rfl)) rfl
   | cons p0 met=>
    have hp0:=hp p0 (.head _)
    have hR:ev (tab NS) Z1 (Oq [a,b,d] nm (p0::met) (some (pS (Bt d'))) (some .none)) σ=some (.lst (iL (List.range' p0 (nm.length+1-p0))),σ):=by
     refine CT (ps:=[.rng (p0:Int) ((nm.length+1:Nat):Int) 1]) (AD (CT (ps:=[.int (p0:Int),.int ((nm.length+1:Nat):Int)]) (AD (Ac (p:=.lst (iL (p0::met))) (q:=.int ((0:Nat):Int)) rfl rfl (EP (by rw[EO];lia) rfl)) (AD (Az (p:=.int (nm.length:Int)) (q:=.int 1) ?_ rfl rfl) AG)) rfl) AG) (nA σ (by lia) (by lia))
     exact(GH (i:=1) (x:=nm.map cd) (by rw[DO];lia) rfl).trans (by rw[DO])
    refine⟨_,Oq [a,b,d] nm (List.range' p0 (nm.length+1-p0)) (some (pS (Bt d'))) (some .none),σ,hb,?_,.mk hr' e ?_ ?_⟩
    ·rw[hv]
     exact AA (AS c0 rfl (AA (Ao c1 rfl (AA (Am hR) rfl)) rfl)) rfl
    ·rw[List.length_range'];omega
    ·intro p h
     have:=List.mem_range'_1.mp h
     omega) [(0,a),(1,b),(2,d)] 0 (Oq [a,b,d] nm [0] none none) σ rfl rfl (.mk (fun x hx=>by
      rcases List.mem_cons.mp hx with e|hx
      ·rw[e];exact⟨show 0<3 by decide,rfl⟩
      rcases List.mem_cons.mp hx with e|hx
      ·rw[e];exact⟨show 1<3 by decide,rfl⟩
      rw[List.mem_singleton.mp hx];exact⟨show 2<3 by decide,rfl⟩) rfl (by decide) (by decide))
 cases I with
 | @mk met o3 o4 hr e hl hp=>
 have e:met=((List.range 3).zip ([a,b,d].map (·.val==0))).foldl (IR nm.length (gH nm.length (hM [a,b,d] nm))) [0]:=e
 have h9:evSL (tab NS) Wv [some (.lst ([a,b,d].map KR)),some (Gm nm),none,none,none] σ=some (.ret (.bool (decide (nm.length∈met))),Oq [a,b,d] nm met o3 o4,σ):=by
  rw[VZ]
  have hin:Co .In (.int (nm.length:Int)) (.lst (iL met)) σ=some (decide (nm.length∈met)):=Rr
  refine AA rfl (AA (Km (p:=.lst ([a,b,d].map KR)) rfl BJ h1) (AN (Bz (AI ((GH (i:=1) (x:=nm.map cd) (by rw[DO];lia) rfl).trans (by rw[DO])) rfl hin)) rfl))
 unfold Hl
 rw[←e]
 exact DV (Cp h9 rfl rfl) rfl rfl c
end
def Ic:Kd→Str
 | .bare=>qS "bare" | .held=>qS "held" | .last=>qS "last"
def BZ(row:List (Fin 12))(x:Kd×List Nat):PV:=.tup [.str (Ic x.1),.lst (x.2.map fun i=>pS (GO (row.getD i 0)))]
def M1:List Str:=[qS "bare",qS "held",qS "last",qS "none"]
section
variable{row:List (Fin 12)}{nm:List (Fin 3)}{σ:St}{Φ:Nat→Option Spec}
theorem mQ{ks:List Str}{xs:XL}{k:X}{m:Fm}{ps:List PV}{y:Str}{r:PV}(h1:evL Φ xs m (σ++[.dct []])=some (ps,σ++[.dct []]))(hg:(decide (ps.length=ks.length)&&(decide ks.Nodup&&decide (ks.length≤15)))=true)
  (h2:ev Φ k m (σ++[.dct (ks.zip ps)])=some (.str y,σ++[.dct (ks.zip ps)])) (h3:(ks.zip ps).lookup y=some r):ev Φ (.dsp ks xs k) m σ=some (r,σ++[.dct (ks.zip ps)]):=by
 have g:∀o:PO,(σ++[o])[σ.length]?=some o:=fun o=>by rw[List.getElem?_append_right (Nat.le_refl _),Nat.sub_self];rfl
 have g2:(σ++[PO.dct []]).set σ.length (.dct (ks.zip ps))=σ++[.dct (ks.zip ps)]:=by rw[List.set_append_right _ _ (Nat.le_refl _),Nat.sub_self];rfl
 refine AE h1 (AC (a:=[]) (AC (g _) rfl) (AK (by rw[List.isEmpty_nil,Bool.true_and];exact hg) (AE (by rw[g2];exact h2) (BD (AC rfl (AC (AC (g _) rfl) h3))))))
theorem iG:(decide M1.Nodup&&decide (M1.length≤15))=true:=by decide +kernel
def GX(nm:List (Fin 3))(P:PV)(at_:Nat)(o3 o4 o5 o6:Option PV):Fm:=[some P,some (Gm nm),some (.int at_),o3,o4,o5,o6]
noncomputable def Uf:X:=.bi .len (.cons (.v 1) .nil)
def A6:X:=.dsp M1 (.cons (.list (.cons (.v 2) .nil)) (.cons (.bi .range (.cons (.v 2) (.cons (.bin .Add (.bin .Sub Uf (.v 5)) (.int 1)) .nil))) (.cons (.list (.cons (.bin .Sub Uf (.v 5)) .nil)) (.cons (.list .nil) .nil)))) (.v 3)
noncomputable def Y3:X:=.comp 1 (.v 8) (.bi .range (.cons (.v 5) .nil)) (.cons (.cmp .NotIn (.idx (.v 1) (.bin .Add (.v 7) (.v 8))) (.idx (.v 4) (.v 8))) .nil)
def S1:X:=.comp 1 (.v 7) (.v 6) (.cons (.bo .And (.cons (.cmp2 .LtE .LtE (.v 2) (.v 7) (.bin .Sub Uf (.v 5))) (.cons (.cmp .Eq Y3 (.list .nil)) .nil))) .nil)
def zS:SL:=.cons (.as 5 (.bi .len (.cons (.v 4) .nil))) (.cons (.as 6 A6) (.cons (.as 6 S1) (.cons (.iff (.cmp .Eq (.v 6) (.list .nil)) (.cons (.ret (.bool false)) .nil) .nil) (.cons (.as 2 (.bin .Add (.idx (.v 6) (.int 0)) (.v 5))) .nil))))
theorem OV:NG=.cons (.as 2 (.int 0)) (.cons (.fo [3,4] (.v 0) zS) (.cons (.ret (.cmp .Eq (.v 2) Uf)) .nil)):=rfl
def JR(row:List (Fin 12))(ts:List Nat):PV:=.lst (ts.map fun i=>pS (GO (row.getD i 0)))
theorem Qt{P:PV}{at_:Nat}{o3 o4 o5 o6:Option PV}{e:Fm}(hn:nm.length≤3):ev Φ Uf (GX nm P at_ o3 o4 o5 o6++e) σ=some (.int nm.length,σ):=(GH (i:=1) (x:=nm.map cd) (by rw[DO];lia) rfl).trans (by rw[DO])
theorem Md{P:PV}{at_ s:Nat}{o3 o4 o6:Option PV}{e:Fm}(hn:nm.length≤3):ev Φ (.bin .Sub Uf (.v 5)) (GX nm P at_ o3 o4 (some (.int s)) o6++e) σ=some (.int ((nm.length:Int)-s),σ):=
 Az (Qt hn) (q:=.int (s:Int)) rfl rfl
noncomputable def NF(at_:Nat)(n s:Int):Kd→PV
 | .bare=>.lst [.int at_]
 | .held=>.rng at_ (n-s+1) 1
 | .last=>.lst [.int (n-s)]
theorem eT{P:PV}{at_ s:Nat}{k:Kd}{o4 o6:Option PV}(hn:nm.length≤3):∃d,ev Φ A6 (GX nm P at_ (some (.str (Ic k))) o4 (some (.int s)) o6) σ=some (NF at_ nm.length s k,σ++[.dct d])∧∀n,Ex n (.dct d)=true:=by
 have h1:∀σ,evL Φ (.cons (.list (.cons (.v 2) .nil)) (.cons (.bi .range (.cons (.v 2) (.cons (.bin .Add (.bin .Sub Uf (.v 5)) (.int 1)) .nil))) (.cons (.list (.cons (.bin .Sub Uf (.v 5)) .nil)) (.cons (.list .nil) .nil)))) (GX nm P at_ (some (.str (Ic k))) o4 (some (.int s)) o6) σ =
   some ([.lst [.int at_],.rng at_ ((nm.length:Int)-s+1) 1,.lst [.int ((nm.length:Int)-s)],.lst []],σ):=fun σ=>
  AD rfl (AD (CT (ps:=[.int at_,.int ((nm.length:Int)-s+1)]) (AD rfl (AD (Az (q:=.int 1) (Md (e:=[]) hn) rfl rfl) AG)) rfl) (AD (AE (AD (Md (e:=[]) hn) AG) rfl) (AD rfl AG)))
 refine⟨_,mQ (h1 _) (Bool.and_eq_true_iff.mpr ⟨rfl,iG⟩) (y:=Ic k) rfl ?_,fun n=>rfl⟩
 cases k with
 | bare=>kernel_rfl
 | held=>kernel_rfl
 | last=>kernel_rfl
theorem eD{at_ s:Nat}{k:Kd}(hn:nm.length≤3)(ha:at_≤3)(hs:s≤3):EM σ (NF at_ nm.length s k)=some ((JF at_ nm.length s k).map PV.int,none):=by
 cases k with
 | bare=>rfl
 | last=>rfl
 | held=>
  have h:=Qv σ (a:=(at_:Int)) (b:=(nm.length:Int)-s+1) (by lia) (by lia)
  refine AK h.1 ?_
  rw[h.2]
  unfold JF
  rw[List.map_map];rfl
theorem OB{at_ s:Nat}{k:Kd}(hn:nm.length≤3):(JF at_ nm.length s k).length≤1000:=by
 cases k with
 | bare=>show 1≤1000;decide
 | last=>show 1≤1000;decide
 | held=>unfold JF;rw[List.length_map,List.length_range];lia
theorem hK{P:PV}{at_ p:Nat}{ts:List Nat}{o3 o6:Option PV}(hn:nm.length≤3)(ht:ts.length≤3)(hi:∀i∈ts,i<3)(hp:p+ts.length≤nm.length) :
  ev Φ (.cmp .Eq Y3 (.list .nil)) (GX nm P at_ o3 (some (JR row ts)) (some (.int ts.length)) o6++[some (.int p)]) σ=some (.bool (ON (gH nm.length (hM row nm)) ts p),σ):=by
 refine AI (Ak (g:=fun(k:Nat)=>.int (k:Int)) (val:=fun(k:Nat)=>.int (k:Int)) (full:=List.range ts.length) (n:=none) (keep:=fun i=>!gH nm.length (hM row nm) (ts.getD i 0) (p+i)) (Cj rfl) (CS _ (by lia)) (fun j h=>nn h) (by rw[List.length_range];lia) fun i hi'=>⟨[some (.int i)],rfl,Ha ?_,fun _=>rfl⟩) rfl (Og.trans (congrArg some ?_))
 ·have hil:=List.mem_range.mp hi'
  have hpi:p+i<nm.length:=by lia
  have e1:gH nm.length (hM row nm) (ts.getD i 0) (p+i)=rH (row.getD (ts.getD i 0) 0) (nm.getD (p+i) 0):=by
   have:ts.getD i 0<3:=by
    rw[List.getD_eq_getElem?_getD,List.getElem?_eq_getElem hil]
    exact hi _ (List.getElem_mem hil)
   unfold gH hM;rw[decide_eq_true this,decide_eq_true hpi];rfl
  rw[e1]
  have e2:ev Φ (.idx (.v 1) (.bin .Add (.v 7) (.v 8))) (GX nm P at_ o3 (some (JR row ts)) (some (.int ts.length)) o6++[some (.int p)]++[some (.int i)]) σ=some (pS [cd (nm.getD (p+i) 0)],σ):=
   Ac (p:=Gm nm) (q:=.int ((p+i:Nat):Int)) rfl (Az (p:=.int (p:Int)) (q:=.int (i:Int)) rfl rfl rfl) (Iv (by rw[DO];lia) (Sp hpi))
  have e3:ev Φ (.idx (.v 4) (.v 8)) (GX nm P at_ o3 (some (JR row ts)) (some (.int ts.length)) o6++[some (.int p)]++[some (.int i)]) σ=some (pS (GO (row.getD (ts.getD i 0) 0)),σ):=
   Ac (p:=JR row ts) (q:=.int (i:Int)) rfl rfl (EP (by rw[List.length_map];lia) (by rw[List.getElem?_map,show ts[i]?=some (ts.getD i 0) by rw[List.getD_eq_getElem?_getD,List.getElem?_eq_getElem hil];rfl];rfl))
  exact AI e2 e3 (congrArg (Option.map (fun x=>!x)) (Su σ _ _))
 ·rw[Em,List.not_any_eq_all_not]
  unfold ON
  exact congrArg (List.all (List.range ts.length)) (funext fun k=>Bool.not_not _)
theorem dB{P:PV}{at_:Nat}{ts:List Nat}{k:Kd}{o3:Option PV}(hn:nm.length≤3)(ha:at_≤3)(ht:ts.length≤3)(hi:∀i∈ts,i<3) :
  ev Φ S1 (GX nm P at_ o3 (some (JR row ts)) (some (.int ts.length)) (some (NF at_ nm.length ts.length k))) σ=some (.lst ((ID nm.length (gH nm.length (hM row nm)) at_ (k,ts)).map PV.int),σ):=by
 refine Ak (g:=PV.int) (val:=PV.int) (full:=JF at_ nm.length ts.length k) (n:=none) (keep:=fun p=>decide ((at_:Int)≤p)&&(decide (p≤(nm.length:Int)-ts.length)&&ON (gH nm.length (hM row nm)) ts p.toNat)) rfl (eD hn ha ht) (fun j h=>nn h) (OB hn) fun p hp=>⟨[some (.int p)],rfl,Ha ?_,fun _=>rfl⟩
 have c1:ev Φ (.cmp2 .LtE .LtE (.v 2) (.v 7) (.bin .Sub Uf (.v 5))) (GX nm P at_ o3 (some (JR row ts)) (some (.int ts.length)) (some (NF at_ nm.length ts.length k))++[some (.int p)]) σ=some (.bool (decide ((at_:Int)≤p)&&decide (p≤(nm.length:Int)-ts.length)),σ):=by
  refine AE (a:=.int (at_:Int)) rfl (AE (a:=.int p) rfl (AC (a:=decide ((at_:Int)≤p)) rfl ?_))
  cases h1:decide ((at_:Int)≤p) with
  | false=>rfl
  | true=>exact Sw rfl (AE (Md hn) (AC (a:=decide (p≤(nm.length:Int)-ts.length)) rfl rfl))
 rw[←Bool.and_assoc]
 cases h2:(decide ((at_:Int)≤p)&&decide (p≤(nm.length:Int)-ts.length)) with
 | false=>rw[h2]at c1;exact FZ c1 rfl
 | true=>
  rw[h2]at c1
  rw[Bool.and_eq_true,decide_eq_true_iff,decide_eq_true_iff]at h2
  have e:p=(p.toNat:Int):=by lia
  refine CO c1 rfl ?_
  rw[Bool.true_and]
  have:=hK (Φ:=Φ) (row:=row) (σ:=σ) (P:=P) (at_:=at_) (p:=p.toNat) (o3:=o3) (o6:=some (NF at_ nm.length ts.length k)) hn ht hi (by lia)
  rw[←e]at this
  exact this
theorem Wf{is:List Nat}{b:ML}{q:PV}{r:List PV}{k:Nat}{m m1 m2:Fm}{σ σ2:St}{t:SR}{R:Option (SR×Fm×St)}(h1:Cr is q m=some m1)(h2:b m1 σ=some (t,m2,σ2))(h3:LS t (Eo none is b r (k+1) m2 σ2) m2 σ2=R):Eo none is b (q::r) k m σ=R:=
 AC (a:=q) rfl (AC h1 (BO h2 h3))
theorem Ql{n at_:Nat}{h:Nat→Nat→Bool}{x:Kd×List Nat}{p:Int}(hp:p∈ID n h at_ x):(at_:Int)≤p∧p≤(n:Int)-x.2.length:=by
 have:=(List.mem_filter.mp hp).2
 rw[Bool.and_eq_true,Bool.and_eq_true,decide_eq_true_iff,decide_eq_true_iff]at this
 exact⟨this.1,this.2.1⟩
inductive C1(nm:List (Fin 3))(row:List (Fin 12))(P:PV)(σ:St)(at_:Nat)(ps:List (Kd×List Nat))(o:Option (SR×Fm×St)):Prop
 | no {m':Fm} {J':St} (h:o=some (.ret (.bool false),m',σ++J')) (e:Dm nm.length (gH nm.length (hM row nm)) at_ ps=false):C1 nm row P σ at_ ps o
 | yes {at':Nat} {o3 o4 o5 o6:Option PV} {J':St} (h:o=some (.next,GX nm P at' o3 o4 o5 o6,σ++J')) (e:Dm nm.length (gH nm.length (hM row nm)) at_ ps=decide (at'=nm.length)):C1 nm row P σ at_ ps o
theorem Om{P:PV}(hn:nm.length≤3):∀(ps:List (Kd×List Nat)) (i at_:Nat) (o3 o4 o5 o6:Option PV) (J:St),at_≤3→(∀x∈ps,x.2.length≤3∧∀i∈x.2,i<3) →
  C1 nm row P σ at_ ps (Eo none [3,4] (evSL Φ zS) (ps.map (BZ row)) i (GX nm P at_ o3 o4 o5 o6) (σ++J))
 | [],i,at_,o3,o4,o5,o6,J,ha,hps=>.yes rfl rfl
 | (k,ts)::ps,i,at_,o3,o4,o5,o6,J,ha,hps=>by
  obtain⟨ht,hi⟩:=hps _ (.head _)
  have ht:ts.length≤3:=ht
  have hi:∀i∈ts,i<3:=hi
  have hb:Cr [3,4] (BZ row (k,ts)) (GX nm P at_ o3 o4 o5 o6)=some (GX nm P at_ (some (.str (Ic k))) (some (JR row ts)) o5 o6):=rfl
  have e5:Ab Φ (.as 5 (.bi .len (.cons (.v 4) .nil))) (GX nm P at_ (some (.str (Ic k))) (some (JR row ts)) o5 o6) (σ++J)=some (.next,GX nm P at_ (some (.str (Ic k))) (some (JR row ts)) (some (.int ts.length)) o6,σ++J):=
   Am ((JD (i:=4) rfl (by rw[List.length_map];lia)).trans (by rw[List.length_map]))
  obtain⟨d,hd,hcl⟩:=eT (Φ:=Φ) (σ:=σ++J) (P:=P) (at_:=at_) (s:=ts.length) (k:=k) (o4:=some (JR row ts)) (o6:=o6) hn
  have e6:Ab Φ (.as 6 A6) (GX nm P at_ (some (.str (Ic k))) (some (JR row ts)) (some (.int ts.length)) o6) (σ++J)=some (.next,GX nm P at_ (some (.str (Ic k))) (some (JR row ts)) (some (.int ts.length)) (some (NF at_ nm.length ts.length k)),σ++(J++[.dct d])):=by
   rw[←List.append_assoc];exact Am hd
  have e7:Ab Φ (.as 6 S1) (GX nm P at_ (some (.str (Ic k))) (some (JR row ts)) (some (.int ts.length)) (some (NF at_ nm.length ts.length k))) (σ++(J++[.dct d]))=some (.next,GX nm P at_ (some (.str (Ic k))) (some (JR row ts)) (some (.int ts.length)) (some (.lst ((ID nm.length (gH nm.length (hM row nm)) at_ (k,ts)).map PV.int))),σ++(J++[.dct d])):=
   Am (dB hn ha ht hi)
  have e8:∀l:List Int,ev Φ (.cmp .Eq (.v 6) (.list .nil)) (GX nm P at_ (some (.str (Ic k))) (some (JR row ts)) (some (.int ts.length)) (some (.lst (l.map PV.int)))) (σ++(J++[.dct d]))=some (.bool l.isEmpty,σ++(J++[.dct d])):=fun l=>
   AI (p:=.lst (l.map PV.int)) (q:=.lst []) rfl rfl (eq_nil (d:=PyData.int) fun a _=>(PD.int _).more (by decide))
  have et:Dm nm.length (gH nm.length (hM row nm)) at_ ((k,ts)::ps)=(ID nm.length (gH nm.length (hM row nm)) at_ (k,ts)).head?.elim false fun p=>Dm nm.length (gH nm.length (hM row nm)) (p.toNat+ts.length) ps:=rfl
  cases hs:ID nm.length (gH nm.length (hM row nm)) at_ (k,ts) with
  | nil=>
   rw[hs]at e7 et
   exact .no (Wf hb (AA e5 (AA e6 (AA e7 (AN (Ao (e8 []) rfl (AN (Bz rfl) rfl)) rfl)))) rfl) et
  | cons p l=>
   rw[hs]at e7 et
   have hp:=Ql (show p∈ID nm.length (gH nm.length (hM row nm)) at_ (k,ts) by rw[hs];exact .head _)
   have hp2:p≤(nm.length:Int)-ts.length:=hp.2
   have e9:Ab Φ (.as 2 (.bin .Add (.idx (.v 6) (.int 0)) (.v 5))) (GX nm P at_ (some (.str (Ic k))) (some (JR row ts)) (some (.int ts.length)) (some (.lst ((p::l).map PV.int)))) (σ++(J++[.dct d]))=some (.next,GX nm P (p.toNat+ts.length) (some (.str (Ic k))) (some (JR row ts)) (some (.int ts.length)) (some (.lst ((p::l).map PV.int))),σ++(J++[.dct d])):=by
    have hl:(p::l).length≤1000:=by
     rw[←hs];exact Nat.le_trans (List.length_filter_le _ _) (OB hn)
    refine(Am (Az (p:=.int p) (q:=.int (ts.length:Int)) (r:=.int (p+ts.length)) (Ac (p:=.lst ((p::l).map PV.int)) (q:=.int ((0:Nat):Int)) rfl rfl (EP (by rw[List.length_map];exact hl) rfl)) rfl rfl)).trans ?_
    rw[show p+(ts.length:Int)=((p.toNat+ts.length:Nat):Int) by lia];rfl
   have IH:=Om (P:=P) hn ps (i+1) (p.toNat+ts.length) (some (.str (Ic k))) (some (JR row ts)) (some (.int ts.length)) (some (.lst ((p::l).map PV.int))) (J++[.dct d]) (by lia) fun x hx=>hps x (.tail _ hx)
   have step:Eo none [3,4] (evSL Φ zS) (((k,ts)::ps).map (BZ row)) i (GX nm P at_ o3 o4 o5 o6) (σ++J)=Eo none [3,4] (evSL Φ zS) (ps.map (BZ row)) (i+1) (GX nm P (p.toNat+ts.length) (some (.str (Ic k))) (some (JR row ts)) (some (.int ts.length)) (some (.lst ((p::l).map PV.int)))) (σ++(J++[.dct d])):=
    Wf hb (AA e5 (AA e6 (AA e7 (AA (AS (e8 (p::l)) rfl rfl) (AA e9 rfl))))) rfl
   rw[step]
   cases IH with
   | no h e=>exact .no h (et.trans e)
   | yes h e=>exact .yes h (et.trans e)
theorem Px{ps:List (Kd×List Nat)}(hn:nm.length≤3)(hps:∀x∈ps,x.2.length≤3∧∀i∈x.2,i<3)(c:DI σ):Rh [.lst (ps.map (BZ row)),Gm nm] σ=some (.val (.bool (Dm nm.length (gH nm.length (hM row nm)) 0 ps)),σ):=by
 have h1:=Om (Φ:=tab Mt) (row:=row) (σ:=σ) (P:=.lst (ps.map (BZ row))) hn ps 0 0 none none none none [] (by decide) hps
 rw[List.append_nil]at h1
 cases h1 with
 | @no m' J' h e=>
  have h9:evSL (tab Mt) NG [some (.lst (ps.map (BZ row))),some (Gm nm),none,none,none,none,none] σ=some (.ret (.bool false),m',σ++J'):=by
   rw[OV]
   exact AA rfl (AN (Km (p:=.lst (ps.map (BZ row))) rfl BJ h) rfl)
  rw[e]
  have h8:Ae (tab Mt) 2 7 NG [.lst (ps.map (BZ row)),Gm nm] σ=some (.val (.bool false),σ++J'):=Cp h9 rfl rfl
  exact Bf h8 rfl rfl c
 | @yes at' o3 o4 o5 o6 J' h e=>
  have h9:evSL (tab Mt) NG [some (.lst (ps.map (BZ row))),some (Gm nm),none,none,none,none,none] σ=some (.ret (.bool (decide (at'=nm.length))),GX nm (.lst (ps.map (BZ row))) at' o3 o4 o5 o6,σ++J'):=by
   rw[OV]
   refine AA rfl (AA (Km (p:=.lst (ps.map (BZ row))) rfl BJ h) (AN (Bz (AI (p:=.int (at':Int)) (q:=.int (nm.length:Int)) rfl (Qt (e:=[]) hn) ((Qe _ _ _).trans (congrArg some ?_)))) rfl))
   by_cases q:at'=nm.length
   ·rw[q,decide_eq_true rfl];exact beq_self_eq_true _
   ·rw[decide_eq_false q];exact beq_false_of_ne fun z=>q (by lia)
  rw[e]
  have h8:Ae (tab Mt) 2 7 NG [.lst (ps.map (BZ row)),Gm nm] σ=some (.val (.bool (decide (at'=nm.length))),σ++J'):=Cp h9 rfl rfl
  exact Bf h8 rfl rfl c
end
end Sh
namespace Sh
open PySem PySem.Calls PySem.Builtin PySem.Builtin.Str PySem.StrLaws
theorem Kv(s sub:Str)(hi:Nat):∀(l:List Nat) (st:Array Nat×Nat),1≤st.fst.size→(forIn l st (occBody s sub hi 1)).run.fst=st.fst
 | [],st,h=>rfl
 | a::l,st,h=>by
  rw[List.forIn_cons]
  unfold occBody
  rw[if_neg fun q=>by have:=q.1.1.1;omega]
  exact Kv s sub hi l _ h
theorem Ik(s sub:Str)(hi:Nat){j:Nat}(hj:j+sub.length≤hi∧subAt s sub j=true):∀(n lo free:Nat),free≤lo→lo≤j→j<lo+n→(∀i,lo≤i→i<j→¬(i+sub.length≤hi∧subAt s sub i=true))→(forIn (List.range' lo n) ((#[]:Array Nat),free) (occBody s sub hi 1)).run.fst=#[j]
 | 0,lo,free,_,h1,h2,_=>absurd h2 (by lia)
 | n+1,lo,free,hf,h1,h2,h3=>by
  rw[List.range'_succ,List.forIn_cons]
  unfold occBody
  by_cases q:lo=j
  ·rw[if_pos ⟨⟨⟨by simp,hf⟩,q▸hj.1⟩,q▸hj.2⟩]
   show(forIn (List.range' (lo+1) n) ((#[]:Array Nat).push lo,lo+sub.length) (occBody s sub hi 1)).run.fst=#[j]
   rw[Kv s sub hi _ _ (by simp),q];rfl
  ·rw[if_neg fun c=>h3 lo (Nat.le_refl _) (by lia) ⟨c.1.2,c.2⟩]
   exact Ik s sub hi hj n (lo+1) free (by lia) (by lia) (by lia) fun i a b=>h3 i (by lia) b
theorem Gz{x:List Nat}{c i hi:Nat}:(i+(⟨#[c]⟩:Str).length≤hi∧subAt ⟨x.toArray⟩ ⟨#[c]⟩ i=true)↔(i<hi∧x[i]?=some c):=by
 rw[subAt_eq]
 show(i+1≤hi∧((x.drop i).take 1==[c])=true)↔_
 rw[take1_drop];exact Iff.rfl
theorem Tg{x:List Nat}{c lo hi j:Nat}(h1:lo≤j)(h2:j<hi)(h:x[j]?=some c)(hn:∀i,lo≤i→i<j→x[i]?≠some c):Gb ⟨x.toArray⟩ ⟨#[c]⟩ (lo:Int) (hi:Int)=(j:Int):=by
 unfold Gb
 rw[Int.toNat_natCast,Int.toNat_natCast,occ_eq,Ik _ _ _ (Gz.mpr ⟨h2,h⟩) _ _ _ (Nat.le_refl _) h1 (by omega) fun i a b q=>hn i a b (Gz.mp q).2]
theorem fU{x:List Nat}{c lo hi:Nat}(hn:∀i,lo≤i→i<hi→x[i]?≠some c):Gb ⟨x.toArray⟩ ⟨#[c]⟩ (lo:Int) (hi:Int)=-1:=by
 unfold Gb
 rw[Int.toNat_natCast,Int.toNat_natCast,occ_eq,(occ_none _ _ _ _ _ fun i hi'=>(List.mem_range'_1.mp hi').1).mpr fun i hi' q=>hn i (List.mem_range'_1.mp hi').1 (Gz.mp q).1 (Gz.mp q).2]
section
variable{σ:St}{Φ:Nat→Option Spec}
theorem Ub{α:Type}(l:List α)(lo hi:Nat):Iz l (some (lo:Int)) (some (hi:Int))=(l.drop lo).take (hi-lo):=by
 show(l.drop (clipAt l.length lo)).take (clipAt l.length hi-clipAt l.length lo)=_
 rw[clipAt_nat,clipAt_nat]
 by_cases h:lo≤l.length
 ·rw[Nat.min_eq_left h]
  by_cases h2:hi≤l.length
  ·rw[Nat.min_eq_left h2]
  ·rw[Nat.min_eq_right (by lia),List.take_of_length_le (by rw[List.length_drop];exact Nat.le_refl _),List.take_of_length_le (by rw[List.length_drop];lia)]
 ·have e1:min lo l.length=l.length:=Nat.min_eq_right (by lia)
  rw[e1,List.drop_length,List.drop_of_length_le (by lia),List.take_nil,List.take_nil]
theorem Nc{l:List Nat}{lo hi:Option PV}{a b:Option Int}(h1:HS lo=some a)(h2:HS hi=some b)(hl:l.length≤1000):Kn σ (pS l) lo hi=some (pS (Iz l a b)):=
 AC h1 (AC h2 (DP (AC (a:=(⟨l.toArray⟩:Str)) rfl (AK (by exact Ag (n:=l.length) hl) rfl))))
theorem GQ{m:Fm}{l:List Nat}{x y z:X}{lo hi:Nat}(h0:ev Φ x m σ=some (pS l,σ))(h1:ev Φ y m σ=some (.int (lo:Int),σ))(h2:ev Φ z m σ=some (.int (hi:Int),σ))(hl:l.length≤900)(a:lo≤1000)(b:hi≤1000) :
  ev Φ (.slc x (.yes y) (.yes z)) m σ=some (pS ((l.drop lo).take (hi-lo)),σ):=
 AE h0 (AE (AE h1 rfl) (AE (AE h2 rfl) (BD ((Nc (EZ a) (EZ b) (by lia)).trans (by rw[Ub])))))
theorem YH{m:Fm}{t x y:X}{b:Bool}{r:PV}{σ₂:St}(h:ev Φ t m σ=some (.bool b,σ))(h2:cond b (ev Φ x m σ) (ev Φ y m σ)=some (r,σ₂)):ev Φ (.ite t x y) m σ=some (r,σ₂):=AE h (AC (a:=b) rfl h2)
theorem MJ(a b:List Nat):Co .Eq (pS a) (pS b) σ=some (a==b):=rfl
theorem Aac(a b:List Nat):Co .NotEq (pS a) (pS b) σ=some (!(a==b)):=rfl
theorem bV{l:List Nat}{c k:Nat}{j:Int}(hl:l.length≤1000)(hk:k≤1000)(h:Gb ⟨l.toArray⟩ ⟨#[c]⟩ (k:Int) (l.length:Int)=j):MO .find (pS l) [pS [c],.int k] σ=some (.int j,σ):=by
 refine DP (AC (a:=(⟨l.toArray⟩:Str)) rfl (BD (DP (AC (a:=(pS [c],.int (k:Int))) rfl (AC (a:=(⟨#[c]⟩:Str)) rfl (AC (a:=(k:Int)) rfl (AK ?_ (congrArg (fun i=>some (PV.int i)) h))))))))
 rw[Bool.and_eq_true,Bool.and_eq_true]
 exact⟨Ag (n:=l.length) hl,decide_eq_true (by lia),decide_eq_true (by show(k:Int)≤100000;lia)⟩
noncomputable def K7:List (List Nat):=[[],[46],[97],[98],[92,46],[91,94,97,93],[91,97,45,98,93],[91,46,97,93],[40,63,33,41],[46],[91,94,46,45,97,93],[91,98,45,98,46,93]]
def BN(d:Fin 12):List Nat:=K7.getD d.val []
theorem Jo:∀d:Fin 12,(BN d).length≤6:=by decide +kernel
noncomputable def lpA:S:=.iff (.cmp .Eq (.slc (.v 0) (.yes (.v 1)) (.yes (.bin .Add (.v 1) (.int 4)))) (.str "(?!)")) (.cons (.ret (.tup (.cons (.int 4) (.cons (.str "") .nil)))) .nil) .nil
noncomputable def lpB:S:=.iff (.cmp .Eq (.idx (.v 0) (.v 1)) (.str "\\")) (.cons (.ret (.tup (.cons (.int 2) (.cons (.slc (.v 0) (.yes (.bin .Add (.v 1) (.int 1))) (.yes (.bin .Add (.v 1) (.int 2)))) .nil)))) .nil) .nil
noncomputable def lpC:S:=.iff (.cmp .NotEq (.idx (.v 0) (.v 1)) (.str "[")) (.cons (.ret (.tup (.cons (.int 1) (.cons (.ite (.cmp .Eq (.idx (.v 0) (.v 1)) (.str ".")) (.str ".ab") (.idx (.v 0) (.v 1))) .nil)))) .nil) .nil
noncomputable def U4:X:=.bi .max (.cons (.int 2) (.cons (.bin .Sub (.bin .Add (.me .find (.v 0) (.cons (.str "]") (.cons (.v 1) .nil))) (.int 1)) (.v 1)) .nil))
noncomputable def X5:X:=.slc (.v 0) (.yes (.bin .Add (.v 1) (.int 1))) (.yes (.bin .Sub (.bin .Add (.v 1) (.v 2)) (.int 1)))
def X8:SL:=match Ra with
 | .cons _ (.cons _ (.cons _ (.cons _ (.cons _ r))))=>r
 | _=>.nil
theorem HG:Ra=.cons lpA (.cons lpB (.cons lpC (.cons (.as 2 U4) (.cons (.as 3 X5) X8)))):=rfl
def QN(l:List Nat)(k:Nat)(o2 o3:Option PV):Fm:=[some (pS l),some (.int k),o2,o3,none,none,none,none,none]
noncomputable def inn:List (Nat×List Nat):=[(5,[94,97]),(6,[97,45,98]),(7,[46,97]),(10,[94,46,45,97]),(11,[98,45,98,46])]
def rP(o:Option (SR×Fm×St)):Option (SR×St):=o.map fun x=>(x.1,x.2.2)
theorem VX(o0 o1:Option PV)(σ:St):inn.map (fun x=>rP (evSL (tab Fy) X8 [o0,o1,some (.int ((x.2.length+2:Nat):Int)),some (pS x.2),none,none,none,none,none] σ))=inn.map (fun x=>some (.ret (.tup [.int ((x.2.length+2:Nat):Int),pS (GO (Fin.ofNat 12 x.1))]),σ)):=by kernel_rfl
theorem jZ{o:Option (SR×Fm×St)}{t:SR}{σ:St}(h:rP o=some (t,σ)):∃m,o=some (t,m,σ):=by
 cases o with
 | none=>cases h
 | some x=>obtain⟨a,b,c⟩:=x;cases (show some (a,c)=some (t,σ) from h);exact⟨b,rfl⟩
variable{pre post:List Nat}
theorem EK(X:List Nat)(a:Nat):(pre++X).drop (pre.length+a)=X.drop a:=by rw[←List.drop_drop,List.drop_left]
theorem Dr(X:List Nat)(a:Nat):(pre++X)[pre.length+a]?=X[a]?:=by rw[List.getElem?_append_right (by lia),Nat.add_sub_cancel_left]
theorem Gq(X:List Nat):(pre++X).length=pre.length+X.length:=List.length_append
section
variable{X:List Nat}{o2 o3:Option PV}
theorem cQ{c:Nat}(hl:(pre++c::X).length≤900)(m:Fm)(σ:St)(h0:ev Φ (.v 0) m σ=some (pS (pre++c::X),σ))(h1:ev Φ (.v 1) m σ=some (.int pre.length,σ)):ev Φ (.idx (.v 0) (.v 1)) m σ=some (pS [c],σ):=
 Ac h0 h1 (Iv (by lia) (by have:=Dr (pre:=pre) (c::X) 0;exact this))
theorem cN(hl:(pre++X).length≤900):ev Φ (.cmp .Eq (.slc (.v 0) (.yes (.v 1)) (.yes (.bin .Add (.v 1) (.int 4)))) (.str "(?!)")) (QN (pre++X) pre.length o2 o3) σ=some (.bool (X.take 4==[40,63,33,41]),σ):=by
 have hp:=Gq (pre:=pre) X
 refine AI (GQ (lo:=pre.length) (hi:=pre.length+4) rfl rfl rfl hl (by lia) (by lia)) (q:=pS [40,63,33,41]) rfl ((MJ _ _).trans ?_)
 have:=EK (pre:=pre) X 0
 rw[Nat.add_zero]at this
 rw[this,Nat.add_sub_cancel_left];rfl
end
theorem Pl{sp:Spec}{ps:List PV}{p q:PV}(h:sp ps σ=some (.val p,σ))(hp:OF σ.length σ 100000 p=some q)(hc:σ.all (Ex σ.length)=true):As sp ps σ=some (.val q,σ):=
 AE h (AC (AC hp rfl) (AK (by rw[List.take_length];exact hc) (by rw[List.take_length])))
theorem PM{d:Fin 12}(h0:d≠0)(hl:(pre++(BN d++post)).length≤900)(c:σ.all (Ex σ.length)=true):PR [pS (pre++(BN d++post)),.int pre.length] σ=some (.val (.tup [.int (BN d).length,pS (GO d)]),σ):=by
 have hp:=Gq (pre:=pre) (BN d++post)
 have fin:∀{m':Fm},evSL (tab Fy) Ra [some (pS (pre++(BN d++post))),some (.int pre.length),none,none,none,none,none,none,none] σ=some (.ret (.tup [.int (BN d).length,pS (GO d)]),m',σ)→PR [pS (pre++(BN d++post)),.int pre.length] σ=some (.val (.tup [.int (BN d).length,pS (GO d)]),σ):=fun h=>
  Pl (Cp h rfl rfl) (NT (Cs ((GD _).more (K':=2) (by decide)) (Cs (DH _) Cv)) _ _ _ (by decide)) c
 have a:=cN (Φ:=tab Fy) (σ:=σ) (X:=BN d++post) (pre:=pre) (o2:=none) (o3:=none) hl
 have key:∀d':Fin 12,d'=d→d'∈[8]∨d'∈[4]∨d'∈[1,2,3,9]∨d'∈[5,6,7,10,11]:=fun d' e=>(by decide +kernel:∀d:Fin 12,d≠0→d∈[8]∨d∈[4]∨d∈[1,2,3,9]∨d∈[5,6,7,10,11]) d' (e▸h0)
 rcases key d rfl with h|h|h|h
 ·cases List.mem_singleton.mp h
  exact fin (by rw[HG];exact AN (Ao a rfl (AN (Bz rfl) rfl)) rfl)
 ·cases List.mem_singleton.mp h
  have b:=cQ (Φ:=tab Fy) (pre:=pre) (c:=92) (X:=46::post) hl (QN (pre++(92::46::post)) pre.length none none) σ rfl rfl
  refine fin (m':=QN (pre++(92::46::post)) pre.length none none) (by
   rw[HG]
   refine AA (AS a rfl rfl) (AN (Ao (AI b (q:=pS [92]) rfl rfl) rfl (AN (Bz (AE (AD rfl (AD (GQ (lo:=pre.length+1) (hi:=pre.length+2) rfl rfl rfl hl (by lia) (by lia)) AG)) ?_)) rfl)) rfl)
   rw[EK,show pre.length+2-(pre.length+1)=1 by lia];rfl)
 ·have b:∀(c:Nat) (X:List Nat),(pre++(c::X)).length≤900→ev (tab Fy) (.idx (.v 0) (.v 1)) (QN (pre++(c::X)) pre.length none none) σ=some (pS [c],σ):=fun c X hl=>cQ hl _ σ rfl rfl
  have go:∀(c:Nat) (h:List Nat),BN d=[c]→(c==92)=false→(c==91)=false→([c]==[40,63,33,41])=false→(c==40)=false→cond (c==46) [46,97,98] [c]=h→GO d=h→PR [pS (pre++(BN d++post)),.int pre.length] σ=some (.val (.tup [.int (BN d).length,pS (GO d)]),σ):=fun c h e1 e2 e3 e4 e5 e6 e7=>by
   rw[e1]at a hl ⊢
   have b:=b c post hl
   refine(fun q=>?_) (fin (m':=QN (pre++(c::post)) pre.length none none))
   rw[e1]at q
   refine q ?_
   rw[HG]
   have it:ev (tab Fy) (.ite (.cmp .Eq (.idx (.v 0) (.v 1)) (.str ".")) (.str ".ab") (.idx (.v 0) (.v 1))) (QN (pre++(c::post)) pre.length none none) σ=some (pS h,σ):=by
    refine YH (b:=(c==46)&&true) (AI b (q:=pS [46]) rfl rfl) ?_
    rw[b,←e6]
    cases c==46<;>rfl
   have e8:evSL (tab Fy) (.cons (.ret (.tup (.cons (.int 1) (.cons (.ite (.cmp .Eq (.idx (.v 0) (.v 1)) (.str ".")) (.str ".ab") (.idx (.v 0) (.v 1))) .nil)))) .nil) (QN (pre++(c::post)) pre.length none none) σ=some (.ret (.tup [.int (1:Nat),pS (GO d)]),QN (pre++(c::post)) pre.length none none,σ):=by
    rw[e7]
    exact AN (Bz (AE (AD rfl (AD it AG)) rfl)) rfl
   refine AA (AS a (congrArg some ?_) rfl) (AA (AS (AI (t:=(c==92)&&true) b (q:=pS [92]) rfl rfl) (congrArg some ?_) rfl) (AN (Ao (AI (t:=!((c==91)&&true)) b (q:=pS [91]) rfl rfl) (congrArg some ?_) e8) rfl))
   ·show((c==40)&&_)=false;rw[e5];rfl
   ·show((c==92)&&true)=false;rw[e2];rfl
   ·show(!((c==91)&&true))=true;rw[e3];rfl
  rcases List.mem_cons.mp h with e|h
  ·subst e;exact go 46 _ rfl rfl rfl rfl rfl rfl rfl
  rcases List.mem_cons.mp h with e|h
  ·subst e;exact go 97 _ rfl rfl rfl rfl rfl rfl rfl
  rcases List.mem_cons.mp h with e|h
  ·subst e;exact go 98 _ rfl rfl rfl rfl rfl rfl rfl
  ·cases List.mem_singleton.mp h;exact go 46 _ rfl rfl rfl rfl rfl rfl rfl
 ·have go:∀(x:List Nat),BN d=91::(x++[93])→(∀c∈x,c≠93)→(d.val,x)∈inn→PR [pS (pre++(BN d++post)),.int pre.length] σ=some (.val (.tup [.int (BN d).length,pS (GO d)]),σ):=fun x e1 e2 e3=>by
   have el:(BN d).length=x.length+2:=by rw[e1,List.length_cons,List.length_append];rfl
   have hr:=List.map_inj_left.mp (VX (some (pS (pre++(BN d++post)))) (some (.int pre.length)) σ) _ e3
   obtain⟨m',hm⟩:=jZ hr
   have eX:BN d++post=91::(x++93::post):=by rw[e1,List.cons_append,List.append_assoc];rfl
   have hpl:(pre++(BN d++post)).length=pre.length+(x.length+2+post.length):=by rw[List.length_append,List.length_append,el]
   have b:=cQ (Φ:=tab Fy) (pre:=pre) (c:=91) (X:=x++93::post) (by rw[←eX];exact hl) (QN (pre++(BN d++post)) pre.length none none) σ (by rw[←eX];rfl) rfl
   have hf:ev (tab Fy) (.me .find (.v 0) (.cons (.str "]") (.cons (.v 1) .nil))) (QN (pre++(BN d++post)) pre.length none none) σ=some (.int ((pre.length+(x.length+1):Nat):Int),σ):=by
    refine DW (p:=pS (pre++(BN d++post))) (ps:=[pS [93],.int pre.length]) rfl rfl (AD rfl (AD rfl AG)) (bV (by lia) (by lia) (Tg (by lia) (by lia) ?_ ?_))
    ·rw[Dr,eX,List.getElem?_cons_succ,List.getElem?_append_right (Nat.le_refl _),Nat.sub_self];rfl
    ·intro i h1 h2
     obtain⟨n,rfl⟩:∃n,i=pre.length+n:=⟨i-pre.length,by lia⟩
     rw[Dr,eX]
     cases n with
     | zero=>exact fun q=>by cases q
     | succ n=>
      rw[List.getElem?_cons_succ,List.getElem?_append_left (by lia)]
      exact fun q=>e2 93 (List.mem_of_getElem? q) rfl
   have hs:ev (tab Fy) U4 (QN (pre++(BN d++post)) pre.length none none) σ=some (.int ((x.length+2:Nat):Int),σ):=by
    refine CT (ps:=[.int 2,.int ((x.length+2:Nat):Int)]) (AD rfl (AD (Az (p:=.int ((pre.length+(x.length+1)+1:Nat):Int)) (q:=.int pre.length) (Az hf rfl rfl) rfl ?_) AG)) (AC rfl (AC rfl (AC rfl ?_)))
    ·show some (PV.int _)=some (PV.int _)
     congr 2;lia
    ·show some (PV.int (if(2:Int)<((x.length+2:Nat):Int) then _ else _))=_
     by_cases q:(2:Int)<((x.length+2:Nat):Int)
     ·rw[if_pos q]
     ·rw[if_neg q];congr 2;lia
   have he:ev (tab Fy) X5 (QN (pre++(BN d++post)) pre.length (some (.int ((x.length+2:Nat):Int))) none) σ=some (pS x,σ):=by
    refine(GQ (lo:=pre.length+1) (hi:=pre.length+(x.length+1)) rfl rfl ?_ hl (by lia) (by lia)).trans ?_
    ·refine Az (p:=.int ((pre.length+(x.length+2):Nat):Int)) (q:=.int 1) rfl rfl ?_
     show some (PV.int _)=some (PV.int _)
     congr 2;lia
    ·rw[EK,eX,show pre.length+(x.length+1)-(pre.length+1)=x.length by lia]
     show some (pS ((x++93::post).take x.length),σ)=_
     rw[List.take_left]
   refine fin (m':=m') ?_
   rw[HG]
   refine AA (AS a (congrArg some ?_) rfl) (AA (AS (AI b (q:=pS [92]) rfl rfl) rfl rfl) (AA (AS (AI b (q:=pS [91]) rfl rfl) rfl rfl) (AA (Am hs) (AA (Am he) ?_))))
   ·rw[eX];rfl
   ·rw[el]
    have hd:Fin.ofNat 12 d.val=d:=Fin.ext (Nat.mod_eq_of_lt d.isLt)
    rw[hd]at hm
    exact hm
  rcases List.mem_cons.mp h with e|h
  ·subst e;exact go [94,97] rfl (by decide) (by decide)
  rcases List.mem_cons.mp h with e|h
  ·subst e;exact go [97,45,98] rfl (by decide) (by decide)
  rcases List.mem_cons.mp h with e|h
  ·subst e;exact go [46,97] rfl (by decide) (by decide)
  rcases List.mem_cons.mp h with e|h
  ·subst e;exact go [94,46,45,97] rfl (by decide) (by decide)
  ·cases List.mem_singleton.mp h;exact go [98,45,98,46] rfl (by decide) (by decide)
end
end Sh
namespace Sh
open PySem PySem.Calls
inductive Tok where
 | op | cl | st | pc (i:Nat)
abbrev IY:=List (Kd×List Nat)
section
variable(row:List (Fin 12))
def Cg:Tok→List Nat
 | .op=>[40,63,62,46,42,63] | .cl=>[41] | .st=>[46,42] | .pc i=>BN (row.getD i 0)
def tt(r:List Tok):List Nat:=r.flatMap (Cg row)
def zH:Tok→IY→IY
 | .op,D=>D++[(.held,[])]
 | .cl,D=>D
 | .st,D=>D++[(.last,[])]
 | .pc i,D=>Ij D i
noncomputable def Dx(x:Kd×List Nat):List Tok:=match x.1 with
 | .bare=>x.2.map .pc
 | .held=>.op::(x.2.map .pc++[.cl])
 | .last=>.st::x.2.map .pc
def IG(ps:IY):List Nat:=tt row (ps.flatMap Dx)
def Bw(ps:IY):List Nat:=[40,63,115,58]++(IG row ps++[41,92,90])
def Fb(x:Kd×List Nat):PO:=.lst (x.2.map fun i=>pS (GO (row.getD i 0)))
def Gv(n:Nat)(x:Kd×List Nat):PV:=.tup [.str (Ic x.1),.loc n]
def DK:Nat→IY→List PV
 | _,[]=>[]
 | n,y::ys=>Gv n y::DK (n+1) ys
def By(S:PO):IY→St
 | []=>[]
 | x::xs=>S::Fb row x::.lst (Gv 1 x::DK 3 xs)::xs.map (Fb row)
variable{row}
theorem Zq:∀d:Fin 12,d≠0→∃c Y,BN d=c::Y∧(c==41)=false∧(c==42)=false:=fun d h=>by
 have:∀d:Fin 12,d≠0→(BN d).head?.isSome=true∧(BN d).head?≠some 41∧(BN d).head?≠some 42:=by decide +kernel
 obtain⟨h1,h2,h3⟩:=this d h
 cases hp:BN d with
 | nil=>rw[hp]at h1;cases h1
 | cons c Y=>rw[hp]at h2 h3;exact⟨c,Y,rfl,beq_false_of_ne fun q=>h2 (congrArg some q),beq_false_of_ne fun q=>h3 (congrArg some q)⟩
noncomputable def Lg(row:List (Fin 12))(x:Tok):Prop:=∀i,x=.pc i→row.getD i 0≠0
theorem Jc(x:Tok)(r:List Tok):tt row (x::r)=Cg row x++tt row r:=List.flatMap_cons
theorem vK{r:List Tok}(h:∀x∈r,Lg row x):((tt row r).take 1==[42])=false:=by
 cases r with
 | nil=>rfl
 | cons x r=>
  rw[Jc]
  cases x with
  | op=>rfl
  | cl=>rfl
  | st=>rfl
  | pc i=>
   obtain⟨c,Y,e,_,e2⟩:=Zq _ (h _ (.head _) i rfl)
   show((BN (row.getD i 0)++tt row r).take 1==[42])=false
   rw[e]
   show((c==42)&&true)=false
   rw[e2];rfl
theorem TI{l r c:List Nat}{i n:Nat}(h1:i<l.length)(h2:i<n)(h:l[i]?≠c[i]?):((l++r).take n==c)=false:=
 beq_false_of_ne fun q=>h (by rw[←q,List.getElem?_take_of_lt h2,List.getElem?_append_left h1])
theorem mC:∀(d:Fin 12) (rest:List Nat),d≠0→((BN d++rest).take 6==[40,63,62,46,42,63])=false:=fun d rest h=>
 have:∀d:Fin 12,d≠0→∃i:Fin 6,i.val<(BN d).length∧(BN d)[i.val]?≠[40,63,62,46,42,63][i.val]?:=by decide +kernel
 (this d h).elim fun i q=>TI q.1 i.2 q.2
theorem tN:∀(d:Fin 12) (rest:List Nat),d≠0→(rest.take 1==[42])=false→((BN d++rest).take 2==[46,42])=false:=fun d rest h h2=>
 have:∀d:Fin 12,d≠0→BN d=[46]∨∃i:Fin 2,i.val<(BN d).length∧(BN d)[i.val]?≠[46,42][i.val]?:=by decide +kernel
 (this d h).elim (fun q=>by rw[q];exact h2) fun q=>q.elim fun i q=>TI q.1 i.2 q.2
section
variable{S:PO}{σ:St}{Φ:Nat→Option Spec}
theorem IK:∀(n:Nat) (xs:IY),(DK n xs).length=xs.length
 | _,[]=>rfl
 | n,y::ys=>congrArg (·+1) (IK (n+1) ys)
theorem EI:∀(n:Nat) (xs:IY) (y:Kd×List Nat),DK n (xs++[y])=DK n xs++[Gv (n+xs.length) y]
 | n,[],y=>rfl
 | n,x::xs,y=>by
  show Gv n x::DK (n+1) (xs++[y])=Gv n x::(DK (n+1) xs++[Gv (n+(xs.length+1)) y])
  rw[EI (n+1) xs y,show n+1+xs.length=n+(xs.length+1) by lia]
theorem Sd(n k:Nat)(x:Kd×List Nat)(h:n<k):uO k (Gv n x)=true:=by
 show(true&&(decide (n<k)&&true))=true
 rw[decide_eq_true h];rfl
theorem Ks{n:Nat}{l:List PV}{p:PV}(h:σ[n]?=some (.lst (l++[p])))(hl:l.length≤900):CC σ (.loc n) (.int (-1))=some p:=by
 refine AK rfl (Av rfl (Av rfl (Av rfl (AC (ER h) (AK (Ag (by rw[List.length_append];show l.length+1≤1000;lia)) (AC (a:=l.length) ?_ ?_))))))
 ·rw[List.length_append];exact PyProof.Rows.seqIndex?_neg_one (Nat.succ_pos _)
 ·rw[List.getElem?_append_right (Nat.le_refl _),Nat.sub_self];rfl
theorem nG{m:Fm}{i:Nat}{op:Operator}{x:X}{p q r:PV}{σ₁:St}(h0:ZW m i=some p)(h:ev Φ x m σ=some (q,σ₁))(h2:cP op p q=some r):Ab Φ (.aug i op x) m σ=some (.next,m.set i (some r),σ₁):=AC h0 (AE h (AC h2 rfl))
theorem XU{is:List Nat}{x:X}{m m':Fm}{σ₁:St}{p:PV}(h:ev Φ x m σ=some (p,σ₁))(h2:Cr is p m=some m'):Ab Φ (.asT is x) m σ=some (.next,m',σ₁):=AE h (AC h2 rfl)
theorem LK{x:Kd×List Nat}{xs:IY}{m:Fm}{k:Kd}(h2:ev Φ (.v 2) m (By row S (x::xs))=some (.loc 2,By row S (x::xs)))(hl:xs.length≤100) :
  Ab Φ (.ex (.me .append (.v 2) (.cons (.tup (.cons (.str (Ic k)) (.cons (.mlist .nil) .nil))) .nil))) m (By row S (x::xs))=some (.next,m,By row S (x::(xs++[(k,[])]))):=by
 have e1:ev Φ (.tup (.cons (.str (Ic k)) (.cons (.mlist .nil) .nil))) m (By row S (x::xs))=some (Gv (3+xs.length) (k,[]),By row S (x::xs)++[.lst []]):=by
  refine(AE (AD rfl (AD (p:=.loc (By row S (x::xs)).length) rfl AG)) rfl).trans ?_
  show some (PV.tup [.str (Ic k),.loc (By row S (x::xs)).length],_)=_
  rw[show(By row S (x::xs)).length=3+xs.length by show((xs.map (Fb row)).length+1+1+1)=_;rw[List.length_map];lia];rfl
 refine Ea (p:=.none) (DW h2 (DG (n:=2) rfl) (AD e1 AG) ((Br (σ:=By row S (x::xs)++[.lst []]) (n:=2) (l:=Gv 1 x::DK 3 xs) rfl (by rw[List.length_cons,IK];lia)).trans ?_))
 show some (PV.none,S::Fb row x::.lst (Gv 1 x::(DK 3 xs++[Gv (3+xs.length) (k,[])]))::(xs.map (Fb row)++[.lst []]))=_
 show _=some (PV.none,S::Fb row x::.lst (Gv 1 x::DK 3 (xs++[(k,[])]))::(xs++[(k,[])]).map (Fb row))
 rw[EI,List.map_append];rfl
theorem Py{D:IY}{m:Fm}{i:Nat}(hne:D≠[])(hl:D.length≤100)(ht:∀x∈D,x.2.length≤100)(h2:ev Φ (.v 2) m (By row S D)=some (.loc 2,By row S D))(h5:ev Φ (.v 5) m (By row S D)=some (pS (GO (row.getD i 0)),By row S D)) :
  Ab Φ (.ex (.me .append (.idx (.idx (.v 2) (.neg (.int 1))) (.int 1)) (.cons (.v 5) .nil))) m (By row S D)=some (.next,m,By row S (Ij D i)):=by
 have go:∀(n:Nat) (y:Kd×List Nat) (l:List PV),(By row S D)[2]?=some (.lst (l++[Gv n y]))→l.length≤900→(By row S D)[n]?=some (Fb row y)→y.2.length≤100→(By row S D).set n (Fb row (y.1,y.2++[i]))=By row S (Ij D i) →
   Ab Φ (.ex (.me .append (.idx (.idx (.v 2) (.neg (.int 1))) (.int 1)) (.cons (.v 5) .nil))) m (By row S D)=some (.next,m,By row S (Ij D i)):=fun n y l e1 e2 e3 e4 e5=>by
  refine Ea (p:=.none) (DW (Ac (p:=Gv n y) (q:=.int 1) (r:=.loc n) (Ac h2 rfl (Ks e1 e2)) rfl rfl) (DG e3) (AD h5 AG) ((Br e3 (by rw[List.length_map];lia)).trans ?_))
  rw[←e5]
  unfold Fb
  rw[List.map_append];rfl
 cases D with
 | nil=>exact absurd rfl hne
 | cons x xs=>
  rcases List.eq_nil_or_concat xs with e|⟨ys,y,e⟩
  ·subst e
   exact go 1 x [] rfl (by decide) rfl (ht x (.head _)) rfl
  ·rw[List.concat_eq_append]at e
   subst e
   have hyl:ys.length≤100:=by rw[List.length_cons,List.length_append]at hl;lia
   refine go (3+ys.length) y (Gv 1 x::DK 3 ys) ?_ (by rw[List.length_cons,IK];lia) ?_ (ht y (by simp)) ?_
   ·show some (PO.lst (Gv 1 x::DK 3 (ys++[y])))=_
    rw[EI];rfl
   ·rw[show 3+ys.length=ys.length+3 by lia]
    show((ys++[y]).map (Fb row))[ys.length]?=_
    rw[List.getElem?_map,List.getElem?_append_right (Nat.le_refl _),Nat.sub_self];rfl
   ·have e1:Ij (x::(ys++[y])) i=x::(ys++[(y.1,y.2++[i])]):=by
     unfold Ij
     rw[show(x::(ys++[y])).getLast?=some y by rw[←List.cons_append];exact List.getLast?_concat,show(x::(ys++[y])).dropLast=x::ys by rw[←List.cons_append];exact List.dropLast_concat];rfl
    rw[e1,show 3+ys.length=ys.length+3 by lia]
    show S::Fb row x::.lst (Gv 1 x::DK 3 (ys++[y]))::((ys++[y]).map (Fb row)).set ys.length (Fb row (y.1,y.2++[i]))=S::Fb row x::.lst (Gv 1 x::DK 3 (ys++[(y.1,y.2++[i])]))::(ys++[(y.1,y.2++[i])]).map (Fb row)
    rw[EI,EI,List.map_append,List.map_append]
    have:(ys.map (Fb row)++[y].map (Fb row)).set ys.length (Fb row (y.1,y.2++[i]))=ys.map (Fb row)++[(y.1,y.2++[i])].map (Fb row):=by
     rw[List.set_append_right _ _ (by rw[List.length_map];exact Nat.le_refl _),List.length_map,Nat.sub_self];rfl
    rw[this];rfl
end
end
section
variable{row:List (Fin 12)}{S:PO}{σ:St}{Φ:Nat→Option Spec}
theorem Od(k:Nat):∀(n:Nat) (xs:IY),n+xs.length≤k→clL k (DK n xs)=true
 | _,[],_=>rfl
 | n,y::ys,h=>by
  rw[List.length_cons]at h
  exact Bool.and_eq_true_iff.mpr ⟨Sd n k y (by lia),Od k (n+1) ys (by lia)⟩
theorem Tp(n:Nat)(x:Kd×List Nat):Ex n (Fb row x)=true:=Bool.and_eq_true_iff.mpr ⟨Dl (f:=fun i=>pS (GO (row.getD i 0))) (fun _ _=>rfl) n x.2,rfl⟩
theorem dU(hS:∀n,Ex n S=true){D:IY}(hne:D≠[]):(By row S D).all (Ex (By row S D).length)=true:=by
 cases D with
 | nil=>exact absurd rfl hne
 | cons x xs=>
  have hl:(By row S (x::xs)).length=xs.length+3:=by show(xs.map (Fb row)).length+1+1+1=_;rw[List.length_map]
  rw[hl]
  show(Ex _ S&&(Ex _ (Fb row x)&&(Ex _ (.lst (Gv 1 x::DK 3 xs))&&(xs.map (Fb row)).all (Ex (xs.length+3)))))=true
  have hE:clL (xs.length+3) (Gv 1 x::DK 3 xs)=true:=Bool.and_eq_true_iff.mpr ⟨Sd 1 (xs.length+3) x (by lia),Od (xs.length+3) 3 xs (by lia)⟩
  have hO:Ex (xs.length+3) (.lst (Gv 1 x::DK 3 xs))=true:=Bool.and_eq_true_iff.mpr ⟨hE,rfl⟩
  rw[hS,Tp,hO]
  rw[Bool.true_and,Bool.true_and,Bool.true_and,List.all_map]
  exact List.all_eq_true.mpr fun y _=>Tp _ y
def IQ(text body:List Nat)(k:Nat)(o4 o5:Option PV):Fm:=[some (pS text),some (pS body),some (.loc 2),some (.int k),o4,o5]
noncomputable def eA:X:=.cmp .Lt (.v 3) (.bi .len (.cons (.v 1) .nil))
noncomputable def I1:X:=.cmp .Eq (.slc (.v 1) (.yes (.v 3)) (.yes (.bin .Add (.v 3) (.int 6)))) (.str "(?>.*?")
noncomputable def L4:X:=.cmp .Eq (.slc (.v 1) (.yes (.v 3)) (.yes (.bin .Add (.v 3) (.int 2)))) (.str ".*")
noncomputable def C0:X:=.cmp .Eq (.idx (.v 1) (.v 3)) (.str ")")
noncomputable def paP:SL:=.cons (.asT [4,5] (.call 16 (.cons (.v 1) (.cons (.v 3) .nil)))) (.cons (.ex (.me .append (.idx (.idx (.v 2) (.neg (.int 1))) (.int 1)) (.cons (.v 5) .nil))) (.cons (.aug 3 .Add (.v 4)) .nil))
def XS(k:Kd)(n:Int):SL:=.cons (.ex (.me .append (.v 2) (.cons (.tup (.cons (.str (Ic k)) (.cons (.mlist .nil) .nil))) .nil))) (.cons (.aug 3 .Add (.int n)) .nil)
def Y0:SL:=.cons (.iff I1 (XS .held 6) (.cons (.iff L4 (XS .last 2) (.cons (.iff C0 (.cons (.aug 3 .Add (.int 1)) .nil) paP) .nil)) .nil)) .nil
noncomputable def paX:X:=.bo .Or (.cons (.cmp .NotEq (.slc (.v 0) .no (.yes (.int 4))) (.str "(?s:")) (.cons (.cmp .NotEq (.slc (.v 0) (.yes (.neg (.int 3))) .no) (.str ")\\Z")) .nil))
theorem Uv:QX=.cons (.iff paX (.cons (.ret (.mlist (.cons (.tup (.cons (.str "none") (.cons (.mlist .nil) .nil))) .nil))) .nil) .nil) (.cons (.as 1 (.slc (.v 0) (.yes (.int 4)) (.yes (.neg (.int 3))))) (.cons (.as 2 (.mlist (.cons (.tup (.cons (.str "bare") (.cons (.mlist .nil) .nil))) .nil))) (.cons (.as 3 (.int 0)) (.cons (.wh eA Y0) (.cons (.ret (.v 2)) .nil))))):=rfl
variable{text pre X:List Nat}{o4 o5:Option PV}
theorem Gh(pre X:List Nat)(n:Nat):((pre++X).drop pre.length).take (pre.length+n-pre.length)=X.take n:=by
 have:=EK (pre:=pre) X 0
 rw[Nat.add_zero]at this
 rw[this,Nat.add_sub_cancel_left];rfl
theorem gF(hl:(pre++X).length≤900):ev Φ I1 (IQ text (pre++X) pre.length o4 o5) σ=some (.bool (X.take 6==[40,63,62,46,42,63]),σ):=by
 have hp:=Gq (pre:=pre) X
 refine AI (GQ (lo:=pre.length) (hi:=pre.length+6) rfl rfl rfl hl (by lia) (by lia)) (q:=pS [40,63,62,46,42,63]) rfl ((MJ _ _).trans ?_)
 rw[Gh]
theorem aU(hl:(pre++X).length≤900):ev Φ L4 (IQ text (pre++X) pre.length o4 o5) σ=some (.bool (X.take 2==[46,42]),σ):=by
 have hp:=Gq (pre:=pre) X
 refine AI (GQ (lo:=pre.length) (hi:=pre.length+2) rfl rfl rfl hl (by lia) (by lia)) (q:=pS [46,42]) rfl ((MJ _ _).trans ?_)
 rw[Gh]
theorem Th{c:Nat}(hl:(pre++c::X).length≤900):ev Φ C0 (IQ text (pre++c::X) pre.length o4 o5) σ=some (.bool (c==41),σ):=by
 refine AI (Ac (p:=pS (pre++c::X)) (q:=.int pre.length) rfl rfl (Iv (c:=c) (by lia) (by have:=Dr (pre:=pre) (c::X) 0;exact this))) (q:=pS [41]) rfl ((MJ _ _).trans ?_)
 show some ((c==41)&&true)=_
 rw[Bool.and_true]
theorem Wm{body:List Nat}{k n:Nat}{x:Sh.X}(h:ev Φ x (IQ text body k o4 o5) σ=some (.int (n:Int),σ)):Ab Φ (.aug 3 .Add x) (IQ text body k o4 o5) σ=some (.next,IQ text body (k+n) o4 o5,σ):=
 nG (p:=.int (k:Int)) (r:=.int ((k+n:Nat):Int)) rfl h (DP (AC rfl (AC rfl rfl)))
inductive sU(row:List (Fin 12))(S:PO)(text body:List Nat)(F:IY):Nat→Fm→St→Prop
 | mk {r:List Tok} {D:IY} {pre:List Nat} {o4 o5:Option PV} (hb:body=pre++tt row r) (hr:∀x∈r,Lg row x) (hne:D≠[]) (hl:D.length+r.length≤30) (ht:∀x∈D,x.2.length+r.length≤30) (e:r.foldl (fun D x=>zH x D) D=F) :
   sU row S text body F r.length (IQ text body pre.length o4 o5) (By row S D)
theorem Ku{D:IY}{i:Nat}:(Ij D i).length=D.length:=by
 unfold Ij
 cases h:D.getLast? with
 | none=>rfl
 | some x=>
  obtain⟨k,ts⟩:=x
  show(D.dropLast++[(k,ts++[i])]).length=D.length
  rw[List.length_append,List.length_dropLast]
  cases D with
  | nil=>cases h
  | cons a b=>show(b.length+1-1)+1=b.length+1;lia
theorem TJ{D:IY}{i n:Nat}(h:∀x∈D,x.2.length≤n):∀x∈Ij D i,x.2.length≤n+1:=fun x hx=>by
 unfold Ij at hx
 cases hg:D.getLast? with
 | none=>rw[hg]at hx;exact Nat.le_succ_of_le (h x hx)
 | some y=>
  obtain⟨k,ts⟩:=y
  rw[hg]at hx
  rcases List.mem_append.mp (show x∈D.dropLast++[(k,ts++[i])] from hx) with q|q
  ·exact Nat.le_succ_of_le (h x ((List.dropLast_sublist D).subset q))
  ·rw[List.mem_singleton.mp q]
   have:=h _ (List.mem_of_getLast? hg)
   show(ts++[i]).length≤n+1
   rw[List.length_append];exact Nat.succ_le_succ this
theorem Mq(hS:∀n,Ex n S=true){body:List Nat}{F:IY}(hbl:body.length≤900){k:Nat}{m:Fm}{σ:St}(hk:k<WH)(I:sU row S text body F k m σ) :
  ∃m' σ',ED (Gg (tab Ci) eA) (evSL (tab Ci) Y0) WH m σ=some (.next,m',σ')∧∃kk o4 o5,m'=IQ text body kk o4 o5∧σ'=By row S F:=by
 refine GL (I:=sU row S text body F) (fun k m σ I=>?_) WH k m σ hk I
 cases I with
 | @mk r D pre o4 o5 hb hr hne hl ht e=>
 have tst1:Gg (tab Ci) eA (IQ text body pre.length o4 o5) (By row S D)=some (decide (pre.length<body.length),By row S D):=by
  refine AE (AI (p:=.int pre.length) (q:=.int body.length) (t:=decide (pre.length<body.length)) rfl (GH (i:=1) (by lia) rfl) ?_) rfl
  exact congrArg some (decide_eq_decide.mpr Int.ofNat_lt)
 cases r with
 | nil=>
  have:body.length=pre.length:=by rw[hb];show(pre++[]).length=_;rw[List.append_nil]
  rw[decide_eq_false (by lia)]at tst1
  exact .stop tst1 ⟨pre.length,o4,o5,rfl,by rw[←e];rfl⟩
 | cons x r=>
  rw[Jc]at hb
  have hx:=hr x (.head _)
  have hr':∀y∈r,Lg row y:=fun y hy=>hr y (.tail _ hy)
  rw[List.length_cons]at hl
  have ht':∀y∈D,y.2.length≤29-r.length:=fun y hy=>by have:=ht y hy;rw[List.length_cons]at this;lia
  subst hb
  have hX:(pre++(Cg row x++tt row r)).length=pre.length+((Cg row x).length+(tt row r).length):=by rw[List.length_append,List.length_append]
  have a:=gF (Φ:=tab Ci) (σ:=By row S D) (text:=text) (pre:=pre) (X:=Cg row x++tt row r) (o4:=o4) (o5:=o5) hbl
  have b:=aU (Φ:=tab Ci) (σ:=By row S D) (text:=text) (pre:=pre) (X:=Cg row x++tt row r) (o4:=o4) (o5:=o5) hbl
  have nxt:∀(n:Nat),(Cg row x).length=n→IQ text (pre++(Cg row x++tt row r)) (pre.length+n)=IQ text (pre++(Cg row x++tt row r)) (pre++Cg row x).length:=fun n h=>by rw[List.length_append,h]
  have mk':∀{D':IY} {o4 o5:Option PV},D'=zH x D→D'≠[]→D'.length≤D.length+1→(∀y∈D',y.2.length≤30-r.length)→sU row S text (pre++(Cg row x++tt row r)) F r.length (IQ text (pre++(Cg row x++tt row r)) (pre++Cg row x).length o4 o5) (By row S D'):=fun {D' o4 o5} h1 h2 h3 h4=>
   .mk (by rw[List.append_assoc]) hr' h2 (by lia) (fun y hy=>by have:=h4 y hy;lia) (by rw[←e,h1];rfl)
  have newp:∀(kk:Kd) (n:Nat) {m:Fm},(D++[(kk,[])]:IY)≠[]:=fun _ _ _ q=>by have:=congrArg List.length q;rw[List.length_append]at this;cases this
  obtain⟨x0,xs,rfl⟩:∃x0 xs,D=x0::xs:=by
   cases D with
   | nil=>exact absurd rfl hne
   | cons y0 ys0=>exact⟨y0,ys0,rfl⟩
  rw[List.length_cons]at hl
  have mem':∀(kk:Kd),∀y∈((x0::xs)++[(kk,[])]:IY),y.2.length≤30-r.length:=fun kk y hy=>(List.mem_append.mp hy).elim (fun q=>by have:=ht' y q;lia) fun q=>by rw[List.mem_singleton.mp q];exact Nat.zero_le _
  cases x with
  | op=>
   have tst2:Gg (tab Ci) eA (IQ text (pre++(Cg row .op++tt row r)) pre.length o4 o5) (By row S (x0::xs))=some (true,By row S (x0::xs)):=by rw[tst1,decide_eq_true (by rw[hX];show _<_+(6+_);lia)]
   refine .go (r:=.next) (k':=r.length) tst2 (AA (Ao a rfl (AA (LK (k:=.held) rfl (by lia)) (AA (Wm (n:=6) rfl) rfl))) rfl) (.inl rfl) (Nat.lt_succ_self _) ?_
   rw[nxt 6 rfl]
   exact mk' rfl (newp .held 0 (m:=[])) (by rw[←List.cons_append,List.length_append];exact Nat.le_refl _) (mem' .held)
  | st=>
   have tst2:Gg (tab Ci) eA (IQ text (pre++(Cg row .st++tt row r)) pre.length o4 o5) (By row S (x0::xs))=some (true,By row S (x0::xs)):=by rw[tst1,decide_eq_true (by rw[hX];show _<_+(2+_);lia)]
   refine .go (r:=.next) (k':=r.length) tst2 (AA (AS a rfl (AA (Ao b rfl (AA (LK (k:=.last) rfl (by lia)) (AA (Wm (n:=2) rfl) rfl))) rfl)) rfl) (.inl rfl) (Nat.lt_succ_self _) ?_
   rw[nxt 2 rfl]
   exact mk' rfl (newp .last 0 (m:=[])) (by rw[←List.cons_append,List.length_append];exact Nat.le_refl _) (mem' .last)
  | cl=>
   have tst2:Gg (tab Ci) eA (IQ text (pre++(Cg row .cl++tt row r)) pre.length o4 o5) (By row S (x0::xs))=some (true,By row S (x0::xs)):=by rw[tst1,decide_eq_true (by rw[hX];show _<_+(1+_);lia)]
   have c:=Th (Φ:=tab Ci) (σ:=By row S (x0::xs)) (text:=text) (pre:=pre) (c:=41) (X:=tt row r) (o4:=o4) (o5:=o5) hbl
   refine .go (r:=.next) (k':=r.length) tst2 (AA (AS a rfl (AA (AS b rfl (AA (Ao c rfl (AA (Wm (n:=1) rfl) rfl)) rfl)) rfl)) rfl) (.inl rfl) (Nat.lt_succ_self _) ?_
   rw[nxt 1 rfl]
   exact mk' rfl (fun q=>nomatch q) (by rw[List.length_cons];lia) (fun y hy=>by have:=ht' y hy;lia)
  | pc i=>
   have h0:row.getD i 0≠0:=hx i rfl
   have tl:=Jo (row.getD i 0)
   obtain⟨c,Y,e1,e2,e3⟩:=Zq _ h0
   have el:(BN (row.getD i 0)).length=Y.length+1:=by rw[e1];rfl
   have tst2:Gg (tab Ci) eA (IQ text (pre++(Cg row (.pc i)++tt row r)) pre.length o4 o5) (By row S (x0::xs))=some (true,By row S (x0::xs)):=by rw[tst1,decide_eq_true (by rw[hX];show _<_+((BN (row.getD i 0)).length+_);lia)]
   have a':ev (tab Ci) I1 (IQ text (pre++(Cg row (.pc i)++tt row r)) pre.length o4 o5) (By row S (x0::xs))=some (.bool false,By row S (x0::xs)):=by rw[a];show some (PV.bool ((BN (row.getD i 0)++tt row r).take 6==_),_)=_;rw[mC _ _ h0]
   have b':ev (tab Ci) L4 (IQ text (pre++(Cg row (.pc i)++tt row r)) pre.length o4 o5) (By row S (x0::xs))=some (.bool false,By row S (x0::xs)):=by rw[b];show some (PV.bool ((BN (row.getD i 0)++tt row r).take 2==_),_)=_;rw[tN _ _ h0 (vK hr')]
   have c':ev (tab Ci) C0 (IQ text (pre++(Cg row (.pc i)++tt row r)) pre.length o4 o5) (By row S (x0::xs))=some (.bool false,By row S (x0::xs)):=by
    have:=Th (Φ:=tab Ci) (σ:=By row S (x0::xs)) (text:=text) (pre:=pre) (c:=c) (X:=Y++tt row r) (o4:=o4) (o5:=o5) (by rw[←List.cons_append,←e1];exact hbl)
    rw[←List.cons_append,←e1,e2]at this
    exact this
   have pr:=PM (σ:=By row S (x0::xs)) (pre:=pre) (post:=tt row r) h0 hbl (dU hS (fun q=>nomatch q))
   have as:Ab (tab Ci) (.asT [4,5] (.call 16 (.cons (.v 1) (.cons (.v 3) .nil)))) (IQ text (pre++(Cg row (.pc i)++tt row r)) pre.length o4 o5) (By row S (x0::xs))=some (.next,IQ text (pre++(Cg row (.pc i)++tt row r)) pre.length (some (.int (BN (row.getD i 0)).length)) (some (pS (GO (row.getD i 0)))),By row S (x0::xs)):=
    XU (Ai (AD rfl (AD rfl AG)) rfl pr) rfl
   have ad:=Py (Φ:=tab Ci) (row:=row) (S:=S) (i:=i) (D:=x0::xs) (m:=IQ text (pre++(Cg row (.pc i)++tt row r)) pre.length (some (.int (BN (row.getD i 0)).length)) (some (pS (GO (row.getD i 0))))) hne (by rw[List.length_cons];lia) (fun y hy=>by have:=ht' y hy;lia) rfl rfl
   refine .go (r:=.next) (k':=r.length) tst2 (AA (AS a' rfl (AA (AS b' rfl (AA (AS c' rfl (AA as (AA ad (AA (Wm (n:=(BN (row.getD i 0)).length) rfl) rfl)))) rfl)) rfl)) rfl) (.inl rfl) (Nat.lt_succ_self _) ?_
   rw[nxt (BN (row.getD i 0)).length rfl]
   refine mk' rfl (fun q=>?_) (by rw[Ku];lia) (fun y hy=>?_)
   ·have:=congrArg List.length q
    rw[Ku]at this;cases this
   ·have:=TJ (i:=i) ht' y hy;lia
theorem Rn{τ:St}{n:Nat}{y:Kd×List Nat}(hn:1≤n)(h:τ[n]?=some (Fb row y))(ht:y.2.length≤30):∀k,49≤k→OF 1 τ k (Gv n y)=some (BZ row y):=fun k hk=>
 So (K:=46) (Fr (K:=45) (fun k hk=>DH _ _ _ _ (by lia)) (Fr (K:=44) (fun k hk=>Fl (K:=40) (l:=y.2.map fun i=>pS (GO (row.getD i 0))) hn h ((Cf fun a _=>DH _).more (by lia)) (by lia)) fun k hk=>Cv _ _ _ (by lia))) k (by lia)
theorem NZ{τ:St}:∀(xs:IY) (n:Nat),1≤n→(∀j y,xs[j]?=some y→τ[n+j]?=some (Fb row y))→(∀x∈xs,x.2.length≤30)→∀k,xs.length+50≤k→fzL 1 τ k (DK n xs)=some (xs.map (BZ row))
 | [],n,_,_,_,k,hk=>Cv _ _ _ (by lia)
 | y::ys,n,hn,h,ht,k,hk=>by
  rw[List.length_cons]at hk
  obtain⟨k,rfl⟩:∃j,k=j+1:=⟨k-1,by lia⟩
  exact AC (a:=BZ row y) (Rn hn (h 0 y rfl) (ht y (.head _)) k (by lia)) (AC (NZ ys (n+1) (by lia) (fun j z hz=>by rw[show n+1+j=n+(j+1) by lia];exact h (j+1) z hz) (fun x hx=>ht x (.tail _ hx)) k (by lia)) rfl)
theorem Ud{α:Type}(A body B:List α)(hB:0<B.length):Iz (A++(body++B)) (some (A.length:Int)) (some (-(B.length:Int)))=body:=by
 show((A++(body++B)).drop (clipAt _ A.length)).take (clipAt _ (-(B.length:Int))-clipAt _ A.length)=body
 rw[clipAt_nat]
 have h1:clipAt (A++(body++B)).length (-(B.length:Int))=A.length+body.length:=by
  rw[clipAt_neg _ _ hB,List.length_append,List.length_append,←Nat.add_assoc,Nat.add_sub_cancel]
 rw[h1,Nat.min_eq_left (by rw[List.length_append];lia),List.drop_left,Nat.add_sub_cancel_left,List.take_left]
theorem WQ{α:Type}(A B:List α)(hB:0<B.length):Iz (A++B) (some (-(B.length:Int))) none=B:=by
 show((A++B).drop (clipAt _ (-(B.length:Int)))).take ((A++B).length-clipAt _ (-(B.length:Int)))=B
 have h1:clipAt (A++B).length (-(B.length:Int))=A.length:=by
  rw[clipAt_neg _ _ hB,List.length_append,Nat.add_sub_cancel]
 rw[h1,List.drop_left,List.length_append,Nat.add_sub_cancel_left,List.take_length]
theorem PX(hS:∀n,Ex n S=true){ps:IY}{ts:List Nat}(hps:∀x∈ps.flatMap Dx,Lg row x)(hb:(Bw row ps).length≤900)(e:(ps.flatMap Dx).foldl (fun D x=>zH x D) [(.bare,[])]=ps)(hl:(ps.flatMap Dx).length≤20)(hlen:ps.length≤10)(ht:∀x∈ps,x.2.length≤20)(hne:ps≠[]) :
  SV [pS (Bw row ps)] [S]=some (.val (.lst (ps.map (BZ row))),[S]):=by
 obtain⟨x,xs,rfl⟩:∃x xs,ps=x::xs:=by
  cases ps with
  | nil=>exact absurd rfl hne
  | cons a b=>exact⟨a,b,rfl⟩
 have hbl:(IG row (x::xs)).length≤900:=by
  unfold Bw at hb;rw[List.length_append,List.length_append]at hb
  lia
 have hs:∀l:List Nat,l.length≤900→HS (some (.int (-3)))=some (some (-3)):=fun _ _=>rfl
 have c1:ev (tab Ci) (.cmp .NotEq (.slc (.v 0) .no (.yes (.int 4))) (.str "(?s:")) [some (pS (Bw row (x::xs))),none,none,none,none,none] [S]=some (.bool false,[S]):=by
  refine AI (p:=pS [40,63,115,58]) (q:=pS [40,63,115,58]) (AE rfl (AE rfl (AE rfl (BD ((Nc (a:=none) (b:=some ((4:Nat):Int)) rfl (EZ (by decide)) (by lia)).trans ?_))))) rfl rfl
  rw[IN];rfl
 have c2:ev (tab Ci) (.cmp .NotEq (.slc (.v 0) (.yes (.neg (.int 3))) .no) (.str ")\\Z")) [some (pS (Bw row (x::xs))),none,none,none,none,none] [S]=some (.bool false,[S]):=by
  refine AI (p:=pS [41,92,90]) (q:=pS [41,92,90]) (AE rfl (AE rfl (AE rfl (BD ((Nc (a:=some (-(([41,92,90]:List Nat).length:Int))) (b:=none) rfl rfl (by lia)).trans ?_))))) rfl rfl
  unfold Bw
  rw[←List.append_assoc,WQ _ _ (by decide)]
 have e1:Ab (tab Ci) (.as 1 (.slc (.v 0) (.yes (.int 4)) (.yes (.neg (.int 3))))) [some (pS (Bw row (x::xs))),none,none,none,none,none] [S]=some (.next,[some (pS (Bw row (x::xs))),some (pS (IG row (x::xs))),none,none,none,none],[S]):=by
  refine Am (AE rfl (AE rfl (AE rfl (BD ((Nc (a:=some (([40,63,115,58]:List Nat).length:Int)) (b:=some (-(([41,92,90]:List Nat).length:Int))) rfl rfl (by lia)).trans ?_)))))
  unfold Bw
  rw[Ud _ _ _ (by decide)]
 have e2:Ab (tab Ci) (.as 2 (.mlist (.cons (.tup (.cons (.str "bare") (.cons (.mlist .nil) .nil))) .nil))) [some (pS (Bw row (x::xs))),some (pS (IG row (x::xs))),none,none,none,none] [S]=some (.next,[some (pS (Bw row (x::xs))),some (pS (IG row (x::xs))),some (.loc 2),none,none,none],By row S [(.bare,[])]):=rfl
 obtain⟨m',σ',h1,kk,o4,o5,hm,hσ⟩:=Mq (text:=Bw row (x::xs)) (F:=x::xs) (k:=((x::xs).flatMap Dx).length) hS hbl (by show _<100000;lia) (sU.mk (row:=row) (S:=S) (r:=(x::xs).flatMap Dx) (D:=[(.bare,[])]) (pre:=[]) (o4:=none) (o5:=none) rfl hps (fun q=>nomatch q) (by show 1+_≤30;lia) (fun y hy=>by rw[List.mem_singleton.mp hy];show 0+_≤30;lia) e)
 subst hm hσ
 have h9:evSL (tab Ci) QX [some (pS (Bw row (x::xs))),none,none,none,none,none] [S]=some (.ret (.loc 2),IQ (Bw row (x::xs)) (IG row (x::xs)) kk o4 o5,By row S (x::xs)):=by
  rw[Uv]
  exact AA (AS (EE c1 rfl c2) rfl rfl) (AA e1 (AA e2 (AA rfl (AA (Mc h1) (AN rfl rfl)))))
 have h8:Ae (tab Ci) 1 6 QX [pS (Bw row (x::xs))] [S]=some (.val (.loc 2),[S]++(By row S (x::xs)).tail):=Cp h9 rfl rfl
 refine Bf h8 rfl ?_ (Bl hS Bo)
 have hxl:xs.length≤10:=by rw[List.length_cons]at hlen;lia
 have:fzL 1 (By row S (x::xs)) 99999 (Gv 1 x::DK 3 xs)=some (BZ row x::xs.map (BZ row)):=
  AC (Rn (by decide) rfl (by have:=ht x (.head _);lia) _ (by decide)) (AC (NZ (row:=row) xs 3 (by decide) (fun j y hy=>by
   rw[show 3+j=j+3 by lia]
   show(xs.map (Fb row))[j]?=_
   rw[List.getElem?_map,hy];rfl) (fun y hy=>by have:=ht y (.tail _ hy);lia) _ (Nat.le_trans (show xs.length+50≤60 by lia) (by decide))) rfl)
 show(fzL 1 (By row S (x::xs)) 99999 (Gv 1 x::DK 3 xs)).map PV.lst=some (PV.lst ((x::xs).map (BZ row)))
 rw[this];rfl
end
abbrev Rs:=List (Option (List Nat))
def eV(o:Option (List Nat)):PV:=o.elim (.loc 1) pS
def Cb(S:PO)(L:Rs)(J:St):St:=S::.plain::.lst (L.map eV)::J
def BL(pat:List Nat)(i n:Nat)(o7 o8 o9 o10 o11 o12:Option PV):Fm:=[some (pS pat),some (.loc 1),some (pS [46]),some (.loc 2),some (.app 2),some (.int i),some (.int n),o7,o8,o9,o10,o11,o12]
def trW:X×SL:=match kN with
 | .cons _ (.cons _ (.cons _ (.cons (.wh t b) _)))=>(t,b)
 | _=>(.bad,.nil)
def ZK:SL:=trW.2
noncomputable def zU:X:=.cmp .Lt (.v 5) (.v 6)
def kS(c:String):X:=.cmp .Eq (.v 7) (.str (qS c))
noncomputable def bJ:SL:=.cons (.iff (.bo .Or (.cons (.no (.v 3)) (.cons (.cmp .IsNot (.idx (.v 3) (.neg (.int 1))) (.v 1)) .nil))) (.cons (.ex (.callv 4 (.v 1))) .nil) .nil) .nil
def MZ:SL:=match ZK with
 | .cons _ (.cons _ (.cons (.iff _ _ (.cons (.iff _ _ (.cons (.iff _ b _) _)) _)) _))=>b
 | _=>.nil
theorem Ri:ZK=.cons (.as 7 (.idx (.v 0) (.v 5))) (.cons (.as 5 (.bin .Add (.v 5) (.int 1))) (.cons (.iff (kS "*") bJ (.cons (.iff (kS "?") (.cons (.ex (.callv 4 (.v 2))) .nil) (.cons (.iff (kS "[") MZ (.cons (.ex (.callv 4 (.call 1 (.cons (.v 7) .nil)))) .nil)) .nil)) .nil)) .nil)):=rfl
theorem bU:kN=.cons (.as 3 (.mlist .nil)) (.cons (.as 4 (.app (.v 3))) (.cons (.asW [5,6] (.cons (.int 0) (.cons (.bi .len (.cons (.v 0) .nil)) .nil))) (.cons (.wh zU ZK) (.cons (.asr (.cmp .Eq (.v 5) (.v 6))) (.cons (.ret (.v 3)) .nil))))):=rfl
def BH(L:Rs)(d:Fin 12):Rs:=cond (d.val==0) (match L.getLast? with | some none=>L | _=>L++[none]) (L++[some (BN d)])
section
variable{S:PO}{L:Rs}{J:St}{Φ:Nat→Option Spec}{pat pre:List Nat}{i n:Nat}{o7 o8 o9 o10 o11 o12:Option PV}
theorem FE{m:Fm}{x:X}{o:Option (List Nat)}(hm:ZW m 4=some (.app 2))(h:ev Φ x m (Cb S L J)=some (eV o,Cb S L J))(hl:L.length≤900):Ab Φ (.ex (.callv 4 x)) m (Cb S L J)=some (.next,m,Cb S (L++[o]) J):=by
 refine Ea (p:=.none) (AC hm (AC (a:=2) rfl (AE h ((Br (n:=2) (l:=L.map eV) rfl (by rw[List.length_map];lia)).trans ?_))))
 show some (PV.none,S::.plain::.lst (L.map eV++[eV o])::J)=some (PV.none,S::.plain::.lst ((L++[o]).map eV)::J)
 rw[List.map_append];rfl
theorem jX{c:Nat}{X:List Nat}{m:Fm}{σ:St}(hl:(pre++c::X).length≤900)(h0:ev Φ (.v 0) m σ=some (pS (pre++c::X),σ))(h5:ev Φ (.v 5) m σ=some (.int pre.length,σ)):ev Φ (.idx (.v 0) (.v 5)) m σ=some (pS [c],σ):=
 Ac h0 h5 (Iv (by lia) (by have:=Dr (pre:=pre) (c::X) 0;exact this))
theorem YD{k:Nat}{m:Fm}{σ:St}(h5:ev Φ (.v 5) m σ=some (.int (k:Int),σ)):Ab Φ (.as 5 (.bin .Add (.v 5) (.int 1))) m σ=some (.next,m.set 5 (some (.int ((k+1:Nat):Int))),σ):=Am (Az h5 rfl rfl)
theorem IM{L:Rs}{x:List Nat}:BH (L++[some x]) 0=(L++[some x])++[none]:=by
 unfold BH;rw[List.getLast?_concat];rfl
theorem IV{L:Rs}:BH (L++[none]) 0=L++[none]:=by
 unfold BH;rw[List.getLast?_concat];rfl
theorem WU{m:Fm}(h1:ev Φ (.v 1) m (Cb S L J)=some (.loc 1,Cb S L J))(h3:ev Φ (.v 3) m (Cb S L J)=some (.loc 2,Cb S L J))(hm:ZW m 4=some (.app 2))(hL:L.length≤100):evSL Φ bJ m (Cb S L J)=some (.next,m,Cb S (BH L 0) J):=by
 have no3:ev Φ (.no (.v 3)) m (Cb S L J)=some (.bool L.isEmpty,Cb S L J):=(VS h3 (Ja (n:=2) (l:=L.map eV) rfl (by rw[List.length_map];lia))).trans (by rw[Bool.not_not];cases L<;>rfl)
 rcases List.eq_nil_or_concat L with e|⟨L0,o,e⟩
 ·subst e
  exact AA (Ao (SP no3 rfl) rfl (AA (FE (o:=none) hm h1 (by decide)) rfl)) rfl
 ·rw[List.concat_eq_append]at e
  subst e
  have hL0:L0.length≤100:=by rw[List.length_append]at hL;lia
  have ne:(L0++[o]).isEmpty=false:=by cases L0<;>rfl
  rw[ne]at no3
  have last:ev Φ (.idx (.v 3) (.neg (.int 1))) m (Cb S (L0++[o]) J)=some (eV o,Cb S (L0++[o]) J):=Ac h3 rfl (Ks (n:=2) (l:=L0.map eV) (by show some (PO.lst ((L0++[o]).map eV))=_;rw[List.map_append];rfl) (by rw[List.length_map];lia))
  cases o with
  | none=>
   rw[IV]
   exact AA (AS (EE no3 rfl (AI (t:=false) last h1 rfl)) rfl rfl) rfl
  | some x=>
   rw[IM]
   exact AA (Ao (EE no3 rfl (AI (t:=true) last h1 rfl)) rfl (AA (FE (o:=none) hm h1 (by rw[List.length_append];show L0.length+1≤900;lia)) rfl)) rfl
theorem cG{d:Fin 12}{post:List Nat}{o7':Option PV}(hd:d.val≤4)(hl:(pre++(Bt d++post)).length≤900)(hL:L.length≤100)(hΦ:Φ 1=some oK) :
  ∃o7,evSL Φ ZK (BL (pre++(Bt d++post)) pre.length n o7' o8 o9 o10 o11 o12) (Cb S L J)=some (.next,BL (pre++(Bt d++post)) (pre++Bt d).length n o7 o8 o9 o10 o11 o12,Cb S (BH L d) J):=by
 have go:∀(c:Nat),Bt d=[c]→(∀m1,m1=BL (pre++([c]++post)) (pre.length+1) n (some (pS [c])) o8 o9 o10 o11 o12 →
   evSL Φ (.cons (.iff (kS "*") bJ (.cons (.iff (kS "?") (.cons (.ex (.callv 4 (.v 2))) .nil) (.cons (.iff (kS "[") MZ (.cons (.ex (.callv 4 (.call 1 (.cons (.v 7) .nil)))) .nil)) .nil)) .nil)) .nil) m1 (Cb S L J)=some (.next,m1,Cb S (BH L d) J)) →
   ∃o7,evSL Φ ZK (BL (pre++(Bt d++post)) pre.length n o7' o8 o9 o10 o11 o12) (Cb S L J)=some (.next,BL (pre++(Bt d++post)) (pre++Bt d).length n o7 o8 o9 o10 o11 o12,Cb S (BH L d) J):=fun c e h=>by
  rw[e]at hl ⊢
  refine⟨some (pS [c]),?_⟩
  rw[Ri,show(pre++[c]).length=pre.length+1 from List.length_append]
  exact AA (Am (jX (pre:=pre) (c:=c) (X:=post) hl rfl rfl)) (AA (YD (k:=pre.length) rfl) (h _ rfl))
 rcases(show d=0∨d=1∨d=2∨d=3∨d=4 by
  rcases d with⟨d,h⟩
  have:d≤4:=hd
  rcases(show d=0∨d=1∨d=2∨d=3∨d=4 by lia) with e|e|e|e|e<;>subst e<;>simp) with e|e|e|e|e
 ·subst e
  exact go 42 rfl fun m1 e=>by subst e;exact AA (Ao (AI (t:=true) rfl rfl rfl) rfl (WU rfl rfl rfl hL)) rfl
 ·subst e
  exact go 63 rfl fun m1 e=>by subst e;exact AA (AS (AI (t:=false) rfl rfl rfl) rfl (AA (Ao (AI (t:=true) rfl rfl rfl) rfl (AA (FE (o:=some [46]) rfl rfl (by lia)) rfl)) rfl)) rfl
 all_goals subst e
 ·exact go 97 rfl fun m1 e=>by subst e;exact AA (AS (AI (t:=false) rfl rfl rfl) rfl (AA (AS (AI (t:=false) rfl rfl rfl) rfl (AA (AS (AI (t:=false) rfl rfl rfl) rfl (AA (FE (o:=some [97]) rfl (Ai (AD rfl AG) hΦ rfl) (by lia)) rfl)) rfl)) rfl)) rfl
 ·exact go 98 rfl fun m1 e=>by subst e;exact AA (AS (AI (t:=false) rfl rfl rfl) rfl (AA (AS (AI (t:=false) rfl rfl rfl) rfl (AA (AS (AI (t:=false) rfl rfl rfl) rfl (AA (FE (o:=some [98]) rfl (Ai (AD rfl AG) hΦ rfl) (by lia)) rfl)) rfl)) rfl)) rfl
 ·exact go 46 rfl fun m1 e=>by subst e;exact AA (AS (AI (t:=false) rfl rfl rfl) rfl (AA (AS (AI (t:=false) rfl rfl rfl) rfl (AA (AS (AI (t:=false) rfl rfl rfl) rfl (AA (FE (o:=some [92,46]) rfl (Ai (AD rfl AG) hΦ rfl) (by lia)) rfl)) rfl)) rfl)) rfl
end
noncomputable def bY:X:=.bo .And (.cons (.cmp .Lt (.v 8) (.v 6)) (.cons (.cmp .NotEq (.idx (.v 0) (.v 8)) (.str "]")) .nil))
noncomputable def PQ:SL:=.cons (.as 8 (.bin .Add (.v 8) (.int 1))) .nil
def Uk(c:String):X:=.bo .And (.cons (.cmp .Lt (.v 8) (.v 6)) (.cons (.cmp .Eq (.idx (.v 0) (.v 8)) (.str (qS c))) .nil))
def Yt:SL×SL:=match MZ with
 | .cons _ (.cons _ (.cons _ (.cons _ (.cons (.iff _ a b) _))))=>(a,b)
 | _=>(.nil,.nil)
theorem US:MZ=.cons (.as 8 (.v 5)) (.cons (.iff (Uk "!") PQ .nil) (.cons (.iff (Uk "]") PQ .nil) (.cons (.wh bY PQ) (.cons (.iff (.cmp .GtE (.v 8) (.v 6)) Yt.1 Yt.2) .nil)))):=rfl
def zF:SL:=match Yt.2 with
 | .cons _ (.cons (.iff _ _ b) _)=>b
 | _=>.nil
def oQ:S:=match Yt.2 with
 | .cons _ (.cons _ (.cons _ (.cons _ (.cons s _))))=>s
 | _=>.bad
noncomputable def Yl:SL:=.cons (.as 9 (.me .replace (.v 9) (.cons (.str "\\") (.cons (.str "\\\\") .nil)))) .nil
noncomputable def W6:X:=.cmp .NotIn (.str "-") (.v 9)
theorem Qx:Yt.2=.cons (.as 9 (.slc (.v 0) (.yes (.v 5)) (.yes (.v 8)))) (.cons (.iff W6 Yl zF) (.cons (.as 9 (.sub (.v 9))) (.cons (.as 5 (.bin .Add (.v 8) (.int 1))) (.cons oQ .nil)))):=rfl
def nN:SL:=match zF with
 | .cons _ (.cons _ (.cons (.wh _ b) _))=>b
 | _=>.nil
noncomputable def W1:X:=.ite (.cmp .Eq (.idx (.v 0) (.v 5)) (.str "!")) (.bin .Add (.v 5) (.int 2)) (.bin .Add (.v 5) (.int 1))
noncomputable def SD:X:=.me .find (.v 0) (.cons (.str "-") (.cons (.v 11) (.cons (.v 8) .nil)))
theorem QR:nN=.cons (.as 11 SD) (.cons (.iff (.cmp .Lt (.v 11) (.int 0)) (.cons .brk .nil) .nil) (.cons (.ex (.me .append (.v 10) (.cons (.slc (.v 0) (.yes (.v 5)) (.yes (.v 11))) .nil))) (.cons (.as 5 (.bin .Add (.v 11) (.int 1))) (.cons (.as 11 (.bin .Add (.v 11) (.int 3))) .nil)))):=rfl
noncomputable def gtX:X:=.cmp .Gt (.idx (.idx (.v 10) (.bin .Sub (.v 11) (.int 1))) (.neg (.int 1))) (.idx (.idx (.v 10) (.v 11)) (.int 0))
noncomputable def O7:X:=.bin .Add (.slc (.idx (.v 10) (.bin .Sub (.v 11) (.int 1))) .no (.yes (.neg (.int 1)))) (.slc (.idx (.v 10) (.v 11)) (.yes (.int 1)) .no)
def S6:SL:=.cons (.iff gtX (.cons (.asI (.v 10) (.bin .Sub (.v 11) (.int 1)) O7) (.cons (.delI (.v 10) (.v 11)) .nil)) .nil) .nil
noncomputable def S9:X:=.bi .range (.cons (.bin .Sub (.bi .len (.cons (.v 10) .nil)) (.int 1)) (.cons (.int 0) (.cons (.neg (.int 1)) .nil)))
theorem fW:zF=.cons (.as 10 (.mlist .nil)) (.cons (.as 11 W1) (.cons (.wh (.bool true) nN) (.cons (.as 12 (.slc (.v 0) (.yes (.v 5)) (.yes (.v 8)))) (.cons (.iff (.v 12) (.cons (.ex (.me .append (.v 10) (.cons (.v 12) .nil))) .nil) (.cons .bad .nil)) (.cons (.fo [11] S9 S6) (.cons (.as 9 (.jog (qS "-") (.v 10))) .nil)))))):=rfl
section
variable{S:PO}{L:Rs}{J:St}{Φ:Nat→Option Spec}{pp x post:List Nat}{i n:Nat}{o7 o8 o9 o10 o11 o12:Option PV}{σ:St}
theorem Ee(σ:St)(o:PO):(σ++[o])[σ.length]?=some o:=by rw[List.getElem?_append_right (Nat.le_refl _),Nat.sub_self];rfl
theorem Nd(σ:St)(o o':PO):(σ++[o]).set σ.length o'=σ++[o']:=by rw[List.set_append_right _ _ (Nat.le_refl _),Nat.sub_self];rfl
theorem Vp{t:Fm→St→Option (Bool×St)}{b:ML}{n:Nat}{m m1:Fm}{σ σ1 σ2:St}{R:Option (SR×Fm×St)}(h:t m σ=some (true,σ1))(hb:b m σ1=some (.next,m1,σ2))(k:ED t b n m1 σ2=R):ED t b (n+1) m σ=R:=AE h (BO hb k)
theorem gO{t:Fm→St→Option (Bool×St)}{b:ML}{n:Nat}{m m1:Fm}{σ σ1 σ2:St}(h:t m σ=some (true,σ1))(hb:b m σ1=some (.brk,m1,σ2)):ED t b (n+1) m σ=some (.next,m1,σ2):=AE h (BO hb rfl)
abbrev Aw(pp x post:List Nat):List Nat:=pp++(x++93::post)
theorem Ew:(Aw pp x post).length=pp.length+(x.length+(post.length+1)):=by rw[List.length_append,List.length_append];rfl
theorem M4{a c:Nat}{m:Fm}(hl:(Aw pp x post).length≤900)(h0:ev Φ (.v 0) m σ=some (pS (Aw pp x post),σ))(h8:ev Φ (.v 8) m σ=some (.int ((pp.length+a:Nat):Int),σ))(hc:(x++93::post)[a]?=some c):ev Φ (.idx (.v 0) (.v 8)) m σ=some (pS [c],σ):=
 Ac h0 h8 (Iv (by lia) (by rw[Dr];exact hc))
theorem W2{a n:Nat}{m:Fm}(h8:ev Φ (.v 8) m σ=some (.int (a:Int),σ))(h6:ev Φ (.v 6) m σ=some (.int (n:Int),σ))(h:a<n):ev Φ (.cmp .Lt (.v 8) (.v 6)) m σ=some (.bool true,σ):=
 AI (t:=true) h8 h6 (congrArg some (decide_eq_true (Int.ofNat_lt.mpr h)))
theorem qD(hl:(Aw pp x post).length≤900)(hx:∀c∈x,c≠93){a:Nat}(ha:a≤x.length) :
  ED (Gg Φ bY) (evSL Φ PQ) WH (BL (Aw pp x post) i (Aw pp x post).length o7 (some (.int ((pp.length+a:Nat):Int))) o9 o10 o11 o12) σ=some (.next,BL (Aw pp x post) i (Aw pp x post).length o7 (some (.int ((pp.length+x.length:Nat):Int))) o9 o10 o11 o12,σ):=by
 have hn:=Ew (pp:=pp) (x:=x) (post:=post)
 obtain⟨m',σ',h,e1,e2⟩:=GL (t:=Gg Φ bY) (b:=evSL Φ PQ) (I:=fun k m τ=>∃a,k=x.length-a∧a≤x.length∧m=BL (Aw pp x post) i (Aw pp x post).length o7 (some (.int ((pp.length+a:Nat):Int))) o9 o10 o11 o12∧τ=σ)
  (Q:=fun m' τ=>m'=BL (Aw pp x post) i (Aw pp x post).length o7 (some (.int ((pp.length+x.length:Nat):Int))) o9 o10 o11 o12∧τ=σ) (fun k m τ ⟨a,hk,ha,hm,hτ⟩=>by
   subst hm hτ
   have l8:=W2 (Φ:=Φ) (σ:=τ) (m:=BL (Aw pp x post) i (Aw pp x post).length o7 (some (.int ((pp.length+a:Nat):Int))) o9 o10 o11 o12) (a:=pp.length+a) (n:=(Aw pp x post).length) rfl rfl (by lia)
   by_cases h:a=x.length
   ·subst h
    have c8:=M4 (Φ:=Φ) (σ:=τ) (m:=BL (Aw pp x post) i (Aw pp x post).length o7 (some (.int ((pp.length+x.length:Nat):Int))) o9 o10 o11 o12) (a:=x.length) (c:=93) hl rfl rfl (by rw[List.getElem?_append_right (Nat.le_refl _),Nat.sub_self];rfl)
    exact .stop (AE (CO l8 rfl (AI (t:=false) c8 (q:=pS [93]) rfl rfl)) rfl) ⟨rfl,rfl⟩
   ·have hlt:a<x.length:=by lia
    have hc:(x++93::post)[a]?=some x[a]:=by rw[List.getElem?_append_left hlt,List.getElem?_eq_getElem hlt]
    have c8:=M4 (Φ:=Φ) (σ:=τ) (m:=BL (Aw pp x post) i (Aw pp x post).length o7 (some (.int ((pp.length+a:Nat):Int))) o9 o10 o11 o12) (a:=a) (c:=x[a]) hl rfl rfl hc
    have hne:(!([x[a]]==[93]))=true:=by
     show(!((x[a]==93)&&true))=true
     rw[beq_false_of_ne (hx _ (List.getElem_mem hlt))];rfl
    refine .go (r:=.next) (k':=x.length-(a+1)) (AE (CO l8 rfl (AI (t:=!([x[a]]==[93])) c8 (q:=pS [93]) rfl rfl)) (by rw[hne];rfl)) (AA (Am (Az (p:=.int ((pp.length+a:Nat):Int)) (q:=.int 1) (r:=.int ((pp.length+(a+1):Nat):Int)) rfl rfl rfl)) rfl) (.inl rfl) (by lia) ⟨a+1,rfl,hlt,rfl,rfl⟩) WH (x.length-a) _ σ (by show _<100000;lia) ⟨a,rfl,ha,rfl,rfl⟩
 rw[h,e1,e2]
theorem S5{c0:Nat}{x':List Nat}(e:x=c0::x')(hl:(Aw pp x post).length≤900)(hx:∀c∈x,c≠93)(h1:c0=33→x'≠[]){R:Option (SR×Fm×St)}
  (k:evSL Φ (.cons (.iff (.cmp .GtE (.v 8) (.v 6)) Yt.1 Yt.2) .nil) (BL (Aw pp x post) pp.length (Aw pp x post).length o7 (some (.int ((pp.length+x.length:Nat):Int))) o9 o10 o11 o12) σ=R) :
  evSL Φ MZ (BL (Aw pp x post) pp.length (Aw pp x post).length o7 o8 o9 o10 o11 o12) σ=R:=by
 have hn:=Ew (pp:=pp) (x:=x) (post:=post)
 rw[US]
 have l8:∀a,a≤x.length→ev Φ (.cmp .Lt (.v 8) (.v 6)) (BL (Aw pp x post) pp.length (Aw pp x post).length o7 (some (.int ((pp.length+a:Nat):Int))) o9 o10 o11 o12) σ=some (.bool true,σ):=fun a ha=>W2 (a:=pp.length+a) rfl rfl (by lia)
 have a8:∀a c,(x++93::post)[a]?=some c→ev Φ (.idx (.v 0) (.v 8)) (BL (Aw pp x post) pp.length (Aw pp x post).length o7 (some (.int ((pp.length+a:Nat):Int))) o9 o10 o11 o12) σ=some (pS [c],σ):=fun a c h=>M4 hl rfl rfl h
 have nb:∀a,a<x.length→ev Φ (Uk "]") (BL (Aw pp x post) pp.length (Aw pp x post).length o7 (some (.int ((pp.length+a:Nat):Int))) o9 o10 o11 o12) σ=some (.bool false,σ):=fun a ha=>by
  refine CO (l8 a (by lia)) rfl (AI (a8 a x[a] (by rw[List.getElem?_append_left ha,List.getElem?_eq_getElem ha])) (q:=pS [93]) rfl ((MJ _ _).trans (congrArg some ?_)))
  show((x[a]==93)&&true)=false
  rw[beq_false_of_ne (hx _ (List.getElem_mem ha))];rfl
 have b1:ev Φ (Uk "!") (BL (Aw pp x post) pp.length (Aw pp x post).length o7 (some (.int ((pp.length+0:Nat):Int))) o9 o10 o11 o12) σ=some (.bool (c0==33),σ):=by
  refine(CO (l8 0 (Nat.zero_le _)) rfl (AI (a8 0 c0 (by rw[e];rfl)) (q:=pS [33]) rfl (MJ _ _))).trans ?_
  show some (PV.bool ((c0==33)&&true),σ)=_
  rw[Bool.and_true]
 have s0:Ab Φ (.as 8 (.v 5)) (BL (Aw pp x post) pp.length (Aw pp x post).length o7 o8 o9 o10 o11 o12) σ=some (.next,BL (Aw pp x post) pp.length (Aw pp x post).length o7 (some (.int ((pp.length+0:Nat):Int))) o9 o10 o11 o12,σ):=Am rfl
 have hxl:0<x.length:=by rw[e];exact Nat.succ_pos _
 cases hb:c0==33 with
 | false=>
  rw[hb]at b1
  exact AA s0 (AA (AS b1 rfl rfl) (AA (AS (nb 0 hxl) rfl rfl) (AA (Mc (qD hl hx (a:=0) (Nat.zero_le _))) k)))
 | true=>
  rw[hb]at b1
  have hx1:1<x.length:=by
   have:=h1 (beq_iff_eq.mp hb)
   rw[e,List.length_cons]
   have:=List.length_pos_iff.mpr this
   lia
  have i8:evSL Φ PQ (BL (Aw pp x post) pp.length (Aw pp x post).length o7 (some (.int ((pp.length+0:Nat):Int))) o9 o10 o11 o12) σ=some (.next,BL (Aw pp x post) pp.length (Aw pp x post).length o7 (some (.int ((pp.length+1:Nat):Int))) o9 o10 o11 o12,σ):=AA (Am (Az (p:=.int ((pp.length+0:Nat):Int)) (q:=.int 1) (r:=.int ((pp.length+1:Nat):Int)) rfl rfl rfl)) rfl
  exact AA s0 (AA (Ao b1 rfl i8) (AA (AS (nb 1 hx1) rfl rfl) (AA (Mc (qD hl hx (a:=1) (Nat.le_of_lt hx1))) k)))
theorem find3{l:List Nat}{c k e:Nat}{j:Int}(hl:l.length≤1000)(hk:k≤1000)(he:e≤l.length)(h:Gb ⟨l.toArray⟩ ⟨#[c]⟩ (k:Int) (e:Int)=j):MO .find (pS l) [pS [c],.int k,.int e] σ=some (.int j,σ):=by
 refine DP (AC (a:=(⟨l.toArray⟩:Str)) rfl (BD (Av rfl (AC (a:=(pS [c],PV.int (k:Int),PV.int (e:Int))) rfl (AC (a:=(⟨#[c]⟩:Str)) rfl (AC (a:=(k:Int)) rfl (AC (a:=(e:Int)) rfl (AK ?_ (congrArg (fun i=>some (PV.int i)) h)))))))))
 simp only[Bool.and_eq_true]
 refine⟨Ag (n:=l.length) hl,decide_eq_true (by lia),decide_eq_true (by show(k:Int)≤100000;lia),decide_eq_true (by lia),decide_eq_true ?_⟩
 show(e:Int)≤(l.length:Int)
 lia
theorem wA{m:Fm}{a b:X}{p q:PV}{σ₁ σ₂ σ₃:St}(h1:ev Φ a m σ=some (p,σ₁))(h2:ev Φ b m σ₁=some (q,σ₂))(h3:UB p q σ₂=some σ₃):Ab Φ (.delI a b) m σ=some (.next,m,σ₃):=AE h1 (AE h2 (AC h3 rfl))
structure uT(x u v:List Nat):Prop where
 e:x=u++45::v
 k:∀c0 x',x=c0::x'→cond (c0==33) 2 1=u.length
 u0:u≠[]
 v0:0<v.length
 v2:v.length≤2
def uB(l:List PV):Option PV:=bd (EH l) fun ss=>gd (ss.all MY&&(decide ((qS "-").length≤16)&&(decide (ss.length≤64)&&decide ((ss.map (·.length)).sum+ss.length≤BM)))) (some (.str (Str.join (qS "-") ss)))
inductive oU(u v:List Nat):List PV→Prop
 | no (a b:Nat) (ha:∀σ,CC σ (pS u) (.int (-1))=some (pS [a])) (hb:∀σ,CC σ (pS v) (.int 0)=some (pS [b])) (h:∀σ,Co .Gt (pS [a]) (pS [b]) σ=some false):oU u v [pS u,pS v]
 | yes (a b:Nat) (w:List Nat) (ha:∀σ,CC σ (pS u) (.int (-1))=some (pS [a])) (hb:∀σ,CC σ (pS v) (.int 0)=some (pS [b])) (h:∀σ,Co .Gt (pS [a]) (pS [b]) σ=some true) (hw:∀(Φ:Nat→Option Spec) (m:Fm) (σ:St),ev Φ (.idx (.v 10) (.bin .Sub (.v 11) (.int 1))) m σ=some (pS u,σ)→ev Φ (.idx (.v 10) (.v 11)) m σ=some (pS v,σ)→ev Φ O7 m σ=some (pS w,σ)):oU u v [pS w]
theorem Wu{u v:List Nat}{c:List PV}(M:oU u v c):∃o11',Eo none [11] (evSL Φ S6) [.int 1] 0 (BL (Aw pp x post) i n o7 o8 o9 (some (.loc σ.length)) o11 o12) (σ++[.lst [pS u,pS v]])=some (.next,BL (Aw pp x post) i n o7 o8 o9 (some (.loc σ.length)) o11' o12,σ++[.lst c]):=by
 have i1:ev Φ (.idx (.v 10) (.bin .Sub (.v 11) (.int 1))) (BL (Aw pp x post) i n o7 o8 o9 (some (.loc σ.length)) (some (.int 1)) o12) (σ++[.lst [pS u,pS v]])=some (pS u,σ++[.lst [pS u,pS v]]):=Ac (q:=.int ((0:Nat):Int)) rfl rfl (Bh (l:=[pS u,pS v]) (Ee _ _) (show 2≤1000 by decide) rfl)
 have i2:ev Φ (.idx (.v 10) (.v 11)) (BL (Aw pp x post) i n o7 o8 o9 (some (.loc σ.length)) (some (.int 1)) o12) (σ++[.lst [pS u,pS v]])=some (pS v,σ++[.lst [pS u,pS v]]):=Ac (q:=.int ((1:Nat):Int)) rfl rfl (Bh (l:=[pS u,pS v]) (Ee _ _) (show 2≤1000 by decide) rfl)
 refine⟨some (.int 1),?_⟩
 cases M with
 | no a b ha hb h=>exact Wf (m1:=BL (Aw pp x post) i n o7 o8 o9 (some (.loc σ.length)) (some (.int 1)) o12) rfl (AA (AS (AI (Ac i1 rfl (ha _)) (Ac i2 rfl (hb _)) (h _)) rfl rfl) rfl) rfl
 | yes a b w ha hb h hw=>
  have g1:PE (.loc σ.length) (.int ((0:Nat):Int)) (pS w) (σ++[.lst [pS u,pS v]])=some (σ++[.lst [pS w,pS v]]):=(Dk (l:=[pS u,pS v]) (Ee _ _) (show 2≤1000 by decide) (show 0<2 by decide)).trans (by rw[Nd];rfl)
  have g2:UB (.loc σ.length) (.int ((1:Nat):Int)) (σ++[.lst [pS w,pS v]])=some (σ++[.lst [pS w]]):=by
   refine AC rfl (AC rfl (AC (BS (Ee _ _)) (AK rfl ?_)))
   rw[Nd];rfl
  exact Wf (m1:=BL (Aw pp x post) i n o7 o8 o9 (some (.loc σ.length)) (some (.int 1)) o12) rfl (AA (Ao (AI (Ac i1 rfl (ha _)) (Ac i2 rfl (hb _)) (h _)) rfl (AA (Hz (hw _ _ _ i1 i2) rfl rfl g1) (AA (wA rfl rfl g2) rfl))) rfl) rfl
theorem Sg{u v y:List Nat}{c:List PV}(D:uT x u v)(M:oU u v c)(hj:uB c=some (pS y))(hl:(Aw pp x post).length≤900) :
  ∃o5' o11' o12',evSL Φ zF (BL (Aw pp x post) pp.length n o7 (some (.int ((pp.length+x.length:Nat):Int))) o9 o10 o11 o12) σ=some (.next,BL (Aw pp x post) o5' n o7 (some (.int ((pp.length+x.length:Nat):Int))) (some (pS y)) (some (.loc σ.length)) o11' o12',σ++[.lst c]):=by
 have hn:=Ew (pp:=pp) (x:=x) (post:=post)
 have hxl:x.length=u.length+(v.length+1):=by rw[D.e,List.length_append,List.length_cons]
 have hX:x++93::post=u++(45::v++93::post):=by rw[D.e,List.append_assoc]
 obtain⟨c0,x',e0⟩:∃c0 x',x=c0::x':=by
  cases hx:x with
  | nil=>rw[hx]at hxl;cases hxl
  | cons a b=>exact⟨a,b,rfl⟩
 have hk:=D.k c0 x' e0
 have hul:=List.length_pos_iff.mpr D.u0
 have d2:ev Φ W1 (BL (Aw pp x post) pp.length n o7 (some (.int ((pp.length+x.length:Nat):Int))) o9 (some (.loc σ.length)) o11 o12) (σ++[.lst []])=some (.int ((pp.length+u.length:Nat):Int),σ++[.lst []]):=by
  refine YH (b:=(c0==33)&&true) (AI (jX (pre:=pp) (c:=c0) (X:=x'++93::post) (by rw[show c0::(x'++93::post)=x++93::post by rw[e0];rfl];exact hl) (by rw[show c0::(x'++93::post)=x++93::post by rw[e0];rfl];rfl) rfl) (q:=pS [33]) rfl (MJ _ _)) ?_
  rw[←hk]
  cases c0==33<;>rfl
 have f1:∀{k j:Int} {kk:Nat} {o5:Nat} {τ:St},k=(kk:Int)→kk≤1000→Gb ⟨(Aw pp x post).toArray⟩ ⟨#[45]⟩ (kk:Int) ((pp.length+x.length:Nat):Int)=j→ev Φ SD (BL (Aw pp x post) o5 n o7 (some (.int ((pp.length+x.length:Nat):Int))) o9 (some (.loc σ.length)) (some (.int k)) o12) τ=some (.int j,τ):=fun {k j kk o5 τ} e h1 h2=>by
  subst e
  exact DW (p:=pS (Aw pp x post)) (ps:=[pS [45],.int (kk:Int),.int ((pp.length+x.length:Nat):Int)]) rfl rfl (AD rfl (AD rfl (AD rfl AG))) (find3 (by lia) h1 (by lia) h2)
 have hf1:Gb ⟨(Aw pp x post).toArray⟩ ⟨#[45]⟩ ((pp.length+u.length:Nat):Int) ((pp.length+x.length:Nat):Int)=((pp.length+u.length:Nat):Int):=
  Tg (Nat.le_refl _) (by lia) (by rw[Dr,hX,List.getElem?_append_right (Nat.le_refl _),Nat.sub_self];rfl) fun i h1 h2=>absurd h2 (by lia)
 have hf2:Gb ⟨(Aw pp x post).toArray⟩ ⟨#[45]⟩ ((pp.length+u.length+3:Nat):Int) ((pp.length+x.length:Nat):Int)=-1:=fU fun i h1 h2=>absurd h2 (by have:=D.v2;lia)
 have it1:evSL Φ nN (BL (Aw pp x post) pp.length n o7 (some (.int ((pp.length+x.length:Nat):Int))) o9 (some (.loc σ.length)) (some (.int ((pp.length+u.length:Nat):Int))) o12) (σ++[.lst []]) =
   some (.next,BL (Aw pp x post) (pp.length+u.length+1) n o7 (some (.int ((pp.length+x.length:Nat):Int))) o9 (some (.loc σ.length)) (some (.int ((pp.length+u.length+3:Nat):Int))) o12,σ++[.lst [pS u]]):=by
  rw[QR]
  have lt0:ev Φ (.cmp .Lt (.v 11) (.int 0)) (BL (Aw pp x post) pp.length n o7 (some (.int ((pp.length+x.length:Nat):Int))) o9 (some (.loc σ.length)) (some (.int ((pp.length+u.length:Nat):Int))) o12) (σ++[.lst []])=some (.bool false,σ++[.lst []]):=AI (t:=false) (p:=.int ((pp.length+u.length:Nat):Int)) (q:=.int 0) rfl rfl (congrArg some (decide_eq_false (by lia)))
  have sl:ev Φ (.slc (.v 0) (.yes (.v 5)) (.yes (.v 11))) (BL (Aw pp x post) pp.length n o7 (some (.int ((pp.length+x.length:Nat):Int))) o9 (some (.loc σ.length)) (some (.int ((pp.length+u.length:Nat):Int))) o12) (σ++[.lst []])=some (pS u,σ++[.lst []]):=by
   refine(GQ (lo:=pp.length) (hi:=pp.length+u.length) rfl rfl rfl hl (by lia) (by lia)).trans ?_
   rw[Gh,hX,List.take_left]
  exact AA (Am (f1 rfl (by lia) hf1)) (AA (AS lt0 rfl rfl) (AA (Ea (p:=.none) (DW rfl (DG (Ee _ _)) (AD sl AG) ((Br (l:=[]) (Ee _ _) (by decide)).trans (by rw[Nd];rfl)))) (AA (Am (Az (p:=.int ((pp.length+u.length:Nat):Int)) (q:=.int 1) (r:=.int ((pp.length+u.length+1:Nat):Int)) rfl rfl rfl)) (AA (Am (Az (p:=.int ((pp.length+u.length:Nat):Int)) (q:=.int 3) (r:=.int ((pp.length+u.length+3:Nat):Int)) rfl rfl rfl)) rfl))))
 have it2:evSL Φ nN (BL (Aw pp x post) (pp.length+u.length+1) n o7 (some (.int ((pp.length+x.length:Nat):Int))) o9 (some (.loc σ.length)) (some (.int ((pp.length+u.length+3:Nat):Int))) o12) (σ++[.lst [pS u]]) =
   some (.brk,BL (Aw pp x post) (pp.length+u.length+1) n o7 (some (.int ((pp.length+x.length:Nat):Int))) o9 (some (.loc σ.length)) (some (.int (-1))) o12,σ++[.lst [pS u]]):=by
  rw[QR]
  exact AA (Am (f1 rfl (by lia) hf2)) (AN (Ao (AI (t:=true) (p:=.int (-1)) (q:=.int 0) rfl rfl rfl) rfl (AN (t:=.brk) rfl rfl)) rfl)
 have w:ED (Gg Φ (.bool true)) (evSL Φ nN) WH (BL (Aw pp x post) pp.length n o7 (some (.int ((pp.length+x.length:Nat):Int))) o9 (some (.loc σ.length)) (some (.int ((pp.length+u.length:Nat):Int))) o12) (σ++[.lst []])=some (.next,BL (Aw pp x post) (pp.length+u.length+1) n o7 (some (.int ((pp.length+x.length:Nat):Int))) o9 (some (.loc σ.length)) (some (.int (-1))) o12,σ++[.lst [pS u]]):=by
  show ED _ _ (99998+1+1) _ _=_
  exact Vp rfl it1 (gO rfl it2)
 have sl:ev Φ (.slc (.v 0) (.yes (.v 5)) (.yes (.v 8))) (BL (Aw pp x post) (pp.length+u.length+1) n o7 (some (.int ((pp.length+x.length:Nat):Int))) o9 (some (.loc σ.length)) (some (.int (-1))) o12) (σ++[.lst [pS u]])=some (pS v,σ++[.lst [pS u]]):=by
  refine(GQ (lo:=pp.length+(u.length+1)) (hi:=pp.length+x.length) rfl rfl rfl hl (by lia) (by lia)).trans ?_
  rw[EK,hX,List.drop_append,List.drop_of_length_le (Nat.le_succ _),List.nil_append,show u.length+1-u.length=1 by lia,show pp.length+x.length-(pp.length+(u.length+1))=v.length by omega]
  show some (pS ((v++93::post).take v.length),σ++[.lst [pS u]])=_
  rw[List.take_left]
 obtain⟨o11',hm⟩:=Wu (Φ:=Φ) (pp:=pp) (x:=x) (post:=post) (i:=pp.length+u.length+1) (n:=n) (o7:=o7) (o8:=some (.int ((pp.length+x.length:Nat):Int))) (o9:=o9) (o11:=some (.int (-1))) (o12:=some (pS v)) (σ:=σ) M
 refine⟨pp.length+u.length+1,o11',some (pS v),?_⟩
 rw[fW]
 have tv:AT (σ++[.lst [pS u]]) (pS v)=some true:=AK (by exact Ag (n:=v.length) (by have:=D.v2;omega)) (congrArg some (bne_iff_ne.mpr (by show v.length≠0;have:=D.v0;omega)))
 have rg:ev Φ S9 (BL (Aw pp x post) (pp.length+u.length+1) n o7 (some (.int ((pp.length+x.length:Nat):Int))) o9 (some (.loc σ.length)) (some (.int (-1))) (some (pS v))) (σ++[.lst [pS u,pS v]])=some (.rng 1 0 (-1),σ++[.lst [pS u,pS v]]):=
  CT (ps:=[.int 1,.int 0,.int (-1)]) (AD (Az (p:=.int ((2:Nat):Int)) (q:=.int 1) (CT (ps:=[.loc σ.length]) (AD rfl AG) (AC rfl (Jq (l:=[pS u,pS v]) (Ee _ _) (show 2≤1000 by decide)))) rfl rfl) (AD rfl (AD rfl AG))) rfl
 exact AA (Am (p:=.loc σ.length) rfl) (AA (Am d2) (AA (Mc w) (AA (Am sl) (AA (Ao (p:=pS v) rfl tv (AA (Ea (p:=.none) (DW rfl (DG (Ee _ _)) (AD rfl AG) ((Br (l:=[pS u]) (Ee _ _) (show 1≤1000 by decide)).trans (by rw[Nd];rfl)))) rfl)) (AA (Km rg rfl hm) (AA (Am (AE rfl (BD (AC (ER (Ee _ _)) hj)))) rfl))))))
end
end Sh
namespace Sh
open PySem PySem.Calls PyProof.Rows
def RG:S:=match oQ with
 | .iff _ _ (.cons (.iff _ _ (.cons s _)) _)=>s
 | _=>.bad
noncomputable def rT:X:=.fstr (.cons (.str "[") (.cons (.v 9) (.cons (.str "]") .nil)))
def Aaa:SL:=match RG with
 | .iff _ a _=>a
 | _=>.nil
def Aab:SL:=match RG with
 | .iff _ _ b=>b
 | _=>.nil
theorem My:oQ=.iff (.no (.v 9)) (.cons (.ex (.callv 4 (.str "(?!)"))) .nil) (.cons (.iff (.cmp .Eq (.v 9) (.str "!")) (.cons (.ex (.callv 4 (.str "."))) .nil) (.cons RG (.cons (.ex (.callv 4 rT)) .nil))) .nil):=rfl
theorem zT:RG=.iff (.cmp .Eq (.idx (.v 9) (.int 0)) (.str "!")) (.cons (.as 9 (.bin .Add (.str "^") (.slc (.v 9) (.yes (.int 1)) .no))) .nil) (.cons (.iff (.cmp .In (.idx (.v 9) (.int 0)) (.tup (.cons (.str "^") (.cons (.str "[") .nil)))) (.cons (.as 9 (.bin .Add (.str "\\") (.v 9))) .nil) .nil) .nil):=rfl
section
variable{S:PO}{L:Rs}{J:St}{Φ:Nat→Option Spec}{pat pre pp x y post:List Nat}{i n:Nat}{o7 o8 o9 o10 o11 o12:Option PV}{σ:St}
def Wx(y tx:List Nat):Prop:=∀(Φ:Nat→Option Spec) (pat:List Nat) (i n:Nat) (o7 o8 o10 o11 o12:Option PV) (S:PO) (L:Rs) (J:St),L.length≤100→∃o9',Ab Φ oQ (BL pat i n o7 o8 (some (pS y)) o10 o11 o12) (Cb S L J)=some (.next,BL pat i n o7 o8 o9' o10 o11 o12,Cb S (L++[some tx]) J)
theorem gT:Wx [] [40,63,33,41]:=fun Φ pat i n o7 o8 o10 o11 o12 S L J hL=>⟨some (pS []),by
 rw[My]
 exact Ao (p:=.bool true) rfl rfl (AA (FE (o:=some [40,63,33,41]) rfl rfl (by lia)) rfl)⟩
theorem vV:Wx [33] [46]:=fun Φ pat i n o7 o8 o10 o11 o12 S L J hL=>⟨some (pS [33]),by
 rw[My]
 exact AS (p:=.bool false) rfl rfl (AA (Ao (AI (t:=true) rfl rfl rfl) rfl (AA (FE (o:=some [46]) rfl rfl (by lia)) rfl)) rfl)⟩
theorem Te{y y' tx:List Nat}(h1:y≠[])(h2:(y==[33])=false)(hl:y.length≤100)
  (hz:∀(Φ:Nat→Option Spec) (pat:List Nat) (i n:Nat) (o7 o8 o10 o11 o12:Option PV) (σ:St),Ab Φ RG (BL pat i n o7 o8 (some (pS y)) o10 o11 o12) σ=some (.next,BL pat i n o7 o8 (some (pS y')) o10 o11 o12,σ))
  (hf:∀(Φ:Nat→Option Spec) (pat:List Nat) (i n:Nat) (o7 o8 o10 o11 o12:Option PV) (σ:St),ev Φ rT (BL pat i n o7 o8 (some (pS y')) o10 o11 o12) σ=some (pS tx,σ)):Wx y tx:=fun Φ pat i n o7 o8 o10 o11 o12 S L J hL=>⟨some (pS y'),by
 rw[My]
 have n9:ev Φ (.no (.v 9)) (BL pat i n o7 o8 (some (pS y)) o10 o11 o12) (Cb S L J)=some (.bool false,Cb S L J):=by
  refine VS (p:=pS y) (b:=true) rfl (AK (by exact Ag (n:=y.length) (by lia)) (congrArg some (bne_iff_ne.mpr ?_)))
  show y.length≠0
  exact fun q=>h1 (List.eq_nil_of_length_eq_zero q)
 have c:ev Φ (.cmp .Eq (.v 9) (.str "!")) (BL pat i n o7 o8 (some (pS y)) o10 o11 o12) (Cb S L J)=some (.bool false,Cb S L J):=AI (q:=pS [33]) rfl rfl ((MJ _ _).trans (by rw[h2]))
 exact AS n9 rfl (AA (AS c rfl (AA (hz _ _ _ _ _ _ _ _ _ _) (AA (FE (o:=some tx) rfl (hf _ _ _ _ _ _ _ _ _ _) (by lia)) rfl))) rfl)⟩
structure VB(x y tx:List Nat):Prop where
 nz:∀c∈x,c≠93
 bang:∀c0 x',x=c0::x'→c0=33→x'≠[]
 ne:x≠[]
 len:x.length≤6
 go:(∃u v c,uT x u v∧oU u v c∧uB c=some (pS y)∧(∀n,Ex n (.lst c)=true)∧∀σ,QC σ (pS [45]) (pS x)=some true) ∨
  (y=x∧(∀σ,QC σ (pS [45]) (pS x)=some false)∧∀(Φ:Nat→Option Spec) (pat:List Nat) (i n:Nat) (o7 o8 o10 o11 o12:Option PV) (σ:St),evSL Φ Yl (BL pat i n o7 o8 (some (pS x)) o10 o11 o12) σ=some (.next,BL pat i n o7 o8 (some (pS x)) o10 o11 o12,σ))
 sub:uR (pS y)=some (pS y)
 z:Wx y tx
theorem Ve{tx:List Nat}{o8' o9' o10' o11' o12':Option PV}(B:VB x y tx)(hl:(Aw pp x post).length≤900)(hL:L.length≤100)(c:DI J) :
  ∃o8 o9 o10 o11 o12 J',evSL Φ MZ (BL (Aw pp x post) pp.length (Aw pp x post).length o7 o8' o9' o10' o11' o12') (Cb S L J)=some (.next,BL (Aw pp x post) (pp.length+x.length+1) (Aw pp x post).length o7 o8 o9 o10 o11 o12,Cb S (L++[some tx]) J')∧DI J':=by
 have hn:=Ew (pp:=pp) (x:=x) (post:=post)
 obtain⟨c0,x',e0⟩:∃c0 x',x=c0::x':=by
  cases hx:x with
  | nil=>exact absurd hx B.ne
  | cons a b=>exact⟨a,b,rfl⟩
 have h9:∀σ,Ab Φ (.as 9 (.slc (.v 0) (.yes (.v 5)) (.yes (.v 8)))) (BL (Aw pp x post) pp.length (Aw pp x post).length o7 (some (.int ((pp.length+x.length:Nat):Int))) o9' o10' o11' o12') σ=some (.next,BL (Aw pp x post) pp.length (Aw pp x post).length o7 (some (.int ((pp.length+x.length:Nat):Int))) (some (pS x)) o10' o11' o12',σ):=fun σ=>by
  refine Am ((GQ (lo:=pp.length) (hi:=pp.length+x.length) rfl rfl rfl hl (by lia) (by lia)).trans ?_)
  rw[Gh,List.take_left]
 have ge:∀σ,ev Φ (.cmp .GtE (.v 8) (.v 6)) (BL (Aw pp x post) pp.length (Aw pp x post).length o7 (some (.int ((pp.length+x.length:Nat):Int))) o9' o10' o11' o12') σ=some (.bool false,σ):=fun σ=>AI (t:=false) (p:=.int ((pp.length+x.length:Nat):Int)) (q:=.int (Aw pp x post).length) rfl rfl (congrArg some (decide_eq_false (by lia)))
 have tail:∀{o5:Nat} {o10 o11 o12:Option PV} {J1:St},∃o9,evSL Φ (.cons (.as 9 (.sub (.v 9))) (.cons (.as 5 (.bin .Add (.v 8) (.int 1))) (.cons oQ .nil))) (BL (Aw pp x post) o5 (Aw pp x post).length o7 (some (.int ((pp.length+x.length:Nat):Int))) (some (pS y)) o10 o11 o12) (Cb S L J1)=some (.next,BL (Aw pp x post) (pp.length+x.length+1) (Aw pp x post).length o7 (some (.int ((pp.length+x.length:Nat):Int))) o9 o10 o11 o12,Cb S (L++[some tx]) J1):=fun {o5 o10 o11 o12 J1}=>
  (B.z Φ (Aw pp x post) (pp.length+x.length+1) (Aw pp x post).length o7 (some (.int ((pp.length+x.length:Nat):Int))) o10 o11 o12 S L J1 hL).imp fun o9 h=>AA (Am (AE (a:=pS y) rfl (BD B.sub))) (AA (Am (Az (p:=.int ((pp.length+x.length:Nat):Int)) (q:=.int 1) (r:=.int ((pp.length+x.length+1:Nat):Int)) rfl rfl rfl)) (AA h rfl))
 have hh:∀(b:Bool) σ,QC σ (pS [45]) (pS x)=some b→ev Φ W6 (BL (Aw pp x post) pp.length (Aw pp x post).length o7 (some (.int ((pp.length+x.length:Nat):Int))) (some (pS x)) o10' o11' o12') σ=some (.bool (!b),σ):=fun b σ h=>AI (p:=pS [45]) (q:=pS x) rfl rfl (congrArg (Option.map (fun x=>!x)) h)
 have start:∀{R},evSL Φ Yt.2 (BL (Aw pp x post) pp.length (Aw pp x post).length o7 (some (.int ((pp.length+x.length:Nat):Int))) o9' o10' o11' o12') (Cb S L J)=R→(∀{m σ},R=some (.next,m,σ)→evSL Φ MZ (BL (Aw pp x post) pp.length (Aw pp x post).length o7 o8' o9' o10' o11' o12') (Cb S L J)=some (.next,m,σ)):=fun {R} h {m σ} hR=>by
  refine S5 (o9:=o9') e0 hl B.nz (B.bang c0 x' e0) ?_
  exact AA (AS (ge _) rfl (h.trans hR)) rfl
 rcases B.go with⟨u,v,ch,D,M,hj,hc,hi⟩|⟨hy,hi,hr⟩
 ·obtain⟨o5',o11',o12',hd⟩:=Sg (Φ:=Φ) (pp:=pp) (post:=post) (n:=(Aw pp x post).length) (o7:=o7) (o9:=some (pS x)) (o10:=o10') (o11:=o11') (o12:=o12') (σ:=Cb S L J) D M hj hl
  obtain⟨o9,ht⟩:=tail (o5:=o5') (o10:=some (.loc (Cb S L J).length)) (o11:=o11') (o12:=o12') (J1:=J++[.lst ch])
  refine⟨_,o9,_,o11',o12',J++[.lst ch],start (by rw[Qx];exact AA (h9 _) (AA (AS (hh true _ (hi _)) rfl hd) ht)) rfl,Qq c (Bl hc Bo)⟩
 ·subst hy
  obtain⟨o9,ht⟩:=tail (o5:=pp.length) (o10:=o10') (o11:=o11') (o12:=o12') (J1:=J)
  exact⟨_,o9,o10',o11',o12',J,start (by rw[Qx];exact AA (h9 _) (AA (Ao (hh false _ (hi _)) rfl (hr _ _ _ _ _ _ _ _ _ _)) ht)) rfl,c⟩
end
section
variable{S:PO}{L:Rs}{J:St}{Φ:Nat→Option Spec}{pat pre pp x y post:List Nat}{i n:Nat}{o7 o8 o9 o10 o11 o12:Option PV}{σ:St}
theorem G3:VB [33,97] [33,97] [91,94,97,93]:=
 ⟨by decide,fun c0 x' e h=>(by cases e;exact(fun q=>(nomatch q))),(fun q=>(nomatch q)),by decide,.inr ⟨rfl,fun σ=>by kernel_rfl,fun Φ pat i n o7 o8 o10 o11 o12 σ=>by kernel_rfl⟩,by kernel_rfl,Te (y':=[94,97]) (fun q=>(nomatch q)) rfl (by decide) (fun Φ pat i n o7 o8 o10 o11 o12 σ=>by kernel_rfl) fun Φ pat i n o7 o8 o10 o11 o12 σ=>by kernel_rfl⟩
theorem H1:VB [46,97] [46,97] [91,46,97,93]:=
 ⟨by decide,fun c0 x' e h=>(by cases e;exact(fun q=>(nomatch q))),(fun q=>(nomatch q)),by decide,.inr ⟨rfl,fun σ=>by kernel_rfl,fun Φ pat i n o7 o8 o10 o11 o12 σ=>by kernel_rfl⟩,by kernel_rfl,Te (y':=[46,97]) (fun q=>(nomatch q)) rfl (by decide) (fun Φ pat i n o7 o8 o10 o11 o12 σ=>by kernel_rfl) fun Φ pat i n o7 o8 o10 o11 o12 σ=>by kernel_rfl⟩
theorem K2:VB [97,45,98] [97,45,98] [91,97,45,98,93]:=
 ⟨by decide,fun c0 x' e h=>(by cases e;exact(fun q=>(nomatch q))),(fun q=>(nomatch q)),by decide,.inl ⟨[97],[98],_,⟨rfl,fun c0 x' e=>(by cases e;rfl),(fun q=>(nomatch q)),by decide,by decide⟩,.no 97 98 (fun σ=>by kernel_rfl) (fun σ=>by kernel_rfl) (fun σ=>by kernel_rfl),by kernel_rfl,fun n=>rfl,fun σ=>by kernel_rfl⟩,by kernel_rfl,
  Te (y':=[97,45,98]) (fun q=>(nomatch q)) rfl (by decide) (fun Φ pat i n o7 o8 o10 o11 o12 σ=>by kernel_rfl) fun Φ pat i n o7 o8 o10 o11 o12 σ=>by kernel_rfl⟩
theorem tB:VB [33,46,45,97] [33,46,45,97] [91,94,46,45,97,93]:=
 ⟨by decide,fun c0 x' e h=>(by cases e;exact(fun q=>(nomatch q))),(fun q=>(nomatch q)),by decide,.inl ⟨[33,46],[97],_,⟨rfl,fun c0 x' e=>(by cases e;rfl),(fun q=>(nomatch q)),by decide,by decide⟩,.no 46 97 (fun σ=>by kernel_rfl) (fun σ=>by kernel_rfl) (fun σ=>by kernel_rfl),by kernel_rfl,fun n=>rfl,fun σ=>by kernel_rfl⟩,by kernel_rfl,
  Te (y':=[94,46,45,97]) (fun q=>(nomatch q)) rfl (by decide) (fun Φ pat i n o7 o8 o10 o11 o12 σ=>by kernel_rfl) fun Φ pat i n o7 o8 o10 o11 o12 σ=>by kernel_rfl⟩
theorem wR:VB [98,45,98,46] [98,45,98,46] [91,98,45,98,46,93]:=
 ⟨by decide,fun c0 x' e h=>(by cases e;exact(fun q=>(nomatch q))),(fun q=>(nomatch q)),by decide,.inl ⟨[98],[98,46],_,⟨rfl,fun c0 x' e=>(by cases e;rfl),(fun q=>(nomatch q)),by decide,by decide⟩,.no 98 98 (fun σ=>by kernel_rfl) (fun σ=>by kernel_rfl) (fun σ=>by kernel_rfl),by kernel_rfl,fun n=>rfl,fun σ=>by kernel_rfl⟩,by kernel_rfl,
  Te (y':=[98,45,98,46]) (fun q=>(nomatch q)) rfl (by decide) (fun Φ pat i n o7 o8 o10 o11 o12 σ=>by kernel_rfl) fun Φ pat i n o7 o8 o10 o11 o12 σ=>by kernel_rfl⟩
theorem Zl{u v w:List Nat}(h1:∀σ,Kn σ (pS u) none (some (.int (-1)))=some (pS w))(h2:∀σ,Kn σ (pS v) (some (.int 1)) none=some (pS []))(h3:∀σ,Ie .Add (pS w) (pS []) σ=some (pS w))(Φ:Nat→Option Spec)(m:Fm)(σ:St)
  (a:ev Φ (.idx (.v 10) (.bin .Sub (.v 11) (.int 1))) m σ=some (pS u,σ)) (b:ev Φ (.idx (.v 10) (.v 11)) m σ=some (pS v,σ)):ev Φ O7 m σ=some (pS w,σ):=
 Az (AE a (AE rfl (AE rfl (BD (h1 σ))))) (AE b (AE rfl (AE rfl (BD (h2 σ))))) (h3 σ)
theorem Q1:VB [98,45,97] [] [40,63,33,41]:=
 ⟨by decide,fun c0 x' e h=>(by cases e;exact(fun q=>(nomatch q))),(fun q=>(nomatch q)),by decide,.inl ⟨[98],[97],_,⟨rfl,fun c0 x' e=>(by cases e;rfl),(fun q=>(nomatch q)),by decide,by decide⟩,.yes 98 97 [] (fun σ=>by kernel_rfl) (fun σ=>by kernel_rfl) (fun σ=>by kernel_rfl) (Zl (fun σ=>by kernel_rfl) (fun σ=>by kernel_rfl) fun σ=>by kernel_rfl),by kernel_rfl,fun n=>rfl,fun σ=>by kernel_rfl⟩,by kernel_rfl,gT⟩
theorem L7:VB [33,98,45,97] [33] [46]:=
 ⟨by decide,fun c0 x' e h=>(by cases e;exact(fun q=>(nomatch q))),(fun q=>(nomatch q)),by decide,.inl ⟨[33,98],[97],_,⟨rfl,fun c0 x' e=>(by cases e;rfl),(fun q=>(nomatch q)),by decide,by decide⟩,.yes 98 97 [33] (fun σ=>by kernel_rfl) (fun σ=>by kernel_rfl) (fun σ=>by kernel_rfl) (Zl (fun σ=>by kernel_rfl) (fun σ=>by kernel_rfl) fun σ=>by kernel_rfl),by kernel_rfl,fun n=>rfl,fun σ=>by kernel_rfl⟩,by kernel_rfl,vV⟩
end
section
variable{S:PO}{L:Rs}{J:St}{Φ:Nat→Option Spec}{pat pre pp x y post:List Nat}{i n:Nat}{o7 o8 o9 o10 o11 o12:Option PV}{σ:St}
inductive TX(S:PO)(L:Rs)(pat pre:List Nat)(d:Fin 12)(o:Option (SR×Fm×St)):Prop
 | mk {o7 o8 o9 o10 o11 o12:Option PV} {J':St} (h:o=some (.next,BL pat (pre++Bt d).length pat.length o7 o8 o9 o10 o11 o12,Cb S (BH L d) J')) (c:DI J'):TX S L pat pre d o
theorem Eg{d:Fin 12}(hd:Bt d=91::(x++[93]))(B:VB x y (BN d))(h0:(d.val==0)=false)(hl:(pre++(Bt d++post)).length≤900)(hL:L.length≤100)(c:DI J) :
  TX S L (pre++(Bt d++post)) pre d (evSL Φ ZK (BL (pre++(Bt d++post)) pre.length (pre++(Bt d++post)).length o7 o8 o9 o10 o11 o12) (Cb S L J)):=by
 have e1:pre++(Bt d++post)=Aw (pre++[91]) x post:=by rw[hd];simp
 have e2:(pre++Bt d).length=(pre++[91]).length+x.length+1:=by rw[hd];simp;lia
 have e3:pre++(Bt d++post)=pre++91::(x++93::post):=by rw[hd];simp
 have e4:BH L d=L++[some (BN d)]:=by unfold BH;rw[h0];rfl
 obtain⟨p8,p9,p10,p11,p12,J',h,cJ⟩:=Ve (Φ:=Φ) (pp:=pre++[91]) (post:=post) (S:=S) (L:=L) (J:=J) (o7:=some (pS [91])) (o8':=o8) (o9':=o9) (o10':=o10) (o11':=o11) (o12':=o12) B (by rw[←e1];exact hl) hL c
 have e5:(pre++[91]).length=pre.length+1:=by rw[List.length_append];rfl
 rw[←e1,←e2,←e4,e5]at h
 refine .mk (o7:=some (pS [91])) (o8:=p8) (o9:=p9) (o10:=p10) (o11:=p11) (o12:=p12) ?_ cJ
 rw[Ri]
 have hi:=jX (Φ:=Φ) (pre:=pre) (c:=91) (X:=x++93::post) (m:=BL (pre++(Bt d++post)) pre.length (pre++(Bt d++post)).length o7 o8 o9 o10 o11 o12) (σ:=Cb S L J) (by rw[←e3];exact hl) (by rw[←e3];rfl) rfl
 exact AA (Am hi) (AA (YD (k:=pre.length) rfl) (AA (AS (AI (t:=false) rfl rfl rfl) rfl (AA (AS (AI (t:=false) rfl rfl rfl) rfl (AA (Ao (AI (t:=true) rfl rfl rfl) rfl h) rfl)) rfl)) rfl))
theorem turn{d:Fin 12}(hl:(pre++(Bt d++post)).length≤900)(hL:L.length≤100)(hΦ:Φ 1=some oK)(c:DI J) :
  TX S L (pre++(Bt d++post)) pre d (evSL Φ ZK (BL (pre++(Bt d++post)) pre.length (pre++(Bt d++post)).length o7 o8 o9 o10 o11 o12) (Cb S L J)):=by
 by_cases h:d.val≤4
 ·obtain⟨q7,h⟩:=cG (Φ:=Φ) (S:=S) (L:=L) (J:=J) (pre:=pre) (post:=post) (n:=(pre++(Bt d++post)).length) (o7':=o7) (o8:=o8) (o9:=o9) (o10:=o10) (o11:=o11) (o12:=o12) h hl hL hΦ
  exact .mk h c
 ·rcases(show d=5∨d=6∨d=7∨d=8∨d=9∨d=10∨d=11 from(by decide +kernel:∀d:Fin 12,¬d.val≤4→d=5∨d=6∨d=7∨d=8∨d=9∨d=10∨d=11) d h) with e|e|e|e|e|e|e<;>subst e
  ·exact Eg rfl G3 rfl hl hL c
  ·exact Eg rfl K2 rfl hl hL c
  ·exact Eg rfl H1 rfl hl hL c
  ·exact Eg rfl Q1 rfl hl hL c
  ·exact Eg rfl L7 rfl hl hL c
  ·exact Eg rfl tB rfl hl hL c
  ·exact Eg rfl wR rfl hl hL c
def Al(r:List (Fin 12)):List Nat:=r.flatMap Bt
theorem LQ{L:Rs}{d:Fin 12}:(BH L d).length≤L.length+1:=by
 unfold BH
 cases d.val==0
 ·show(L++[_]).length≤_;rw[List.length_append];exact Nat.le_refl _
 ·show(match L.getLast? with | some none=>L | _=>L++[none]).length≤_
  split
  ·exact Nat.le_succ _
  ·rw[List.length_append];exact Nat.le_refl _
inductive zI(S:PO)(pat:List Nat)(F:Rs):Nat→Fm→St→Prop
 | mk {r:List (Fin 12)} {pre:List Nat} {L:Rs} {J:St} {o7 o8 o9 o10 o11 o12:Option PV} (e:pat=pre++Al r) (hF:r.foldl BH L=F) (hL:L.length+r.length≤50) (c:DI J):zI S pat F r.length (BL pat pre.length pat.length o7 o8 o9 o10 o11 o12) (Cb S L J)
theorem WD:∀d:Fin 12,0<(Bt d).length:=by decide +kernel
theorem Vb{F:Rs}(hl:pat.length≤900)(hΦ:Φ 1=some oK){k:Nat}{m:Fm}(hk:k<WH)(I:zI S pat F k m σ):∃m' σ',ED (Gg Φ zU) (evSL Φ ZK) WH m σ=some (.next,m',σ')∧∃o7 o8 o9 o10 o11 o12 J,m'=BL pat pat.length pat.length o7 o8 o9 o10 o11 o12∧σ'=Cb S F J∧DI J:=by
 refine GL (I:=zI S pat F) (fun k m σ I=>?_) WH k m σ hk I
 cases I with
 | @mk r pre L J o7 o8 o9 o10 o11 o12 e hF hL c=>
 have t1:Gg Φ zU (BL pat pre.length pat.length o7 o8 o9 o10 o11 o12) (Cb S L J)=some (decide (pre.length<pat.length),Cb S L J):=by
  refine AE (AI (p:=.int pre.length) (q:=.int pat.length) (t:=decide (pre.length<pat.length)) rfl rfl ?_) rfl
  exact congrArg some (decide_eq_decide.mpr Int.ofNat_lt)
 cases r with
 | nil=>
  have ep:pat=pre:=by rw[e];exact List.append_nil pre
  subst ep
  rw[decide_eq_false (Nat.lt_irrefl _)]at t1
  exact .stop t1 ⟨o7,o8,o9,o10,o11,o12,J,rfl,by rw[←hF];rfl,c⟩
 | cons d r=>
  rw[List.length_cons]at hL
  have e':pat=pre++(Bt d++Al r):=e
  subst e'
  have hp:=WD d
  have t2:Gg Φ zU (BL (pre++(Bt d++Al r)) pre.length (pre++(Bt d++Al r)).length o7 o8 o9 o10 o11 o12) (Cb S L J)=some (true,Cb S L J):=by rw[t1,decide_eq_true (by rw[List.length_append,List.length_append];lia)]
  cases turn (Φ:=Φ) (S:=S) (L:=L) (J:=J) (pre:=pre) (post:=Al r) (d:=d) (o7:=o7) (o8:=o8) (o9:=o9) (o10:=o10) (o11:=o11) (o12:=o12) hl (by lia) hΦ c with
  | mk h c'=>
   have:=LQ (L:=L) (d:=d)
   exact .go (r:=.next) (k':=r.length) t2 h (.inl rfl) (Nat.lt_succ_self _) (.mk (by rw[List.append_assoc]) hF (by lia) c')
theorem ZI{τ:St}:∀(L:Rs) (k:Nat),L.length+5≤k→fzL 2 τ k (L.map eV)=some (L.map eV)
 | [],k,h=>Cv _ _ _ (by lia)
 | o::L,k,h=>by
  rw[List.length_cons]at h
  obtain⟨k,rfl⟩:∃j,k=j+2:=⟨k-2,by lia⟩
  refine AC (a:=eV o) ?_ (AC (ZI L (k+1) (by lia)) rfl)
  cases o with
  | none=>rfl
  | some x=>rfl
theorem zE{is:List Nat}{xs:XL}{m:Fm}{ps:List PV}(h:evL Φ xs m σ=some (ps,σ))(hg:(decide (is.length=ps.length)&&decide (ps.length≤BM))=true):Ab Φ (.asW is xs) m σ=some (.next,GC is.reverse ps.reverse m,σ):=AE h (AK hg rfl)
theorem dK(hS:∀n,Ex n S=true){r:List (Fin 12)}(hr:r.length≤20):F5 [pS (Al r),.loc 1,pS [46]] [S,.plain]=some (.val (.lst ((r.foldl BH []).map eV)),[S,.plain]):=by
 have hl:∀r:List (Fin 12),(Al r).length≤6*r.length:=fun r=>by
  induction r with
  | nil=>exact Nat.le_refl _
  | cons d r ih=>
   show(Bt d++Al r).length≤6*(r.length+1)
   rw[List.length_append]
   have:=OT d
   lia
 have hlr:=hl r
 obtain⟨m',σ',h1,o7,o8,o9,o10,o11,o12,J,hm,hσ,cJ⟩:=Vb (Φ:=tab aW) (S:=S) (pat:=Al r) (F:=r.foldl BH []) (k:=r.length) (by lia) rfl (by show _<100000;lia) (zI.mk (S:=S) (r:=r) (pre:=[]) (L:=[]) (J:=[]) (o7:=none) (o8:=none) (o9:=none) (o10:=none) (o11:=none) (o12:=none) rfl rfl (by show 0+_≤50;lia) Bo)
 subst hm hσ
 have e3:Ab (tab aW) (.asW [5,6] (.cons (.int 0) (.cons (.bi .len (.cons (.v 0) .nil)) .nil))) [some (pS (Al r)),some (.loc 1),some (pS [46]),some (.loc 2),some (.app 2),none,none,none,none,none,none,none,none] (Cb S [] [])=some (.next,BL (Al r) 0 (Al r).length none none none none none none,Cb S [] []):=
  zE (ps:=[.int 0,.int (Al r).length]) (AD rfl (AD (GH (i:=0) (by lia) rfl) AG)) rfl
 have e5:Ab (tab aW) (.asr (.cmp .Eq (.v 5) (.v 6))) (BL (Al r) (Al r).length (Al r).length o7 o8 o9 o10 o11 o12) (Cb S (r.foldl BH []) J)=some (.next,BL (Al r) (Al r).length (Al r).length o7 o8 o9 o10 o11 o12,Cb S (r.foldl BH []) J):=
  Yy (AI (t:=true) (p:=.int (Al r).length) (q:=.int (Al r).length) rfl rfl ((Qe _ _ _).trans (congrArg some (beq_self_eq_true _)))) rfl
 have h9:evSL (tab aW) kN [some (pS (Al r)),some (.loc 1),some (pS [46]),none,none,none,none,none,none,none,none,none,none] [S,.plain]=some (.ret (.loc 2),BL (Al r) (Al r).length (Al r).length o7 o8 o9 o10 o11 o12,Cb S (r.foldl BH []) J):=by
  rw[bU]
  exact AA (Am (p:=.loc 2) rfl) (AA (Am (p:=.app 2) rfl) (AA e3 (AA (Mc h1) (AA e5 (AN (Bz rfl) rfl)))))
 have h8:Ae (tab aW) 3 13 kN [pS (Al r),.loc 1,pS [46]] [S,.plain]=some (.val (.loc 2),[S,.plain]++(PO.lst ((r.foldl BH []).map eV)::J)):=Cp h9 rfl rfl
 refine Bf h8 rfl ?_ (Bl hS (Bl (fun _=>rfl) Bo))
 show(fzL 2 (Cb S (r.foldl BH []) J) 99999 ((r.foldl BH []).map eV)).map PV.lst=_
 have hFl:∀(r:List (Fin 12)) (L:Rs),(r.foldl BH L).length≤L.length+r.length:=fun r=>by
  induction r with
  | nil=>exact fun L=>Nat.le_refl _
  | cons d r ih=>
   intro L
   have:=ih (BH L d)
   have:=LQ (L:=L) (d:=d)
   show((r.foldl BH (BH L d)).length)≤L.length+(r.length+1)
   lia
 have:=hFl r []
 rw[ZI _ _ (Nat.le_trans (show(r.foldl BH []).length+5≤30 by have:([]:Rs).length=0:=rfl;lia) (by decide))];rfl
end
noncomputable def rg(n:Nat)(f:Nat→Nat):List Nat:=(List.range n).map f
noncomputable def Ej:List Nat:=[1,2,4,5,6]
def Yq:St:=[sB [],.plain]
noncomputable def Vy:List Nat:=[40,63,115,58]
noncomputable def WR:List Nat:=[41,92,90]
def J3(A B C:List Nat):List Nat:=Vy++((A++(B++(C++[])))++WR)
def jn(l:List PV):Option (Oi×St):=K1 [.lst l,.loc 1] Yq
def out(x:List Nat):Option (Oi×St):=some (.val (pS x),Yq)
def l2:List (Nat×Nat):=Ej.flatMap fun a=>Ej.map fun b=>(a,b)
def l3:List (Nat×Nat×Nat):=Ej.flatMap fun a=>l2.map fun b=>(a,b)
theorem nQ(f g h:Nat→Nat):l3.map (fun x=>jn [pS (rg x.1 f),pS (rg x.2.1 g),pS (rg x.2.2 h)])=l3.map (fun x=>out (Vy++((rg x.1 f++(rg x.2.1 g++(rg x.2.2 h++[])))++WR))):=by kernel_rfl
theorem pX(g h:Nat→Nat):l2.map (fun x=>jn [.loc 1,pS (rg x.1 g),pS (rg x.2 h)])=l2.map (fun x=>out (Vy++([46,42]++(rg x.1 g++(rg x.2 h++[]))++WR))):=by kernel_rfl
theorem pQ(f h:Nat→Nat):l2.map (fun x=>jn [pS (rg x.1 f),.loc 1,pS (rg x.2 h)])=l2.map (fun x=>out (Vy++(rg x.1 f++([46,42]++(rg x.2 h++[]))++WR))):=by kernel_rfl
theorem lY(f g:Nat→Nat):l2.map (fun x=>jn [pS (rg x.1 f),pS (rg x.2 g),.loc 1])=l2.map (fun x=>out (Vy++(rg x.1 f++(rg x.2 g++([46,42]++[]))++WR))):=by kernel_rfl
theorem xY(h:Nat→Nat):Ej.map (fun x=>jn [.loc 1,pS (rg x h)])=Ej.map (fun x=>out (Vy++([46,42]++(rg x h++[])++WR))):=by kernel_rfl
theorem qM(g:Nat→Nat):Ej.map (fun x=>jn [.loc 1,pS (rg x g),.loc 1])=Ej.map (fun x=>out (Vy++([40,63,62,46,42,63]++(rg x g++([41]++([46,42]++[])))++WR))):=by kernel_rfl
theorem uU(f:Nat→Nat):Ej.map (fun x=>jn [pS (rg x f),.loc 1])=Ej.map (fun x=>out (Vy++(rg x f++([46,42]++[])++WR))):=by kernel_rfl
theorem wK:jn [.loc 1]=out (Vy++([46,42]++[]++WR)):=by kernel_rfl
theorem Aq(d:Fin 12):BN d=rg (BN d).length (fun i=>(BN d).getD i 0):=cI (f:=BN) (g:=fun d=>rg (BN d).length fun i=>(BN d).getD i 0) (by kernel_rfl) d
theorem Ca:∀d:Fin 12,(d.val==0)=false→(BN d).length∈Ej:=by decide +kernel
theorem Nv{a b:Nat}(ha:a∈Ej)(hb:b∈Ej):(a,b)∈l2:=List.mem_flatMap.mpr ⟨a,ha,List.mem_map.mpr ⟨b,hb,rfl⟩⟩
theorem yW{a b c:Nat}(ha:a∈Ej)(hb:b∈Ej)(hc:c∈Ej):(a,b,c)∈l3:=List.mem_flatMap.mpr ⟨a,ha,List.mem_map.mpr ⟨(b,c),Nv hb hc,rfl⟩⟩
theorem CX{L:Rs}{d:Fin 12}(h:(d.val==0)=false):BH L d=L++[some (BN d)]:=by unfold BH;rw[h];rfl
theorem Bg{d:Fin 12}(h:(d.val==0)=true):d=0:=Fin.ext (beq_iff_eq.mp h)
theorem Mh{a b c:Fin 12}{x y z:Bool}(h1:(a.val==0)=x)(h2:(b.val==0)=y)(h3:(c.val==0)=z):[a,b,c].map (·.val==0)=[x,y,z]:=by subst h1 h2 h3;rfl
def EG(row:List (Fin 12)):List Nat:=Bw row (BE (row.map (·.val==0)))
theorem RH(a b c:Fin 12):jn ((([a,b,c].foldl BH []):Rs).map eV)=out (EG [a,b,c]):=by
 show jn (((BH (BH (BH [] a) b) c):Rs).map eV)=_
 unfold EG
 cases ha:a.val==0<;>cases hb:b.val==0<;>cases hc:c.val==0
 ·rw[CX ha,CX hb,CX hc]
  show jn [pS (BN a),pS (BN b),pS (BN c)]=_
  rw[Mh ha hb hc]
  rw[Aq a,Aq b,Aq c]
  refine(List.map_inj_left.mp (nQ _ _ _) _ (yW (Ca a ha) (Ca b hb) (Ca c hc))).trans ?_
  rw[←Aq a,←Aq b,←Aq c];rfl
 ·cases Bg hc
  rw[CX ha,CX hb]
  show jn [pS (BN a),pS (BN b),.loc 1]=_
  rw[Mh ha hb hc]
  rw[Aq a,Aq b]
  refine(List.map_inj_left.mp (lY _ _) _ (Nv (Ca a ha) (Ca b hb))).trans ?_
  rw[←Aq a,←Aq b];rfl
 ·cases Bg hb
  rw[CX ha,CX hc]
  show jn [pS (BN a),.loc 1,pS (BN c)]=_
  rw[Mh ha hb hc]
  rw[Aq a,Aq c]
  refine(List.map_inj_left.mp (pQ _ _) _ (Nv (Ca a ha) (Ca c hc))).trans ?_
  rw[←Aq a,←Aq c];rfl
 ·cases Bg hb;cases Bg hc
  rw[CX ha]
  show jn [pS (BN a),.loc 1]=_
  rw[Mh ha hb hc]
  rw[Aq a]
  refine(List.map_inj_left.mp (uU _) _ (Ca a ha)).trans ?_
  rw[←Aq a];rfl
 ·cases Bg ha
  rw[CX hb,CX hc]
  show jn [.loc 1,pS (BN b),pS (BN c)]=_
  rw[Mh ha hb hc]
  rw[Aq b,Aq c]
  refine(List.map_inj_left.mp (pX _ _) _ (Nv (Ca b hb) (Ca c hc))).trans ?_
  rw[←Aq b,←Aq c];rfl
 ·cases Bg ha;cases Bg hc
  rw[CX hb]
  show jn [.loc 1,pS (BN b),.loc 1]=_
  rw[Mh ha hb hc]
  rw[Aq b]
  refine(List.map_inj_left.mp (qM _) _ (Ca b hb)).trans ?_
  rw[←Aq b];rfl
 ·cases Bg ha;cases Bg hb
  rw[CX hc]
  show jn [.loc 1,pS (BN c)]=_
  rw[Mh ha hb hc]
  rw[Aq c]
  refine(List.map_inj_left.mp (xY _) _ (Ca c hc)).trans ?_
  rw[←Aq c];rfl
 ·cases Bg ha;cases Bg hb;cases Bg hc
  exact wK
theorem Ia(a b c:Fin 12):zP [pS (Al [a,b,c])] [sB []]=some (.val (pS (EG [a,b,c])),[sB []]):=by
 have e2:ev (tab kP) (.call 2 (.cons (.v 0) (.cons (.v 1) (.cons (.str ".") .nil)))) [some (pS (Al [a,b,c])),some (.loc 1),none] Yq=some (.lst ((([a,b,c].foldl BH []):Rs).map eV),Yq):=
  Ai (ps:=[pS (Al [a,b,c]),.loc 1,pS [46]]) (AD rfl (AD rfl (AD rfl AG))) rfl (dK (S:=sB []) (fun _=>rfl) (r:=[a,b,c]) (by show 3≤20;decide))
 have e3:ev (tab kP) (.call 3 (.cons (.v 2) (.cons (.v 1) .nil))) [some (pS (Al [a,b,c])),some (.loc 1),some (.lst ((([a,b,c].foldl BH []):Rs).map eV))] Yq=some (pS (EG [a,b,c]),Yq):=
  Ai (ps:=[.lst ((([a,b,c].foldl BH []):Rs).map eV),.loc 1]) (AD rfl (AD rfl AG)) rfl (RH a b c)
 have h9:evSL (tab kP) zJ [some (pS (Al [a,b,c])),none,none] [sB []]=some (.ret (pS (EG [a,b,c])),[some (pS (Al [a,b,c])),some (.loc 1),some (.lst ((([a,b,c].foldl BH []):Rs).map eV))],Yq):=
  AA (Am (p:=.loc 1) (σ₁:=Yq) rfl) (AA (Am e2) (AN (Bz e3) rfl))
 have h8:Ae (tab kP) 1 3 zJ [pS (Al [a,b,c])] [sB []]=some (.val (pS (EG [a,b,c])),[sB []]++[.plain]):=Cp h9 rfl rfl
 exact Bf h8 rfl (DH _ _ _ _ (by decide)) (Bl (fun _=>rfl) Bo)
theorem RC(x y z:Bool):((BE [x,y,z]).flatMap Dx).foldl (fun D x=>zH x D) [(.bare,[])]=BE [x,y,z]:=by cases x<;>cases y<;>cases z<;>rfl
theorem Pe(row:List (Fin 12))(x y z:Bool):(Bw row (BE [x,y,z])).length≤100:=by
 have h:∀i,(BN (row.getD i 0)).length≤6:=fun i=>Jo _
 have h0:=h 0;have h1:=h 1;have h2:=h 2
 have hl:∀r:List Tok,(tt row r).length≤6*r.length:=fun r=>by
  induction r with
  | nil=>exact Nat.le_refl _
  | cons x r ih=>
   rw[Jc,List.length_append,List.length_cons]
   have:(Cg row x).length≤6:=by
    cases x with
    | op=>exact Nat.le_refl _
    | cl=>show 1≤6;decide
    | st=>show 2≤6;decide
    | pc i=>exact Jo _
   lia
 have h3:=hl ((BE [x,y,z]).flatMap Dx)
 have h4:((BE [x,y,z]).flatMap Dx).length≤6:=by cases x<;>cases y<;>cases z<;>decide
 unfold Bw IG
 rw[List.length_append,List.length_append]
 show 4+(_+3)≤100
 lia
theorem Qo(a b c:Fin 12):SV [pS (EG [a,b,c])] [sB []]=some (.val (.lst ((BE ([a,b,c].map (·.val==0))).map (BZ [a,b,c]))),[sB []]):=by
 have hok:∀x∈(BE [a.val==0,b.val==0,c.val==0]).flatMap Dx,Lg [a,b,c] x:=by
  have nz:∀{d:Fin 12},(!(d.val==0))=true→d≠0:=fun h q=>by rw[q]at h;cases h
  have key:∀x y z:Bool,((BE [x,y,z]).flatMap Dx).all (fun t=>match t with | .pc i=>[!x,!y,!z].getD i false | _=>true)=true:=by decide
  intro x hx i e
  have h:=List.all_eq_true.mp (key _ _ _) _ (e▸hx)
  match i,h with
  | 0,h=>exact nz h
  | 1,h=>exact nz h
  | 2,h=>exact nz h
  | _+3,h=>exact absurd h Bool.false_ne_true
 have hts:∀(x y z:Bool),(∀p∈BE [x,y,z],p.2.length≤20)∧(BE [x,y,z]).length≤10∧BE [x,y,z]≠[]∧((BE [x,y,z]).flatMap Dx).length≤20:=by
  intro x y z
  cases x<;>cases y<;>cases z<;>exact⟨by decide,by decide,(fun q=>nomatch q),by decide⟩
 have h:=hts (a.val==0) (b.val==0) (c.val==0)
 exact PX (row:=[a,b,c]) (S:=sB []) (ts:=[]) (fun _=>rfl) (ps:=BE [a.val==0,b.val==0,c.val==0]) hok (Nat.le_trans (Pe _ _ _ _) (by decide)) (RC _ _ _) h.2.2.2 h.2.1 h.1 h.2.2.1
def pB(x:Nat×List Nat):List UInt8:=x.1.toUInt8::cB x.2
def vG(x:List Nat):Prop:=(∀c∈x,c<256)∧x.length≤30
section
variable{Φ:Nat→Option Spec}{rest:List UInt8}
theorem Fs(l:List UInt8):DI [sB l]:=Bl (fun _=>rfl) Bo
theorem Uu{ar:Nat}{elt it:X}{ifs:XL}{m:Fm}{σ σ1 σ2:St}{p:PV}{l rs:List PV}{n:Option Nat}(h1:ev Φ it m σ=some (p,σ1))(h2:EM σ1 p=some (l,n))(h3:EF n ar (evT Φ ifs) (ev Φ elt) m l 0 σ1 []=some (rs,σ2)):ev Φ (.comp ar elt it ifs) m σ=some (.lst rs,σ2):=AE h1 (AC h2 (AE h3 rfl))
theorem JG(hΦ:Φ 9=some oL){m:Fm}(hm:∀q,ZW (m++[some q]) 0=some (.strm 0))(hr:rest.length≤200):∀(ws:List (List Nat)) (qs:List PV) (k:Nat) (acc:List PV),qs.length=ws.length→(∀x∈ws,vG x)→ws.length+acc.length≤10 →
  EF none 1 (evT Φ .nil) (ev Φ (.call 9 (.cons (.v 0) .nil))) m qs k [sB (ws.flatMap cB++rest)] acc=some (acc++ws.map pS,[sB rest])
 | [],[],k,acc,_,_,_=>AK rfl (by rw[List.map_nil,List.append_nil];rfl)
 | x::ws,q::qs,k,acc,hq,hw,hl=>by
  obtain⟨h1,h2⟩:=hw x (.head _)
  have hwl:(ws.flatMap cB).length≤31*ws.length:=by
   have:∀ws:List (List Nat),(∀x∈ws,vG x)→(ws.flatMap cB).length≤31*ws.length:=fun ws=>by
    induction ws with
    | nil=>exact fun _=>Nat.le_refl _
    | cons x ws ih=>
     intro h
     have:=ih fun y hy=>h y (.tail _ hy)
     have:=(h x (.head _)).2
     rw[List.flatMap_cons,List.length_append,GF,List.length_cons];lia
   exact this ws fun y hy=>hw y (.tail _ hy)
  rw[List.length_cons]at hl
  have hs:oL [.strm 0] [sB ((x::ws).flatMap cB++rest)]=some (.val (pS x),[sB (ws.flatMap cB++rest)]):=by
   rw[List.flatMap_cons,List.append_assoc]
   exact Nl (σ:=[sB (cB x++(ws.flatMap cB++rest))]) (l:=ws.flatMap cB++rest) rfl h1 (by lia) (by rw[List.length_append];lia) (Fs _)
  have he:ev Φ (.call 9 (.cons (.v 0) .nil)) (m++[some q]) [sB ((x::ws).flatMap cB++rest)]=some (pS x,[sB (ws.flatMap cB++rest)]):=Ai (AD (BD (hm q)) AG) hΦ hs
  have IH:=JG hΦ hm hr ws qs (k+1) (acc++[pS x]) (Nat.succ.inj hq) (fun y hy=>hw y (.tail _ hy)) (by rw[List.length_append];show ws.length+(acc.length+1)≤10;lia)
  refine AK (Ag (by lia)) (AC (a:=q) rfl (AC (a:=[some q]) rfl (AE (a:=true) rfl (Sw rfl (AE he (IH.trans ?_))))))
  rw[List.append_assoc];rfl
 | [],_::_,_,_,h,_,_=>nomatch h
 | _::_,[],_,_,h,_,_=>nomatch h
noncomputable def B7:X:=.cmp .Eq (.v 4) (.str "")
noncomputable def D4:SL:=.cons (.tryR (.cons (.callA 5 8 (.cons (.v 0) .nil)) (.cons (.callA 6 9 (.cons (.v 0) .nil)) .nil)) 4 (.cons (.ex (.me .append (.v 3) (.cons (.v 5) .nil))) (.cons (.ex (.me .append (.v 2) (.cons (.v 6) .nil))) .nil))) .nil
noncomputable def V8:X:=.comp 1 (.call 9 (.cons (.v 0) .nil)) (.bi .range (.cons (.call 8 (.cons (.v 0) .nil)) .nil)) .nil
theorem UX:Rw=.cons (.as 1 V8) (.cons (.as 2 (.mlist .nil)) (.cons (.as 3 (.mlist .nil)) (.cons (.as 4 (.str "")) (.cons (.wh B7 D4) (.cons (.ret (.tup (.cons (.v 1) (.cons (.v 2) (.cons (.v 3) (.cons (.v 4) .nil)))))) .nil))))):=rfl
noncomputable def OP(P:PV)(w:PV)(o5 o6:Option PV):Fm:=[some (.strm 0),some P,some (.loc 1),some (.loc 2),some w,o5,o6]
abbrev kT:=List (Nat×List Nat)
def HZ(b:List UInt8)(D:kT):St:=[sB b,.lst (D.map fun x=>pS x.2),.lst (D.map fun x=>.int (x.1:Int))]
def M7(x:Nat×List Nat):Prop:=x.1<256∧vG x.2
theorem Jz(b:List UInt8)(D:kT):DI (HZ b D):=Bl (fun _=>rfl) (Bl (fun n=>Bool.and_eq_true_iff.mpr ⟨Dl (f:=fun(x:Nat×List Nat)=>pS x.2) (fun _ _=>rfl) n D,rfl⟩) (Bl (fun n=>Bool.and_eq_true_iff.mpr ⟨Dl (f:=fun(x:Nat×List Nat)=>PV.int (x.1:Int)) (fun _ _=>rfl) n D,rfl⟩) Bo))
theorem Mb{x:Nat×List Nat}:(pB x).length=x.2.length+2:=by unfold pB;rw[List.length_cons,GF]
theorem Jf:∀(r:kT),(∀x∈r,M7 x)→(r.flatMap pB).length≤32*r.length
 | [],_=>Nat.le_refl _
 | x::r,h=>by
  have:=Jf r fun y hy=>h y (.tail _ hy)
  have:=(h x (.head _)).2.2
  rw[List.flatMap_cons,List.length_append,Mb,List.length_cons];lia
theorem VQ{P:PV}{all:kT}(hall:∀x∈all,M7 x)(hn:all.length≤10):∃m' σ',ED (Gg (tab Fu) B7) (evSL (tab Fu) D4) WH (OP P (pS []) none none) (HZ (all.flatMap pB) [])=some (.next,m',σ')∧∃o5 o6,m'=OP P (.str Di) o5 o6∧σ'=HZ [] all:=by
 refine GL (I:=fun k m σ=>(∃D r o5 o6,k=r.length+1∧D++r=all∧m=OP P (pS []) o5 o6∧σ=HZ (r.flatMap pB) D)∨(∃o5 o6,k=0∧m=OP P (.str Di) o5 o6∧σ=HZ [] all)) (fun k m σ I=>?_) WH (all.length+1) _ _ (by show _<100000;lia) (.inl ⟨[],all,none,none,rfl,rfl,rfl,rfl⟩)
 rcases I with⟨D,r,o5,o6,hk,hD,hm,hσ⟩|⟨o5,o6,hk,hm,hσ⟩
 ·subst hm hσ
  have t1:Gg (tab Fu) B7 (OP P (pS []) o5 o6) (HZ (r.flatMap pB) D)=some (true,HZ (r.flatMap pB) D):=AE (AI (t:=true) rfl rfl rfl) rfl
  have hDl:D.length+r.length≤10:=by rw[←List.length_append,hD];exact hn
  cases r with
  | nil=>
   rw[List.append_nil]at hD
   subst hD
   have h1:evSL (tab Fu) D4 (OP P (pS []) o5 o6) (HZ [] D)=some (.next,OP P (.str Di) o5 o6,HZ [] D):=
    AA (BO (t:=.exc Di) (AN (Gi (o:=.exc Di) (AD rfl AG) rfl (QW (σ:=HZ [] D) rfl (Jz _ _))) rfl) rfl) rfl
   exact .go (r:=.next) (k':=0) t1 h1 (.inl rfl) (by lia) (.inr ⟨o5,o6,rfl,rfl,rfl⟩)
  | cons x r=>
   have hx:=hall x (by rw[←hD];exact List.mem_append_right _ (.head _))
   have hrl:=Jf r fun y hy=>hall y (by rw[←hD];exact List.mem_append_right _ (.tail _ hy))
   rw[List.length_cons]at hDl
   have hxl:=hx.2.2
   have c1:Ab (tab Fu) (.callA 5 8 (.cons (.v 0) .nil)) (OP P (pS []) o5 o6) (HZ ((x::r).flatMap pB) D)=some (.next,OP P (pS []) (some (.int (x.1:Int))) o6,HZ (cB x.2++r.flatMap pB) D):=by
    have hu:=HN (σ:=HZ ((x::r).flatMap pB) D) (b:=x.1.toUInt8) (l:=cB x.2++r.flatMap pB) rfl (by rw[List.length_append,GF];lia) (Jz _ _)
    rw[Mm hx.1]at hu
    exact Gi (AD rfl AG) rfl hu
   have c2:Ab (tab Fu) (.callA 6 9 (.cons (.v 0) .nil)) (OP P (pS []) (some (.int (x.1:Int))) o6) (HZ (cB x.2++r.flatMap pB) D)=some (.next,OP P (pS []) (some (.int (x.1:Int))) (some (pS x.2)),HZ (r.flatMap pB) D):=
    Gi (AD rfl AG) rfl (Nl (σ:=HZ (cB x.2++r.flatMap pB) D) (l:=r.flatMap pB) rfl hx.2.1 (by lia) (by lia) (Jz _ _))
   have c3:evSL (tab Fu) (.cons (.ex (.me .append (.v 3) (.cons (.v 5) .nil))) (.cons (.ex (.me .append (.v 2) (.cons (.v 6) .nil))) .nil)) (OP P (pS []) (some (.int (x.1:Int))) (some (pS x.2))) (HZ (r.flatMap pB) D)=some (.next,OP P (pS []) (some (.int (x.1:Int))) (some (pS x.2)),HZ (r.flatMap pB) (D++[x])):=by
    have a1:=Br (σ:=HZ (r.flatMap pB) D) (n:=2) (l:=D.map fun x=>.int (x.1:Int)) (p:=.int (x.1:Int)) rfl (by rw[List.length_map];lia)
    refine AA (Ea (p:=.none) (DW rfl (DG (n:=2) rfl) (AD rfl AG) a1)) (AA (Ea (p:=.none) (DW rfl (DG (n:=1) rfl) (AD rfl AG) ((Br (n:=1) (l:=D.map fun x=>pS x.2) rfl (by rw[List.length_map];lia)).trans ?_))) rfl)
    show some (PV.none,[sB (r.flatMap pB),.lst ((D.map fun x=>pS x.2)++[pS x.2]),.lst ((D.map fun x=>.int (x.1:Int))++[.int (x.1:Int)])])=_
    unfold HZ
    rw[List.map_append,List.map_append];rfl
   exact .go (r:=.next) (k':=r.length+1) t1 (AA (BO (t:=.next) (AA c1 (AA c2 rfl)) c3) rfl) (.inl rfl) (by rw[hk];exact Nat.lt_succ_self _) (.inl ⟨D++[x],r,_,_,rfl,by rw[List.append_assoc];exact hD,rfl,rfl⟩)
 ·subst hm hσ
  exact .stop (AE (AI (t:=false) rfl rfl (by kernel_rfl)) rfl) ⟨o5,o6,rfl,rfl⟩
theorem Rt{ws:List (List Nat)}{all:kT}(hw:∀x∈ws,vG x)(h4:ws.length=4)(hall:∀x∈all,M7 x)(hn:all.length≤5) :
  TK [.strm 0] [sB (4::(ws.flatMap cB++all.flatMap pB))]=some (.val (.tup [.lst (ws.map pS),.lst (all.map fun x=>pS x.2),.lst (all.map fun x=>.int (x.1:Int)),.str Di]),[sB []]):=by
 have hal:=Jf all hall
 have hwl:(ws.flatMap cB).length≤31*ws.length:=by
  have:∀ws:List (List Nat),(∀x∈ws,vG x)→(ws.flatMap cB).length≤31*ws.length:=fun ws=>by
   induction ws with
   | nil=>exact fun _=>Nat.le_refl _
   | cons x ws ih=>
    intro h
    have:=ih fun y hy=>h y (.tail _ hy)
    have:=(h x (.head _)).2
    rw[List.flatMap_cons,List.length_append,GF,List.length_cons];lia
  exact this ws hw
 have e1:Ab (tab Fu) (.as 1 V8) [some (.strm 0),none,none,none,none,none,none] [sB (4::(ws.flatMap cB++all.flatMap pB))]=some (.next,[some (.strm 0),some (.lst (ws.map pS)),none,none,none,none,none],[sB (all.flatMap pB)]):=by
  have hu:=HN (σ:=[sB (4::(ws.flatMap cB++all.flatMap pB))]) (b:=4) (l:=ws.flatMap cB++all.flatMap pB) rfl (by rw[List.length_append];lia) (Fs _)
  have hi:ev (tab Fu) (.bi .range (.cons (.call 8 (.cons (.v 0) .nil)) .nil)) [some (.strm 0),none,none,none,none,none,none] [sB (4::(ws.flatMap cB++all.flatMap pB))]=some (.rng 0 ((4:Nat):Int) 1,[sB (ws.flatMap cB++all.flatMap pB)]):=
   CT (ps:=[.int ((4:Nat):Int)]) (AD (Ai (AD rfl AG) rfl hu) AG) rfl
  exact Am (Uu hi (CS _ (by decide)) (JG (rest:=all.flatMap pB) rfl (fun q=>rfl) (by lia) ws _ 0 [] (by rw[List.length_map,List.length_range,h4]) hw (by rw[h4];decide)))
 obtain⟨m',σ',h1,o5,o6,hm,hσ⟩:=VQ (P:=.lst (ws.map pS)) hall (by lia)
 subst hm hσ
 have h9:evSL (tab Fu) Rw [some (.strm 0),none,none,none,none,none,none] [sB (4::(ws.flatMap cB++all.flatMap pB))]=some (.ret (.tup [.lst (ws.map pS),.loc 1,.loc 2,.str Di]),OP (.lst (ws.map pS)) (.str Di) o5 o6,HZ [] all):=by
  rw[UX]
  exact AA e1 (AA (Am (p:=.loc 1) rfl) (AA (Am (p:=.loc 2) rfl) (AA (Am (p:=pS []) rfl) (AA (Mc h1) (AN (Bz rfl) rfl)))))
 have h8:Ae (tab Fu) 1 7 Rw [.strm 0] [sB (4::(ws.flatMap cB++all.flatMap pB))]=some (.val (.tup [.lst (ws.map pS),.loc 1,.loc 2,.str Di]),[sB []]++(HZ [] all).tail):=Cp h9 rfl rfl
 have h7:∀k,51≤k→OF 1 (HZ [] all) k (.tup [.lst (ws.map pS),.loc 1,.loc 2,.str Di])=some (.tup [.lst (ws.map pS),.lst (all.map fun x=>pS x.2),.lst (all.map fun x=>.int (x.1:Int)),.str Di]):=
  So (K:=50) (Fr (K:=49) (fun k hk=>Qj (Cf fun a _=>DH _) _ _ _ (by lia)) (Fr (K:=48) (fun k hk=>Fl (K:=40) (l:=all.map fun x=>pS x.2) (show 1≤1 by decide) rfl ((Cf fun a _=>DH _).more (by lia)) (by lia)) (Fr (K:=47) (fun k hk=>Fl (K:=40) (l:=all.map fun x=>.int (x.1:Int)) (show 1≤2 by decide) rfl ((Cf fun a _=>GD _).more (by lia)) (by lia)) (Fr (K:=46) (fun k hk=>DH _ _ _ _ (by lia)) fun k hk=>Cv _ _ _ (by lia)))))
 exact Bf h8 rfl (h7 100000 (by decide)) (Fs _)
end
noncomputable def lM(a0 a1 a2 a3 a4 a5 a6 a7 a8 a9 a10 a11 a12 a13 a14 a15:Option PV):Fm:=[a0,a1,a2,a3,a4,a5,a6,a7,a8,a9,a10,a11,a12,a13,a14,a15]
noncomputable def GB(l:List Int):List Int:=(l.take 20).map fun x=>x.fmod 1000000000
def qH(ns:List Int)(k n:Nat):Int:=((JV (k:Int) (n:Int) ns.length).map fun i=>ns.getD i 0).sum
noncomputable def b5(k:Nat):Int:=[3,22,7,23,25].getD k 0
noncomputable def b4(k:Nat):Int:=[2,36,61,912].getD k 0
def MM(l:List Int)(k:Nat):Int:=b5 k+qH (GB l) k 5
def yI(l:List Int)(j:Nat):Int:=b4 j+qH (GB l) j 4
def Ds(l:List Int)(j:Nat):List (Fin 12):=LE (yI l j)
def Eu(l:List Int)(k:Nat):List (Fin 3):=LV (MM l k)
def wt(l:List Int)(k:Nat):Nat:=(1+(MM l k).fmod 7).toNat
theorem JE(l:List Int)(k:Nat):wt l k≤7∧((wt l k:Nat):Int)=1+(MM l k).fmod 7:=by
 have hm:(MM l k).fmod 7=MM l k%7:=Int.fmod_eq_emod_of_nonneg _ (by decide)
 unfold wt
 lia
theorem Kx(l:List Int):(GB l).length≤20:=by unfold GB;rw[List.length_map,List.length_take];lia
section
variable{Φ:Nat→Option Spec}{l:List Int}{a0 a1 a2 a3 a4 a5 a6 a7 a8 a9 a10 a11 a12 a13 a14 a15:Option PV}{σ:St}
theorem xE{l:List PV}{lo hi:Option PV}{a b:Option Int}(h1:HS lo=some a)(h2:HS hi=some b)(hl:l.length≤1000):Kn σ (.lst l) lo hi=some (.lst (Iz l a b)):=
 AC h1 (AC h2 (Av rfl (Av rfl (AC (a:=l) rfl (AK (Ag hl) rfl)))))
noncomputable def O9:X:=.comp 1 (.bin .Mod (.v 16) (.bin .Pow (.int 10) (.int 9))) (.slc (.v 0) .no (.yes (.int 20))) .nil
theorem wS(hl:l.length≤63):ev Φ O9 (lM (some (.lst (l.map .int))) a1 a2 a3 a4 a5 a6 a7 a8 a9 a10 a11 a12 a13 a14 a15) σ=some (.lst ((GB l).map .int),σ):=by
 have h0:Kn σ (.lst (l.map PV.int)) none (some (.int 20))=some (.lst ((l.take 20).map PV.int)):=(xE (a:=none) (b:=some ((20:Nat):Int)) rfl (EZ (by decide)) (by rw[List.length_map];lia)).trans (by rw[IN,List.map_take])
 have h1:ev Φ (.slc (.v 0) .no (.yes (.int 20))) (lM (some (.lst (l.map .int))) a1 a2 a3 a4 a5 a6 a7 a8 a9 a10 a11 a12 a13 a14 a15) σ=some (.lst ((l.take 20).map .int),σ):=AE rfl (AE rfl (AE rfl (BD h0)))
 refine(Ak (g:=PV.int) (val:=fun x=>.int (x.fmod 1000000000)) (full:=l.take 20) (n:=none) (keep:=fun _=>true) h1 BJ (fun j h=>nn h) (by rw[List.length_take];lia) fun x _=>⟨[some (.int x)],rfl,rfl,fun _=>Az (p:=.int x) (q:=.int 1000000000) rfl rfl rfl⟩).trans ?_
 rw[List.filter_eq_self.mpr fun _ _=>rfl]
 unfold GB
 rw[List.map_map];rfl
theorem WY:∀n∈List.range 21,∀k∈Nm,(JV (k:Int) 5 n).all (fun i=>decide (i<n))=true∧(JV (k:Int) 4 n).all (fun i=>decide (i<n))=true:=by decide +kernel
theorem OL{ns:List Int}:∀{is:List Nat},(∀i∈is,i<ns.length)→IO (ns.map PV.int) is=some ((is.map fun i=>ns.getD i 0).map PV.int)
 | [],_=>rfl
 | i::is,h=>by
  have hi:=h i (.head _)
  refine AC (a:=.int (ns.getD i 0)) ?_ (AC (OL fun j hj=>h j (.tail _ hj)) rfl)
  rw[List.getElem?_map,List.getD_eq_getElem?_getD,List.getElem?_eq_getElem hi];rfl
theorem Zx{ns:List Int}{k n:Nat}(hn:n=4∨n=5)(hk:k∈Nm)(hl:ns.length≤20):aT σ (.lst (ns.map .int)) (.int (k:Int)) (n:Int)=some (.lst (((JV (k:Int) (n:Int) ns.length).map fun i=>ns.getD i 0).map .int)):=by
 have h:=WY ns.length (List.mem_range.mpr (by lia)) k hk
 have h2:∀i∈JV (k:Int) (n:Int) ns.length,i<ns.length:=fun i hi=>by
  rcases hn with e|e<;>subst e
  ·exact of_decide_eq_true (List.all_eq_true.mp h.2 i hi)
  ·exact of_decide_eq_true (List.all_eq_true.mp h.1 i hi)
 refine AC (a:=(k:Int)) rfl (AC (a:=ns.map PV.int) rfl (AK (Bool.and_eq_true_iff.mpr ⟨Ag (by rw[List.length_map];lia),bne_iff_ne.mpr (by lia)⟩) (AC ?_ rfl)))
 rw[List.length_map]
 exact OL h2
theorem Xj(is:List Int):UD .sum [.lst (is.map .int)] σ=some (.int is.sum):=AC rfl (AC (a:=is.map PV.int) rfl (AC (JK is) rfl))
theorem xK(σ:St){k:Nat}(hk:k∈Nm):CC σ (.lst [.int 3,.int 22,.int 7,.int 23,.int 25]) (.int (k:Int))=some (.int (b5 k)):=List.map_inj_left.mp (show Nm.map (fun(k:Nat)=>CC σ (.lst [.int 3,.int 22,.int 7,.int 23,.int 25]) (.int (k:Int)))=Nm.map (fun k=>some (.int (b5 k))) by kernel_rfl) k hk
theorem wE(σ:St){k:Nat}(hk:k∈Pt):CC σ (.lst [.int 2,.int 36,.int 61,.int 912]) (.int (k:Int))=some (.int (b4 k)):=List.map_inj_left.mp (show Pt.map (fun(k:Nat)=>CC σ (.lst [.int 2,.int 36,.int 61,.int 912]) (.int (k:Int)))=Pt.map (fun k=>some (.int (b4 k))) by kernel_rfl) k hk
noncomputable def b5X:X:=.list (.cons (.int 3) (.cons (.int 22) (.cons (.int 7) (.cons (.int 23) (.cons (.int 25) .nil)))))
noncomputable def b4X:X:=.list (.cons (.int 2) (.cons (.int 36) (.cons (.int 61) (.cons (.int 912) .nil))))
def l2e:X:=.bin .Add (.idx b5X (.v 16)) (.bi .sum (.cons (.stp (.v 1) (.v 16) 5) .nil))
def K4:X:=.comp 1 l2e (.bi .range (.cons (.int 5) .nil)) .nil
def l3e:X:=.bin .Add (.idx b4X (.v 16)) (.bi .sum (.cons (.stp (.v 1) (.v 16) 4) .nil))
def J4:X:=.comp 1 (.call 13 (.cons l3e .nil)) (.bi .range (.cons (.int 4) .nil)) .nil
theorem tM:ev Φ K4 (lM a0 (some (.lst ((GB l).map .int))) a2 a3 a4 a5 a6 a7 a8 a9 a10 a11 a12 a13 a14 a15) σ=some (.lst (Nm.map fun k=>.int (MM l k)),σ):=
 Ak (g:=fun(k:Nat)=>.int (k:Int)) (val:=fun k=>.int (MM l k)) (full:=Nm) (n:=none) (keep:=fun _=>true) (Cj (n:=5) rfl) (CS _ (by decide)) (fun j h=>nn h) (by decide)
  fun k hk=>⟨[some (.int k)],rfl,rfl,fun _=>Az (Ac rfl rfl (xK σ hk)) (CT (ps:=[.lst (((JV (k:Int) 5 (GB l).length).map fun i=>(GB l).getD i 0).map .int)]) (AD (AE rfl (AE rfl (BD (Zx (n:=5) (.inr rfl) hk (Kx l))))) AG) (Xj _)) rfl⟩
theorem tQ{j:Nat}(h:j∈Pt):j∈Nm:=List.mem_range.mpr (Nat.lt_of_lt_of_le (List.mem_range.mp h) (by decide))
def Ht(row:List (Fin 12)):PV:=.lst (row.map KR)
theorem mM(hΦ:Φ 13=some Wr):ev Φ J4 (lM a0 (some (.lst ((GB l).map .int))) a2 a3 a4 a5 a6 a7 a8 a9 a10 a11 a12 a13 a14 a15) []=some (.lst (Pt.map fun j=>Ht (Ds l j)),[]):=
 Ak (g:=fun(k:Nat)=>.int (k:Int)) (val:=fun j=>Ht (Ds l j)) (full:=Pt) (n:=none) (keep:=fun _=>true) (Cj (n:=4) rfl) (CS _ (by decide)) (fun j h=>nn h) (by decide)
  fun k hk=>⟨[some (.int k)],rfl,rfl,fun _=>Ai (ps:=[.int (yI l k)]) (AD (Az (Ac rfl rfl (wE [] hk)) (CT (ps:=[.lst (((JV (k:Int) 4 (GB l).length).map fun i=>(GB l).getD i 0).map .int)]) (AD (AE rfl (AE rfl (BD (Zx (n:=4) (.inl rfl) (tQ hk) (Kx l))))) AG) (Xj _)) rfl) AG) hΦ (UL (yI l k))⟩
noncomputable def IA:List Nat:=[1,4,5,6]
def C2:List (Nat×Nat×Nat):=IA.flatMap fun a=>IA.flatMap fun b=>IA.map fun c=>(a,b,c)
theorem fL(σ:St)(f g h:Nat→Nat):C2.map (fun x=>MO .join (.str "") [.lst [pS (rg x.1 f),pS (rg x.2.1 g),pS (rg x.2.2 h)]] σ)=C2.map (fun x=>some (pS (rg x.1 f++(rg x.2.1 g++(rg x.2.2 h++[]))),σ)):=by kernel_rfl
theorem Mn(d:Fin 12):Bt d=rg (Bt d).length (fun i=>(Bt d).getD i 0):=cI (f:=Bt) (g:=fun d=>rg (Bt d).length fun i=>(Bt d).getD i 0) (by kernel_rfl) d
theorem MR:∀d:Fin 12,(Bt d).length∈IA:=by decide +kernel
theorem gR{a b c:Nat}(ha:a∈IA)(hb:b∈IA)(hc:c∈IA):(a,b,c)∈C2:=List.mem_flatMap.mpr ⟨a,ha,List.mem_flatMap.mpr ⟨b,hb,List.mem_map.mpr ⟨c,hc,rfl⟩⟩⟩
theorem RS(σ:St)(a b c:Fin 12):MO .join (.str "") [.lst ([a,b,c].map fun d=>pS (Bt d))] σ=some (pS (Al [a,b,c]),σ):=by
 have h:=List.map_inj_left.mp (fL σ (fun i=>(Bt a).getD i 0) (fun i=>(Bt b).getD i 0) (fun i=>(Bt c).getD i 0)) ((Bt a).length,(Bt b).length,(Bt c).length) (gR (MR a) (MR b) (MR c))
 dsimp only at h
 rw[←Mn a,←Mn b,←Mn c]at h
 exact h
noncomputable def K0:X:=.comp 1 (.me .join (.str "") (.cons (.comp 2 (.v 17) (.v 16) .nil) .nil)) (.v 3) .nil
theorem vP:ev Φ K0 (lM a0 a1 a2 (some (.lst (Pt.map fun j=>Ht (Ds l j)))) a4 a5 a6 a7 a8 a9 a10 a11 a12 a13 a14 a15) σ=some (.lst (Pt.map fun j=>pS (Al (Ds l j))),σ):=
 Ak (g:=fun j=>Ht (Ds l j)) (val:=fun j=>pS (Al (Ds l j))) (full:=Pt) (n:=none) (keep:=fun _=>true) rfl BJ (fun j h=>nn h) (by decide)
  fun j hj=>⟨[some (Ht (Ds l j))],rfl,rfl,fun _=>DW rfl rfl (AD (Ak (g:=KR) (val:=fun d=>pS (Bt d)) (full:=Ds l j) (n:=none) (keep:=fun _=>true) rfl BJ (fun j h=>nn h) (show 3≤1000 by decide)
   fun d _=>⟨[some (pS (Bt d)),some (hV d)],rfl,rfl,fun _=>rfl⟩) AG) (by rw[List.filter_eq_self.mpr fun _ _=>rfl];exact RS σ _ _ _)⟩
def Fq(l:List Int)(k:Nat):PV:=.tup [.int (wt l k:Int),Gm (Eu l k)]
noncomputable def O6:X:=.comp 1 (.tup (.cons (.bin .Add (.int 1) (.bin .Mod (.v 16) (.int 7))) (.cons (.call 14 (.cons (.v 16) .nil)) .nil))) (.v 2) .nil
theorem rA(hΦ:Φ 14=some Vj):ev Φ O6 (lM a0 a1 (some (.lst (Nm.map fun k=>.int (MM l k)))) a3 a4 a5 a6 a7 a8 a9 a10 a11 a12 a13 a14 a15) []=some (.lst (Nm.map (Fq l)),[]):=
 Ak (g:=fun k=>.int (MM l k)) (val:=Fq l) (full:=Nm) (n:=none) (keep:=fun _=>true) rfl BJ (fun j h=>nn h) (by decide)
  fun k hk=>⟨[some (.int (MM l k))],rfl,rfl,fun _=>AE (AD (p:=.int (wt l k:Int)) (by rw[(JE l k).2];rfl) (AD (Ai (AD rfl AG) hΦ (Sl (MM l k))) AG)) rfl⟩
theorem OY{α:Type}(f:α→List UInt8):∀vs:List α,Hd (vs.map fun w=>.byt (f w).toArray)=some (vs.map fun w=>(f w).toArray)
 | []=>rfl
 | a::r=>by show bd (Hd (r.map fun w=>.byt (f w).toArray)) (fun l=>some ((f a).toArray::l))=_;rw[OY f r];rfl
theorem LJ{α:Type}(f:α→List UInt8):∀(vs:List α) (acc:List UInt8),(vs.map fun w=>(f w).toArray).foldl (·++·) acc.toArray=(acc++vs.flatMap f).toArray
 | [],acc=>by rw[List.flatMap_nil,List.append_nil];rfl
 | a::r,acc=>by
  show(r.map fun w=>(f w).toArray).foldl (·++·) (acc.toArray++(f a).toArray)=_
  rw[List.append_toArray,LJ f r (acc++f a),List.flatMap_cons,List.append_assoc]
theorem Tm{α:Type}{f:α→List UInt8}{b:Nat}(h:∀a,(f a).length≤b):∀vs:List α,((vs.map fun w=>(f w).toArray).map Array.size).sum≤b*vs.length
 | []=>Nat.le_refl _
 | a::r=>by
  have:=Tm h r
  have h:=h a
  rw[List.map_cons,List.map_cons,List.sum_cons,List.length_cons,Nat.mul_add,Nat.mul_one]
  show(f a).length+_≤_
  lia
theorem TO{α:Type}{f:α→List UInt8}{b:Nat}(h:∀a,(f a).length≤b)(hb:b≤100){vs:List α}(h2:2≤vs.length)(hl:vs.length≤10):MO .join (.byt #[]) [.lst (vs.map fun w=>.byt (f w).toArray)] σ=some (.byt (vs.flatMap f).toArray,σ):=by
 have hs:=Tm h vs
 have:b*vs.length≤100*10:=Nat.mul_le_mul hb hl
 have hj:O5 .join #[] [.lst (vs.map fun w=>.byt (f w).toArray)] σ=some (.byt (vs.flatMap f).toArray):=by
  show bd (Hd (vs.map fun w=>.byt (f w).toArray)) (fun bs=>gd (decide ((#[]:Array UInt8).size=0)&&(decide (2≤bs.length)&&decide (bs.length≤BM)&&decide ((bs.map Array.size).sum≤BM))) (some (PV.byt (bs.foldl (·++·) #[]))))=_
  refine AC (OY f vs) (AK (Bool.and_eq_true_iff.mpr ⟨rfl,?_⟩) ?_)
  ·rw[List.length_map,Bool.and_eq_true_iff,Bool.and_eq_true_iff,decide_eq_true_iff,decide_eq_true_iff,decide_eq_true_iff]
   exact⟨⟨h2,by show vs.length≤100000;lia⟩,by show _≤100000;lia⟩
  ·exact congrArg (fun a=>some (PV.byt a)) (LJ f vs [])
 exact Av rfl (DP (AC (a:=#[]) rfl (BD hj)))
theorem JY{a b:List UInt8}(h:a.length+b.length≤1000):Ie .Add (.byt a.toArray) (.byt b.toArray) σ=some (.byt (a++b).toArray):=by
 refine Av rfl (Av rfl (DP (AC rfl (AC rfl (AK (Ag (n:=a.length+b.length) h) ?_)))))
 show some (PV.byt (a.toArray++b.toArray))=_
 rw[List.append_toArray]
theorem RR(row:List (Fin 12)):∀c∈Al row,c<256:=fun c hc=>by
 obtain⟨d,_,h⟩:=List.mem_flatMap.mp hc
 exact Nat.lt_trans (Nz d c h) (by decide)
theorem Lp:∀(r:List (Fin 12)),(Al r).length≤6*r.length
 | []=>Nat.le_refl _
 | d::r=>by
  show(Bt d++Al r).length≤6*(r.length+1)
  have:=Lp r
  have:=OT d
  rw[List.length_append];lia
theorem Mi(l:List Int)(j:Nat):(Al (Ds l j)).length≤18:=Lp (Ds l j)
theorem uW(l:List (Fin 3)):∀c∈l.map cd,c<256:=fun c hc=>by
 obtain⟨d,_,rfl⟩:=List.mem_map.mp hc
 exact Nat.lt_trans (Rk d) (by decide)
def Ka(l:List Int):List UInt8:=4::Pt.flatMap fun j=>cB (Al (Ds l j))
def fM(l:List Int)(k:Nat):Nat×List Nat:=(wt l k,(Eu l k).map cd)
def KF(l:List Int):List UInt8:=Ka l++Nm.flatMap fun k=>pB (fM l k)
noncomputable def N8:X:=.bin .Add (.byt [4]) (.me .join (.byt []) (.cons (.comp 1 (.call 12 (.cons (.v 16) .nil)) (.v 4) .nil) .nil))
theorem JI{α:Type}{f:α→List UInt8}{b:Nat}(h:∀a,(f a).length≤b):∀vs:List α,(vs.flatMap f).length≤b*vs.length
 | []=>Nat.le_refl _
 | a::r=>by
  have:=JI h r
  have h:=h a
  rw[List.flatMap_cons,List.length_append,List.length_cons,Nat.mul_add,Nat.mul_one];lia
theorem Jb(l:List Int)(j:Nat):(cB (Al (Ds l j))).length≤19:=by rw[GF];have:=Mi l j;lia
theorem JL(l:List Int)(k:Nat):(pB (fM l k)).length≤5:=by
 rw[Mb]
 have:=(EU (MM l k)).2
 show((Eu l k).map cd).length+2≤5
 rw[List.length_map];unfold Eu;lia
theorem TQ(l:List Int):(Ka l).length≤80:=by
 have:=JI (Jb l) Pt
 have e:Pt.length=4:=rfl
 show(Pt.flatMap _).length+1≤80
 lia
theorem qC(hΦ:Φ 12=some TB):ev Φ N8 (lM a0 a1 a2 a3 (some (.lst (Pt.map fun j=>pS (Al (Ds l j))))) a5 a6 a7 a8 a9 a10 a11 a12 a13 a14 a15) []=some (.byt (Ka l).toArray,[]):=by
 have h1:ev Φ (.comp 1 (.call 12 (.cons (.v 16) .nil)) (.v 4) .nil) (lM a0 a1 a2 a3 (some (.lst (Pt.map fun j=>pS (Al (Ds l j))))) a5 a6 a7 a8 a9 a10 a11 a12 a13 a14 a15) []=some (.lst (Pt.map fun j=>.byt (cB (Al (Ds l j))).toArray),[]):=
  Ak (g:=fun j=>pS (Al (Ds l j))) (val:=fun j=>.byt (cB (Al (Ds l j))).toArray) (full:=Pt) (n:=none) (keep:=fun _=>true) rfl BJ (fun j h=>nn h) (by decide)
   fun j hj=>⟨[some (pS (Al (Ds l j)))],rfl,rfl,fun _=>Ai (AD rfl AG) hΦ (Np [] (RR _) (Nat.le_trans (Mi l j) (by decide)) Bo)⟩
 have:=JI (Jb l) Pt
 have e:Pt.length=4:=rfl
 exact Az (p:=.byt [4].toArray) rfl (DW (p:=.byt #[]) rfl rfl (AD h1 AG) (TO (f:=fun j=>cB (Al (Ds l j))) (vs:=Pt) (Jb l) (by decide) (by decide) (by decide))) (JY (by show 1+_≤1000;lia))
theorem Rp{b:List UInt8}(h:b.length≤1000):Vs [.byt b.toArray] []=some (.val (.strm 0),[sB b]):=AC rfl (AC rfl (AK (Ag (n:=b.length) h) rfl))
noncomputable def C9:X:=.bin .Add (.bi .bytes (.cons (.list (.cons (.v 16) .nil)) .nil)) (.call 12 (.cons (.v 17) .nil))
def E0:X:=.call 11 (.cons (.bin .Add (.v 6) (.me .join (.byt []) (.cons (.comp 2 C9 (.v 5) .nil) .nil))) .nil)
theorem nH(hΦ:Φ 12=some TB)(hΨ:Φ 11=some Vs):ev Φ E0 (lM a0 a1 a2 a3 a4 (some (.lst (Nm.map (Fq l)))) (some (.byt (Ka l).toArray)) a7 a8 a9 a10 a11 a12 a13 a14 a15) []=some (.strm 0,[sB (KF l)]):=by
 have h1:ev Φ (.comp 2 C9 (.v 5) .nil) (lM a0 a1 a2 a3 a4 (some (.lst (Nm.map (Fq l)))) (some (.byt (Ka l).toArray)) a7 a8 a9 a10 a11 a12 a13 a14 a15) []=some (.lst (Nm.map fun k=>.byt (pB (fM l k)).toArray),[]):=
  Ak (g:=Fq l) (val:=fun k=>.byt (pB (fM l k)).toArray) (full:=Nm) (n:=none) (keep:=fun _=>true) rfl BJ (fun j h=>nn h) (by decide)
   fun k hk=>⟨[some (.int (wt l k:Int)),some (Gm (Eu l k))],rfl,rfl,fun _=>by
    have hw:=(JE l k).1
    have hnm:=(EU (MM l k)).2
    have e1:UD .bytes [.lst [.int (wt l k:Int)]] []=some (.byt [(wt l k).toUInt8].toArray):=
     AC rfl (AC (a:=[.int (wt l k:Int)]) rfl (AC (a:=[(wt l k:Int)]) rfl (AK (Bool.and_eq_true_iff.mpr ⟨by
      show(decide ((0:Int)≤wt l k)&&decide ((wt l k:Int)<256)&&true)=true
      rw[decide_eq_true (Int.natCast_nonneg _),decide_eq_true (by lia)];rfl,rfl⟩) rfl)))
    have e2:=Np (x:=(Eu l k).map cd) [] (uW _) (by rw[List.length_map];unfold Eu;lia) Bo
    refine Az (CT (ps:=[.lst [.int (wt l k:Int)]]) (AD (AE (AD rfl AG) rfl) AG) e1) (Ai (AD rfl AG) hΦ e2) ((JY ?_).trans rfl)
    have:=JL l k
    rw[Mb]at this
    rw[GF]
    show 1+(((Eu l k).map cd).length+1)≤1000
    have:((fM l k).2).length=((Eu l k).map cd).length:=rfl
    lia⟩
 have hA:=TQ l
 have hB:=JI (JL l) Nm
 have e:Nm.length=5:=rfl
 have h2:ev Φ (.bin .Add (.v 6) (.me .join (.byt []) (.cons (.comp 2 C9 (.v 5) .nil) .nil))) (lM a0 a1 a2 a3 a4 (some (.lst (Nm.map (Fq l)))) (some (.byt (Ka l).toArray)) a7 a8 a9 a10 a11 a12 a13 a14 a15) []=some (.byt (KF l).toArray,[]):=
  Az rfl (DW (p:=.byt #[]) rfl rfl (AD h1 AG) (TO (f:=fun k=>pB (fM l k)) (vs:=Nm) (JL l) (by decide) (by decide) (by decide))) (JY (by lia))
 exact Ai (AD h2 AG) hΨ (Rp (by unfold KF;rw[List.length_append];lia))
end
def Qn(l:List Int):kT:=Nm.map (fM l)
def xC(l:List Int):List (List Nat):=Pt.map fun j=>Al (Ds l j)
def NH(l:List Int)(j:Nat):PV:=.lst ((BE ((Ds l j).map (·.val==0))).map (BZ (Ds l j)))
def tL(l:List Int)(k j:Nat):Bool:=Dm (Eu l k).length (gH (Eu l k).length (hM (Ds l j) (Eu l k))) 0 (BE ((Ds l j).map (·.val==0)))
section
variable{Φ:Nat→Option Spec}{l:List Int}{a0 a1 a2 a3 a4 a5 a6 a7 a8 a9 a10 a11 a12 a13 a14 a15:Option PV}{σ:St}
theorem Wp(l:List Int):KF l=4::((xC l).flatMap cB++(Qn l).flatMap pB):=by
 unfold KF Ka xC Qn
 rw[List.flatMap_map,List.flatMap_map];rfl
def DC(l:List Int):PV:=.lst (Pt.map fun j=>pS (Al (Ds l j)))
def FX(l:List Int):PV:=.lst (Nm.map fun k=>Gm (Eu l k))
theorem jN(l:List Int):TK [.strm 0] [sB (KF l)]=some (.val (.tup [DC l,FX l,wV (wt l),.str Di]),[sB []]):=by
 have h:=Rt (ws:=xC l) (all:=Qn l) (fun x hx=>by
  obtain⟨j,_,rfl⟩:=List.mem_map.mp hx
  exact⟨RR _,Nat.le_trans (Mi l j) (by decide)⟩) (by unfold xC;rw[List.length_map];rfl) (fun x hx=>by
  obtain⟨k,_,rfl⟩:=List.mem_map.mp hx
  refine⟨?_,uW _,?_⟩
  ·have:=(JE l k).1
   show wt l k<256;lia
  ·have:=(EU (MM l k)).2
   show((Eu l k).map cd).length≤30
   rw[List.length_map];unfold Eu;lia) (by unfold Qn;rw[List.length_map];decide)
 rw[←Wp]at h
 rw[h]
 unfold xC Qn DC FX wV
 rw[List.map_map,List.map_map,List.map_map];rfl
theorem dF(l:List Int):Dz (Pt.map fun j=>pS (Al (Ds l j))) (Pt.map fun j=>.str ⟨(Al (Ds l j)).toArray⟩) 7:=Dz.map Pt fun j _=>(PD.str fun c hc=>by
 obtain⟨d,_,h⟩:=List.mem_flatMap.mp hc
 exact Nz d c h).more (by decide)
theorem dW(l:List Int):Dz (Nm.map (Fq l)) (Nm.map fun k=>.tuple [.int (wt l k:Int),.str ⟨((Eu l k).map cd).toArray⟩]) 7:=Dz.map Nm fun k _=>(Dz.tup (k:=1) (.cons (.int _) (.cons (PD.str fun c hc=>by
 obtain⟨d,_,rfl⟩:=List.mem_map.mp hc
 exact Rk d) .nil))).more (by decide)
noncomputable def O3:X:=.bo .Or (.cons (.cmp .NotEq (.v 8) (.v 4)) (.cons (.cmp .NotEq (.comp 1 (.tup (.cons (.idx (.v 10) (.v 16)) (.cons (.idx (.v 9) (.v 16)) .nil))) (.bi .range (.cons (.bi .len (.cons (.v 9) .nil)) .nil)) .nil) (.v 5)) .nil))
theorem Vu(l:List Int)(σ:St){k:Nat}(hk:k∈Nm):CC σ (FX l) (.int k)=some (Gm (Eu l k)):=
 EP (by rw[List.length_map,List.length_range];decide) (by rw[List.getElem?_map,List.getElem?_range (List.mem_range.mp hk)];rfl)
theorem Vf(l:List Int){m:Fm}{i:Nat}(h:ev Φ (.v i) m σ=some (FX l,σ)):ev Φ (.bi .len (.cons (.v i) .nil)) m σ=some (.int ((5:Nat):Int),σ):=
 CT (ps:=[FX l]) (r:=.int ((5:Nat):Int)) (AD h AG) (AC (a:=FX l) rfl rfl)
theorem yN:ev Φ O3 (lM a0 a1 a2 a3 (some (DC l)) (some (.lst (Nm.map (Fq l)))) a6 a7 (some (DC l)) (some (FX l)) (some (wV (wt l))) a11 a12 a13 a14 a15) σ=some (.bool false,σ):=by
 have c1:ev Φ (.cmp .NotEq (.v 8) (.v 4)) (lM a0 a1 a2 a3 (some (DC l)) (some (.lst (Nm.map (Fq l)))) a6 a7 (some (DC l)) (some (FX l)) (some (wV (wt l))) a11 a12 a13 a14 a15) σ=some (.bool false,σ):=AI (p:=DC l) (q:=DC l) rfl rfl (GG (dF l))
 have c2:ev Φ (.comp 1 (.tup (.cons (.idx (.v 10) (.v 16)) (.cons (.idx (.v 9) (.v 16)) .nil))) (.bi .range (.cons (.bi .len (.cons (.v 9) .nil)) .nil)) .nil) (lM a0 a1 a2 a3 (some (DC l)) (some (.lst (Nm.map (Fq l)))) a6 a7 (some (DC l)) (some (FX l)) (some (wV (wt l))) a11 a12 a13 a14 a15) σ=some (.lst (Nm.map (Fq l)),σ):=
  Ak (g:=fun(k:Nat)=>.int (k:Int)) (val:=Fq l) (full:=Nm) (n:=none) (keep:=fun _=>true) (Cj (n:=5) (Vf l rfl)) (CS _ (by decide)) (fun j h=>nn h) (by decide)
   fun k hk=>⟨[some (.int k)],rfl,rfl,fun _=>AE (AD (Ac rfl rfl (Sk _ hk)) (AD (Ac rfl rfl (Vu l _ hk)) AG)) rfl⟩
 exact EE c1 rfl (AI c2 rfl (GG (dW l)))
noncomputable def iQ:X:=.bo .Or (.cons (.cmp .NotEq (.v 11) (.str "not enough data in stream to read uint1")) (.cons (.cmp .NotEq (.val (.v 7)) (.byt [])) .nil))
theorem bF:ev Φ iQ (lM a0 a1 a2 a3 a4 a5 a6 (some (.strm 0)) a8 a9 a10 (some (.str Di)) a12 a13 a14 a15) [sB []]=some (.bool false,[sB []]):=by
 have c1:Co .NotEq (.str Di) (.str "not enough data in stream to read uint1") [sB []]=some false:=by kernel_rfl
 exact EE (AI rfl rfl c1) rfl (AI (t:=false) (p:=.byt #[]) (q:=.byt #[]) rfl rfl rfl)
noncomputable def eM:X:=.comp 1 (.call 17 (.cons (.call 0 (.cons (.v 16) .nil)) .nil)) (.v 8) .nil
theorem dD(h0:Φ 0=some zP)(h17:Φ 17=some SV):ev Φ eM (lM a0 a1 a2 a3 a4 a5 a6 a7 (some (DC l)) a9 a10 a11 a12 a13 a14 a15) [sB []]=some (.lst (Pt.map (NH l)),[sB []]):=
 Ak (g:=fun j=>pS (Al (Ds l j))) (val:=NH l) (full:=Pt) (n:=none) (keep:=fun _=>true) rfl BJ (fun j h=>nn h) (by decide)
  fun j hj=>⟨[some (pS (Al (Ds l j)))],rfl,rfl,fun _=>Ai (ps:=[pS (EG (Ds l j))]) (AD (Ai (AD rfl AG) h0 (Ia _ _ _)) AG) h17 (Qo _ _ _)⟩
noncomputable def R8:X:=.comp 1 (.v 17) (.bi .range (.cons (.int 4) .nil)) (.cons (.call 18 (.cons (.idx (.v 12) (.v 17)) (.cons (.v 16) .nil))) .nil)
noncomputable def nL:X:=.comp 1 (.v 17) (.bi .range (.cons (.int 4) .nil)) (.cons (.call 15 (.cons (.idx (.v 3) (.v 17)) (.cons (.v 16) .nil))) .nil)
def fX:X:=.comp 1 R8 (.v 9) .nil
def dC:X:=.cmp .NotEq (.v 13) (.comp 1 nL (.v 9) .nil)
theorem UR(l:List Int)(σ:St){j:Nat}(hj:j∈Pt):CC σ (.lst (Pt.map (NH l))) (.int j)=some (NH l j):=
 EP (by rw[List.length_map,List.length_range];decide) (by rw[List.getElem?_map,List.getElem?_range (List.mem_range.mp hj)];rfl)
theorem Uc(l:List Int)(σ:St){j:Nat}(hj:j∈Pt):CC σ (.lst (Pt.map fun j=>Ht (Ds l j))) (.int j)=some (Ht (Ds l j)):=
 EP (by rw[List.length_map,List.length_range];decide) (by rw[List.getElem?_map,List.getElem?_range (List.mem_range.mp hj)];rfl)
theorem Kt(x y z:Bool):∀p∈BE [x,y,z],p.2.length≤3∧∀i∈p.2,i<3:=by cases x<;>cases y<;>cases z<;>decide
theorem Gs(l:List Int)(k:Nat):1≤(Eu l k).length∧(Eu l k).length≤3:=EU (MM l k)
theorem Qc(l:List Int)(k j:Nat):Rh [NH l j,Gm (Eu l k)] [sB []]=some (.val (.bool (tL l k j)),[sB []]):=
 Px (row:=Ds l j) (nm:=Eu l k) (Gs l k).2 (Kt _ _ _) (Fs [])
theorem Sa(l:List Int)(k j:Nat):SS [Ht (Ds l j),Gm (Eu l k)] [sB []]=some (.val (.bool (tL l k j)),[sB []]):=by
 have h:=Oy (a:=FY ((yI l j).fdiv 1)) (b:=FY ((yI l j).fdiv 12)) (d:=FY ((yI l j).fdiv 144)) (nm:=Eu l k) (σ:=[sB []]) (Gs l k).2 (Fs [])
 have e:tL l k j=Hl (Eu l k).length (gH (Eu l k).length (hM (Ds l j) (Eu l k))) ((Ds l j).map (·.val==0)):=Kj (Gs l k).1 (Gs l k).2 _ _ _ _
 rw[e];exact h
theorem gM(h18:Φ 18=some Rh):ev Φ fX (lM a0 a1 a2 a3 a4 a5 a6 a7 a8 (some (FX l)) a10 a11 (some (.lst (Pt.map (NH l)))) a13 a14 a15) [sB []]=some (tV (tL l),[sB []]):=
 Ak (g:=fun k=>Gm (Eu l k)) (val:=fun k=>.lst (iL (tk (tL l) k))) (full:=Nm) (n:=none) (keep:=fun _=>true) rfl BJ (fun j h=>nn h) (by decide)
  fun k hk=>⟨[some (Gm (Eu l k))],rfl,rfl,fun _=>Ak (g:=fun(j:Nat)=>.int (j:Int)) (val:=fun(j:Nat)=>.int (j:Int)) (full:=Pt) (n:=none) (keep:=tL l k) (Cj (n:=4) rfl) (CS _ (by decide)) (fun j h=>nn h) (by decide)
   fun j hj=>⟨[some (.int j)],rfl,Ha (Ai (AD (Ac rfl rfl (UR l _ hj)) (AD rfl AG)) h18 (Qc l k j)),fun _=>rfl⟩⟩
theorem I8(t:Nat→Nat→Bool):Dz (Nm.map fun k=>PV.lst (iL (tk t k))) (Nm.map fun k=>.list ((tk t k).map fun(j:Nat)=>.int (j:Int))) 7:=Dz.map Nm fun k _=>(Dz.ints (l:=tk t k)).list.more (by decide)
theorem UH(h15:Φ 15=some SS):ev Φ dC (lM a0 a1 a2 (some (.lst (Pt.map fun j=>Ht (Ds l j)))) a4 a5 a6 a7 a8 (some (FX l)) a10 a11 a12 (some (tV (tL l))) a14 a15) [sB []]=some (.bool false,[sB []]):=by
 have h:ev Φ (.comp 1 nL (.v 9) .nil) (lM a0 a1 a2 (some (.lst (Pt.map fun j=>Ht (Ds l j)))) a4 a5 a6 a7 a8 (some (FX l)) a10 a11 a12 (some (tV (tL l))) a14 a15) [sB []]=some (tV (tL l),[sB []]):=
  Ak (g:=fun k=>Gm (Eu l k)) (val:=fun k=>.lst (iL (tk (tL l) k))) (full:=Nm) (n:=none) (keep:=fun _=>true) rfl BJ (fun j h=>nn h) (by decide)
   fun k hk=>⟨[some (Gm (Eu l k))],rfl,rfl,fun _=>Ak (g:=fun(j:Nat)=>.int (j:Int)) (val:=fun(j:Nat)=>.int (j:Int)) (full:=Pt) (n:=none) (keep:=tL l k) (Cj (n:=4) rfl) (CS _ (by decide)) (fun j h=>nn h) (by decide)
    fun j hj=>⟨[some (.int j)],rfl,Ha (Ai (AD (Ac rfl rfl (Uc l _ hj)) (AD rfl AG)) h15 (Sa l k j)),fun _=>rfl⟩⟩
 exact AI (p:=tV (tL l)) rfl h (GG (I8 (tL l)))
def gr(l:List Int):List Nat:=CU (tL l) (Ct (Ap (wt l))) 0
theorem iP(l:List Int):(gr l).length≤5:=by
 have:=(Cz (t:=tL l) (r:=Ct (Ap (wt l))) (m:=0)).length_le
 rw[BQ.length_eq,List.length_range]at this
 exact this
theorem vA(l:List Int){k:Nat}(h:k∈gr l):k∈Nm:=BQ.mem_iff.mp (Cz.subset h)
noncomputable def lT:X:=.comp 1 (.idx (.v 10) (.v 16)) (.v 14) .nil
def dR:X:=.call 24 (.cons lT (.cons (.v 10) (.cons (.v 15) .nil)))
theorem dL(h24:Φ 24=some VD):ev Φ dR (lM a0 a1 a2 a3 a4 a5 a6 a7 a8 a9 (some (wV (wt l))) a11 a12 a13 (some (.lst (iL (gr l)))) (some (gV (tL l)))) [sB []]=some (.bool false,[sB []]):=by
 have h:ev Φ lT (lM a0 a1 a2 a3 a4 a5 a6 a7 a8 a9 (some (wV (wt l))) a11 a12 a13 (some (.lst (iL (gr l)))) (some (gV (tL l)))) [sB []]=some (Lu (wt l) (gr l),[sB []]):=by
  have:=Ak (Φ:=Φ) (ar:=1) (elt:=.idx (.v 10) (.v 16)) (it:=.v 14) (ifs:=.nil) (m:=lM a0 a1 a2 a3 a4 a5 a6 a7 a8 a9 (some (wV (wt l))) a11 a12 a13 (some (.lst (iL (gr l)))) (some (gV (tL l)))) (σ:=[sB []]) (p:=.lst (iL (gr l)))
   (g:=fun(k:Nat)=>.int (k:Int)) (val:=fun(k:Nat)=>.int (wt l k:Int)) (full:=gr l) (n:=none) (keep:=fun _=>true) rfl BJ (fun j h=>nn h) (Nat.le_trans (iP l) (by decide))
   fun k hk=>⟨[some (.int k)],rfl,rfl,fun _=>Ac rfl rfl (Sk _ (vA l hk))⟩
  rw[List.filter_eq_self.mpr fun _ _=>rfl]at this
  exact this
 exact Ai (AD h (AD rfl (AD rfl AG))) h24 (Ma (w:=wt l) (t:=tL l) (fun k=>(JE l k).1) (Fs []))
noncomputable def cW:X:=.cmp .Eq (.v 14) (.call 23 (.cons (.v 10) (.cons (.v 15) .nil)))
theorem gW(h23:Φ 23=some Uy):ev Φ cW (lM a0 a1 a2 a3 a4 a5 a6 a7 a8 a9 (some (wV (wt l))) a11 a12 a13 (some (.lst (iL (gr l)))) (some (gV (tL l)))) [sB []]=some (.bool true,[sB []]):=
 AI (p:=.lst (iL (gr l))) (q:=.lst (iL (gr l))) rfl (Ai (AD rfl (AD rfl AG)) h23 (PB (S:=sB []) (w:=wt l) (t:=tL l) (fun _=>rfl) fun k=>(JE l k).1)) (Ix (ds:=(gr l).map fun(j:Nat)=>.int (j:Int)) ⟨Dz.ints.py,Nat.le_trans Dz.ints.dp (by decide),Dz.ints.lay⟩)
noncomputable def LA:SL:=.cons (.ret (.bool false)) .nil
theorem Vx:RL=.cons (.as 1 O9) (.cons (.as 2 K4) (.cons (.as 3 J4) (.cons (.as 4 K0) (.cons (.as 5 O6) (.cons (.as 6 N8) (.cons (.as 7 E0) (.cons (.asT [8,9,10,11] (.call 19 (.cons (.v 7) .nil))) (.cons (.iff O3 LA .nil) (.cons (.iff iQ LA .nil) (.cons (.as 12 eM) (.cons (.as 13 fX) (.cons (.iff dC LA .nil) (.cons (.as 14 (.call 21 (.cons (.v 10) (.cons (.v 13) .nil)))) (.cons (.as 15 (.call 22 (.cons (.v 13) .nil))) (.cons (.iff dR LA .nil) (.cons (.ret cW) .nil)))))))))))))))):=rfl
end
abbrev QB(l:List Int):Option PV:=some (.lst (l.map .int))
abbrev QP(l:List Int):Option PV:=some (.lst ((GB l).map .int))
abbrev RK(l:List Int):Option PV:=some (.lst (Nm.map fun k=>.int (MM l k)))
abbrev UA(l:List Int):Option PV:=some (.lst (Pt.map fun j=>Ht (Ds l j)))
abbrev WA(l:List Int):Option PV:=some (DC l)
abbrev Xb(l:List Int):Option PV:=some (.lst (Nm.map (Fq l)))
abbrev jG(l:List Int):Option PV:=some (.byt (Ka l).toArray)
abbrev kY(l:List Int):Option PV:=some (.strm 0)
abbrev xG(l:List Int):Option PV:=some (DC l)
abbrev nP(l:List Int):Option PV:=some (FX l)
abbrev SI(l:List Int):Option PV:=some (wV (wt l))
abbrev TN(l:List Int):Option PV:=some (.str Di)
abbrev Va(l:List Int):Option PV:=some (.lst (Pt.map (NH l)))
abbrev iX(l:List Int):Option PV:=some (tV (tL l))
abbrev lX(l:List Int):Option PV:=some (.lst (iL (gr l)))
abbrev D5(l:List Int):Option PV:=some (gV (tL l))
def U2(l:List Int):Fm:=lM (QB l) none none none none none none none none none none none none none none none
def W8(l:List Int):Fm:=lM (QB l) (QP l) none none none none none none none none none none none none none none
def T9(l:List Int):Fm:=lM (QB l) (QP l) (RK l) none none none none none none none none none none none none none
def V7(l:List Int):Fm:=lM (QB l) (QP l) (RK l) (UA l) none none none none none none none none none none none none
def Z2(l:List Int):Fm:=lM (QB l) (QP l) (RK l) (UA l) (WA l) none none none none none none none none none none none
def Z0(l:List Int):Fm:=lM (QB l) (QP l) (RK l) (UA l) (WA l) (Xb l) none none none none none none none none none none
def T5(l:List Int):Fm:=lM (QB l) (QP l) (RK l) (UA l) (WA l) (Xb l) (jG l) none none none none none none none none none
def N5(l:List Int):Fm:=lM (QB l) (QP l) (RK l) (UA l) (WA l) (Xb l) (jG l) (kY l) none none none none none none none none
def QG(l:List Int):Fm:=lM (QB l) (QP l) (RK l) (UA l) (WA l) (Xb l) (jG l) (kY l) (xG l) (nP l) (SI l) (TN l) none none none none
def nV(l:List Int):Fm:=lM (QB l) (QP l) (RK l) (UA l) (WA l) (Xb l) (jG l) (kY l) (xG l) (nP l) (SI l) (TN l) (Va l) none none none
def QV(l:List Int):Fm:=lM (QB l) (QP l) (RK l) (UA l) (WA l) (Xb l) (jG l) (kY l) (xG l) (nP l) (SI l) (TN l) (Va l) (iX l) none none
def cM(l:List Int):Fm:=lM (QB l) (QP l) (RK l) (UA l) (WA l) (Xb l) (jG l) (kY l) (xG l) (nP l) (SI l) (TN l) (Va l) (iX l) (lX l) none
def Pv(l:List Int):Fm:=lM (QB l) (QP l) (RK l) (UA l) (WA l) (Xb l) (jG l) (kY l) (xG l) (nP l) (SI l) (TN l) (Va l) (iX l) (lX l) (D5 l)
theorem HL{Φ:Nat→Option Spec}{i:Nat}{x:X}{m m':Fm}{p:PV}{σ σ':St}(h:ev Φ x m σ=some (p,σ'))(hm:m.set i (some p)=m'):Ab Φ (.as i x) m σ=some (.next,m',σ'):=by rw[←hm];exact Am h
theorem q1(l:List Int)(hl:l.length≤63):Ab (tab CD) (.as 1 O9) (U2 l) []=some (.next,W8 l,[]):=HL (wS hl) rfl
theorem q2(l:List Int)(hl:l.length≤63):Ab (tab CD) (.as 2 K4) (W8 l) []=some (.next,T9 l,[]):=HL tM rfl
theorem q3(l:List Int)(hl:l.length≤63):Ab (tab CD) (.as 3 J4) (T9 l) []=some (.next,V7 l,[]):=HL (mM rfl) rfl
theorem q4(l:List Int)(hl:l.length≤63):Ab (tab CD) (.as 4 K0) (V7 l) []=some (.next,Z2 l,[]):=HL vP rfl
theorem q5(l:List Int)(hl:l.length≤63):Ab (tab CD) (.as 5 O6) (Z2 l) []=some (.next,Z0 l,[]):=HL (rA rfl) rfl
theorem q6(l:List Int)(hl:l.length≤63):Ab (tab CD) (.as 6 N8) (Z0 l) []=some (.next,T5 l,[]):=HL (qC rfl) rfl
theorem q7(l:List Int)(hl:l.length≤63):Ab (tab CD) (.as 7 E0) (T5 l) []=some (.next,N5 l,[sB (KF l)]):=HL (nH rfl rfl) rfl
theorem q8v(l:List Int):ev (tab CD) (.call 19 (.cons (.v 7) .nil)) (N5 l) [sB (KF l)]=some (.tup [DC l,FX l,wV (wt l),.str Di],[sB []]):=Ai (ps:=[.strm 0]) (AD rfl AG) (show tab CD 19=some TK from rfl) (jN l)
theorem q8(l:List Int)(hl:l.length≤63):Ab (tab CD) (.asT [8,9,10,11] (.call 19 (.cons (.v 7) .nil))) (N5 l) [sB (KF l)]=some (.next,QG l,[sB []]):=XU (q8v l) rfl
theorem q9(l:List Int)(hl:l.length≤63):Ab (tab CD) (.iff O3 LA .nil) (QG l) [sB []]=some (.next,QG l,[sB []]):=AS (p:=.bool false) yN rfl rfl
theorem q10(l:List Int)(hl:l.length≤63):Ab (tab CD) (.iff iQ LA .nil) (QG l) [sB []]=some (.next,QG l,[sB []]):=AS (p:=.bool false) bF rfl rfl
theorem q11(l:List Int)(hl:l.length≤63):Ab (tab CD) (.as 12 eM) (QG l) [sB []]=some (.next,nV l,[sB []]):=HL (dD rfl rfl) rfl
theorem q12(l:List Int)(hl:l.length≤63):Ab (tab CD) (.as 13 fX) (nV l) [sB []]=some (.next,QV l,[sB []]):=HL (gM rfl) rfl
theorem q13(l:List Int)(hl:l.length≤63):Ab (tab CD) (.iff dC LA .nil) (QV l) [sB []]=some (.next,QV l,[sB []]):=AS (p:=.bool false) (UH rfl) rfl rfl
theorem P4(l:List Int):ev (tab CD) (.call 21 (.cons (.v 10) (.cons (.v 13) .nil))) (QV l) [sB []]=some (.lst (iL (gr l)),[sB []]):=Ai (ps:=[wV (wt l),tV (tL l)]) (AD rfl (AD rfl AG)) (show tab CD 21=some Vz from rfl) (NB (S:=sB []) (w:=wt l) (t:=tL l) (fun _=>rfl) fun k=>(JE l k).1)
theorem q14(l:List Int)(hl:l.length≤63):Ab (tab CD) (.as 14 (.call 21 (.cons (.v 10) (.cons (.v 13) .nil)))) (QV l) [sB []]=some (.next,cM l,[sB []]):=HL (P4 l) rfl
theorem H5(l:List Int):ev (tab CD) (.call 22 (.cons (.v 13) .nil)) (cM l) [sB []]=some (gV (tL l),[sB []]):=Ai (ps:=[tV (tL l)]) (AD rfl AG) (show tab CD 22=some UW from rfl) (SQ (S:=sB []) (t:=tL l) fun _=>rfl)
theorem q15(l:List Int)(hl:l.length≤63):Ab (tab CD) (.as 15 (.call 22 (.cons (.v 13) .nil))) (cM l) [sB []]=some (.next,Pv l,[sB []]):=HL (H5 l) rfl
theorem q16(l:List Int)(hl:l.length≤63):Ab (tab CD) (.iff dR LA .nil) (Pv l) [sB []]=some (.next,Pv l,[sB []]):=AS (p:=.bool false) (dL rfl) rfl rfl
theorem q17(l:List Int):Ab (tab CD) (.ret cW) (Pv l) [sB []]=some (.ret (.bool true),Pv l,[sB []]):=Bz (gW rfl)
theorem WP(l:List Int)(hl:l.length≤63):Vv [.lst (l.map .int)] []=some (.val (.bool true),[]):=by
 have h9:evSL (tab CD) RL (U2 l) []=some (.ret (.bool true),Pv l,[sB []]):=by
  rw[Vx]
  exact AA (q1 l hl) (AA (q2 l hl) (AA (q3 l hl) (AA (q4 l hl) (AA (q5 l hl) (AA (q6 l hl) (AA (q7 l hl) (AA (q8 l hl) (AA (q9 l hl) (AA (q10 l hl) (AA (q11 l hl) (AA (q12 l hl) (AA (q13 l hl) (AA (q14 l hl) (AA (q15 l hl) (AA (q16 l hl) (AN (q17 l) rfl))))))))))))))))
 have h8:Ae (tab CD) 1 16 RL [.lst (l.map .int)] []=some (.val (.bool true),[]++[sB []]):=Cp h9 rfl rfl
 exact Bf h8 rfl rfl Bo
end Sh
end
theorem PySem.Challenge.cw_rx0126_01_holds : PySem.Challenge.rw_rx0126_01.Holds := by
 exact Sh.dS Sh.WP Sh.Q2
