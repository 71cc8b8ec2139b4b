import PyProof.Rows.All
import Wide.All
import OpenK.AllK
import Wide.FinOn
import KE.KNestM
import KE.KPop
import KE.KBoundM
import KE.KListMore
import KE.KDictAnyTail
import OpenK.XSeg
import KE.KDictIter
import KE.KSlice
import PySem.Challenge.RW_qt0005_01
open PySem PySem.W PyProof.Rows
set_option Elab.async false
set_option linter.all false
set_option genInjectivity false
set_option genSizeOfSpec false
set_option genSizeOf false
set_option maxRecDepth 100000
set_option maxHeartbeats 0
set_option genCtorIdx false
namespace Mine
theorem keep1{X:Prop}(_:Params→Frag)(h:X):X:=h
section
local macro_rules | `(tactic| o_head (kHook $k $a $e)) => `(tactic| refine keep1 $k ?_)
theorem hk (h:PySem.Challenge.rw_qt0005_01.row.Holds):PySem.Challenge.rw_qt0005_01.row.Holds:= by
 k_head
 exact h
end
section
open PySem.Calls
open PySem.W.X (SegX)
open _root_.PySem renaming Value → WY, Params → W1, Shared → W2, Addr → W3, Expr → W5, wpAny_bind → W6, wpAny_execs_cons → Xa, GenState → Xf, recursionLimit → Xh, World → Xj, wpAny_pure → Xk, plainObj_wpAny_Assign_Attribute → Xn, wpAny_mono → Xq, wpAny_execs_nil → Xw, Fin → XA, DictEntry → XH, mainGlobals → XI, wpAny_Assign_Name → XK, bindArgs → X1, arm_eval_Attribute → X8, Around → Yc
open _root_.Nat renaming le_trans → WZ, le_of_eq → W9, le_of_ble_eq_true → Xd, lt_of_le_of_lt → Xi, le_refl → Xl, lt_trans → Xx, add_le_add_left → XB, ne_of_gt → XC, add_le_add_right → XG, le_add_right → XL, lt_of_lt_of_le → XT, succ_le_succ → XX, eq_of_beq_eq_true → X2, ne_of_lt → X3
open _root_.PySem.W renaming listOf → W0, dictOf → Xc, InstAt → Xr, instObj → Xu, callWith_of → XZ
open _root_.List renaming mem_append_right → W4, mem_append_left → W7, mem_cons → Xb, mem_singleton → Xe, length_append → Xg, append_assoc → Xo, mem_map → Xp, mem_append → Xt, mem_map_of_mem → Xv, nodup_cons → XD, perm_middle → XF, map_append → XM, size_toArray → XO, length_map → XR, append_nil → XY, toArray → X5, all_eq_true → X7, getElem?_toArray → Ya
open _root_.PySem.Str renaming ofString → W8
open _root_.PySem.Heap renaming get?_push_of_some → Xm, lt_size → XQ
open _root_.And renaming intro → Xy
open _root_.PyProof.Rows renaming args_cons → Xz
open _root_.Option.some renaming inj → XE
open _root_.Array renaming getElem?_eq_some_iff → XJ, getElem?_setIfInBounds_ne → Yb
open _root_.PySem.Txt renaming split → XN
open _root_.PySem.Sem renaming bind_eq_wrap' → XU, wrap_wrap → X6
open _root_.PySem.PyData renaming keyHash → XV
open _root_.Bool renaming noConfusion → XW
open _root_.PySem.Calls renaming Constant_str → X4
open _root_.List.cons renaming inj → X9
variable {A:Yc}{B:Nat}{E:WY->W2->Prop}{σ:Type}{L:W3}{L2:Nat}{M:Model}{P:W1}{Q:WY->W2->Prop}{a:W3}{args:Args}{b:Bool}{base:Heap}{binds:List (Str×WY)}{body:List Stmt}{c:Nat}{cd:WY}{cl:List (Str×W3)}{co dsf dx:W3}{e:WY}{es:List XH}{f:W3}{fs:List Frame}{g:Array Xf}{ga2:W3}{gs:Array Xf}{gt:W3}{h h' Up:Heap}{i i2 k lo:Nat}{m m' mb:Str->Option WY}{n:Nat}{name:Str}{ng nn:Nat}{ns:List Str}{num:List Int}{o oL:Obj}{op:W3}{orelse:List Stmt}{p1 p2 pos:Pos}{prog:Program}{ps:Array WY}{q q1 q2 q3:Pos}{s s':W2}{sc:Scope}{sf:W3}{st:σ}{s₀ Un:W2}{t:Tok}{ty:Str}{v:WY}{vs:List WY}{w:Xj}{x:Str}{xu xv:WY}{α:Type}
section
noncomputable def KF(P:W1):Frag:=(hk.heap_1 P).filter fun p=>!(Nat.beq p.1 225)
theorem lL(f:Nat->Bool) (l:List (Nat×α)) (a:Nat) (o:α) (h:(l.filter fun p=>f p.1).lookup a=some o):l.lookup a=some o:=by
 induction l with
 |nil=>cases h
 |cons p l ih =>
   rw[List.filter_cons] at h
   by_cases hf:f p.1=true
   . rw[if_pos hf] at h
     rw[List.lookup_cons] at h ⊢
     by_cases hp:(a == p.1)=true
     . rw[hp] at h ⊢;exact h
     . simp only[hp] at h ⊢;exact ih h
   . rw[if_neg hf] at h
     rw[List.lookup_cons]
     by_cases hp:(a == p.1)=true
     . exfalso
       have:a=p.1:=by simpa using hp
       subst this
       clear ih hp
       induction l with
       |nil=>cases h
       |cons q l ih2 =>
         rw[List.filter_cons] at h
         by_cases hq:f q.1=true
         . rw[if_pos hq,List.lookup_cons] at h
           by_cases hpq:(p.1 == q.1)=true
           . have:p.1=q.1:=by simpa using hpq
             rw[this] at hf;exact hf hq
           . simp only[hpq] at h;exact ih2 h
         . rw[if_neg hq] at h;exact ih2 h
     . simp only[hp];exact ih h
theorem OH(x:(hk.heap_1 P).In h):(KF P).In h:=fun a o e=>x a o (lL (fun n=>!(Nat.beq n 225)) _ a o e)
end
section
theorem af{a:Bool} (h:(a&&b)=true):a=true:=(Bool.and_eq_true_iff.mp h).1
theorem ai{a:Bool} (h:(a&&b)=true):b=true:=(Bool.and_eq_true_iff.mp h).2
theorem dq(h:(!b)=true):b=false:=by cases b;rfl;exact absurd h XW
theorem bN{x:α}{p:Prop} (h:(none:Option α)=some x):p:=nomatch h
theorem ly{p:Prop} (h:false=true):p:=nomatch h
noncomputable abbrev ae:Program:=PySem.Challenge.pw_qt0005_01
structure Ch where
 c:Nat
 r:Int
 k:Int
set_option genCtorIdx true in
inductive V where
 |none|bool (b:Bool)|int (i:Int)|str (x:Str)
 |raw (v:WY)
 |chr (c:Ch)|self|meth (f:W3)|opts|gen
 |tok (t v:Str) (r k:Int)|ctok (t v sp:Str) (f:Bool) (r k:Int)|loc (r k:Int)
 |tup (xs:List V)|lst (xs:List V)|own (n:Nat)
noncomputable abbrev bE:=Option (Int×Int)
structure LA where
 lx:W3
 dx:W3
 tb:W3
 pb:W3
 ct:W3
 co:W3
 ga:W3
 gn:Nat
 dn:Nat
 hs:Nat->Int
 ts:Nat->Tok
 more:Nat->Option W3
 lo:Nat
noncomputable def LA.own(la:LA):Nat->Option W3
 |0=>some la.tb
 |1=>some la.pb
 |2=>some la.ct
 |n+3=>la.more n
noncomputable def eW(la:LA):List XH :=
 [⟨la.hs 0,.str "token_buffer" (la.ts 0),.ref la.tb⟩,⟨la.hs 1,.str "pushed_back" (la.ts 1),.ref la.pb⟩,⟨la.hs 2,.str "current_text" (la.ts 2),.ref la.ct⟩,
  ⟨la.hs 3,.str "coptions" (la.ts 3),.ref la.co⟩,⟨la.hs 4,.str "characters" (la.ts 4),.ref la.ga⟩]
noncomputable def T9:List String:=["token_buffer", "pushed_back", "current_text", "coptions", "characters", "char", "loc", "typ", "val", "space", "first", "row", "col", "lower_letters", "upper_letters", "numbers", "octal_numbers", "binary_numbers", "hex_numbers", "", "lex_c", "lex_identifier", "lex_number", "lex_float", "lex_whitespace", "lex_linecomment", "lex_blockcomment", "lex_string", "lex_char", "", "next_char", "backup_char", "emit", "ignore", "accept", "accept_run", "accept_sequence", "error", "expect", "_handle_escape_character", "append", "pop", "insert", "clear", "eof", "", "", "", "", "", "split", "join", "replace", "find", "set", "lex", "expandtabs", "format", "filename", "length", "source", "settings", "include_directories", "macros", "undefine_macros", "disable"]
noncomputable def AN(i:Nat):Str:=W8 (T9.getD i "")
noncomputable abbrev ad:=List (W3×Obj)
noncomputable def aE(C:W3) (d:Option W3) (sl:Array (Option WY)):Obj:={cls:= .ref C,dict:=d,data:= .plain,slots:=sl}
noncomputable def eV(fz:ad) (r k:Int) (l:W3):Prop:=∀qC:Prop,(∀(sl:Array (Option WY)) (tr tk:Tok) (d:W3),(l,aE 79 (some d) sl)∈fz->(d,Xc [] 0)∈fz->(sl[3]?).join=some (Value.int r tr)->(sl[0]?).join=some (Value.int k tk)->qC)->qC
noncomputable def bS(fz:ad) (c:Ch) (a:W3):Prop:=∀qC:Prop,(∀(d:W3) (es:List XH) (n:Nat) (l:W3) (t:Tok),(a,Xu 183 d)∈fz->(d,Xc es n)∈fz->getL "char" es=some (some (.str ⟨#[c.c]⟩ t))->getL "loc" es=some (some (.ref l))->eV fz c.r c.k l->qC)->qC
noncomputable def md(fz:ad) (ty v:Str) (r k:Int) (a:W3):Prop:=∀qC:Prop,(∀(sl:Array (Option WY)) (t1 t2:Tok) (l d:W3),(a,aE 47 (some d) sl)∈fz->(d,Xc [] 0)∈fz->(sl[1]?).join=some (Value.str ty t1)->(sl[2]?).join=some (Value.str v t2)->(sl[0]?).join=some (.ref l)->eV fz r k l->qC)->qC
noncomputable def jk(fz:ad) (ty v sp:Str) (f:Bool) (r k:Int) (a:W3):Prop:=∀qC:Prop,(∀(sl:Array (Option WY)) (t1 t2 t3:Tok) (l d:W3) (es:List XH) (n:Nat),(a,aE 127 (some d) sl)∈fz->(d,Xc es n)∈fz->(sl[1]?).join=some (Value.str ty t1)->(sl[2]?).join=some (Value.str v t2)->(sl[0]?).join=some (.ref l)->eV fz r k l ->
   getL "space" es=some (some (.str sp t3))->getL "first" es=some (some (.bool f))->qC)->qC
theorem eV.mono{fz fz':ad} (h:∀p∈fz,p∈fz') {r k l} (x:eV fz r k l):eV fz' r k l:=x _ fun a b c d e f g i=>(fun qq qk=>qk a b c d (h _ e) (h _ f) g i)
theorem bS.mono{fz fz':ad} (h:∀p∈fz,p∈fz') {c a} (x:bS fz c a):bS fz' c a:=x _ fun a b c d e f g i j k=>(fun qq qk=>qk a b c d e (h _ f) (h _ g) i j (k.mono h))
theorem md.mono{fz fz':ad} (h:∀p∈fz,p∈fz') {t v r k a} (x:md fz t v r k a):md fz' t v r k a:=x _ fun a b c d e f g i j k l=>(fun qq qk=>qk a b c d e (h _ f) (h _ g) i j k (l.mono h))
theorem jk.mono{fz fz':ad} (h:∀p∈fz,p∈fz') {t v sp f r k a} (x:jk fz t v sp f r k a):jk fz' t v sp f r k a :=
 x _ fun a b c d e f g i j k l m n o p q=>(fun qq qk=>qk a b c d e f g i (h _ j) (h _ k) l m n (o.mono h) p q)
noncomputable abbrev rJ(vs:List WY) (n:Nat):Obj:={cls:= .type "tuple",data:= .seq vs.toArray n}
mutual
inductive RV(P:W1) (la:LA) (fz:ad):V->WY->Prop
 |none:RV P la fz .none .none
 |bool (b:Bool):RV P la fz (.bool b) (.bool b)
 |int (i:Int) (t:Tok):RV P la fz (.int i) (.int i t)
 |str (x:Str) (t:Tok):RV P la fz (.str x) (.str x t)
 |raw (v:WY):RV P la fz (.raw v) v
 |chr {c:Ch}{a:W3}:bS fz c a->RV P la fz (.chr c) (.ref a)
 |self:RV P la fz .self (.ref la.lx)
 |meth {q f:W3}:(q,methodObj (.ref f) (.ref la.lx))∈fz->RV P la fz (.meth f) (.ref q)
 |opts:RV P la fz .opts (.ref la.co)
 |gen:RV P la fz .gen (.ref la.ga)
 |tok {t v:Str}{r k:Int}{a:W3}:md fz t v r k a->RV P la fz (.tok t v r k) (.ref a)
 |ctok {t v sp:Str}{f:Bool}{r k:Int}{a:W3}:jk fz t v sp f r k a->RV P la fz (.ctok t v sp f r k) (.ref a)
 |loc {r k:Int}{a:W3}:eV fz r k a->RV P la fz (.loc r k) (.ref a)
 |tup {a:W3}{n:Nat}{xs:List V}{vs:List WY}:(a,rJ vs n)∈fz->aL P la fz xs vs->RV P la fz (.tup xs) (.ref a)
 |lst {a:W3}{n:Nat}{xs:List V}{vs:List WY}:(a,W0 vs.toArray n)∈fz->aL P la fz xs vs->RV P la fz (.lst xs) (.ref a)
 |lstK {a:W3}{n:Nat}{xs:List V}{vs:List WY}:(KF P).lookup a=some (W0 vs.toArray n)->aL P la fz xs vs->RV P la fz (.lst xs) (.ref a)
 |own {n:Nat}{a:W3}:la.own n=some a->RV P la fz (.own n) (.ref a)
inductive aL(P:W1) (la:LA) (fz:ad):List V->List WY->Prop
 |nil:aL P la fz [] []
 |cons {x:V}{v:WY}{xs:List V}{vs:List WY}:RV P la fz x v->aL P la fz xs vs->aL P la fz (x::xs) (v::vs)
end
theorem RV.monos{la:LA}{fz fz':ad} (h:∀p∈fz,p∈fz'):(∀{x:V}{v:WY},RV P la fz x v->RV P la fz' x v)/\∀{x:List V}{v:List WY},aL P la fz x v->aL P la fz' x v:=by
 exact⟨fun r=>RV.rec (motive_1:=fun x v qq=>RV P la fz' x v) (motive_2:=fun x v qq=>aL P la fz' x v) .none .bool .int .str .raw (fun c=> .chr (c.mono h)) .self (fun q=> .meth (h _ q)) .opts .gen (fun c=> .tok (c.mono h)) (fun c=> .ctok (c.mono h)) (fun c=> .loc (c.mono h)) (fun q qq r=> .tup (h _ q) r) (fun q qq r=> .lst (h _ q) r) (fun q qq r=> .lstK q r) .own .nil (fun qq qq a b=> .cons a b) r,
   fun r=>aL.rec (motive_1:=fun x v qq=>RV P la fz' x v) (motive_2:=fun x v qq=>aL P la fz' x v) .none .bool .int .str .raw (fun c=> .chr (c.mono h)) .self (fun q=> .meth (h _ q)) .opts .gen (fun c=> .tok (c.mono h)) (fun c=> .ctok (c.mono h)) (fun c=> .loc (c.mono h)) (fun q qq r=> .tup (h _ q) r) (fun q qq r=> .lst (h _ q) r) (fun q qq r=> .lstK q r) .own .nil (fun qq qq a b=> .cons a b) r⟩
theorem RV.mono{la:LA}{fz fz':ad} (h:∀p∈fz,p∈fz') {x:V} (r:RV P la fz x v):RV P la fz' x v:=(RV.monos h).1 r
theorem aL.mono{la:LA}{fz fz':ad} (h:∀p∈fz,p∈fz') {x:List V}{v:List WY} (r:aL P la fz x v):aL P la fz' x v:=(RV.monos h).2 r
noncomputable def Nd(P:W1) (la:LA) (fz:ad):V->WY->Prop
 |.none,x=>x= .none
 |.bool b,x=>x= .bool b
 |.int i,x=>∃t,x= .int i t
 |.str y,x=>∃t,x= .str y t
 |.raw v,x=>x=v
 |.chr c,x=>∃a,x= .ref a/\bS fz c a
 |.self,x=>x= .ref la.lx
 |.meth f,x=>∃q,x= .ref q/\(q,methodObj (.ref f) (.ref la.lx))∈fz
 |.opts,x=>x= .ref la.co
 |.gen,x=>x= .ref la.ga
 |.tok t v r k,x=>∃a,x= .ref a/\md fz t v r k a
 |.ctok t v sp f r k,x=>∃a,x= .ref a/\jk fz t v sp f r k a
 |.loc r k,x=>∃a,x= .ref a/\eV fz r k a
 |.tup xs,x=>∃a n vs,x= .ref a/\(a,rJ vs n)∈fz/\aL P la fz xs vs
 |.lst xs,x=>∃a n vs,x= .ref a/\((a,W0 vs.toArray n)∈fz\/(KF P).lookup a=some (W0 vs.toArray n))/\aL P la fz xs vs
 |.own n,x=>∃a,x= .ref a/\la.own n=some a
theorem RV.view{la:LA}{fz:ad}{v:V}{x:WY} (r:RV P la fz v x):Nd P la fz v x :=
 r.casesOn (motive_1:=fun v x qq=>Nd P la fz v x) rfl (fun qq=>rfl) (fun qq qq=>⟨_,rfl⟩) (fun qq qq=>⟨_,rfl⟩) (fun qq=>rfl) (fun c=>⟨_,rfl,c⟩) rfl (fun c=>⟨_,rfl,c⟩) rfl rfl (fun c=>⟨_,rfl,c⟩) (fun c=>⟨_,rfl,c⟩) (fun c=>⟨_,rfl,c⟩) (fun c q=>⟨_,_,_,rfl,c,q⟩) (fun c q=>⟨_,_,_,rfl,.inl c,q⟩) (fun c q=>⟨_,_,_,rfl,.inr c,q⟩) (fun c=>⟨_,rfl,c⟩)
structure Fm where
 A:Yc
 UU:Yc
 base:Heap
 Up:Heap
 outer:List Env
 q:Str
 sc:Scope
 L:W3
 a:W3
 cd:WY
 os:OsState
 dr:Drawn
 cl:List (Str×W3):=[]
noncomputable def Fm.env(F:Fm):Env:=PySem.W.envX F.q F.sc F.L F.a F.cd F.cl
section
variable {scope:Scope}
theorem ld(F:Fr Up L s.heap m) (hv:m x=some v) (h:Q v s)
   (hk:scope.kind= .function:=by rfl) (hl:(PySem.W.envX name scope L a cd cl).kindOf x=some .local:=by rfl) (hd:(x == ("__debug__" : Str))=false:=by decide) :
   wpAny M A (eval (.Name x pos) (PySem.W.envX name scope L a cd cl)) Q E s:=wpAny_Name (wpAny_loadName_local hk hl F.ns hv h) hd
theorem S7(F:Fr Up L s.heap m) (hv:m x=some v) (h:Q v s)
   (hk:scope.kind= .function:=by rfl) (hl:(PySem.W.envX name scope L a cd cl).kindOf x=some .local:=by rfl) :
   wpAny M A (loadName (PySem.W.envX name scope L a cd cl) x) Q E s:=wpAny_loadName_local hk hl F.ns hv h
end
structure Ab(w:Xj) (Up:Heap):Prop where
 X:(KF w.params).In Up
 gl:∃mg,Up.Ns XI mg
 bi:∃mb,Up.Ns builtinsNs mb/\∀x:Str,x ≠ "__name__" -> mb x=bootBuiltins x
 lim:Up.NoLimit
 bm:∃mg bm ob,BMod Up XI mg bm ob
theorem Ab.keeps(G:Ab w h) (k:∀b o,h.get? b=some o->h'.get? b=some o):Ab w h' where
 X:=G.X.keeps k
 gl:=let⟨mg,e⟩:=G.gl;⟨mg,e.keeps k⟩
 bi:=let⟨mb,e,f⟩:=G.bi;⟨mb,e.keeps k,f⟩
 lim:=G.lim.keeps k
 bm:=let⟨mg,b,o,e⟩:=G.bm;⟨mg,b,o,e.keeps k⟩
structure aa(w:Xj) (F:Fm):Prop where
 B:Below F.UU F.base F.outer F.Up
 fr:F.A.frames=some (F.env::F.outer)
 G:Ab w F.Up
 kind:F.sc.kind= .function
 gb:Ab w F.base
structure aU(A:Yc) (n:Nat):Prop where
 hd:A.handled=none
 depth:A.depth+n<=900
 units:A.units+10*n<=9000
structure cu(σ:Type) where
 la:LA
 I:σ->ad->ad->Array Xf->Prop
 Rz:Fm->σ->ad->bE->WY->W2->Prop
structure bZ{σ:Type} (J:cu σ):Prop where
 mono:∀st mu fz fz' g,J.I st mu fz g->(∀p∈fz,p∈fz')->J.I st mu fz' g
structure RS(w:Xj) {σ:Type} (J:cu σ) (F:Fm) (m:Str->Option WY) (st:σ) (fz:ad) (s:W2):Prop where
 fr:Fr F.Up F.L s.heap m
 led:∃mu,J.I st mu fz s.gens/\News F.Up F.L s.heap (mu++fz)/\((mu++fz).map (·.1)).Nodup
 os:s.os=F.os
 dr:s.drawn=F.dr
 lo:F.base.objs.size<=J.la.lo
theorem RS.toks{J:cu σ}{F:Fm}{fz:ad} (R:RS w J F m st fz s) (t:Nat):RS w J F m st fz {s with toks:=t}:=⟨R.fr,R.led,R.os,R.dr,R.lo⟩
theorem RS.news{J:cu σ}{F:Fm}{fz:ad} (R:RS w J F m st fz s):News F.Up F.L s.heap fz:=by
 obtain⟨mu,qq,N,qq⟩:=R.led
 exact fun p hp=>N p (W4 _ hp)
theorem RS.get{J:cu σ}{F:Fm}{fz:ad} (R:RS w J F m st fz s) (h:(a,o)∈fz):s.heap.get? a=some o:=(R.news _ h).1
theorem mA(n:h.Ns L m):L<h.objs.size:=by
 obtain⟨o,qq,qq,e,qq⟩:=n
 exact XQ e
theorem gJ{mu fz:ad}{q:W3} (nd:((mu++fz).map (·.1)).Nodup) (lt:∀p∈mu++fz,p.1<q):((mu++(q,o)::fz).map (·.1)).Nodup :=
 (XF.map _).nodup_iff.mpr (XD.mpr ⟨fun hm=>(Xp.mp hm).elim fun p e=>X3 (lt p e.1) e.2,nd⟩)
theorem bH{mu fz:ad}{q p:W3×Obj} (h:p∈mu++q::fz):p∈q::(mu++fz):=XF.mem_iff.mp h
theorem RS.join{J:cu σ} (JO:bZ J) {F:Fm}{fz mu:ad}{q:W3} (R:RS w J F m st fz s) (hi:J.I st mu fz s.gens) (nd:((mu++fz).map (·.1)).Nodup) (lt:∀p∈mu++fz,p.1<q)
   (F':Fr F.Up F.L s'.heap m') (N':News F.Up F.L s'.heap ((q,o)::(mu++fz))) (hg:s'.gens=s.gens) (ho:s'.os=s.os) (hd:s'.drawn=s.drawn):RS w J F m' st ((q,o)::fz) s' :=
 ⟨F',⟨mu,hg▸JO.mono _ _ _ _ _ hi fun qq h=> .tail _ h,fun p hp=>N' p (bH hp),gJ nd lt⟩,ho.trans R.os,hd.trans R.dr,R.lo⟩
theorem RS.alloc{J:cu σ} (JO:bZ J) {F:Fm}{fz:ad} (R:RS w J F m st fz s) (hf:o.isFreed=false) (t:Nat) :
   RS w J F m st ((s.heap.objs.size,o)::fz) {s with heap:=s.heap.push o,toks:=t}:=by
 obtain⟨mu,hi,N,nd⟩:=R.led
 exact R.join JO hi nd (fun p hp=>XQ (N p hp).1) (R.fr.push o) (N.push R.fr o hf) rfl rfl rfl
theorem ff{β:Type}{p:Nat->β->Bool}{a:Nat}{b:β}:∀{l:List (Nat×β)},l.all (fun x=>p x.1 x.2)=true->l.lookup a=some b->p a b=true:=by intro l0;induction l0 with
 |nil=>intro qq e;exact nomatch e
 |cons qh l ih =>
   obtain⟨k,c⟩:=qh;intro h e;have h':=Bool.and_eq_true_iff.mp h
   rw[List.lookup_cons] at e
   rcases hk:(a == k) with qq|qq
   . rw[hk] at e;exact ih h'.2 e
   . rw[hk] at e;exact eq_of_beq hk▸XE e▸h'.1
structure lz(σ:Type) where
 glob:Nat->Option (Str×V)
 attr:V->Nat->σ->(V->σ->Prop)->Prop
 meth:V->Nat->Option WY
 callable:V->Bool
 call:V->List V->List (Nat×V)->σ->(V->σ->Prop)->(bE->σ->Prop)->Prop
 truth:V->σ->(Bool->σ->Prop)->Prop
 bin:Operator->V->V->σ->(V->σ->Prop)->Prop
 iop:Operator->V->V->σ->(V->σ->Prop)->Prop
 cmp:CmpOp->V->V->σ->(V->σ->Prop)->Prop
 sub:V->V->σ->(V->σ->Prop)->(bE->σ->Prop)->Prop
 slc:V->V->V->σ->(V->σ->Prop)->Prop
 lst:List V->σ->(V->σ->Prop)->Prop
noncomputable def ft:W5->Bool
 |.Slice .. =>true
 |_=>false
noncomputable def a8(w:Xj) {σ:Type} (J:cu σ) (F:Fm) (m:Str->Option WY) (fz:ad) (K:V->σ->Prop) (Q:WY->W2->Prop):Prop :=
 ∀v st' fz' s' xv,K v st'->(∀p∈fz,p∈fz')->RS w J F m st' fz' s'->RV w.params J.la fz' v xv->Q xv s'
noncomputable def ke(w:Xj) {σ:Type} (J:cu σ) (F:Fm) (m:Str->Option WY) (fz:ad) (K:Bool->σ->Prop) (Q:Bool->W2->Prop):Prop :=
 ∀b st' fz' s',K b st'->(∀p∈fz,p∈fz')->RS w J F m st' fz' s'->Q b s'
noncomputable def bz{σ:Type} (J:cu σ) (F:Fm) (fz:ad) (X:bE->σ->Prop) (E:WY->W2->Prop):Prop :=
 ∀p st' fz' e s',X p st'->(∀q∈fz,q∈fz')->J.Rz F st' fz' p e s'->E e s'
theorem a8.up{J:cu σ}{F:Fm}{fz fz':ad}{K:V->σ->Prop} (h:a8 w J F m fz K Q) (k:∀p∈fz,p∈fz'):a8 w J F m fz' K Q :=
 fun v st' fz'' s' xv hk h2=>h v st' fz'' s' xv hk fun p hp=>h2 p (k p hp)
theorem ke.up{J:cu σ}{F:Fm}{fz fz':ad}{K:Bool->σ->Prop}{Q:Bool->W2->Prop} (h:ke w J F m fz K Q) (k:∀p∈fz,p∈fz'):ke w J F m fz' K Q :=
 fun v st' fz'' s' hk h2=>h v st' fz'' s' hk fun p hp=>h2 p (k p hp)
theorem bz.up{J:cu σ}{F:Fm}{fz fz':ad}{X:bE->σ->Prop} (h:bz J F fz X E) (k:∀p∈fz,p∈fz'):bz J F fz' X E :=
 fun p st' fz'' e s' hk h2=>h p st' fz'' e s' hk fun q hq=>h2 q (k q hq)
noncomputable def fU(w:Xj) (la:LA) (x:Str) (v:V):Prop :=
 ∃xv,(∀fz,RV w.params la fz v xv)/\(nsIn (KF w.params) XI x=some (some xv)\/(nsIn (KF w.params) XI x=some none/\x ≠ "__name__" /\ bootBuiltins x=some xv))
noncomputable def wg(P:W1) (la:LA) (fz:ad) (kw:List (Nat×V)) (xk:List (Str×WY)):Prop :=
 ∃ks,xk=(kw.map fun x=>AN x.1).zip ks/\aL P la fz (kw.map (·.2)) ks
noncomputable def kl(w:Xj) (xv:WY) (h:Heap):Prop:=∃k,(k=Keeper.frame\/k=Keeper.machine\/k=Keeper.boundFrame)/\Looks (model ae w) h (keeperOf xv) k
structure aI(w:Xj) {σ:Type} (J:cu σ) (o:lz σ) (n:Nat):Prop where
 jok:bZ J
 glob:∀i x v,o.glob i=some (x,v)->fU w J.la x v
 attr:∀F m st fz s v xv a K Q E,aa w F->aU F.A n->RS w J F m st fz s->RV w.params J.la fz v xv->o.attr v a st K->a8 w J F m fz K Q->wpAny (model ae w) F.A (getAttr xv (AN a) true) Q E s
 meth:∀F m st fz s v xv a f pl Q E,aa w F->aU F.A n->RS w J F m st fz s->RV w.params J.la fz v xv->o.meth v a=some f->(∀s',RS w J F m st fz s'->Q (f,[xv]) s')->wpAny (model ae w) F.A (getMethod xv (AN a) pl) Q E s
 methK:∀v a f,o.meth v a=some f->∀h,(KF w.params).In h->kl w f h
 keep:∀F m st fz s v xv,aa w F->RS w J F m st fz s->RV w.params J.la fz v xv->o.callable v=true->kl w xv s.heap
 call:∀F m st fz s f xf vs xs kw xk K X Q E,aa w F->aU F.A n->RS w J F m st fz s->RV w.params J.la fz f xf->aL w.params J.la fz vs xs->wg w.params J.la fz kw xk ->
   o.call f vs kw st K X->a8 w J F m fz K Q->bz J F fz X E->wpAny (model ae w) F.A (call xf xs xk) Q E s
 truth:∀F m st fz s v xv K Q E,aa w F->aU F.A n->RS w J F m st fz s->RV w.params J.la fz v xv->o.truth v st K->ke w J F m fz K Q->wpAny (model ae w) F.A (truthy xv) Q E s
 bin:∀F m st fz s op v xv u xu K Q E,aa w F->aU F.A n->RS w J F m st fz s->RV w.params J.la fz v xv->RV w.params J.la fz u xu->o.bin op v u st K->a8 w J F m fz K Q->wpAny (model ae w) F.A (binaryOp op xv xu) Q E s
 iop:∀F m st fz s op v xv u xu K Q E,aa w F->aU F.A n->RS w J F m st fz s->RV w.params J.la fz v xv->RV w.params J.la fz u xu->o.iop op v u st K->a8 w J F m fz K Q->wpAny (model ae w) F.A (inplaceOp op xv xu) Q E s
 cmp:∀F m st fz s op v xv u xu K Q E,aa w F->aU F.A n->RS w J F m st fz s->RV w.params J.la fz v xv->RV w.params J.la fz u xu->o.cmp op v u st K->a8 w J F m fz K Q->wpAny (model ae w) F.A (compareOp op xv xu) Q E s
 sub:∀F m st fz s v xv i xi value slice K X Q E,aa w F->aU F.A n->RS w J F m st fz s->RV w.params J.la fz v xv->RV w.params J.la fz i xi->ft slice=false->o.sub v i st K X->a8 w J F m fz K Q->bz J F fz X E ->
   wpAny (model ae w) F.A (subscriptTail value slice xv xi) Q E s
 slc:∀F m st fz s v xv lo xlo hi xhi value l u p a K Q E,aa w F->aU F.A n->RS w J F m st fz s->RV w.params J.la fz v xv->RV w.params J.la fz lo xlo->RV w.params J.la fz hi xhi ->
   (a,({cls:= .type "slice",data:= .fields #[xlo,xhi,.none]}:Obj))∈fz->o.slc v lo hi st K->a8 w J F m fz K Q ->
   wpAny (model ae w) F.A (subscriptTail value (.Slice l u none p) xv (.ref a)) Q E s
 lst:∀F m st fz s vs xs K Q E,aa w F->aU F.A n->RS w J F m st fz s->aL w.params J.la fz vs xs->o.lst vs st K->a8 w J F m fz K Q->wpAny (model ae w) F.A (newList xs) Q E s
end
variable {F Fb:Fm}{I:σ->ad->ad->Array Xf->Prop}{cs ex fz fz' l:ad}{la:LA}{new ot:ad}{p:bE}{post pre:ad}{r rest str:List Ch}{tl:ad}{u:V}{x10 x8 x9:Option V}{xs:List V}{ρ:List (Option V)}
section
mutual
inductive X where
 |k (v:V)|loc (i:Nat)|glob (i:Nat)|attr (x:X) (a:Nat)
 |bin (op:Operator) (x y:X)|cmp (op:CmpOp) (x y:X)
 |or (x y:X)|ite (t a b:X)
 |tnot (x:X)|tand (x y:X)|tor (x y:X)
 |tup (xs:Xs)|lst (xs:Xs)
 |sub (x i:X)|slc (x lo hi:X)
 |call (f:X) (xs:Xs)|mcall (o:X) (m:Nat) (xs:Xs)|mkw (o:X) (m kw:Nat) (v:X)|neg (i:Nat)
inductive Xs where
 |nil|cons (x:X) (xs:Xs)
end
noncomputable def fS:List (Option V)->Nat->Option V
 |[],_=>none
 |v::_,0=>v
 |_::r,i+1=>fS r i
noncomputable def cU:List (Option V)->Nat->V->List (Option V)
 |[],_,_=>[]
 |_::r,0,v=>some v::r
 |x::r,i+1,v=>x::cU r i v
noncomputable def nm:List Str->Nat->Option Str
 |[],_=>none
 |v::_,0=>some v
 |_::r,i+1=>nm r i
section
variable (o:lz σ) (ρ:List (Option V)) (Ex:bE->σ->Prop)
mutual
noncomputable def cZ:X->σ->(V->σ->Prop)->Prop
 |.k v,s,K=>K v s
 |.neg i,s,K=>K (.int (-(i:Int))) s
 |.loc i,s,K=>(match fS ρ i with|some v=>K v s|none=>False)
 |.glob i,s,K=>(match o.glob i with|some (_,v)=>K v s|none=>False)
 |.attr x a,s,K=>cZ x s fun v s=>o.attr v a s K
 |.bin op x y,s,K=>cZ x s fun a s=>cZ y s fun b s=>o.bin op a b s K
 |.cmp op x y,s,K=>cZ x s fun a s=>cZ y s fun b s=>o.cmp op a b s K
 |.or x y,s,K=>cZ x s fun a s=>o.truth a s fun b s=>(match b with|true=>K a s|false=>cZ y s K)
 |.ite t a b,s,K=>p6 t s fun c s=>(match c with|true=>cZ a s K|false=>cZ b s K)
 |.tnot _,_,_=>False
 |.tand _ _,_,_=>False
 |.tor _ _,_,_=>False
 |.tup xs,s,K=>kR xs s fun vs s=>K (.tup vs) s
 |.lst xs,s,K=>kR xs s fun vs s=>o.lst vs s K
 |.sub x i,s,K=>cZ x s fun a s=>cZ i s fun b s=>o.sub a b s K Ex
 |.slc x lo hi,s,K=>cZ x s fun a s=>cZ lo s fun l s=>cZ hi s fun h s=>o.slc a l h s K
 |.call f xs,s,K=>cZ f s fun g s=>(match o.callable g with|true=>kR xs s fun vs s=>o.call g vs [] s K Ex|false=>False)
 |.mcall ob m xs,s,K=>cZ ob s fun a s=>(match o.meth a m with|some f=>kR xs s fun vs s=>o.call (.raw f) (a::vs) [] s K Ex|none=>False)
 |.mkw ob m kw v,s,K=>cZ ob s fun a s=>(match o.meth a m with|some f=>cZ v s fun b s=>o.call (.raw f) [a] [(kw,b)] s K Ex|none=>False)
noncomputable def kR:Xs->σ->(List V->σ->Prop)->Prop
 |.nil,s,K=>K [] s
 |.cons x xs,s,K=>cZ x s fun v s=>kR xs s fun vs s=>K (v::vs) s
noncomputable def p6:X->σ->(Bool->σ->Prop)->Prop
 |.tnot x,s,K=>p6 x s fun b s=>K (!b) s
 |.tand x y,s,K=>p6 x s fun b s=>(match b with|true=>p6 y s K|false=>K false s)
 |.tor x y,s,K=>p6 x s fun b s=>(match b with|true=>K true s|false=>p6 y s K)
 |.k v,s,K=>o.truth v s K
 |.loc i,s,K=>(match fS ρ i with|some v=>o.truth v s K|none=>False)
 |.glob i,s,K=>(match o.glob i with|some (_,v)=>o.truth v s K|none=>False)
 |.attr x a,s,K=>cZ x s fun v s=>o.attr v a s fun v s=>o.truth v s K
 |.bin op x y,s,K=>cZ x s fun a s=>cZ y s fun b s=>o.bin op a b s fun v s=>o.truth v s K
 |.cmp op x y,s,K=>cZ x s fun a s=>cZ y s fun b s=>o.cmp op a b s fun v s=>o.truth v s K
 |.sub x i,s,K=>cZ x s fun a s=>cZ i s fun b s=>o.sub a b s (fun v s=>o.truth v s K) Ex
 |.call f xs,s,K=>cZ f s fun g s=>(match o.callable g with|true=>kR xs s fun vs s=>o.call g vs [] s (fun v s=>o.truth v s K) Ex|false=>False)
 |.mcall ob m xs,s,K=>cZ ob s fun a s=>(match o.meth a m with|some f=>kR xs s fun vs s=>o.call (.raw f) (a::vs) [] s (fun v s=>o.truth v s K) Ex|none=>False)
 |.or _ _,_,_=>False
 |.ite _ _ _,_,_=>False
 |.tup _,_,_=>False
 |.lst _,_,_=>False
 |.slc _ _ _,_,_=>False
 |.mkw _ _ _ _,_,_=>False
 |.neg _,_,_=>False
end
end
noncomputable def fV:W5->Bool
 |.Call .. =>false
 |_=>true
noncomputable def ou:W5->List W5×Nat×List Pos
 |.BoolOp _ es p| .List es p=>(es,0,[p])
 |.BinOp a _ b p| .Subscript a b p=>([a,b],0,[p])
 |.UnaryOp _ a p| .Attribute a _ p=>([a],0,[p])
 |.IfExp t a b p=>([a,b,t],0,[p])
 |.Compare a _ es p=>(a::es,0,[p])
 |.Call f es ks p=>(f::es++ks.map (·.value),0,p::ks.map (·.pos))
 |.Constant _ k p=>([],k,[p])
 |.Name _ p=>([],0,[p])
 |.Tuple es k p=>(es,k,[p])
 |.Slice a b _ p=>([a.getD default,b.getD default],0,[p])
 |_=>([],0,[])
noncomputable def sC(l:List W5):W5:=l.headD default
noncomputable def aj(e:W5):Pos:=(ou e).2.2.headD default
noncomputable def dw(e:W5):Nat:=(ou e).2.1
noncomputable def ao(e:W5):W5:=sC (ou e).1
noncomputable def aN(e:W5):W5:=sC (ou e).1.tail
noncomputable def pK(e:W5):W5:=sC (ou e).1.tail.tail
noncomputable def Ou(e:W5):Pos:=(ou e).2.2.tail.headD default
noncomputable def EI(e:W5):X->Option W5
 |.k .none=>none
 |_=>some e
noncomputable def NP:X->Bool
 |.loc _| .glob _=>true
 |_=>false
noncomputable def oI:Xs->Nat
 |.nil=>0
 |.cons _ xs=>oI xs+1
section
variable (o:Nat->Option (Str×V)) (sc:Scope) (ns:List Str)
noncomputable def ak(n:Str):Bool:=sc.names.lookup n == some .local&&!(n == ("__debug__" : Str))
noncomputable def mh(i:Nat):Str:=(nm ns i).getD ""
noncomputable def DW(i:Nat):Str:=match o i with|some (n,_)=>n|none => ""
noncomputable def cT(i:Nat):Bool:=(nm ns i).isSome&&ak sc (mh ns i)
mutual
noncomputable def ce:X->W5->W5
 |.k v,e=> .Constant (match v with| .bool b=> .bool b| .int i=> .int i| .str x=> .str x|_=> .none) (dw e) (aj e)
 |.neg i,e=> .UnaryOp .USub (.Constant (.int i) (dw (ao e)) (aj (ao e))) (aj e)
 |.loc i,e=> .Name (mh ns i) (aj e)
 |.glob i,e=> .Name (DW o i) (aj e)
 |.attr x a,e=> .Attribute (ce x (ao e)) (AN a) (aj e)
 |.bin op x y,e=> .BinOp (ce x (ao e)) op (ce y (aN e)) (aj e)
 |.cmp op x y,e=> .Compare (ce x (ao e)) [op] [ce y (aN e)] (aj e)
 |.or x y,e=> .BoolOp .Or [ce x (ao e),ce y (aN e)] (aj e)
 |.ite t a b,e=> .IfExp (ce t (pK e)) (ce a (ao e)) (ce b (aN e)) (aj e)
 |.tnot x,e=> .UnaryOp .Not (ce x (ao e)) (aj e)
 |.tand x y,e=> .BoolOp .And [ce x (ao e),ce y (aN e)] (aj e)
 |.tor x y,e=> .BoolOp .Or [ce x (ao e),ce y (aN e)] (aj e)
 |.tup xs,e=> .Tuple (m8 xs (ou e).1) (dw e) (aj e)
 |.lst xs,e=> .List (m8 xs (ou e).1) (aj e)
 |.sub x i,e=> .Subscript (ce x (ao e)) (ce i (aN e)) (aj e)
 |.slc x lo hi,e=> .Subscript (ce x (ao e)) (.Slice (EI (ce lo (ao (aN e))) lo) (EI (ce hi (aN (aN e))) hi) none (aj (aN e))) (aj e)
 |.call f xs,e=> .Call (ce f (ao e)) (m8 xs (ou e).1.tail) [] (aj e)
 |.mcall ob m xs,e=> .Call (.Attribute (ce ob (ao (ao e))) (AN m) (aj (ao e))) (m8 xs (ou e).1.tail) [] (aj e)
 |.mkw ob m kw v,e=> .Call (.Attribute (ce ob (ao (ao e))) (AN m) (aj (ao e))) [] [⟨some (AN kw),ce v (aN e),Ou e⟩] (aj e)
noncomputable def m8:Xs->List W5->List W5
 |.nil,_=>[]
 |.cons x xs,es=>ce x (sC es)::m8 xs es.tail
end
mutual
noncomputable def d7:X->W5->Bool
 |.k v,_=>(match v with| .none| .bool _| .int _| .str _=>true|_=>false)
 |.neg _,_=>true
 |.loc i,_=>cT sc ns i
 |.glob i,_=>sc.names.lookup (DW o i) == some .globalImplicit&&!(DW o i == ("__debug__" : Str))
 |.attr x _,e=>fV (ce o ns x (ao e))&&d7 x (ao e)
 |.bin _ x y,e=>d7 x (ao e)&&d7 y (aN e)
 |.cmp op x y,e=>!behindInMarks op (ce o ns y (aN e))&&(d7 x (ao e)&&d7 y (aN e))
 |.or x y,e=>d7 x (ao e)&&d7 y (aN e)
 |.ite t a b,e=>d7 t (pK e)&&(d7 a (ao e)&&d7 b (aN e))
 |.tnot x,e=>d7 x (ao e)
 |.tand x y,e=>d7 x (ao e)&&d7 y (aN e)
 |.tor x y,e=>d7 x (ao e)&&d7 y (aN e)
 |.tup xs,e=>Nat.ble (oI xs) 100&&uG xs (ou e).1
 |.lst xs,e=>uG xs (ou e).1
 |.sub x i,e=>d7 x (ao e)&&d7 i (aN e)
 |.slc x lo hi,e=>d7 x (ao e)&&(d7 lo (ao (aN e))&&d7 hi (aN (aN e)))
 |.call f xs,e=>NP f&&(d7 f (ao e)&&uG xs (ou e).1.tail)
 |.mcall ob _ xs,e=>(fV (ce o ns ob (ao (ao e)))&&Nat.beq (aj (ao e)).endLine (aj e).line)&&(Nat.ble (oI xs) 29&&(d7 ob (ao (ao e))&&uG xs (ou e).1.tail))
 |.mkw ob _ _ v,e=>(fV (ce o ns ob (ao (ao e)))&&Nat.beq (aj (ao e)).endLine (aj e).line)&&(d7 ob (ao (ao e))&&d7 v (aN e))
noncomputable def uG:Xs->List W5->Bool
 |.nil,_=>true
 |.cons x xs,es=>d7 x (sC es)&&uG xs es.tail
end
structure iU(x:X) (e:W5):Prop where
 eq:e=ce o ns x e
 ok:d7 o sc ns x e=true
end
end
section
noncomputable def Lc(P:W1) (la:LA) (ns:List Str) (ρ:List (Option V)) (m:Str->Option WY) (fz:ad):Prop :=
 ∀i n v,nm ns i=some n->fS ρ i=some v->∃xv,m n=some xv/\RV P la fz v xv
theorem Lc.mono(h:Lc P la ns ρ m fz) (k:∀p∈fz,p∈fz'):Lc P la ns ρ m fz' :=
 fun i n v a b=>let⟨x,c,d⟩:=h i n v a b;⟨x,c,d.mono k⟩
theorem dB{o:Nat->Option (Str×V)} (x:X) (e:W5) (rest:List W5) (env:Env):starEach (ce o ns x e::rest) env=(false,eval (ce o ns x e) env)::starEach rest env:=by
 cases x<;>rfl
theorem al{v:W5} (h:fV v=true) (attr:Str) (env:Env) (whole:Sem WY):attributeBase v attr env whole=whole:=by
 cases v<;>first|rfl|exact absurd h XW
theorem bW{o:Nat->Option (Str×V)} (p:Pos) (env:Env):∀(xs:Xs) (es:List W5),(backTo p (starEach (m8 o ns xs es) env)).any (·.1)=false
 |.nil,_=>rfl
 |.cons x xs,es=>(congrArg (fun l=>(backTo p l).any (·.1)) (dB (o:=o) (ns:=ns) x (sC es) (m8 o ns xs es.tail) env)).trans (bW p env xs es.tail)
theorem oF{o:Nat->Option (Str×V)}:∀(xs:Xs) (es:List W5),(m8 o ns xs es).length=oI xs
 |.nil,_=>rfl
 |.cons _ xs,es=>congrArg (. +1) (oF xs es.tail)
theorem aq{f:WY}{Q:Args->W2->Prop}{l:List (Bool×Sem WY)}
   (h:wpAny M A (spliced l) (fun vs Un=>Q ⟨vs,[]⟩ Un) E s) (hp:l.any (·.1)=false):wpAny M A (evalArgs f true l []) Q E s:=by
 rcases l with qq|⟨a,r⟩
 ·
   unfold evalArgs
   show wpAny M A (spliced [] >>= _) Q E s
   refine W6 (Xq h (fun vs s' h'=>W6 (Xk ?_)) fun qq qq x=>x)
   refine wpAny_holding ?_
   exact W6 (Xk (W6 (Xk (Xk h'))))
 ·
   obtain⟨b,x⟩:=a
   rw[List.any_cons] at hp
   obtain⟨rfl,qq⟩:=Bool.or_eq_false_iff.mp hp
   exact Calls.evalArgs_plain h
theorem wb{l:List (Bool×Sem WY)} (hp:l.any (·.1)=false):l.all (!·.1)=true:=by
 rw[X7]
 intro x hx
 rw[List.any_eq_false] at hp
 simpa using hp x hx
theorem bI{o:W5}{apos:Pos}{args:List W5}{kws:List Keyword}{env:Env} (h1:fV o=true) (h2:apos.endLine=pos.line)
   (h3:methodCallForm (args.length+kws.length) (backTo pos (starEach args env)) (backToKw pos (keywordEach kws env))=true) :
   eval (.Call (.Attribute o name apos) args kws pos) env=(do
     let ov ←eval o env
     standAt apos.atName
     let(f,first) ←holding [ov] (getMethod ov name (do return (←importBound o env).getD true))
     callWith pos f first (backTo pos (starEach args env)) (backToKw pos (keywordEach kws env))):=by
 rw[arm_eval_Call,al h1]
 unfold methodCall
 rw[h3]
 have hpos:methodCallPos true o env apos pos=pure pos:=by unfold methodCallPos;simp[h2]
 rw[hpos]
 rfl
theorem kW{es:List W5}{p:Pos}{env:Env} (hl:es.length<=29) (hp:(backTo p (starEach es env)).any (·.1)=false):methodCallForm (es.length+([]:List Keyword).length) (backTo p (starEach es env)) (backToKw p (keywordEach [] env))=true:=by
 show((_&&true)&&decide (es.length+0+0<30))=true
 rw[wb hp];exact decide_eq_true (Nat.lt_succ_of_le hl)
section
variable {J:cu σ}{o:lz σ}{Ex:bE->σ->Prop}
theorem p8{v:V} (G:fU w J.la x v) {env:Env} (Gl:Ab w Up) (hg:env.globals=XI) (hb:env.builtins=builtinsNs)
   (hk:∀b o,Up.get? b=some o->s.heap.get? b=some o) (h:∀xv,(∀fz,RV w.params J.la fz v xv)->Q xv s):wpAny (model ae w) A (loadGlobal env x) Q E s:=by
 obtain⟨xv,hv,c⟩:=G
 obtain⟨mg,eg⟩:=Gl.gl
 obtain⟨mb,eb,fb⟩:=Gl.bi
 have eg':Up.Ns env.globals mg:=by rw[hg];exact eg
 have eb':Up.Ns env.builtins mb:=by rw[hb];exact eb
 rcases c with c|⟨c,c2,c3⟩
 . exact loadGlobal_global (mg:=mg) (eg'.keeps hk) (mg_of Gl.X eg c) (h _ hv)
 . exact loadGlobal_builtin (mg:=mg) (mb:=mb) (eg'.keeps hk) (mg_none_of Gl.X eg c) (eb'.keeps hk) ((fb _ c2).trans c3) (h _ hv)
end
section
variable (w:Xj) (J:cu σ) (o:lz σ) (F:Fm) (ns:List Str) (ρ:List (Option V)) (Ex:bE->σ->Prop)
noncomputable def EX(x:X):Prop:=∀(e:W5) (m:Str->Option WY) (st:σ) (fz:ad) (s:W2) (K:V->σ->Prop) (Q:WY->W2->Prop) (E:WY->W2->Prop),
 d7 o.glob F.sc ns x e=true->cZ o ρ Ex x st K->RS w J F m st fz s->Lc w.params J.la ns ρ m fz->a8 w J F m fz K Q->bz J F fz Ex E->wpAny (model ae w) F.A (eval (ce o.glob ns x e) F.env) Q E s
noncomputable def TX(x:X):Prop:=∀(e:W5) (m:Str->Option WY) (st:σ) (fz:ad) (s:W2) (K:Bool->σ->Prop) (Q:Bool->W2->Prop) (E:WY->W2->Prop),
 d7 o.glob F.sc ns x e=true->p6 o ρ Ex x st K->RS w J F m st fz s->Lc w.params J.la ns ρ m fz->ke w J F m fz K Q->bz J F fz Ex E->wpAny (model ae w) F.A (isTrue (ce o.glob ns x e) F.env (eval (ce o.glob ns x e) F.env)) Q E s
noncomputable def I5(m:Str->Option WY) (fz:ad) (xs:Xs) (K:List V->σ->Prop) (Q:List WY->W2->Prop):Prop :=
 ∀vs st' fz' s' xvs,K vs st'->(∀p∈fz,p∈fz')->RS w J F m st' fz' s'->aL w.params J.la fz' vs xvs->xvs.length=oI xs->Q xvs s'
noncomputable def DO(xs:Xs):Prop:=∀(es:List W5) (p:Pos) (m:Str->Option WY) (st:σ) (fz:ad) (s:W2) (K:List V->σ->Prop) (Q:List WY->W2->Prop) (E:WY->W2->Prop),
 uG o.glob F.sc ns xs es=true->kR o ρ Ex xs st K->RS w J F m st fz s->Lc w.params J.la ns ρ m fz->I5 w J F m fz xs K Q->bz J F fz Ex E->wpAny (model ae w) F.A (spliced (backTo p (starEach (m8 o.glob ns xs es) F.env))) Q E s
structure AX(x:X):Prop where
 e:EX w J o F ns ρ Ex x
 t:TX w J o F ns ρ Ex x
end
section
variable {J:cu σ}{o:lz σ}{Ex:bE->σ->Prop}
theorem az{fz'':ad} (h:∀p∈fz,p∈fz') (k:∀p∈fz',p∈fz''):∀p∈fz,p∈fz'':=fun p hp=>k p (h p hp)
theorem ag:∀p∈fz,p∈fz:=fun qq h=>h
theorem a5(q:W3×Obj):∀p∈fz,p∈q::fz:=fun qq h=> .tail _ h
theorem gm(O:aI w J o n) (FO:aa w F) (LV:aU F.A n) {x:X} (h:EX w J o F ns ρ Ex x) (e1:∀s K,p6 o ρ Ex x s K->cZ o ρ Ex x s fun v s=>o.truth v s K)
   (e2:∀e env t,isTrue (ce o.glob ns x e) env t=(do let v ←t;standAt (ce o.glob ns x e).pos;holding [v] (truthy v))):AX w J o F ns ρ Ex x :=
 ⟨h,fun e m st fz s K Q E hc H R L P PE=>wpAny_isTrue_value (h e m st fz s _ _ E hc (e1 _ _ H) R L (fun v st' fz' s' xv hk hf R' rv=>O.truth F m st' fz' s' v xv K Q E FO LV R' rv hk (P.up hf)) PE) (e2 _ _ _)⟩
theorem PI(v:V):EX w J o F ns ρ Ex (.k v):=fun e m st fz s K Q E hc H R L P PE=>by
 cases v with
 |none=>exact wpAny_Constant_none (P _ _ _ _ _ H ag R .none)
 |bool b=>exact wpAny_Constant_bool (P _ _ _ _ _ H ag R (.bool _))
 |int i=>exact wpAny_Constant_int (P _ _ _ _ _ H ag (R.toks _) (.int _ _))
 |str x=>exact X4 (P _ _ _ _ _ H ag (R.toks _) (.str _ _))
 |_=>exact absurd hc XW
theorem IL(i:Nat):EX w J o F ns ρ Ex (.neg i):=fun e m st fz s K Q E hc H R L P PE =>
 wpAny_UnaryOp (wpAny_Constant_int (neg_int (P _ _ _ _ _ H ag ((R.toks _).toks _) (.int _ _))))
theorem b9(h:cT sc ns i=true):nm ns i=some (mh ns i)/\sc.names.lookup (mh ns i)=some .local/\(mh ns i == ("__debug__" : Str))=false :=
 ⟨by cases e:nm ns i with
   |none=>exact absurd (e▸af h) XW
   |some x=>exact congrArg some (show x=(nm ns i).getD "" by rw[e];rfl),eq_of_beq (af (ai h)),Bool.not_eq_true' _ |>.mp (ai (ai h))⟩
theorem FF(FO:aa w F) (i:Nat):EX w J o F ns ρ Ex (.loc i):=fun e m st fz s K Q E hc H R L P PE =>
 match hv:fS ρ i with
 |none=>False.elim (by have H':(match fS ρ i with|some v=>K v st|none=>False):=H;rw[hv] at H';exact H')
 |some v=>by
   have H':(match fS ρ i with|some v=>K v st|none=>False):=H
   rw[hv] at H'
   have h:=b9 hc
   obtain⟨xv,hx,rv⟩:=L i _ v h.1 hv
   exact ld R.fr hx (P _ _ _ _ _ H' ag R rv) FO.kind h.2.1 h.2.2
theorem Dj(O:aI w J o n) (FO:aa w F) (i:Nat):EX w J o F ns ρ Ex (.glob i):=fun e m st fz s K Q E hc H R L P PE=>by
 have H':(match o.glob i with|some (_,v)=>K v st|none=>False):=H
 match hv:o.glob i with
 |none=>rw[hv] at H';exact H'.elim
 |some (y,v) =>
   rw[hv] at H'
   have hy:DW o.glob i=y:=by unfold DW;rw[hv]
   have hc':(F.sc.names.lookup (DW o.glob i) == some .globalImplicit&&!(DW o.glob i == ("__debug__" : Str)))=true:=hc
   show wpAny _ _ (eval (.Name (DW o.glob i) _) _) _ _ _
   rw[hy] at hc' ⊢
   exact Name_function_global FO.kind (eq_of_beq (af hc')) (p8 (O.glob i y v hv) FO.G rfl rfl R.fr.keep fun xv hx=>P _ _ _ _ _ H' ag R (hx fz)) (Bool.not_eq_true' _ |>.mp (ai hc'))
theorem Du(O:aI w J o n) (FO:aa w F) (LV:aU F.A n) {x:X} (h:EX w J o F ns ρ Ex x) (a:Nat):EX w J o F ns ρ Ex (.attr x a):=fun e m st fz s K Q E hc H R L P PE =>
 Attribute_any_ (h _ m st fz s _ _ E (ai hc) H R L (fun v st' fz' s' xv hk hf R' rv=>O.attr F m st' fz' s' v xv a K Q E FO LV R' rv hk (P.up hf)) PE) (by rw[X8,al (af hc)])
theorem GZ(O:aI w J o n) (FO:aa w F) (LV:aU F.A n) {x y:X} (h:EX w J o F ns ρ Ex x) (k:EX w J o F ns ρ Ex y) (op:Operator):EX w J o F ns ρ Ex (.bin op x y):=fun e m st fz s K Q E hc H R L P PE =>
 wpAny_BinOp (h _ m st fz s _ _ E (af hc) H R L (fun v st' fz' s' xv hk hf R' rv =>
   k _ m st' fz' s' _ _ E (ai hc) hk R' (L.mono hf) (fun u UA Uy Uq xu UD Uu Uo ru=>O.bin F m UA Uy Uq op v xv u xu K Q E FO LV Uo (rv.mono Uu) ru UD ((P.up hf).up Uu)) (PE.up hf)) PE)
theorem GF(O:aI w J o n) (FO:aa w F) (LV:aU F.A n) {x y:X} (h:EX w J o F ns ρ Ex x) (k:EX w J o F ns ρ Ex y) (op:CmpOp):EX w J o F ns ρ Ex (.cmp op x y):=fun e m st fz s K Q E hc H R L P PE =>
 wpAny_Compare1 (h _ m st fz s _ _ E (af (ai hc)) H R L (fun v st' fz' s' xv hk hf R' rv =>
   k _ m st' fz' s' _ _ E (ai (ai hc)) hk R' (L.mono hf) (fun u UA Uy Uq xu UD Uu Uo ru=>O.cmp F m UA Uy Uq op v xv u xu K Q E FO LV Uo (rv.mono Uu) ru UD ((P.up hf).up Uu)) (PE.up hf)) PE) (Bool.not_eq_true' _ |>.mp (af hc))
theorem Kk(O:aI w J o n) (FO:aa w F) (LV:aU F.A n) {x y:X} (h:EX w J o F ns ρ Ex x) (k:EX w J o F ns ρ Ex y):EX w J o F ns ρ Ex (.or x y):=fun e m st fz s K Q E hc H R L P PE =>
 wpAny_Or2 (h _ m st fz s _ _ E (af hc) H R L (fun v st' fz' s' xv hk hf R' rv=>O.truth F m st' fz' s' v xv _ _ E FO LV R' rv hk fun b UA Uy Uq UD Uu Uo=>by
   cases b with
   |true=>exact P _ _ _ _ _ UD (az hf Uu) Uo (rv.mono Uu)
   |false=>exact k _ m UA Uy Uq _ _ E (ai hc) UD Uo ((L.mono hf).mono Uu) ((P.up hf).up Uu) ((PE.up hf).up Uu)) PE)
theorem H1{t a b:X} (h:TX w J o F ns ρ Ex t) (k:EX w J o F ns ρ Ex a) (l:EX w J o F ns ρ Ex b):EX w J o F ns ρ Ex (.ite t a b):=fun e m st fz s K Q E hc H R L P PE =>
 wpAny_IfExp (h _ m st fz s _ _ E (af hc) H R L (fun c UA Uy Uq UD Uu Uo=>by
   cases c with
   |true=>exact k _ m UA Uy Uq _ _ E (af (ai hc)) UD Uo (L.mono Uu) (P.up Uu) (PE.up Uu)
   |false=>exact l _ m UA Uy Uq _ _ E (ai (ai hc)) UD Uo (L.mono Uu) (P.up Uu) (PE.up Uu)) PE)
theorem F9(O:aI w J o n) {xs:Xs} (h:DO w J o F ns ρ Ex xs):EX w J o F ns ρ Ex (.tup xs):=fun e m st fz s K Q E hc H R L P PE =>
 Tuple_ (h _ _ m st fz s _ _ E (ai hc) H R L (fun vs st' fz' s' xvs hk hf R' rv hl=>wpAny_newObj_type
   (P _ _ _ _ _ hk (az hf (a5 _)) (R'.alloc O.jok rfl s'.toks) (.tup (n:=0) (.head _) (rv.mono (a5 _))))
   (by show xvs.toArray.size<=sizeLine;rw[XO,hl];exact WZ (Xd (af hc)) (by decide))) PE)
theorem HP(O:aI w J o n) (FO:aa w F) (LV:aU F.A n) {xs:Xs} (h:DO w J o F ns ρ Ex xs):EX w J o F ns ρ Ex (.lst xs):=fun e m st fz s K Q E hc H R L P PE =>
 List_ (h _ _ m st fz s _ _ E hc H R L (fun vs st' fz' s' xvs hk hf R' rv hl=>O.lst F m st' fz' s' vs xvs K Q E FO LV R' rv hk (P.up hf)) PE)
theorem yU(x:X) (e:W5):ft (ce o.glob ns x e)=false:=by cases x<;>rfl
theorem Hj(O:aI w J o n) (FO:aa w F) (LV:aU F.A n) {x i:X} (h:EX w J o F ns ρ Ex x) (k:EX w J o F ns ρ Ex i):EX w J o F ns ρ Ex (.sub x i):=fun e m st fz s K Q E hc H R L P PE =>
 Subscript_ (h _ m st fz s _ _ E (af hc) H R L (fun v st' fz' s' xv hk hf R' rv =>
   k _ m st' fz' s' _ _ E (ai hc) hk R' (L.mono hf) (fun u UA Uy Uq xu UD Uu Uo ru =>
     O.sub F m UA Uy Uq v xv u xu _ _ K Ex Q E FO LV Uo (rv.mono Uu) ru (yU i _) UD ((P.up hf).up Uu) ((PE.up hf).up Uu)) (PE.up hf)) PE)
theorem yt{x:X} (h:EX w J o F ns ρ Ex x) (e:W5) (m:Str->Option WY) (st:σ) (fz:ad) (s:W2) (K:V->σ->Prop) (Q:WY->W2->Prop) (E:WY->W2->Prop)
   (hc:d7 o.glob F.sc ns x e=true) (H:cZ o ρ Ex x st K) (R:RS w J F m st fz s) (L:Lc w.params J.la ns ρ m fz) (P:a8 w J F m fz K Q) (PE:bz J F fz Ex E) :
   wpAny (model ae w) F.A (evalPart (EI (ce o.glob ns x e) x) F.env) Q E s:=by
 have h1:wpAny (model ae w) F.A (evalPart (some (ce o.glob ns x e)) F.env) Q E s:=by rw[evalPart_some];exact h e m st fz s K Q E hc H R L P PE
 cases x with
 |k v =>
   cases v with
   |none =>
     show wpAny _ _ (evalPart none _) _ _ _
     rw[evalPart_none]
     exact Xk (P _ _ _ _ _ H ag R .none)
   |_=>exact h1
 |_=>exact h1
theorem HK(O:aI w J o n) (FO:aa w F) (LV:aU F.A n) {x lo hi:X} (h:EX w J o F ns ρ Ex x) (hl:EX w J o F ns ρ Ex lo) (hh:EX w J o F ns ρ Ex hi):EX w J o F ns ρ Ex (.slc x lo hi):=fun e m st fz s K Q E hc H R L P PE =>
 Subscript_ (h _ m st fz s _ _ E (af hc) H R L (fun v st' fz' s' xv hk hf R' rv =>
   wpAny_Slice (yt hl _ m st' fz' s' _ _ E (af (ai hc)) hk R' (L.mono hf) (fun u UA Uy Uq xu UD Uu Uo ru =>
     yt hh _ m UA Uy Uq _ _ E (ai (ai hc)) UD Uo ((L.mono hf).mono Uu) (fun y UF UR Ut xy Vi UG Ur ry=>by
       rw[evalPart_none]
       exact Xk (O.slc F m UF ((Ut.heap.objs.size,({cls:= .type "slice",data:= .fields #[xu,xy,.none]}:Obj))::UR) _ v xv u xu y xy _ _ _ _ _ K Q E FO LV (Ur.alloc O.jok rfl Ut.toks) (((rv.mono Uu).mono UG).mono (a5 _)) ((ru.mono UG).mono (a5 _)) (ry.mono (a5 _)) (.head _) Vi ((((P.up hf).up Uu).up UG).up (a5 _))))
       ((PE.up hf).up Uu)) (PE.up hf))) PE)
theorem vP{f:X} (h:NP f=true) (e:W5) (es:List W5) (p:Pos) (env:Env):eval (.Call (ce o.glob ns f e) es [] p) env=(do callWith p (←eval (ce o.glob ns f e) env) [] (backTo p (starEach es env)) (backToKw p (keywordEach [] env))):=by
 cases f<;>first|rfl|exact absurd h XW
theorem C5(O:aI w J o n) (FO:aa w F) (LV:aU F.A n) {f:X}{xs:Xs} (h:EX w J o F ns ρ Ex f) (k:DO w J o F ns ρ Ex xs):EX w J o F ns ρ Ex (.call f xs):=fun e m st fz s K Q E hc H R L P PE =>
 Call_ (h _ m st fz s _ _ E (af (ai hc)) H R L (fun v st' fz' s' xv hk hf R' rv=>by
   have hk':(match o.callable v with|true=>kR o ρ Ex xs st' fun vs s=>o.call v vs [] s K Ex|false=>False):=hk
   rcases hcb:o.callable v with qq|qq
   . rw[hcb] at hk';exact hk'.elim
   ·
     rw[hcb] at hk'
     refine XZ (P:=kl w xv) (by rw[bW];rfl) (fun h x=>x) ?_
     exact aq (k _ _ m st' fz' s' _ _ E (ai (ai hc)) hk' R' (L.mono hf) (fun vs UA Uy Uq xvs UD Uu Uo rvs hl=>⟨O.keep F m UA Uy Uq v xv FO Uo (rv.mono Uu) hcb,
       O.call F m UA Uy Uq v xv vs xvs [] [] K Ex Q E FO LV Uo (rv.mono Uu) rvs ⟨[],rfl,.nil⟩ UD ((P.up hf).up Uu) ((PE.up hf).up Uu)⟩) (PE.up hf)) (bW _ _ _ _)) PE) (vP (af hc) _ _ _ _)
theorem wL(O:aI w J o n) (FO:aa w F) (LV:aU F.A n) {ob:X}{xs:Xs} (h:EX w J o F ns ρ Ex ob) (k:DO w J o F ns ρ Ex xs) (nme:Nat):EX w J o F ns ρ Ex (.mcall ob nme xs):=fun e m st fz s K Q E hc H R L P PE =>
 methodCall_KW (pl:=(do return (←importBound (ce o.glob ns ob (ao (ao e))) F.env).getD true)) (kws:=[]) (h _ m st fz s _ _ E (af (ai (ai hc))) H R L (fun v st' fz' s' xv hk hf R' rv=>by
   have hk':(match o.meth v nme with|some f=>kR o ρ Ex xs st' fun vs s=>o.call (.raw f) (v::vs) [] s K Ex|none=>False):=hk
   rcases hm:o.meth v nme with qq|f
   . rw[hm] at hk';exact hk'.elim
   ·
     rw[hm] at hk'
     refine O.meth F m st' fz' s' v xv _ f _ _ E FO LV R' rv hm fun Un Uv=>XZ (P:=fun h=>(KF w.params).In h) (by rw[bW];rfl) (O.methK _ _ _ hm) ?_
     exact aq (k _ _ m st' fz' Un _ _ E (ai (ai (ai hc))) hk' Uv (L.mono hf) (fun vs UA Uy Uq xvs UD Uu Uo rvs hl=>⟨FO.G.X.keeps Uo.fr.keep,
       O.call F m UA Uy Uq (.raw f) f (v::vs) (xv::xvs) [] [] K Ex Q E FO LV Uo (.raw f) (.cons (rv.mono Uu) rvs) ⟨[],rfl,.nil⟩ UD ((P.up hf).up Uu) ((PE.up hf).up Uu)⟩) (PE.up hf)) (bW _ _ _ _)) PE)
   (bI (af (af hc)) (X2 (ai (af hc))) (kW (by rw[oF];exact Xd (af (ai hc))) (bW _ _ _ _)))
theorem GN(O:aI w J o n) (FO:aa w F) (LV:aU F.A n) {ob v:X} (h:EX w J o F ns ρ Ex ob) (k:EX w J o F ns ρ Ex v) (nme kw:Nat):EX w J o F ns ρ Ex (.mkw ob nme kw v):=fun e m st fz s K Q E hc H R L P PE =>
 methodCall_KW (pl:=(do return (←importBound (ce o.glob ns ob (ao (ao e))) F.env).getD true)) (h _ m st fz s _ _ E (af (ai hc)) H R L (fun v st' fz' s' xv hk hf R' rv=>by
   have hk':(match o.meth v nme with|some f=>cZ o ρ Ex _ st' fun b s=>o.call (.raw f) [v] [(kw,b)] s K Ex|none=>False):=hk
   rcases hm:o.meth v nme with qq|f
   . rw[hm] at hk';exact hk'.elim
   ·
     rw[hm] at hk'
     refine O.meth F m st' fz' s' v xv _ f _ _ E FO LV R' rv hm fun Un Uv=>XZ (P:=fun h=>(KF w.params).In h) rfl (O.methK _ _ _ hm) (evalArgs_kw2_nil (by rfl) ?_)
     refine wpAny_evalAll_cons (x:=do let v ←eval _ F.env;standAt _;pure v) (W6 ?_)
     exact k _ m st' fz' Un _ _ E (ai (ai hc)) hk' Uv (L.mono hf) (fun u UA Uy Uq xu UD Uu Uo ru=>W6 (wpAny_standAt (Xk (wpAny_evalAll_nil ⟨FO.G.X.keeps Uo.fr.keep,
       O.call F m UA Uy Uq (.raw f) f [v] [xv] [(kw,u)] [(AN kw,xu)] K Ex Q E FO LV Uo (.raw f) (.cons (rv.mono Uu) .nil) ⟨[xu],rfl,.cons ru .nil⟩ UD ((P.up hf).up Uu) ((PE.up hf).up Uu)⟩)))) (PE.up hf)) PE)
   (bI (af (af hc)) (X2 (ai (af hc))) (by rfl))
theorem Dt:DO w J o F ns ρ Ex .nil:=fun es p m st fz s K Q E hc H R L P PE=>args_nil (P _ _ _ _ _ H ag R .nil rfl)
theorem zC{x:X}{xs:Xs} (h:EX w J o F ns ρ Ex x) (k:DO w J o F ns ρ Ex xs):DO w J o F ns ρ Ex (.cons x xs):=fun es p m st fz s K Q E hc H R L P PE =>
 Xz (h _ m st fz s _ _ E (af hc) H R L (fun v st' fz' s' xv hk hf R' rv =>
   k _ p m st' fz' s' _ _ E (ai hc) hk R' (L.mono hf) (fun vs UA Uy Uq xvs UD Uu Uo rvs hl =>
     P _ _ _ _ _ UD (az hf Uu) Uo (.cons (rv.mono Uu) rvs) (congrArg (. +1) hl)) (PE.up hf)) PE) (dB _ _ _ _)
theorem FE{x:X} (h:TX w J o F ns ρ Ex x):TX w J o F ns ρ Ex (.tnot x):=fun e m st fz s K Q E hc H R L P PE =>
 isTrue_not (h _ m st fz s _ _ E hc H R L (fun b st' fz' s' hk hf R'=>P _ _ _ _ hk hf R') PE)
theorem Gz{x y:X} (h:TX w J o F ns ρ Ex x) (k:TX w J o F ns ρ Ex y):TX w J o F ns ρ Ex (.tand x y):=fun e m st fz s K Q E hc H R L P PE =>
 wpAny_isTrue_BoolOp (wpAny_allTrue_And_cons (h _ m st fz s _ _ E (af hc) H R L (fun b st' fz' s' hk hf R'=>by
   cases b with
   |true =>
     exact wpAny_allTrue_And_cons (k _ m st' fz' s' _ _ E (ai hc) hk R' (L.mono hf) (fun c UA Uy Uq UD Uu Uo=>by
       cases c with
       |true=>exact wpAny_allTrue_And_nil (P _ _ _ _ UD (az hf Uu) Uo)
       |false=>exact P _ _ _ _ UD (az hf Uu) Uo) (PE.up hf))
   |false=>exact P _ _ _ _ hk hf R') PE))
theorem Os{x y:X} (h:TX w J o F ns ρ Ex x) (k:TX w J o F ns ρ Ex y):TX w J o F ns ρ Ex (.tor x y):=fun e m st fz s K Q E hc H R L P PE =>
 wpAny_isTrue_BoolOp (wpAny_allTrue_Or_cons (h _ m st fz s _ _ E (af hc) H R L (fun b st' fz' s' hk hf R'=>by
   cases b with
   |true=>exact P _ _ _ _ hk hf R'
   |false =>
     exact wpAny_allTrue_Or_cons (k _ m st' fz' s' _ _ E (ai hc) hk R' (L.mono hf) (fun c UA Uy Uq UD Uu Uo=>by
       cases c with
       |true=>exact P _ _ _ _ UD (az hf Uu) Uo
       |false=>exact wpAny_allTrue_Or_nil (P _ _ _ _ UD (az hf Uu) Uo)) (PE.up hf))) PE))
theorem GC(O:aI w J o n) (FO:aa w F) (LV:aU F.A n) {x y:X} (h:EX w J o F ns ρ Ex x) (k:EX w J o F ns ρ Ex y) (op:CmpOp):TX w J o F ns ρ Ex (.cmp op x y):=fun e m st fz s K Q E hc H R L P PE =>
 wpAny_isTrue_Compare1 (h _ m st fz s _ _ E (af (ai hc)) H R L (fun v st' fz' s' xv hk hf R' rv =>
   k _ m st' fz' s' _ _ E (ai (ai hc)) hk R' (L.mono hf) (fun u UA Uy Uq xu UD Uu Uo ru=>O.cmp F m UA Uy Uq op v xv u xu _ _ E FO LV Uo (rv.mono Uu) ru UD fun c UF UR Ut xc Vi UG Ur rc =>
     O.truth F m UF UR Ut c xc K Q E FO LV Ur rc Vi (((P.up hf).up Uu).up UG)) (PE.up hf)) PE) (Bool.not_eq_true' _ |>.mp (af hc))
theorem yf{x:X} (h:∀st K,¬cZ o ρ Ex x st K):EX w J o F ns ρ Ex x:=fun qq qq st qq qq K qq qq qq H qq qq qq qq=>(h st K H).elim
theorem kc{x:X} (h:∀st K,¬p6 o ρ Ex x st K):TX w J o F ns ρ Ex x:=fun qq qq st qq qq K qq qq qq H qq qq qq qq=>(h st K H).elim
theorem dt(O:aI w J o n) (FO:aa w F) (LV:aU F.A n):∀x:X,AX w J o F ns ρ Ex x :=
 X.rec (motive_2:=DO w J o F ns ρ Ex)
   (fun v=>gm O FO LV (PI v) (fun qq qq h=>h) fun qq qq qq=>rfl)
   (fun i=>gm O FO LV (FF FO i) (fun s K h=>by
     have h':(match fS ρ i with|some v=>o.truth v s K|none=>False):=h
     show(match fS ρ i with|some v=>o.truth v s K|none=>False)
     exact h') fun qq qq qq=>rfl)
   (fun i=>gm O FO LV (Dj O FO i) (fun s K h=>by
     have h':(match o.glob i with|some (_,v)=>o.truth v s K|none=>False):=h
     show(match o.glob i with|some (_,v)=>o.truth v s K|none=>False)
     exact h') fun qq qq qq=>rfl)
   (fun qq a h=>gm O FO LV (Du O FO LV h.e a) (fun qq qq h=>h) fun qq qq qq=>rfl)
   (fun op qq qq h k=>gm O FO LV (GZ O FO LV h.e k.e op) (fun qq qq h=>h) fun qq qq qq=>rfl)
   (fun op qq qq h k=>⟨GF O FO LV h.e k.e op,GC O FO LV h.e k.e op⟩)
   (fun qq qq h k=>⟨Kk O FO LV h.e k.e,kc fun qq qq h=>h⟩)
   (fun qq qq qq h k l=>⟨H1 h.t k.e l.e,kc fun qq qq h=>h⟩)
   (fun qq h=>⟨yf fun qq qq h=>h,FE h.t⟩)
   (fun qq qq h k=>⟨yf fun qq qq h=>h,Gz h.t k.t⟩)
   (fun qq qq h k=>⟨yf fun qq qq h=>h,Os h.t k.t⟩)
   (fun qq h=>⟨F9 O h,kc fun qq qq h=>h⟩)
   (fun qq h=>⟨HP O FO LV h,kc fun qq qq h=>h⟩)
   (fun qq qq h k=>gm O FO LV (Hj O FO LV h.e k.e) (fun qq qq h=>h) fun qq qq qq=>rfl)
   (fun qq qq qq h k l=>⟨HK O FO LV h.e k.e l.e,kc fun qq qq h=>h⟩)
   (fun qq qq h k=>gm O FO LV (C5 O FO LV h.e k) (fun qq qq h=>h) fun qq qq qq=>rfl)
   (fun qq m qq h k=>gm O FO LV (wL O FO LV h.e k m) (fun qq qq h=>h) fun qq qq qq=>rfl)
   (fun qq m kw qq h k=>⟨GN O FO LV h.e k.e m kw,kc fun qq qq h=>h⟩)
   (fun i=>⟨IL i,kc fun qq qq h=>h⟩)
   Dt fun qq qq h k=>zC h.e k
theorem xG(O:aI w J o n) (FO:aa w F) (LV:aU F.A n) (x:X) (e:W5) (hc:iU o.glob F.sc ns x e) (m:Str->Option WY) (st:σ) (fz:ad) (s:W2) (K:V->σ->Prop) (Q:WY->W2->Prop) (E:WY->W2->Prop)
   (H:cZ o ρ Ex x st K) (R:RS w J F m st fz s) (L:Lc w.params J.la ns ρ m fz) (P:a8 w J F m fz K Q) (PE:bz J F fz Ex E):wpAny (model ae w) F.A (eval e F.env) Q E s :=
 hc.eq▸(dt O FO LV x).e e m st fz s K Q E hc.ok H R L P PE
theorem zq(O:aI w J o n) (FO:aa w F) (LV:aU F.A n) (x:X) (e:W5) (hc:iU o.glob F.sc ns x e) (m:Str->Option WY) (st:σ) (fz:ad) (s:W2) (K:Bool->σ->Prop) (Q:Bool->W2->Prop) (E:WY->W2->Prop)
   (H:p6 o ρ Ex x st K) (R:RS w J F m st fz s) (L:Lc w.params J.la ns ρ m fz) (P:ke w J F m fz K Q) (PE:bz J F fz Ex E):wpAny (model ae w) F.A (isTrue e F.env (eval e F.env)) Q E s :=
 hc.eq▸(dt O FO LV x).t e m st fz s K Q E hc.ok H R L P PE
end
end
section
set_option genCtorIdx true in
inductive Fl where
 |next|brk|cont|ret (v:V)
mutual
inductive T where
 |exp (x:X)|asg (i:Nat) (x:X)|aug (i:Nat) (op:Operator) (x:X)
 |ret (x:X)|ite (t:X) (a b:Ts)|wh (t:X) (b:Ts)|pass|brk|cont|dead
inductive Ts where
 |nil|cons (t:T) (ts:Ts)
end
noncomputable def lX{σ:Type} (tst:List (Option V)->σ->(Bool->σ->Prop)->Prop) (bdy:List (Option V)->σ->(Fl->List (Option V)->σ->Prop)->Prop) (K:Fl->List (Option V)->σ->Prop):Nat->List (Option V)->σ->Prop
 |0,_,_=>False
 |n+1,ρ,s=>tst ρ s fun b s=>(match b with
   |true=>bdy ρ s fun f ρ s=>(match f with
     |.next=>lX tst bdy K n ρ s
     |.cont=>lX tst bdy K n ρ s
     |.brk=>K .next ρ s
     |.ret v=>K (.ret v) ρ s)
   |false=>K .next ρ s)
section
variable (o:lz σ) (Ex:bE->σ->Prop)
mutual
noncomputable def EJ:T->List (Option V)->σ->(Fl->List (Option V)->σ->Prop)->Prop
 |.exp x,ρ,s,K=>cZ o ρ Ex x s fun qq s=>K .next ρ s
 |.asg i x,ρ,s,K=>cZ o ρ Ex x s fun v s=>K .next (cU ρ i v) s
 |.aug i op x,ρ,s,K=>(match fS ρ i with|some a=>cZ o ρ Ex x s fun v s=>o.iop op a v s fun r s=>K .next (cU ρ i r) s|none=>False)
 |.ret x,ρ,s,K=>cZ o ρ Ex x s fun v s=>K (.ret v) ρ s
 |.ite t a b,ρ,s,K=>p6 o ρ Ex t s fun c s=>(match c with|true=>i5 a ρ s K|false=>i5 b ρ s K)
 |.wh t b,ρ,s,K=>∃n,lX (fun ρ s K=>p6 o ρ Ex t s K) (fun ρ s K=>i5 b ρ s K) K n ρ s
 |.pass,ρ,s,K=>K .next ρ s
 |.brk,ρ,s,K=>K .brk ρ s
 |.cont,ρ,s,K=>K .cont ρ s
 |.dead,_,_,_=>False
noncomputable def i5:Ts->List (Option V)->σ->(Fl->List (Option V)->σ->Prop)->Prop
 |.nil,ρ,s,K=>K .next ρ s
 |.cons t ts,ρ,s,K=>EJ t ρ s fun f ρ s=>(match f with
   |.next=>i5 ts ρ s K
   |.brk=>K .brk ρ s
   |.cont=>K .cont ρ s
   |.ret v=>K (.ret v) ρ s)
end
end
noncomputable def eO:Stmt->List W5×List Stmt×List Stmt×Pos
 |.Expr f p=>([f],[],[],p)
 |.Assign ts f p=>(f::ts,[],[],p)
 |.AugAssign t _ f p=>([f,t],[],[],p)
 |.Return f p=>([f.getD default],[],[],p)
 |.If f a b p=>([f],a,b,p)
 |.While f a b p=>([f],a,b,p)
 |.Assert f _ p=>([f],[],[],p)
 |.For t i a b p=>([i,t],a,b,p)
 |.Pass p| .Break p| .Continue p=>([],[],[],p)
 |_=>([],[],[],default)
noncomputable def ci(e:Stmt):Pos:=(eO e).2.2.2
noncomputable def bj(e:Stmt):W5:=sC (eO e).1
noncomputable def eJ(e:Stmt):W5:=sC (eO e).1.tail
noncomputable def cP(l:List Stmt):Stmt:=l.headD (.Pass default)
section
variable (o:Nat->Option (Str×V)) (sc:Scope) (ns:List Str)
mutual
noncomputable def Pe:T->Stmt->Stmt
 |.exp x,e=> .Expr (ce o ns x (bj e)) (ci e)
 |.asg i x,e=> .Assign [.Name (mh ns i) (aj (eJ e))] (ce o ns x (bj e)) (ci e)
 |.aug i op x,e=> .AugAssign (.Name (mh ns i) (aj (eJ e))) op (ce o ns x (bj e)) (ci e)
 |.ret x,e=> .Return (some (ce o ns x (bj e))) (ci e)
 |.ite t a b,e=> .If (ce o ns t (bj e)) (vB a (eO e).2.1) (vB b (eO e).2.2.1) (ci e)
 |.wh t b,e=> .While (ce o ns t (bj e)) (vB b (eO e).2.1) [] (ci e)
 |.pass,e=> .Pass (ci e)
 |.brk,e=> .Break (ci e)
 |.cont,e=> .Continue (ci e)
 |.dead,e=>e
noncomputable def vB:Ts->List Stmt->List Stmt
 |.nil,_=>[]
 |.cons t ts,es=>Pe t (cP es)::vB ts es.tail
end
mutual
noncomputable def O5:T->Stmt->Bool
 |.exp x,e=>d7 o sc ns x (bj e)
 |.asg i x,e=>cT sc ns i&&d7 o sc ns x (bj e)
 |.aug i _ x,e=>cT sc ns i&&d7 o sc ns x (bj e)
 |.ret x,e=>d7 o sc ns x (bj e)
 |.ite t a b,e=>d7 o sc ns t (bj e)&&(uM a (eO e).2.1&&uM b (eO e).2.2.1)
 |.wh t b,e=>d7 o sc ns t (bj e)&&uM b (eO e).2.1
 |.pass,_=>true
 |.brk,_=>true
 |.cont,_=>true
 |.dead,_=>true
noncomputable def uM:Ts->List Stmt->Bool
 |.nil,_=>true
 |.cons t ts,es=>O5 t (cP es)&&uM ts es.tail
end
structure jJ(t:T) (e:Stmt):Prop where
 eq:e=Pe o ns t e
 ok:O5 o sc ns t e=true
structure cq(t:Ts) (e:List Stmt):Prop where
 eq:e=vB o ns t e
 ok:uM o sc ns t e=true
end
theorem gZ{o:Nat->Option (Str×V)} (x:X) (e:W5) (t:Option W5) (l:Nat) (env:Env):swapsWith (ce o ns x e) t l env=pure false:=by
 cases x<;>rfl
inductive RF(P:W1) (la:LA) (fz:ad):Fl->Flow->Prop
 |next:RF P la fz .next .next
 |brk:RF P la fz .brk .brk
 |cont:RF P la fz .cont .cont
 |ret {v:V}{x:WY}:RV P la fz v x->RF P la fz (.ret v) (.ret x)
theorem zo:∀{ns:List Str},ns.Nodup->∀{i j:Nat}{n:Str},nm ns i=some n->nm ns j=some n->i=j
 |a::r,_,0,0,_,_,_=>rfl
 |a::r,hn,0,j+1,n,h1,h2=>by
   exfalso
   have h1':a=n:=XE h1
   subst h1'
   exact(XD.mp hn).1 (nm_mem h2)
 |a::r,hn,i+1,0,n,h1,h2=>by
   exfalso
   have h2':a=n:=XE h2
   subst h2'
   exact(XD.mp hn).1 (nm_mem h1)
 |a::r,hn,i+1,j+1,n,h1,h2=>congrArg (. +1) (zo (XD.mp hn).2 h1 h2)
where nm_mem:∀{ns:List Str}{i:Nat}{n:Str},nm ns i=some n->n∈ns
 |a::r,0,n,h=>by cases h;exact .head _
 |a::r,i+1,n,h=>List.mem_cons_of_mem _ (nm_mem (ns:=r) (i:=i) h)
theorem jD:∀(ρ:List (Option V)) (i:Nat) (v u:V),fS (cU ρ i v) i=some u->u=v
 |[],_,_,_,h=>by cases h
 |_::_,0,_,_,h=>(XE h).symm
 |_::r,i+1,v,u,h=>jD r i v u h
theorem jt:∀(ρ:List (Option V)) (i j:Nat) (v:V),i≠j->fS (cU ρ i v) j=fS ρ j
 |[],_,_,_,_=>rfl
 |_::_,0,0,_,h=>absurd rfl h
 |_::_,0,_+1,_,_=>rfl
 |_::_,_+1,0,_,_=>rfl
 |_::r,i+1,j+1,v,h=>jt r i j v fun e=>h (congrArg (. +1) e)
theorem Lc.set(h:Lc P la ns ρ m fz) (hn:ns.Nodup) {n:Str} (hi:nm ns i=some n) {v:V} (rv:RV P la fz v xv) :
   Lc P la ns (cU ρ i v) (fun y=>if y=n then some xv else m y) fz:=by
 intro j n' u hj hu
 by_cases e:i=j
 . subst e
   obtain rfl:n=n':=by rw[hi] at hj;exact XE hj
   obtain rfl:=jD _ _ _ _ hu
   exact⟨xv,if_pos rfl,rv⟩
 . obtain⟨x,h1,h2⟩:=h j n' u hj ((jt _ _ _ _ e).symm.trans hu)
   exact⟨x,(if_neg (fun(q:n'=n)=>e (zo hn hi (q▸hj)))).trans h1,h2⟩
section
variable {J:cu σ}{o:lz σ}{Ex:bE->σ->Prop}
theorem aM(FO:aa w F) {Q:Unit->W2->Prop} (R:RS w J F m st fz s) (hx:ak F.sc x=true)
   (h:∀s',RS w J F (fun y=>if y=x then some v else m y) st fz s'->Q () s'):wpAny (model ae w) A (storeName F.env x v) Q E s:=by
 obtain⟨mu,hi,N,nd⟩:=R.led
 exact PySem.W.storeX_L R.fr N (fun h' F' N'=>h _ ⟨F',⟨mu,hi,N',nd⟩,R.os,R.dr,R.lo⟩) FO.kind (eq_of_beq (af hx))
noncomputable def fP(w:Xj) (J:cu σ) (F:Fm) (ns:List Str) (fz:ad) (K:Fl->List (Option V)->σ->Prop) (Q:Flow->W2->Prop):Prop :=
 ∀fl ρ st' fz' m' s' xf,K fl ρ st'->(∀p∈fz,p∈fz')->RS w J F m' st' fz' s'->Lc w.params J.la ns ρ m' fz'->RF w.params J.la fz' fl xf->Q xf s'
theorem fP.up{K:Fl->List (Option V)->σ->Prop}{Q:Flow->W2->Prop} (h:fP w J F ns fz K Q) (k:∀p∈fz,p∈fz'):fP w J F ns fz' K Q :=
 fun fl ρ st' fz'' m' s' xf hk h2=>h fl ρ st' fz'' m' s' xf hk fun p hp=>h2 p (k p hp)
noncomputable def SX(w:Xj) (J:cu σ) (o:lz σ) (F:Fm) (ns:List Str) (Ex:bE->σ->Prop) (t:T):Prop:=∀(e:Stmt) (m:Str->Option WY) (ρ:List (Option V)) (st:σ) (fz:ad) (s:W2) (K:Fl->List (Option V)->σ->Prop) (Q:Flow->W2->Prop) (E:WY->W2->Prop),
 O5 o.glob F.sc ns t e=true->EJ o Ex t ρ st K->RS w J F m st fz s->Lc w.params J.la ns ρ m fz->fP w J F ns fz K Q->bz J F fz Ex E->PassesOwn (model ae w) F.A F.env E->wpAny (model ae w) F.A (exec (Pe o.glob ns t e) F.env) Q E s
noncomputable def uX(w:Xj) (J:cu σ) (o:lz σ) (F:Fm) (ns:List Str) (Ex:bE->σ->Prop) (t:Ts):Prop:=∀(e:List Stmt) (m:Str->Option WY) (ρ:List (Option V)) (st:σ) (fz:ad) (s:W2) (K:Fl->List (Option V)->σ->Prop) (Q:Flow->W2->Prop) (E:WY->W2->Prop),
 uM o.glob F.sc ns t e=true->i5 o Ex t ρ st K->RS w J F m st fz s->Lc w.params J.la ns ρ m fz->fP w J F ns fz K Q->bz J F fz Ex E->PassesOwn (model ae w) F.A F.env E->wpAny (model ae w) F.A (execs (vB o.glob ns t e) F.env) Q E s
theorem quiet(FO:aa w F):interactive F.env=false:=by
 show(F.sc.kind == .module&&_)=false
 rw[FO.kind];rfl
theorem Ht(O:aI w J o n) (FO:aa w F) (LV:aU F.A n) (x:X):SX w J o F ns Ex (.exp x):=fun e m ρ st fz s K Q E hc H R L P PE HE =>
 wpAny_Expr_any ((dt O FO LV x).e _ m st fz s _ _ E hc H R L (fun v st' fz' s' xv hk hf R' rv=>P _ _ _ _ _ _ _ hk hf R' (L.mono hf) .next) PE) (quiet FO) (gZ _ _ _ _ _)
theorem GA(O:aI w J o n) (FO:aa w F) (LV:aU F.A n) (hn:ns.Nodup) (i:Nat) (x:X):SX w J o F ns Ex (.asg i x):=fun e m ρ st fz s K Q E hc H R L P PE HE =>
 XK ((dt O FO LV x).e _ m st fz s _ _ E (ai hc) H R L (fun v st' fz' s' xv hk hf R' rv =>
   aM FO R' (ai (af hc)) fun Uq Uo=>P _ _ _ _ _ _ _ hk hf Uo ((L.mono hf).set hn (b9 (af hc)).1 rv) .next) PE) (gZ _ _ _ _ _)
theorem Gg(O:aI w J o n) (FO:aa w F) (LV:aU F.A n) (hn:ns.Nodup) (i:Nat) (op:Operator) (x:X):SX w J o F ns Ex (.aug i op x):=fun e m ρ st fz s K Q E hc H R L P PE HE=>by
 have H':(match fS ρ i with|some a=>cZ o ρ Ex x st fun v s=>o.iop op a v s fun r s=>K .next (cU ρ i r) s|none=>False):=H
 rcases ha:fS ρ i with qq|a
 . rw[ha] at H';exact H'.elim
 ·
   rw[ha] at H'
   obtain⟨h1,h2,qq⟩:=b9 (af hc)
   obtain⟨xa,hx,ra⟩:=L i _ a h1 ha
   exact wpAny_AugAssign_Name (S7 R.fr hx ((dt O FO LV x).e _ m st fz s _ _ E (ai hc) H' R L (fun v st' fz' s' xv hk hf R' rv =>
     O.iop F m st' fz' s' op a xa v xv _ _ E FO LV R' (ra.mono hf) rv hk fun u UA Uy Uq xu UD Uu Uo ru =>
       aM FO Uo (ai (af hc)) fun Ut Ur=>P _ _ _ _ _ _ _ UD (az hf Uu) Ur (((L.mono hf).mono Uu).set hn h1 ru) .next) PE) FO.kind h2)
theorem Ie(O:aI w J o n) (FO:aa w F) (LV:aU F.A n) (x:X):SX w J o F ns Ex (.ret x):=fun e m ρ st fz s K Q E hc H R L P PE HE =>
 wpAny_Return_some ((dt O FO LV x).e _ m st fz s _ _ E hc H R L (fun v st' fz' s' xv hk hf R' rv=>P _ _ _ _ _ _ _ hk hf R' (L.mono hf) (.ret rv)) PE)
theorem G3(O:aI w J o n) (FO:aa w F) (LV:aU F.A n) (t:X) {a b:Ts} (h:uX w J o F ns Ex a) (k:uX w J o F ns Ex b):SX w J o F ns Ex (.ite t a b):=fun e m ρ st fz s K Q E hc H R L P PE HE =>
 wpAny_If ((dt O FO LV t).t _ m st fz s _ _ E (af hc) H R L (fun v st' fz' s' hk hf R'=>by
   cases v with
   |true=>exact h _ m ρ st' fz' s' _ _ E (af (ai hc)) hk R' (L.mono hf) (P.up hf) (PE.up hf) HE
   |false=>exact k _ m ρ st' fz' s' _ _ E (ai (ai hc)) hk R' (L.mono hf) (P.up hf) (PE.up hf) HE) PE)
structure G9(w:Xj) (J:cu σ) (o:lz σ) (F:Fm) (ns:List Str) (Ex:bE->σ->Prop) (t:X) (b:Ts) (fz:ad) (K:Fl->List (Option V)->σ->Prop) (k:Nat) (s:W2) (ρ:List (Option V)) (st:σ) (fz':ad) (m:Str->Option WY):Prop where
 h:lX (fun ρ s K=>p6 o ρ Ex t s K) (fun ρ s K=>i5 o Ex b ρ s K) K k ρ st
 r:RS w J F m st fz' s
 l:Lc w.params J.la ns ρ m fz'
 f:∀p∈fz,p∈fz'
theorem Ny(O:aI w J o n) (FO:aa w F) (LV:aU F.A n) (t:X) {b:Ts} (h:uX w J o F ns Ex b):SX w J o F ns Ex (.wh t b):=fun e m ρ st fz s K Q E hc H R L P PE HE =>
 Exists.elim H fun k H=>wpAny_While (codeAny_whileLoop (fun k s=>∃ρ st fz' m,G9 w J o F ns Ex t b fz K k s ρ st fz' m) (fun k Un I=>by
   obtain⟨Vb,Wn,UK,Vc,I⟩:=I
   rcases k with qq|k
   . exact I.h.elim
   ·
     refine wpAny_passesOwn HE ((dt O FO LV t).t _ Vc Wn UK Un _ _ E (af hc) I.h I.r I.l (fun v st' fz' s' hk hf R'=>?_) (PE.up I.f))
     have f1:=az I.f hf
     cases v with
     |true =>
       refine wpAny_passesOwn HE (h _ Vc Vb st' fz' s' _ _ E (ai hc) hk R' (I.l.mono hf) (fun fl VU UA Uy Vd Uq xf UD Uu Uo UL rf=>?_) (PE.up f1) HE)
       have f2:=az f1 Uu
       cases rf with
       |next=>exact⟨k,Nat.lt_succ_self _,VU,UA,Uy,Vd,UD,Uo,UL,f2⟩
       |cont=>exact⟨k,Nat.lt_succ_self _,VU,UA,Uy,Vd,UD,Uo,UL,f2⟩
       |brk=>exact P _ _ _ _ _ _ _ UD f2 Uo UL .next
       |ret rv=>exact P _ _ _ _ _ _ _ UD f2 Uo UL (.ret rv)
     |false=>exact Xw (P _ _ _ _ _ _ _ hk f1 R' (I.l.mono hf) .next)) k ⟨ρ,st,fz,m,H,R,L,ag⟩)
theorem ug:uX w J o F ns Ex .nil:=fun e m ρ st fz s K Q E hc H R L P PE HE=>Xw (P _ _ _ _ _ _ _ H ag R L .next)
theorem zL{t:T}{ts:Ts} (h:SX w J o F ns Ex t) (k:uX w J o F ns Ex ts):uX w J o F ns Ex (.cons t ts):=fun e m ρ st fz s K Q E hc H R L P PE HE =>
 Xa (h _ m ρ st fz s _ _ E (af hc) H R L (fun fl ρ' st' fz' m' s' xf hk hf R' L' rf=>by
   cases rf with
   |next=>exact k _ m' ρ' st' fz' s' _ _ E (ai hc) hk R' L' (P.up hf) (PE.up hf) HE
   |brk=>exact P _ _ _ _ _ _ _ hk hf R' L' .brk
   |cont=>exact P _ _ _ _ _ _ _ hk hf R' L' .cont
   |ret rv=>exact P _ _ _ _ _ _ _ hk hf R' L' (.ret rv)) PE HE)
theorem qR(O:aI w J o n) (FO:aa w F) (LV:aU F.A n) (hn:ns.Nodup):(∀t:T,SX w J o F ns Ex t)/\∀t:Ts,uX w J o F ns Ex t:=by
 have c1:=fun x=>Ht (ns:=ns) (Ex:=Ex) O FO LV x
 have c2:=fun i x=>GA (Ex:=Ex) O FO LV hn i x
 have c3:=fun i op x=>Gg (Ex:=Ex) O FO LV hn i op x
 have c4:=fun x=>Ie (ns:=ns) (Ex:=Ex) O FO LV x
 have c5:=fun t a b (h:uX w J o F ns Ex a) (k:uX w J o F ns Ex b)=>G3 O FO LV t h k
 have c6:=fun t b (h:uX w J o F ns Ex b)=>Ny O FO LV t h
 have c7:SX w J o F ns Ex .pass:=fun e m ρ st fz s K Q E hc H R L P PE HE=>wpAny_Pass (P _ _ _ _ _ _ _ H ag R L .next)
 have c8:SX w J o F ns Ex .brk:=fun e m ρ st fz s K Q E hc H R L P PE HE=>wpAny_Break (P _ _ _ _ _ _ _ H ag R L .brk)
 have c9:SX w J o F ns Ex .cont:=fun e m ρ st fz s K Q E hc H R L P PE HE=>wpAny_Continue (P _ _ _ _ _ _ _ H ag R L .cont)
 have c10:SX w J o F ns Ex .dead:=fun e m ρ st fz s K Q E hc H R L P PE HE=>(show False from H).elim
 have c12:∀t ts,SX w J o F ns Ex t->uX w J o F ns Ex ts->uX w J o F ns Ex (.cons t ts):=fun qq qq h k=>zL h k
 exact⟨T.rec (motive_2:=uX w J o F ns Ex) c1 c2 c3 c4 c5 c6 c7 c8 c9 c10 ug c12,Ts.rec (motive_1:=SX w J o F ns Ex) c1 c2 c3 c4 c5 c6 c7 c8 c9 c10 ug c12⟩
theorem om(O:aI w J o n) (FO:aa w F) (LV:aU F.A n) (hn:ns.Nodup) (t:T) (e:Stmt) (hc:jJ o.glob F.sc ns t e) (m:Str->Option WY) (ρ:List (Option V)) (st:σ) (fz:ad) (s:W2) (K:Fl->List (Option V)->σ->Prop) (Q:Flow->W2->Prop) (E:WY->W2->Prop)
   (H:EJ o Ex t ρ st K) (R:RS w J F m st fz s) (L:Lc w.params J.la ns ρ m fz) (P:fP w J F ns fz K Q) (PE:bz J F fz Ex E) (HE:PassesOwn (model ae w) F.A F.env E):wpAny (model ae w) F.A (exec e F.env) Q E s :=
 hc.eq▸(qR O FO LV hn).1 t e m ρ st fz s K Q E hc.ok H R L P PE HE
theorem n9(O:aI w J o n) (FO:aa w F) (LV:aU F.A n) (hn:ns.Nodup) (t:Ts) (e:List Stmt) (hc:cq o.glob F.sc ns t e) (m:Str->Option WY) (ρ:List (Option V)) (st:σ) (fz:ad) (s:W2) (K:Fl->List (Option V)->σ->Prop) (Q:Flow->W2->Prop) (E:WY->W2->Prop)
   (H:i5 o Ex t ρ st K) (R:RS w J F m st fz s) (L:Lc w.params J.la ns ρ m fz) (P:fP w J F ns fz K Q) (PE:bz J F fz Ex E) (HE:PassesOwn (model ae w) F.A F.env E):wpAny (model ae w) F.A (execs e F.env) Q E s :=
 hc.eq▸(qR O FO LV hn).2 t e m ρ st fz s K Q E hc.ok H R L P PE HE
end
end
section
noncomputable def qy(x:Option Obj):Obj:=x.getD ⟨.none,none,.plain,#[]⟩
noncomputable def O7:Data->FuncData
 |.func fd=>fd
 |_=>default
noncomputable def ah(P:W1) (f:W3):FuncData:=O7 (qy ((KF P).lookup f)).data
noncomputable def ay(fd:FuncData):List Stmt:=match fd.body with| .stmts b=>b| .expr _=>[]
noncomputable def P0:W1:={strHash:=fun qq=>0,shareClass:=fun qq=>0,mergeTok:=fun t=>t,idOf:=fun qq=>0,idOfShared:=fun qq qq=>0,followText:=fun qq=>false,idOfImm:=fun qq=>0}
noncomputable def B0(f:W3):List Stmt:=ay (ah P0 f)
noncomputable def S0(f:W3):Scope:=(ah P0 f).scope
noncomputable abbrev Ng(fd:FuncData):FuncData:=fnOf fd.name fd.qualname fd.params (ay fd) fd.scope fd.defaults fd.kwdefaults fd.doc fd.pyModule fd.annotations fd.code fd.closureTuple
noncomputable abbrev QO(o:Obj) (fd:FuncData):Obj:=⟨o.cls,o.dict,.func fd,o.slots⟩
noncomputable def nM(sc:Scope):Bool:=!sc.isCoroutine&&!sc.isGenerator&&(sc.kind == .function)&&sc.names.all fun x=>!(x.2 == .cell)
structure Dh(sc:Scope):Prop where
 co:sc.isCoroutine=false
 gen:sc.isGenerator=false
 kind:sc.kind= .function
 cell:∀x∈sc.names,x.2≠ .cell
theorem dp(h:nM sc=true):Dh sc :=
 ⟨dq (af (af (af h))),dq (ai (af (af h))),eq_of_beq (ai (af h)),fun x hx e=>absurd (dq (X7.mp (ai h) x hx)) (by rw[e];exact XW)⟩
theorem yG{UU:Yc}{outer:List Env}{env:Env}{news:List (W3×Obj)}{K:Frag}
   {R:Result->W2->Prop}{qual:Str}{params:Arguments}{scope:Scope}{dV kV doc pm cdv ct oc:WY}{an od:Option W3}{osl:Array (Option WY)}
   (B:Below UU base outer Up) (F:Fr Up L s.heap m) (N:News Up L s.heap news) (X:K.In s.heap) (hlim:Up.NoLimit) (hA:A.frames=some (env::outer))
   (ho:K.lookup f=some ⟨oc,od,.func (fnOf name qual params body scope dV kV doc pm an cdv ct),osl⟩) (hcd:codeIn K cdv qual=true) (hroom:A.depth<Xh)
   (hbind:BindsTo s (fnOf name qual params body scope dV kV doc pm an cdv ct) args binds) (hloc:∀y∈binds,scope.names.lookup y.1=some .local)
   (h:∀g L' h₁,Fr Up L g m->Fr g L' h₁ (fun y=>binds.reverse.lookup y)->News g L' h₁ news->Below A base (env::outer) g->Up.StaysIn g ->
     wpAny (model prog w) (A.deeper (envOf qual scope L' f cdv)) (execs body (envOf qual scope L' f cdv))
       (fun fl s'=>LeaveK Up L m g R (match fl with| .ret v=>v|_=> .none) s')
       (fun e s'=>wpAny (model prog w) (A.deeper (envOf qual scope L' f cdv)) (leaving (envOf qual scope L' f cdv) e) (fun qq s''=>R (.error e) s'') (fun e' s''=>R (.error e') s'') s')
       {s with heap:=h₁,toks:=s.toks+binds.length})
   (hck:env.scope.kind= .function) (hco:scope.isCoroutine=false) (hgen:scope.isGenerator=false) (hk:scope.kind= .function)
   (hcell:∀x∈scope.names,x.2≠ .cell) (hf:env.frame=some L):codeAny (model prog w) A (.call (.ref f) args) R s :=
 PySem.W.callX_plain (cl:=[]) B F N hlim hA hf hck (X _ _ ho) rfl (codeRec_of X hcd) hroom hbind hloc (fun g L' h₁ a b c d e qq=>h g L' h₁ a b c d e) hcell hco hgen hk
structure bl(P:W1) (f:W3):Prop where
 shape:(KF P).lookup f=some (QO (qy ((KF P).lookup f)) (Ng (ah P f)))
 scope:nM (ah P f).scope=true
 code:codeIn (KF P) (ah P f).code (ah P f).qualname=true
theorem bl.fd(h:bl P f):ah P f=Ng (ah P f):=congrArg (fun x=>O7 (qy x).data) h.shape
structure lB(s:W2) (fd:FuncData) (args:Args) (binds:List (Str×WY)):Prop where
 h:BindsTo s fd args binds
theorem lB.of_eq{fd:FuncData} (h:X1 fd args=pure binds):lB s fd args binds:=⟨BindsTo.of_eq h⟩
structure nP(F F':Fm):Prop where
 A:F'.A=F.A.deeper F'.env
 UU:F'.UU=F.A
 base:F'.base=F.base
 outer:F'.outer=F.env::F.outer
 os:F'.os=F.os
 dr:F'.dr=F.dr
 fr:∃m,Fr F.Up F.L F'.Up m
structure f9(w:Xj) {σ:Type} (J:cu σ):Prop where
 leave:∀F F' st fz p e s Q E,nP F F'->aa w F'->J.Rz F' st fz p e s->(∀s',J.Rz F st fz p e s'->Q () s')->wpAny (model ae w) F'.A (leaving F'.env e) Q E s
section
variable {J:cu σ}{o:lz σ}{Ex:bE->σ->Prop}
theorem u3(a n:Nat):a+3+10*n<=a+10*(n+1):=Nat.add_right_comm a 3 (10*n)▸XB (by decide:3<=10) (a+10*n)
theorem d1{a b:Nat} (h:a+(n+1)<=b):a+1+n<=b:=WZ (W9 (Nat.add_right_comm a 1 n)) h
theorem aU.deeper(h:aU A (n+1)) (env:Env):aU (A.deeper env) n:=⟨h.hd,d1 h.depth,WZ (u3 _ _) h.units⟩
theorem aU.in1(h:aU A (n+1)):aU A.in1 n:=⟨h.hd,Nat.le_of_succ_le h.depth,WZ (WZ (XG (XB (by decide) _) _) (u3 _ _)) h.units⟩
theorem aU.lt(h:aU A n):A.depth<Xh:=Xi (WZ (XL _ n) h.depth) (by decide)
theorem fo(FO:aa w F) (LV:aU F.A (n+1)) (KO:bl w.params f) {R:Result->W2->Prop}
   (hbind:lB s (ah w.params f) args binds) (hloc:binds.all (fun y=>(ah w.params f).scope.names.lookup y.1 == some .local)=true) (UC:RS w J F m st fz s)
   (h:∀F' s',nP F F'->aa w F'->aU F'.A n->F'.env=envOf (ah w.params f).qualname (ah w.params f).scope F'.L f (ah w.params f).code->F'.sc=(ah w.params f).scope ->
     RS w J F' (fun y=>binds.reverse.lookup y) st fz s' ->
     wpAny (model ae w) F'.A (execs (ay (ah w.params f)) F'.env) (fun fl s''=>∃m' st' fz',RS w J F' m' st' fz' s''/\(RS w J F m st' fz' s''->R (.ok (.ret (match fl with| .ret v=>v|_=> .none))) s''))
       (fun e s'=>wpAny (model ae w) F'.A (leaving F'.env e) (fun qq s''=>R (.error e) s'') (fun e' s''=>R (.error e') s'') s') s') :
   codeAny (model ae w) F.A (.call (.ref f) args) R s:=by
 obtain⟨mu,hi,N,nd⟩:=UC.led
 have S:=dp KO.scope
 refine yG (K:=KF w.params) FO.B UC.fr N (FO.G.X.keeps UC.fr.keep) FO.G.lim FO.fr KO.shape KO.code LV.lt (KO.fd▸hbind.h) (fun y hy=>eq_of_beq (X7.mp hloc y hy)) (fun g L' h₁ FG F' N' B' VV=>?_) FO.kind S.co S.gen S.kind S.cell rfl
 let U7:Fm:={A:=F.A.deeper (envOf (ah w.params f).qualname (ah w.params f).scope L' f (ah w.params f).code),UU:=F.A,base:=F.base,Up:=g,outer:=F.env::F.outer,q:=(ah w.params f).qualname,sc:=(ah w.params f).scope,L:=L',a:=f,cd:=(ah w.params f).code,os:=F.os,dr:=F.dr}
 have C:nP F U7:=⟨rfl,rfl,rfl,rfl,rfl,rfl,⟨m,FG⟩⟩
 have Vj:aa w U7:=⟨B',Around.frames_deeper B'.stack,FO.G.keeps VV,S.kind,FO.gb⟩
 refine Xq (h U7 _ C Vj (LV.deeper _) rfl rfl ⟨F',⟨mu,hi,N',nd⟩,UC.os,UC.dr,UC.lo⟩) (fun fl s'' hh=>?_) fun qq qq x=>x
 obtain⟨m',st',fz',R',k⟩:=hh
 obtain⟨mu',hi',N'',nd'⟩:=R'.led
 exact⟨L',m',mu'++fz',R'.fr,N'',fun Uz Vk=>k ⟨Uz,⟨mu',hi',Vk,nd'⟩,R'.os,R'.dr,R'.lo⟩⟩
noncomputable abbrev RQ(Q:WY->W2->Prop) (E:WY->W2->Prop):Result->W2->Prop:=fun r s'=>match r with| .ok (.ret v)=>Q v s'| .ok _=>False| .error e=>E e s'
theorem rt(O:aI w J o n) (JL:f9 w J) (FO:aa w F) (LV:aU F.A (n+1)) (KO:bl w.params f) {pos:List WY}{kw:List (Str×WY)}{K:V->σ->Prop}{ir:Ts}
   (hbind:lB s (ah w.params f) ⟨pos,kw⟩ binds) (hloc:binds.all (fun y=>(ah w.params f).scope.names.lookup y.1 == some .local)=true) (hn:ns.Nodup)
   (hchk:cq o.glob (ah w.params f).scope ns ir (ay (ah w.params f))) (R:RS w J F m st fz s) (hρ:Lc w.params J.la ns ρ (fun y=>binds.reverse.lookup y) fz)
   (H:i5 o Ex ir ρ st (fun fl qq st'=>match fl with| .ret v=>K v st'| .next=>K .none st'|_=>False)) (P:a8 w J F m fz K Q) (PE:bz J F fz Ex E):codeAny (model ae w) F.A (.call (.ref f) ⟨pos,kw⟩) (RQ Q E) s:=by
 refine fo FO LV KO hbind hloc R fun F' s' C FO' LV' he hsc R'=>?_
 have hchk':cq o.glob F'.sc ns ir (ay (ah w.params f)):=hsc▸hchk
 refine n9 O FO' LV' hn ir _ hchk' _ ρ st fz s' _ _ _ H R' hρ (fun fl ρ' st' fz' m' s'' xf hk hf R'' L'' rf=>?_) (fun p st' fz' e s'' hx hf hz=>?_) PassesOwn.leaving
 . refine⟨m',st',fz',R'',fun Ur=>?_⟩
   cases rf with
   |next=>exact P _ _ _ _ _ hk hf Ur .none
   |brk=>exact hk.elim
   |cont=>exact hk.elim
   |ret rv=>exact P _ _ _ _ _ hk hf Ur rv
 . exact JL.leave F F' st' fz' p e s'' _ _ C FO' hz fun Ut U8=>PE _ _ _ _ _ hx hf U8
theorem fD(O:aI w J o n) (JL:f9 w J) (FO:aa w F) (LV:aU F.A (n+1)) (KO:bl w.params f) {pos:List WY}{kw:List (Str×WY)}{K:V->σ->Prop}{ir:Ts}
   (hbind:lB s (ah w.params f) ⟨pos,kw⟩ binds) (hloc:binds.all (fun y=>(ah w.params f).scope.names.lookup y.1 == some .local)=true) (hn:ns.Nodup)
   (hchk:cq o.glob (ah w.params f).scope ns ir (ay (ah w.params f))) (R:RS w J F m st fz s) (hρ:Lc w.params J.la ns ρ (fun y=>binds.reverse.lookup y) fz)
   (H:i5 o Ex ir ρ st (fun fl qq st'=>match fl with| .ret v=>K v st'| .next=>K .none st'|_=>False)) (P:a8 w J F m fz K Q) (PE:bz J F fz Ex E):wpAny (model ae w) F.A (call (.ref f) pos kw) Q E s :=
 wpAny_call (rt O JL FO LV KO hbind hloc hn hchk R hρ H P PE)
end
end
section
noncomputable def ez(h base:Heap) (e:W3) (P:Obj->Prop) (fl:WY):Prop:=∀qC:Prop,(∀(oe:Obj) (vs:Array WY) (T:W3) (oT:Obj) (ts:Array WY),h.get? e=some oe->P oe->oe.data= .fields vs->vs[1]?=some (.ref T)->base.get? T=none->T≠e->h.get? T=some oT->oT.data= .fields ts->ts[3]?=some fl->qC)->qC
structure rM(base:Heap) (l:List Env) (e:W3) (P:Obj->Prop) (h:Heap):Prop where
 k:base.StaysIn h
 n:base.get? e=none
 f:h.FunFrames base l
 t:ez h base e P .none
noncomputable def mZ(d:W3) (o:Obj):Prop:=o.cls= .ref 156/\o.dict=some d
noncomputable def jC(fz:ad) (es:List XH):bE->Prop
 |none=>getL "loc" es=some (some .none)
 |some (r,k)=>∃l,getL "loc" es=some (some (.ref l))/\eV fz r k l
noncomputable def rU{σ:Type} (I:σ->ad->ad->Array Xf->Prop) (F:Fm) (st:σ) (fz:ad) (p:bE) (e:WY) (s:W2):Prop:=∀qC:Prop,(∀(x d:W3) (es:List XH) (n:Nat) (mu:ad) (B:Heap),e= .ref x->(d,Xc es n)∈fz->jC fz es p->I st mu fz s.gens->((mu++fz).map (·.1)).Nodup->F.base.StaysIn B ->
   (∀q∈mu++fz,B.get? q.1=some q.2/\F.base.get? q.1=none)->rM B (F.env::F.outer) x (mZ d) s.heap->(∃m UV,Fr F.Up F.L UV m/\UV.UpToSlots s.heap)->s.os=F.os->s.drawn=F.dr->qC)->qC
noncomputable def bC{σ:Type} (la:LA) (I:σ->ad->ad->Array Xf->Prop):cu σ:={la,I,Rz:=rU I}
noncomputable abbrev bR:=List Ch->ad->ad->Array Xf->Prop
structure L0 where
 a:List V
 b:List V
 c:List V
 rest:List Ch
noncomputable def L0.get(s:L0):Nat->Option (List V)
 |0=>some s.a
 |1=>some s.b
 |2=>some s.c
 |_=>none
noncomputable def L0.put(s:L0):Nat->List V->L0
 |0,x=>{s with a:=x}
 |1,x=>{s with b:=x}
 |2,x=>{s with c:=x}
 |_,_=>s
noncomputable def mx(la:LA) (fz:ad):Prop:=(la.lx,Xu 439 la.dx)∈fz/\(la.dx,Xc (eW la) la.dn)∈fz
noncomputable def hJ(ps:Array WY):Prop:=TriplesOk ps.toList
noncomputable def I0(P:W1) (la:LA) (S:bR) (st:L0) (mu fz:ad) (g:Array Xf):Prop:=∀qC:Prop,(∀(lex:mx la fz) (ab:AllBare g) (va vb vc:List WY) (na nb nc:Nat) (ps:Array WY) (sc:ad),mu=(la.tb,W0 (X5 va) na)::(la.pb,W0 (X5 vb) nb)::(la.ct,W0 (X5 vc) nc)::(225,tabObj ps)::sc ->
   aL P la fz st.a va->aL P la fz st.b vb->aL P la fz st.c vc->hJ ps->S st.rest sc fz g->qC)->qC
noncomputable abbrev J0(P:W1) (la:LA) (S:bR):cu L0:=bC la (I0 P la S)
structure eL(S:bR):Prop where
 mono:∀r sc fz fz' g,S r sc fz g->(∀p∈fz,p∈fz')->S r sc fz' g
 gens:∀r sc fz g g',S r sc fz g->g.size<=g'.size->(∀i,i<g.size->g'[i]?=g[i]?)->S r sc fz g'
theorem mx.mono(h:mx la fz) (k:∀p∈fz,p∈fz'):mx la fz':=⟨k _ h.1,k _ h.2⟩
theorem jY{S:bR} (SO:eL S):bZ (J0 P la S) where
 mono:=fun qq qq qq qq qq h k=>h _ fun l ab va vb vc na nb nc ps sc e h1 h2 h3 ht h4=>(fun qq qk=>qk (l.mono k) ab va vb vc na nb nc ps sc e (h1.mono k) (h2.mono k) (h3.mono k) ht (SO.mono _ _ _ _ _ h4 k))
theorem aL.ind{M:List V->List WY->Prop} (c0:M [] []) (c1:∀{x v xs vs},RV P la fz x v->aL P la fz xs vs->M xs vs->M (x::xs) (v::vs)) (r:aL P la fz xs vs):M xs vs :=
 aL.rec (motive_1:=fun qq qq qq=>True) (motive_2:=fun xs vs qq=>M xs vs) ⟨⟩ (fun qq=>⟨⟩) (fun qq qq=>⟨⟩) (fun qq qq=>⟨⟩) (fun qq=>⟨⟩) (fun qq=>⟨⟩) ⟨⟩ (fun qq=>⟨⟩) ⟨⟩ ⟨⟩ (fun qq=>⟨⟩) (fun qq=>⟨⟩) (fun qq=>⟨⟩) (fun qq qq qq=>⟨⟩) (fun qq qq qq=>⟨⟩) (fun qq qq qq=>⟨⟩) (fun qq=>⟨⟩) c0 (fun a b qq=>c1 a b) r
theorem aL.length(r:aL P la fz xs vs):vs.length=xs.length:=aL.ind (M:=fun xs vs=>vs.length=xs.length) rfl (fun qq qq h=>congrArg (. +1) h) r
theorem aL.append{ys:List V}{us:List WY} (r:aL P la fz xs vs) (q:aL P la fz ys us):aL P la fz (xs++ys) (vs++us):=aL.ind (M:=fun xs vs=>aL P la fz (xs++ys) (vs++us)) q (fun a qq h=> .cons a h) r
theorem aL.snoc{x:V} (r:aL P la fz xs vs) (q:RV P la fz x v):aL P la fz (xs++[x]) (vs++[v]):=r.append (.cons q .nil)
inductive rS(P:W1) (la:LA) (fz:ad) (x:V) (xs:List V):List WY->Prop
 |mk (v:WY) (vs:List WY):RV P la fz x v->aL P la fz xs vs->rS P la fz x xs (v::vs)
theorem aL.uncons{x:V} (r:aL P la fz (x::xs) vs):rS P la fz x xs vs :=
 aL.ind (M:=fun l vs=>match l with|[]=>True|x::xs=>rS P la fz x xs vs) trivial (fun a b qq=>⟨_,_,a,b⟩) r
theorem fe{d:W3}{o':Obj}:∀{pre post:ad},((pre++(d,o)::post).map (·.1)).Nodup->Upd d o o' (pre++(d,o)::post) (pre++(d,o')::post):=by intro l0;induction l0 with
 |nil=>intro post h;exact .head fun p hp q=>(XD.mp h).1 (Xp.mpr ⟨p,hp,q⟩)
 |cons a pre ih=>intro post h;exact .tail (fun q=>(XD.mp h).1 (Xp.mpr ⟨(d,o),by simp,q.symm⟩)) (ih (XD.mp h).2)
theorem B7(d:W3) (o o':Obj) (pre post:ad):(pre++(d,o)::post).map (·.1)=(pre++(d,o')::post).map (·.1):=XM.trans (Eq.symm XM)
theorem eT{d:W3}{o':Obj} (h:((pre++(d,o)::post).map (·.1)).Nodup):((pre++(d,o')::post).map (·.1)).Nodup:=B7 d o o' pre post▸h
theorem aL.at(r:aL P la fz xs vs):∀{i:Nat}{v:WY},vs[i]?=some v->∃x,xs[i]?=some x/\RV P la fz x v :=
 aL.ind (M:=fun xs vs=>∀{i:Nat}{v:WY},vs[i]?=some v->∃x,xs[i]?=some x/\RV P la fz x v) (fun h=>bN h) (fun a qq ih i v h=>match i,h with
   |0,h=>⟨_,rfl,XE h▸a⟩
   |_+1,h=>ih h) r
theorem bv{d:W3} (nd:((pre++(d,o)::post).map (·.1)).Nodup):∀p∈pre++post,p.1≠d:=fun p hp e =>
 (XD.mp ((XF.map _).nodup_iff.mp nd)).1 (Xp.mpr ⟨p,hp,e⟩)
theorem cJ{mu:ad}{q p:W3×Obj} (h:p∈mu++fz):p∈mu++q::fz:=XF.mem_iff.mpr (.tail _ h)
theorem pT{d:W3}{o':Obj} (N:News Up L h (pre++(d,o)::post)) (nd:((pre++(d,o)::post).map (·.1)).Nodup) (hx:Heap.ExtBut d h h') (hg:h'.get? d=some o'):News Up L h' (pre++(d,o')::post):=fun p hp =>
 have hd:=(N (d,o) (W4 _ (.head _))).2
 have old:∀q∈pre++post,h'.get? q.1=some q.2/\q.1≠L/\Up.get? q.1=none:=fun q hq =>
   have z:=N q (cJ hq)
   ⟨hx _ _ (bv nd q hq) z.1,z.2⟩
 (Xb.mp (bH hp)).elim (fun e=>by obtain rfl:=e;exact⟨hg,hd⟩) (old p)
section
variable {S:bR}{st:L0}
noncomputable def LW(w:Xj) (la:LA) (S:bR) (F:Fm) (m:Str->Option WY) (st:L0) (fz:ad) (s:W2) (k:Nat) (xs:List V) (a:W3):Prop:=∀qC:Prop,(∀(pre post:ad) (vs:List WY) (nn:Nat),aL w.params la fz xs vs->News F.Up F.L s.heap (pre++(a,W0 (X5 vs) nn)::post)->((pre++(a,W0 (X5 vs) nn)::post).map (·.1)).Nodup ->
     (∀ys us n' s',aL w.params la fz ys us->News F.Up F.L s'.heap (pre++(a,W0 (X5 us) n')::post)->Fr F.Up F.L s'.heap m->s'.gens=s.gens->s'.os=s.os->s'.drawn=s.drawn ->
       RS w (J0 w.params la S) F m (st.put k ys) fz s')->qC)->qC
theorem cm(R:RS w (J0 w.params la S) F m st fz s) (hk:st.get k=some xs) (ha:la.own k=some a):LW w la S F m st fz s k xs a:=by
 obtain⟨mu,qi,N,nd⟩:=R.led;refine qi _ ?_;rintro lex ab va vb vc na nb nc ps sc rfl h1 h2 h3 ht h4
 match k with
 |0 =>
   cases hk;cases ha
   exact(fun qq qk=>qk [] _ va na h1 N nd (fun ys us n' s' hy N' F' hg ho hd=>⟨F',⟨_,(fun qq qk=>qk lex (hg▸ab) us vb vc n' nb nc ps sc rfl hy h2 h3 ht (hg▸h4)),N',nd⟩,ho.trans R.os,hd.trans R.dr,R.lo⟩))
 |1 =>
   cases hk;cases ha
   exact(fun qq qk=>qk [_] _ vb nb h2 N nd (fun ys us n' s' hy N' F' hg ho hd=>⟨F',⟨_,(fun qq qk=>qk lex (hg▸ab) va us vc na n' nc ps sc rfl h1 hy h3 ht (hg▸h4)),N',nd⟩,ho.trans R.os,hd.trans R.dr,R.lo⟩))
 |2 =>
   cases hk;cases ha
   exact(fun qq qk=>qk [_,_] _ vc nc h3 N nd (fun ys us n' s' hy N' F' hg ho hd=>⟨F',⟨_,(fun qq qk=>qk lex (hg▸ab) va vb us na nb n' ps sc rfl h1 h2 hy ht (hg▸h4)),N',nd⟩,ho.trans R.os,hd.trans R.dr,R.lo⟩))
 |_+3=>cases hk
end
end
variable {S:bR}
section
noncomputable def HX:List (Nat×W3):=[(20,373),(21,380),(22,387),(24,401),(25,408),(26,415),(27,422),(28,429),(30,216),(31,223),(32,230),(33,237),(34,244),(35,251),(36,258),(37,265),(38,272)]
noncomputable def Al(a:Nat):Option W3:=HX.lookup a
noncomputable def Jh(a:Nat):Option W3:=bif Nat.blt a 30 then Al a else none
noncomputable def Hn:List (Nat×Str):=[(13, "abcdefghijklmnopqrstuvwxyz"),(14, "ABCDEFGHIJKLMNOPQRSTUVWXYZ"),(15, "0123456789"),(16, "01234567"),(17, "01"),(18, "0123456789abcdefABCDEF")]
noncomputable def MB(a:Nat):Option Str:=Hn.lookup a
structure gc{σ:Type} (J:cu σ):Prop where
 lex:∀st mu fz g,J.I st mu fz g->mx J.la fz
noncomputable def PT:Option (Option WY)->Tok
 |some (some (.str _ t))=>t
 |_=>0
noncomputable def OK(K:Frag) (a:Nat):Tok:=PT (findIn K (.ref 439) (AN a))
noncomputable def yO(K:Frag) (a:Nat) (x:Str):Bool:=findIn K (.ref 439) (AN a) == some (some (.str x (OK K a)))&&(specialIn K (.str x (OK K a)) "__get__" == some none&&!copiedNames.contains (AN a))
noncomputable def zB{α:Type}:Option (Option α)->Bool
 |some none=>true
 |_=>false
theorem sE{x:Option (Option α)} (h:zB x=true):x=some none:=match x with
 |some none=>rfl
 |some (some _)=>nomatch h
 |none=>nomatch h
theorem ew(P:W1) (nm:Str):plainGet (KF P) 439 nm=true:=by
 show plainGet (KF P) 439 "" = true
 kernel_rfl
theorem lr(P:W1):hasDictIn (KF P) 439=true:=by kernel_rfl
noncomputable def Qw(K:Frag) (f:W3):Bool:=isFn K (.ref f)&&specialIn K (.ref f) "__get__" == some (some (.builtin "function.__get__"))&&takesIn K (.ref f) == some false&&fnIn K f
noncomputable def SA(K:Frag) (a:Nat) (f:W3):Bool:=findIn K (.ref 439) (AN a) == some (some (.ref f))&&!copiedNames.contains (AN a)&&Qw K f
theorem Bk(P:W1):HX.all (fun x=>SA (KF P) x.1 x.2)=true:=by kernel_rfl
theorem AQ(P:W1):Hn.all (fun x=>yO (KF P) x.1 x.2)=true:=by kernel_rfl
theorem np(P:W1) {a:Nat} (h:Al a=some f):SA (KF P) a f=true:=ff (Bk P) h
theorem HY(P:W1) {a:Nat} (h:MB a=some x):yO (KF P) a x=true:=ff (AQ P) h
theorem Ge(la:LA):HX.all (fun x=>(fun a qq=>zB (getL (AN a) (eW la))) x.1 x.2)=true:=by kernel_rfl
theorem EG(la:LA):Hn.all (fun x=>(fun a qq=>zB (getL (AN a) (eW la))) x.1 x.2)=true:=by kernel_rfl
theorem pt(la:LA) {a:Nat} (h:Al a=some f):getL (AN a) (eW la)=some none:=sE (ff (p:=fun a qq=>zB (getL (AN a) (eW la))) (Ge la) h)
theorem xD(la:LA) {a:Nat} (h:MB a=some x):getL (AN a) (eW la)=some none:=sE (ff (p:=fun a qq=>zB (getL (AN a) (eW la))) (EG la) h)
section
variable {J:cu σ}
theorem RS.lexIn(LJ:gc J) (R:RS w J F m st fz s):mx J.la fz:=by
 obtain⟨mu,hi,qq⟩:=R.led
 exact LJ.lex _ _ _ _ hi
theorem RS.lexAt(LJ:gc J) (R:RS w J F m st fz s):Xr s.heap J.la.lx (Xu 439 J.la.dx) 439 (some (Xc (eW J.la) J.la.dn)) :=
 have l:=R.lexIn LJ
 ⟨R.get l.1,rfl,rfl,R.get l.2⟩
theorem sQ{a:Nat} (h:Jh a=some f):Al a=some f:=by
 unfold Jh at h
 cases e:Nat.blt a 30<;>rw[e] at h
 . exact nomatch h
 . exact h
theorem qZ(JO:bZ J) (LJ:gc J) (FO:aa w F) (R:RS w J F m st fz s) {a:Nat} (hf:Jh a=some f)
   (h:∀v fz' s',(∀p∈fz,p∈fz')->RS w J F m st fz' s'->RV w.params J.la fz' (.meth f) v->Q v s'):wpAny (model ae w) A (getAttr (.ref J.la.lx) (AN a) true) Q E s:=by
 have hf:Al a=some f:=sQ hf
 have hm:=np w.params hf
 obtain⟨mu,hi,N,nd⟩:=R.led
 exact kbm_bound R.fr FO.G.X N (R.lexAt LJ) (ew _ _) (lr _) (eq_of_beq (af (af hm))) (af (af (af (ai hm)))) (eq_of_beq (ai (af (af (ai hm))))) (eq_of_beq (ai (af (ai hm)))) (dq (ai (af hm))) (pt _ hf)
   fun q h' F' N' lt=>h _ ((q,methodObj (.ref f) (.ref J.la.lx))::fz) _ (fun p hp=> .tail _ hp) (R.join JO hi nd lt F' N' rfl rfl rfl) (.meth (.head _))
theorem vZ(LJ:gc J) (FO:aa w F) (R:RS w J F m st fz s) {a:Nat} (hf:Al a=some f) {pl:Sem Bool}{Q:WY×List WY->W2->Prop}
   (h:Q (.ref f,[.ref J.la.lx]) s):wpAny (model ae w) A (getMethod (.ref J.la.lx) (AN a) pl) Q E s:=by
 have hm:=np w.params hf
 exact method_inst R.fr FO.G.X (R.lexAt LJ) (ew _ _) (eq_of_beq (af (af hm))) (af (af (af (ai hm)))) (pt _ hf) h
theorem cF{a:Nat} (hf:Al a=some f):fnIn (KF P) f=true:=ai (ai (np P hf))
theorem zw(LJ:gc J) (FO:aa w F) (R:RS w J F m st fz s) {a:Nat} (hf:MB a=some x)
   (h:∀t,Q (.str x t) {s with toks:=s.toks+1}):wpAny (model ae w) A (getAttr (.ref J.la.lx) (AN a) true) Q E s:=by
 have hm:=HY w.params hf
 exact get_cls R.fr FO.G.X (R.lexAt LJ) (ew _ _) (lr _) (eq_of_beq (af hm)) (eq_of_beq (af (ai hm))) rfl (dq (ai (ai hm))) (xD _ hf) (h _)
noncomputable def QJ(la:LA):List (Nat×V×WY):=[(0,.own 0,.ref la.tb),(1,.own 1,.ref la.pb),(2,.own 2,.ref la.ct),(3,.opts,.ref la.co),(4,.gen,.ref la.ga)]
noncomputable def Kb(a:Nat) (la:LA):Option (V×WY):=(QJ la).lookup a
theorem Q2(P:W1):findIn (KF P) (.ref 439) (AN 3)=some none:=by kernel_rfl
structure PR(P:W1) (la:LA) (a:Nat) (v:V) (xv:WY):Prop where
 f:findIn (KF P) (.ref 439) (AN a)=some none
 g:getL (AN a) (eW la)=some (some xv)
 h:handedIn xv=true
 r:∀fz,RV P la fz v xv
theorem Dw{a:Nat}{v:V} (h:Kb a la=some (v,xv)):PR P la a v xv:=by
 match a,h with
 |0,h=>cases h;exact⟨by kernel_rfl,by kernel_rfl,rfl,fun qq=> .own rfl⟩
 |1,h=>cases h;exact⟨by kernel_rfl,by kernel_rfl,rfl,fun qq=> .own rfl⟩
 |2,h=>cases h;exact⟨by kernel_rfl,by kernel_rfl,rfl,fun qq=> .own rfl⟩
 |3,h=>cases h;exact⟨by kernel_rfl,by kernel_rfl,rfl,fun qq=> .opts⟩
 |4,h=>cases h;exact⟨by kernel_rfl,by kernel_rfl,rfl,fun qq=> .gen⟩
 |_+5,h=>exact nomatch h
theorem eZ(LJ:gc J) (FO:aa w F) (R:RS w J F m st fz s) {a:Nat}{v:V} (hf:Kb a J.la=some (v,xv))
   (h:RV w.params J.la fz v xv->Q xv {s with toks:=s.toks+1}):wpAny (model ae w) A (getAttr (.ref J.la.lx) (AN a) true) Q E s:=by
 have o:=Dw (P:=w.params) hf
 exact get_own R.fr FO.G.X (R.lexAt LJ) (ew _ _) (lr _) o.f rfl o.g o.h (h (o.r _))
theorem Pa(P:W1) (nm:Str):plainGet (KF P) 183 nm=true:=by
 show plainGet (KF P) 183 "" = true
 kernel_rfl
theorem A7(P:W1):hasDictIn (KF P) 183=true:=by kernel_rfl
theorem Hl(P:W1):findIn (KF P) (.ref 183) (AN 5)=some none:=by kernel_rfl
theorem Qo(P:W1):findIn (KF P) (.ref 183) (AN 6)=some none:=by kernel_rfl
theorem MI(P:W1):findIn (KF P) (.ref 183) "__bool__" = some none:=by kernel_rfl
theorem J9(P:W1):findIn (KF P) (.ref 183) "__len__" = some none:=by kernel_rfl
theorem j5(R:RS w J F m st fz s) {d:W3} (h1:(a,Xu 183 d)∈fz) (h2:(d,Xc es n)∈fz):Xr s.heap a (Xu 183 d) 183 (some (Xc es n)):=⟨R.get h1,rfl,rfl,R.get h2⟩
theorem uV(FO:aa w F) (R:RS w J F m st fz s) {c:Ch} (hc:bS fz c a)
   (h:∀t,Q (.str ⟨#[c.c]⟩ t) {s with toks:=s.toks+1}):wpAny (model ae w) A (getAttr (.ref a) (AN 5) true) Q E s:=by
 refine hc _ ?_;rintro d es n l t h1 h2 h3 h4 h5
 exact get_own R.fr FO.G.X (j5 R h1 h2) (Pa _ _) (A7 _) (Hl _) rfl h3 rfl (h t)
theorem vL(FO:aa w F) (R:RS w J F m st fz s) {c:Ch} (hc:bS fz c a)
   (h:∀l,eV fz c.r c.k l->Q (.ref l) {s with toks:=s.toks+1}):wpAny (model ae w) A (getAttr (.ref a) (AN 6) true) Q E s:=by
 refine hc _ ?_;rintro d es n l t h1 h2 h3 h4 h5
 exact get_own R.fr FO.G.X (j5 R h1 h2) (Pa _ _) (A7 _) (Qo _) rfl h4 rfl (h l h5)
theorem uR(FO:aa w F) (R:RS w J F m st fz s) {c:Ch} (hc:bS fz c a) {Q:Bool->W2->Prop} (h:Q true s):wpAny (model ae w) A (truthy (.ref a)) Q E s:=by
 refine hc _ ?_;rintro d es n l t h1 h2 h3 h4 h5
 exact truthy_K0 R.fr FO.G.X (j5 R h1 h2) (MI _) (J9 _) h
end
end
section
theorem aD{p:W3×Obj}:p∈pre++p::post:=Xt.mpr (.inr (.head _))
theorem Bp:gc (J0 P la S):=⟨fun qq qq qq qq h=>h _ fun l qq qq qq qq qq qq qq qq qq qq qq qq qq qq qq=>l⟩
theorem Fy(h:n<=100000):n+1<=sizeLine:=WZ (XX h) (by decide)
theorem pz(h:n<=100000):n<=sizeLine:=Nat.le_of_succ_le (Fy h)
theorem jf(r:aL P la fz xs vs) (h:xs.length<=100000):vs.length<=100000:=r.length▸h
inductive wJ(P:W1) (la:LA) (fz:ad) (xs:List V) (x:V):List WY->Prop
 |mk (us:List WY) (v:WY):aL P la fz xs us->RV P la fz x v->wJ P la fz xs x (us++[v])
theorem CF{x:V}:∀{xs:List V}{vs:List WY},aL P la fz (xs++[x]) vs->wJ P la fz xs x vs:=by intro l0;induction l0 with
 |nil=>intro qq r;exact r.uncons.casesOn fun v vs r1 r2=>by cases vs with
   |nil=>exact⟨[],v,.nil,r1⟩
   |cons u us=>exact nomatch r2.length
 |cons qq _ ih=>intro qq r;exact r.uncons.casesOn fun v vs r1 r2=>(ih r2).casesOn fun us u a b=>⟨v::us,u,.cons r1 a,b⟩
theorem w2(v:WY):∀us:List WY,kl_cut (us++[v]) us.length=some (us,v,[]):=by intro l0;induction l0 with
 |nil=>exact rfl
 |cons y ys ih=>rw[List.cons_append,List.length_cons,kl_cut,ih]
theorem vH(n:Nat):seqIndex? 0 (n+1)=some 0:=by
 simp[seqIndex?]
theorem xQ:seqIndex? (-1) (n+1)=some n :=
 (congrArg (fun j:Int=>if 0<=j&&j<((n+1:Nat):Int) then some j.toNat else none) ((Int.add_comm _ _).trans (Int.add_neg_cancel_right (n:Int) 1))).trans (if_pos (Bool.and_eq_true_iff.mpr ⟨decide_eq_true (Int.natCast_nonneg n),decide_eq_true (Int.ofNat_lt.mpr (Nat.lt_succ_self n))⟩))
section
variable {st:L0}
theorem own_append(R:RS w (J0 w.params la S) F m st fz s) (hk:st.get k=some xs) (ha:la.own k=some a) {x:V} (rv:RV w.params la fz x v) (hz:xs.length<=100000)
   (h:∀s',RS w (J0 w.params la S) F m (st.put k (xs++[x])) fz s'->Q .none s'):wpAny (model ae w) A (call (.builtin "list.append") [.ref a,v] []) Q E s:=by
 refine(cm R hk ha) _ ?_;rintro pre post vs nn r N nd b
 exact append_K R.fr N (fe nd) (fun h' F' N'=>h _ (b (xs++[x]) (vs++[v]) (nn+1) _ (r.snoc rv) (List.push_toArray vs v▸N') F' rfl rfl rfl)) (pz (jf r hz))
theorem wU(R:RS w (J0 w.params la S) F m st fz s) {x:V} (hk:st.get k=some (x::xs)) (ha:la.own k=some a) (hz:xs.length<=100000)
   (h:∀v s',RV w.params la fz x v->RS w (J0 w.params la S) F m (st.put k xs) fz s'->Q v s'):wpAny (model ae w) A (call (.builtin "list.pop") [.ref a,.int 0 t] []) Q E s:=by
 refine(cm R hk ha) _ ?_;rintro pre post vs nn r N nd b
 cases r.uncons with
 |mk v us r1 r2 =>
   exact kl_popAt (its:=(v::us).toArray) (p:=[]) (q:=us) (y:=v) R.fr N (by decide) (k:=0) (show seqIndex? 0 (v::us).length=_ from vH us.length) rfl (fe nd) (Fy (jf r2 hz)) (fun h' F' N'=>h _ _ r1 (b xs us _ _ r2 N' F' rfl rfl rfl))
theorem xE(R:RS w (J0 w.params la S) F m st fz s) {x:V} (hk:st.get k=some (xs++[x])) (ha:la.own k=some a) (hz:xs.length<=100000)
   (h:∀v s',RV w.params la fz x v->RS w (J0 w.params la S) F m (st.put k xs) fz s'->Q v s'):wpAny (model ae w) A (call (.builtin "list.pop") [.ref a,.int (-1) t] []) Q E s:=by
 refine(cm R hk ha) _ ?_;rintro pre post vs nn r N nd b
 cases CF r with
 |mk us v r2 r1 =>
   have e:(us++[v]).length=us.length+1:=Xg
   exact kl_popAt (its:=(us++[v]).toArray) (p:=us) (q:=[]) (y:=v) R.fr N (by decide) (k:=us.length) (show seqIndex? (-1) (us++[v]).length=_ from e▸xQ) (w2 v us) (fe nd) (show(us++[v]).length<=_ from e▸Fy (jf r2 hz))
     (fun h' F' N'=>h _ _ r1 (b xs us _ _ r2 (XY us▸N') F' rfl rfl rfl))
theorem pW(R:RS w (J0 w.params la S) F m st fz s) (hk:st.get k=some xs) (ha:la.own k=some a) {x:V} (rv:RV w.params la fz x v) (hz:xs.length<=100000)
   (h:∀s',RS w (J0 w.params la S) F m (st.put k (x::xs)) fz s'->Q .none s'):wpAny (model ae w) A (call (.builtin "list.insert") [.ref a,.int 0 t,v] []) Q E s:=by
 refine(cm R hk ha) _ ?_;rintro pre post vs nn r N nd b
 exact kl_insert (l:=v::vs) R.fr N (by decide) (by cases vs<;>rfl) (fe nd) (pz (jf r hz)) (fun h' F' N'=>h _ (b (x::xs) (v::vs) _ _ (.cons rv r) N' F' rfl rfl rfl))
theorem vE(R:RS w (J0 w.params la S) F m st fz s) (hk:st.get k=some xs) (ha:la.own k=some a) (hz:xs.length<=100000)
   (h:∀s',RS w (J0 w.params la S) F m (st.put k []) fz s'->Q .none s'):wpAny (model ae w) A (call (.builtin "list.clear") [.ref a] []) Q E s:=by
 refine(cm R hk ha) _ ?_;rintro pre post vs nn r N nd b
 have hz':=pz (jf r hz)
 rcases vs with qq|⟨v,us⟩
 ·
   obtain⟨pre',post',e1,e2,a1,a2⟩:=(fe (o':=W0 #[] nn) nd).split
   have z:=N _ aD
   exact call_meets PySem.F.slot_list_clear ⟨_,z.1,rfl⟩ PySem.F.entry_list_clear (PySem.F.args_list_clear_1 _) (PySem.AutoSeq1.list_clear_list_0 a _ nn hz')
     ⟨z.1,h _ (b [] [] nn _ .nil (e2▸kl_turn0 (fun qq=> #[]) (e1▸N) a1 a2 rfl rfl) (R.fr.change (Heap.SameBut.update ..) z.2.1 z.2.2) rfl rfl rfl)⟩
 . exact kl_clear R.fr N (fe nd) (Nat.succ_ne_zero _) hz' (fun h' F' N'=>h _ (b [] [] _ _ .nil N' F' rfl rfl rfl))
theorem mr(R:RS w (J0 w.params la S) F m st fz s) (hk:st.get k=some xs) (ha:la.own k=some a) (hz:xs.length<=100000) {Q:Bool->W2->Prop}
   (h:Q (!xs.isEmpty) {s with toks:=s.toks+1+1}):wpAny (model ae w) A (truthy (.ref a)) Q E s:=by
 refine(cm R hk ha) _ ?_;rintro pre post vs nn r N nd b
 have e:vs.isEmpty=xs.isEmpty:=aL.ind (M:=fun xs vs=>vs.isEmpty=xs.isEmpty) rfl (fun qq qq qq=>rfl) r
 exact kgr_truthy (vs:=vs) N aD rfl rfl (Xi (jf r hz) (by decide)) (e▸h)
end
end
section
noncomputable def ck(c:Nat) (x:Str):Bool:=x.cps.toList.elem c
noncomputable def bU(x y:Str):Bool:=x.cps.toList == y.cps.toList
noncomputable def aQ(x y:Str):Str:=⟨(x.cps.toList++y.cps.toList).toArray⟩
noncomputable def ar(x:Str):Nat:=x.cps.toList.length
theorem Str.ext'{y:Str} (h:x.cps=y.cps):x=y:=by cases x;cases y;cases h;rfl
theorem iA(x y:Str):x++y=aQ x y:=by
 apply Str.ext'
 show x.cps++y.cps=_
 unfold aQ
 simp
theorem gY(x y:Str):(x == y)=bU x y:=by
 rw[Bool.eq_iff_iff]
 unfold bU
 rw[beq_iff_eq,beq_iff_eq]
 exact⟨fun h=>by rw[h],fun h=>Str.ext' (Array.toList_inj.mp h)⟩
theorem tK(c:Nat) (x:Str):(!(Builtin.Str.occurrences x ⟨#[c]⟩ 0 x.length 1).isEmpty)=ck c x:=by
 rw[PySem.StrLaws.found_one]
 unfold ck
 rw[Bool.eq_iff_iff,decide_eq_true_eq,List.elem_iff]
noncomputable def opt{α:Type} (o:Option α) (K:α->Prop):Prop:=match o with|some u=>K u|none=>False
theorem ac{o:Option α}{K:α->Prop} (h:opt o K):∃u,o=some u/\K u:=by
 rcases o with qq|u
 . exact h.elim
 . exact⟨u,rfl,h⟩
theorem iL{c:Prop} [Decidable c] {x y:α} (h:(if c then some x else none)=some y):c/\x=y:=by
 by_cases k:c
 . rw[if_pos k] at h;exact⟨k,XE h⟩
 . rw[if_neg k] at h;exact nomatch h
noncomputable def CG{β:Type} (M:Nat->β->Prop):List (Nat×β)->Prop
 |[]=>True
 |p::l=>M p.1 p.2/\CG M l
theorem a6{β:Type}{M:Nat->β->Prop}{a:Nat}{b:β}:∀{l:List (Nat×β)},l.lookup a=some b->CG M l->M a b:=by intro l0;induction l0 with
 |nil=>intro e qq;exact nomatch e
 |cons qh l ih =>
   obtain⟨k,c⟩:=qh;intro e h;rw[List.lookup_cons] at e
   rcases hk:(a == k) with qq|qq
   . rw[hk] at e;exact ih e h.2
   . rw[hk] at e;exact eq_of_beq hk▸XE e▸h.1
noncomputable def Mt:List (Nat×V):=[(0,.own 0),(1,.own 1),(2,.own 2),(3,.opts),(4,.gen)]
noncomputable def zD(a:Nat):Option V:=match Mt.lookup a with
 |some v=>some v
 |none=>(match MB a with|some x=>some (.str x)|none=>(match Jh a with|some f=>some (.meth f)|none=>none))
noncomputable def yu:V->Nat->Option V
 |.self,a=>zD a
 |.chr c,a=>[(5,V.str ⟨#[c.c]⟩),(6,.loc c.r c.k)].lookup a
 |.loc r k,a=>[(11,V.int r),(12,.int k)].lookup a
 |.tok t v r k,a=>[(7,V.str t),(8,.str v),(6,.loc r k)].lookup a
 |.ctok t v sp f r k,a=>[(7,V.str t),(8,.str v),(6,.loc r k),(9,.str sp),(10,.bool f)].lookup a
 |_,_=>none
noncomputable def fi:V->Option Bool
 |.none=>some false
 |.bool b=>some b
 |.int i=>some (i != 0)
 |.chr _=>some true
 |_=>none
noncomputable def strO:V->Option Str
 |.str x=>some x
 |_=>none
noncomputable def intO:V->Option Int
 |.int x=>some x
 |_=>none
noncomputable def ownO:V->Option Nat
 |.own k=>some k
 |_=>none
noncomputable def lm:V->Option WY
 |.raw g=>some g
 |_=>none
noncomputable def ya:V->Option Bool
 |.none=>some true
 |.chr _=>some false
 |_=>none
noncomputable def isNone:V->Option Unit
 |.none=>some ()
 |_=>none
noncomputable def Hg(x:Str):Option Nat:=match x.cps.toList with
 |[c]=>some c
 |_=>none
noncomputable def Lk:Operator->V->V->Option V
 |.Add,v,u=>(strO v).bind fun x=>(strO u).bind fun y=>if ar x+ar y<=100000 then some (.str (aQ x y)) else none
 |_,_,_=>none
noncomputable def rB:CmpOp->V->V->Option V
 |.Is,v,u=>(isNone u).bind fun qq=>(ya v).map .bool
 |.Eq,v,u=>(strO v).bind fun x=>(strO u).map fun y=> .bool (bU x y)
 |.NotEq,v,u=>(strO v).bind fun x=>(strO u).map fun y=> .bool (!bU x y)
 |.In,v,u=>(strO v).bind fun x=>(Hg x).bind fun c=>(strO u).map fun y=> .bool (ck c y)
 |_,_,_=>none
noncomputable def PN:List String:=["list.append", "list.pop", "list.insert", "list.clear", "next", "sum", "len", "str.split", "str.find", "str.join"]
noncomputable def MZ(s:String):Nat:=if s = "list.append" then 1 else if s = "list.pop" then 2 else if s = "list.insert" then 3 else if s = "list.clear" then 4 else if s = "next" then 5 else if s = "sum" then 6 else if s = "len" then 7 else if s = "str.split" then 8 else if s = "str.find" then 9 else if s = "str.join" then 10 else 0
noncomputable def wj:WY->Nat
 |.ref a=>a+100
 |.builtin s=>MZ s
 |_=>0
noncomputable def jL(i:Nat):Option (Str×V):=List.lookup i [(0,(("next" : Str),V.raw (.builtin "next"))),(1,("Token",.raw (.ref 47))),(2,("CompilerError",.raw (.ref 156)))]
noncomputable def zA:WY->Bool
 |.builtin _=>true
 |.ref a=>Nat.beq a 47 || Nat.beq a 156
 |_=>false
noncomputable def Jw(v:V):Bool:=match lm v with|some g=>zA g|none=>false
noncomputable def QS:List (Nat×String):=[(40, "list.append"),(41, "list.pop"),(42, "list.insert"),(43, "list.clear")]
noncomputable def D9(own:Bool):V->Nat->Option WY
 |.self,a=>(Al a).map .ref
 |.own _,a=>(match own with|true=>(QS.lookup a).map .builtin|false=>none)
 |_,_=>none
noncomputable abbrev Hd(σ:Type):=List V->List (Nat×V)->σ->(V->σ->Prop)->(bE->σ->Prop)->Prop
noncomputable def oO{σ:Type} (own:Bool) (tO:Nat->σ->Option Bool) (call:Nat->Hd σ) (sb:V->V->σ->Option V):lz σ where
 glob:=jL
 attr v a st K:=opt (yu v a) fun u=>K u st
 meth:=D9 own
 callable:=Jw
 call f vs kw st K X:=opt (lm f) fun g=>call (wj g) vs kw st K X
 truth v st K:=match ownO v with|some k=>opt (tO k st) fun b=>K b st|none=>opt (fi v) fun b=>K b st
 bin op v u st K:=opt (Lk op v u) fun r=>K r st
 iop qq qq qq qq qq:=False
 cmp op v u st K:=opt (rB op v u) fun r=>K r st
 sub v i st K qq:=opt (sb v i st) fun r=>K r st
 slc qq qq qq qq qq:=False
 lst vs st K:=vs.length<=1000/\K (.lst vs) st
noncomputable def Fp:Option (Option WY)->W3
 |some (some (.ref p))=>p
 |_=>0
noncomputable def O9(K:Frag) (C:W3) (a:Nat):W3:=Fp (findIn K (.ref C) (AN a))
structure eN(K:Frag) (C:W3) (a i:Nat):Prop where
 f:findIn K (.ref C) (AN a)=some (some (.ref (O9 K C a)))
 p:plainGet K C (AN a)=true
 c:isClsIn K C=true
 g:specialIn K (.ref (O9 K C a)) "__get__" = some (some (.builtin "member_descriptor.__get__"))
 t:takesIn K (.ref (O9 K C a))=some true
 s:slotIn K (O9 K C a) C=some i
theorem Py(P:W1):eN (KF P) 47 7 1:=⟨by kernel_rfl,by kernel_rfl,by kernel_rfl,by kernel_rfl,by kernel_rfl,by kernel_rfl⟩
theorem RG(P:W1):eN (KF P) 47 8 2:=⟨by kernel_rfl,by kernel_rfl,by kernel_rfl,by kernel_rfl,by kernel_rfl,by kernel_rfl⟩
theorem PA(P:W1):eN (KF P) 47 6 0:=⟨by kernel_rfl,by kernel_rfl,by kernel_rfl,by kernel_rfl,by kernel_rfl,by kernel_rfl⟩
theorem P3(P:W1):eN (KF P) 127 7 1:=⟨by kernel_rfl,by kernel_rfl,by kernel_rfl,by kernel_rfl,by kernel_rfl,by kernel_rfl⟩
theorem RJ(P:W1):eN (KF P) 127 8 2:=⟨by kernel_rfl,by kernel_rfl,by kernel_rfl,by kernel_rfl,by kernel_rfl,by kernel_rfl⟩
theorem Rw(P:W1):eN (KF P) 127 6 0:=⟨by kernel_rfl,by kernel_rfl,by kernel_rfl,by kernel_rfl,by kernel_rfl,by kernel_rfl⟩
theorem DK(P:W1):eN (KF P) 79 11 3:=⟨by kernel_rfl,by kernel_rfl,by kernel_rfl,by kernel_rfl,by kernel_rfl,by kernel_rfl⟩
theorem Ej(P:W1):eN (KF P) 79 12 0:=⟨by kernel_rfl,by kernel_rfl,by kernel_rfl,by kernel_rfl,by kernel_rfl,by kernel_rfl⟩
theorem NC(P:W1):plainGet (KF P) 127 "" = true:=by kernel_rfl
theorem LF(P:W1):hasDictIn (KF P) 127=true:=by kernel_rfl
theorem Rg(P:W1):findIn (KF P) (.ref 127) (AN 9)=some none:=by kernel_rfl
theorem Jz(P:W1):findIn (KF P) (.ref 127) (AN 10)=some none:=by kernel_rfl
theorem lP{K:Frag}{C:W3}{od:Option Obj}{a g:WY} (hc:(clsIn K C).isSome=true) (ha:findIn K (.ref C) name=some (some a)) (hg:specialIn K a "__get__" = some (some g)) (ht:takesIn K a=some true):findObj K C od name=some (.bind g a):=by
 obtain⟨cd,hc⟩:=Option.isSome_iff_exists.mp hc
 unfold findObj
 rw[hc,Option.bind_some,ha,Option.bind_some]
 show(specialIn K a "__get__").bind _=_
 rw[hg]
 show(takesIn K a).bind _=_
 rw[ht];rfl
section
variable {J:cu σ}
theorem b7(FO:aa w F) (R:RS w J F m st fz s) {C x:W3}{d:Option W3}{od:Option Obj}{sl:Array (Option WY)} (hs:eN (KF w.params) C a i)
   (I:Xr s.heap x (aE C d sl) C od)
   (hv:(sl[i]?).join=some v) (hh:handedIn v=true) (h:Q v {s with toks:=s.toks+1}):wpAny (model ae w) A (getAttr (.ref x) (AN a) true) Q E s :=
 have X:=FO.G.X.keeps R.fr.keep
 get_bind X I (plainGet_of hs.p).1 (lP hs.c hs.f hs.g hs.t) (plainGet_of hs.p).2 (wpAny_call (slot_get (s:={s with toks:=s.toks+1}) X I hs.s hv (handed_on hh h)))
theorem cz(R:RS w J F m st fz s) {x C d:W3}{sl:Array (Option WY)} (h1:(x,aE C (some d) sl)∈fz) (h2:(d,o)∈fz):Xr s.heap x (aE C (some d) sl) C (some o):=⟨R.get h1,rfl,rfl,R.get h2⟩
theorem uy(JO:bZ J) (LJ:gc J) (FO:aa w F) (R:RS w J F m st fz s) {a:Nat} (h:zD a=some u) {K:V->σ->Prop} (hk:K u st) (P:a8 w J F m fz K Q) :
   wpAny (model ae w) A (getAttr (.ref J.la.lx) (AN a) true) Q E s:=by
 unfold zD at h
 rcases ho:Mt.lookup a with qq|v
 ·
   rw[ho] at h
   rcases hs:MB a with qq|x
   ·
     rw[hs] at h
     cases hb:Jh a with
     |some f=>rw[hb] at h;cases h;exact qZ JO LJ FO R hb fun v fz' s' hf R' rv=>P _ _ _ _ _ hk hf R' rv
     |none=>rw[hb] at h;exact bN h
   . rw[hs] at h;cases h;exact zw LJ FO R hs fun t=>P _ _ _ _ _ hk ag (R.toks _) (.str _ _)
 ·
   rw[ho] at h
   cases h
   exact a6 (M:=fun a u=>K u st->wpAny (model ae w) A (getAttr (.ref J.la.lx) (AN a) true) Q E s) ho ⟨fun hk=>eZ LJ FO R (a:=0) rfl fun rv=>P _ _ _ _ _ hk ag (R.toks _) rv,fun hk=>eZ LJ FO R (a:=1) rfl fun rv=>P _ _ _ _ _ hk ag (R.toks _) rv,
     fun hk=>eZ LJ FO R (a:=2) rfl fun rv=>P _ _ _ _ _ hk ag (R.toks _) rv,fun hk=>eZ LJ FO R (a:=3) rfl fun rv=>P _ _ _ _ _ hk ag (R.toks _) rv,fun hk=>eZ LJ FO R (a:=4) rfl fun rv=>P _ _ _ _ _ hk ag (R.toks _) rv,trivial⟩ hk
theorem tz(JO:bZ J) (LJ:gc J) (FO:aa w F) (R:RS w J F m st fz s) {v:V}{a:Nat} (rv:RV w.params J.la fz v xv) (h:yu v a=some u) {K:V->σ->Prop} (hk:K u st) (P:a8 w J F m fz K Q) :
   wpAny (model ae w) A (getAttr xv (AN a) true) Q E s:=by
 cases v with
 |self=>obtain rfl:=rv.view;exact uy JO LJ FO R h hk P
 |chr _=>obtain⟨qq,rfl,c⟩:=rv.view;exact a6 (M:=fun a u=>K u st->wpAny (model ae w) A (getAttr (.ref _) (AN a) true) Q E s) h ⟨fun hk=>uV FO R c fun t=>P _ _ _ _ _ hk ag (R.toks _) (.str _ _),fun hk=>vL FO R c fun l hl=>P _ _ _ _ _ hk ag (R.toks _) (.loc hl),trivial⟩ hk
 |loc =>
   obtain⟨qq,rfl,qi⟩:=rv.view;refine qi _ ?_;rintro sl tr tk d h1 h0 h2 h3
   exact a6 (M:=fun a u=>K u st->wpAny (model ae w) A (getAttr (.ref _) (AN a) true) Q E s) h ⟨fun hk=>b7 FO R (DK _) (cz R h1 h0) h2 rfl (P _ _ _ _ _ hk ag (R.toks _) (.int _ _)),fun hk=>b7 FO R (Ej _) (cz R h1 h0) h3 rfl (P _ _ _ _ _ hk ag (R.toks _) (.int _ _)),trivial⟩ hk
 |tok =>
   obtain⟨qq,rfl,qi⟩:=rv.view;refine qi _ ?_;rintro sl t1 t2 l d h1 h0 h2 h3 h4 h5
   exact a6 (M:=fun a u=>K u st->wpAny (model ae w) A (getAttr (.ref _) (AN a) true) Q E s) h ⟨fun hk=>b7 FO R (Py _) (cz R h1 h0) h2 rfl (P _ _ _ _ _ hk ag (R.toks _) (.str _ _)),fun hk=>b7 FO R (RG _) (cz R h1 h0) h3 rfl (P _ _ _ _ _ hk ag (R.toks _) (.str _ _)),
     fun hk=>b7 FO R (PA _) (cz R h1 h0) h4 rfl (P _ _ _ _ _ hk ag (R.toks _) (.loc h5)),trivial⟩ hk
 |ctok =>
   obtain⟨qq,rfl,qi⟩:=rv.view;refine qi _ ?_;rintro sl t1 t2 t3 l d es n h1 h0 h2 h3 h4 h5 h6 h7
   have I:=cz R h1 h0
   exact a6 (M:=fun a u=>K u st->wpAny (model ae w) A (getAttr (.ref _) (AN a) true) Q E s) h ⟨fun hk=>b7 FO R (P3 _) I h2 rfl (P _ _ _ _ _ hk ag (R.toks _) (.str _ _)),fun hk=>b7 FO R (RJ _) I h3 rfl (P _ _ _ _ _ hk ag (R.toks _) (.str _ _)),
     fun hk=>b7 FO R (Rw _) I h4 rfl (P _ _ _ _ _ hk ag (R.toks _) (.loc h5)),fun hk=>get_own R.fr FO.G.X I (NC _) (LF _) (Rg _) rfl h6 rfl (P _ _ _ _ _ hk ag (R.toks _) (.str _ _)),
     fun hk=>get_own R.fr FO.G.X I (NC _) (LF _) (Jz _) rfl h7 rfl (P _ _ _ _ _ hk ag (R.toks _) (.bool _)),trivial⟩ hk
 |_=>exact bN h
end
theorem db{β:Type}{o:Option β}{f:β->α}{d:β}{v:α}{x:β} (k:o=none\/v=f (o.getD d)) (h:o=some x):v=f x:=by
 subst h
 exact k.elim (fun e=>bN e.symm) id
theorem ek{v:V} (h:strO v=some x):v= .str x:=db (d:=⟨#[]⟩) (by cases v<;>first|exact .inl rfl|exact .inr rfl) h
theorem Cm{v:V}{x:Int} (h:intO v=some x):v= .int x:=db (d:=0) (by cases v<;>first|exact .inl rfl|exact .inr rfl) h
theorem BP{v:V}{x:Nat} (h:ownO v=some x):v= .own x:=db (d:=0) (by cases v<;>first|exact .inl rfl|exact .inr rfl) h
theorem fx{v:V}{x:WY} (h:lm v=some x):v= .raw x:=db (d:= .none) (by cases v<;>first|exact .inl rfl|exact .inr rfl) h
theorem dL{v:V}{x:Unit} (h:isNone v=some x):v= .none:=db (f:=fun qq=>V.none) (d:=()) (by cases v<;>first|exact .inl rfl|exact .inr rfl) h
theorem uI{v:V} (h:ya v=some b):(v= .none/\b=true)\/(∃c,v= .chr c/\b=false):=by
 cases v with
 |none=>cases h;exact .inl ⟨rfl,rfl⟩
 |chr c=>cases h;exact .inr ⟨c,rfl,rfl⟩
 |_=>exact bN h
section
variable {v:V}
theorem RV.strO(r:RV P la fz v xv) (h:strO v=some x):∃t,xv= .str x t:=by
 obtain rfl:=ek h;exact r.view
theorem RV.intO(r:RV P la fz v xv) {x:Int} (h:intO v=some x):∃t,xv= .int x t:=by
 obtain rfl:=Cm h;exact r.view
theorem RV.ownO(r:RV P la fz v xv) (h:ownO v=some k):∃a,xv= .ref a/\la.own k=some a:=by
 obtain rfl:=BP h;exact r.view
end
structure aW(w:Xj) {σ:Type} (J:cu σ) (n:Nat) (c:Nat->Hd σ):Prop where
 ok:∀F m st fz s xf vs xs kw xk K X Q E,aa w F->aU F.A n->RS w J F m st fz s->aL w.params J.la fz vs xs->wg w.params J.la fz kw xk ->
   c (wj xf) vs kw st K X->a8 w J F m fz K Q->bz J F fz X E->wpAny (model ae w) F.A (call xf xs xk) Q E s
noncomputable def cw(w:Xj) {σ:Type} (J:cu σ) (n:Nat) (g:WY) (h:Hd σ):Prop:=∀F m st fz s vs xs kw xk K X Q E,aa w F->aU F.A n->RS w J F m st fz s->aL w.params J.la fz vs xs->wg w.params J.la fz kw xk ->
   h vs kw st K X->a8 w J F m fz K Q->bz J F fz X E->wpAny (model ae w) F.A (call g xs xk) Q E s
theorem R9(P:W1):nsIn (KF P) XI "next" = some none:=by kernel_rfl
theorem QY(P:W1):nsIn (KF P) XI "Token" = some (some (.ref 47)):=by kernel_rfl
theorem Jy(P:W1):nsIn (KF P) XI "CompilerError" = some (some (.ref 156)):=by kernel_rfl
theorem PD:bootBuiltins "next" = some (.builtin "next"):=by kernel_rfl
theorem Mg(P:W1):keepIn (KF P) (.ref 47)=true:=by kernel_rfl
theorem wH(P:W1):keepIn (KF P) (.ref 156)=true:=by kernel_rfl
theorem AJ{K:Frag} (h:fnIn K f=true):keepIn K (.ref f)=true:=by
 unfold fnIn at h
 unfold keepIn
 split at h
 . rename_i q;simp only[q]
 . cases h
theorem aB(w:Xj) (b:String) (h:Heap):kl w (.builtin b) h:=⟨.machine,.inr (.inl rfl),.now⟩
theorem bo(x:Str):x.length=ar x:=x.cps.length_toList.symm
theorem eU{y:Str} (h:ar x+ar y<=100000):x.length+y.length<=sizeLine:=by
 rw[bo,bo]
 exact pz h
theorem A4(h:Hg x=some c):x=⟨#[c]⟩:=by
 unfold Hg at h
 apply Str.ext'
 apply Array.toList_inj.mp
 match e:x.cps.toList with
 |[]=>rw[e] at h;exact bN h
 |[d]=>rw[e] at h;cases h;rfl
 |_::_::_=>rw[e] at h;exact bN h
section
variable {J:cu σ}{own:Bool}{tO:Nat->σ->Option Bool}{c:Nat->Hd σ}{sb:V->V->σ->Option V}
theorem Cl{v:V} (h:jL i=some (x,v)):fU w J.la x v :=
 a6 (M:=fun qq p=>fU w J.la p.1 p.2) (b:=(x,v)) h ⟨⟨_,fun qq=> .raw _,.inr ⟨R9 _,by decide +kernel,PD⟩⟩,⟨_,fun qq=> .raw _,.inl (QY _)⟩,⟨_,fun qq=> .raw _,.inl (Jy _)⟩,trivial⟩
theorem cp{β:Type}{o:Option α}{f:α->β}{b:β} (h:o.map f=some b):∃a,o=some a/\f a=b:=Option.map_eq_some_iff.mp h
theorem aC{β:Type}{o:Option α}{f:α->Option β}{b:β} (h:o.bind f=some b):∃a,o=some a/\f a=some b:=Option.bind_eq_some_iff.mp h
theorem oM{v:V}{K:Bool->σ->Prop}{Q:Bool->W2->Prop} (FO:aa w F) (R:RS w J F m st fz s) (rv:RV w.params J.la fz v xv) (hb:fi v=some b) (h:K b st) (P:ke w J F m fz K Q) :
   wpAny (model ae w) F.A (truthy xv) Q E s:=by
 cases v with
 |none=>cases hb;cases rv.view;exact truthy_none (P _ _ _ _ h ag R)
 |bool=>cases hb;cases rv.view;exact wpAny_truthy_bool (P _ _ _ _ h ag R)
 |int=>cases hb;obtain⟨qq,rfl⟩:=rv.view;exact truthy_int (P _ _ _ _ h ag R)
 |chr c=>cases hb;obtain⟨qq,rfl,c⟩:=rv.view;exact uR FO R c (P _ _ _ _ h ag R)
 |_=>exact bN hb
theorem FK{op:Operator}{v r:V}{K:V->σ->Prop} (R:RS w J F m st fz s) (rv:RV w.params J.la fz v xv) (ru:RV w.params J.la fz u xu) (hr:Lk op v u=some r) (h:K r st) (P:a8 w J F m fz K Q) :
   wpAny (model ae w) F.A (binaryOp op xv xu) Q E s:=by
 cases op with
 |Add =>
   obtain⟨x,hx,hr⟩:=aC hr
   obtain⟨y,hy,hr⟩:=aC hr
   obtain⟨hl,rfl⟩:=iL hr
   obtain⟨qq,rfl⟩:=rv.strO hx
   obtain⟨qq,rfl⟩:=ru.strO hy
   exact add_str (fun t' tk=>P _ _ _ _ _ h ag (R.toks _) (iA x y▸ .str _ _)) (eU hl)
 |_=>exact bN hr
theorem yF{op:CmpOp}{v r:V}{K:V->σ->Prop} (R:RS w J F m st fz s) (rv:RV w.params J.la fz v xv) (ru:RV w.params J.la fz u xu) (hr:rB op v u=some r) (h:K r st) (P:a8 w J F m fz K Q) :
   wpAny (model ae w) F.A (compareOp op xv xu) Q E s:=by
 cases op with
 |Is =>
   obtain⟨qq,hu,hr⟩:=aC (o:=isNone u) hr
   obtain⟨b,hb,rfl⟩:=cp (o:=ya v) hr
   obtain rfl:=dL hu
   obtain rfl:=ru.view
   rcases uI hb with⟨rfl,rfl⟩|⟨c,rfl,rfl⟩
   . obtain rfl:=rv.view;exact is_none (P _ _ _ _ _ h ag R (.bool _))
   . obtain⟨qq,rfl,c⟩:=rv.view;exact is_none (P _ _ _ _ _ h ag R (.bool _))
 |Eq =>
   obtain⟨x,hx,hr⟩:=aC hr
   obtain⟨y,hy,rfl⟩:=cp hr
   obtain⟨qq,rfl⟩:=rv.strO hx
   obtain⟨qq,rfl⟩:=ru.strO hy
   exact eq_str (P _ _ _ _ _ h ag R (gY x y▸ .bool _))
 |NotEq =>
   obtain⟨x,hx,hr⟩:=aC hr
   obtain⟨y,hy,rfl⟩:=cp hr
   obtain⟨qq,rfl⟩:=rv.strO hx
   obtain⟨qq,rfl⟩:=ru.strO hy
   exact ne_str (P _ _ _ _ _ h ag R (show RV _ _ _ (.bool (!bU x y)) (.bool (!(x == y))) from gY x y▸ .bool _))
 |In =>
   obtain⟨x,hx,hr⟩:=aC hr
   obtain⟨c,hc,hr⟩:=aC hr
   obtain⟨y,hy,rfl⟩:=cp hr
   obtain⟨qq,rfl⟩:=rv.strO hx
   obtain⟨qq,rfl⟩:=ru.strO hy
   obtain rfl:=A4 hc
   exact in_str (P _ _ _ _ _ h ag R (tK c y▸ .bool _))
 |_=>exact bN hr
theorem oA{v:V}{a:Nat}{f:WY} (h:D9 own v a=some f):(v= .self/\∃g,Al a=some g/\f= .ref g)\/(own=true/\∃k g,v= .own k/\QS.lookup a=some g/\f= .builtin g):=by
 cases v with
 |self=>exact .inl ⟨rfl,(cp (o:=Al a) h).imp fun qq e=>⟨e.1,e.2.symm⟩⟩
 |own k =>
   rcases own with qq|qq
   . exact bN h
   . exact .inr ⟨rfl,k,(cp (o:=QS.lookup a) h).imp fun qq e=>⟨rfl,e.1,e.2.symm⟩⟩
 |_=>exact bN h
theorem v7{g:WY} (h:zA g=true):(∃b,g= .builtin b)\/g= .ref 47\/g= .ref 156:=by
 cases g with
 |builtin b=>exact .inl ⟨b,rfl⟩
 |ref a=>exact .inr ((Bool.or_eq_true_iff.mp h).imp (fun h=>congrArg _ (X2 h)) fun h=>congrArg _ (X2 h))
 |_=>exact ly h
theorem eX(JO:bZ J) (LJ:gc J)
   (hown:own=true->∀F m st fz s k a,RS w J F m st fz s->J.la.own k=some a->∃news its nn,News F.Up F.L s.heap news/\(a,W0 its nn)∈news)
   (htO:∀F m st fz s k a b A Q E,RS w J F m st fz s->J.la.own k=some a->tO k st=some b->(∀t,Q b {s with toks:=t})->wpAny (model ae w) A (truthy (.ref a)) Q E s)
   (hc:aW w J n c)
   (hsb:∀F m st fz s v xv i xi r value slice K Q E,aa w F->aU F.A n->RS w J F m st fz s->RV w.params J.la fz v xv->RV w.params J.la fz i xi->ft slice=false->sb v i st=some r->K r st->a8 w J F m fz K Q ->
     wpAny (model ae w) F.A (subscriptTail value slice xv xi) Q E s):aI w J (oO own tO c sb) n where
 jok:=JO
 glob i x v h:=Cl h
 attr F m st fz s v xv a K Q E FO LV R rv h P:=(ac h).elim fun u hu=>tz JO LJ FO R rv hu.1 hu.2 P
 meth F m st fz s v xv a f pl Q E FO LV R rv h hq:=by
   rcases oA h with⟨rfl,g,hg,rfl⟩|⟨ho,k,g,rfl,hg,rfl⟩
   . obtain rfl:=rv.view;exact vZ LJ FO R hg (hq _ R)
   . obtain⟨b,rfl,ha⟩:=rv.view
     obtain⟨news,its,nn,N,hm⟩:=hown ho F m st fz s _ _ R ha
     exact a6 (M:=fun a g=>Q (.builtin g,[.ref b]) s->wpAny (model ae w) F.A (getMethod (.ref b) (AN a) pl) Q E s) hg
       ⟨kl_method N hm PySem.F.slot_list_append PySem.F.type_list_append,kl_method N hm PySem.F.slot_list_pop PySem.F.type_list_pop,kl_method N hm PySem.F.slot_list_insert PySem.F.type_list_insert,kl_method N hm PySem.F.slot_list_clear PySem.F.type_list_clear,trivial⟩ (hq _ R)
 methK v a f h hh X:=by
   rcases oA h with⟨rfl,g,hg,rfl⟩|⟨ho,k,g,rfl,hg,rfl⟩
   . exact keeps_K (AJ (cF hg)) hh X
   . exact aB _ _ _
 keep F m st fz s v xv FO R rv h:=by
   have h':(match lm v with|some g=>zA g|none=>false)=true:=h
   rcases hr:lm v with qq|g
   . rw[hr] at h';exact ly h'
   ·
     rw[hr] at h'
     obtain rfl:=fx hr
     obtain rfl:=rv.view
     rcases v7 h' with⟨b,rfl⟩|rfl|rfl
     . exact aB _ _ _
     . exact keeps_K (Mg _) _ (FO.G.X.keeps R.fr.keep)
     . exact keeps_K (wH _) _ (FO.G.X.keeps R.fr.keep)
 call F m st fz s f xf vs xs kw xk K X Q E FO LV R rf rvs rk h P PE:=(ac h).elim fun g hg=>by
   obtain rfl:=fx hg.1
   obtain rfl:=rf.view
   exact hc.ok _ _ _ _ _ _ _ _ _ _ _ _ _ _ FO LV R rvs rk hg.2 P PE
 truth F m st fz s v xv K Q E FO LV R rv h P:=by
   have h':(match ownO v with|some k=>opt (tO k st) fun b=>K b st|none=>opt (fi v) fun b=>K b st):=h
   rcases hv:ownO v with qq|k
   ·
     rw[hv] at h'
     exact(ac h').elim fun b hb=>oM FO R rv hb.1 hb.2 P
   ·
     rw[hv] at h'
     obtain⟨a,rfl,ha⟩:=rv.ownO hv
     exact(ac h').elim fun b hb=>htO _ _ _ _ _ _ _ _ _ _ _ R ha hb.1 fun t=>P _ _ _ _ hb.2 ag (R.toks t)
 bin F m st fz s op v xv u xu K Q E FO LV R rv ru h P:=(ac h).elim fun r hr=>FK R rv ru hr.1 hr.2 P
 iop F m st fz s op v xv u xu K Q E FO LV R rv ru h P:=h.elim
 cmp F m st fz s op v xv u xu K Q E FO LV R rv ru h P:=(ac h).elim fun r hr=>yF R rv ru hr.1 hr.2 P
 sub F m st fz s v xv i xi value slice K X Q E FO LV R rv ri hs h P PE:=(ac h).elim fun r hr=>hsb _ _ _ _ _ _ _ _ _ _ _ _ _ _ _ FO LV R rv ri hs hr.1 hr.2 P
 slc F m st fz s v xv lo xlo hi xhi value l u p a K Q E FO LV R rv rl rh hm h P:=h.elim
 lst F m st fz s vs xs K Q E FO LV R rvs h P :=
   wpAny_newList (P _ _ _ _ _ h.2 (a5 _) (R.alloc JO rfl s.toks) (.lst (n:=0) (.head _) (rvs.mono (a5 _)))) (rvs.length▸pz (WZ h.1 (by decide)))
end
end
section
noncomputable def K8(fd:FuncData):Nat->List Str->List Arg
 |_,[]=>[]
 |i,n::r=>⟨n,(fd.params.args.getD i ⟨"",none,default⟩).annotation,(fd.params.args.getD i ⟨"",none,default⟩).pos⟩::K8 fd (i+1) r
noncomputable abbrev uo(fd:FuncData) (ns:List Str):Arguments:=⟨[],K8 fd 0 ns,none,[],fd.params.kw_defaults,none,fd.params.defaults⟩
noncomputable abbrev dK(fd:FuncData) (ns:List Str):Prop:=fd.params=uo fd ns
theorem dK.bnd{fd:FuncData} (h:dK fd ns) (k:lB s {fd with params:=uo fd ns} args binds):lB s fd args binds :=
 (congrArg (fun p=>lB s {fd with params:=p} args binds) h).mpr k
theorem tN{fd:FuncData} (h:dK fd ["self", "eof"]) {T:W3}{d:WY} (hd:fd.defaults= .ref T) (hT:s.heap.get? T=some o) (ho:o.data= .seq #[d] k) (a:WY) :
   lB s fd ⟨[a],[]⟩ [("self",a),("eof",d)]:=h.bnd ⟨BindsTo.of_defaults (fd:={fd with params:=uo fd _}) hd hT ho rfl rfl⟩
theorem Av{fd:FuncData} (h:dK fd ["self", "eof"]) {T:W3}{d:WY} (hd:fd.defaults= .ref T) (hT:s.heap.get? T=some o) (ho:o.data= .seq #[d] k) (a b:WY) :
   lB s fd ⟨[a],[("eof",b)]⟩ [("self",a),("eof",b)]:=h.bnd ⟨BindsTo.of_defaults (fd:={fd with params:=uo fd _}) hd hT ho rfl rfl⟩
section
noncomputable def qm:Nat->Hd σ:=fun qq qq qq qq qq qq=>False
noncomputable def cD(i:Nat) (h:Hd σ) (t:Nat->Hd σ):Nat->Hd σ:=fun n=>match Nat.beq n i with|true=>h|false=>t n
noncomputable def Jg(kw:List (Nat×V)):Option Unit:=match kw with|[]=>some ()|_=>none
noncomputable def GX:List V->Option V
 |[x]=>some x
 |_=>none
noncomputable def FP:List V->Option (V×V)
 |[x,y]=>some (x,y)
 |_=>none
noncomputable def Oa:List V->Option (V×V×V)
 |[x,y,z]=>some (x,y,z)
 |_=>none
noncomputable def h1(f:V->σ->(V->σ->Prop)->(bE->σ->Prop)->Prop):Hd σ:=fun vs kw st K X=>opt (Jg kw) fun qq=>opt (GX vs) fun x=>f x st K X
noncomputable def h2(f:V->V->σ->(V->σ->Prop)->(bE->σ->Prop)->Prop):Hd σ:=fun vs kw st K X=>opt (Jg kw) fun qq=>opt (FP vs) fun p=>f p.1 p.2 st K X
noncomputable def h3(f:V->V->V->σ->(V->σ->Prop)->(bE->σ->Prop)->Prop):Hd σ:=fun vs kw st K X=>opt (Jg kw) fun qq=>opt (Oa vs) fun p=>f p.1 p.2.1 p.2.2 st K X
noncomputable def tQ:V->Option Unit
 |.self=>some ()
 |_=>none
noncomputable def yA:V->Option Unit
 |.gen=>some ()
 |_=>none
theorem kP{v:V}{x:Unit} (h:tQ v=some x):v= .self:=db (f:=fun qq=>V.self) (d:=()) (by cases v<;>first|exact .inl rfl|exact .inr rfl) h
theorem uf{v:V}{x:Unit} (h:yA v=some x):v= .gen:=db (f:=fun qq=>V.gen) (d:=()) (by cases v<;>first|exact .inl rfl|exact .inr rfl) h
noncomputable def s1(f:σ->(V->σ->Prop)->(bE->σ->Prop)->Prop):Hd σ:=h1 fun x st K X=>opt (tQ x) fun qq=>f st K X
noncomputable def s2(f:V->σ->(V->σ->Prop)->(bE->σ->Prop)->Prop):Hd σ:=h2 fun x y st K X=>opt (tQ x) fun qq=>f y st K X
noncomputable def sS(f:Str->σ->(V->σ->Prop)->(bE->σ->Prop)->Prop):Hd σ:=s2 fun y st K X=>opt (strO y) fun x=>f x st K X
variable {J:cu σ}{vs:List V}{kw:List (Nat×V)}{xs:List WY}{xk:List (Str×WY)}{K:V->σ->Prop}{X:bE->σ->Prop}
theorem wg.nil_eq(h:wg P la fz [] xk):xk=[]:=by
 obtain⟨ks,rfl,qq⟩:=h;rfl
theorem kv{u:Unit} (h:Jg kw=some u):kw=[]:=by
 rcases kw with qq|⟨qq,qq⟩
 . rfl
 . exact bN h
theorem aL.uncons0(r:aL P la fz [] xs):xs=[]:=aL.ind (M:=fun l vs=>match l with|[]=>vs=[]|_=>True) rfl (fun qq qq qq=>trivial) r
theorem aL.one{x:V} (h:aL P la fz [x] xs):∃v,xs=[v]/\RV P la fz x v:=h.uncons.casesOn fun v vs a b=>⟨v,congrArg _ b.uncons0,a⟩
inductive D8(P:W1) (la:LA) (fz:ad) (x y:V):List WY->Prop
 |mk (v u:WY):RV P la fz x v->RV P la fz y u->D8 P la fz x y [v,u]
theorem aL.two{x y:V} (h:aL P la fz [x,y] xs):D8 P la fz x y xs:=h.uncons.casesOn fun v vs a b=>b.one.elim fun u e=>e.1▸⟨v,u,a,e.2⟩
inductive sP(P:W1) (la:LA) (fz:ad) (x y z:V):List WY->Prop
 |mk (v u t:WY):RV P la fz x v->RV P la fz y u->RV P la fz z t->sP P la fz x y z [v,u,t]
theorem aL.three{x y z:V} (h:aL P la fz [x,y,z] xs):sP P la fz x y z xs:=h.uncons.casesOn fun v vs a b=>b.two.casesOn fun u t c d=>⟨v,u,t,a,c,d⟩
theorem uc{x:V} (h:GX vs=some x):vs=[x]:=by
 match vs,h with
 |[],h=>exact bN h
 |[_],h=>cases h;rfl
 |_::_::_,h=>exact bN h
theorem tu{p:V×V} (h:FP vs=some p):vs=[p.1,p.2]:=by
 match vs,h with
 |[],h=>exact bN h
 |[_],h=>exact bN h
 |[_,_],h=>cases h;rfl
 |_::_::_::_,h=>exact bN h
theorem C0{p:V×V×V} (h:Oa vs=some p):vs=[p.1,p.2.1,p.2.2]:=by
 match vs,h with
 |[],h=>exact bN h
 |[_],h=>exact bN h
 |[_,_],h=>exact bN h
 |[_,_,_],h=>cases h;rfl
 |_::_::_::_::_,h=>exact bN h
theorem ki{f:V->σ->(V->σ->Prop)->(bE->σ->Prop)->Prop} (h:h1 f vs kw st K X) (r:aL P la fz vs xs) (k:wg P la fz kw xk):∃x v,xs=[v]/\xk=[]/\RV P la fz x v/\f x st K X:=by
 obtain⟨u,e,h⟩:=ac h
 obtain⟨x,e',h⟩:=ac h
 obtain rfl:=kv e;obtain rfl:=uc e'
 obtain⟨v,rfl,a⟩:=r.one
 exact⟨x,v,rfl,k.nil_eq,a,h⟩
inductive Mn(P:W1) (la:LA) (fz:ad) (f:V->V->σ->(V->σ->Prop)->(bE->σ->Prop)->Prop) (st:σ) (K:V->σ->Prop) (X:bE->σ->Prop):List WY->List (Str×WY)->Prop
 |mk (x y:V) (v u:WY):RV P la fz x v->RV P la fz y u->f x y st K X->Mn P la fz f st K X [v,u] []
theorem iV{f:V->V->σ->(V->σ->Prop)->(bE->σ->Prop)->Prop} (h:h2 f vs kw st K X) (r:aL P la fz vs xs) (k:wg P la fz kw xk):Mn P la fz f st K X xs xk:=by
 obtain⟨u,e,h⟩:=ac h
 obtain⟨x,e',h⟩:=ac h
 obtain rfl:=kv e;obtain rfl:=tu e';obtain rfl:=k.nil_eq
 exact r.two.casesOn fun v u a b=>⟨_,_,v,u,a,b,h⟩
inductive Mh(P:W1) (la:LA) (fz:ad) (f:V->V->V->σ->(V->σ->Prop)->(bE->σ->Prop)->Prop) (st:σ) (K:V->σ->Prop) (X:bE->σ->Prop):List WY->List (Str×WY)->Prop
 |mk (x y z:V) (v u t:WY):RV P la fz x v->RV P la fz y u->RV P la fz z t->f x y z st K X->Mh P la fz f st K X [v,u,t] []
theorem rW{f:V->V->V->σ->(V->σ->Prop)->(bE->σ->Prop)->Prop} (h:h3 f vs kw st K X) (r:aL P la fz vs xs) (k:wg P la fz kw xk):Mh P la fz f st K X xs xk:=by
 obtain⟨u,e,h⟩:=ac h
 obtain⟨x,e',h⟩:=ac h
 obtain rfl:=kv e;obtain rfl:=C0 e';obtain rfl:=k.nil_eq
 exact r.three.casesOn fun v u t a b c=>⟨_,_,_,v,u,t,a,b,c,h⟩
theorem rj{f:σ->(V->σ->Prop)->(bE->σ->Prop)->Prop} (h:s1 f vs kw st K X) (r:aL P la fz vs xs) (k:wg P la fz kw xk):xs=[.ref la.lx]/\xk=[]/\f st K X:=by
 obtain⟨x,v,rfl,rfl,a,h⟩:=ki h r k
 obtain⟨u,e,h⟩:=ac h
 obtain rfl:=kP e
 exact⟨congrArg (fun v=>[v]) a.view,rfl,h⟩
inductive Mv(P:W1) (la:LA) (fz:ad) (f:V->σ->(V->σ->Prop)->(bE->σ->Prop)->Prop) (st:σ) (K:V->σ->Prop) (X:bE->σ->Prop):List WY->List (Str×WY)->Prop
 |mk (y:V) (u:WY):RV P la fz y u->f y st K X->Mv P la fz f st K X [.ref la.lx,u] []
theorem rn{f:V->σ->(V->σ->Prop)->(bE->σ->Prop)->Prop} (h:s2 f vs kw st K X) (r:aL P la fz vs xs) (k:wg P la fz kw xk):Mv P la fz f st K X xs xk :=
 (iV h r k).casesOn fun x y v u a b h=>(ac h).elim fun qq e=>by
   obtain rfl:=kP e.1;obtain rfl:=a.view;exact⟨y,u,b,e.2⟩
inductive Ox(P:W1) (la:LA) (fz:ad) (f:Str->σ->(V->σ->Prop)->(bE->σ->Prop)->Prop) (st:σ) (K:V->σ->Prop) (X:bE->σ->Prop):List WY->List (Str×WY)->Prop
 |mk (y:Str) (u:WY):RV P la fz (.str y) u->f y st K X->Ox P la fz f st K X [.ref la.lx,u] []
theorem w7{f:Str->σ->(V->σ->Prop)->(bE->σ->Prop)->Prop} (h:sS f vs kw st K X) (r:aL P la fz vs xs) (k:wg P la fz kw xk):Ox P la fz f st K X xs xk :=
 (rn h r k).casesOn fun y u b h=>(ac h).elim fun x e=>by
   obtain rfl:=ek e.1;exact⟨x,u,b,e.2⟩
theorem tq{s:String} (h:MZ s=i) (k:i≠0):PN[i - 1]?=some s:=by
 subst h
 unfold MZ at k ⊢
 by_cases h1:s = "list.append"
 . rw[if_pos h1,h1];rfl
 by_cases h2:s = "list.pop"
 . rw[if_neg h1,if_pos h2,h2];rfl
 by_cases h3:s = "list.insert"
 . rw[if_neg h1,if_neg h2,if_pos h3,h3];rfl
 by_cases h4:s = "list.clear"
 . rw[if_neg h1,if_neg h2,if_neg h3,if_pos h4,h4];rfl
 rw[if_neg h1,if_neg h2,if_neg h3,if_neg h4] at k ⊢
 by_cases h5:s = "next"
 . rw[if_pos h5,h5];rfl
 by_cases h6:s = "sum"
 . rw[if_neg h5,if_pos h6,h6];rfl
 by_cases h7:s = "len"
 . rw[if_neg h5,if_neg h6,if_pos h7,h7];rfl
 rw[if_neg h5,if_neg h6,if_neg h7] at k ⊢
 by_cases h8:s = "str.split"
 . rw[if_pos h8,h8];rfl
 by_cases h9:s = "str.find"
 . rw[if_neg h8,if_pos h9,h9];rfl
 by_cases h10:s = "str.join"
 . rw[if_neg h8,if_neg h9,if_pos h10,h10];rfl
 . rw[if_neg h8,if_neg h9,if_neg h10] at k;exact absurd rfl k
theorem s8{a:Nat} (h:wj v=a+100):v= .ref a:=by
 cases v with
 |ref b=>exact congrArg _ (Nat.add_right_cancel h)
 |builtin s=>exact bN (tq (show MZ s=a+100 from h) (Nat.succ_ne_zero _))
 |_=>exact absurd h (Nat.succ_ne_zero _).symm
theorem HN{b:String} (h:wj v=i+1) (k:PN[i]?=some b):v= .builtin b:=by
 cases v with
 |ref a =>
   exfalso
   have hi:i<10:=(List.getElem?_eq_some_iff.mp k).1
   have h':i=a+99:=Nat.succ.inj h.symm
   exact absurd (Xi (Nat.le_add_left 99 a) (h'▸hi)) (by decide)
 |builtin s=>exact congrArg _ (XE ((tq (show MZ s=i+1 from h) (Nat.succ_ne_zero _)).symm.trans k))
 |_=>exact absurd h (Nat.succ_ne_zero _).symm
theorem aW.nil:aW w J n qm:=⟨fun qq qq qq qq qq qq qq qq qq qq qq qq qq qq qq qq qq qq qq h=>h.elim⟩
theorem aW.add{g:WY}{h:Hd σ}{t:Nat->Hd σ} (hg:∀xf,wj xf=i->xf=g) (he:cw w J n g h) (ht:aW w J n t):aW w J n (cD i h t):=⟨fun F m st fz s xf vs xs kw xk K X Q E FO LV R rvs rk hh P PE=>by
 have hh':(match Nat.beq (wj xf) i with|true=>h|false=>t (wj xf)) vs kw st K X:=hh
 cases hb:Nat.beq (wj xf) i with
 |true =>
   rw[hb] at hh'
   obtain rfl:=hg xf (X2 hb)
   exact he F m st fz s vs xs kw xk K X Q E FO LV R rvs rk hh' P PE
 |false =>
   rw[hb] at hh'
   exact ht.ok F m st fz s xf vs xs kw xk K X Q E FO LV R rvs rk hh' P PE⟩
theorem aW.ref{h:Hd σ}{t:Nat->Hd σ} (he:cw w J n (.ref a) h) (ht:aW w J n t):aW w J n (cD (a+100) h t):= .add (fun qq e=>s8 e) he ht
theorem aW.bn(i:Nat) {b:String}{h:Hd σ}{t:Nat->Hd σ} (k:PN[i]?=some b) (he:cw w J n (.builtin b) h) (ht:aW w J n t):aW w J n (cD (i+1) h t):= .add (fun qq e=>HN e k) he ht
theorem aU.le{m:Nat} (h:aU A n) (k:m<=n):aU A m:=⟨h.hd,WZ (XB k _) h.depth,WZ (XB (Nat.mul_le_mul_left _ k) _) h.units⟩
end
noncomputable def ye(f:List V->(List V->L0)->(V->L0->Prop)->Prop) (x:V) (st:L0) (K:V->L0->Prop):Prop:=opt (ownO x) fun k=>opt (st.get k) fun xs=>f xs (st.put k) K
noncomputable def xe:List V->Option (V×List V)
 |x::xs=>some (x,xs)
 |_=>none
noncomputable def MO:Hd L0:=h2 fun o x st K qq=>ye (fun xs p K=>xs.length<=100000/\K .none (p (xs++[x]))) o st K
noncomputable def LC:Hd L0:=h2 fun o x st K qq=>ye (fun l p K=>opt (intO x) fun i=>if i=0 then opt (xe l) fun c=>c.2.length<=100000/\K c.1 (p c.2) else if i= -1 then ∃xs x,l=xs++[x]/\xs.length<=100000/\K x (p xs) else False) o st K
noncomputable def Jt:Hd L0:=h3 fun o i x st K qq=>ye (fun xs p K=>opt (intO i) fun i=>i=0/\xs.length<=100000/\K .none (p (x::xs))) o st K
noncomputable def Ml:Hd L0:=h1 fun o st K qq=>ye (fun xs p K=>xs.length<=100000/\K .none (p [])) o st K
noncomputable def sI(st:L0) (K:V->L0->Prop):Prop:=match st.rest with|[]=>K .none st|c::r=>K (.chr c) {st with rest:=r}
noncomputable def NX:Hd L0:=h2 fun g n st K qq=>opt (yA g) fun qq=>opt (isNone n) fun qq=>sI st K
noncomputable def ww:Nat->Hd L0:=cD 1 MO (cD 2 LC (cD 3 Jt (cD 4 Ml (cD 5 NX qm))))
structure kU(w:Xj) (la:LA) (S:bR):Prop where
 ok:∀F m st fz s K Q E,aa w F->aU F.A 20->RS w (J0 w.params la S) F m st fz s->sI st K ->
   a8 w (J0 w.params la S) F m fz K Q->wpAny (model ae w) F.A (call (.builtin "next") [.ref la.ga,.none] []) Q E s
section
theorem il{f:List V->(List V->L0)->(V->L0->Prop)->Prop}{x:V}{st:L0}{K:V->L0->Prop} (h:ye f x st K) (r:RV P la fz x v):∃a k xs,v= .ref a/\la.own k=some a/\st.get k=some xs/\f xs (st.put k) K:=by
 obtain⟨k,e,h⟩:=ac h
 obtain⟨xs,e',h⟩:=ac h
 obtain⟨a,ha,hb⟩:=r.ownO e
 exact⟨a,k,xs,ha,hb,e',h⟩
theorem oG{l:List V}{c:V×List V} (h:xe l=some c):l=c.1::c.2:=by
 rcases l with qq|⟨qq,qq⟩
 . exact bN h
 . cases h;rfl
theorem Cx:cw w (J0 w.params la S) n (.builtin "list.append") MO:=fun F m st fz s vs xs kw xk K X Q E FO LV R rvs rk h P PE=>(iV h rvs rk).casesOn fun o x v u ro rx h=>by
 obtain⟨a,k,l,rfl,ha,hk,h⟩:=il h ro
 exact own_append R hk ha rx h.1 fun s' R'=>P _ _ _ _ _ h.2 ag R' .none
theorem Do:cw w (J0 w.params la S) n (.builtin "list.pop") LC:=fun F m st fz s vs xs kw xk K X Q E FO LV R rvs rk h P PE=>(iV h rvs rk).casesOn fun o x v u ro rx h=>by
 obtain⟨a,k,l,rfl,ha,hk,h⟩:=il h ro
 obtain⟨i,hi,h⟩:=ac h
 obtain⟨t,rfl⟩:=rx.intO hi
 by_cases h0:i=0
 . rw[if_pos h0] at h
   obtain⟨c,hc,h⟩:=ac h
   obtain rfl:=oG hc
   obtain rfl:=h0
   exact wU R hk ha h.1 fun v s' rv R'=>P _ _ _ _ _ h.2 ag R' rv
 rw[if_neg h0] at h
 by_cases h1:i= -1
 . rw[if_pos h1] at h
   obtain⟨ys,y,rfl,z1,z2⟩:=h
   obtain rfl:=h1
   exact xE R hk ha z1 fun v s' rv R'=>P _ _ _ _ _ z2 ag R' rv
 . rw[if_neg h1] at h;exact h.elim
theorem CQ:cw w (J0 w.params la S) n (.builtin "list.insert") Jt:=fun F m st fz s vs xs kw xk K X Q E FO LV R rvs rk h P PE=>(rW h rvs rk).casesOn fun o i x v u t ro ri rx h=>by
 obtain⟨a,k,l,rfl,ha,hk,h⟩:=il h ro
 obtain⟨j,hj,rfl,h⟩:=ac h
 obtain⟨t,rfl⟩:=ri.intO hj
 exact pW R hk ha rx h.1 fun s' R'=>P _ _ _ _ _ h.2 ag R' .none
theorem Cp:cw w (J0 w.params la S) n (.builtin "list.clear") Ml:=fun F m st fz s vs xs kw xk K X Q E FO LV R rvs rk h P PE=>by
 obtain⟨x,v,rfl,rfl,ro,h⟩:=ki h rvs rk
 obtain⟨a,k,l,rfl,ha,hk,h⟩:=il h ro
 exact vE R hk ha h.1 fun s' R'=>P _ _ _ _ _ h.2 ag R' .none
theorem Bg(NO:kU w la S) (hn:20<=n):cw w (J0 w.params la S) n (.builtin "next") NX:=fun F m st fz s vs xs kw xk K X Q E FO LV R rvs rk h P PE=>(iV h rvs rk).casesOn fun o x v u ro rx h=>by
 obtain⟨qq,e,h⟩:=ac h
 obtain⟨qq,e',h⟩:=ac h
 obtain rfl:=uf e;obtain rfl:=dL e';obtain rfl:=ro.view;obtain rfl:=rx.view
 exact NO.ok F m st fz s K Q E FO (LV.le hn) R h P
theorem di(NO:kU w la S) (hn:20<=n):aW w (J0 w.params la S) n ww:= .bn 0 rfl Cx (.bn 1 rfl Do (.bn 2 rfl CQ (.bn 3 rfl Cp (.bn 4 rfl (Bg NO hn) .nil))))
end
noncomputable def OZ(k:Nat) (st:L0):Option Bool:=(st.get k).bind fun xs=>if xs.length<=100000 then some (!xs.isEmpty) else none
theorem DF{st:L0} (hm:la.more=fun qq=>none) (h:la.own k=some a):∃xs,st.get k=some xs:=by
 match k,h with
 |0,_=>exact⟨_,rfl⟩
 |1,_=>exact⟨_,rfl⟩
 |2,_=>exact⟨_,rfl⟩
 |k+3,h=>exact bN ((congrFun hm k).symm.trans h)
noncomputable def TZ(v i:V) (st:L0):Option V:=(ownO v).bind fun k=>(intO i).bind fun j=>if j=0 then(st.get k).bind fun l=>(xe l).map (·.1) else none
theorem cI{slice:W5} (h:ft slice=false) (o i:WY):subscripted slice false o i=operate [o,i] (getItem o i):=by
 cases slice<;>first|rfl|exact ly h.symm
theorem wP{value slice:W5} (hs:ft slice=false) {l:W3}{items:Array WY}{k:Int}{u:Tok}{x:WY} (hl:s.heap.IsList l items)
   (h0:0<=k) (hfit:k<2 ^ 63) (hx:items[k.toNat]?=some x) (h:Q x s):wpAny (model ae w) A (subscriptTail value slice (.ref l) (.int k u)) Q E s :=
 subscriptTail_builtinR hl.typeIs PySem.slot_list_getitem.lookup (wpAny_getItem_list hl h0 hfit hx ⟨rfl,h⟩) (cI hs _ _)
noncomputable abbrev Qu(own:Bool) (c:Nat->Hd L0):lz L0:=oO own OZ c TZ
theorem em(SO:eL S) {c:Nat->Hd L0} (hla:la.more=fun qq=>none) (hc:aW w (J0 w.params la S) n c):aI w (J0 w.params la S) (Qu true c) n :=
 eX (jY SO) Bp (fun qq F m st fz s k a R ha=>by
   obtain⟨xs,hk⟩:=DF (st:=st) hla ha
   refine(cm R hk ha) _ ?_;rintro pre post vs nn r N qq qq
   exact⟨_,_,_,N,aD⟩)
   (fun F m st fz s k a b A Q E R ha hb h=>by
     obtain⟨xs,hk,hb⟩:=aC hb
     obtain⟨hz,rfl⟩:=iL hb
     exact mr R hk ha hz (h _)) hc (fun F m st fz s v xv i xi r value slice K Q E FO LV R rv ri hs hb hk P=>by
     obtain⟨k,hv,hb⟩:=aC hb
     obtain⟨j,hj,hb⟩:=aC hb
     obtain⟨a,rfl,ha⟩:=rv.ownO hv
     obtain⟨t,rfl⟩:=ri.intO hj
     by_cases h0:j=0
     . rw[if_pos h0] at hb
       obtain⟨l,hg,hb⟩:=aC hb
       obtain⟨c,hc,rfl⟩:=cp hb
       obtain rfl:=oG hc
       obtain rfl:=h0
       refine(cm R hg ha) _ ?_;rintro pre post vs nn rr N qq qq
       cases rr.uncons with|mk v us r1 r2 =>
       exact wP hs ⟨_,(N _ aD).1,rfl,nn,rfl⟩ (by decide) (by decide) rfl (P _ _ _ _ _ hk ag R r1)
     . rw[if_neg h0] at hb;exact bN hb)
end
section
structure LS where
 a:List V
 c:List Ch
 r:List Ch
noncomputable def LS.room(s:LS):Prop:=s.a.length+s.c.length+s.r.length<=90000
noncomputable def I1(P:W1) (la:LA) (S:bR) (st:LS) (mu fz:ad) (g:Array Xf):Prop:=∀qC:Prop,(∀(b rest:List Ch),I0 P la S ⟨st.a,b.map .chr,st.c.reverse.map .chr,rest⟩ mu fz g->st.r=b++rest->st.room->qC)->qC
noncomputable abbrev J1(P:W1) (la:LA) (S:bR):cu LS:=bC la (I1 P la S)
theorem ef(SO:eL S):bZ (J1 P la S) where
 mono:=fun qq mu fz fz' g h k=>h _ fun b rest h e z=>(fun qq qk=>qk b rest ((jY (P:=P) (la:=la) SO).mono _ mu fz fz' g h k) e z)
theorem sh:gc (J1 P la S):=⟨fun qq qq qq qq h=>h _ fun qq qq h qq qq=>Bp.lex _ _ _ _ h⟩
section
noncomputable def GM(w:Xj) (la:LA) (S:bR) (F:Fm) (m:Str->Option WY) (ls:LS) (fz:ad) (s:W2):Prop:=∀qC:Prop,(∀(b rest:List Ch),RS w (J0 w.params la S) F m ⟨ls.a,b.map .chr,ls.c.reverse.map .chr,rest⟩ fz s->ls.r=b++rest->ls.room->qC)->qC
theorem RS.down{ls:LS} (R:RS w (J1 w.params la S) F m ls fz s):GM w la S F m ls fz s:=by
 obtain⟨mu,qi,N,nd⟩:=R.led;refine qi _ ?_;rintro b rest h e z
 exact(fun qq qk=>qk b rest ⟨R.fr,⟨mu,h,N,nd⟩,R.os,R.dr,R.lo⟩ e z)
theorem RS.lift{a:List V}{b c:List Ch} (R:RS w (J0 w.params la S) F m ⟨a,b.map .chr,c.reverse.map .chr,rest⟩ fz s) (z:(LS.mk a c (b++rest)).room):RS w (J1 w.params la S) F m ⟨a,c,b++rest⟩ fz s:=by
 obtain⟨mu,h,N,nd⟩:=R.led
 exact⟨R.fr,⟨mu,(fun qq qk=>qk b rest h rfl z),N,nd⟩,R.os,R.dr,R.lo⟩
end
noncomputable def cL:List Str:=["self", "eof", "char"]
noncomputable def dC:Ts :=
   (.cons (.ite (.attr (.loc 0) 1) (.cons (.asg 2 (.mcall (.attr (.loc 0) 1) 41 (.cons (.k (.int 0)) .nil)))
   .nil) (.cons (.asg 2 (.call (.glob 0) (.cons (.attr (.loc 0) 4) (.cons (.k .none) .nil))))
   .nil))
   (.cons (.ite (.loc 2) (.cons (.exp (.mcall (.attr (.loc 0) 2) 40 (.cons (.loc 2) .nil)))
   .nil) .nil)
   (.cons (.ite (.tand (.tnot (.loc 1)) (.cmp .Is (.loc 2) (.k .none))) (.cons (.exp (.mcall (.loc 0) 37 (.cons (.k (.str "Expected a character, but at end of file")) .nil)))
   .nil) .nil)
   (.cons (.ret (.loc 2))
   .nil))))
noncomputable def cE:List Str:=["self", "char"]
noncomputable def dQ:Ts :=
   (.cons (.ite (.loc 1) (.cons (.exp (.mcall (.attr (.loc 0) 2) 41 (.cons (.neg 1) .nil)))
   (.cons (.exp (.mcall (.attr (.loc 0) 1) 42 (.cons (.k (.int 0)) (.cons (.loc 1) .nil))))
   .nil)) .nil)
   .nil)
noncomputable def iT:List Str:=["self"]
noncomputable def lY:Ts :=
   (.cons (.exp (.mcall (.attr (.loc 0) 2) 43 .nil))
   .nil)
theorem wD(P:W1):bl P 216:=⟨by kernel_rfl,by kernel_rfl,by kernel_rfl⟩
theorem Er(P:W1):bl P 223:=⟨by kernel_rfl,by kernel_rfl,by kernel_rfl⟩
theorem LK(P:W1):bl P 237:=⟨by kernel_rfl,by kernel_rfl,by kernel_rfl⟩
theorem qU(P:W1):cq jL (ah P 216).scope cL dC (ay (ah P 216)):=⟨by kernel_rfl,by kernel_rfl⟩
theorem xZ(P:W1):cq jL (ah P 223).scope cE dQ (ay (ah P 223)):=⟨by kernel_rfl,by kernel_rfl⟩
theorem E1(P:W1):cq jL (ah P 237).scope iT lY (ay (ah P 237)):=⟨by kernel_rfl,by kernel_rfl⟩
theorem qz(P:W1):dK (ah P 216) ["self", "eof"]:=by kernel_rfl
theorem qG(P:W1):(ah P 216).defaults= .ref 209:=by kernel_rfl
theorem sB(P:W1):(KF P).lookup 209=some (rJ [.bool true] 0):=by kernel_rfl
theorem tU(P:W1) (a b:WY):X1 (ah P 223) ⟨[a,b],[]⟩=(pure [(W8 "self",a),(W8 "char",b)]:Sem (List (Str×WY))):=by kernel_rfl
theorem Cq(P:W1) (a:WY):X1 (ah P 237) ⟨[a],[]⟩=(pure [(W8 "self",a)]:Sem (List (Str×WY))):=by kernel_rfl
noncomputable def aA(sc:Scope) (ns:List Str):Bool:=ns.all fun n=>sc.names.lookup n == some .local
theorem rR(P:W1):aA (ah P 216).scope ["self", "eof"]=true:=by kernel_rfl
theorem yM(P:W1):aA (ah P 223).scope ["self", "char"]=true:=by kernel_rfl
theorem EU(P:W1):aA (ah P 237).scope ["self"]=true:=by kernel_rfl
theorem au(h:aA sc ns=true) {bs:List (Str×WY)} (e:bs.map (·.1)=ns):bs.all (fun y=>sc.names.lookup y.1 == some .local)=true:=by
 subst e
 exact List.all_map.symm.trans h
theorem on:cL.Nodup:=by decide +kernel
theorem mz:cE.Nodup:=by decide +kernel
theorem vf:iT.Nodup:=by decide +kernel
theorem dJ{us:List (Option V)} (hu:∀i,fS us i=none):Lc P la ns us m fz:=fun i qq qq qq hv=>bN ((hu i).symm.trans hv)
theorem Lc.cons{n:Str}{v:V}{a:WY}{us:List (Option V)} (h:Lc P la ns us m fz) (hm:m n=some a) (r:RV P la fz v a):Lc P la (n::ns) (some v::us) m fz
 |0,_,_,hi,hv=>by cases hi;cases hv;exact⟨a,hm,r⟩
 |i+1,k,u,hi,hv=>h i k u hi hv
theorem gu(n:Str) (a:WY) (l:List (Str×WY)):((n,a)::l).lookup n=some a:=by rw[List.lookup_cons,beq_self_eq_true]
theorem uO{n k:Str} (h:n≠k) (b:WY) (l:List (Str×WY)):((k,b)::l).lookup n=l.lookup n:=by rw[List.lookup_cons,beq_eq_false_iff_ne.mpr h]
theorem O8{n:Str}{v:V}{a:WY}{us:List (Option V)} (hu:∀i,fS us i=none) (ra:RV P la fz v a) :
   Lc P la (n::ns) (some v::us) (fun y=>[(n,a)].reverse.lookup y) fz:=(dJ hu).cons (gu n a []) ra
theorem y4{n k:Str}{v:V}{a b:WY}{us:List (Option V)} (hu:∀i,fS us i=none) (hk:n≠k) (ra:RV P la fz v a) (rb:RV P la fz u b) :
   Lc P la (n::k::ns) (some v::some u::us) (fun y=>[(n,a),(k,b)].reverse.lookup y) fz:=((dJ hu).cons (gu k b _) rb).cons ((uO hk _ _).trans (gu n a [])) ra
theorem bJ:∀(k i:Nat),fS (List.replicate k none) i=none
 |0,_=>rfl
 |_+1,0=>rfl
 |k+1,i+1=>bJ k i
structure Z0(w:Xj) (la:LA) (S:bR):Prop where
 SO:eL S
 NO:kU w la S
 more:la.more=fun qq=>none
 JL:f9 w (J0 w.params la S)
theorem qK{st:L0} (h:st.get k=some xs) (hz:xs.length<=100000):OZ k st=some (!xs.isEmpty):=by
 unfold OZ;rw[h];exact if_pos hz
theorem fX{o:Option α}{u:α}{K:α->Prop} (h:o=some u) (k:K u):opt o K:=h▸k
theorem fg(l:List Ch):(l.map V.chr).length=l.length:=XR ..
theorem gv(l:List Ch):(l.reverse.map V.chr).length=l.length:=(fg _).trans List.length_reverse
theorem iE{a:List V}{c b:List Ch} (z:(LS.mk a c (b++rest)).room):a.length+c.length+(b.length+rest.length)<=90000:=Xg (as:=b) (bs:=rest)▸z
theorem AE{a:List V}{c b:List Ch} (z:a.length+c.length+(b.length+rest.length)<=90000):(LS.mk a c (b++rest)).room:=(Xg (as:=b) (bs:=rest)▸z:_+(b++rest).length<=_)
theorem ic{a:List V}{c b:List Ch} (z:(LS.mk a c (b++rest)).room):c.length<=100000:=WZ (WZ (WZ (Nat.le_add_left _ _) (XL _ _)) (iE z)) (by decide)
theorem j6{a:List V}{c b:List Ch} (z:(LS.mk a c (b++rest)).room):b.length<=100000:=WZ (WZ (WZ (XL _ _) (Nat.le_add_left _ _)) (iE z)) (by decide)
theorem uv{a:List V}{c:List Ch} (z:(LS.mk a c r).room):(LS.mk a [] r).room:=WZ (XG (XB (Nat.zero_le _) _) _) z
theorem SS(a b c:Nat):a+b+(c+1)=a+(b+1)+c:=(Nat.succ_add (a+b) c).symm
theorem ux{a:List V}{c:Ch}{cs:List Ch} (z:(LS.mk a (c::cs) r).room):(LS.mk a cs (c::r)).room:=WZ (W9 (SS a.length cs.length r.length)) z
theorem mw{a:List V}{c:Ch}{cs:List Ch} (z:(LS.mk a cs (c::r)).room):(LS.mk a (c::cs) r).room:=WZ (W9 (SS a.length cs.length r.length).symm) z
section
variable {st:LS}
theorem pj(Z:Z0 w la S) (FO:aa w F) (LV:aU F.A 21) (R:RS w (J1 w.params la S) F m st fz s) {K:V->LS->Prop}
   (h:K .none {st with c:=[]}) (P:a8 w (J1 w.params la S) F m fz K Q):wpAny (model ae w) F.A (call (.ref 237) [.ref la.lx] []) Q E s:=by
 refine R.down _ ?_;rintro b rest R0 e z
 obtain⟨sa,sc,sr⟩:=st
 obtain rfl:sr=b++rest:=e
 exact fD (n:=20) (ns:=iT) (ir:=lY) (ρ:=[some .self]) (K:=fun v st'=>v= .none/\st'=⟨sa,b.map .chr,([]:List Ch).map .chr,rest⟩) (Ex:=fun qq qq=>False) (em Z.SO Z.more (di Z.NO (Xl _))) Z.JL FO LV (LK _)
   (.of_eq (Cq _ _)) (au (EU _) rfl) vf (E1 _) R0 (O8 (ns:=[]) (us:=[]) (fun qq=>rfl) .self)
   (show(sc.reverse.map V.chr).length<=100000/\_ from⟨gv sc▸ic z,rfl,rfl⟩)
   (fun v st' fz' s' xv e hf R' rv=>by
     obtain⟨rfl,rfl⟩:=e
     exact P _ _ _ _ _ h hf (R'.lift (b:=b) (c:=[]) (uv z)) rv) (fun qq qq qq qq qq hx=>hx.elim)
theorem oH(Z:Z0 w la S) (FO:aa w F) (LV:aU F.A 21) {c:Ch}{cs:List Ch}{a:List V}{xc:WY} (R:RS w (J1 w.params la S) F m ⟨a,c::cs,r⟩ fz s) (rc:RV w.params la fz (.chr c) xc) {K:V->LS->Prop}
   (h:K .none ⟨a,cs,c::r⟩) (P:a8 w (J1 w.params la S) F m fz K Q):wpAny (model ae w) F.A (call (.ref 223) [.ref la.lx,xc] []) Q E s:=by
 refine R.down _ ?_;rintro b rest R0 e z
 obtain rfl:r=b++rest:=e
 exact fD (n:=20) (ns:=cE) (ir:=dQ) (ρ:=[some .self,some (.chr c)]) (K:=fun v st'=>v= .none/\st'=⟨a,(c::b).map .chr,cs.reverse.map .chr,rest⟩) (Ex:=fun qq qq=>False) (em Z.SO Z.more (di Z.NO (Xl _))) Z.JL FO LV (Er _)
   (.of_eq (tU _ _ _)) (au (yM _) rfl) mz (xZ _) R0 (y4 (ns:=[]) (us:=[]) (fun qq=>rfl) (by decide +kernel) .self rc)
   (show ∃xs x,(c::cs).reverse.map V.chr=xs++[x]/\xs.length<=100000/\(0:Int)=0/\(b.map V.chr).length<=100000/\V.none=V.none/\(⟨a,.chr c::b.map .chr,xs,rest⟩:L0)=⟨a,(c::b).map .chr,cs.reverse.map .chr,rest⟩ from
     ⟨cs.reverse.map .chr,.chr c,(congrArg _ List.reverse_cons).trans XM,gv cs▸Nat.le_of_succ_le (ic z),rfl,fg b▸j6 z,rfl,rfl⟩)
   (fun v st' fz' s' xv e hf R' rv=>by
     obtain⟨rfl,rfl⟩:=e
     exact P _ _ _ _ _ h hf (R'.lift (b:=c::b) (c:=cs) (ux z)) rv) (fun qq qq qq qq qq hx=>hx.elim)
theorem oo(Z:Z0 w la S) (FO:aa w F) (LV:aU F.A 21) (R:RS w (J1 w.params la S) F m st fz s) {K:V->LS->Prop}
   (h:K .none st) (P:a8 w (J1 w.params la S) F m fz K Q):wpAny (model ae w) F.A (call (.ref 223) [.ref la.lx,.none] []) Q E s:=by
 refine R.down _ ?_;rintro b rest R0 e z
 obtain⟨sa,sc,sr⟩:=st
 obtain rfl:sr=b++rest:=e
 exact fD (n:=20) (ns:=cE) (ir:=dQ) (ρ:=[some .self,some .none]) (K:=fun v st'=>v= .none/\st'=⟨sa,b.map .chr,sc.reverse.map .chr,rest⟩) (Ex:=fun qq qq=>False) (em Z.SO Z.more (di Z.NO (Xl _))) Z.JL FO LV (Er _)
   (.of_eq (tU _ _ _)) (au (yM _) rfl) mz (xZ _) R0 (y4 (ns:=[]) (us:=[]) (fun qq=>rfl) (by decide +kernel) .self .none)
   (show _/\_ from⟨rfl,rfl⟩)
   (fun v st' fz' s' xv e hf R' rv=>by
     obtain⟨rfl,rfl⟩:=e
     exact P _ _ _ _ _ h hf (R'.lift z) rv) (fun qq qq qq qq qq hx=>hx.elim)
inductive gR(a:List V) (c b rest:List Ch):V->L0->Prop
 |done:b=[]->rest=[]->gR a c b rest .none ⟨a,[],c.reverse.map .chr,[]⟩
 |got (x:Ch) (b' rest':List Ch):b++rest=x::(b'++rest')->gR a c b rest (.chr x) ⟨a,b'.map .chr,c.reverse.map V.chr++[.chr x],rest'⟩
theorem pL(x:Ch) (c:List Ch):(x::c).reverse.map V.chr=c.reverse.map V.chr++[.chr x]:=(congrArg _ List.reverse_cons).trans XM
theorem iS(Z:Z0 w la S) (FO:aa w F) (LV:aU F.A 21) (R:RS w (J1 w.params la S) F m st fz s) {K:V->LS->Prop}
   (h:match st.r with|[]=>K .none st|c::r=>K (.chr c) ⟨st.a,c::st.c,r⟩) (P:a8 w (J1 w.params la S) F m fz K Q):wpAny (model ae w) F.A (call (.ref 216) [.ref la.lx] []) Q E s:=by
 refine R.down _ ?_;rintro b rest R0 e z
 obtain⟨sa,sc,sr⟩:=st
 obtain rfl:sr=b++rest:=e
 refine fD (n:=20) (ns:=cL) (ir:=dC) (ρ:=[some .self,some (.bool true),none]) (K:=gR sa sc b rest) (Ex:=fun qq qq=>False) (em Z.SO Z.more (di Z.NO (Xl _))) Z.JL FO LV (wD _)
   (tN (qz _) (qG _) (FO.G.X.keeps R0.fr.keep _ _ (sB _)) rfl _) (au (rR _) rfl) on (qU _) R0 (y4 (ns:=["char"]) (us:=[none]) (bJ 1) (by decide +kernel) .self (.bool _))
   (fX (qK rfl (fg b▸j6 z)) ?_) (fun v st' fz' s' xv e hf R' rv=>?_) (fun qq qq qq qq qq hx=>hx.elim)
 . rcases b with qq|⟨c,r⟩
   ·
     rcases rest with qq|⟨c,r⟩
     . exact(gR.done rfl rfl:gR sa sc [] [] _ _)
     . exact(show(sc.reverse.map V.chr).length<=100000/\gR sa sc [] (c::r) _ _ from⟨gv sc▸ic z,.got c [] r rfl⟩)
   . exact(show(r.map V.chr).length<=100000/\(sc.reverse.map V.chr).length<=100000/\gR sa sc (c::r) rest _ _ from⟨fg r▸Nat.le_of_succ_le (j6 z),gv sc▸ic z,.got c r rest rfl⟩)
 . cases e with
   |done e1 e2=>subst e1 e2;exact P _ _ _ _ _ h hf (R'.lift (b:=[]) (rest:=[]) z) rv
   |got x b' rest' e =>
     have h':(match b++rest with|[]=>K .none ⟨sa,sc,b++rest⟩|c::r=>K (.chr c) ⟨sa,c::sc,r⟩):=h
     rw[e] at h' z
     rw[←pL] at R'
     exact P _ _ _ _ _ h' hf (R'.lift (b:=b') (mw z)) rv
end
end
section
noncomputable def lT(P:Obj->Prop):Prop:=∀o f,P o->P (Obj.mapFields f o)
theorem uz(o:Obj) (f):(o.mapFields f).dict=o.dict:=by
 obtain⟨qq,qq,d,qq⟩:=o
 cases d<;>rfl
theorem iw(d:W3):lT (mZ d):=fun o f h=>⟨(Obj.cls_mapFields o f).trans h.1,(uz o f).trans h.2⟩
noncomputable def cM(h h':Heap):Prop:=∀b o,h.get? b=some o->(∀vs,o.data≠ .fields vs)->∃sl,h'.get? b=some {o with slots:=sl}
section
variable {P:Obj->Prop}
theorem y8(hP:lT P) {env:Env}{outer:List Env}{e:W3}{oe:Obj}{vs:Array WY}{head:WY}{hadNext:Bool}{Q:Unit->W2->Prop}
   (hfr:A.frames=some (env::outer)) (hl:s.heap.FunFrames base (env::outer)) (hf:env.frame=some L)
   (he:s.heap.get? e=some oe) (hkb:base.StaysIn s.heap) (hen:base.get? e=none) (hd:oe.data= .fields vs) (hsz:1<vs.size) (hp:P oe)
   (h:∀h',base.StaysIn h'->h'.FunFrames base (env::outer)->ez h' base e P (rawInt L)->cM s.heap h'->Q () {s with heap:=h'}) :
   wpAny M A (do let a ←frameOf env;let pl ←entryPlaceOf L hadNext;let b ←EntryCells.newEntry head a .none (rawInt L) .none pl;setField (.ref e) 1 b) Q E s:=by
 have off:e∉(env::outer).filterMap (·.frame):=fun hm=>by
   obtain⟨qq,o,ho,hnf⟩:=hl.mem hm
   rw[he] at ho
   exact hnf vs (XE ho▸hd)
 refine W6 (wpAny_frameOf_fun hfr hl hf fun h₁ UM=>?_)
 refine W6 (wpAny_entryPlaceOf fun pl hpl=>?_)
 unfold EntryCells.newEntry newFields
 refine W6 (wpAny_newObj_type ?_ (hpl.sizeOk5 _ _ _ _ _))
 have Vl:h₁.get? e=some oe:=(UM.2.1 e off).trans he
 have Wb:base.StaysIn h₁:=fun b o hbo=>(UM.2.1 b fun hm=>by rw[(hl.mem hm).1] at hbo;cases hbo).trans (hkb b o hbo)
 generalize hO:({cls:= .type "traceback",dict:=none,data:= .fields ([head,.ref L,.none,rawInt L,.none]++(if pl.isEmpty then List.replicate 6 Value.none else pl)).toArray}:Obj)=O
 have Vm:=Xm (h:=h₁) O Vl
 have hOf:O.isFreed=false:=by rw[←hO];rfl
 have keep:∀b o,b≠e->h₁.get? b=some o->((h₁.push O).update e (Obj.mapFields (·.setIfInBounds 1 (Value.ref h₁.objs.size)))).get? b=some o:=fun b o hbe hb=>by
   rw[Heap.get?_update_other _ _ (Ne.symm hbe)]
   exact Xm _ hb
 have ne:∀b o,s.heap.get? b=some o->(∀vs,o.data≠ .fields vs)->b≠e:=fun b o hb hnf q=>by
   rw[q,he] at hb
   exact hnf vs (XE hb▸hd)
 refine wpAny_setField Vm hd hsz (h _ ?_ ?_ ?_ ?_)
 . exact fun b o hbo=>keep b o (fun q=>by rw[q,hen] at hbo;cases hbo) (Wb b o hbo)
 . refine hl.of_keeps fun b o hb hnf=>?_
   obtain⟨sl,hs⟩:=UM.2.2 b o hb
   exact⟨_,keep b _ (ne b o hb hnf) hs,rfl⟩
 . have hTe:h₁.objs.size≠e:=XC (XQ Vl)
   have Wc:=Obj.data_mapFields hd (·.setIfInBounds 1 (Value.ref h₁.objs.size))
   refine(fun qq qk=>qk _ _ h₁.objs.size O _ (Heap.get?_update_self _ Vm (Obj.isFreed_of_fields Wc)) (hP _ _ hp) Wc (by simp[hsz]) Wb.fresh hTe ((Heap.get?_update_other _ _ (Ne.symm hTe)).trans (Heap.get?_push_size h₁ hOf)) (by rw[←hO]) (by first|(simp;done)|(rcases hpl with rfl|⟨qq,qq,qq,qq,qq,qq,qq,rfl⟩<;>simp)))
 . intro b o hb hnf
   obtain⟨sl,hs⟩:=UM.2.2 b o hb
   exact⟨sl,keep b _ (ne b o hb hnf) hs⟩
theorem jP{l:List Env}{e:W3}{fl:WY}{Q:Unit->W2->Prop} (hkb:base.StaysIn s.heap) (hl:s.heap.FunFrames base l) (ht:ez s.heap base e P fl)
   (h:∀h',base.StaysIn h'->h'.FunFrames base l->ez h' base e P .none->cM s.heap h'->Q () {s with heap:=h'}):wpAny M A (setFlight (.ref e) none) Q E s:=by
 refine ht _ ?_;rintro oe vs T oT ts he hp hd h1 hnT hTe hT hdT h3
 have z:3<ts.size:=(XJ.mp h3).1
 unfold setFlight
 refine W6 (wpAny_field he hd h1 ?_)
 rw[if_pos (show(Value.ref T != Value.none)=true from by simp)]
 have other:∀b,b≠T->(s.heap.update T (Obj.mapFields (·.setIfInBounds 3 ((none:Option W3).elim Value.none fun f=>rawInt f)))).get? b=s.heap.get? b:=fun b hb=>Heap.get?_update_other _ _ (Ne.symm hb)
 have ne:∀b o,s.heap.get? b=some o->(∀vs,o.data≠ .fields vs)->b≠T:=fun b o hb hnf q=>by
   rw[q,hT] at hb
   exact hnf ts (XE hb▸hdT)
 refine wpAny_setField hT hdT z (h _ ?_ ?_ ?_ ?_)
 . exact fun b o hbo=>(other b fun q=>by rw[q,hnT] at hbo;cases hbo).trans (hkb b o hbo)
 . exact hl.of_keeps fun b o hb hnf=>⟨o,(other b (ne b o hb hnf)).trans hb,rfl⟩
 . exact(fun qq qk=>qk oe vs T _ _ ((other e (Ne.symm hTe)).trans he) hp hd h1 hnT hTe (Heap.get?_update_self _ hT (Obj.isFreed_of_fields (Obj.data_mapFields hdT _))) (Obj.data_mapFields hdT _) (by simp[z]))
 . exact fun b o hb hnf=>⟨o.slots,(other b (ne b o hb hnf)).trans hb⟩
theorem qe(hP:lT P) {env:Env}{outer:List Env}{e:W3}{oe:Obj}{vs:Array WY}{Q:Unit->W2->Prop}
   (hfr:A.frames=some (env::outer)) (hl:s.heap.FunFrames base (env::outer)) (hf:env.frame=some L)
   (he:s.heap.get? e=some oe) (hkb:base.StaysIn s.heap) (hen:base.get? e=none) (hd:oe.data= .fields vs) (h1:vs[1]?=some .none) (hp:P oe)
   (h:∀h',base.StaysIn h'->h'.FunFrames base (env::outer)->ez h' base e P (rawInt L)->cM s.heap h'->Q () {s with heap:=h'}):wpAny M A (noteFrame (.ref e) env) Q E s:=by
 unfold noteFrame
 simp only[hf]
 refine W6 (wpAny_field he hd h1 ?_)
 rw[if_neg (by decide)]
 exact y8 hP hfr hl hf he hkb hen hd (XJ.mp h1).1 hp h
theorem pA(hP:lT P) {env:Env}{outer:List Env}{e:W3}{Q:Unit->W2->Prop}
   (hfr:A.frames=some (env::outer)) (hl:s.heap.FunFrames base (env::outer)) (hf:env.frame=some L) (ht:ez s.heap base e P .none) (hkb:base.StaysIn s.heap) (hen:base.get? e=none)
   (h:∀h',base.StaysIn h'->h'.FunFrames base (env::outer)->ez h' base e P (rawInt L)->cM s.heap h'->Q () {s with heap:=h'}):wpAny M A (noteFrame (.ref e) env) Q E s:=by
 refine ht _ ?_;rintro oe vs T oT ts he hp hd h1 hnT hTe hT hdT h3
 unfold noteFrame
 simp only[hf]
 refine W6 (wpAny_field he hd h1 ?_)
 rw[if_pos (show(Value.ref T != Value.none)=true from by simp)]
 refine W6 (wpAny_field hT hdT h3 ?_)
 rw[if_neg (show ¬((Value.none == rawInt L)=true) from by simp[rawInt])]
 refine W6 (wpAny_setField hT hdT (XJ.mp h3).1 ?_)
 have other:∀b,b≠T->(s.heap.update T (Obj.mapFields (·.setIfInBounds 3 Value.none))).get? b=s.heap.get? b:=fun b hb=>Heap.get?_update_other _ _ (Ne.symm hb)
 have ne:∀b o,s.heap.get? b=some o->(∀vs,o.data≠ .fields vs)->b≠T:=fun b o hb hnf q=>by
   rw[q,hT] at hb
   exact hnf ts (XE hb▸hdT)
 refine y8 hP hfr (hl.of_keeps fun b o hb hnf=>⟨o,(other b (ne b o hb hnf)).trans hb,rfl⟩) hf ((other e (Ne.symm hTe)).trans he) (fun b o hbo=>(other b fun q=>by rw[q,hnT] at hbo;cases hbo).trans (hkb b o hbo)) hen hd
   (XJ.mp h1).1 hp fun h' x1 x2 x3 x4=>h h' x1 x2 x3 fun b o hb hnf=>x4 b o ((other b (ne b o hb hnf)).trans hb) hnf
theorem cM.trans{h₁ UI UJ:Heap} (x:cM h₁ UI) (y:cM UI UJ):cM h₁ UJ:=fun b o e hn =>
 let⟨_,Wo⟩:=x b o e hn;let⟨sl,Wp⟩:=y b _ Wo hn;⟨sl,Wp⟩
theorem nf(hP:lT P) {env:Env}{outer:List Env}{e:W3}{oe:Obj}{vs:Array WY}{Q:Unit->W2->Prop}
   (hfr:A.frames=some (env::outer)) (hl:s.heap.FunFrames base (env::outer)) (hf:env.frame=some L)
   (he:s.heap.get? e=some oe) (hkb:base.StaysIn s.heap) (hen:base.get? e=none) (hd:oe.data= .fields vs) (h1:vs[1]?=some .none) (hp:P oe)
   (h:∀h',rM base outer e P h'->cM s.heap h'->Q () {s with heap:=h'}):wpAny M A (leaving env (.ref e)) Q E s:=by
 unfold leaving
 refine W6 (qe hP hfr hl hf he hkb hen hd h1 hp fun h' k1 k2 k3 k4=>?_)
 exact jP k1 k2 k3 fun h'' j1 j2 j3 j4=>h h'' ⟨j1,hen,j2.2.2,j3⟩ (k4.trans j4)
theorem mM(hP:lT P) {env:Env}{outer:List Env}{e:W3}{Q:Unit->W2->Prop} (hfr:A.frames=some (env::outer)) (hf:env.frame=some L) (hfl:rM base (env::outer) e P s.heap)
   (h:∀h',rM base outer e P h'->cM s.heap h'->Q () {s with heap:=h'}):wpAny M A (leaving env (.ref e)) Q E s:=by
 obtain⟨f1,f2,f3,f4⟩:=hfl
 unfold leaving
 refine W6 (pA hP hfr f3 hf f4 f1 f2 fun h' k1 k2 k3 k4=>?_)
 exact jP k1 k2 k3 fun h'' j1 j2 j3 j4=>h h'' ⟨j1,f2,j2.2.2,j3⟩ (k4.trans j4)
end
end
section
theorem nJ:f9 w (bC la I) where
 leave F F' st fz p e s Q E C FO' hz h:=by
   refine hz _ ?_;rintro x d es n mu B rfl hd hp hI nd hB hl hfl ⟨m,UV,Uz,up⟩ ho hdr
   have hout:F'.outer=F.env::F.outer:=C.outer
   refine mM (iw d) FO'.fr (L:=F'.L) rfl hfl fun h' fl up'=>?_
   rw[hout] at fl
   obtain⟨VW,VX⟩:=C.fr
   have hbase:F'.base=F.base:=C.base
   refine h _ (fun qq qk=>qk x d es n mu B rfl hd hp hI nd (by rw[←hbase];exact hB) (fun q hq=>?_) fl ⟨VW,F'.Up,VX,?_⟩ (ho.trans C.os) (hdr.trans C.dr))
   . rw[←hbase];exact hl q hq
   . exact((Heap.UpToSlots.of_keeps Uz.keep).trans up).trans up'
end
section
noncomputable def iQ(l:List Ch):Str:=⟨(l.map (·.c)).toArray⟩
section
variable {st:L0}
noncomputable def yR(w:Xj) (la:LA) (S:bR) (F:Fm) (m:Str->Option WY) (st:L0) (fz:ad) (s:W2):Prop:=∀qC:Prop,(∀(ps:Array WY),s.heap.get? 225=some (tabObj ps)->hJ ps->AllBare s.gens->(∀b o,F.Up.get? b=some o->b≠225)->(∀p∈fz,p.1≠225) ->
   (∀s' ps',hJ ps'->Heap.ExtBut 225 s.heap s'.heap->s'.heap.get? 225=some (tabObj ps')->s.gens.size<=s'.gens.size->(∀i,i<s.gens.size->s'.gens[i]?=s.gens[i]?)->AllBare s'.gens->s'.os=s.os->s'.drawn=s.drawn->RS w (J0 w.params la S) F m st fz s')->qC)->qC
theorem RS.onward(SO:eL S) (R:RS w (J0 w.params la S) F m st fz s):yR w la S F m st fz s:=by
 obtain⟨mu,qi,N,nd⟩:=R.led;refine qi _ ?_;rintro lex ab va vb vc na nb nc ps sc rfl h1 h2 h3 ht h4
 have N':News F.Up F.L s.heap ([_,_,_]++(225,tabObj ps)::(sc++fz)):=N
 have h225:=N' (225,tabObj ps) (W4 _ (.head _))
 have h0:∀b o,F.Up.get? b=some o->b≠225:=fun b o e q=>bN ((q▸h225.2.2).symm.trans e)
 exact(fun qq qk=>qk ps h225.1 ht ab h0 (fun p hp=>bv (pre:=[_,_,_]) (post:=sc++fz) nd p (W4 _ (W4 _ hp))) (fun s' ps' ht' hx hget hg hg2 hb ho hd =>
   ⟨⟨R.fr.ns.extBut hx (Ne.symm h225.2.1),fun b o e=>hx b o (h0 b o e) (R.fr.keep b o e),R.fr.above⟩,⟨_,(fun qq qk=>qk lex hb va vb vc na nb nc ps' sc rfl h1 h2 h3 ht' (SO.gens _ _ _ _ _ h4 hg hg2)),pT N' nd hx hget,nd⟩,ho.trans R.os,hd.trans R.dr,R.lo⟩))
end
theorem iu{env:Env}{c P:W3}{qn:Str}{scope:Scope}{cv:WY} (hc:env.code= .ref c)
   (CH:CodeHd s.heap c P) (hP:s.heap.get? P=some (tabObj ps)) (hf:codeAmong pos ps.toList=some cv) (hQ:Q cv s):wpAny M A (genexprCode env pos qn scope) Q E s:=by
 obtain⟨o,vs,file,tf,flags,tg,inF,text,tt,e1,qq,e3,qq,f3,qq⟩:=CH
 unfold genexprCode codeAt
 rw[hc,if_neg (show ¬((Value.ref c == Value.none)=true) from Bool.false_ne_true)]
 refine W6 (wpAny_fieldsOf e1 e3 ?_)
 rw[f3]
 refine W6 (wpAny_fieldsOf hP rfl ?_)
 rw[hf]
 exact Xk hQ
structure pr(scope:Scope) (cn:Str):Prop where
 co:scope.isCoroutine=false
 clos:∀env,closureFor scope env=pure []
 cell:∀y∈scope.names,y.2≠ .cell
 it:scope.names.lookup (".0" : Str)=some NameKind.local
 x:scope.names.lookup cn=some .local
 kind:scope.kind= .function
 dbg:(cn == ("__debug__" : Str))=false
theorem zH(P:W1):codeHdIn (KF P) 229 225=true:=by kernel_rfl
theorem aL.at_chr{cs:List Ch} (r:aL P la fz (cs.map .chr) vs) (h:vs[i]?=some v):∃c a,cs[i]?=some c/\v= .ref a/\bS fz c a:=by
 obtain⟨x,hx,rx⟩:=r.at h
 obtain⟨c,hc,rfl⟩:=cp (List.getElem?_map.symm.trans hx)
 obtain⟨a,rfl,ha⟩:=rx.view
 exact⟨c,a,hc,rfl,ha⟩
theorem js(n:Nat):passing (fun qq=>true) n 0=List.range n:=by
 unfold passing
 rw[List.drop_zero,List.filter_eq_self.mpr (fun qq qq=>rfl)]
section
variable {st:L0}
structure IT(s s':W2) (ps':Array WY):Prop where
 ht:hJ ps'
 hx:Heap.ExtBut 225 s.heap s'.heap
 hg:s'.heap.get? 225=some (tabObj ps')
 sz:s.heap.objs.size<=s'.heap.objs.size
 g:s'.gens=s.gens
 o:s'.os=s.os
 d:s'.drawn=s.drawn
theorem nQ{env:Env} (hc:env.code= .ref 229) {gp:Pos}{qn:Str}{scope:Scope} (CH:CodeHd s.heap 229 225) (hg:s.heap.get? 225=some (tabObj ps)) (ht:hJ ps) :
   wpAny (model ae w) A (genexprCode env gp qn scope) (fun qq s'=>∃ps',IT s s' ps') E s:=by
 rcases hf:codeAmong gp ps.toList with qq|cv
 ·
   exact wpAny_genexprCodeX hc (CH.code hg ht) (CH.tab hg) hf fun c' h' tk hx hge hlt hcd' hrec htab qq =>
     ⟨ps++ #[rawInt gp.line,rawInt gp.col,.ref c'],(show TriplesOk (ps++ #[rawInt gp.line,rawInt gp.col,Value.ref c']).toList from(Array.toList_append (xs:=ps))▸TriplesOk_snoc _ _ _ _ ht),hx,htab.2,WZ hge (Nat.le_of_lt hlt),rfl,rfl,rfl⟩
 . exact iu hc CH hg hf ⟨ps,ht,Heap.ExtBut.refl _ _,hg,Xl _,rfl,rfl,rfl⟩
theorem ur{h₁:Heap}{env:Env}{cn:Str}{cs:List Ch}{fp wr:List W3}{href:Heap} (rv:aL w.params la fz (cs.map .chr) vs) (hk:env.scope.kind= .function) (hx:env.kindOf cn=some .local) (dbg:(cn == ("__debug__" : Str))=false)
   (there:∀b o,h₁.get? b=some o->b≠225->b∈fp/\b∉wr/\href.get? b=some o) (hfz:∀p∈fz,h₁.get? p.1=some p.2/\p.1≠225) (hK:∀a o,(KF w.params).lookup a=some o->h₁.get? a=some o/\a≠225) :
   QuietGen ae w env cn [] (.Attribute (.Name cn q1) (AN 5) q2) fp wr (fun i v=>vs.toArray[i]?=some v) (fun qq=>true) (fun i y=>∃c t,cs[i]?=some c/\y= .str ⟨#[c.c]⟩ t) href where
 tests A' E' i v Vn Vd hh hv hns hm hold:=Xk ⟨rfl,Vn.heap,Vn.toks,rfl,fun qq qq e=>e⟩
 elt A' E' i v Vn Vd hh hv qq hns hm hold:=by
   obtain⟨c,ca,hc,rfl,qi⟩:=rv.at_chr ((Ya (xs:=vs)).symm.trans hv);refine qi _ ?_;rintro d es n l t c1 c2 c3 c4 c5
   have get:∀b o,h₁.get? b=some o/\b≠225->Vn.heap.get? b=some o:=fun b o e=>have x:=there b o e.1 e.2;hold b x.1 x.2.1 o x.2.2
   exact Attribute_any_ (wpAny_Name (wpAny_loadName_local hk hx hns hm
     (get_value (fun a o e=>get _ _ (hK a o e)) (show Xr Vn.heap ca (Xu 183 d) 183 (some (Xc es n)) from⟨get _ _ (hfz _ c1),rfl,rfl,get _ _ (hfz _ c2)⟩) (plainGet_of (Pa w.params (AN 5))).1 (findObj_own (A7 _) (Hl _) rfl c3) rfl
       ⟨⟨c,t,hc,rfl⟩,Vn.heap,Vn.toks+1,rfl,fun qq qq e=>e⟩)) dbg) (by rw[X8,al rfl])
theorem wd{M:Nat->Prop} (hi:i<n) (h:∃k,(passing (fun qq=>true) n 0)[i]?=some k/\M k):M i:=by
 obtain⟨k,e,hk⟩:=h
 rw[js,List.getElem?_range hi] at e
 cases e;exact hk
theorem vF(SO:eL S) (FO:aa w F) (hhd:F.A.handled=none) (hdep:F.A.depth<Xh) (hcd:F.cd= .ref 229) {cn:Str}{gp:Pos}{scope:Scope} (GS:pr scope cn) {iter:W5}{cs:List Ch} (hst:st.c=cs.map .chr)
   (hiter:wpAny (model ae w) F.A (eval iter F.env) (fun v Un=>v= .ref la.ct/\RS w (J0 w.params la S) F m st fz Un) E s) (hs:∀x,genFold iter F.env x=pure x)
   (h:∀a g wr fp St s',WalksS ae w F.A.in4 a fp wr (GenOnlyQ g) cs.length (fun i v=>∃c t,cs[i]?=some c/\v= .str ⟨#[c.c]⟩ t) St->St 0 s'->(∀i s,St i s->s.TypeIs (.ref a) "generator")->a∈fp->(∀b∈fp,b<s'.heap.objs.size) ->
     (∀s'',Moved wr (GenOnlyQ g) s' s''->RS w (J0 w.params la S) F m st fz s'')->Q (.ref a) s') :
   wpAny (model ae w) F.A (eval (.GeneratorExp (.Attribute (.Name cn q1) (AN 5) q2) [⟨.Name cn q3,iter,[],0⟩] scope gp) F.env) Q E s:=by
 refine wpAny_GeneratorExp_walksQ hhd GS.co (GS.clos _) GS.cell GS.it GS.x GS.kind hdep (Xq hiter (fun xv Un h₁=>?_) fun qq qq e=>e) hs
 obtain⟨rfl,Uv⟩:=h₁
 refine(cm Uv (k:=2) rfl (a:=la.ct) rfl) _ ?_;rintro pre post vs nn rv Wq WQ qq
 rw[hst] at rv
 have hct:=(Wq _ aD).1
 refine wpAny_pyIter_list ⟨_,hct,rfl,nn,rfl⟩ ?_
 refine(Uv.onward SO) _ ?_;rintro ps h225 ht ab h0b hfz grow
 have hlen:vs.length=cs.length:=rv.length.trans (XR ..)
 have lt:∀b o,Un.heap.get? b=some o->b<Un.heap.objs.size:=fun b o e=>XQ e
 generalize hI:Un.heap.objs.size=I at *
 generalize hO:({cls:= .type "list_iterator",data:= .fields #[.ref la.ct,.int 0 0]}:Obj)=O at *
 have push:∀b o,Un.heap.get? b=some o->(Un.heap.push O).get? b=some o:=fun b o e=>Xm _ e
 have hX:=FO.G.X.keeps Uv.fr.keep
 have hsz:(Un.heap.push O).objs.size=I+1:=hI▸Heap.size_push ..
 obtain⟨mg,bm,ob,BM⟩:=FO.G.bm
 refine⟨(FO.G.lim.keeps Uv.fr.keep).keeps push,Xq (nQ hcd ((codeHd_of_K hX (zH _)).keeps push) (push _ _ h225) ht) (fun code Ut hh=>?_) fun qq qq x=>x⟩
 obtain⟨ps',Z⟩:=hh
 have hIlt:I<Ut.heap.objs.size:=XT (hsz▸Nat.lt_succ_self I) Z.sz
 have old:∀b o,b≠225->Un.heap.get? b=some o->Ut.heap.get? b=some o:=fun b o hb e=>Z.hx b o hb (push b o e)
 have k0:∀b o,F.Up.get? b=some o->Ut.heap.get? b=some o:=fun b o e=>old b o (h0b b o e) (Uv.fr.keep b o e)
 have Vo:=BM.keeps k0
 refine wpAny_builtinsFor (m:=mg) Vo.ns Vo.name Vo.ne Vo.obj Vo.cls Vo.dict Vo.data ?_
 have hct225:la.ct≠225:=fun e=>by
   have h:=h225.symm.trans (e▸hct)
   exact nomatch congrArg Obj.cls (XE h)
 have hitI:(Un.heap.push O).get? I=some O:=hI▸Heap.get?_push_size _ (hO▸rfl)
 have hne:∀b o,Un.heap.get? b=some o->b≠I:=fun b o e=>X3 (lt b o e)
 have away:∀b o,Un.heap.get? b=some o->b∉[Ut.heap.objs.size,I]:=fun b o e hm=>(Xb.mp hm).elim (fun q=>absurd (Xx (lt b o e) hIlt) (q▸Nat.lt_irrefl _)) fun q=>hne b o e (Xe.mp q)
 refine⟨I,[I,la.ct],[I],vs.toArray.size,(fun i v=>vs.toArray[i]?=some v),(fun i h=>h.IsListIter I la.ct i/\h.IsList la.ct vs.toArray),(fun qq=>true),(fun i y=>∃c t,cs[i]?=some c/\y= .str ⟨#[c.c]⟩ t),
   rfl,(fun A' hh=>Walks.list hh I la.ct (hne _ _ hct) vs.toArray),⟨⟨O,Z.hx _ _ (fun e=>hne _ _ h225 e.symm) hitI,hO▸rfl,hO▸rfl⟩,⟨_,old _ _ hct225 hct,rfl,nn,rfl⟩⟩,
   fun b hb=>(Xb.mp hb).elim (fun q=>q▸hIlt) (fun q=>Xe.mp q▸Xx (lt _ _ hct) hIlt),FO.G.lim.keeps k0,fun hm=>?_,fun href hk=>?_,fun a Vr tk gs hgb hag hsz5 hk5 W hat=>?_⟩
 . obtain⟨qq,⟨oc,qq,qq,ec,qq⟩,qq⟩:=FO.G.lim.keeps Uv.fr.keep
   exact hne _ _ ec (Xe.mp hm)
 . exact ur (h₁:=Un.heap) rv GS.kind GS.x GS.dbg (fun b o e hb=>have e3:=old b o hb e;⟨List.mem_range.mpr (XQ e3),fun q=>hne b o e (Xe.mp q),hk b o e3⟩) (fun p hp=>⟨Uv.get hp,hfz p hp⟩) fun a o e=>have e0:=FO.G.X a o e;⟨Uv.fr.keep _ _ e0,h0b _ _ e0⟩
 . have e1:(passing (fun qq=>true) vs.toArray.size 0).length=cs.length:=(congrArg _ (js _)).trans (List.length_range.trans hlen)
   rw[e1] at W
   have sz:(Ut.gens.push gs).size=Ut.gens.size+1:=Array.size_push ..
   refine h a Ut.gens.size _ _ _ _ {sub:=W.sub,grefl:=W.grefl,gtrans:=W.gtrans,frame:=W.frame,item:=fun i s Q E hi st hQ=>W.item i s Q E hi st fun v s' hp=>hQ v s' (wd (Nat.lt_of_lt_of_eq hi hlen.symm) hp),done:=W.done,self:=W.self} hat (fun i s'' st=>st.1.typeIs) List.mem_cons_self (fun b hb=>?_) (fun s'' mv=>?_)
   . show b<Vr.objs.size
     rw[hsz5]
     exact(Xb.mp hb).elim (fun q=>q▸Nat.lt_succ_self _) fun hb=>(Xb.mp hb).elim (fun q=>q▸Nat.lt_succ_of_lt hag) fun hb=>Nat.lt_succ_of_lt (Xx (List.mem_range.mp hb) hag)
   . exact grow s'' ps' Z.ht (fun b o hb e=>mv.heap b o (away b o e) (hk5 b o (old b o hb e))) (mv.heap 225 _ (away 225 _ h225) (hk5 _ _ Z.hg)) (mv.gens.elim (fun e=>e▸(show Un.gens.size<=(Ut.gens.push gs).size from sz▸Z.g▸Nat.le_succ _)) fun e=>e.1.1▸(show Un.gens.size<=(Ut.gens.push gs).size from sz▸Z.g▸Nat.le_succ _))
       (fun i hi=>by
         have e0:(Ut.gens.push gs)[i]?=Un.gens[i]?:=by rw[Z.g,Array.getElem?_push_lt hi];exact(Array.getElem?_eq_getElem hi).symm
         exact mv.gens.elim (fun e=>e▸e0) fun e=>(e.1.2 i (Z.g▸X3 hi)).trans e0)
       ((AllBare.push (Z.g▸ab) hgb).moved mv.gens) (mv.os.trans Z.o) (mv.drawn.trans Z.d)
end
end
section
structure aO(F:Fm) (m:Str->Option WY) (news:ad) (s₀ s:W2):Prop where
 fr:Fr F.Up F.L s.heap m
 nw:News F.Up F.L s.heap news
 gens:s.gens=s₀.gens
 os:s.os=s₀.os
 dr:s.drawn=s₀.drawn
theorem aO.toks{news:ad} (R:aO F m news s₀ s) (t:Nat):aO F m news s₀ {s with toks:=t}:=⟨R.fr,R.nw,R.gens,R.os,R.dr⟩
section
variable {news:ad}
theorem dk(FO:aa w F) (hdep:F.A.depth<Xh) (KO:bl w.params f) {R:Result->W2->Prop}
   (hbind:lB s (ah w.params f) args binds) (hloc:binds.all (fun y=>(ah w.params f).scope.names.lookup y.1 == some .local)=true) (UC:aO F m news s₀ s)
   (h:∀F' s',F'.A=F.A.deeper F'.env->aa w F'->F'.env=envOf (ah w.params f).qualname (ah w.params f).scope F'.L f (ah w.params f).code->F'.sc=(ah w.params f).scope ->
     aO F' (fun y=>binds.reverse.lookup y) news s₀ s' ->
     wpAny (model ae w) F'.A (execs (ay (ah w.params f)) F'.env) (fun fl s''=>∃m' news',aO F' m' news' s₀ s''/\(aO F m news' s₀ s''->R (.ok (.ret (match fl with| .ret v=>v|_=> .none))) s''))
       (fun qq qq=>False) s') :
   codeAny (model ae w) F.A (.call (.ref f) args) R s:=by
 have S:=dp KO.scope
 refine yG (K:=KF w.params) FO.B UC.fr UC.nw (FO.G.X.keeps UC.fr.keep) FO.G.lim FO.fr KO.shape KO.code hdep (KO.fd▸hbind.h) (fun y hy=>eq_of_beq (X7.mp hloc y hy)) (fun g L' h₁ FG F' N' B' VV=>?_) FO.kind S.co S.gen S.kind S.cell rfl
 let U7:Fm:={A:=F.A.deeper (envOf (ah w.params f).qualname (ah w.params f).scope L' f (ah w.params f).code),UU:=F.A,base:=F.base,Up:=g,outer:=F.env::F.outer,q:=(ah w.params f).qualname,sc:=(ah w.params f).scope,L:=L',a:=f,cd:=(ah w.params f).code,os:=F.os,dr:=F.dr}
 have Vj:aa w U7:=⟨B',Around.frames_deeper B'.stack,FO.G.keeps VV,S.kind,FO.gb⟩
 refine Xq (h U7 _ rfl Vj rfl rfl ⟨F',N',UC.gens,UC.os,UC.dr⟩) (fun fl s'' hh=>?_) fun qq qq x=>x.elim
 obtain⟨m',news',R',k⟩:=hh
 exact⟨L',m',news',R'.fr,R'.nw,fun Uz Vk=>k ⟨Uz,Vk,R'.gens,R'.os,R'.dr⟩⟩
theorem ax(FO:aa w F) (R:aO F m news s₀ s) (hx:ak F.sc x=true) (hv:m x=some v) (h:Q v s):wpAny (model ae w) A (eval (.Name x q) F.env) Q E s:=by
 exact ld R.fr hv h FO.kind (eq_of_beq (af hx)) (dq (ai hx))
noncomputable def Hy(sl:Array (Option WY)) (i:Nat) (v:WY):Array (Option WY):=(sl++Array.replicate (i+1 - sl.size) none).setIfInBounds i (some v)
noncomputable def Pm(K:Frag) (C:W3) (a:Nat):W3:=Fp (takerIn K C (AN a))
noncomputable def sM(K:Frag) (C:W3) (a i:Nat):Bool:=(findIn K (.ref C) "__setattr__" == some (some (.builtin "object.__setattr__"))&&(plainOver K C&&Nat.ble (i+1) 1000))&&(takerIn K C (AN a) == some (some (.ref (Pm K C a))) &&
 (typeIn K (.ref (Pm K C a)) == some (.type "member_descriptor")&&slotIn K (Pm K C a) C == some i))
noncomputable def b0(K:Frag) (C:W3) (a:Nat):Bool:=(findIn K (.ref C) "__setattr__" == some (some (.builtin "object.__setattr__"))&&plainOver K C)&&(hasDictIn K C&&takerIn K C (AN a) == some none)
theorem qd(nm:Str) (h:Int) (k v:WY):∀l:List XH,(putL nm h k v l).length<=l.length+1:=by intro l0;induction l0 with
 |nil=>exact Xl _
 |cons e r ih=>unfold putL;split;exact Nat.le_succ _;exact XX (ih)
section
variable {Q:Unit->W2->Prop}{x C:W3}{sl:Array (Option WY)}{rest:ad}{a:Nat}
theorem uQ(FO:aa w F) (hs:sM (KF w.params) C a i=true) (R:aO F m ((x,aE C (some dx) sl)::(dx,Xc es n)::rest) s₀ s) (hx:x≠dx) (hr:∀p∈rest,p.1≠x)
   (h:∀s',aO F m ((x,aE C (some dx) (Hy sl i v))::(dx,Xc es n)::rest) s₀ s'->Q () s'):wpAny (model ae w) A (setAttr (.ref x) (AN a) v) Q E s:=by
 have I:Xr s.heap x (aE C (some dx) sl) C (some (Xc es n)):=⟨(R.nw _ (.head _)).1,rfl,rfl,(R.nw _ (.tail _ (.head _))).1⟩
 exact set_slot (od:=Xc es n) R.fr FO.G.X R.nw I (eq_of_beq (af (af hs))) (af (ai (af hs))) (eq_of_beq (af (ai hs))) (eq_of_beq (af (ai (ai hs)))) (eq_of_beq (ai (ai (ai hs)))) (Xd (ai (ai (af hs)))) (ox':=aE C (some dx) (Hy sl i v)) rfl rfl
   (.head fun q hq=>(Xb.mp hq).elim (fun e=>e▸hx.symm) (hr q)) fun h' F' N'=>h _ ⟨F',N',R.gens,R.os,R.dr⟩
theorem bb(FO:aa w F) (hs:b0 (KF w.params) C a=true) (ho:o=aE C (some dx) sl) (R:aO F m ((x,o)::(dx,Xc es n)::rest) s₀ s) (hx:x≠dx) (hr:∀p∈rest,p.1≠dx) (hz:es.length<=100) (hg:(getL (AN a) es).isSome=true)
   (h:∀s' tk,aO F m ((x,o)::(dx,Xc (putL (AN a) (XV w.params (AN a)) (.str (AN a) tk) v es) (putN (AN a) es n))::rest) s₀ s'->Q () s'):wpAny (model ae w) A (setAttr (.ref x) (AN a) v) Q E s:=by
 subst ho
 have I:Xr s.heap x (aE C (some dx) sl) C (some (Xc es n)):=⟨(R.nw _ (.head _)).1,rfl,rfl,(R.nw _ (.tail _ (.head _))).1⟩
 exact set_dict R.fr FO.G.X R.nw I rfl (eq_of_beq (af (af hs))) (ai (af hs)) (eq_of_beq (ai (ai hs))) (af (ai hs)) hg rfl (.tail hx (.head hr)) (WZ (qd _ _ _ _ es) (WZ (XX hz) (by decide))) fun h' F' N'=>h _ _ ⟨F',N',R.gens,R.os,R.dr⟩
end
end
end
section
inductive IS where
 |slot (a i:Nat) (v:Str)|dict (a:Nat) (v:Str)|inst (v:Str)
noncomputable def bO(sc:Scope) (n:Str):Bool:=sc.names.lookup n == some .globalImplicit&&!(n == ("__debug__" : Str))
noncomputable def S6:IS->Stmt->Stmt
 |.slot a _ v,e=> .Assign [.Attribute (.Name "self" (aj (ao (eJ e)))) (AN a) (aj (eJ e))] (.Name v (aj (bj e))) (ci e)
 |.dict a v,e=> .Assign [.Attribute (.Name "self" (aj (ao (eJ e)))) (AN a) (aj (eJ e))] (.Name v (aj (bj e))) (ci e)
 |.inst v,e=> .Assert (.Call (.Name "isinstance" (aj (ao (bj e)))) [.Name v (aj (aN (bj e))),.Name "SourceLocation" (aj (pK (bj e)))] [] (aj (bj e))) none (ci e)
noncomputable def EW:List IS->List Stmt->List Stmt
 |[],_=>[]
 |a::as,es=>S6 a (cP es)::EW as es.tail
noncomputable def TA(K:Frag) (C:W3) (sc:Scope):IS->Bool
 |.slot a i v=>(ak sc "self" && ak sc v)&&sM K C a i
 |.dict a v=>(ak sc "self" && ak sc v)&&b0 K C a
 |.inst v=>ak sc v&&(bO sc "isinstance" && bO sc "SourceLocation")
noncomputable def Gv(K:Frag) (C:W3) (sc:Scope):List IS->Bool
 |[]=>true
 |a::as=>TA K C sc a&&Gv K C sc as
structure jx(K:Frag) (C:W3) (sc:Scope) (as:List IS) (es:List Stmt):Prop where
 eq:es=EW as es
 ok:Gv K C sc as=true
noncomputable def JQ(rest:ad) (m:Str->Option WY) (v:Str):Prop:=∀qC:Prop,(∀(l d:W3) (sl':Array (Option WY)) (o:Obj),m v=some (.ref l)->(l,aE 79 (some d) sl')∈rest->(d,o)∈rest->qC)->qC
noncomputable def kx(P:W1) (rest:ad) (m:Str->Option WY):List IS->Array (Option WY)->List XH->Nat->(Array (Option WY)->List XH->Nat->Prop)->Prop
 |[],sl,es,n,K=>K sl es n
 |.slot _ i v::r,sl,es,n,K=>∃x,m v=some x/\kx P rest m r (Hy sl i x) es n K
 |.dict a v::r,sl,es,n,K=>∃x,m v=some x/\es.length<=100/\(getL (AN a) es).isSome=true/\∀tk,kx P rest m r sl (putL (AN a) (XV P (AN a)) (.str (AN a) tk) x es) (putN (AN a) es n) K
 |.inst v::r,sl,es,n,K=>JQ rest m v/\kx P rest m r sl es n K
theorem My(P:W1):nsIn (KF P) XI "isinstance" = some none:=by kernel_rfl
theorem Jr:bootBuiltins "isinstance" = some (.builtin "isinstance"):=by kernel_rfl
theorem MM(P:W1):nsIn (KF P) XI "SourceLocation" = some (some (.ref 79)):=by kernel_rfl
theorem ED(P:W1):isIn (KF P) (.ref 79) 79=true:=by kernel_rfl
section
theorem bF{news:ad} (FO:aa w F) (R:aO F m news s₀ s) (hx:bO F.sc x=true)
   (hv:nsIn (KF w.params) XI x=some (some v)\/(nsIn (KF w.params) XI x=some none/\x ≠ "__name__" /\ bootBuiltins x=some v)) (h:Q v s):wpAny (model ae w) A (eval (.Name x q) F.env) Q E s:=by
 obtain⟨mg,eg⟩:=FO.G.gl
 obtain⟨mb,eb,fb⟩:=FO.G.bi
 refine wpAny_Name (ks_loadName_global (env:=F.env) FO.kind (eq_of_beq (af hx)) ?_) (dq (ai hx))
 have hk:=R.fr.keep
 rcases hv with c|⟨c,c2,c3⟩
 . exact loadGlobal_global (mg:=mg) (eg.keeps hk) (mg_of FO.G.X eg c) h
 . exact loadGlobal_builtin (mg:=mg) (mb:=mb) (eg.keeps hk) (mg_none_of FO.G.X eg c) (eb.keeps hk) ((fb _ c2).trans c3) h
inductive IQ(F:Fm) (m:Str->Option WY) (s₀:W2) (x dx C:W3) (rest:ad) (K:Array (Option WY)->List XH->Nat->Prop) (s:W2):Flow->Prop
 |mk (sl:Array (Option WY)) (es:List XH) (n:Nat):K sl es n->aO F m ((x,aE C (some dx) sl)::(dx,Xc es n)::rest) s₀ s->IQ F m s₀ x dx C rest K s .next
theorem ix(FO:aa w F) (hh:A.handled=none) {x C:W3}{rest:ad} (hx:x≠dx) (hr:∀p∈rest,p.1<dx) (hr2:dx<x) (hself:m "self" = some (.ref x)) :
   ∀(as:List IS) (es:List Stmt),Gv (KF w.params) C F.sc as=true->∀(sl:Array (Option WY)) (ds:List XH) (n:Nat) (s:W2) (K:Array (Option WY)->List XH->Nat->Prop) (E:WY->W2->Prop),
     aO F m ((x,aE C (some dx) sl)::(dx,Xc ds n)::rest) s₀ s->kx w.params rest m as sl ds n K ->
     wpAny (model ae w) A (execs (EW as es) F.env) (fun fl s'=>IQ F m s₀ x dx C rest K s' fl) E s
 |[],es,_,sl,ds,n,s,K,E,R,H=>Xw ⟨sl,ds,n,H,R⟩
 |.slot a i v::as,es,hc,sl,ds,n,s,K,E,R,H=>Exists.elim H fun xv H=>Xa (Xn (ax FO R (ai (af (af hc))) H.1 (ax FO R (af (af (af hc))) hself
     (uQ FO (ai (af hc)) R hx (fun p hp=>X3 (Xx (hr p hp) hr2)) fun s' R'=>ix FO hh hx hr hr2 hself as _ (ai hc) _ _ _ _ _ _ R' H.2))))
 |.dict a v::as,es,hc,sl,ds,n,s,K,E,R,H=>Exists.elim H fun xv H=>Xa (Xn (ax FO R (ai (af (af hc))) H.1 (ax FO R (af (af (af hc))) hself
     (bb FO (ai (af hc)) rfl R hx (fun p hp=>X3 (hr p hp)) H.2.1 H.2.2.1 fun s' tk R'=>ix FO hh hx hr hr2 hself as _ (ai hc) _ _ _ _ _ _ R' (H.2.2.2 tk)))))
 |.inst v::as,es,hc,sl,ds,n,s,K,E,R,H=>H.1 _ fun l d sl' o hv hl hd=>Xa (wpAny_Assert_new hh (isTrue_plain (Call_ (bF FO R (af (ai (af hc))) (.inr ⟨My _,by decide +kernel,Jr⟩)
     (XZ (P:=fun qq=>True) rfl (fun h qq=>aB w _ h) (aq (Xz (ax FO R (af (af hc)) hv (Xz (bF FO R (ai (ai (af hc))) (.inl (MM _)) (args_nil ⟨trivial,
       isi_call (FO.G.X.keeps R.fr.keep) (fun M=>Xr.type (show Xr s.heap l (aE 79 (some d) sl') 79 (some o) from⟨(R.nw _ (.tail _ (.tail _ hl))).1,rfl,rfl,(R.nw _ (.tail _ (.tail _ hd))).1⟩)) (ED _) (fun e=>nomatch e)
         (wpAny_truthy_bool (ix FO hh hx hr hr2 hself as _ (ai hc) _ _ _ _ _ _ R H.2))⟩))))) rfl))) rfl) (by intros;rfl)))
theorem jR(FO:aa w F) (hh:A.handled=none) {x C:W3}{rest:ad} (hx:x≠dx) (hr:∀p∈rest,p.1<dx) (hr2:dx<x) (hself:m "self" = some (.ref x)) (as:List IS) (es:List Stmt) (hc:jx (KF w.params) C F.sc as es) (sl:Array (Option WY)) (ds:List XH) (n:Nat) (s:W2) (K:Array (Option WY)->List XH->Nat->Prop) (E:WY->W2->Prop)
   (R:aO F m ((x,aE C (some dx) sl)::(dx,Xc ds n)::rest) s₀ s) (H:kx w.params rest m as sl ds n K):wpAny (model ae w) A (execs es F.env) (fun fl s'=>IQ F m s₀ x dx C rest K s' fl) E s :=
 hc.eq▸ix FO hh hx hr hr2 hself as es hc.ok sl ds n s K E R H
end
end
section
theorem aa.with(FO:aa w F) (h:A.frames=F.A.frames):aa w {F with A:=A}:=⟨FO.B,h.trans FO.fr,FO.G,FO.kind,FO.gb⟩
section
variable {news:ad}
theorem yz(FO:aa w F) (hh:F.A.handled=none) (hdep:F.A.depth+2<Xh) (R:aO F m news s₀ s) {C fI:W3} (hm:makesIn (KF w.params) C=true) (hi:findIn (KF w.params) (.ref C) "__init__" = some (some (.ref fI)))
   (hf:isFn (KF w.params) (.ref fI)=true) (KO:bl w.params fI) {steps:List IS} (hchk:jx (KF w.params) C (ah w.params fI).scope steps (ay (ah w.params fI))) {vals:List WY}{binds:WY->List (Str×WY)}
   (hb:∀x s,(∀b o,(KF w.params).lookup b=some o->s.heap.get? b=some o)->lB s (ah w.params fI) ⟨.ref x::vals,[]⟩ (binds (.ref x))) (hloc:∀x,(binds x).all (fun y=>(ah w.params fI).scope.names.lookup y.1 == some .local)=true) (hself:∀x,(binds x).reverse.lookup (W8 "self")=some x)
   {K:Array (Option WY)->List XH->Nat->Prop} (hrun:∀x,kx w.params news (fun y=>(binds x).reverse.lookup y) steps #[] [] 0 K)
   (h:∀x dx sl es n s',K sl es n->aO F m ((x,aE C (some dx) sl)::(dx,Xc es n)::news) s₀ s'->(∀p∈news,p.1<dx)->dx<x->Q (.ref x) s') :
   wpAny (model ae w) F.A (call (.ref C) vals []) Q E s:=by
 refine call_cls R.fr FO.G.X R.nw hm hi hf fun x dx h' F' N' lt hlt=>?_
 have FO':aa w {F with A:=F.A.under (.builtin "type.__call__" ⟨.ref C::vals,[]⟩)}:=FO.with rfl
 have R':aO {F with A:=F.A.under (.builtin "type.__call__" ⟨.ref C::vals,[]⟩)} m ((x,aE C (some dx) #[])::(dx,Xc [] 0)::news) s₀ {s with heap:=h'}:=⟨F',N',R.gens,R.os,R.dr⟩
 have hd1:(F.A.under (.builtin "type.__call__" ⟨.ref C::vals,[]⟩)).depth=F.A.depth+1:=depth_under_kw _ _ _ _
 exact dk FO' (show(F.A.under _).depth<_ from hd1▸Nat.lt_of_succ_lt hdep) KO (hb x _ (fun b o e=>FO.G.X.keeps F'.keep b o e)) (hloc _) R' fun Uz Uq hA Ux he hsc Uo =>
   Xq (jR Ux (hA▸hh) (XC hlt) lt hlt (hself _) steps _ (hsc▸hchk) _ _ _ Uq K _ Uo (hrun _)) (fun fl Ut hq=>hq.casesOn fun sl es n hK Ur =>
     ⟨_,_,Ur,fun Uw=>⟨rfl,h x dx sl es n Ut hK ⟨Uw.fr,Uw.nw,Uw.gens,Uw.os,Uw.dr⟩ lt hlt⟩⟩) fun qq qq x=>x
end
noncomputable def Fw:List IS:=[.dict 5 "char",.dict 6 "loc"]
noncomputable def xC:List IS:=[.slot 7 1 "typ",.slot 8 2 "val",.inst "loc",.slot 6 0 "loc"]
theorem OA(P:W1):bl P 173:=⟨by kernel_rfl,by kernel_rfl,by kernel_rfl⟩
theorem Mj(P:W1):bl P 36:=⟨by kernel_rfl,by kernel_rfl,by kernel_rfl⟩
theorem Op(P:W1):jx (KF P) 183 (ah P 173).scope Fw (ay (ah P 173)):=⟨by kernel_rfl,by kernel_rfl⟩
theorem Mq(P:W1):jx (KF P) 47 (ah P 36).scope xC (ay (ah P 36)):=⟨by kernel_rfl,by kernel_rfl⟩
noncomputable def ju(K:Frag) (C fI:W3):Bool:=makesIn K C&&findIn K (.ref C) "__init__" == some (some (.ref fI))&&isFn K (.ref fI)
theorem M0(P:W1):ju (KF P) 183 173=true:=by kernel_rfl
theorem P2(P:W1):ju (KF P) 47 36=true:=by kernel_rfl
theorem dN{K:Frag}{C fI:W3} (h:ju K C fI=true):makesIn K C=true/\findIn K (.ref C) "__init__" = some (some (.ref fI))/\isFn K (.ref fI)=true:=⟨af (af h),eq_of_beq (ai (af h)),ai h⟩
theorem Bl(P:W1) (a b c:WY):X1 (ah P 173) ⟨[a,b,c],[]⟩=(pure [(W8 "self",a),(W8 "char",b),(W8 "loc",c)]:Sem (List (Str×WY))):=by kernel_rfl
theorem zY(P:W1) (a b c d:WY):X1 (ah P 36) ⟨[a,b,c,d],[]⟩=(pure [(W8 "self",a),(W8 "typ",b),(W8 "val",c),(W8 "loc",d)]:Sem (List (Str×WY))):=by kernel_rfl
theorem Gm(P:W1):aA (ah P 173).scope ["self", "char", "loc"]=true:=by kernel_rfl
theorem D7(P:W1):aA (ah P 36).scope ["self", "typ", "val", "loc"]=true:=by kernel_rfl
noncomputable def M6(w:Xj) {σ:Type} (J:cu σ) (F:Fm) (m:Str->Option WY) (st:σ) (fz:ad) (s:W2):Prop:=∀qC:Prop,(∀(mu:ad),J.I st mu fz s.gens->aO F m (mu++fz) s s->((mu++fz).map (·.1)).Nodup->qC)->qC
theorem RS.raw{J:cu σ} (R:RS w J F m st fz s):M6 w J F m st fz s:=by
 obtain⟨mu,hi,N,nd⟩:=R.led
 exact(fun qq qk=>qk mu hi ⟨R.fr,N,rfl,rfl,rfl⟩ nd)
theorem iY(q r:W3×Obj):∀p∈fz,p∈q::r::fz:=fun qq h=> .tail _ (.tail _ h)
theorem RS.of_raw2{J:cu σ} (JO:bZ J) {mu:ad} (hos:s.os=F.os) (hdr:s.drawn=F.dr) (hlo:F.base.objs.size<=J.la.lo) (hi:J.I st mu fz s.gens) (nd:((mu++fz).map (·.1)).Nodup) {x:W3}{d:Obj}
   (R:aO F m ((x,o)::(dx,d)::(mu++fz)) s s') (lt:∀p∈mu++fz,p.1<dx) (hlt:dx<x):RS w J F m st ((x,o)::(dx,d)::fz) s' :=
 have mid:∀p∈mu++(dx,d)::fz,p∈(dx,d)::(mu++fz):=fun qq h=>bH h
 ⟨R.fr,⟨mu,R.gens▸JO.mono _ _ _ _ _ hi (iY _ _),fun p hp=>R.nw p ((Xb.mp (bH hp)).elim (fun e=>e▸ .head _) fun h=> .tail _ (mid p h)),gJ (gJ nd lt) fun p hp=>(Xb.mp (mid p hp)).elim (fun e=>e▸hlt) fun h=>Xx (lt p h) hlt⟩,R.os.trans hos,R.dr.trans hdr,hlo⟩
end
section
theorem aU.lt2(h:aU A n):A.depth+2<Xh:=Xi (XG (WZ (XL _ n) h.depth) 2) (by decide)
section
variable {J:cu σ}
theorem Aa(JO:bZ J) (FO:aa w F) (LV:aU F.A n) (R:RS w J F m st fz s) {v:Str}{t1 t2:Tok}{r k:Int}{l:W3} (hl:eV fz r k l)
   (h:∀x fz' s',(∀p∈fz,p∈fz')->md fz' ty v r k x->RS w J F m st fz' s'->Q (.ref x) s'):wpAny (model ae w) F.A (call (.ref 47) [.str ty t1,.str v t2,.ref l] []) Q E s:=by
 refine R.raw _ ?_;rintro mu hi R' nd
 obtain⟨m1,m2,m3⟩:=dN (P2 w.params)
 refine(id hl) _ ?_;rintro sl tr tk d hl1 hl2 hl3 hl4
 refine yz FO LV.hd LV.lt2 R' m1 m2 m3 (Mj _) (Mq _) (binds:=fun x=>[(W8 "self",x),(W8 "typ",.str ty t1),(W8 "val",.str v t2),(W8 "loc",.ref l)])
   (fun x s qq=> .of_eq (zY _ _ _ _ _)) (fun x=>au (D7 _) rfl) (fun x=>by kernel_rfl)
   (K:=fun sl es n=>es=[]/\n=0/\(sl[1]?).join=some (.str ty t1)/\(sl[2]?).join=some (.str v t2)/\(sl[0]?).join=some (.ref l)) (fun x=>?_) fun x dx sl es n s' hK Uo lt hlt=>?_
 . refine⟨.str ty t1,by kernel_rfl,.str v t2,by kernel_rfl,(fun qq qk=>qk l d sl (Xc [] 0) (by kernel_rfl) (W4 _ hl1) (W4 _ hl2)),.ref l,by kernel_rfl,rfl,rfl,by kernel_rfl,by kernel_rfl,by kernel_rfl⟩
 . obtain⟨rfl,rfl,e1,e2,e3⟩:=hK
   refine h x _ s' (iY _ _) (fun qq qk=>qk sl t1 t2 l dx (.head _) (.tail _ (.head _)) e1 e2 e3 (hl.mono (iY _ _))) (RS.of_raw2 JO R.os R.dr R.lo hi nd Uo lt hlt)
end
end
section
theorem dX{id:String}{pl:Sem Bool}{Q:WY×List WY->W2->Prop} (slot:PySem.Slot "str" name id) (hty:typeOf (.builtin id)=pure (.type "method_descriptor"))
   (h:Q (.builtin id,[.str x t]) s):wpAny M A (getMethod (.str x t) name pl) Q E s:=by
 refine getMethod_builtin (T := "str") (id:=id) ?a ?b ?c ?d ?e ?f
 case a=>exact typeIs_str _ _ _
 case b=>exact PySem.F.plainAttrs_str
 case c=>exact slot
 case d=>exact hty
 case e=>exact fun qq e=>nomatch e
 case f=>exact h
theorem vn(sc:Scope) (h:sc.names.all (fun y=>!(y.2 == NameKind.free))=true) (env:Env):closureFor sc env=pure []:=by
 unfold closureFor
 have key:∀(l:List (Str×NameKind)),l.all (fun y=>!(y.2 == NameKind.free))=true->∀acc:List (Str×W3),
     (forIn l acc fun(x:Str×NameKind) (cs:List (Str×W3))=>(match x with
       |(name,kind)=>if (kind == NameKind.free)=true then do
           let y ←cellOf env name
           let cs:=(name,y)::cs
           pure PUnit.unit
           pure (ForInStep.yield cs)
         else do
           pure PUnit.unit
           pure (ForInStep.yield cs):Sem (ForInStep (List (Str×W3)))))=(pure acc:Sem _):=by
   intro l
   induction l with
   |nil=>intro qq acc;rfl
   |cons a l ih =>
     intro h acc
     obtain⟨n,k⟩:=a
     rw[List.all_cons] at h
     obtain⟨h1,h2⟩:=Bool.and_eq_true_iff.mp h
     have h1':(k == NameKind.free)=false:=by simpa using h1
     rw[List.forIn_cons]
     show(_ >>= _)=_
     simp only[h1',Bool.false_eq_true,if_false]
     exact ih h2 acc
 exact(congrArg (fun x:Sem (List (Str×W3))=>x >>= fun r=>pure r) (key sc.names h [])).trans rfl
noncomputable def sN:List Str:=["self", "typ", "val", "loc", "token"]
noncomputable def tJ:Ts :=
   (.cons (.asg 3 (.attr (.sub (.attr (.loc 0) 2) (.k (.int 0))) 6))
   (.cons (.asg 4 (.call (.glob 1) (.cons (.loc 1) (.cons (.loc 2) (.cons (.loc 3) .nil)))))
   (.cons (.exp (.mcall (.attr (.loc 0) 0) 40 (.cons (.loc 4) .nil)))
   (.cons (.exp (.mcall (.attr (.loc 0) 2) 43 .nil))
   .nil))))
noncomputable def PJ(sc:Scope) (cn:Str):Bool:=((!sc.isCoroutine&&sc.names.all (fun y=>!(y.2 == NameKind.free)))&&(sc.names.all (fun y=>!(y.2 == NameKind.cell))&&sc.names.lookup (".0" : Str) == some .local))&&((sc.names.lookup cn == some .local&&sc.kind == .function)&&!(cn == ("__debug__" : Str)))
theorem pX{cn:Str} (h:PJ sc cn=true):pr sc cn :=
 ⟨dq (af (af (af h))),vn sc (ai (af (af h))),fun y hy e=>absurd (dq (X7.mp (af (ai (af h))) y hy)) (by rw[e];exact XW),eq_of_beq (ai (ai (af h))),eq_of_beq (af (af (ai h))),eq_of_beq (ai (af (ai h))),dq (ai (ai h))⟩
theorem ln{sc':Scope} (h:sc=sc') (k:ak sc' x=true):ak sc x=true:=h▸k
theorem gn{sc':Scope} (h:sc=sc') (k:bO sc' x=true):bO sc x=true:=h▸k
theorem Rv(P:W1):ay (ah P 230)=B0 230:=by kernel_rfl
theorem P5(P:W1):(ah P 230).scope=S0 230:=by kernel_rfl
theorem OT:cq jL (S0 230) sN tJ (B0 230).tail:=⟨by kernel_rfl,by kernel_rfl⟩
theorem Mi(P:W1):bl P 230:=⟨by kernel_rfl,by kernel_rfl,by kernel_rfl⟩
theorem MP(P:W1):(ah P 230).code= .ref 229:=by kernel_rfl
theorem Dx(P:W1) (a b:WY):X1 (ah P 230) ⟨[a,b],[]⟩=(pure [(W8 "self",a),(W8 "typ",b)]:Sem (List (Str×WY))):=by kernel_rfl
theorem ET(P:W1):aA (ah P 230).scope ["self", "typ"]=true:=by kernel_rfl
theorem uj:sN.Nodup:=by decide +kernel
noncomputable def FS:V->Option (Int×Int)
 |.loc r k=>some (r,k)
 |_=>none
theorem ub{v:V}{x:Int×Int} (h:FS v=some x):v= .loc x.1 x.2:=db (f:=fun x:Int×Int=>V.loc x.1 x.2) (d:=(0,0)) (by cases v<;>first|exact .inl rfl|exact .inr rfl) h
noncomputable def PW:Hd L0:=h3 fun x y z st K qq=>opt (strO x) fun ty=>opt (strO y) fun v=>opt (FS z) fun p=>K (.tok ty v p.1 p.2) st
noncomputable def Lu:Nat->Hd L0:=cD 147 PW ww
theorem yl(SO:eL S) (NO:kU w la S) (hn:20<=n):aW w (J0 w.params la S) n Lu :=
 .ref (a:=47) (fun F m st fz s vs xs kw xk K X Q E FO LV R rvs rk h P PE=>(rW h rvs rk).casesOn fun x y z v u t r1 r2 r3 h=>by
   obtain⟨ty,hy,h⟩:=ac h
   obtain⟨v,hv,h⟩:=ac h
   obtain⟨p,hp,h⟩:=ac h
   obtain⟨qq,rfl⟩:=r1.strO hy
   obtain⟨qq,rfl⟩:=r2.strO hv
   obtain rfl:=ub hp
   obtain⟨l,rfl,hl⟩:=r3.view
   exact Aa (jY SO) FO LV R hl fun x fz' s' hf ht R'=>P _ _ _ _ _ h hf R' (.tok ht)) (di NO hn)
theorem wc(cs:List Ch):signs (iQ cs)=cs.map fun c=>(⟨#[c.c]⟩:Str):=by
 unfold signs iQ
 simp
theorem Dl(cs:List Ch):(iQ cs).length=cs.length:=(XO ..).trans (XR ..)
theorem lV{cs:List Ch}{l:List (Str×Tok)} (h:ItemsOf (fun i v=>∃c t,cs[i]?=some c/\v= .str ⟨#[c.c]⟩ t) (strValues l).toArray cs.length):l.map (·.1)=signs (iQ cs):=by
 rw[wc]
 obtain⟨h1,h2⟩:=h
 have hl:l.length=cs.length:=(XR ..).symm.trans ((XO ..).symm.trans h1)
 apply List.ext_getElem?
 intro i
 rw[List.getElem?_map,List.getElem?_map]
 rcases hi:l[i]? with qq|p
 . rw[List.getElem?_eq_none (hl▸List.getElem?_eq_none_iff.mp hi)];rfl
 ·
   have e:(strValues l).toArray[i]?=some (.str p.1 p.2):=by
     rw[Ya];unfold strValues;rw[List.getElem?_map,hi];rfl
   obtain⟨c,t,hc,hv⟩:=h2 i _ e
   rw[hc]
   injection hv with h3 h4
   exact congrArg some h3
end
section
section
variable {st:LS}
theorem vh{x:Ch}{xs:List Ch}{a:Nat} (z:a+(x::xs).reverse.length+n<=90000):a+1+0+n<=90000 :=
 WZ (XG (XB (show 1<=(x::xs).reverse.length from(List.length_reverse (as:=x::xs)).symm▸XX (Nat.zero_le _)) a) n) z
theorem u2(Z:Z0 w la S) (FO:aa w F) (LV:aU F.A 22) {a:List V}{cs:List Ch} (R:RS w (J1 w.params la S) F m ⟨a,cs,r⟩ fz s) {x:Ch}{xs:List Ch} (hx:cs.reverse=x::xs) {K:V->LS->Prop}
   (h:K .none ⟨a++[.tok ty (iQ (x::xs)) x.r x.k],[],r⟩) (P:a8 w (J1 w.params la S) F m fz K Q):wpAny (model ae w) F.A (call (.ref 230) [.ref la.lx,.str ty t] []) Q E s:=by
 refine R.down _ ?_;rintro b rest R0 e z
 obtain rfl:r=b++rest:=e
 have hr:cs=(x::xs).reverse:=(List.reverse_reverse cs).symm.trans (congrArg _ hx)
 subst hr
 have R0':RS w (J0 w.params la S) F m ⟨a,b.map .chr,(x::xs).map .chr,rest⟩ fz s:=(List.reverse_reverse (x::xs))▸R0
 have zc:xs.length+1<=100000:=WZ (W9 (List.length_reverse (as:=x::xs)).symm) (ic z)
 have za:a.length<=100000:=WZ (WZ (WZ (XL _ _) (XL _ _)) z) (by decide)
 refine wpAny_call (fo FO LV (Mi _) (.of_eq (Dx _ _ _)) (au (ET _) rfl) R0' fun F' s' C FO' LV' he hsc R'=>?_)
 have hS:=hsc.trans (P5 _)
 have hcd:F'.cd= .ref 229:=(congrArg Env.code he).trans (MP w.params)
 have OO:=em (w:=w) (n:=21) Z.SO Z.more (yl (w:=w) Z.SO Z.NO (by decide:20<=21))
 have e:ay (ah w.params 230)= .Assign [.Name "val" _] (.Call (.Attribute (.Constant (.str "") _ _) "join" _) [.GeneratorExp (.Attribute (.Name "c" _) (AN 5) _) [⟨.Name "c" _,.Attribute (.Name "self" _) (AN 2) _,[],0⟩] _ _] [] _) _::(B0 230).tail:=(Rv _).trans rfl
 rw[e]
 refine Xa (XK (methodCall_KW (pl:=(do return (←importBound _ F'.env).getD true)) (kws:=[]) (X4 ?_) (bI rfl rfl rfl)) (by rfl))
 with_reducible refine dX PySem.F.slot_str_join PySem.F.type_str_join ?_
 refine XZ (P:=fun qq=>True) rfl (fun h qq=>aB w _ h) (aq (Xz (vF (la:=la) (fz:=fz) (m:=fun y=>List.lookup y [(W8 "self",Value.ref la.lx),(W8 "typ",Value.str ty t)].reverse) (st:=⟨a,b.map .chr,(x::xs).map .chr,rest⟩) (cs:=x::xs) Z.SO FO' LV'.hd LV'.lt hcd (pX (by kernel_rfl)) rfl
   (Attribute_any_ (ld (R'.toks _).fr (v:= .ref la.lx) (by kernel_rfl) (eZ (a:=2) Bp FO' (R'.toks _) rfl fun qq=>⟨rfl,(R'.toks _).toks _⟩) FO'.kind (eq_of_beq (af (ln hS (by kernel_rfl)))) rfl) (by rw[X8,al rfl])) (fun qq=>rfl) fun g gi wr fp St Uq W hst hT hin hlt back=>args_nil ⟨trivial,?_⟩) rfl) rfl)
 show wpAny (model ae w) F'.A (call (.builtin "str.join") [.str (W8 "") s'.toks,.ref g] []) _ _ Uq
 have e0:W8 "" = (⟨#[]⟩:Str):=by kernel_rfl
 refine SC.joinGen W.in4_2 hT hst hlt hin (fun i v hv=>hv.elim fun c hv=>hv.elim fun t hv=>⟨_,_,hv.2⟩) (fun Ut l mv hit=>⟨?_,fun t' k=>?_⟩) (WZ zc (by decide))
 . rw[lV hit]
   exact joinOk_signsN (N:=100000) (S:=0) ((Dl (x::xs)).symm▸zc) (e0▸Xl _) (by decide)
 . have ej:Txt.join (W8 "") (l.map (·.1))=iQ (x::xs):=by rw[lV hit,e0];exact(eq_of_beq (join_plain_closes _ _)).trans (join_nil_signs _)
   rw[ej]
   refine aM FO' ((back Ut mv).toks k) (ln hS (by kernel_rfl)) fun UB Uw=>?_
   refine n9 (Ex:=fun qq qq=>False) OO FO' LV' uj tJ _ (hS▸OT) _ [some .self,some (.str ty),some (.str (iQ (x::xs))),none,none] ⟨a,b.map .chr,(x::xs).map .chr,rest⟩ _ _ (fun fl qq st'=>fl= .next/\st'=⟨a++[V.tok ty (iQ (x::xs)) x.r x.k],b.map .chr,([]:List Ch).reverse.map .chr,rest⟩) _ _
     (show a.length<=100000/\(xs.map V.chr).length+1<=100000/\Fl.next= .next/\(⟨a++[V.tok ty (iQ (x::xs)) x.r x.k],b.map .chr,[],rest⟩:L0)=_ from⟨za,(fg xs).symm▸zc,rfl,rfl⟩)
     Uw ((y4 (P:=w.params) (la:=la) (fz:=fz) (ns:=["val", "loc", "token"]) (us:=[none,none,none]) (bJ 3) (by decide +kernel) (.self) (.str ty t)).set uj (i:=2) rfl (.str _ _))
     (fun fl ρ' st' fz' m' s'' xf hk hf R'' L'' rf=>?_) (fun qq qq qq qq qq hx=>hx.elim) PassesOwn.leaving
   obtain⟨rfl,rfl⟩:=hk
   cases rf
   have z':=AE (a:=a++[.tok ty (iQ (x::xs)) x.r x.k]) (c:=[]) (b:=b) (rest:=rest) (WZ (W9 (by rw[Xg];rfl)) (vh (iE z)))
   exact⟨m',_,fz',R'',fun UE=>P _ _ _ _ _ h hf (UE.lift (b:=b) (c:=[]) z') .none⟩
end
end
section
noncomputable def qD(st:LS) (K:V->LS->Prop):Prop:=match st.r with|[]=>K .none st|c::r=>K (.chr c) ⟨st.a,c::st.c,r⟩
noncomputable def Il(st:LS) (X:bE->LS->Prop):Prop:=match st.r with|[]=>X none st|c::r=>X (some (c.r,c.k)) ⟨st.a,c::st.c,r⟩
structure DJ(w:Xj) (la:LA) (S:bR):Prop where
 ok:∀F m st fz s v xv (X:bE->LS->Prop) Q E,aa w F->aU F.A 24->RS w (J1 w.params la S) F m st fz s->RV w.params la fz (.str v) xv ->
   Il st X->bz (J1 w.params la S) F fz X E->wpAny (model ae w) F.A (call (.ref 265) [.ref la.lx,xv] []) Q E s
noncomputable abbrev Ak:=Nat->Hd LS
noncomputable def pn(st:LS) (ty:Str) (K:V->LS->Prop):Prop:=match st.c.reverse with
 |x::xs=>K .none ⟨st.a++[.tok ty (iQ (x::xs)) x.r x.k],[],st.r⟩
 |[]=>False
noncomputable def FY:V->Option (Option Ch)
 |.none=>some none
 |.chr c=>some (some c)
 |_=>none
noncomputable abbrev Jn:Option Ch->V
 |none=> .none
 |some c=> .chr c
theorem Cn{v:V}{x:Option Ch} (h:FY v=some x):v=Jn x:=db (f:=Jn) (d:=none) (by cases v<;>first|exact .inl rfl|exact .inr rfl) h
noncomputable def En(o:Option Ch) (st:LS) (K:V->LS->Prop):Prop:=match o with
 |none=>K .none st
 |some c=>(match st.c with|x::xs=>x=c/\K .none ⟨st.a,xs,c::st.r⟩|[]=>False)
noncomputable def Rk:Ak:=cD 316 (s1 fun st K qq=>qD st K) (cD 323 (s2 fun x st K qq=>opt (FY x) fun o=>En o st K) (cD 330 (sS fun ty st K qq=>pn st ty K)
 (cD 337 (s1 fun st K qq=>K .none ⟨st.a,[],st.r⟩) (cD 365 (sS fun qq st qq X=>Il st X) qm))))
noncomputable abbrev uZ(c:Ak) (sb:V->V->LS->Option V):lz LS:=oO false (fun qq qq=>none) c sb
structure Z1(w:Xj) (la:LA) (S:bR):Prop where
 Z:Z0 w la S
 JL:f9 w (J1 w.params la S)
 EO:DJ w la S
section
theorem B3(Z:Z0 w la S) (hn:21<=n):cw w (J1 w.params la S) n (.ref 223) (s2 fun x st K qq=>opt (FY x) fun o=>En o st K):=fun F m st fz s vs xs kw xk K X Q E FO LV R rvs rk h P PE=>(rn h rvs rk).casesOn fun y u ry h=>by
 obtain⟨o,ho,h⟩:=ac h
 obtain rfl:=Cn ho
 rcases o with qq|c
 . obtain rfl:=ry.view;exact oo Z FO (LV.le hn) R h P
 ·
   obtain⟨sa,sc,sr⟩:=st
   rcases sc with qq|⟨x,xs⟩
   . exact h.elim
   ·
     obtain⟨rfl,h⟩:=h
     exact oH Z FO (LV.le hn) R ry h P
theorem Bu(Z:Z0 w la S) (hn:22<=n):cw w (J1 w.params la S) n (.ref 230) (sS fun ty st K qq=>pn st ty K):=fun F m st fz s vs xs kw xk K X Q E FO LV R rvs rk h P PE=>(w7 h rvs rk).casesOn fun y u ry h=>by
 obtain⟨t,rfl⟩:=ry.view
 obtain⟨sa,sc,sr⟩:=st
 have h':(match sc.reverse with|x::xs=>K .none ⟨sa++[.tok y (iQ (x::xs)) x.r x.k],[],sr⟩|[]=>False):=h
 rcases hc:sc.reverse with qq|⟨x,xs⟩
 . rw[hc] at h';exact h'.elim
 . rw[hc] at h';exact u2 Z FO (LV.le hn) R hc h' P
theorem zj{J:cu σ}{g:WY}{f:σ->(V->σ->Prop)->(bE->σ->Prop)->Prop} (h:∀F m st fz s K X Q E,aa w F->aU F.A n->RS w J F m st fz s->f st K X->a8 w J F m fz K Q->bz J F fz X E->wpAny (model ae w) F.A (call g [.ref J.la.lx] []) Q E s):cw w J n g (s1 f) :=
 fun F m st fz s vs xs kw xk K X Q E FO LV R rvs rk hh P PE=>by
   obtain⟨rfl,rfl,hh⟩:=rj hh rvs rk
   exact h F m st fz s K X Q E FO LV R hh P PE
theorem pc{J:cu σ}{g:WY}{f:Str->σ->(V->σ->Prop)->(bE->σ->Prop)->Prop} (h:∀F m st fz s y u K X Q E,aa w F->aU F.A n->RS w J F m st fz s->RV w.params J.la fz (.str y) u->f y st K X->a8 w J F m fz K Q->bz J F fz X E->wpAny (model ae w) F.A (call g [.ref J.la.lx,u] []) Q E s):cw w J n g (sS f) :=
 fun F m st fz s vs xs kw xk K X Q E FO LV R rvs rk hh P PE=>(w7 hh rvs rk).casesOn fun y u ry hh=>h F m st fz s y u K X Q E FO LV R ry hh P PE
theorem nA(Y:Z1 w la S) (hn:24<=n):aW w (J1 w.params la S) n Rk :=
 .ref (a:=216) (zj fun F m st fz s K X Q E FO LV R h P qq=>iS Y.Z FO (LV.le (WZ (by decide) hn)) R h P) (.ref (a:=223) (B3 Y.Z (WZ (by decide) hn)) (.ref (a:=230) (Bu Y.Z (WZ (by decide) hn))
   (.ref (a:=237) (zj fun F m st fz s K X Q E FO LV R h P qq=>pj Y.Z FO (LV.le (WZ (by decide) hn)) R h P) (.ref (a:=265) (pc fun F m st fz s y u K X Q E FO LV R ry h P PE=>Y.EO.ok F m st fz s y u X Q E FO (LV.le hn) R ry h PE) .nil))))
end
theorem jQ(Y:Z1 w la S) {c:Ak} (hc:aW w (J1 w.params la S) n c):aI w (J1 w.params la S) (uZ c fun qq qq qq=>none) n :=
 eX (ef Y.Z.SO) sh (fun h=>ly h) (fun qq qq qq qq qq qq qq qq qq qq qq qq qq h=>bN h) hc (fun qq qq qq qq qq qq qq qq qq qq qq qq qq qq qq qq qq qq qq qq qq h=>bN h)
noncomputable def jd:List Str:=["self", "valid", "char"]
noncomputable def l8:Ts :=
   (.cons (.asg 2 (.mcall (.loc 0) 30 .nil))
   (.cons (.ite (.tand (.loc 2) (.cmp .In (.attr (.loc 2) 5) (.loc 1))) (.cons (.ret (.k (.bool true)))
   .nil) (.cons (.exp (.mcall (.loc 0) 31 (.cons (.loc 2) .nil)))
   (.cons (.ret (.k (.bool false)))
   .nil)))
   .nil))
noncomputable def eH:List Str:=["self", "valid"]
noncomputable def gU:Ts :=
   (.cons (.wh (.mcall (.loc 0) 34 (.cons (.loc 1) .nil)) (.cons .pass
   .nil))
   .nil)
noncomputable def jg:List Str:=["self", "valid"]
noncomputable def mI:Ts :=
   (.cons (.ite (.tnot (.mcall (.loc 0) 34 (.cons (.loc 1) .nil))) (.cons .dead .nil) .nil)
   .nil)
noncomputable def gC(v:Str) (st:LS) (K:V->LS->Prop):Prop:=match st.r with
 |[]=>K (.bool false) st
 |c::r=>(match ck c.c v with|true=>K (.bool true) ⟨st.a,c::st.c,r⟩|false=>K (.bool false) st)
noncomputable def fY(v:Str):List Ch->List Ch->List Ch×List Ch
 |c,[]=>(c,[])
 |c,x::r=>match ck x.c v with|true=>fY v (x::c) r|false=>(c,x::r)
noncomputable def Su:Ak:=cD 344 (sS fun v st K qq=>gC v st K) Rk
noncomputable def Sl:Ak:=cD 351 (sS fun v st K qq=>K .none ⟨st.a,(fY v st.c st.r).1,(fY v st.c st.r).2⟩) Su
theorem LU(P:W1):bl P 244:=⟨by kernel_rfl,by kernel_rfl,by kernel_rfl⟩
theorem NY(P:W1):bl P 251:=⟨by kernel_rfl,by kernel_rfl,by kernel_rfl⟩
theorem HS(P:W1):cq jL (ah P 244).scope jd l8 (ay (ah P 244)):=⟨by kernel_rfl,by kernel_rfl⟩
theorem ES(P:W1):cq jL (ah P 251).scope eH gU (ay (ah P 251)):=⟨by kernel_rfl,by kernel_rfl⟩
theorem A0(P:W1) (a b:WY):X1 (ah P 244) ⟨[a,b],[]⟩=(pure [(W8 "self",a),(W8 "valid",b)]:Sem (List (Str×WY))):=by kernel_rfl
theorem A3(P:W1) (a b:WY):X1 (ah P 251) ⟨[a,b],[]⟩=(pure [(W8 "self",a),(W8 "valid",b)]:Sem (List (Str×WY))):=by kernel_rfl
theorem HH(P:W1):aA (ah P 244).scope ["self", "valid"]=true:=by kernel_rfl
theorem HJ(P:W1):aA (ah P 251).scope ["self", "valid"]=true:=by kernel_rfl
theorem uW:jd.Nodup:=by decide +kernel
theorem lJ:eH.Nodup:=by decide +kernel
theorem rp{c:Ch}{v:Str} (h:ck c.c v=b):rB .In (.str ⟨#[c.c]⟩) (.str v)=some (.bool b):=congrArg (fun b=>some (V.bool b)) h
section
variable {st:LS}
theorem oV(Y:Z1 w la S) (FO:aa w F) (LV:aU F.A 25) (R:RS w (J1 w.params la S) F m st fz s) {v:Str} (rv:RV w.params la fz (.str v) xv) {K:V->LS->Prop}
   (h:gC v st K) (P:a8 w (J1 w.params la S) F m fz K Q):wpAny (model ae w) F.A (call (.ref 244) [.ref la.lx,xv] []) Q E s:=by
 refine fD (n:=24) (ns:=jd) (ir:=l8) (ρ:=[some .self,some (.str v),none]) (K:=K) (Ex:=fun qq qq=>False) (jQ Y (nA Y (Xl _))) Y.JL FO LV (LU _)
   (.of_eq (A0 _ _ _)) (au (HH _) rfl) uW (HS _) R (y4 (ns:=["char"]) (us:=[none]) (bJ 1) (by decide +kernel) .self rv) ?_ P (fun qq qq qq qq qq hx=>hx.elim)
 obtain⟨sa,sc,sr⟩:=st
 rcases sr with qq|⟨c,r⟩
 . exact h
 ·
   have h':(match ck c.c v with|true=>K (.bool true) ⟨sa,c::sc,r⟩|false=>K (.bool false) ⟨sa,sc,c::r⟩):=h
   rcases hm:ck c.c v with qq|qq
   . rw[hm] at h';exact(fX (rp hm) ⟨rfl,h'⟩:opt (rB .In (.str ⟨#[c.c]⟩) (.str v)) fun q=>opt (fi q) fun b=>match b with|true=>K (.bool true) ⟨sa,c::sc,r⟩|false=>c=c/\K (.bool false) ⟨sa,sc,c::r⟩)
   . rw[hm] at h';exact(fX (rp hm) h':opt (rB .In (.str ⟨#[c.c]⟩) (.str v)) fun q=>opt (fi q) fun b=>match b with|true=>K (.bool true) ⟨sa,c::sc,r⟩|false=>c=c/\K (.bool false) ⟨sa,sc,c::r⟩)
theorem yy(Y:Z1 w la S) (hn:25<=n):aW w (J1 w.params la S) n Su :=
 .ref (a:=244) (pc fun F m st fz s y u K X Q E FO LV R ry h P PE=>oV Y FO (LV.le hn) R ry h P) (nA Y (Nat.le_of_succ_le hn))
theorem zg{v:Str}{tst:List (Option V)->LS->(Bool->LS->Prop)->Prop}{bdy:List (Option V)->LS->(Fl->List (Option V)->LS->Prop)->Prop}{K:Fl->List (Option V)->LS->Prop}
   (ht:∀st K0,gC v st (fun u s=>match u with| .bool b=>K0 b s|_=>False)->tst ρ st K0) (hb:∀st K0,K0 .next ρ st->bdy ρ st K0) :
   ∀(st:LS),K .next ρ ⟨st.a,(fY v st.c st.r).1,(fY v st.c st.r).2⟩->lX tst bdy K (st.r.length+1) ρ st:=by
 rintro⟨a,c,r⟩ h
 induction r generalizing c with
 |nil=>exact ht _ _ h
 |cons x r ih =>
   refine ht _ _ ?_
   show(match ck x.c v with|true=>_|false=>_)
   have h':K .next ρ ⟨a,(match ck x.c v with|true=>fY v (x::c) r|false=>(c,x::r)).1,(match ck x.c v with|true=>fY v (x::c) r|false=>(c,x::r)).2⟩:=h
   rcases hm:ck x.c v with qq|qq
   . rw[hm] at h';exact h'
   . rw[hm] at h';exact hb _ _ (ih (x::c) h')
theorem nN{v:Str}{st:LS}{K K':V->LS->Prop} (k:∀u s,K u s->K' u s) (h:gC v st K):gC v st K':=by
 obtain⟨a,c,r⟩:=st
 rcases r with qq|⟨x,r⟩
 . exact k _ _ h
 ·
   have h':(match ck x.c v with|true=>K (.bool true) ⟨a,x::c,r⟩|false=>K (.bool false) ⟨a,c,x::r⟩):=h
   show(match ck x.c v with|true=>K' (.bool true) ⟨a,x::c,r⟩|false=>K' (.bool false) ⟨a,c,x::r⟩)
   rcases hm:ck x.c v with qq|qq
   . rw[hm] at h';exact k _ _ h'
   . rw[hm] at h';exact k _ _ h'
theorem jE(Y:Z1 w la S) (FO:aa w F) (LV:aU F.A 26) (R:RS w (J1 w.params la S) F m st fz s) {v:Str} (rv:RV w.params la fz (.str v) xv) {K:V->LS->Prop}
   (h:K .none ⟨st.a,(fY v st.c st.r).1,(fY v st.c st.r).2⟩) (P:a8 w (J1 w.params la S) F m fz K Q):wpAny (model ae w) F.A (call (.ref 251) [.ref la.lx,xv] []) Q E s:=by
 refine fD (n:=25) (ns:=eH) (ir:=gU) (ρ:=[some .self,some (.str v)]) (K:=K) (Ex:=fun qq qq=>False) (jQ Y (yy Y (Xl _))) Y.JL FO LV (NY _)
   (.of_eq (A3 _ _ _)) (au (HJ _) rfl) lJ (ES _) R (y4 (ns:=[]) (us:=[]) (fun qq=>rfl) (by decide +kernel) .self rv) ?_ P (fun qq qq qq qq qq hx=>hx.elim)
 exact⟨st.r.length+1,zg (v:=v) (fun st K0 hk=>(nN (fun u s e=>by cases u<;>first|exact e|exact e.elim) hk:gC v st fun u s=>opt (fi u) fun b=>K0 b s)) (fun st K0 hk=>hk) st h⟩
theorem yr(Y:Z1 w la S) (hn:26<=n):aW w (J1 w.params la S) n Sl :=
 .ref (a:=251) (pc fun F m st fz s y u K X Q E FO LV R ry h P PE=>jE Y FO (LV.le hn) R ry h P) (yy Y (Nat.le_of_succ_le hn))
end
end
section
noncomputable def AU(old:Bool):Str:=match old with|true => "c89" |false => "c99"
noncomputable def dP(w:Xj) (fz:ad) (co:W3) (old:Bool):Prop:=∀qC:Prop,(∀(d:W3) (es:List XH) (n:Nat) (sd:W3) (so:Obj) (kvs:List (Str×WY)) (t:Tok),(co,Xu 507 d)∈fz->(d,Xc es n)∈fz->getL "settings" es=some (some (.ref sd))->(sd,so)∈fz->so.IsDictOf (PySem.strKind ae w) kvs ->
   PySem.valueAt kvs ("std" : Str)=some (.str (AU old) t)->PySem.valueAt kvs ("trigraphs" : Str)=some (.bool false)->qC)->qC
theorem dP.mono{old:Bool} (h:∀p∈fz,p∈fz') (x:dP w fz co old):dP w fz' co old :=
 x _ fun d es n sd so kvs t a b c e f g i=>(fun qq qk=>qk d es n sd so kvs t (h _ a) (h _ b) c (h _ e) f g i)
theorem Ku(P:W1):plainGet (KF P) 507 "settings" = true:=by kernel_rfl
theorem OF(P:W1):hasDictIn (KF P) 507=true:=by kernel_rfl
theorem NU(P:W1):findIn (KF P) (.ref 507) "settings" = some none:=by kernel_rfl
theorem PL(P:W1):findIn (KF P) (.ref 507) "__getitem__" = some (some (.ref 497)):=by kernel_rfl
theorem PK(P:W1):fnIn (KF P) 497=true:=by kernel_rfl
theorem Rs(P:W1):isFn (KF P) (.ref 497)=true:=by kernel_rfl
theorem Oq(P:W1):bl P 497:=⟨by kernel_rfl,by kernel_rfl,by kernel_rfl⟩
theorem Ba(P:W1) (a b:WY):X1 (ah P 497) ⟨[a,b],[]⟩=(pure [(W8 "self",a),(W8 "index",b)]:Sem (List (Str×WY))):=by kernel_rfl
theorem FJ(P:W1):aA (ah P 497).scope ["self", "index"]=true:=by kernel_rfl
theorem Re(P:W1):ay (ah P 497)=B0 497:=by kernel_rfl
theorem Pt(P:W1):(ah P 497).scope=S0 497:=by kernel_rfl
section
variable {J:cu σ}
theorem dy(FO:aa w F) (R:RS w J F m st fz s) {A:Yc}{x:Str}{v:WY}{q:Pos}{E Q:WY->W2->Prop} (hx:ak F.sc x=true) (hv:m x=some v) (h:Q v s):wpAny (model ae w) A (eval (.Name x q) F.env) Q E s:=by
 exact ld R.fr hv h FO.kind (eq_of_beq (af hx)) (dq (ai hx))
theorem nZ(FO:aa w F) (LV:aU F.A (n+1)) (R:RS w J F m st fz s) {old:Bool} (OI:dP w fz co old) {K:V->σ->Prop}
   (h:(x=("std" : Str)/\K (.str (AU old)) st)\/(x=("trigraphs" : Str)/\K (.bool false) st)) (P:a8 w J F m fz K Q):wpAny (model ae w) F.A (call (.ref 497) [.ref co,.str x t] []) Q E s:=by
 refine OI _ ?_;rintro d es k sd so kvs t' h1 h2 h3 h4 h5 h6 h7
 refine wpAny_call (fo FO LV (Oq _) (.of_eq (Ba _ _ _)) (au (FJ _) rfl) R fun F' s' C FO' LV' he hsc R'=>?_)
 have hS:=hsc.trans (Pt _)
 have e:ay (ah w.params 497)=[.Return (some (.Subscript (.Attribute (.Name "self" _) "settings" _) (.Name "index" _) _)) _]:=(Re _).trans rfl
 rw[e]
 refine Xa (wpAny_Return_some (Subscript_ (Attribute_any_ (dy FO' R' (v:= .ref co) (ln hS (by kernel_rfl)) (by kernel_rfl) ?_) (by rw[X8,al rfl]))))
 refine get_own R'.fr FO'.G.X (⟨R'.get h1,rfl,rfl,R'.get h2⟩:Xr s'.heap co (Xu 507 d) 507 (some (Xc es k))) (Ku _) (OF _) (NU _) rfl h3 rfl ?_
 refine dy FO' (R'.toks _) (v:= .str x t) (ln hS (by kernel_rfl)) (by kernel_rfl) (kdt_tail (knd:=PySem.strKind ae w) (R'.toks _).news h4 h5 ?_)
 obtain⟨v,xv,hv,hk,rv⟩:∃v xv,PySem.valueAt kvs x=some xv/\K v st/\RV w.params J.la fz v xv:=by
   rcases h with⟨rfl,hk⟩|⟨rfl,hk⟩
   . exact⟨_,_,h6,hk,.str _ _⟩
   . exact⟨_,_,h7,hk,.bool _⟩
 exact kdt_getItem (knd:=PySem.strKind ae w) (s:={s' with toks:=s'.toks+1}) (R'.toks _).news h4 h5 (strKind_is _ _ _ _) hv ⟨_,st,fz,(R'.toks _).toks _,fun Ur=>P _ _ _ _ _ hk ag Ur rv⟩
theorem oD(FO:aa w F) (LV:aU F.A (n+2)) (R:RS w J F m st fz s) {old:Bool} (OI:dP w fz co old) {value slice:W5} (hs:ft slice=false) {K:V->σ->Prop}
   (h:(x=("std" : Str)/\K (.str (AU old)) st)\/(x=("trigraphs" : Str)/\K (.bool false) st)) (P:a8 w J F m fz K Q):wpAny (model ae w) F.A (subscriptTail value slice (.ref co) (.str x t)) Q E s:=by
 refine(id OI) _ ?_;rintro d es k sd so kvs t' h1 h2 h3 h4 h5 h6 h7
 refine sub_K R.fr FO.G.X (⟨R.get h1,rfl,rfl,R.get h2⟩:Xr s.heap co (Xu 507 d) 507 (some (Xc es k))) (PL _) (PK _) (Rs _) ?_ (by cases slice<;>first|rfl|exact ly hs.symm)
 have LV':aU F.A.in1 (n+1):=LV.in1
 exact nZ (F:={F with A:=F.A.in1}) (FO.with rfl) LV' ⟨R.fr,R.led,R.os,R.dr,R.lo⟩ OI h fun v st' fz' s' xv hk hf R' rv=>P _ _ _ _ _ hk hf ⟨R'.fr,R'.led,R'.os,R'.dr,R'.lo⟩ rv
end
end
section
noncomputable def Rc(w:Xj) (la:LA) (S:bR) (F:Fm) (st:LS) (fz:ad) (p:bE) (e:WY) (s:W2):Prop:=∀qC:Prop,(∀(b rest:List Ch),rU (I0 w.params la S) F ⟨st.a,b.map .chr,st.c.reverse.map .chr,rest⟩ fz p e s->st.r=b++rest->st.room->qC)->qC
theorem CP{st:LS} (h:rU (I1 w.params la S) F st fz p e s):Rc w la S F st fz p e s :=
 h _ fun x d es n mu B h1 h2 h3 h h5 h6 h7 h8 h9 h10 h11=>h _ fun b rest hI e1 z=>(fun qq qk=>qk b rest (fun qq qk=>qk x d es n mu B h1 h2 h3 hI h5 h6 h7 h8 h9 h10 h11) e1 z)
theorem B8{a:List V}{b c:List Ch} (h:rU (I0 w.params la S) F ⟨a,b.map .chr,c.reverse.map .chr,rest⟩ fz p e s) (z:(LS.mk a c (b++rest)).room):rU (I1 w.params la S) F ⟨a,c,b++rest⟩ fz p e s :=
 h _ fun x d es n mu B h1 h2 h3 hI h5 h6 h7 h8 h9 h10 h11=>(fun qq qk=>qk x d es n mu B h1 h2 h3 (fun qq qk=>qk b rest hI rfl z) h5 h6 h7 h8 h9 h10 h11)
noncomputable def Oh(st0:L0):Nat->Hd L0:=cD 365 (sS fun qq st qq X=>st=st0/\X none st) ww
section
variable {st:LS}
theorem xM(Y:Z1 w la S) {sa:List V}{sc:List Ch} (z:(LS.mk sa sc []).room) (hn:24<=n):aW w (J0 w.params la S) n (Oh ⟨sa,[],sc.reverse.map .chr,[]⟩) :=
 .ref (a:=265) (pc fun F m st fz s y u K X Q E FO LV R ry h P PE=>by
   obtain⟨rfl,h⟩:=h
   refine Y.EO.ok F m ⟨sa,sc,[]⟩ fz s y u (fun p st=>p=none/\st=⟨sa,sc,[]⟩) Q E FO (LV.le hn) (RS.lift (b:=[]) (rest:=[]) R z) ry ⟨rfl,rfl⟩ fun p st' fz' e s' hp hf hz=>?_
   obtain⟨rfl,rfl⟩:=hp
   refine(CP hz) _ ?_;rintro b rest hz' e1 qq
   obtain⟨rfl,rfl⟩:=List.append_eq_nil_iff.mp e1.symm
   exact PE none _ fz' e s' h hf hz') (di Y.Z.NO (WZ (by decide) hn))
noncomputable def xN(st:LS) (K:V->LS->Prop) (X:bE->LS->Prop):Prop:=match st.r with|[]=>X none st|c::r=>K (.chr c) ⟨st.a,c::st.c,r⟩
theorem sy(Y:Z1 w la S) (FO:aa w F) (LV:aU F.A 25) (R:RS w (J1 w.params la S) F m st fz s) {K:V->LS->Prop}{X:bE->LS->Prop}
   (h:xN st K X) (P:a8 w (J1 w.params la S) F m fz K Q) (PE:bz (J1 w.params la S) F fz X E):wpAny (model ae w) F.A (call (.ref 216) [.ref la.lx] [(AN 44,.bool false)]) Q E s:=by
 refine R.down _ ?_;rintro b rest R0 e z
 obtain⟨sa,sc,sr⟩:=st
 obtain rfl:sr=b++rest:=e
 have zz:(LS.mk sa sc []).room:=WZ (XL _ _) z
 refine fD (n:=24) (ns:=cL) (ir:=dC) (ρ:=[some .self,some (.bool false),none]) (K:=fun v st'=>gR sa sc b rest v st'/\b++rest≠[]) (Ex:=fun p st'=>(b=[]/\rest=[])/\p=none/\st'=⟨sa,[],sc.reverse.map .chr,[]⟩) (em Y.Z.SO Y.Z.more (xM Y zz (Xl _))) Y.Z.JL FO LV (wD _)
   (Av (qz _) (qG _) (FO.G.X.keeps R0.fr.keep _ _ (sB _)) rfl _ _) (au (rR _) rfl) on (qU _) R0 (y4 (ns:=["char"]) (us:=[none]) (bJ 1) (by decide +kernel) .self (.bool _))
   (fX (qK rfl (fg b▸j6 z)) ?_) (fun v st' fz' s' xv e hf R' rv=>?_) (fun p st' fz' e s' hp hf hz=>?_)
 . rcases b with qq|⟨c,r⟩
   ·
     rcases rest with qq|⟨c,r⟩
     . exact(⟨rfl,⟨rfl,rfl⟩,rfl,rfl⟩:(⟨sa,[],sc.reverse.map V.chr,[]⟩:L0)=⟨sa,[],sc.reverse.map V.chr,[]⟩/\(([]:List Ch)=[]/\([]:List Ch)=[])/\(none:bE)=none/\(⟨sa,[],sc.reverse.map V.chr,[]⟩:L0)=⟨sa,[],sc.reverse.map V.chr,[]⟩)
     . exact(show(sc.reverse.map V.chr).length<=100000/\gR sa sc [] (c::r) _ _/\[]++c::r≠[] from⟨gv sc▸ic z,.got c [] r rfl,List.cons_ne_nil _ _⟩)
   . exact(show(r.map V.chr).length<=100000/\(sc.reverse.map V.chr).length<=100000/\gR sa sc (c::r) rest _ _/\c::r++rest≠[] from⟨fg r▸Nat.le_of_succ_le (j6 z),gv sc▸ic z,.got c r rest rfl,List.cons_ne_nil _ _⟩)
 . have h':(match b++rest with|[]=>X none ⟨sa,sc,b++rest⟩|c::r=>K (.chr c) ⟨sa,c::sc,r⟩):=h
   obtain⟨e,ne⟩:=e
   cases e with
   |done e1 e2=>subst e1 e2;exact absurd rfl ne
   |got x b' rest' e =>
     rw[e] at h' z
     rw[←pL] at R'
     exact P _ _ _ _ _ h' hf (R'.lift (b:=b') (mw z)) rv
 . obtain⟨⟨rfl,rfl⟩,rfl,rfl⟩:=hp
   exact PE none _ fz' e s' h hf (B8 (b:=[]) (rest:=[]) hz zz)
end
end
section
noncomputable def eC:List Str:=["self", "id_chars"]
noncomputable def ee:Ts :=
   (.cons (.asg 1 (.bin .Add (.bin .Add (.bin .Add (.attr (.loc 0) 13) (.attr (.loc 0) 14)) (.attr (.loc 0) 15)) (.k (.str "_"))))
   (.cons (.exp (.mcall (.loc 0) 35 (.cons (.loc 1) .nil)))
   (.cons (.exp (.mcall (.loc 0) 32 (.cons (.k (.str "ID")) .nil)))
   (.cons (.ret (.attr (.loc 0) 20))
   .nil))))
noncomputable def gS:List Str:=["self", "number_chars"]
noncomputable def gT:Ts :=
   (.cons (.ite (.mcall (.loc 0) 34 (.cons (.k (.str "0")) .nil)) (.cons (.ite (.mcall (.loc 0) 34 (.cons (.k (.str "xX")) .nil)) (.cons (.asg 1 (.attr (.loc 0) 18))
   .nil) (.cons (.ite (.mcall (.loc 0) 34 (.cons (.k (.str "bB")) .nil)) (.cons (.asg 1 (.attr (.loc 0) 17))
   .nil) (.cons (.asg 1 (.attr (.loc 0) 16))
   .nil))
   .nil))
   .nil) (.cons (.asg 1 (.attr (.loc 0) 15))
   .nil))
   (.cons (.exp (.mcall (.loc 0) 35 (.cons (.loc 1) .nil)))
   (.cons (.ite (.mcall (.loc 0) 34 (.cons (.k (.str ".")) .nil)) (.cons (.ret (.mcall (.loc 0) 23 .nil))
   .nil) (.cons (.exp (.mcall (.loc 0) 34 (.cons (.k (.str "LlUu")) .nil)))
   (.cons (.exp (.mcall (.loc 0) 34 (.cons (.k (.str "LlUu")) .nil)))
   (.cons (.exp (.mcall (.loc 0) 34 (.cons (.k (.str "LlUu")) .nil)))
   (.cons (.exp (.mcall (.loc 0) 32 (.cons (.k (.str "NUMBER")) .nil)))
   (.cons (.ret (.attr (.loc 0) 20))
   .nil))))))
   .nil)))
noncomputable def eB:List Str:=["self"]
noncomputable def ey:Ts :=
   (.cons (.exp (.mcall (.loc 0) 35 (.cons (.k (.str " \t")) .nil)))
   (.cons (.exp (.mcall (.loc 0) 32 (.cons (.k (.str "WS")) .nil)))
   (.cons (.ret (.attr (.loc 0) 20))
   .nil)))
noncomputable def d6:List Str:=["self", "c"]
noncomputable def d5:Ts :=
   (.cons (.asg 1 (.mcall (.loc 0) 30 .nil))
   (.cons (.wh (.tand (.loc 1) (.cmp .NotEq (.attr (.loc 1) 5) (.k (.str "\n")))) (.cons (.asg 1 (.mcall (.loc 0) 30 .nil))
   .nil))
   (.cons (.exp (.mcall (.loc 0) 31 (.cons (.loc 1) .nil)))
   (.cons (.exp (.mcall (.loc 0) 33 .nil))
   (.cons (.ret (.attr (.loc 0) 20))
   .nil)))))
noncomputable def dA:List Str:=["self"]
noncomputable def dz:Ts :=
   (.cons (.wh (.k (.bool true)) (.cons (.ite (.mcall (.loc 0) 34 (.cons (.k (.str "*")) .nil)) (.cons (.ite (.mcall (.loc 0) 34 (.cons (.k (.str "/")) .nil)) (.cons (.exp (.mcall (.loc 0) 33 .nil))
   (.cons .brk
   .nil)) .nil)
   .nil) (.cons (.exp (.mkw (.loc 0) 30 44 (.k (.bool false))))
   .nil))
   .nil))
   (.cons (.ret (.attr (.loc 0) 20))
   .nil))
noncomputable def gQ:List Str:=["self", "c"]
noncomputable def gO:Ts :=
   (.cons (.asg 1 (.mkw (.loc 0) 30 44 (.k (.bool false))))
   (.cons (.wh (.cmp .NotEq (.attr (.loc 1) 5) (.k (.str "\""))) (.cons (.ite (.cmp .Eq (.attr (.loc 1) 5) (.k (.str "\\"))) (.cons (.exp (.mcall (.loc 0) 39 .nil))
   .nil) .nil)
   (.cons (.asg 1 (.mkw (.loc 0) 30 44 (.k (.bool false))))
   .nil)))
   (.cons (.exp (.mcall (.loc 0) 32 (.cons (.k (.str "STRING")) .nil)))
   (.cons (.ret (.attr (.loc 0) 20))
   .nil))))
noncomputable def jr:List Str:=["self"]
noncomputable def jw:Ts :=
   (.cons (.ite (.mcall (.loc 0) 34 (.cons (.k (.str "\\")) .nil)) (.cons (.exp (.mcall (.loc 0) 39 .nil))
   .nil) (.cons (.exp (.mkw (.loc 0) 30 44 (.k (.bool false))))
   .nil))
   (.cons (.exp (.mcall (.loc 0) 38 (.cons (.k (.str "'")) .nil)))
   (.cons (.exp (.mcall (.loc 0) 32 (.cons (.k (.str "CHAR")) .nil)))
   (.cons (.ret (.attr (.loc 0) 20))
   .nil))))
noncomputable def kf:List Str:=["self", "r"]
noncomputable def kD:Ts :=
   (.cons (.asg 1 (.mcall (.loc 0) 30 .nil))
   (.cons (.ite (.cmp .Is (.loc 1) (.k .none)) (.cons .pass
   .nil) (.cons (.ite (.cmp .Eq (.attr (.loc 1) 5) (.k (.str "L"))) (.cons (.ite (.mcall (.loc 0) 34 (.cons (.k (.str "'")) .nil)) (.cons (.ret (.attr (.loc 0) 28))
   .nil) (.cons (.ret (.attr (.loc 0) 21))
   .nil))
   .nil) (.cons (.ite (.cmp .In (.attr (.loc 1) 5) (.bin .Add (.bin .Add (.attr (.loc 0) 13) (.attr (.loc 0) 14)) (.k (.str "_")))) (.cons (.ret (.attr (.loc 0) 21))
   .nil) (.cons (.ite (.cmp .In (.attr (.loc 1) 5) (.attr (.loc 0) 15)) (.cons (.exp (.mcall (.loc 0) 31 (.cons (.loc 1) .nil)))
   (.cons (.ret (.attr (.loc 0) 22))
   .nil)) (.cons (.ite (.cmp .In (.attr (.loc 1) 5) (.k (.str " \t"))) (.cons (.ret (.attr (.loc 0) 24))
   .nil) (.cons (.ite (.cmp .In (.attr (.loc 1) 5) (.k (.str "\n"))) (.cons (.exp (.mcall (.loc 0) 32 (.cons (.k (.str "BOL")) .nil)))
   (.cons (.ret (.attr (.loc 0) 20))
   .nil)) (.cons (.ite (.cmp .Eq (.attr (.loc 1) 5) (.k (.str "\x0c"))) (.cons (.exp (.mcall (.loc 0) 33 .nil))
   (.cons (.ret (.attr (.loc 0) 20))
   .nil)) (.cons (.ite (.cmp .Eq (.attr (.loc 1) 5) (.k (.str "/"))) (.cons (.ite (.mcall (.loc 0) 34 (.cons (.k (.str "/")) .nil)) (.cons (.ite (.cmp .Eq (.sub (.attr (.loc 0) 3) (.k (.str "std"))) (.k (.str "c89"))) (.cons (.exp (.mcall (.loc 0) 37 (.cons (.k (.str "C++ style comments are not allowed in C90")) .nil)))
   .nil) .nil)
   (.cons (.ret (.attr (.loc 0) 25))
   .nil)) (.cons (.ite (.mcall (.loc 0) 34 (.cons (.k (.str "*")) .nil)) (.cons (.ret (.attr (.loc 0) 26))
   .nil) (.cons (.ite (.mcall (.loc 0) 34 (.cons (.k (.str "=")) .nil)) (.cons (.exp (.mcall (.loc 0) 32 (.cons (.k (.str "/=")) .nil)))
   (.cons (.ret (.attr (.loc 0) 20))
   .nil)) (.cons (.exp (.mcall (.loc 0) 32 (.cons (.k (.str "/")) .nil)))
   (.cons (.ret (.attr (.loc 0) 20))
   .nil)))
   .nil))
   .nil))
   .nil) (.cons (.ite (.cmp .Eq (.attr (.loc 1) 5) (.k (.str "\""))) (.cons (.ret (.attr (.loc 0) 27))
   .nil) (.cons (.ite (.cmp .Eq (.attr (.loc 1) 5) (.k (.str "'"))) (.cons (.ret (.attr (.loc 0) 28))
   .nil) (.cons (.ite (.cmp .Eq (.attr (.loc 1) 5) (.k (.str "<"))) (.cons (.ite (.mcall (.loc 0) 34 (.cons (.k (.str "=")) .nil)) (.cons (.exp (.mcall (.loc 0) 32 (.cons (.k (.str "<=")) .nil)))
   .nil) (.cons (.ite (.mcall (.loc 0) 34 (.cons (.k (.str "<")) .nil)) (.cons (.ite (.mcall (.loc 0) 34 (.cons (.k (.str "=")) .nil)) (.cons (.exp (.mcall (.loc 0) 32 (.cons (.k (.str "<<")) .nil)))
   .nil) (.cons (.exp (.mcall (.loc 0) 32 (.cons (.k (.str "<<")) .nil)))
   .nil))
   .nil) (.cons (.exp (.mcall (.loc 0) 32 (.cons (.k (.str "<")) .nil)))
   .nil))
   .nil))
   (.cons (.ret (.attr (.loc 0) 20))
   .nil)) (.cons (.ite (.cmp .Eq (.attr (.loc 1) 5) (.k (.str ">"))) (.cons (.ite (.mcall (.loc 0) 34 (.cons (.k (.str "=")) .nil)) (.cons (.exp (.mcall (.loc 0) 32 (.cons (.k (.str ">=")) .nil)))
   .nil) (.cons (.ite (.mcall (.loc 0) 34 (.cons (.k (.str ">")) .nil)) (.cons (.ite (.mcall (.loc 0) 34 (.cons (.k (.str "=")) .nil)) (.cons (.exp (.mcall (.loc 0) 32 (.cons (.k (.str ">>=")) .nil)))
   .nil) (.cons (.exp (.mcall (.loc 0) 32 (.cons (.k (.str ">>")) .nil)))
   .nil))
   .nil) (.cons (.exp (.mcall (.loc 0) 32 (.cons (.k (.str ">")) .nil)))
   .nil))
   .nil))
   (.cons (.ret (.attr (.loc 0) 20))
   .nil)) (.cons (.ite (.cmp .Eq (.attr (.loc 1) 5) (.k (.str "="))) (.cons (.ite (.mcall (.loc 0) 34 (.cons (.k (.str "=")) .nil)) (.cons (.exp (.mcall (.loc 0) 32 (.cons (.k (.str "==")) .nil)))
   .nil) (.cons (.exp (.mcall (.loc 0) 32 (.cons (.k (.str "=")) .nil)))
   .nil))
   (.cons (.ret (.attr (.loc 0) 20))
   .nil)) (.cons (.ite (.cmp .Eq (.attr (.loc 1) 5) (.k (.str "!"))) (.cons (.ite (.mcall (.loc 0) 34 (.cons (.k (.str "=")) .nil)) (.cons (.exp (.mcall (.loc 0) 32 (.cons (.k (.str "!=")) .nil)))
   .nil) (.cons (.exp (.mcall (.loc 0) 32 (.cons (.k (.str "!")) .nil)))
   .nil))
   (.cons (.ret (.attr (.loc 0) 20))
   .nil)) (.cons (.ite (.cmp .Eq (.attr (.loc 1) 5) (.k (.str "|"))) (.cons (.ite (.mcall (.loc 0) 34 (.cons (.k (.str "|")) .nil)) (.cons (.exp (.mcall (.loc 0) 32 (.cons (.k (.str "||")) .nil)))
   .nil) (.cons (.ite (.mcall (.loc 0) 34 (.cons (.k (.str "=")) .nil)) (.cons (.exp (.mcall (.loc 0) 32 (.cons (.k (.str "|=")) .nil)))
   .nil) (.cons (.exp (.mcall (.loc 0) 32 (.cons (.k (.str "|")) .nil)))
   .nil))
   .nil))
   (.cons (.ret (.attr (.loc 0) 20))
   .nil)) (.cons (.ite (.cmp .Eq (.attr (.loc 1) 5) (.k (.str "&"))) (.cons (.ite (.mcall (.loc 0) 34 (.cons (.k (.str "&")) .nil)) (.cons (.exp (.mcall (.loc 0) 32 (.cons (.k (.str "&&")) .nil)))
   .nil) (.cons (.ite (.mcall (.loc 0) 34 (.cons (.k (.str "=")) .nil)) (.cons (.exp (.mcall (.loc 0) 32 (.cons (.k (.str "&=")) .nil)))
   .nil) (.cons (.exp (.mcall (.loc 0) 32 (.cons (.k (.str "&")) .nil)))
   .nil))
   .nil))
   (.cons (.ret (.attr (.loc 0) 20))
   .nil)) (.cons (.ite (.cmp .Eq (.attr (.loc 1) 5) (.k (.str "#"))) (.cons (.ite (.mcall (.loc 0) 34 (.cons (.k (.str "#")) .nil)) (.cons (.exp (.mcall (.loc 0) 32 (.cons (.k (.str "##")) .nil)))
   .nil) (.cons (.exp (.mcall (.loc 0) 32 (.cons (.k (.str "#")) .nil)))
   .nil))
   (.cons (.ret (.attr (.loc 0) 20))
   .nil)) (.cons (.ite (.cmp .Eq (.attr (.loc 1) 5) (.k (.str "+"))) (.cons (.ite (.mcall (.loc 0) 34 (.cons (.k (.str "+")) .nil)) (.cons (.exp (.mcall (.loc 0) 32 (.cons (.k (.str "++")) .nil)))
   .nil) (.cons (.ite (.mcall (.loc 0) 34 (.cons (.k (.str "=")) .nil)) (.cons (.exp (.mcall (.loc 0) 32 (.cons (.k (.str "+=")) .nil)))
   .nil) (.cons (.exp (.mcall (.loc 0) 32 (.cons (.k (.str "+")) .nil)))
   .nil))
   .nil))
   (.cons (.ret (.attr (.loc 0) 20))
   .nil)) (.cons (.ite (.cmp .Eq (.attr (.loc 1) 5) (.k (.str "-"))) (.cons (.ite (.mcall (.loc 0) 34 (.cons (.k (.str "-")) .nil)) (.cons (.exp (.mcall (.loc 0) 32 (.cons (.k (.str "--")) .nil)))
   .nil) (.cons (.ite (.mcall (.loc 0) 34 (.cons (.k (.str "=")) .nil)) (.cons (.exp (.mcall (.loc 0) 32 (.cons (.k (.str "-=")) .nil)))
   .nil) (.cons (.ite (.mcall (.loc 0) 34 (.cons (.k (.str ">")) .nil)) (.cons (.exp (.mcall (.loc 0) 32 (.cons (.k (.str "->")) .nil)))
   .nil) (.cons (.exp (.mcall (.loc 0) 32 (.cons (.k (.str "-")) .nil)))
   .nil))
   .nil))
   .nil))
   (.cons (.ret (.attr (.loc 0) 20))
   .nil)) (.cons (.ite (.cmp .Eq (.attr (.loc 1) 5) (.k (.str "*"))) (.cons (.ite (.mcall (.loc 0) 34 (.cons (.k (.str "=")) .nil)) (.cons (.exp (.mcall (.loc 0) 32 (.cons (.k (.str "*=")) .nil)))
   .nil) (.cons (.exp (.mcall (.loc 0) 32 (.cons (.k (.str "*")) .nil)))
   .nil))
   (.cons (.ret (.attr (.loc 0) 20))
   .nil)) (.cons (.ite (.cmp .Eq (.attr (.loc 1) 5) (.k (.str "%"))) (.cons (.ite (.mcall (.loc 0) 34 (.cons (.k (.str "=")) .nil)) (.cons (.exp (.mcall (.loc 0) 32 (.cons (.k (.str "%=")) .nil)))
   .nil) (.cons (.exp (.mcall (.loc 0) 32 (.cons (.k (.str "%")) .nil)))
   .nil))
   (.cons (.ret (.attr (.loc 0) 20))
   .nil)) (.cons (.ite (.cmp .Eq (.attr (.loc 1) 5) (.k (.str "^"))) (.cons (.ite (.mcall (.loc 0) 34 (.cons (.k (.str "=")) .nil)) (.cons (.exp (.mcall (.loc 0) 32 (.cons (.k (.str "^=")) .nil)))
   .nil) (.cons (.exp (.mcall (.loc 0) 32 (.cons (.k (.str "^")) .nil)))
   .nil))
   (.cons (.ret (.attr (.loc 0) 20))
   .nil)) (.cons (.ite (.cmp .Eq (.attr (.loc 1) 5) (.k (.str "~"))) (.cons (.ite (.mcall (.loc 0) 34 (.cons (.k (.str "=")) .nil)) (.cons (.exp (.mcall (.loc 0) 32 (.cons (.k (.str "~=")) .nil)))
   .nil) (.cons (.exp (.mcall (.loc 0) 32 (.cons (.k (.str "~")) .nil)))
   .nil))
   (.cons (.ret (.attr (.loc 0) 20))
   .nil)) (.cons (.ite (.cmp .Eq (.attr (.loc 1) 5) (.k (.str "."))) (.cons (.ite (.mcall (.loc 0) 36 (.cons (.lst (.cons (.k (.str ".")) (.cons (.k (.str ".")) .nil))) .nil)) (.cons (.exp (.mcall (.loc 0) 32 (.cons (.k (.str "...")) .nil)))
   .nil) (.cons (.ite (.mcall (.loc 0) 34 (.cons (.attr (.loc 0) 15) .nil)) (.cons (.ret (.attr (.loc 0) 23))
   .nil) (.cons (.exp (.mcall (.loc 0) 32 (.cons (.k (.str ".")) .nil)))
   .nil))
   .nil))
   (.cons (.ret (.attr (.loc 0) 20))
   .nil)) (.cons (.ite (.cmp .In (.attr (.loc 1) 5) (.k (.str ";{}()[],?:"))) (.cons (.exp (.mcall (.loc 0) 32 (.cons (.attr (.loc 1) 5) .nil)))
   (.cons (.ret (.attr (.loc 0) 20))
   .nil)) (.cons (.ite (.cmp .Eq (.attr (.loc 1) 5) (.k (.str "\\"))) (.cons (.exp (.mcall (.loc 0) 32 (.cons (.attr (.loc 1) 5) .nil)))
   (.cons (.ret (.attr (.loc 0) 20))
   .nil)) (.cons .dead
   .nil))
   .nil))
   .nil))
   .nil))
   .nil))
   .nil))
   .nil))
   .nil))
   .nil))
   .nil))
   .nil))
   .nil))
   .nil))
   .nil))
   .nil))
   .nil))
   .nil))
   .nil))
   .nil))
   .nil))
   .nil))
   .nil))
   .nil))
   .nil))
   .nil))
   .nil))
   .nil))
theorem Jp(P:W1):bl P 272:=⟨by kernel_rfl,by kernel_rfl,by kernel_rfl⟩
theorem Ff(P:W1):cq jL (ah P 272).scope jg mI (ay (ah P 272)):=⟨by kernel_rfl,by kernel_rfl⟩
theorem BY(P:W1) (a b:WY):X1 (ah P 272) ⟨[a,b],[]⟩=(pure [(W8 "self",a),(W8 "valid",b)]:Sem (List (Str×WY))):=by kernel_rfl
theorem Ip(P:W1):aA (ah P 272).scope ["self", "valid"]=true:=by kernel_rfl
theorem ut:jg.Nodup:=by decide +kernel
theorem Et(P:W1):bl P 373:=⟨by kernel_rfl,by kernel_rfl,by kernel_rfl⟩
theorem xP(P:W1):cq jL (ah P 373).scope kf kD (ay (ah P 373)):=⟨by kernel_rfl,by kernel_rfl⟩
theorem tZ(P:W1) (a:WY):X1 (ah P 373) ⟨[a],[]⟩=(pure [(W8 "self",a)]:Sem (List (Str×WY))):=by kernel_rfl
theorem yD(P:W1):aA (ah P 373).scope ["self"]=true:=by kernel_rfl
theorem pk:kf.Nodup:=by decide +kernel
theorem ML(P:W1):bl P 380:=⟨by kernel_rfl,by kernel_rfl,by kernel_rfl⟩
theorem H4(P:W1):cq jL (ah P 380).scope eC ee (ay (ah P 380)):=⟨by kernel_rfl,by kernel_rfl⟩
theorem Be(P:W1) (a:WY):X1 (ah P 380) ⟨[a],[]⟩=(pure [(W8 "self",a)]:Sem (List (Str×WY))):=by kernel_rfl
theorem Gi(P:W1):aA (ah P 380).scope ["self"]=true:=by kernel_rfl
theorem iH:eC.Nodup:=by decide +kernel
theorem LR(P:W1):bl P 387:=⟨by kernel_rfl,by kernel_rfl,by kernel_rfl⟩
theorem Ha(P:W1):cq jL (ah P 387).scope gS gT (ay (ah P 387)):=⟨by kernel_rfl,by kernel_rfl⟩
theorem AZ(P:W1) (a:WY):X1 (ah P 387) ⟨[a],[]⟩=(pure [(W8 "self",a)]:Sem (List (Str×WY))):=by kernel_rfl
theorem HO(P:W1):aA (ah P 387).scope ["self"]=true:=by kernel_rfl
theorem lC:gS.Nodup:=by decide +kernel
theorem MV(P:W1):bl P 401:=⟨by kernel_rfl,by kernel_rfl,by kernel_rfl⟩
theorem FC(P:W1):cq jL (ah P 401).scope eB ey (ay (ah P 401)):=⟨by kernel_rfl,by kernel_rfl⟩
theorem Di(P:W1) (a:WY):X1 (ah P 401) ⟨[a],[]⟩=(pure [(W8 "self",a)]:Sem (List (Str×WY))):=by kernel_rfl
theorem Ib(P:W1):aA (ah P 401).scope ["self"]=true:=by kernel_rfl
theorem iK:eB.Nodup:=by decide +kernel
theorem Oz(P:W1):bl P 408:=⟨by kernel_rfl,by kernel_rfl,by kernel_rfl⟩
theorem Iq(P:W1):cq jL (ah P 408).scope d6 d5 (ay (ah P 408)):=⟨by kernel_rfl,by kernel_rfl⟩
theorem AS(P:W1) (a:WY):X1 (ah P 408) ⟨[a],[]⟩=(pure [(W8 "self",a)]:Sem (List (Str×WY))):=by kernel_rfl
theorem E0(P:W1):aA (ah P 408).scope ["self"]=true:=by kernel_rfl
theorem g9:d6.Nodup:=by decide +kernel
theorem LN(P:W1):bl P 415:=⟨by kernel_rfl,by kernel_rfl,by kernel_rfl⟩
theorem IR(P:W1):cq jL (ah P 415).scope dA dz (ay (ah P 415)):=⟨by kernel_rfl,by kernel_rfl⟩
theorem CT(P:W1) (a:WY):X1 (ah P 415) ⟨[a],[]⟩=(pure [(W8 "self",a)]:Sem (List (Str×WY))):=by kernel_rfl
theorem EV(P:W1):aA (ah P 415).scope ["self"]=true:=by kernel_rfl
theorem gK:dA.Nodup:=by decide +kernel
theorem K9(P:W1):bl P 422:=⟨by kernel_rfl,by kernel_rfl,by kernel_rfl⟩
theorem HT(P:W1):cq jL (ah P 422).scope gQ gO (ay (ah P 422)):=⟨by kernel_rfl,by kernel_rfl⟩
theorem Cs(P:W1) (a:WY):X1 (ah P 422) ⟨[a],[]⟩=(pure [(W8 "self",a)]:Sem (List (Str×WY))):=by kernel_rfl
theorem Ga(P:W1):aA (ah P 422).scope ["self"]=true:=by kernel_rfl
theorem lK:gQ.Nodup:=by decide +kernel
theorem J2(P:W1):bl P 429:=⟨by kernel_rfl,by kernel_rfl,by kernel_rfl⟩
theorem Ii(P:W1):cq jL (ah P 429).scope jr jw (ay (ah P 429)):=⟨by kernel_rfl,by kernel_rfl⟩
theorem Cy(P:W1) (a:WY):X1 (ah P 429) ⟨[a],[]⟩=(pure [(W8 "self",a)]:Sem (List (Str×WY))):=by kernel_rfl
theorem FZ(P:W1):aA (ah P 429).scope ["self"]=true:=by kernel_rfl
theorem pw:jr.Nodup:=by decide +kernel
theorem j9{M:Nat->Prop}{a:Nat}:∀{l:List Nat},a∈l->CG (fun f (qq:Unit)=>M f) (l.map fun a=>(a,()))->M a
 |b::l,hm,h=>(Xb.mp hm).elim (fun e=>e▸h.1) fun hm=>j9 hm h.2
noncomputable def vN(f:W3):Ts:=(List.lookup f [(373,kD),(380,ee),(387,gT),(401,ey),(408,d5),(415,dz),(422,gO),(429,jw)]).getD .nil
noncomputable def sZ:List (Option V):=[none,none]
theorem kN:∀i,fS sZ i=none
 |0=>rfl
 |1=>rfl
 |_+2=>rfl
noncomputable def JK(v1 v2:Str) (st:LS) (K:V->LS->Prop):Prop:=match st.r with
 |c1::c2::r=>ck c1.c v1=true/\ck c2.c v2=true/\K (.bool true) ⟨st.a,c2::c1::st.c,r⟩
 |_=>False
structure DH(w:Xj) (la:LA) (S:bR):Prop where
 ok:∀F m st fz s v1 v2 xv (K:V->LS->Prop) Q E,aa w F->aU F.A 27->RS w (J1 w.params la S) F m st fz s->RV w.params la fz (.lst [.str v1,.str v2]) xv->JK v1 v2 st K->a8 w (J1 w.params la S) F m fz K Q ->
   wpAny (model ae w) F.A (call (.ref 258) [.ref la.lx,xv] []) Q E s
structure Z2(w:Xj) (la:LA) (S:bR) (old:Bool):Prop where
 Y:Z1 w la S
 SQ:DH w la S
 opt:∀r sc fz g,S r sc fz g->dP w fz la.co old
noncomputable def Eh:V->Option Unit
 |.opts=>some ()
 |_=>none
theorem zn{v:V}{x:Unit} (h:Eh v=some x):v= .opts:=db (f:=fun qq=>V.opts) (d:=()) (by cases v<;>first|exact .inl rfl|exact .inr rfl) h
noncomputable def eI:V->Option (List V)
 |.lst l=>some l
 |_=>none
theorem cH{v:V}{x:List V} (h:eI v=some x):v= .lst x:=db (d:=[]) (by cases v<;>first|exact .inl rfl|exact .inr rfl) h
noncomputable def lb:V->Option Bool
 |.bool l=>some l
 |_=>none
theorem lh{v:V}{x:Bool} (h:lb v=some x):v= .bool x:=db (d:=false) (by cases v<;>first|exact .inl rfl|exact .inr rfl) h
noncomputable def Ua(old:Bool) (v i:V) (qq:LS):Option V:=(Eh v).bind fun qq=>(strO i).bind fun x=>match bU x "std" with|true=>some (.str (AU old))|false=>none
noncomputable def tw(v:Str) (st:LS) (K:V->LS->Prop):Prop:=match st.r with
 |c::r=>ck c.c v=true/\K .none ⟨st.a,c::st.c,r⟩
 |[]=>False
noncomputable def Rn:List (Nat×V)->Option Bool
 |[(n,v)]=>(match Nat.beq n 44 with|true=>lb v|false=>none)
 |_=>none
theorem H2{kw:List (Nat×V)} (h:Rn kw=some b):kw=[(44,.bool b)]:=by
 match kw,h with
 |[],h=>exact bN h
 |[(n,v)],h =>
   have h':(match Nat.beq n 44 with|true=>lb v|false=>none)=some b:=h
   rcases hn:Nat.beq n 44 with qq|qq
   . rw[hn] at h';exact bN h'
   . rw[hn] at h';obtain rfl:=X2 hn;obtain rfl:=lh h';rfl
 |_::_::_,h=>exact bN h
noncomputable def NR(b:Bool):Option Unit:=match b with|false=>some ()|true=>none
theorem Ce{u:Unit} (h:NR b=some u):b=false:=by
 rcases b with qq|qq
 . rfl
 . exact bN h
noncomputable def Ei:Hd LS:=fun vs kw st K X=>match kw with
 |[]=>s1 (fun st K qq=>qD st K) vs [] st K X
 |kw=>opt (Rn kw) fun b=>opt (NR b) fun qq=>opt (GX vs) fun x=>opt (tQ x) fun qq=>xN st K X
noncomputable def Kj:Ak:=cD 316 Ei (cD 372 (sS fun v st K qq=>tw v st K) (cD 358 (s2 fun x st K qq=>opt (eI x) fun l=>opt (FP l) fun p=>opt (strO p.1) fun v1=>opt (strO p.2) fun v2=>JK v1 v2 st K) Sl))
noncomputable abbrev zS(old:Bool) (c:Ak):lz LS:=uZ c (Ua old)
section
variable {old:Bool}{st:LS}
theorem RS.strm(R:RS w (J1 w.params la S) F m st fz s):∃r sc,S r sc fz s.gens:=by
 obtain⟨mu,qi,qq⟩:=R.led;refine qi _ ?_;rintro b rest qi qq qq;refine qi _ ?_;rintro qq qq qq qq qq qq qq qq qq sc qq qq qq qq qq hS
 exact⟨_,sc,hS⟩
theorem ta(ZZ:Z2 w la S old) {c:Ak} (hc:aW w (J1 w.params la S) (n+2) c):aI w (J1 w.params la S) (zS old c) (n+2) :=
 eX (ef ZZ.Y.Z.SO) sh (fun h=>ly h) (fun qq qq qq qq qq qq qq qq qq qq qq qq qq h=>bN h) hc (fun F m st fz s v xv i xi r value slice K Q E FO LV R rv ri hs hr hk P=>by
   obtain⟨qq,hv,hr1⟩:=aC hr
   obtain⟨x,hi,hr2⟩:=aC hr1
   clear hr hr1
   obtain rfl:=zn hv;obtain rfl:=rv.view
   obtain⟨t,rfl⟩:=ri.strO hi
   obtain⟨qq,sc,hS⟩:=R.strm
   cases he:bU x "std" with
   |true =>
     rw[he] at hr2
     cases hr2
     exact oD FO LV R (ZZ.opt _ _ _ _ hS) hs (.inl ⟨eq_of_beq ((gY x "std").trans he),hk⟩) P
   |false=>rw[he] at hr2;exact bN hr2)
theorem pf(ZZ:Z2 w la S old) (FO:aa w F) (LV:aU F.A 27) (R:RS w (J1 w.params la S) F m st fz s) {v:Str} (rv:RV w.params la fz (.str v) xv) {K:V->LS->Prop}
   (h:tw v st K) (P:a8 w (J1 w.params la S) F m fz K Q):wpAny (model ae w) F.A (call (.ref 272) [.ref la.lx,xv] []) Q E s:=by
 refine fD (n:=26) (ns:=jg) (ir:=mI) (ρ:=[some .self,some (.str v)]) (K:=K) (Ex:=fun qq qq=>False) (ta ZZ (n:=24) (yr ZZ.Y (Xl _))) ZZ.Y.JL FO LV (Jp _)
   (.of_eq (BY _ _ _)) (au (Ip _) rfl) ut (Ff _) R (y4 (ns:=[]) (us:=[]) (fun qq=>rfl) (by decide +kernel) .self rv) ?_ P (fun qq qq qq qq qq hx=>hx.elim)
 obtain⟨sa,sc,sr⟩:=st
 rcases sr with qq|⟨c,r⟩
 . exact h.elim
 ·
   show(match ck c.c v with|true=>_|false=>_)
   rw[h.1]
   exact h.2
theorem xW(Y:Z1 w la S) (hn:25<=n):cw w (J1 w.params la S) n (.ref 216) Ei:=fun F m st fz s vs xs kw xk K X Q E FO LV R rvs rk h P PE=>by
 rcases kw with qq|⟨k,kw⟩
 ·
   obtain⟨rfl,rfl,h⟩:=rj h rvs rk
   exact iS Y.Z FO (LV.le (WZ (by decide) hn)) R h P
 ·
   obtain⟨b,hb,g⟩:=ac (o:=Rn (k::kw)) h
   obtain⟨qq,hf,g⟩:=ac g
   obtain⟨x,hx,g⟩:=ac g
   obtain⟨qq,hy,g⟩:=ac g
   obtain rfl:=Ce hf
   rw[H2 hb] at rk
   obtain rfl:=uc hx;obtain rfl:=kP hy
   obtain⟨v,rfl,r1⟩:=rvs.one
   obtain rfl:=r1.view
   obtain⟨ks,rfl,rk⟩:=rk
   obtain⟨k,rfl,rk1⟩:=aL.one (x:= .bool false) rk
   obtain rfl:=rk1.view
   exact sy Y FO (LV.le hn) R g P PE
theorem Iz(ZZ:Z2 w la S old) (hn:27<=n):aW w (J1 w.params la S) n Kj :=
 .ref (a:=216) (xW ZZ.Y (WZ (by decide) hn)) (.ref (a:=272) (pc fun F m st fz s y u K X Q E FO LV R ry h P PE=>pf ZZ FO (LV.le hn) R ry h P)
   (.ref (a:=258) (fun F m st fz s vs xs kw xk K X Q E FO LV R rvs rk h P PE=>(rn h rvs rk).casesOn fun y u ry h=>by
     obtain⟨l,hl,h⟩:=ac h
     obtain⟨p,hp,h⟩:=ac h
     obtain⟨v1,h1,h⟩:=ac h
     obtain⟨v2,h2,h⟩:=ac h
     rw[cH hl,tu hp,ek h1,ek h2] at ry
     exact ZZ.SQ.ok _ _ _ _ _ _ _ _ _ _ _ FO (LV.le hn) R ry h P) (yr ZZ.Y (Nat.le_of_succ_le hn))))
noncomputable def dh(old:Bool) (f:W3) (st:LS) (K:V->LS->Prop) (X:bE->LS->Prop):Prop :=
 i5 (zS old Kj) X (vN f) (some .self::sZ) st (fun fl qq st'=>match fl with| .ret v=>K v st'| .next=>K .none st'|_=>False)
noncomputable def wO(w:Xj) (la:LA) (S:bR) (old:Bool) (f:W3):Prop:=∀{F:Fm}{m:Str->Option WY}{fz:ad}{s:W2}{st:LS}{K:V->LS->Prop}{X:bE->LS->Prop}{Q E:WY->W2->Prop},aa w F->aU F.A 29->RS w (J1 w.params la S) F m st fz s->dh old f st K X->a8 w (J1 w.params la S) F m fz K Q->bz (J1 w.params la S) F fz X E ->
   codeAny (model ae w) F.A (.call (.ref f) ⟨[.ref la.lx],[]⟩) (RQ Q E) s
theorem lexAt(ZZ:Z2 w la S old) (fn:bl w.params f) (hb:∀a,X1 (ah w.params f) ⟨[a],[]⟩=(pure [(W8 "self",a)]:Sem (List (Str×WY)))) (hl:aA (ah w.params f).scope ["self"]=true) (hn:(("self" : Str)::ns).Nodup) (hc:cq jL (ah w.params f).scope (("self" : Str)::ns) (vN f) (ay (ah w.params f))):wO w la S old f :=
 fun FO LV R H P PE=>rt (n:=28) (ns:=("self" : Str)::ns) (ir:=vN f) (Ex:=_) (ta ZZ (n:=26) (Iz ZZ (by decide))) ZZ.Y.JL FO LV fn (.of_eq (hb _)) (au hl rfl) hn hc R (O8 (us:=sZ) kN .self) H P PE
theorem BS(ZZ:Z2 w la S old):CG (fun f qq=>wO w la S old f) [(373,()),(380,()),(387,()),(401,()),(408,()),(415,()),(422,()),(429,())] :=
 ⟨lexAt ZZ (Et _) (tZ _) (yD _) pk (xP _),lexAt ZZ (ML _) (Be _) (Gi _) iH (H4 _),lexAt ZZ (LR _) (AZ _) (HO _) lC (Ha _),lexAt ZZ (MV _) (Di _) (Ib _) iK (FC _),lexAt ZZ (Oz _) (AS _) (E0 _) g9 (Iq _),lexAt ZZ (LN _) (CT _) (EV _) gK (IR _),lexAt ZZ (K9 _) (Cs _) (Ga _) lK (HT _),lexAt ZZ (J2 _) (Cy _) (FZ _) pw (Ii _),trivial⟩
noncomputable def gV:List W3:=[373,380,387,401,408,415,422,429]
theorem pR(ZZ:Z2 w la S old) (FO:aa w F) (LV:aU F.A 29) (R:RS w (J1 w.params la S) F m st fz s) {K:V->LS->Prop}{X:bE->LS->Prop} (f:W3) (hf:f∈gV) (H:dh old f st K X) (P:a8 w (J1 w.params la S) F m fz K Q) (PE:bz (J1 w.params la S) F fz X E) :
   codeAny (model ae w) F.A (.call (.ref f) ⟨[.ref la.lx],[]⟩) (RQ Q E) s :=
 j9 (M:=fun f=>wO w la S old f) hf (BS ZZ) FO LV R H P PE
end
end
section
open PySem.Builtin PySem.Builtin.ObjectAttr
theorem Np(self:WY):refuseLoop self "__setattr__" [.ref 156,.type "Exception",.type "BaseException",.type "object"]=pure ():=by kernel_rfl
theorem Jl(P:W1):(clsIn (KF P) 156).map (·.mro)=some [.ref 156,.type "Exception",.type "BaseException",.type "object"]:=by kernel_rfl
theorem Lx(P:W1):hasDictIn (KF P) 156=true:=by kernel_rfl
theorem Oe(P:W1):takerIn (KF P) 156 "msg" = some none:=by kernel_rfl
theorem NK(P:W1):takerIn (KF P) 156 "loc" = some none:=by kernel_rfl
theorem AG(P:W1):takerIn (KF P) 156 "hints" = some none:=by kernel_rfl
theorem Ec(P:W1):findIn (KF P) (.ref 156) "__setattr__" = some (some (.builtin "object.__setattr__")):=by kernel_rfl
theorem yq(P:W1):(KF P).lookup 156=some (excClassObj "CompilerError" "CompilerError" 156 155 [.type "Exception"] [.type "Exception",.type "BaseException",.type "object"] true [] [] false none none (some (.ref 132)) none (some (.str "CompilerError" 361)) (some (.str "CompilerError" 369)) (some (.bool true)) "Exception.__new__"):=by kernel_rfl
noncomputable abbrev cX(d:Option W3) (vs:Array WY):Obj:={cls:= .ref 156,dict:=d,data:= .fields vs}
section
theorem kt:∃cd,clsIn (KF P) 156=some cd/\cd.mro=[.ref 156,.type "Exception",.type "BaseException",.type "object"]/\cd.hasDict=true:=by
 obtain⟨cd,h1,h2⟩:=Option.map_eq_some_iff.mp (Jl P)
 obtain⟨cd',h3,h4⟩:=any_some (Lx P)
 rw[h1] at h3
 cases h3
 exact⟨cd,h1,h2,h4⟩
theorem sR{x:W3}{ox:Obj}{od:Option Obj}{tk:Tok}{R:Result->W2->Prop} (X:(KF w.params).In s.heap) (I:Xr s.heap x ox 156 od) (ht:takerIn (KF w.params) 156 name=some none)
   (h:∀b,wpAny (model ae w) A.in1 (storeInOwnDict (.ref x) (.ref 156) (.str name tk) name v b)
     (fun fin s'=>match fin with| .done f=>R (.ok f) s'| .again c'=>c'.quiet=true/\codeAny (model ae w) A c' R s') (fun e s'=>R (.error e) s') s) :
   codeAny (model ae w) A (.call (.builtin "object.__setattr__") ⟨[.ref x,.str name tk,v],[]⟩) R s:=by
 have SF:=PySem.F.store_object
 obtain⟨cd,hc,hm0,qq⟩:=kt (P:=w.params)
 have ne:cd.mro.isEmpty=false:=by rw[hm0];rfl
 have sub:Looks (model ae w) s.heap (isInstance (.ref x) (.type "object")) true:=I.type.andThen (looks_mroIn X (by unfold mroIn;rw[hc,Option.bind_some,if_neg (by rw[ne];decide),hm0];rfl))
 refine codeAny_call_builtin SF.slot.plain SF.entry (@check_slot (model ae w) _ _ s "object.__setattr__" "object" "__setattr__" (.ref x) [.str name tk,v] [] _ SF.kind SF.split sub (SF.args (.ref x) (.str name tk) v) ?_)
 obtain⟨attr,ha,hr⟩:=Option.bind_eq_some_iff.mp ht
 have hm:Looks (model ae w) s.heap (mroOf (.ref 156)) cd.mro:=(looks_clsIn X hc).andThen .now
 have L3:Looks (model ae w) s.heap (storeTaker? attr) none:=by
   rcases attr with qq|a
   . exact .now
   ·
     obtain⟨b,hb,e⟩:=Option.map_eq_some_iff.mp hr
     refine(looks_takesIn X hb).andThen ?_
     cases b<;>first|exact .now|cases e
 rw[osa_eq,refuse_eq]
 refine W6 (W6 (I.type.here (W6 (hm.here ?_))))
 rw[hm0,Np]
 refine Xk (W6 (I.type.here (W6 ((looks_findIn X ha).here (W6 (L3.here ?_))))))
 exact h _
theorem pO{tk:Tok}{Q:Fin->W2->Prop} (R:aO F m (pre++(dx,Xc es n)::post) s₀ s) (h1:∀p∈pre,p.1≠dx) (h2:∀p∈post,p.1≠dx)
   (hg:(getL name es).isSome=true) (hz:es.length<=900) (h:∀s',aO F m (pre++(dx,Xc (putL name (XV w.params name) (.str name s.toks) v es) (putN name es n))::post) s₀ s'->Q (.done (.ret .none)) s') :
   wpAny (model ae w) A (storeInDict dx (.str name tk) name v) Q E s:=by
 have e0:=putName_dict name (XV w.params name) (.str name s.toks) v es n
 obtain⟨U1,U2⟩:=news_upd (f:=Obj.putName name (XV w.params name) (.str name s.toks) v) R.fr R.nw h1 h2 e0 rfl
 have D:=(R.nw (dx,Xc es n) aD).1
 have D':=(U2 (dx,Xc (putL name (XV w.params name) (.str name s.toks) v es) (putN name es n)) aD).1
 unfold storeInDict
 refine W6 (Xk (W6 ?_))
 unfold nsSet
 refine W6 (W6 (wpAny_askSetting (Xk (W6 (wpAny_mkText (W6 (wpAny_loadPart D ?_)))))))
 dsimp only
 have c:(!es.any (·.key.isStr name)&&es.any (·.refKey))=false:=by
   unfold getL at hg
   split at hg
   . rename_i en he
     rw[List.any_eq_true.mpr ⟨en,List.mem_of_find?_eq_some he,List.find?_some he⟩];rfl
   . split at hg
     . cases hg
     . rename_i z;rw[Bool.not_eq_true] at z;rw[z,Bool.and_false]
 have c':(!es.toArray.any (·.key.isStr name)&&es.toArray.any (·.refKey))=false:=by
   rw[←Array.any_toList,←Array.any_toList];exact c
 rw[aRefKeyMayBeTheName_at,c']
 refine wpAny_updatePart D ?_
 refine W6 (wpAny_lookBehind D' ?_ ?_)
 . refine pastItsLine_dict ?_
   rw[XO,sizeLine_eq]
   exact WZ (qd _ _ _ _ es) (WZ (XX hz) (by decide))
 . exact Xk (h _ ⟨U1,U2,R.gens,R.os,R.dr⟩)
theorem uL(FO:aa w F) {x:W3}{vs:Array WY}{rest:ad}{Q:Unit->W2->Prop} (ht:takerIn (KF w.params) 156 name=some none) (R:aO F m ((x,cX none vs)::rest) s₀ s) (hr:∀p∈rest,p.1≠x)
   (h:∀dx s' tk,(∀p∈(x,cX none vs)::rest,p.1<dx)->aO F m ((x,cX (some dx) vs)::(dx,Xc (putL name (XV w.params name) (.str name tk) v []) (putN name [] 0))::rest) s₀ s'->Q () s') :
   wpAny (model ae w) A (setAttr (.ref x) name v) Q E s:=by
 have X:=FO.G.X.keeps R.fr.keep
 have hx:=(R.nw _ (.head _)).1
 have I:Xr s.heap x (cX none vs) 156 none:=⟨hx,rfl,rfl,trivial⟩
 refine set_plain X I (Ec _) (sR (s:={s with toks:=s.toks+1}) X I ht fun b=>?_)
 obtain⟨cd,hc,qq,hd⟩:=kt (P:=w.params)
 unfold storeInOwnDict
 refine W6 (Xk (W6 ?_))
 unfold ownDictForStores instanceDict
 refine W6 (wpAny_loadPart hx (W6 (Looks.here (s:={s with toks:=s.toks+1}) (looks_clsIn X hc) ?_)))
 rw[hd]
 show wpAny (model ae w) A.in1 (alloc emptyDict >>= fun d=>update x (fun o=>{o with dict:=some d}) >>= fun qq=>pure (some d)) _ _ _
 refine W6 (wpAny_alloc (W6 (wpAny_update (o:=cX none vs) (Xm _ hx) (Xk ?_))))
 show wpAny (model ae w) A.in1 (storeInDict s.heap.objs.size (.str name s.toks) name v) _ _ _
 have N1:=R.nw.push R.fr emptyDict rfl
 have N1':News F.Up F.L (s.heap.push emptyDict) ([(s.heap.objs.size,emptyDict)]++(x,cX none vs)::rest):=N1
 have lt:∀p∈(x,cX none vs)::rest,p.1<s.heap.objs.size:=fun p hp=>XQ (R.nw p hp).1
 obtain⟨F2,N2⟩:=news_upd (f:=fun o=>{o with dict:=some s.heap.objs.size}) (o':=cX (some s.heap.objs.size) vs) (R.fr.push emptyDict) N1' (fun p hp=>by
   rw[Xe.mp hp]
   exact XC (lt _ (.head _))) hr rfl rfl
 have R2:aO F m ([(x,cX (some s.heap.objs.size) vs)]++(s.heap.objs.size,Xc [] 0)::rest) s₀ {s with heap:=(s.heap.push emptyDict).update x (fun o=>{o with dict:=some s.heap.objs.size}),toks:=s.toks+1}:=by
   refine⟨F2,fun p hp=>?_,R.gens,R.os,R.dr⟩
   exact N2 p ((List.Perm.swap _ _ _).mem_iff.mp hp)
 refine pO R2 (fun p hp=>?_) (fun p hp=>X3 (lt p (.tail _ hp))) rfl (by decide) fun s' R'=>h _ s' _ lt R'
 rw[Xe.mp hp]
 exact X3 (lt (x,cX none vs) (.head _))
theorem my(FO:aa w F) {x:W3}{vs:Array WY}{rest:ad}{Q:Unit->W2->Prop} (ht:takerIn (KF w.params) 156 name=some none)
   (R:aO F m ((x,cX (some dx) vs)::(dx,Xc es n)::rest) s₀ s) (hx:x≠dx) (hr:∀p∈rest,p.1≠dx) (hg:(getL name es).isSome=true) (hz:es.length<=900)
   (h:∀s' tk,aO F m ((x,cX (some dx) vs)::(dx,Xc (putL name (XV w.params name) (.str name tk) v es) (putN name es n))::rest) s₀ s'->Q () s') :
   wpAny (model ae w) A (setAttr (.ref x) name v) Q E s:=by
 have X:=FO.G.X.keeps R.fr.keep
 have hxo:=(R.nw _ (.head _)).1
 have I:Xr s.heap x (cX (some dx) vs) 156 (some (Xc es n)):=⟨hxo,rfl,rfl,(R.nw _ (.tail _ (.head _))).1⟩
 refine set_plain X I (Ec _) (sR (s:={s with toks:=s.toks+1}) X I ht fun b=>?_)
 obtain⟨cd,hc,qq,hd⟩:=kt (P:=w.params)
 unfold storeInOwnDict
 refine W6 (Xk (W6 ?_))
 unfold ownDictForStores instanceDict
 refine W6 (wpAny_loadPart hxo (W6 (Looks.here (s:={s with toks:=s.toks+1}) (looks_clsIn X hc) ?_)))
 rw[hd]
 refine Xk (a:=some dx) ?_
 show wpAny (model ae w) A.in1 (storeInDict dx (.str name s.toks) name v) _ _ _
 have R2:aO F m ([(x,cX (some dx) vs)]++(dx,Xc es n)::rest) s₀ {s with toks:=s.toks+1}:=R.toks _
 refine pO R2 (fun p hp=>?_) hr hg hz fun s' R'=>h s' _ R'
 rw[Xe.mp hp]
 exact hx
end
end
section
noncomputable def By:WY->W3
 |.ref a=>a
 |_=>0
noncomputable def Qa:Data->Nat
 |.seq _ k=>k
 |_=>0
structure wW(K:Frag) (fd:FuncData) (vs:List WY):Prop where
 d:fd.defaults= .ref (By fd.defaults)
 o:K.lookup (By fd.defaults)=some {qy (K.lookup (By fd.defaults)) with data:= .seq vs.toArray (Qa (qy (K.lookup (By fd.defaults))).data)}
theorem QZ(P:W1):ay (ah P 146)=B0 146:=by kernel_rfl
theorem Qv(P:W1):(ah P 146).scope=S0 146:=by kernel_rfl
theorem MH(P:W1):bl P 146:=⟨by kernel_rfl,by kernel_rfl,by kernel_rfl⟩
theorem H3(P:W1):dK (ah P 146) ["self", "msg", "loc", "hints"]:=by kernel_rfl
theorem HM(P:W1):wW (KF P) (ah P 146) [.none,.none]:=⟨by kernel_rfl,by kernel_rfl⟩
theorem GV(P:W1):aA (ah P 146).scope ["self", "msg", "loc", "hints"]=true:=by kernel_rfl
theorem NL(P:W1):findIn (KF P) (.ref 79) "__bool__" = some none:=by kernel_rfl
theorem LT(P:W1):findIn (KF P) (.ref 79) "__len__" = some none:=by kernel_rfl
theorem BQ{fd:FuncData} (h:dK fd ["self", "msg", "loc", "hints"]) {T:W3}{d1 d2:WY} (hd:fd.defaults= .ref T) (hT:s.heap.get? T=some o) (ho:o.data= .seq #[d1,d2] k) (a b c:WY) :
   lB s fd ⟨[a,b,c],[]⟩ [("self",a),("msg",b),("loc",c),("hints",d2)]:=h.bnd ⟨BindsTo.of_defaults (fd:={fd with params:=uo fd _}) hd hT ho rfl rfl⟩
inductive kI(rest:ad):WY->Prop
 |none:kI rest .none
 |loc (l d:W3) (sl:Array (Option WY)) (o:Obj):(l,aE 79 (some d) sl)∈rest->(d,o)∈rest->kI rest (.ref l)
section
theorem aO.pushed{news:ad} (R:aO F m news s₀ s) (o:Obj):aO F m news s₀ {s with heap:=s.heap.push o} :=
 ⟨R.fr.push o,fun p hp=>⟨Xm _ (R.nw p hp).1,(R.nw p hp).2⟩,R.gens,R.os,R.dr⟩
theorem yY(FO:aa w F) (hS:F.sc=S0 146) {x:W3}{vs:Array WY}{rest:ad} (hx:x≠dx) (hr:∀p∈rest,p.1≠dx) (h1:m "self" = some (.ref x)) (h4:m "hints" = some .none) (hz:es.length<=900) (hg:(getL "hints" es).isSome=true)
   (R:aO F m ((x,cX (some dx) vs)::(dx,Xc es n)::rest) s₀ s) {Q:Flow->W2->Prop}
   (h:∀s' v tk n' m',aO F m' ((x,cX (some dx) vs)::(dx,Xc (putL "hints" (XV w.params "hints") (.str "hints" tk) v es) n')::rest) s₀ s'->Q .next s'):wpAny (model ae w) A (execs ((B0 146).drop 3) F.env) Q E s:=by
 have e:(B0 146).drop 3=[.If (.Compare (.Name "hints" _) [.Is] [.Constant .none _ _] _) [.Assign [.Name "hints" _] (.List [] _) _] [] _,.Assign [.Attribute (.Name "self" _) "hints" _] (.Name "hints" _) _]:=rfl
 rw[e]
 have q4:ak F.sc "hints" = true:=ln hS (by kernel_rfl)
 refine Xa (wpAny_If (wpAny_isTrue_Compare1 (ax FO R q4 h4 (wpAny_Constant_none (is_none (wpAny_truthy_bool ?_)))) rfl))
 show wpAny _ _ (execs [_] F.env) _ _ _
 refine Xa (XK ?_ (by rfl))
 rw[arm_eval_List]
 have R1:=R.pushed {cls:= .type "list",data:= .seq [].toArray}
 refine W6 (wpAny_standAt (W6 (args_nil (wpAny_newList (PySem.W.storeX_L R1.fr R1.nw (fun h' F' N'=>Xw ?_) FO.kind (eq_of_beq (af q4))) (by decide)))))
 have R2:aO F (fun y=>if y=W8 "hints" then some (.ref s.heap.objs.size) else m y) ((x,cX (some dx) vs)::(dx,Xc es n)::rest) s₀ {s with heap:=h',toks:=s.toks+1}:=⟨F',N',R.gens,R.os,R.dr⟩
 exact Xa (Xn (ax FO R2 q4 (v:= .ref s.heap.objs.size) (if_pos rfl) (ax FO R2 (ln hS (by kernel_rfl)) (v:= .ref x) ((if_neg (by decide +kernel)).trans h1)
   (my FO (AG _) R2 hx hr hg hz fun s3 t3 R3=>Xw (h _ _ _ _ _ R3)))))
inductive GG(F:Fm) (s₀:W2) (x:W3) (vs:Array WY) (rest:ad) (lv:WY) (s:W2):Flow->Prop
 |mk (dx:W3) (es:List XH) (n:Nat) (m':Str->Option WY):getL "loc" es=some (some lv)->(∀p∈(x,cX none vs)::rest,p.1<dx)->aO F m' ((x,cX (some dx) vs)::(dx,Xc es n)::rest) s₀ s->GG F s₀ x vs rest lv s .next
theorem B1(FO:aa w F) (hS:F.sc=S0 146) (hh:A.handled=none) {x:W3}{vs:Array WY}{rest:ad} (hr:∀p∈rest,p.1≠x) {mv lv:WY} (h1:m "self" = some (.ref x)) (h2:m "msg" = some mv) (h3:m "loc" = some lv) (h4:m "hints" = some .none) (hl:kI rest lv)
   (R:aO F m ((x,cX none vs)::rest) s₀ s) :
   wpAny (model ae w) A (execs (B0 146) F.env) (fun fl s'=>GG F s₀ x vs rest lv s' fl) E s:=by
 have e:B0 146= .Assign [.Attribute (.Name "self" _) "msg" _] (.Name "msg" _) _:: .Assign [.Attribute (.Name "self" _) "loc" _] (.Name "loc" _) _ ::
    .If (.Name "loc" _) [.Assert (.Call (.Name "isinstance" _) [.Name "loc" _,.Name "SourceLocation" _] [] _) (some _) _] [] _::(B0 146).drop 3:=rfl
 rw[e]
 have q1:ak F.sc "self" = true:=ln hS (by kernel_rfl)
 have q3:ak F.sc "loc" = true:=ln hS (by kernel_rfl)
 refine Xa (Xn (ax FO R (ln hS (by kernel_rfl)) h2 (ax FO R q1 h1 (uL FO (Oe _) R hr fun dx s1 t1 lt R1=>?_))))
 have hx:x≠dx:=X3 (lt (x,cX none vs) (.head _))
 have hr':∀p∈rest,p.1≠dx:=fun p hp=>X3 (lt p (.tail _ hp))
 refine Xa (Xn (ax FO R1 q3 h3 (ax FO R1 q1 h1 (my FO (NK _) R1 hx hr' (by kernel_rfl) (Xd (by kernel_rfl)) fun s2 t2 R2=>?_))))
 refine Xa (wpAny_If (isTrue_plain (ax FO R2 q3 h3 ?_) (by intros;rfl)))
 have tail:=yY (A:=A) FO hS hx hr' h1 h4 (Xd (by kernel_rfl)) (by kernel_rfl) R2 (Q:=fun fl s'=>GG F s₀ x vs rest lv s' fl) (E:=E) fun s' v tk n' m' R'=>⟨dx,_,n',m',by kernel_rfl,lt,R'⟩
 cases hl with
 |none=>exact truthy_none (Xw tail)
 |loc l d sl o hl1 hl2 =>
   have I:Xr s2.heap l (aE 79 (some d) sl) 79 (some o):=⟨(R2.nw _ (.tail _ (.tail _ hl1))).1,rfl,rfl,(R2.nw _ (.tail _ (.tail _ hl2))).1⟩
   refine truthy_K0 R2.fr FO.G.X I (NL _) (LT _) ?_
   show wpAny _ _ (execs [_] F.env) _ _ _
   exact Xa (wpAny_Assert_msg_new hh (isTrue_plain (Call_ (bF FO R2 (gn hS (by kernel_rfl)) (.inr ⟨My _,by decide +kernel,Jr⟩)
     (XZ (P:=fun qq=>True) rfl (fun h qq=>aB w _ h) (aq (Xz (ax FO R2 q3 h3 (Xz (bF FO R2 (gn hS (by kernel_rfl)) (.inl (MM _)) (args_nil ⟨trivial,
       isi_call (FO.G.X.keeps R2.fr.keep) (fun M=>I.type) (ED _) (fun e=>nomatch e) (wpAny_truthy_bool (Xw tail))⟩))))) rfl))) rfl) (by intros;rfl)))
end
end
section
noncomputable def FD:Data->Array XH
 |.dict es _=>es
 |_=> #[]
noncomputable def RO:Data->Nat
 |.dict _ n=>n
 |_=>0
noncomputable def yK:WY->Bool
 |.str _ _=>true
 |_=>false
theorem vK(h:yK v=true):∃n t,v= .str n t:=by
 cases v<;>first|exact⟨_,_,rfl⟩|exact ly h
structure Ez(K:Frag) (N:W3) (x:Str) (v:WY):Prop where
 o:K.lookup N=some {qy (K.lookup N) with data:= .dict (FD (qy (K.lookup N)).data) (RO (qy (K.lookup N)).data)}
 k:(FD (qy (K.lookup N)).data).toList.all (fun e=>yK e.key)=true
 f:nsFind (FD (qy (K.lookup N)).data) x=some v
theorem Nq{K:Frag}{N:W3} (X:K.In h) (e:Ez K N x v):∃mN,h.Ns N mN/\mN x=some v :=
 ⟨_,⟨_,_,_,X _ _ e.o,rfl,fun en hen=>vK (X7.mp e.k en (Array.mem_toList_iff.mpr hen)),fun qq=>rfl⟩,e.f⟩
theorem RP(P:W1):Ez (KF P) 155 "__init__" (.ref 146):=⟨by kernel_rfl,by kernel_rfl,by kernel_rfl⟩
theorem QC(P:W1):(KF P).lookup 146=some {qy ((KF P).lookup 146) with cls:= .type "function" }:=by kernel_rfl
noncomputable abbrev mR(t:W3):Array WY:= #[.ref t,.none,.none,.none,.bool false,.none]
section
theorem wT(FO:aa w F) (hh:F.A.handled=none) (hdep:F.A.depth+2<Xh) {news:ad} (R:aO F m news s₀ s) {mv lv:WY} (hl:kI news lv)
   (h:∀x dx t es n s',getL "loc" es=some (some lv)->(∀p∈news,p.1≠x)->(∀p∈news,p.1<dx)->x<dx->s.heap.get? x=none->aO F m ((x,cX (some dx) (mR t))::(dx,Xc es n)::news) s₀ s'->Q (.ref x) s') :
   wpAny (model ae w) F.A (call (.ref 156) [mv,lv] []) Q E s:=by
 obtain⟨hp,g,d,tk,os⟩:=s
 have X:=FO.G.X.keeps R.fr.keep
 obtain⟨mN,hn,hi⟩:=Nq X (RP w.params)
 have D:=HM w.params
 refine wpAny_call_exc_init PySem.F.excBase_Exception (X _ _ (yq _)) hn hi (X _ _ (QC _)) rfl (fun h' e hm=>?_) (show 2<=sizeLine by decide)
 obtain⟨t,ht,qq,qq⟩:=hm.there
 have new:hp.get? e=none:=hm.new
 have off:∀{b o},hp.get? b=some o->b≠e:=fun q r=>bN (new.symm.trans (r▸q))
 have ne:∀p∈news,p.1≠e:=fun p hpn=>off (R.nw p hpn).1
 have FO':aa w {F with A:=F.A.under (.builtin "type.__call__" ⟨.ref 156::[mv,lv],[]⟩)}:=FO.with rfl
 have R':aO {F with A:=F.A.under (.builtin "type.__call__" ⟨.ref 156::[mv,lv],[]⟩)} m ((e,cX none (mR t))::news) s₀ ⟨h',g,d,tk,os⟩:=by
   refine⟨R.fr.keeps hm.keeps,fun p hpn=>(Xb.mp hpn).elim (fun q=>?_) fun hpn=>⟨hm.keeps _ _ (R.nw p hpn).1,(R.nw p hpn).2⟩,R.gens,R.os,R.dr⟩
   subst q
   obtain⟨oL,qq,qq,hL,qq⟩:=R.fr.ns
   refine⟨ht,(off hL).symm,?_⟩
   rcases q:F.Up.get? e with qq|o
   . rfl
   . exact absurd rfl (off (R.fr.keep e o q))
 have hd1:(F.A.under (.builtin "type.__call__" ⟨.ref 156::[mv,lv],[]⟩)).depth=F.A.depth+1:=depth_under_kw _ _ _ _
 exact wpAny_call (dk FO' (show(F.A.under _).depth<_ from hd1▸Nat.lt_of_succ_lt hdep) (MH _) (BQ (H3 _) D.d (FO.G.X.keeps R'.fr.keep _ _ D.o) rfl _ _ _) (au (GV _) rfl) R' fun Uz Uq hA Ux he hsc Uo =>
   (QZ w.params).symm▸Xq (B1 Ux (hsc.trans (Qv _)) (hA▸hh) ne (mv:=mv) (lv:=lv) (by kernel_rfl) (by kernel_rfl) (by kernel_rfl) (by kernel_rfl) hl Uo) (fun fl Ut hq=>hq.casesOn fun dx es n m' hg lt Ur =>
     ⟨_,_,Ur,fun Uw=>⟨rfl,h e dx t es n Ut hg ne (fun p hpn=>lt p (.tail _ hpn)) (lt (e,cX none (mR t)) (.head _)) hm.new ⟨Uw.fr,Uw.nw,Uw.gens,Uw.os,Uw.dr⟩⟩⟩) fun qq qq x=>x)
end
end
section
open PySem.Sem (wp)
section
theorem v8{x:Sem WY}{env:Env}{Q:Flow->W2->Prop} (hh:A.handled=none) (h:wpAny (model ae w) A x (fun v Un=>∃e dx t,v= .ref e/\(KF w.params).In Un.heap/\Un.heap.get? e=some (cX (some dx) (mR t))/\E (.ref e) Un) E s) :
   wpAny (model ae w) A (raiseStmt env (some x) none) Q E s:=by
 have hcB:(Value.ref 156::[Value.type "Exception",.type "BaseException",.type "object"]).contains (.type "BaseException")=true:=by decide
 unfold raiseStmt
 refine W6 (Xq h (fun v Un h₁=>?_) fun qq qq x=>x)
 obtain⟨e,dx,t,rfl,X,he,hE⟩:=h₁
 have hC:=X _ _ (yq w.params)
 obtain⟨hp,g,d,tk,os⟩:=Un
 repeat (first|with_reducible refine wpAny_loadPart_at he ?_|with_reducible refine wpAny_loadPart_at hC ?_|(with_reducible refine wpAny_isSubtype_exc hC ?_;rw[hcB])|wp_step)
 exact wpAny_raiseNew_none hh hE
end
end
section
noncomputable def kY:List Str:=["self", "message", "char", "loc"]
noncomputable def nV:T:= .asg 2 (.mcall (.loc 0) 30 .nil)
noncomputable def nC:T:= .asg 3 (.ite (.cmp .Is (.loc 2) (.k .none)) (.k .none) (.attr (.loc 2) 6))
theorem Qq(P:W1):ay (ah P 265)=B0 265:=by kernel_rfl
theorem Qy(P:W1):(ah P 265).scope=S0 265:=by kernel_rfl
theorem Gt:jJ jL (S0 265) kY nV (cP (B0 265)):=⟨by kernel_rfl,by kernel_rfl⟩
theorem FR:jJ jL (S0 265) kY nC (cP (B0 265).tail):=⟨by kernel_rfl,by kernel_rfl⟩
theorem Kd(P:W1):bl P 265:=⟨by kernel_rfl,by kernel_rfl,by kernel_rfl⟩
theorem CJ(P:W1) (a b:WY):X1 (ah P 265) ⟨[a,b],[]⟩=(pure [(W8 "self",a),(W8 "message",b)]:Sem (List (Str×WY))):=by kernel_rfl
theorem Fq(P:W1):aA (ah P 265).scope ["self", "message"]=true:=by kernel_rfl
theorem pq:kY.Nodup:=by decide +kernel
noncomputable def Rp:Ak:=cD 316 (s1 fun st K qq=>qD st K) qm
theorem H0(Z:Z0 w la S) (hn:21<=n):aW w (J1 w.params la S) n Rp :=
 .ref (a:=216) (zj fun F m st fz s K X Q E FO LV R h P qq=>iS Z FO (LV.le hn) R h P) .nil
section
variable {F':Fm}
noncomputable def HQ:List Ch->bE
 |[]=>none
 |c::_=>some (c.r,c.k)
noncomputable def Dm:List Ch->V
 |[]=> .none
 |c::_=> .loc c.r c.k
noncomputable def GW:List Ch->V
 |[]=> .none
 |c::_=> .chr c
noncomputable def sj(st:LS):LS:=match st.r with
 |[]=>st
 |c::r=>⟨st.a,c::st.c,r⟩
theorem RV.loc_arg{rest:ad} (h:∀p∈fz,p∈rest) {l:List Ch}{lv:WY} (rv:RV P la fz (Dm l) lv):kI rest lv:=by
 rcases l with qq|⟨c,r⟩
 . obtain rfl:=rv.view;exact .none
 ·
   obtain⟨qq,rfl,qi⟩:=rv.view;refine qi _ ?_;rintro sl tr tk d h1 h2 qq qq
   exact .loc _ d sl _ (h _ h1) (h _ h2)
theorem RV.exLoc(h:∀p∈fz,p∈fz') {l:List Ch}{lv:WY} (rv:RV P la fz (Dm l) lv) (hg:getL "loc" es=some (some lv)):jC fz' es (HQ l):=by
 rcases l with qq|⟨c,r⟩
 . obtain rfl:=rv.view;exact hg
 ·
   obtain⟨a,rfl,hl⟩:=rv.view
   exact⟨a,hg,hl.mono h⟩
theorem rY(JO:bZ (bC la I)) (C:nP F F') (FO':aa w F') {mu:ad}{x t:W3} (hI:I st mu fz s.gens) (nd:((mu++fz).map (·.1)).Nodup) (hos:s.os=F'.os) (hdr:s.drawn=F'.dr)
   (R:aO F' m ((x,cX (some dx) (mR t))::(dx,Xc es n)::(mu++fz)) s s) (ne:∀p∈mu++fz,p.1≠x) (lt:∀p∈mu++fz,p.1<dx) (hx:x<dx) (hp:jC ((dx,Xc es n)::fz) es p) {Q:Unit->W2->Prop}
   (h:∀s',rU I F st ((dx,Xc es n)::fz) p (.ref x) s'->Q () s'):wpAny (model ae w) F'.A (leaving F'.env (.ref x)) Q E s:=by
 have hout:F'.outer=F.env::F.outer:=C.outer
 have hbase:F'.base=F.base:=C.base
 have K':=PySem.W.pushX (env:=F'.env) FO'.B R.fr rfl FO'.kind
 have hin:∀env∈(F'.env::F'.outer),∀b,env.frame=some b->b∈x::(F'.env::F'.outer).filterMap (·.frame):=fun env he b hb=> .tail _ (List.mem_filterMap.mpr ⟨env,he,hb⟩)
 have hxe:=R.nw _ (.head _)
 have hxb:F'.base.get? x=none:=fresh_of_stays FO'.B.stays hxe.2.2
 have hkb:F'.base.StaysIn (hideAll s.heap (x::(F'.env::F'.outer).filterMap (·.frame))):=fun b o q=>hideAll_get _ (K'.stays b o q) fun hm=>(Xb.mp hm).elim (fun e=>bN (hxb.symm.trans (e▸q))) fun hm=>bN ((K'.frames.mem hm).1.symm.trans q)
 have hl:∀q∈(dx,Xc es n)::(mu++fz),(hideAll s.heap (x::(F'.env::F'.outer).filterMap (·.frame))).get? q.1=some q.2/\F'.base.get? q.1=none:=fun q hq=>by
   have hqn:=R.nw q (.tail _ hq)
   refine⟨hideAll_get _ hqn.1 fun hm=>(Xb.mp hm).elim (fun e=>(Xb.mp hq).elim (fun e'=>X3 hx (e.symm.trans (congrArg Prod.fst e'))) fun hq=>ne q hq e) fun hm=>?_,fresh_of_stays FO'.B.stays hqn.2.2⟩
   obtain⟨env,he,hf⟩:=List.mem_filterMap.mp hm
   refine(Xb.mp he).elim (fun e=>?_) fun he=>?_
   . subst e;exact hqn.2.1 (XE hf).symm
   . obtain⟨o,ho,qq⟩:=(FO'.B.frames.mem (List.mem_filterMap.mpr ⟨env,he,hf⟩)).2
     exact bN (hqn.2.2.symm.trans ho)
 have hff:=funFrames_hide K'.frames hin
 have hst:(hideAll s.heap (x::(F'.env::F'.outer).filterMap (·.frame))).StaysIn s.heap:=fun b o q=>of_hideAll _ q
 have hxn:(hideAll s.heap (x::(F'.env::F'.outer).filterMap (·.frame))).get? x=none:=hideAll_none _ (.head _)
 have hff':s.heap.FunFrames (hideAll s.heap (x::(F'.env::F'.outer).filterMap (·.frame))) (F'.env::F'.outer):=hff
 clear hff
 generalize hideAll s.heap (x::(F'.env::F'.outer).filterMap (·.frame))=B at hkb hl hst hxn hff'
 refine nf (iw dx) (base:=B) FO'.fr hff' (L:=F'.L) rfl hxe.1 hst hxn rfl rfl ⟨rfl,rfl⟩ fun h' fl up=>?_
 rw[hout] at fl
 obtain⟨VW,VX⟩:=C.fr
 exact h _ (fun qq qk=>qk x dx es n mu _ rfl (.head _) hp (JO.mono _ _ _ _ _ hI (a5 _)) (gJ nd lt) (hbase▸hkb) (fun q hq=>hbase▸hl q (bH hq)) fl ⟨VW,F'.Up,VX,(Heap.UpToSlots.of_keeps R.fr.keep).trans up⟩ (hos.trans C.os) (hdr.trans C.dr))
end
section
theorem zV(Z:Z0 w la S) {c:Ak} (hc:aW w (J1 w.params la S) n c):aI w (J1 w.params la S) (uZ c fun qq qq qq=>none) n :=
 eX (ef Z.SO) sh (fun h=>ly h) (fun qq qq qq qq qq qq qq qq qq qq qq qq qq h=>bN h) hc (fun qq qq qq qq qq qq qq qq qq qq qq qq qq qq qq qq qq qq qq qq qq h=>bN h)
theorem vq{st:LS}{X:bE->LS->Prop} (h:Il st X):X (HQ st.r) (sj st):=by
 obtain⟨a,c,r⟩:=st
 cases r<;>exact h
theorem FW{st:LS}{v:V}:EJ (uZ Rp fun qq qq qq=>none) (fun qq qq=>False) nV [some .self,some v,none,none] st (fun fl ρ st'=>fl= .next/\ρ=[some .self,some v,some (GW st.r),none]/\st'=sj st):=by
 obtain⟨a,c,r⟩:=st
 cases r<;>exact(⟨rfl,rfl,rfl⟩:Fl.next= .next/\_/\_)
theorem Hc{st:LS}{v:V} (l:List Ch):EJ (uZ Rp fun qq qq qq=>none) (fun qq qq=>False) nC [some .self,some v,some (GW l),none] st (fun fl ρ st'=>fl= .next/\ρ=[some .self,some v,some (GW l),some (Dm l)]/\st'=st):=by
 cases l<;>exact(⟨rfl,rfl,rfl⟩:Fl.next= .next/\_/\_)
theorem Gc(Z:Z0 w la S):DJ w la S where
 ok F m st fz s v xv X Q E FO LV R rv h PE:=by
   refine wpAny_call (fo (n:=23) FO LV (Kd _) (.of_eq (CJ _ _ _)) (au (Fq _) rfl) R fun F' s' C FO' LV' he hsc R'=>?_)
   have hS:=hsc.trans (Qy _)
   have OO:=zV Z (H0 Z (by decide:21<=23))
   have e:ay (ah w.params 265)=cP (B0 265)::cP (B0 265).tail::[.Raise (some (.Call (.Name "CompilerError" _) [.Name "message" _,.Name "loc" _] [] _)) none _]:=(Qq _).trans rfl
   rw[e]
   refine Xa (om OO FO' LV' pq nV _ (hS▸Gt) _ _ st fz s' _ _ _ FW R' (y4 (ns:=["char", "loc"]) (us:=[none,none]) (bJ 2) (by decide +kernel) .self rv) (fun fl ρ st' fz' m' s'' xf hk hf R'' L'' rf=>?_) (fun qq qq qq qq qq hx=>hx.elim) PassesOwn.leaving)
   obtain⟨rfl,rfl,rfl⟩:=hk
   cases rf
   refine Xa (om OO FO' LV' pq nC _ (hS▸FR) _ _ (sj st) fz' s'' _ _ _ (Hc st.r) R'' L'' (fun fl ρ st' Uy Vd Uq xf hk Uu Uo UL rf=>?_) (fun qq qq qq qq qq hx=>hx.elim) PassesOwn.leaving)
   obtain⟨rfl,rfl,rfl⟩:=hk
   cases rf
   obtain⟨xm,hm,rm⟩:=UL 1 "message" (.str v) rfl rfl
   obtain⟨xl,hl,rl⟩:=UL 3 "loc" (Dm st.r) rfl rfl
   refine Uo.raw _ ?_;rintro mu hI Rr nd
   refine Xa ?_
   rw[arm_exec_Raise]
   refine W6 (wpAny_standAt (v8 LV'.hd (W6 (Xq (Q:=fun v Un=>∃e dx t,v= .ref e/\(KF w.params).In Un.heap/\Un.heap.get? e=some (cX (some dx) (mR t))/\wpAny (model ae w) F'.A (leaving F'.env (.ref e)) (fun qq s''=>E (.ref e) s'') (fun e' s''=>E e' s'') Un)
     (Call_ (bF FO' Rr (gn hS (by kernel_rfl)) (.inl (Jy _)) (XZ (P:=fun h=>(KF w.params).In h) rfl (fun h X=>keeps_K (wH _) h X)
       (aq (Xz (ax FO' Rr (ln hS (by kernel_rfl)) hm (Xz (ax FO' Rr (ln hS (by kernel_rfl)) hl (args_nil ⟨FO'.G.X.keeps Rr.fr.keep,?_⟩))))) rfl))) rfl) (fun v Un hv=>W6 (wpAny_standAt (Xk hv))) fun qq qq x=>x))))
   exact wT FO' LV'.hd LV'.lt2 Rr (rl.loc_arg fun p hp=>W4 _ hp) fun x dx t es n Ut hg ne lt hx qq Ur =>
     ⟨x,dx,t,rfl,FO'.G.X.keeps Ur.fr.keep,(Ur.nw _ (.head _)).1,rY (p:=HQ st.r) (ef Z.SO) C FO' (Ur.gens▸hI) nd (Ur.os.trans Uo.os) (Ur.dr.trans Uo.dr) ⟨Ur.fr,Ur.nw,rfl,rfl,rfl⟩ ne lt hx (rl.exLoc (a5 _) hg) fun UW hz =>
       PE _ _ _ _ _ (vq h) (az (az hf Uu) (a5 _)) hz⟩
end
end
section
open PySem.Sem (wp)
open PySem.W.X (SegX)
section
variable {c:Code}{P:End->W2->Prop}{env:Env}{K:Flow->Sem Fin}{H:WY->Sem Fin}{gd:Bool->Bool}{lv:List WY->List WY}
theorem bX{m:Sem α}{K:α->Sem Fin}{H:WY->Sem Fin}{gd lv} (h:wpAny M (A.over c fs) m (fun a s'=>SegX M A c (K a) fs s' P) (fun x s'=>SegX M A c (H x) fs s' P) s):SegX M A c (m.wrap K H gd lv) fs s P:=by
 rintro Γ p rfl hΓ
 obtain⟨e,s',hr,hq⟩:=runs_wrap_of_wp (Φ:=fun e s'=>e.quiet=true/\P e s') K H gd lv m (h (Γ.over fs) p (hΓ.over fs)) (fun a p' s' h'=>h' Γ p' rfl hΓ) (fun x p' s' h'=>h' Γ p' rfl hΓ)
 exact⟨e,s',hr,hq⟩
theorem lO{p':Pos}{k:Unit->Sem Fin} (h:SegX M A c (k ()) fs s P):SegX M A c (.at p' k) fs s P:=bX (m:=standAt p') (K:=k) (H:= .raise) (gd:=id) (lv:=id) (wpAny_standAt h)
theorem CY{l:List WY}{k:Unit->Sem Fin} (h:SegX M A c (k ()) fs s P):SegX M A c (.point l k) fs s P:=bX (m:=point) (K:=k) (H:= .raise) (gd:=id) (lv:=fun qq=>l) (wpAny_point h)
theorem rT{c':Code}{h g l}{k:Result->Sem Fin} (hc:∀p,SegX M A c' (M.den c') (.ret k h g l c p []::fs) s P):SegX M A c (.call c' h g l k) fs s P:=by
 rintro Γ p rfl hΓ
 obtain⟨e,s',hr,he⟩:=hc p (Γ.goto c') p rfl (hΓ.goto c')
 exact⟨e,s',runs_call_seg hr,he⟩
theorem gW{k h g l c₁ Wd kp} (r:Result) (hk:SegX M A c₁ (k r) fs s P):SegX M A c (leafOf r) (.ret k h g l c₁ Wd kp::fs) s P:=by
 rintro Γ p rfl hΓ
 obtain⟨e,s',hr,he⟩:=hk (Γ.goto c₁) Wd rfl (hΓ.goto c₁)
 exact⟨e,s',Runs.pop r hr,he⟩
theorem bM{c':Code} (hq:c'.quiet=true) (hc:SegX M A c' (M.den c') fs s P):SegX M A c (.pure (.again c')) fs s P:=by
 rintro Γ p rfl hΓ
 obtain⟨e,s',hr,he⟩:=hc (Γ.goto c') p rfl (hΓ.goto c')
 exact⟨e,s',Runs.head (c₁:=c') (fun qq qq x=> .again hq x) hr,he⟩
theorem mG(r:Result) (h:P (.ret r) s):SegX M A c (leafOf r) [] s P:=by
 rintro Γ p rfl qq
 exact⟨.ret r,s,Runs.leaf r,rfl,h⟩
theorem AO{v g l}{k:Resume->Sem Fin} (hfs:splitAtGen fs=none) (hg:g=false) (hfg:fs.any Frame.guarded=false) (h:∀p,P (.susp v false l k c p fs) s):SegX M A c (.yield v g l k) fs s P:=by
 subst hg
 rintro Γ p rfl qq
 exact⟨_,s,Runs.yield' fs hfs,by simp[End.quiet,hfg],h p⟩
theorem aw{st:Stmt}{rest:List Stmt} (h:SegX M A c ((exec st env).wrap (fun f=>match f with| .next=>(execs rest env).wrap K H gd lv|f=>K f) H gd lv) fs s P) :
   SegX M A c ((execs (st::rest) env).wrap K H gd lv) fs s P:=by rw[execs_cons_wrap];exact h
theorem et{e:W5}{ypos:Pos} (hfs:splitAtGen fs=none) (hgd:gd false=false) (hfg:fs.any Frame.guarded=false)
   (h:wpAny M (A.over c fs) (eval e env) (fun v s'=>∀l k p,(∀A' s'' P',SegX M A' c (K .next) fs s'' P'->SegX M A' c (k (.send .none)) fs s'' P')->P (.susp v false l k c p fs) s')
     (fun x s'=>SegX M A c (H x) fs s' P) s) (hco:env.scope.isCoroutine=false:=by rfl) (hi:interactive env=false:=by rfl) :
   SegX M A c ((exec (.Expr (.Yield (some e) ypos) pos) env).wrap K H gd lv) fs s P:=by
 rw[exec_Expr env _ pos hi rfl]
 show SegX M A c (.at pos fun qq=>((eval e env >>= fun v=>(standAt ypos >>= fun qq=>yieldOut env v)) >>= fun x =>
   dropValue (.Yield (some e) ypos) pos x).wrap K H gd lv) fs s P
 have hy:∀v,yieldOut env v=yieldValue v:=fun v=>by simp only[yieldOut,hco,Bool.false_eq_true,if_false]
 simp only[hy]
 refine lO ?_
 rw[XU,XU,X6,X6]
 refine bX (Xq h (fun v s' h'=>?_) fun qq qq x=>x)
 refine lO (AO hfs hgd hfg fun p=>?_)
 exact h' _ _ p fun A' s'' P' hx=>hx
theorem t8{test:W5}
   (h:∀p,SegX M A (.whileLoop test body orelse env) (M.den (.whileLoop test body orelse env))
     (.ret (fun r=>((match r with| .ok f=>(.pure f:Sem Flow)| .error e=> .raise e).onRaise fun(x:WY)=>do
       if (←field x 1) == Value.none then unsupported "frame.own-activation:exception-without-traceback"
       setFlight x env.frame).wrap K H gd lv) none (gd false) (lv []) c p []::fs) s P) :
   SegX M A c ((exec (.While test body orelse pos) env).wrap K H gd lv) fs s P :=
 lO (rT h)
theorem xw{target iter:W5}
   (h:wpAny M (A.over c fs) (eval iter env) (fun x Un=>wpAny M (A.over c fs) (pyIter x) (fun it Uq=>∀p,SegX M A (.forLoop target it body orelse env) (M.den (.forLoop target it body orelse env))
     (.ret (fun r=>((match r with| .ok f=>(.pure f:Sem Flow)| .error e=> .raise e).onRaise fun(x:WY)=>do
       if (←field x 1) == Value.none then unsupported "frame.own-activation:exception-without-traceback"
       setFlight x env.frame).wrap K H gd lv) none (gd false) (lv []) c p []::fs) Uq P) (fun x s'=>SegX M A c (H x) fs s' P) Un) (fun x s'=>SegX M A c (H x) fs s' P) s)
   (hs:∀x,foldedSetIterable iter env x=pure x:=by intro qq;rfl) :
   SegX M A c ((exec (.For target iter body orelse pos) env).wrap K H gd lv) fs s P:=by
 rw[exec_For]
 show SegX M A c (.at pos fun qq=>((eval iter env >>= fun x=>foldedSetIterable iter env x >>= fun x=>standAt iter.pos >>= fun qq=>holding [x] (pyIter x) >>= fun it=>runOwn (.forLoop target it body orelse env) env).wrap K H gd lv)) fs s P
 refine lO ?_
 rw[XU,X6]
 refine bX (Xq h (fun x Un h₁=>?_) fun qq qq x=>x)
 show SegX M A c (Sem.wrap K H gd lv (foldedSetIterable iter env x >>= fun x=>standAt iter.pos >>= fun qq=>holding [x] (pyIter x) >>= fun it=>runOwn (.forLoop target it body orelse env) env)) fs Un P
 rw[hs x]
 show SegX M A c (.at iter.pos fun qq=>(holding [x] (pyIter x) >>= fun it=>runOwn (.forLoop target it body orelse env) env).wrap K H gd lv) fs Un P
 refine lO ?_
 rw[XU,X6]
 refine bX (wpAny_holding (Xq h₁ (fun it Uq UI=>?_) fun qq qq x=>x))
 exact rT UI
end
section
variable {P:End->W2->Prop}{env:Env}
theorem nI
   (h:SegX (model prog w) A (.func body env) ((execs body env).wrap (fun f=> .pure (.done (.ret (match f with| .ret v=>v|_=> .none))))
     (fun e=>(leaving env e).wrap (fun qq=> .raise e) .raise id id) id id) fs s P) :
   SegX (model prog w) A (.func body env) ((model prog w).den (.func body env)) fs s P:=by
 show SegX _ A _ (.point [] fun qq=>((execs body env).onRaise (leaving env)) >>= _) fs s P
 refine CY ?_
 rw[Sem.onRaise_eq_wrap,XU,X6]
 rw[Sem.wrap_congr (execs body env) _ _ (K':=fun f=> .pure (.done (.ret (match f with| .ret v=>v|_=> .none))))
   (H':=fun e=>(leaving env e).wrap (fun qq=> .raise e) .raise id id) (fun f=>by cases f<;>rfl)
   (fun e=>by rw[Sem.bind_eq_wrap,X6];rfl)]
 exact h
end
end
section
open PySem.Sem (wp)
open PySem.W.X (SegX)
noncomputable abbrev aK(env:Env) (e:WY):Sem Fin:=(do noteFrame e env;theTreesLotGoes e:Sem Unit).wrap (fun qq=> .raise e) .raise id id
section
variable {P:End->W2->Prop}{env:Env}
theorem hV{m:Sem Fin}:m.onRaise (fun x=>do noteFrame x env;theTreesLotGoes x)=m.wrap .pure (aK env) id id:=by
 rw[Sem.onRaise_eq_wrap]
 exact Sem.wrap_congr m _ _ (fun qq=>rfl) (fun e=>Sem.bind_eq_wrap _ _)
theorem jS(h:SegX (model prog w) A (.block body env) ((execs body env).wrap (fun f=> .pure (.done f)) (aK env) id id) fs s P):SegX (model prog w) A (.block body env) ((model prog w).den (.block body env)) fs s P:=by
 show SegX _ A _ ((execs body env).onRaise (fun x=>do noteFrame x env;theTreesLotGoes x) >>= fun f=>pure (Fin.done f)) fs s P
 rw[Sem.onRaise_eq_wrap,XU,X6]
 rw[Sem.wrap_congr (execs body env) _ _ (K':=fun f=>(.pure (.done f):Sem Fin)) (H':=aK env) (fun f=>by rfl) (fun e=>by
   show((do noteFrame e env;theTreesLotGoes e:Sem Unit).bind (fun qq=>Sem.raise e)).wrap _ _ _ _=_
   rw[Sem.bind_eq_wrap,X6];rfl)]
 exact h
theorem eS{target:W5}{it:WY}
   (h:wpAny (model prog w) (A.over (.forLoop target it body orelse env) fs) (pyNext it) (fun r Un=>match r with
       |none=>SegX (model prog w) A (.block orelse env) ((model prog w).den (.block orelse env)) fs Un P
       |some v=>wpAny (model prog w) (A.over (.forLoop target it body orelse env) fs) (assign target env v) (fun qq Uq =>
           SegX (model prog w) A (.forLoop target it body orelse env) ((execs body env).wrap (fun f=>match f with
             |.next| .cont=> .pure (.again (.forLoop target it body orelse env))
             |.brk=> .pure (.done .next)
             |.ret v=> .pure (.done (.ret v))) (aK env) id id) fs Uq P)
           (fun x s'=>SegX (model prog w) A (.forLoop target it body orelse env) (aK env x) fs s' P) Un)
     (fun x s'=>SegX (model prog w) A (.forLoop target it body orelse env) (aK env x) fs s' P) s)
   (ht:∀v,letOwnedTupleGo target it v=pure ():=by intro qq;rfl) :
   SegX (model prog w) A (.forLoop target it body orelse env) ((model prog w).den (.forLoop target it body orelse env)) fs s P:=by
 show SegX _ A _ ((forTurn target it body orelse env).onRaise (fun x=>do noteFrame x env;theTreesLotGoes x)) fs s P
 rw[hV]
 unfold forTurn
 show SegX _ A _ (.at target.pos fun qq=>(((pyNext it).onRaise (fun qq=>standAt {target.pos with line:=0})) >>= fun r=>(match r with
   |none=>again (.block orelse env)
   |some v=>letOwnedTupleGo target it v >>= fun qq=>assign target env v >>= fun qq=>execs body env >>= fun f=>(match f with
     |.next| .cont=>again (.forLoop target it body orelse env)
     |.brk=>pure (.done .next)
     |.ret v=>pure (.done (.ret v))))).wrap .pure (aK env) id id) fs s P
 refine lO ?_
 rw[XU,X6]
 refine bX (wpAny_onRaise (Xq h (fun r Un h₁=>?_) fun x s' hx=>wpAny_standAt hx))
 rcases r with qq|v
 . exact bM rfl h₁
 ·
   dsimp only
   rw[ht v]
   show SegX _ A _ ((assign target env v >>= fun qq=>execs body env >>= fun f=>(match f with
     |.next| .cont=>again (.forLoop target it body orelse env)
     |.brk=>pure (.done .next)
     |.ret v=>pure (.done (.ret v)))).wrap .pure (aK env) id id) fs Un P
   rw[XU,X6]
   refine bX (Xq h₁ (fun qq Uq UI=>?_) fun qq qq x=>x)
   show SegX _ A _ ((execs body env >>= fun f=>_).wrap .pure (aK env) id id) fs Uq P
   rw[XU,X6]
   rw[Sem.wrap_congr (execs body env) _ _ (K':=fun f=>match f with
             |.next| .cont=> .pure (.again (.forLoop target it body orelse env))
             |.brk=> .pure (.done .next)
             |.ret v=> .pure (.done (.ret v))) (H':=aK env) (fun f=>by cases f<;>rfl) (fun e=>by rfl)]
   exact UI
theorem eA{test:W5}
   (h:wpAny (model prog w) (A.over (.whileLoop test body orelse env) fs) (isTrue test env (eval test env)) (fun b s' =>
       if b=true then
         SegX (model prog w) A (.whileLoop test body orelse env) ((execs body env).wrap (fun f=>match f with
           |.next| .cont=> .pure (.again (.whileLoop test body orelse env))
           |.brk=> .pure (.done .next)
           |.ret v=> .pure (.done (.ret v))) (aK env) id id) fs s' P
       else SegX (model prog w) A (.whileLoop test body orelse env) ((execs orelse env).wrap (fun f=> .pure (.done f)) (aK env) id id) fs s' P)
     (fun x s'=>SegX (model prog w) A (.whileLoop test body orelse env) (aK env x) fs s' P) s) :
   SegX (model prog w) A (.whileLoop test body orelse env) ((model prog w).den (.whileLoop test body orelse env)) fs s P:=by
 show SegX _ A _ ((whileTurn test body orelse env).onRaise (fun x=>do noteFrame x env;theTreesLotGoes x)) fs s P
 rw[hV]
 unfold whileTurn
 rw[XU,X6]
 refine bX (Xq h (fun b s' hb=>?_) fun x s' hx=>hx)
 rcases b with qq|qq
 ·
   rw[if_neg Bool.false_ne_true] at hb
   show SegX _ A _ (Sem.wrap _ _ _ _ (if false=true then _ else _)) fs s' P
   rw[if_neg Bool.false_ne_true,XU,X6]
   exact hb
 ·
   rw[if_pos rfl] at hb
   show SegX _ A _ (Sem.wrap _ _ _ _ (if true=true then _ else _)) fs s' P
   rw[if_pos rfl,XU,X6]
   rw[Sem.wrap_congr (execs body env) _ _ (K':=fun f=>match f with
           |.next| .cont=> .pure (.again (.whileLoop test body orelse env))
           |.brk=> .pure (.done .next)
           |.ret v=> .pure (.done (.ret v))) (H':=aK env) (fun f=>by cases f<;>rfl) (fun e=>by rfl)]
   exact hb
end
end
section
noncomputable def fk(A:Yc) (Up:Heap) (q:Str) (sc:Scope) (L a:W3) (cd:WY) (os:OsState) (dr:Drawn):Fm :=
 {A:={A with frames:=some [envOf q sc L a cd]},UU:={A with frames:=some []},base:=Up,Up,outer:=[],q,sc,L,a,cd,os,dr}
theorem ui{q:Str}{os:OsState}{dr:Drawn} (G:Ab w Up) (hk:sc.kind= .function):aa w (fk A Up q sc L a cd os dr) :=
 ⟨⟨rfl,fun qq qq e=>e,trivial⟩,rfl,G,hk,G⟩
section
variable {news:ad}
theorem Gk(FO:aa w F) (hdep:A.depth<Xh) (KO:bl w.params f) {R:Result->W2->Prop}
   (hbind:lB s (ah w.params f) args binds) (hloc:binds.all (fun y=>(ah w.params f).scope.names.lookup y.1 == some .local)=true) (UC:aO F m news s₀ s)
   (h:∀F' s',aa w F'->F'.env=envOf (ah w.params f).qualname (ah w.params f).scope F'.L f (ah w.params f).code->F'.sc=(ah w.params f).scope ->
     aO F' (fun y=>binds.reverse.lookup y) news s₀ s' ->
     wpAny (model ae w) (A.deeper F'.env) (execs (ay (ah w.params f)) F'.env) (fun fl s''=>∃m' news',aO F' m' news' s₀ s''/\(aO F m news' s₀ s''->R (.ok (.ret (match fl with| .ret v=>v|_=> .none))) s''))
       (fun qq qq=>False) s') :
   codeAny (model ae w) A (.call (.ref f) args) R s:=by
 have S:=dp KO.scope
 refine codeAny_call_def (fd:=Ng (ah w.params f)) (body:=ay (ah w.params f)) (binds:=binds) hdep (FO.G.X.keeps UC.fr.keep _ _ KO.shape) rfl (FO.G.lim.keeps UC.fr.keep) (codeRec_of (FO.G.X.keeps UC.fr.keep) KO.code) rfl (KO.fd▸hbind.h) S.cell (fun y hy=>eq_of_beq (X7.mp hloc y hy)) (fun h₁ hns UY=>?_) S.co S.gen S.kind
 have st:∀b o,F.Up.get? b=some o->(hideAll s.heap (news.map (·.1))).get? b=some o:=fun b o q=>hideAll_get _ (UC.fr.keep b o q) fun hm=>by
   obtain⟨p,hp,rfl⟩:=Xp.mp hm
   rw[(UC.nw p hp).2.2] at q;cases q
 have Vj:aa w (fk A (hideAll s.heap (news.map (·.1))) (ah w.params f).qualname (ah w.params f).scope s.heap.objs.size f (ah w.params f).code F.os F.dr):=ui (FO.G.keeps st) S.kind
 have Uv:aO (fk A (hideAll s.heap (news.map (·.1))) (ah w.params f).qualname (ah w.params f).scope s.heap.objs.size f (ah w.params f).code F.os F.dr) (fun y=>binds.reverse.lookup y) news s₀ {s with heap:=h₁,toks:=s.toks+binds.length}:=by
   refine⟨⟨hns,fun b o q=>UY b o (of_hideAll _ q),W9 (hideAll_size _ _)⟩,fun p hp=>⟨UY _ _ (UC.nw p hp).1,X3 (XQ (UC.nw p hp).1),hideAll_none _ (Xv hp)⟩,UC.gens,UC.os,UC.dr⟩
 refine Xq (h _ _ Vj rfl rfl Uv) (fun fl s'' hh=>?_) fun qq qq x=>x.elim
 obtain⟨m',news',R',k⟩:=hh
 refine k ?_
 obtain⟨oL,es,ep,hL,hLd,hLk,hLf⟩:=UC.fr.ns
 have hLg:(hideAll s.heap (news.map (·.1))).get? F.L=some oL:=hideAll_get _ hL fun hm=>by
   obtain⟨p,hp,q⟩:=Xp.mp hm
   exact(UC.nw p hp).2.1 q
 refine⟨⟨⟨oL,es,ep,R'.fr.keep F.L oL hLg,hLd,hLk,hLf⟩,fun b o q=>R'.fr.keep b o (st b o q),UC.fr.above⟩,fun p hp=>⟨(R'.nw p hp).1,fun q=>?_,?_⟩,R'.gens,R'.os,R'.dr⟩
 . have z:=(R'.nw p hp).2.2
   rw[q] at z
   have z':(hideAll s.heap (news.map (·.1))).get? F.L=none:=z
   rw[hLg] at z';cases z'
 . rcases q:F.Up.get? p.1 with qq|o
   . rfl
   ·
     have z:(hideAll s.heap (news.map (·.1))).get? p.1=none:=(R'.nw p hp).2.2
     rw[st _ _ q] at z;cases z
end
end
section
section
variable {news:ad}
theorem mL(FO:aa w F) (hh:A.handled=none) (hdep:A.depth+2<Xh) (R:aO F m news s₀ s) {C fI:W3} (hm:makesIn (KF w.params) C=true) (hi:findIn (KF w.params) (.ref C) "__init__" = some (some (.ref fI)))
   (hf:isFn (KF w.params) (.ref fI)=true) (KO:bl w.params fI) {steps:List IS} (hchk:jx (KF w.params) C (ah w.params fI).scope steps (ay (ah w.params fI))) {vals:List WY}{binds:WY->List (Str×WY)}
   (hb:∀x s,(∀b o,(KF w.params).lookup b=some o->s.heap.get? b=some o)->lB s (ah w.params fI) ⟨.ref x::vals,[]⟩ (binds (.ref x))) (hloc:∀x,(binds x).all (fun y=>(ah w.params fI).scope.names.lookup y.1 == some .local)=true) (hself:∀x,(binds x).reverse.lookup (W8 "self")=some x)
   {K:Array (Option WY)->List XH->Nat->Prop} (hrun:∀x,kx w.params news (fun y=>(binds x).reverse.lookup y) steps #[] [] 0 K)
   (h:∀x dx sl es n s',K sl es n->aO F m ((x,aE C (some dx) sl)::(dx,Xc es n)::news) s₀ s'->(∀p∈news,p.1<dx)->dx<x->Q (.ref x) s') :
   wpAny (model ae w) A (call (.ref C) vals []) Q E s:=by
 refine call_cls R.fr FO.G.X R.nw hm hi hf fun x dx h' F' N' lt hlt=>?_
 have R':aO F m ((x,aE C (some dx) #[])::(dx,Xc [] 0)::news) s₀ {s with heap:=h'}:=⟨F',N',R.gens,R.os,R.dr⟩
 have hd1:(A.under (.builtin "type.__call__" ⟨.ref C::vals,[]⟩)).depth=A.depth+1:=depth_under_kw _ _ _ _
 exact Gk FO (show(A.under _).depth<_ from hd1▸Nat.lt_of_succ_lt hdep) KO (hb x _ (fun b o e=>FO.G.X.keeps F'.keep b o e)) (hloc _) R' fun Uz Uq Ux he hsc Uo =>
   Xq (jR Ux (show((A.under (.builtin "type.__call__" ⟨.ref C::vals,[]⟩)).deeper Uz.env).handled=none from hh) (XC hlt) lt hlt (hself _) steps _ (hsc▸hchk) _ _ _ Uq K _ Uo (hrun _)) (fun fl Ut hq=>hq.casesOn fun sl es n hK Ur =>
     ⟨_,_,Ur,fun Uw=>⟨rfl,h x dx sl es n Ut hK Uw lt hlt⟩⟩) fun qq qq x=>x
end
noncomputable def Ka:List IS:=[.slot 58 1 "filename",.slot 11 3 "row",.slot 12 0 "col",.slot 59 2 "ln",.slot 60 4 "source"]
theorem R8(P:W1):bl P 68:=⟨by kernel_rfl,by kernel_rfl,by kernel_rfl⟩
theorem Rm(P:W1):jx (KF P) 79 (ah P 68).scope Ka (ay (ah P 68)):=⟨by kernel_rfl,by kernel_rfl⟩
theorem PS(P:W1):ju (KF P) 79 68=true:=by kernel_rfl
theorem OU(P:W1):dK (ah P 68) ["self", "filename", "row", "col", "ln", "source"]:=by kernel_rfl
theorem Ol(P:W1):wW (KF P) (ah P 68) [.none]:=⟨by kernel_rfl,by kernel_rfl⟩
theorem M7(P:W1):aA (ah P 68).scope ["self", "filename", "row", "col", "ln", "source"]=true:=by kernel_rfl
theorem A5{fd:FuncData} (h:dK fd ["self", "filename", "row", "col", "ln", "source"]) {T:W3}{d:WY} (hd:fd.defaults= .ref T) (hT:s.heap.get? T=some o) (ho:o.data= .seq #[d] k) (a b c e f:WY) :
   lB s fd ⟨[a,b,c,e,f],[]⟩ [("self",a),("filename",b),("row",c),("col",e),("ln",f),("source",d)]:=h.bnd ⟨BindsTo.of_defaults (fd:={fd with params:=uo fd _}) hd hT ho rfl rfl⟩
section
variable {news:ad}
theorem uF(FO:aa w F) (hh:A.handled=none) (hdep:A.depth+2<Xh) (R:aO F m news s₀ s) {fv:WY}{r k j:Int}{t1 t2 t3:Tok}
   (h:∀x dx sl s',(sl[3]?).join=some (Value.int r t1)->(sl[0]?).join=some (Value.int k t2)->aO F m ((x,aE 79 (some dx) sl)::(dx,Xc [] 0)::news) s₀ s'->(∀p∈news,p.1<dx)->dx<x->Q (.ref x) s') :
   wpAny (model ae w) A (call (.ref 79) [fv,.int r t1,.int k t2,.int j t3] []) Q E s:=by
 obtain⟨m1,m2,m3⟩:=dN (PS w.params)
 have D:=Ol w.params
 refine mL FO hh hdep R m1 m2 m3 (R8 _) (Rm _) (binds:=fun x=>[(W8 "self",x),(W8 "filename",fv),(W8 "row",.int r t1),(W8 "col",.int k t2),(W8 "ln",.int j t3),(W8 "source",.none)])
   (fun x s X=>A5 (OU _) D.d (X _ _ D.o) rfl _ _ _ _ _) (fun x=>au (M7 _) rfl) (fun x=>by kernel_rfl)
   (K:=fun sl es n=>es=[]/\n=0/\(sl[3]?).join=some (.int r t1)/\(sl[0]?).join=some (.int k t2)) (fun x=>?_) fun x dx sl es n s' hK Uo lt hlt=>?_
 . exact⟨fv,by kernel_rfl,.int r t1,by kernel_rfl,.int k t2,by kernel_rfl,.int j t3,by kernel_rfl,.none,by kernel_rfl,rfl,rfl,by kernel_rfl,by kernel_rfl⟩
 . obtain⟨rfl,rfl,e1,e2⟩:=hK
   exact h x dx sl s' e1 e2 Uo lt hlt
theorem vr(FO:aa w F) (hh:A.handled=none) (hdep:A.depth+2<Xh) (R:aO F m news s₀ s) {l:W3}
   (h:∀x dx es n s',getL "char" es=some (some (.str ⟨#[c]⟩ t))->getL "loc" es=some (some (.ref l))->aO F m ((x,Xu 183 dx)::(dx,Xc es n)::news) s₀ s'->(∀p∈news,p.1<dx)->dx<x->Q (.ref x) s') :
   wpAny (model ae w) A (call (.ref 183) [.str ⟨#[c]⟩ t,.ref l] []) Q E s:=by
 obtain⟨m1,m2,m3⟩:=dN (M0 w.params)
 refine mL FO hh hdep R m1 m2 m3 (OA _) (Op _) (binds:=fun x=>[(W8 "self",x),(W8 "char",.str ⟨#[c]⟩ t),(W8 "loc",.ref l)])
   (fun x s qq=> .of_eq (Bl _ _ _ _)) (fun x=>au (Gm _) rfl) (fun x=>by kernel_rfl)
   (K:=fun sl es n=>sl= #[]/\getL "char" es=some (some (.str ⟨#[c]⟩ t))/\getL "loc" es=some (some (.ref l))) (fun x=>?_) fun x dx sl es n s' hK Uo lt hlt=>?_
 . exact⟨.str ⟨#[c]⟩ t,by kernel_rfl,by decide,by kernel_rfl,fun tk=>⟨.ref l,by kernel_rfl,Xd (by kernel_rfl),by kernel_rfl,fun tk2=>⟨rfl,by kernel_rfl,by kernel_rfl⟩⟩⟩
 . obtain⟨rfl,e1,e2⟩:=hK
   exact h x dx es n s' e1 e2 Uo lt hlt
end
end
section
open PySem.Sem (wp)
open PySem.AutoSeq1 (wpAny_loadPart')
theorem wM{a:α}{Q:α->W2->Prop} (h:∀a,Q a s):wpAny M A (pure a) Q E s:=Xk (h a)
theorem G1(v:WY) (t:Tok) (Good:W2->WY->W2->Prop) (hv:∀(prog:Program) (w:Xj) (A:Yc) (E:WY->W2->Prop) (s:W2) (Q:WY->W2->Prop),(∀it Un,Good s it Un->Q it Un)->(∃it Un,Good s it Un)->wpAny (model prog w) A (pyIter v) Q E s) :
   Meets (Builtin.«enumerate.__new__» ⟨[.type "enumerate",v,.int 1 t],[]⟩) (fun qq R s=>(∃it Un,Good s it Un)/\∀it Un,Good s it Un ->
     R (.ok (.ret (.ref Un.heap.objs.size))) {Un with heap:=Un.heap.push {cls:= .type "enumerate",data:= .fields #[.none,.bool false,it,rawInt 1,.none,.none]}}) :=
 .of_wp fun prog w A R s h=>by
   obtain⟨hp,g,d,tk,os⟩:=s;obtain⟨hx,h⟩:=h
   have hsub:=sub_enumerate
   wp_walk
   refine wpAny_stack_any fun st=>wM fun b=>?_
   have key:wpAny (model prog w) A.in1 (pyIter v >>= fun it=>Builtin.SmallTypes.newRecord (.type "enumerate") (Builtin.SmallTypes.ownedTupleFields++[it,rawInt 1,.none,.none]) >>= fun r=>ret r)
       (fun fin s'=>∃v,fin=Fin.done (Flow.ret v)/\R (Except.ok (Flow.ret v)) s') (fun e s'=>R (Except.error e) s') ⟨hp,g,d,tk,os⟩:=by
     refine W6 (hv prog w _ _ _ _ (fun it Un hg=>?_) hx)
     have h1:=h it Un hg
     unfold Builtin.SmallTypes.newRecord
     exact W6 (wpAny_newObj_type (Xk ⟨_,rfl,h1⟩) (show 6<=sizeLine+2 by decide))
   rcases b with qq|qq
   . exact key
   . exact key
section
theorem Gx(a b:WY):checkTypeCall "enumerate" ⟨[a,b],[]⟩=pure ():=by kernel_rfl
theorem Hz(a b:WY):checkBuiltinCall "enumerate.__new__" ⟨[.type "enumerate",a,b],[]⟩=pure ():=by kernel_rfl
theorem tF(v:WY) (t:Tok) (Good:W2->WY->W2->Prop) (hv:∀(prog:Program) (w:Xj) (A:Yc) (E:WY->W2->Prop) (s:W2) (Q:WY->W2->Prop),(∀it Un,Good s it Un->Q it Un)->(∃it Un,Good s it Un)->wpAny (model prog w) A (pyIter v) Q E s) (hx:∃it Un,Good s it Un)
   (h:∀it Un,Good s it Un->Q (.ref Un.heap.objs.size) {Un with heap:=Un.heap.push {cls:= .type "enumerate",data:= .fields #[.none,.bool false,it,rawInt 1,.none,.none]}}) :
   wpAny (model prog w) A (call (.type "enumerate") [v,.int 1 t]) Q E s:=by
 refine callType_new F.called_enumerate (by decide) (Gx _ _) (Hz _ _) (fun obj=>F.args_object_init_3 obj _ _) F.entry_enumerate_new (G1 v t Good hv) ⟨hx,fun it Un hg=>?_⟩
 exact⟨⟨_,Heap.get?_push_size _ rfl,rfl⟩,h it Un hg⟩
theorem yV{l:W3}{items:Array WY} (hL:s.heap.IsList l items)
   (h:∀h',IsEnum h' (s.heap.objs.size+1) s.heap.objs.size 1 .none->h'.IsListIter s.heap.objs.size l 0->h'.objs.size=s.heap.objs.size+2 ->
     (∀b o,s.heap.get? b=some o->h'.get? b=some o)->Q (.ref (s.heap.objs.size+1)) {s with heap:=h'}) :
   wpAny (model prog w) A (call (.type "enumerate") [.ref l,.int 1 t]) Q E s:=by
 let G:W2->WY->W2->Prop:=fun s it Un=>s.heap.IsList l items/\it= .ref s.heap.objs.size/\Un={s with heap:=s.heap.push {cls:= .type "list_iterator",data:= .fields #[.ref l,.int 0 0]}}
 refine tF (.ref l) t G (fun prog w A E s Q hq he=>?_) ⟨_,_,hL,rfl,rfl⟩ fun it Un hg=>?_
 . obtain⟨it,Un,hg⟩:=he
   exact wpAny_pyIter_list hg.1 (hq _ _ ⟨hg.1,rfl,rfl⟩)
 . obtain⟨qq,rfl,rfl⟩:=hg
   have hz:(s.heap.push {cls:= .type "list_iterator",data:= .fields #[.ref l,.int 0 0]}).objs.size=s.heap.objs.size+1:=Heap.size_push ..
   have he:=Heap.get?_push_size (s.heap.push {cls:= .type "list_iterator",data:= .fields #[.ref l,.int 0 0]}) (o:={cls:= .type "enumerate",data:= .fields #[.none,.bool false,.ref s.heap.objs.size,rawInt 1,.none,.none]}) rfl
   show Q (.ref (s.heap.push _).objs.size) _
   rw[hz] at he ⊢
   exact h _ he ⟨_,Xm _ (Heap.get?_push_size _ rfl),rfl,rfl⟩ (by rw[Heap.size_push,hz]) fun b o x=>Xm _ (Xm _ x)
theorem yL{u:Tok}
   (h:∀h',IsEnum h' (s.heap.objs.size+1) s.heap.objs.size 1 .none->h'.IsStrIter s.heap.objs.size (strIterType x) x u 0->h'.objs.size=s.heap.objs.size+2 ->
     (∀b o,s.heap.get? b=some o->h'.get? b=some o)->Q (.ref (s.heap.objs.size+1)) {s with heap:=h'}) :
   wpAny (model prog w) A (call (.type "enumerate") [.str x u,.int 1 t]) Q E s:=by
 let G:W2->WY->W2->Prop:=fun s it Un=>it= .ref s.heap.objs.size/\Un={s with heap:=s.heap.push {cls:= .type (strIterType x),data:= .fields #[.str x u,.int 0 0]}}
 refine tF (.str x u) t G (fun prog w A E s Q hq he=>?_) ⟨_,_,rfl,rfl⟩ fun it Un hg=>?_
 . exact wpAny_pyIter_strU (hq _ _ ⟨rfl,rfl⟩)
 . obtain⟨rfl,rfl⟩:=hg
   have hz:(s.heap.push {cls:= .type (strIterType x),data:= .fields #[.str x u,.int 0 0]}).objs.size=s.heap.objs.size+1:=Heap.size_push ..
   have he:=Heap.get?_push_size (s.heap.push {cls:= .type (strIterType x),data:= .fields #[.str x u,.int 0 0]}) (o:={cls:= .type "enumerate",data:= .fields #[.none,.bool false,.ref s.heap.objs.size,rawInt 1,.none,.none]}) rfl
   show Q (.ref (s.heap.push _).objs.size) _
   rw[hz] at he ⊢
   exact h _ he ⟨_,Xm _ (Heap.get?_push_size _ rfl),rfl,rfl⟩ (by rw[Heap.size_push,hz]) fun b o x=>Xm _ (Xm _ x)
theorem BW{e it:W3}{fp:List W3}{j:Int}{P:Nat->WY->Prop}{St:Nat->Heap->Prop}{old:WY}
   (D:Draws prog w A it fp n P St) (he:IsEnum s.heap e it j old) (hst:St i s.heap) (hlt:i<n) (hne:e≠it) (hef:e∉fp)
   (hQ:∀x h' tk,P i x->IsEnumOut h' e it (j+1) x s.heap.objs.size->St (i+1) h' ->
     h'.get? s.heap.objs.size=some {cls:= .type "tuple",data:= .seq #[.int j tk,x]}->h'.objs.size=s.heap.objs.size+1 ->
     (∀b o,b≠e->b≠it->s.heap.get? b=some o->h'.get? b=some o)->Q (.ref s.heap.objs.size) {s with heap:=h',toks:=tk+1}) :
   wpAny (model prog w) A (Builtin.«enumerate.__next__» ⟨[.ref e],[]⟩) (fun fin s'=>∃v,fin= .done (.ret v)/\Q v s') E s:=by
 obtain⟨hp,g,d,WR,os⟩:=s
 show wpAny _ _ (field (.ref e) 2 >>= _) _ _ _
 refine W6 (wpAny_field he rfl (x:= .ref it) rfl ?_)
 refine W6 (D.item i _ _ _ hlt hst fun x h₁ tk hPx Ve UM=>?_)
 replace UM:Heap.SameBut it hp h₁:=UM
 have Vl:IsEnum h₁ e it j old:=(UM.2 e hne).trans he
 show wpAny _ _ (field (.ref e) 3 >>= _) _ _ ⟨h₁,g,d,tk,os⟩
 refine W6 (wpAny_field Vl rfl (x:=rawInt j) rfl ?_)
 show wpAny _ _ (field (.ref e) 4 >>= _) _ _ ⟨h₁,g,d,tk,os⟩
 refine W6 (wpAny_field Vl rfl (x:= .none) rfl ?_)
 show wpAny _ _ (mkInt j >>= _) _ _ ⟨h₁,g,d,tk,os⟩
 refine W6 (wpAny_mkInt ?_)
 show wpAny _ _ (setField (.ref e) 3 (rawInt (j+1)) >>= _) _ _ ⟨h₁,g,d,tk+1,os⟩
 refine W6 (wpAny_setField_rec Vl (by simp) fun UI Vm Vs=>?_)
 replace Vs:Heap.SameBut e h₁ UI:=Vs
 replace Vm:IsEnum UI e it (j+1) old:=Vm
 show wpAny _ _ (setField (.ref e) 4 .none >>= _) _ _ ⟨UI,g,d,tk+1,os⟩
 refine W6 (wpAny_setField_rec Vm (by simp) fun UJ VJ Vt=>?_)
 replace Vt:Heap.SameBut e UI UJ:=Vt
 replace VJ:IsEnum UJ e it (j+1) old:=VJ
 show wpAny _ _ (newTuple [.int j tk,x] >>= _) _ _ ⟨UJ,g,d,tk+1,os⟩
 refine W6 (wpAny_newTuple ?_)
 have VK:IsEnum (UJ.push {cls:= .type "tuple",data:= .seq #[.int j tk,x]}) e it (j+1) old:=Xm _ VJ
 generalize VB:UJ.push {cls:= .type "tuple",data:= .seq #[.int j tk,x]}=Vu at VK
 have hsz:UJ.objs.size=hp.objs.size:=by rw[Vt.1,Vs.1,UM.1]
 have hel:e<hp.objs.size:=XQ he
 have Wr:Vu.get? hp.objs.size=some {cls:= .type "tuple",data:= .seq #[.int j tk,x]}:=by rw[←VB,←hsz];exact Heap.get?_push_size _ rfl
 have Ws:Vu.objs.size=hp.objs.size+1:=by rw[←VB,Heap.size_push,hsz]
 have VY:∀b o,b≠e->b≠it->hp.get? b=some o->Vu.get? b=some o:=fun b o hbe hbi hb=>by
   rw[←VB];exact Xm _ (Vt.extBut b o hbe (Vs.extBut b o hbe (UM.extBut b o hbi hb)))
 have Wt:St (i+1) Vu:=D.frame _ _ _ Ve fun b hb o y=>by
   have hbe:b≠e:=fun q=>hef (q▸hb)
   rw[←VB];exact Xm _ (Vt.extBut b o hbe (Vs.extBut b o hbe y))
 show wpAny _ _ (Builtin.SmallTypes.ownedTupleIsFree (.ref e) >>= _) _ _ ⟨Vu,g,d,tk+1,os⟩
 rw[hsz]
 clear VB VJ Vt Vm Vs Vl UM Ve hsz UJ UI h₁
 refine W6 ?_
 unfold Builtin.SmallTypes.ownedTupleIsFree
 refine W6 (wpAny_field VK rfl (x:= .none) rfl (Xk ?_))
 simp only[if_true]
 refine W6 (wpAny_rule ?_)
 refine W6 (wpAny_field VK rfl (x:=old) rfl ?_)
 refine W6 (wpAny_setField_rec VK (by simp) fun Vr VZ Vv=>?_)
 replace Vv:Heap.SameBut e Vu Vr:=Vv
 replace VZ:IsEnum Vr e it (j+1) x:=VZ
 show wpAny _ _ (Builtin.SmallTypes.ownedTupleHandOut (.ref e) (.ref hp.objs.size) >>= _) _ _ ⟨Vr,g,d,tk+1,os⟩
 refine W6 ?_
 unfold Builtin.SmallTypes.ownedTupleHandOut
 refine W6 (wpAny_setField_rec VZ (by simp) fun VC V0 U9=>?_)
 replace U9:Heap.SameBut e Vr VC:=U9
 replace V0:IsEnumOut VC e it (j+1) x hp.objs.size:=V0
 refine wpAny_setField_rec V0 (by simp) fun V1 V2 Vw=>?_
 replace Vw:Heap.SameBut e VC V1:=Vw
 replace V2:IsEnumOut V1 e it (j+1) x hp.objs.size:=V2
 refine W6 (wpAny_letGo (Xk ⟨_,rfl,hQ x V1 tk hPx V2 ?_ ?_ ?_ ?_⟩))
 . exact D.frame _ _ _ Wt fun b hb o y=>by
     have hbe:b≠e:=fun q=>hef (q▸hb)
     exact Vw.extBut b o hbe (U9.extBut b o hbe (Vv.extBut b o hbe y))
 . exact Vw.extBut _ _ (XC hel) (U9.extBut _ _ (XC hel) (Vv.extBut _ _ (XC hel) Wr))
 . rw[Vw.1,U9.1,Vv.1,Ws]
 . exact fun b o hbe hbi hb=>Vw.extBut b o hbe (U9.extBut b o hbe (Vv.extBut b o hbe (VY b o hbe hbi hb)))
theorem u5{e it:W3}{fp:List W3}{j:Int}{P:Nat->WY->Prop}{St:Nat->Heap->Prop}{old:WY}{Q:Option WY->W2->Prop}
   (D:Draws prog w A.in1 it fp n P St) (he:IsEnum s.heap e it j old) (hst:St i s.heap) (hlt:i<n) (hne:e≠it) (hef:e∉fp)
   (hQ:∀x h' tk,P i x->IsEnumOut h' e it (j+1) x s.heap.objs.size->St (i+1) h' ->
     h'.get? s.heap.objs.size=some {cls:= .type "tuple",data:= .seq #[.int j tk,x]}->h'.objs.size=s.heap.objs.size+1 ->
     (∀b o,b≠e->b≠it->s.heap.get? b=some o->h'.get? b=some o)->Q (some (.ref s.heap.objs.size)) {s with heap:=h',toks:=tk+1}) :
   wpAny (model prog w) A (pyNext (.ref e)) Q E s:=by
 have hT:s.TypeIs (.ref e) "enumerate" := ⟨_,he,rfl⟩
 unfold pyNext
 exact W6 (wpAny_attempt (wpAny_callSpecial?_slot (name:=W8 "__next__") hT F.slot_enumerate_next
   (wpAny_call_entry F.slot_enumerate_next hT F.entry_enumerate_next
     (BW D he hst hlt hne hef fun x h' tk a b c d k q=>Xk (hQ x h' tk a b c d k q)) (F.args_enumerate_next_1 _))))
end
end
section
open PySem.Sem (wp)
theorem l5(hh:A.handled=none) (it:W3) (x:Str) (t:Tok) :
   Draws prog w A it [it] x.cps.size (fun i v=>∃c u,x.cps[i]?=some c/\v= .str ⟨#[c]⟩ u) (fun i h=>h.IsStrIter it (strIterType x) x t i):=by
 unfold strIterType
 split
 . exact Draws.strAscii hh it x t
 . exact Draws.strWide hh it x t
noncomputable def g6:List Nat->Nat->List Nat
 |[],_=>[]
 |c::r,k=>if c=9 then List.replicate (8 - k % 8) 32++g6 r (k+(8 - k % 8)) else c::g6 r (if c == 10 || c == 13 then 0 else k+1)
theorem iF(c:Nat) (r:List Nat) (k:Nat):g6 (c::r) k=if c=9 then List.replicate (8 - k % 8) 32++g6 r (k+(8 - k % 8)) else c::g6 r (if c == 10 || c == 13 then 0 else k+1):=rfl
theorem v0:∀(l:List Nat) (k:Nat),l.contains 9=false->g6 l k=l:=by intro l0;induction l0 with
 |nil=>intro qq qq;exact rfl
 |cons c r ih =>
   intro k h;rw[List.contains_cons] at h
   obtain⟨h1,h2⟩:=Bool.or_eq_false_iff.mp h
   have:c≠9:=fun e=>by subst e;exact absurd h1 (by decide)
   rw[iF]
   rw[if_neg this,ih _ h2]
section
theorem w6{size:Int} (hs:size=8):∀(l:List Nat) (out:Array Nat) (col:Nat) (Q:Array Nat×Nat->W2->Prop),out.size+(g6 l col).length<=100000->(∀c,Q (out++(g6 l col).toArray,c) s) ->
   wpAny (model prog w) A (forIn l (out,col) fun c __s =>
                     have out:=__s.fst;
                     have column:=__s.snd;
                     if (c == 9)=true then
                       have blanks:=if size > 0 then size.toNat - column % size.toNat else 0;
                       have __do_jp:=fun(__r:Unit) =>
                         have out:=out++Array.replicate blanks 32;
                         have column:=column+blanks;
                         (pure (ForInStep.yield (out,column)):Sem (ForInStep (Array Nat×Nat)));
                       if Builtin.Str.tooLong (out.size+blanks)=true then do
                         let __r ←unsupported "str.expandtabs:memory"
                         __do_jp __r
                       else __do_jp ()
                     else
                       have out:=out.push c;
                       have column:=if (c == 10 || c == 13)=true then 0 else column+1;
                       pure (ForInStep.yield (out,column))) Q E s:=by intro l0;induction l0 with
 |nil =>
   intro out col Q hz h;have:=h col
   rw[show(g6 [] col).toArray= #[] from rfl,Array.append_empty] at this
   exact Xk this
 |cons c r ih =>
   intro out col Q hz h;rw[List.forIn_cons]
   subst hs
   rw[iF] at hz h
   by_cases hc:c=9
   . subst hc
     rw[if_pos rfl] at hz h
     rw[Xg,List.length_replicate] at hz
     refine W6 ?_
     have hb:Builtin.Str.tooLong (out.size+(8 - col % 8))=false:=by
       exact decide_eq_false (Nat.not_lt.mpr (WZ (WZ (XB (XL _ _) _) hz) (by decide)))
     have hb':Builtin.Str.tooLong (out.size+(if (8:Int) > 0 then(8:Int).toNat - col % (8:Int).toNat else 0))=false:=hb
     simp only[beq_self_eq_true,if_true,hb',Bool.false_eq_true,if_false]
     refine Xk ?_
     refine ih _ _ Q ?_ ?_
     . simp only[Array.size_append,Array.size_replicate]
       exact WZ (W9 (Nat.add_assoc _ _ _)) hz
     . intro c'
       have h1:=h c'
       have e:out++(List.replicate (8 - col % 8) 32++g6 r (col+(8 - col % 8))).toArray=out++Array.replicate (8 - col % 8) 32++(g6 r (col+(8 - col % 8))).toArray:=by
         apply Array.toList_inj.mp;simp
       rw[e] at h1
       exact h1
   . rw[if_neg hc] at hz h
     have hb:(c == 9)=false:=by simpa using hc
     refine W6 ?_
     simp only[hb,Bool.false_eq_true,if_false]
     refine Xk ?_
     refine ih _ _ Q ?_ ?_
     . rw[Array.size_push]
       exact WZ (W9 (Nat.succ_add_eq_add_succ _ _)) hz
     . intro c'
       have h1:=h c'
       have e:out++(c::g6 r (if (c == 10 || c == 13)=true then 0 else col+1)).toArray=out.push c++(g6 r (if (c == 10 || c == 13)=true then 0 else col+1)).toArray:=by
         apply Array.toList_inj.mp;simp
       rw[e] at h1
       exact h1
theorem jI(hz:(g6 x.cps.toList 0).length<=100000) (h:∀t' k,Q (.str ⟨(g6 x.cps.toList 0).toArray⟩ t') {s with toks:=k}) :
   wpAny (model prog w) A (call (.builtin "str.expandtabs") [.str x t] []) Q E s:=by
 refine wpAny_call_entry PySem.F.slot_str_expandtabs (typeIs_str _ _ _) PySem.F.entry_str_expandtabs ?_ (PySem.F.args_str_expandtabs_1 _)
 unfold Builtin.«str.expandtabs»
 refine W6 (m:=Builtin.Str.strSelf _) (wpAny_of_eq (a:=(.str x t,x,[])) (by rfl) ?_)
 dsimp only
 refine W6 (m:=Builtin.Str.bindOptional _ _ _ _ _ _) (wpAny_of_eq (a:=[none]) (by first|rfl|kernel_rfl) ?_)
 dsimp only
 refine W6 (Xk ?_)
 rw[if_neg (by decide)]
 by_cases hc:x.cps.contains 9=true
 . rw[if_neg (by rw[hc];decide)]
   refine W6 ?_
   rw[←Array.forIn_toList]
   refine w6 rfl x.cps.toList #[] 0 _ (by simpa using hz) fun c=>?_
   rw[Array.empty_append]
   unfold retStr
   refine W6 (wpAny_mkStr (Xk ⟨_,rfl,h _ _⟩) ?_)
   show(g6 x.cps.toList 0).toArray.size<=sizeLine
   rw[XO]
   exact WZ hz (by decide)
 . have hc':x.cps.contains 9=false:=by simpa using hc
   rw[if_pos (by rw[hc'];decide)]
   have e:g6 x.cps.toList 0=x.cps.toList:=v0 _ _ (by simpa using hc')
   rw[e] at h
   refine W6 (wpAny_rule (W6 (m:=Builtin.Str.strUnchanged _ _) (wpAny_of_eq (a:=Value.str x t) (by rfl) (Xk ⟨_,rfl,?_⟩))))
   exact h t s.toks
end
end
section
noncomputable def fL(m:Str->Option WY) (o:Obj):Prop:=∃es ep,o.data= .dict es ep/\StrKeys es/\∀name,nsFind es name=m name
theorem iG(n:h.Ns L m):∃o,h.get? L=some o/\fL m o:=let⟨o,es,ep,a,b,c,d⟩:=n;⟨o,a,es,ep,b,c,d⟩
theorem dU(a:h.get? L=some o) (n:fL m o):h.Ns L m:=let⟨es,ep,b,c,d⟩:=n;⟨o,es,ep,a,b,c,d⟩
noncomputable def aR(h H:Heap) (xs:List W3):ad:=(List.range h.objs.size).filterMap fun a=>if xs.contains a || (H.get? a).isSome then none else(h.get? a).map fun o=>(a,o)
theorem bq{H:Heap}{xs:List W3}{p:W3×Obj}:p∈aR h H xs↔h.get? p.1=some p.2/\p.1∉xs/\H.get? p.1=none:=by
 unfold aR
 rw[List.mem_filterMap]
 constructor
 . rintro⟨a,ha,e⟩
   split at e
   . cases e
   . rename_i hn
     simp only[Bool.or_eq_true,not_or,Bool.not_eq_true,List.contains_eq_mem,decide_eq_false_iff_not,Option.isSome_eq_false_iff,Option.isNone_iff_eq_none] at hn
     rcases q:h.get? a with qq|o
     . rw[q] at e;cases e
     . rw[q] at e;cases e;exact⟨q,hn.1,hn.2⟩
 . rintro⟨h1,h2,h3⟩
   refine⟨p.1,List.mem_range.mpr (XQ h1),?_⟩
   rw[if_neg]
   . rw[h1];rfl
   . simp only[Bool.or_eq_true,not_or,Bool.not_eq_true,List.contains_eq_mem,decide_eq_false_iff_not,Option.isSome_eq_false_iff,Option.isNone_iff_eq_none]
     exact⟨h2,h3⟩
section
variable {news:ad}
theorem aO.sub{news':ad} (R:aO F m news s₀ s) (h:∀p∈news',p∈news):aO F m news' s₀ s:=⟨R.fr,fun p hp=>R.nw p (h p hp),R.gens,R.os,R.dr⟩
theorem aO.to(R:aO F m news s₀ s) {X:List W3}{t:Nat}{news':ad} (hX:∀x∈X,x≠F.L/\F.Up.get? x=none) (hk:∀b o,b∉X->s.heap.get? b=some o->h'.get? b=some o)
   (hn:∀p∈news',h'.get? p.1=some p.2/\p.1≠F.L/\F.Up.get? p.1=none):aO F m news' s₀ {s with heap:=h',toks:=t}:=by
 obtain⟨o,es,ep,a,r⟩:=R.fr.ns
 refine⟨⟨⟨o,es,ep,hk _ _ (fun q=>(hX _ q).1 rfl) a,r⟩,fun b o e=>hk b o (fun q=>?_) (R.fr.keep b o e),R.fr.above⟩,hn,R.gens,R.os,R.dr⟩
 rw[(hX b q).2] at e;cases e
theorem aO.away(R:aO F m news s₀ s) (h:s.heap.objs.size<=a):a≠F.L/\F.Up.get? a=none:=by
 refine⟨fun q=>?_,?_⟩
 . have:=R.fr.ns.lt
   rw[←q] at this
   exact absurd (XT this h) (Nat.lt_irrefl _)
 . rcases q:F.Up.get? a with qq|o
   . rfl
   . exact absurd (XT (XQ (R.fr.keep _ _ q)) h) (Nat.lt_irrefl _)
theorem aO.more(R:aO F m news s₀ s) {t:Nat} (hk:∀b o,s.heap.get? b=some o->h'.get? b=some o) (hn:∀p∈new,h'.get? p.1=some p.2/\s.heap.objs.size<=p.1) :
   aO F m (new++news) s₀ {s with heap:=h',toks:=t}:=by
 refine R.to (X:=[]) (fun qq h=>nomatch h) (fun b o qq e=>hk b o e) fun p hp=>?_
 rcases Xt.mp hp with hp|hp
 . exact⟨(hn p hp).1,R.away (hn p hp).2⟩
 . exact⟨hk _ _ (R.nw p hp).1,(R.nw p hp).2⟩
theorem gk(FO:aa w F) (R:aO F m news s₀ s) {Q:Unit->W2->Prop} (hx:ak F.sc x=true)
   (h:∀s',aO F (fun y=>if y=x then some v else m y) news s₀ s'->Q () s'):wpAny (model ae w) A (storeName F.env x v) Q E s:=by
 exact PySem.W.storeX_L R.fr R.nw (fun h' F' N'=>h _ ⟨F',N',R.gens,R.os,R.dr⟩) FO.kind (eq_of_beq (af hx))
theorem vj{H:Heap}{q:Str}{os:OsState}{dr:Drawn} (hL:s.heap.get? L=some oL) (hm:fL m oL) (st:∀b o,H.get? b=some o->s.heap.get? b=some o) (ab:H.objs.size<=L)
   (hcs:∀p∈cs,s.heap.get? p.1=some p.2/\p.1≠L/\H.get? p.1=none):aO (fk A H q sc L a cd os dr) m (cs++aR s.heap H (L::cs.map (·.1))) s s:=by
 refine⟨⟨dU hL hm,st,ab⟩,fun p hp=>?_,rfl,rfl,rfl⟩
 rcases Xt.mp hp with hp|hp
 . exact hcs p hp
 . obtain⟨h1,h2,h3⟩:=bq.mp hp
   exact⟨h1,fun q=>h2 (q▸List.mem_cons_self),h3⟩
end
inductive kB(sc:Scope) (n1 n2:Str):W5->Prop
 |mk (p1 p2 p:Pos) (k:Nat):ak sc n1=true->ak sc n2=true->kB sc n1 n2 (.Tuple [.Name n1 p1,.Name n2 p2] k p)
section
variable {news:ad}
theorem qc(FO:aa w F) (hh:A.handled=none) (R:aO F m news s₀ s) {n1 n2:Str} (h1:ak F.sc n1=true) (h2:ak F.sc n2=true) {p:Pos}{v1 v2:WY} (ht:s.heap.IsTuple a #[v1,v2]) {Q:Unit->W2->Prop}
   (h:∀s',aO F (fun y=>if y=n2 then some v2 else if y=n1 then some v1 else m y) news s₀ s'->Q () s'):wpAny (model ae w) A (assign (.Tuple [.Name n1 p1,.Name n2 p2] k p) F.env (.ref a)) Q E s:=by
 refine wpAny_assign_Tuple hh ht rfl rfl fun UJ We=>?_
 have hn:F.Up.get? s.heap.objs.size=none/\s.heap.objs.size≠F.L:=⟨(R.away (Xl _)).2,(R.away (Xl _)).1⟩
 have R':aO F m news s₀ {s with heap:=UJ}:=by
   refine R.to (t:=s.toks) (X:=[s.heap.objs.size]) (fun x hx=>by rw[Xe.mp hx];exact⟨hn.2,hn.1⟩) (fun b o hb e=>We b o (fun q=>hb (q▸List.mem_singleton_self _)) e) fun p hp=>?_
   exact⟨We _ _ (X3 (XQ (R.nw p hp).1)) (R.nw p hp).1,(R.nw p hp).2⟩
 show wpAny _ A (do holding [v2] (assign (.Name n1 p1) F.env v1);do holding [] (assign (.Name n2 p2) F.env v2);pure ()) _ _ _
 refine W6 (wpAny_holding (wpAny_assign_Name (gk FO R' h1 fun Un Uv=>?_)))
 refine W6 (wpAny_holding (wpAny_assign_Name (gk FO Uv h2 fun Uq Uo=>Xk (h Uq Uo))))
end
section
variable {P:End->W2->Prop}{env:Env}
theorem fF{target:W5}{it:WY}
   (h:wpAny (model ae w) (A.over (.forLoop target it body orelse env) fs) (pyNext it) (fun r Un=>match r with
       |none=>SegX (model ae w) A (.block orelse env) ((model ae w).den (.block orelse env)) fs Un P
       |some v=>wpAny (model ae w) (A.over (.forLoop target it body orelse env) fs) (letOwnedTupleGo target it v) (fun qq Un=>wpAny (model ae w) (A.over (.forLoop target it body orelse env) fs) (assign target env v) (fun qq Uq =>
           SegX (model ae w) A (.forLoop target it body orelse env) ((execs body env).wrap (fun f=>match f with
             |.next| .cont=> .pure (.again (.forLoop target it body orelse env))
             |.brk=> .pure (.done .next)
             |.ret v=> .pure (.done (.ret v))) (aK env) id id) fs Uq P)
           (fun x s'=>SegX (model ae w) A (.forLoop target it body orelse env) (aK env x) fs s' P) Un)
           (fun x s'=>SegX (model ae w) A (.forLoop target it body orelse env) (aK env x) fs s' P) Un)
     (fun x s'=>SegX (model ae w) A (.forLoop target it body orelse env) (aK env x) fs s' P) s) :
   SegX (model ae w) A (.forLoop target it body orelse env) ((model ae w).den (.forLoop target it body orelse env)) fs s P:=by
 show SegX _ A _ ((forTurn target it body orelse env).onRaise (fun x=>do noteFrame x env;theTreesLotGoes x)) fs s P
 rw[hV]
 unfold forTurn
 show SegX _ A _ (.at target.pos fun qq=>(((pyNext it).onRaise (fun qq=>standAt {target.pos with line:=0})) >>= fun r=>(match r with
   |none=>again (.block orelse env)
   |some v=>letOwnedTupleGo target it v >>= fun qq=>assign target env v >>= fun qq=>execs body env >>= fun f=>(match f with
     |.next| .cont=>again (.forLoop target it body orelse env)
     |.brk=>pure (.done .next)
     |.ret v=>pure (.done (.ret v))))).wrap .pure (aK env) id id) fs s P
 refine lO ?_
 rw[XU,X6]
 refine bX (wpAny_onRaise (Xq h (fun r Un h₁=>?_) fun x s' hx=>wpAny_standAt hx))
 rcases r with qq|v
 . exact bM rfl h₁
 ·
   dsimp only
   show SegX _ A _ ((letOwnedTupleGo target it v >>= fun qq=>assign target env v >>= fun qq=>execs body env >>= fun f=>(match f with
     |.next| .cont=>again (.forLoop target it body orelse env)
     |.brk=>pure (.done .next)
     |.ret v=>pure (.done (.ret v)))).wrap .pure (aK env) id id) fs Un P
   rw[XU,X6]
   refine bX (Xq h₁ (fun qq Uq UI=>?_) fun qq qq x=>x)
   show SegX _ A _ ((assign target env v >>= fun qq=>execs body env >>= fun f=>(match f with
     |.next| .cont=>again (.forLoop target it body orelse env)
     |.brk=>pure (.done .next)
     |.ret v=>pure (.done (.ret v)))).wrap .pure (aK env) id id) fs Uq P
   rw[XU,X6]
   refine bX (Xq UI (fun qq Ut UJ=>?_) fun qq qq x=>x)
   show SegX _ A _ ((execs body env >>= fun f=>_).wrap .pure (aK env) id id) fs Ut P
   rw[XU,X6]
   rw[Sem.wrap_congr (execs body env) _ _ (K':=fun f=>match f with
             |.next| .cont=> .pure (.again (.forLoop target it body orelse env))
             |.brk=> .pure (.done .next)
             |.ret v=> .pure (.done (.ret v))) (H':=aK env) (fun f=>by cases f<;>rfl) (fun e=>by rfl)]
   exact UJ
theorem cK{st:Stmt}{rest:List Stmt}{c:Code}{K:Flow->Sem Fin}{H:WY->Sem Fin} (h:wpAny M (A.over c fs) (exec st env) (fun f s'=>f= .next/\SegX M A c ((execs rest env).wrap K H id id) fs s' P) (fun x s'=>SegX M A c (H x) fs s' P) s) :
   SegX M A c ((execs (st::rest) env).wrap K H id id) fs s P:=by
 refine aw (bX (Xq h (fun f s' hf=>?_) fun qq qq x=>x))
 obtain⟨rfl,hf⟩:=hf
 exact hf
end
end
section
noncomputable abbrev a7(l:ad):List W3:=l.map (·.1)
structure Lg(F:Fm) (m:Str->Option WY) (cs ot:ad) (s₀ s:W2):Prop where
 raw:aO F m (cs++ot) s₀ s
 nd:(a7 cs).Nodup
 dis:∀p∈ot,p.1∉a7 cs
theorem Lg.toks(R:Lg F m cs ot s₀ s) (t:Nat):Lg F m cs ot s₀ {s with toks:=t}:=⟨R.raw.toks t,R.nd,R.dis⟩
section
theorem Lg.get(R:Lg F m cs ot s₀ s) {p:W3×Obj} (h:p∈cs):s.heap.get? p.1=some p.2:=(R.raw.nw p (W7 _ h)).1
theorem Lg.old(R:Lg F m cs ot s₀ s) {p:W3×Obj} (h:p∈ot):s.heap.get? p.1=some p.2:=(R.raw.nw p (W4 _ h)).1
theorem Lg.lt(R:Lg F m cs ot s₀ s):∀p∈cs++ot,p.1<s.heap.objs.size:=fun p hp=>XQ (R.raw.nw p hp).1
theorem Lg.more(R:Lg F m cs ot s₀ s) {t:Nat} (hk:∀b o,s.heap.get? b=some o->h'.get? b=some o) (hn:∀p∈new,h'.get? p.1=some p.2/\s.heap.objs.size<=p.1) (nd:(a7 new).Nodup) :
   Lg F m (new++cs) ot s₀ {s with heap:=h',toks:=t}:=by
 refine⟨by rw[Xo];exact R.raw.more hk hn,?_,fun p hp hm=>?_⟩
 . show((new++cs).map (·.1)).Nodup
   rw[XM]
   refine List.nodup_append.mpr ⟨nd,R.nd,fun a ha b hb=>?_⟩
   obtain⟨p,hp,rfl⟩:=Xp.mp ha
   obtain⟨q,hq,rfl⟩:=Xp.mp hb
   intro e
   have h1:=R.lt q (W7 _ hq)
   have h2:=(hn p hp).2
   rw[e] at h2
   exact absurd (XT h1 h2) (Nat.lt_irrefl _)
 . show False
   have hm':p.1∈(new++cs).map (·.1):=hm
   rw[XM] at hm'
   rcases Xt.mp hm' with hm|hm
   . obtain⟨q,hq,e⟩:=Xp.mp hm
     have h1:=R.lt p (W4 _ hp)
     have h2:=(hn q hq).2
     rw[e] at h2
     exact absurd (XT h1 h2) (Nat.lt_irrefl _)
   . exact R.dis p hp hm
theorem Lg.frz(R:Lg F m cs ot s₀ s) (R':aO F m (new++(cs++ot)) s₀ s') (hn:∀p∈new,p.1∉a7 cs):Lg F m cs (new++ot) s₀ s':=by
 refine⟨R'.sub fun p hp=>?_,R.nd,fun p hp=>?_⟩
 . simp only[Xt] at hp ⊢
   rcases hp with h|h|h
   . exact .inr (.inl h)
   . exact .inl h
   . exact .inr (.inr h)
 . rcases Xt.mp hp with h|h
   . exact hn p h
   . exact R.dis p h
theorem Lg.drop(R:Lg F m cs ot s₀ s) {cs':ad} (h:cs'.Sublist cs):Lg F m cs' ot s₀ s:=by
 refine⟨R.raw.sub fun p hp=>?_,(h.map _).nodup R.nd,fun p hp hm=>R.dis p hp ((h.map _).subset hm)⟩
 rcases Xt.mp hp with hp|hp
 . exact W7 _ (h.subset hp)
 . exact W4 _ hp
theorem Lg.perm(R:Lg F m cs ot s₀ s) {cs':ad} (h:cs'.Perm cs):Lg F m cs' ot s₀ s:=by
 refine⟨R.raw.sub fun p hp=>?_,(h.map _).nodup_iff.mpr R.nd,fun p hp hm=>R.dis p hp ((h.map _).subset hm)⟩
 rcases Xt.mp hp with hp|hp
 . exact W7 _ (h.subset hp)
 . exact W4 _ hp
theorem Lg.with(R:Lg F m cs ot s₀ s) (R':aO F m' (cs++ot) s₀ s'):Lg F m' cs ot s₀ s':=⟨R',R.nd,R.dis⟩
end
noncomputable def Ph:Stmt:=cP (B0 314)
noncomputable def vi:List Stmt:=(eO Ph).2.1
noncomputable def Gw:W5:=eJ Ph
noncomputable def RM:W5:=bj Ph
noncomputable def NF:Stmt:=cP vi
noncomputable def Pd:Stmt:=cP vi.tail
noncomputable def vY:Stmt:=cP vi.tail.tail
noncomputable def gg:List Stmt:=(eO Pd).2.1
noncomputable def g8:W5:=eJ Pd
noncomputable def Qn:W5:=bj Pd
noncomputable def SI:Stmt:=cP gg
noncomputable def TO:Stmt:=cP gg.tail
theorem QQ(P:W1):ay (ah P 314)=B0 314:=by kernel_rfl
theorem P7(P:W1):(ah P 314).scope=S0 314:=by kernel_rfl
theorem QI:B0 314=[.For Gw RM vi [] (ci Ph)]:=by kernel_rfl
theorem OM:vi=[NF,.For g8 Qn gg [] (ci Pd),vY]:=by kernel_rfl
theorem Nt:gg=[SI,TO]:=by kernel_rfl
noncomputable def e7(sc:Scope):Bool:=!sc.isCoroutine&&sc.isGenerator&&(sc.kind == .function)&&sc.names.all fun x=>!(x.2 == .cell)
theorem D6(P:W1):e7 (ah P 314).scope=true:=by kernel_rfl
theorem Gu(P:W1):aA (ah P 314).scope ["f", "source_file"]=true:=by kernel_rfl
theorem Me(P:W1):nsIn (KF P) XI "enumerate" = some none:=by kernel_rfl
theorem Px(P:W1):nsIn (KF P) XI "SourceLocation" = some (some (.ref 79)):=by kernel_rfl
theorem Rb(P:W1):nsIn (KF P) XI "Char" = some (some (.ref 183)):=by kernel_rfl
theorem Od(P:W1):keepIn (KF P) (.ref 79)=true:=by kernel_rfl
theorem IV(P:W1):keepIn (KF P) (.ref 183)=true:=by kernel_rfl
theorem C9(P:W1) (nm:Str):plainGet (KF P) 303 nm=true:=by
 show plainGet (KF P) 303 "" = true
 kernel_rfl
theorem A1(P:W1):hasDictIn (KF P) 303=true:=by kernel_rfl
theorem NG(P:W1):findIn (KF P) (.ref 303) (AN 58)=some none:=by kernel_rfl
theorem wI(P:W1):findIn (KF P) (.ref 303) (AN 11)=some none:=by kernel_rfl
theorem yb(P:W1):b0 (KF P) 303 11=true:=by kernel_rfl
end
section
noncomputable abbrev KY(x:Str) (q1 q2 q3 q4:Pos) (k:Nat):W5:= .Call (.Name "enumerate" q1) [.Name x q2,.Constant (.int 1) k q3] [] q4
noncomputable abbrev bP(l:W3) (i:Nat) (o:Obj):Prop:=o.cls= .type "list_iterator" /\ o.data= .fields #[.ref l,.int i 0]
noncomputable abbrev fh(x:Str) (t:Tok) (i:Nat) (o:Obj):Prop:=o.cls= .type (strIterType x)/\o.data= .fields #[.str x t,.int i 0]
noncomputable abbrev bf(it:W3) (i:Int) (old:WY):Obj:={cls:= .type "enumerate",dict:=none,data:= .fields #[.none,.bool false,.ref it,rawInt i,.none,old],slots:= #[]}
section
theorem lS{q4:Pos} (FO:aa w F) (R:Lg F m cs ot s₀ s) (h1:bO F.sc "enumerate" = true) (h2:ak F.sc x=true) (hv:m x=some v)
   (h:∀t s',s'={s with toks:=t}->wpAny (model ae w) A (call (.type "enumerate") [v,.int 1 s.toks]) Q E s'):wpAny (model ae w) A (eval (KY x q1 q2 q3 q4 k) F.env) Q E s:=by
 refine Call_ (bF FO R.raw h1 (.inr ⟨Me _,by decide +kernel,PyProof.Rows.boot_enumerate⟩) ?_) rfl
 exact PySem.callWith_type rfl (aq (Xz (ax FO R.raw h2 hv (Xz (wpAny_Constant_int (args_nil (h _ _ rfl)))))) rfl)
theorem sD{q4:Pos} (FO:aa w F) (R:Lg F m cs ot s₀ s) (g1:bO F.sc "enumerate" = true) (g2:ak F.sc x=true) {l:W3} (hv:m x=some (.ref l)) {items:Array WY} (hl:s.heap.IsList l items)
   (h:∀en it oi s',bP l 0 oi->it<en->Lg F m ((en,bf it 1 .none)::(it,oi)::cs) ot s₀ s'->(∀p∈cs++ot,p.1<it)->Q (.ref en) s'):wpAny (model ae w) A (eval (KY x q1 q2 q3 q4 k) F.env) Q E s:=by
 refine lS FO R g1 g2 hv fun t s' hs=>?_
 subst hs
 refine yV hl fun h' he hi hz hk=>?_
 obtain⟨oi,hoi,hli⟩:=hi
 refine h _ _ oi _ hli (Nat.lt_succ_self _) ?_ R.lt
 refine Lg.more (new:=[(s.heap.objs.size+1,bf s.heap.objs.size 1 .none),(s.heap.objs.size,oi)]) R hk (fun p hp=>?_) ?_
 . rcases Xb.mp hp with rfl|hp
   . exact⟨he,Nat.le_succ _⟩
   . rw[Xe.mp hp];exact⟨hoi,Xl _⟩
 . show [s.heap.objs.size+1,s.heap.objs.size].Nodup
   simp
theorem qS{q4:Pos} (FO:aa w F) (R:Lg F m cs ot s₀ s) (g1:bO F.sc "enumerate" = true) (g2:ak F.sc x=true) {y:Str}{u:Tok} (hv:m x=some (.str y u))
   (h:∀en it oi s',fh y u 0 oi->it<en->Lg F m ((en,bf it 1 .none)::(it,oi)::cs) ot s₀ s'->(∀p∈cs++ot,p.1<it)->Q (.ref en) s'):wpAny (model ae w) A (eval (KY x q1 q2 q3 q4 k) F.env) Q E s:=by
 refine lS FO R g1 g2 hv fun t s' hs=>?_
 subst hs
 refine yL fun h' he hi hz hk=>?_
 obtain⟨oi,hoi,hli⟩:=hi
 refine h _ _ oi _ hli (Nat.lt_succ_self _) ?_ R.lt
 refine Lg.more (new:=[(s.heap.objs.size+1,bf s.heap.objs.size 1 .none),(s.heap.objs.size,oi)]) R hk (fun p hp=>?_) ?_
 . rcases Xb.mp hp with rfl|hp
   . exact⟨he,Nat.le_succ _⟩
   . rw[Xe.mp hp];exact⟨hoi,Xl _⟩
 . show [s.heap.objs.size+1,s.heap.objs.size].Nodup
   simp
theorem Ac(FO:aa w F) (hS:F.sc=S0 314) (R:Lg F m cs ot s₀ s) (hv:m "line" = some (.str x t)) (hz:(g6 x.cps.toList 0).length<=100000) {Q:Flow->W2->Prop}
   (h:∀t' s',Lg F (fun y=>if y = "line" then some (.str ⟨(g6 x.cps.toList 0).toArray⟩ t') else m y) cs ot s₀ s'->Q .next s'):wpAny (model ae w) A (exec NF F.env) Q E s:=by
 show wpAny (model ae w) A (exec (.Assign [.Name "line" _] (.Call (.Attribute (.Name "line" _) "expandtabs" _) [] [] _) _) F.env) Q E s
 have h1:ak F.sc "line" = true:=ln hS (by kernel_rfl)
 refine XK ?_ (by rfl)
 refine methodCall_KW (pl:=(do return (←importBound _ F.env).getD true)) (kws:=[]) (ax FO R.raw h1 hv ?_) (bI rfl (by kernel_rfl) rfl)
 with_reducible refine dX PySem.F.slot_str_expandtabs PySem.F.type_str_expandtabs ?_
 refine XZ (P:=fun qq=>True) rfl (fun h qq=>aB w _ h) (aq (args_nil ⟨trivial,?_⟩) rfl)
 exact jI hz fun t' k=>gk FO (R.raw.toks k) h1 fun s' R'=>h t' s' (R.with R')
noncomputable abbrev am(sf dsf:W3) (es:List XH) (n:Nat):ad:=[(sf,Xu 303 dsf),(dsf,Xc es n)]
noncomputable def be(es:List XH) (r:Int):Prop:=∃h1 t1 fv h2 t2 t3,es=[⟨h1,.str (AN 58) t1,fv⟩,⟨h2,.str (AN 11) t2,.int r t3⟩]/\handedIn fv=true
theorem be.fname{r:Int} (h:be es r):∃fv,getL (AN 58) es=some (some fv)/\handedIn fv=true:=by
 obtain⟨h1,t1,fv,h2,t2,t3,rfl,hf⟩:=h
 exact⟨fv,by kernel_rfl,hf⟩
theorem be.row{r:Int} (h:be es r):∃t,getL (AN 11) es=some (some (.int r t)):=by
 obtain⟨h1,t1,fv,h2,t2,t3,rfl,hf⟩:=h
 exact⟨t3,by kernel_rfl⟩
theorem be.put{r r':Int} (h:be es r) (hsh:Int) (k:WY) (t:Tok):be (putL (AN 11) hsh k (.int r' t) es) r':=by
 obtain⟨h1,t1,fv,h2,t2,t3,rfl,hf⟩:=h
 exact⟨h1,t1,fv,h2,t2,t,by kernel_rfl,hf⟩
theorem be.len{r:Int} (h:be es r):es.length<=100:=by
 obtain⟨h1,t1,fv,h2,t2,t3,rfl,hf⟩:=h
 exact Xd rfl
theorem yE(FO:aa w F) (hS:F.sc=S0 314) (hh:A.handled=none) (hdep:A.depth+2<Xh) {r:Int} (he:be es r) (R:Lg F m (am sf dsf es n++cs) ot s₀ s)
   (hsf:m "source_file" = some (.ref sf)) {k:Int}{tk:Tok} (hcol:m "col" = some (.int k tk)) {Q:Flow->W2->Prop}
   (h:∀x dx sl s',eV [(x,aE 79 (some dx) sl),(dx,Xc [] 0)] r k x->Lg F (fun y=>if y = "loc" then some (.ref x) else m y) (am sf dsf es n++cs) ((x,aE 79 (some dx) sl)::(dx,Xc [] 0)::ot) s₀ s'->(∀p∈am sf dsf es n++cs++ot,p.1<dx)->dx<x->Q .next s') :
   wpAny (model ae w) A (exec SI F.env) Q E s:=by
 obtain⟨fv,hfv,hhf⟩:=he.fname
 obtain⟨tr,htr⟩:=he.row
 show wpAny (model ae w) A (exec (.Assign [.Name "loc" _] (.Call (.Name "SourceLocation" _) [.Attribute (.Name "source_file" _) (AN 58) _,.Attribute (.Name "source_file" _) (AN 11) _,.Name "col" _,.Constant (.int 1) _ _] [] _) _) F.env) Q E s
 have q2:ak F.sc "source_file" = true:=ln hS (by kernel_rfl)
 have I:Xr s.heap sf (Xu 303 dsf) 303 (some (Xc es n)):=⟨R.get (.head _),rfl,rfl,R.get (.tail _ (.head _))⟩
 have X:(KF w.params).In s.heap:=FO.G.X.keeps R.raw.fr.keep
 refine XK ?_ (by rfl)
 refine Call_ (bF FO R.raw (gn hS (by kernel_rfl)) (.inl (Px _)) ?_) rfl
 refine XZ (P:=fun h=>(KF w.params).In h) rfl (fun h X=>keeps_K (Od _) h X) ?_
 refine aq (Xz (Attribute_any_ (ax FO R.raw q2 hsf ?_) (by rw[X8,al rfl]))) rfl
 refine get_own R.raw.fr FO.G.X I (C9 _ _) (A1 _) (NG _) rfl hfv hhf ?_
 refine Xz (Attribute_any_ (ax FO (R.raw.toks _) q2 hsf ?_) (by rw[X8,al rfl]))
 refine get_own (R.raw.toks _).fr FO.G.X I (C9 _ _) (A1 _) (wI _) rfl htr rfl ?_
 refine Xz (ax FO ((R.raw.toks _).toks _) (ln hS (by kernel_rfl)) hcol (Xz (wpAny_Constant_int (args_nil ⟨X,?_⟩))))
 refine uF FO hh hdep (((R.raw.toks _).toks _).toks _) fun x dx sl s' e1 e2 Uv lt hlt'=>?_
 have Uo:Lg F m (am sf dsf es n++cs) ((x,aE 79 (some dx) sl)::(dx,Xc [] 0)::ot) s₀ s':=by
   refine Lg.frz (new:=[(x,aE 79 (some dx) sl),(dx,Xc [] 0)]) R Uv fun p hp hm=>?_
   obtain⟨q,hq,e⟩:=Xp.mp hm
   have hlt:=lt q (W7 _ hq)
   rw[e] at hlt
   rcases Xb.mp hp with rfl|hp
   . exact absurd (Xx hlt hlt') (Nat.lt_irrefl _)
   . rw[Xe.mp hp] at hlt;exact absurd hlt (Nat.lt_irrefl _)
 exact gk FO Uo.raw (ln hS (by kernel_rfl)) fun Ut Ur=>h x dx sl Ut (fun qq qk=>qk sl _ _ dx (.head _) (.tail _ (.head _)) e1 e2) (Uo.with Ur) lt hlt'
theorem zk{q4:Pos} (FO:aa w F) (hS:F.sc=S0 314) (hh:A.handled=none) (hdep:A.depth+2<Xh) (R:Lg F m cs ot s₀ s) {l:W3} (hc:m "char" = some (.str ⟨#[c]⟩ t)) (hl:m "loc" = some (.ref l))
   (h:∀x dx es n s',getL "char" es=some (some (.str ⟨#[c]⟩ t))->getL "loc" es=some (some (.ref l))->Lg F m cs ((x,Xu 183 dx)::(dx,Xc es n)::ot) s₀ s'->(∀p∈cs++ot,p.1<dx)->dx<x->Q (.ref x) s') :
   wpAny (model ae w) A (eval (.Call (.Name "Char" q1) [.Name "char" q2,.Name "loc" q3] [] q4) F.env) Q E s:=by
 have X:(KF w.params).In s.heap:=FO.G.X.keeps R.raw.fr.keep
 refine Call_ (bF FO R.raw (gn hS (by kernel_rfl)) (.inl (Rb _)) ?_) rfl
 refine XZ (P:=fun h=>(KF w.params).In h) rfl (fun h X=>keeps_K (IV _) h X) ?_
 refine aq (Xz (ax FO R.raw (ln hS (by kernel_rfl)) hc (Xz (ax FO R.raw (ln hS (by kernel_rfl)) hl (args_nil ⟨X,?_⟩))))) rfl
 refine vr FO hh hdep R.raw fun x dx es n s' e1 e2 Uv lt hlt'=>?_
 refine h x dx es n s' e1 e2 ?_ lt hlt'
 refine Lg.frz (new:=[(x,Xu 183 dx),(dx,Xc es n)]) R Uv fun p hp hm=>?_
 obtain⟨q,hq,e⟩:=Xp.mp hm
 have hlt:=lt q (W7 _ hq)
 rw[e] at hlt
 rcases Xb.mp hp with rfl|hp
 . exact absurd (Xx hlt hlt') (Nat.lt_irrefl _)
 . rw[Xe.mp hp] at hlt;exact absurd hlt (Nat.lt_irrefl _)
theorem w5(FO:aa w F) (hS:F.sc=S0 314) {r:Int} (he:be es r) (R:Lg F m (am sf dsf es n++cs) ot s₀ s) (hsf:m "source_file" = some (.ref sf)) {Q:Flow->W2->Prop}
   (h:∀es' n' s',be es' (r+1)->Lg F m (am sf dsf es' n'++cs) ot s₀ s'->Q .next s'):wpAny (model ae w) A (exec vY F.env) Q E s:=by
 obtain⟨tr,htr⟩:=he.row
 show wpAny (model ae w) A (exec (.AugAssign (.Attribute (.Name "source_file" _) (AN 11) _) .Add (.Constant (.int 1) _ _) _) F.env) Q E s
 have I:Xr s.heap sf (Xu 303 dsf) 303 (some (Xc es n)):=⟨R.get (.head _),rfl,rfl,R.get (.tail _ (.head _))⟩
 have nd:=R.nd
 have nd':¬sf=dsf/\(∀p∈cs,p.1≠dsf):=by
   simp only[a7,am,List.cons_append,List.nil_append,List.map_cons,XD,Xb,not_or] at nd
   exact⟨nd.1.1,fun p hp q=>nd.2.1 (Xp.mpr ⟨p,hp,q⟩)⟩
 refine wpAny_AugAssign_AttributeAny (ax FO R.raw (ln hS (by kernel_rfl)) hsf ?_)
 refine get_own R.raw.fr FO.G.X I (C9 _ _) (A1 _) (wI _) rfl htr rfl ?_
 refine wpAny_Constant_int (iadd_int ?_)
 refine bb FO (yb _) (o:=Xu 303 dsf) (sl:= #[]) rfl (((R.raw.toks _).toks _).toks _) nd'.1 (fun p hp=>?_) he.len (by obtain⟨qq,qq⟩:=he.row;rw[htr];rfl) fun s' tk R'=>?_
 . rcases Xt.mp hp with hp|hp
   . exact nd'.2 p hp
   . exact fun q=>R.dis p hp (by rw[q];exact .tail _ (.head _))
 . exact h _ _ s' (he.put _ _ _) ⟨R',R.nd,R.dis⟩
end
end
section
noncomputable abbrev IZ:Flow->Sem Fin:=fun f=> .pure (.done (.ret (match f with| .ret v=>v|_=> .none)))
noncomputable abbrev nG(env:Env):WY->Sem Fin:=fun e=>(leaving env e).wrap (fun qq=> .raise e) .raise id id
noncomputable abbrev jG(rest:List Stmt) (env:Env) (K:Flow->Sem Fin) (H:WY->Sem Fin):Flow->Sem Fin:=fun f=>match f with| .next=>(execs rest env).wrap K H id id|f=>K f
noncomputable abbrev jz(c:Code):Flow->Sem Fin:=fun f=>match f with
 |.next| .cont=> .pure (.again c)
 |.brk=> .pure (.done .next)
 |.ret v=> .pure (.done (.ret v))
noncomputable abbrev lQ(K:Flow->Sem Fin) (H:WY->Sem Fin) (env:Env) (c:Code) (p:Pos):Frame :=
 .ret (fun r=>((match r with| .ok f=>(.pure f:Sem Flow)| .error e=> .raise e).onRaise fun(x:WY)=>do
   if (←field x 1) == Value.none then unsupported "frame.own-activation:exception-without-traceback"
   setFlight x env.frame).wrap K H id id) none false [] c p []
noncomputable def Top(B:Nat) (l:ad):Prop:=∃q∈l,B<=q.1
theorem Top.lt{a:Nat} (h:Top B l) (k:∀p∈l,p.1<a):B<a:=let⟨q,hq,e⟩:=h;Xi e (k q hq)
theorem Top.mono{l':ad} (h:Top B l) (k:∀p∈l,p∈l'):Top B l':=let⟨q,hq,e⟩:=h;⟨q,k q hq,e⟩
theorem fH:∀(l:ad),l≠[]->∃B,(∀q∈l,q.1<=B)/\Top B l
 |[],h=>absurd rfl h
 |[a],_=>⟨a.1,fun q hq=>by rw[Xe.mp hq];exact Xl _,a,.head _,Xl _⟩
 |a::b::r,_=>by
   obtain⟨B,h1,q,hq,h2⟩:=fH (b::r) (by simp)
   rcases Nat.le_total a.1 B with h|h
   . exact⟨B,fun p hp=>by rcases Xb.mp hp with rfl|hp;exact h;exact h1 p hp,q,.tail _ hq,h2⟩
   . refine⟨a.1,fun p hp=>?_,a,.head _,Xl _⟩
     rcases Xb.mp hp with rfl|hp
     . exact Xl _
     . exact WZ (h1 p hp) h
section
variable {P:End->W2->Prop}
theorem aT(FO:aa w F):interactive F.env=false:=by
 unfold interactive
 show(F.sc.kind == .module&&_)=false
 rw[FO.kind];rfl
noncomputable abbrev bt(sf dsf:W3) (es:List XH) (n:Nat) (it2 e2:W3) (o2:Obj) (i:Nat) (old2:WY) (r:ad):ad:=am sf dsf es n++((it2,o2)::(e2,bf it2 ((i:Int)+1) old2)::r)
theorem gN{b:W3}{l:List W3} (q:a=b) (h:b∈l):a∈l:=q▸h
theorem eh{r:ad}{x y p:W3×Obj} (h:p∈pre++x::y::r):p=x\/p=y\/p∈pre++r:=(Xb.mp (bH h)).imp id fun h=>Xb.mp (bH h)
theorem gf{r:ad}{x y p:W3×Obj} (h:p∈pre++r):p∈pre++x::y::r:=cJ (cJ h)
theorem cG{r:ad}{x y:W3×Obj}:y∈pre++x::y::r:=W4 _ (.tail _ (.head _))
theorem Lg.two{r:ad}{b:W3}{x x' y y':Obj} (R:Lg F m (pre++(a,x)::(b,y)::r) ot s₀ s) {t:Nat} (hk:∀c o,c≠b->c≠a->s.heap.get? c=some o->h'.get? c=some o) (ha:h'.get? a=some x') (hb:h'.get? b=some y') :
   Lg F m (pre++(a,x')::(b,y')::r) ot s₀ {s with heap:=h',toks:=t} :=
 have e:a7 (pre++(a,x')::(b,y')::r)=a7 (pre++(a,x)::(b,y)::r):=XM.trans (Eq.symm XM)
 have fa:=(R.raw.nw (a,x) (W7 _ aD)).2
 have fb:=(R.raw.nw (b,y) (W7 _ cG)).2
 have ia:a∈a7 (pre++(a,x)::(b,y)::r):=Xv (f:=(·.1)) (aD (p:=(a,x)))
 have ib:b∈a7 (pre++(a,x)::(b,y)::r):=Xv (f:=(·.1)) (cG (y:=(b,y)))
 have na:=bv R.nd
 have nb:=bv (((List.Perm.swap (b,y) (a,x) r).append_left pre).map (·.1) |>.nodup_iff.mp R.nd)
 have old:∀p∈pre++r++ot,p.1≠b->p.1≠a->h'.get? p.1=some p.2/\p.1≠F.L/\F.Up.get? p.1=none:=fun p hp h1 h2 =>
   have z:=R.raw.nw p ((Xt.mp hp).elim (fun h=>W7 _ (gf h)) fun h=>W4 _ h)
   ⟨hk _ _ h1 h2 z.1,z.2⟩
 ⟨R.raw.to (X:=[b,a]) (fun c hc=>(Xb.mp hc).elim (fun e=>e▸fb) fun hc=>(Xe.mp hc)▸fa) (fun c o hc h=>hk c o (fun q=>hc (q▸ .head _)) (fun q=>hc (q▸ .tail _ (.head _))) h) fun p hp =>
   (Xt.mp hp).elim (fun hp=>(eh hp).elim (fun q=>q▸⟨ha,fa⟩) fun hp=>hp.elim (fun q=>q▸⟨hb,fb⟩) fun hp=>old p (W7 _ hp) (nb p (cJ hp)) (na p (cJ hp)))
     fun hp=>old p (W4 _ hp) (fun q=>R.dis p hp (gN q ib)) (fun q=>R.dis p hp (gN q ia)),e▸R.nd,e▸R.dis⟩
noncomputable def FN(F:Fm) (n1 n2:Str) (m:Str->Option WY) (pre:ad) (it en:W3) (j:Int) (r ot:ad) (P:WY->Prop) (It:Obj->Prop) (s₀ s:W2):Prop:=∀qC:Prop,(∀(o':Obj) (u:WY) (tk:Tok),P u->It o'->Lg F (fun y=>if y=n2 then some u else if y=n1 then some (.int j tk) else m y) (pre++((it,o')::(en,bf it (j+1) u)::r)) ot s₀ s->qC)->qC
theorem i6(FO:aa w F) (hh:A.handled=none) {n1 n2:Str}{T:W5} (hT:kB F.sc n1 n2 T) {r:ad}{it en:W3}{j:Int}{old:WY}{fp:List W3}{P:Nat->WY->Prop}{St:Nat->Heap->Prop}
   (D:Draws ae w A.in1 it fp n P St) (hst:St i s.heap) (hlt:i<n) (hef:en∉fp) {It:Obj->Prop} (hIt:∀h',St (i+1) h'->∃o',h'.get? it=some o'/\It o') (R:Lg F m (pre++((it,o)::(en,bf it j old)::r)) ot s₀ s) {Q:Option WY->W2->Prop}
   (h:∀v s',wpAny (model ae w) A (letOwnedTupleGo T (.ref en) v) (fun qq Un=>wpAny (model ae w) A (assign T F.env v) (fun qq Uq=>FN F n1 n2 m pre it en j r ot (P i) It s₀ Uq) (fun qq qq=>False) Un) (fun qq qq=>False) s'->Q (some v) s'):wpAny (model ae w) A (pyNext (.ref en)) Q E s:=by
 obtain⟨p1,p2,pp,kk,h1,h2⟩:=hT
 have hne:en≠it:=bv R.nd _ (W4 _ (.head _))
 have hen:=R.get cG
 refine u5 (D:=D) hen hst hlt hne hef fun u h' tk hP heo hst' htup hsz hk=>h _ _ (wpAny_letOwnedTupleGo_enum heo fun h'' he'' hs''=>?_)
 obtain⟨o',ho',hIt'⟩:=hIt h' hst'
 have hs2:∀b,b≠en->h''.get? b=h'.get? b:=fun b hb=>hs''.2 b hb
 have R':=R.two (t:=tk+1) (h':=h'') (x':=o') (y':=bf it (j+1) u) (fun b o hb hb2 e=>(hs2 b hb).trans (hk b o hb hb2 e)) ((hs2 it hne.symm).trans ho') he''
 exact qc FO hh R'.raw h1 h2 (v1:= .int j tk) (v2:=u) ⟨_,(hs2 _ (XC (XQ hen))).trans htup,rfl,_,rfl⟩ fun Ut Ur=>(fun qq qk=>qk o' u tk hP hIt' (R'.with Ur))
noncomputable def Na(F:Fm) (m:Str->Option WY) (pre:ad) (it2 e2:W3) (i:Nat) (r ot:ad) (x:Str) (t:Tok) (c:Nat) (s₀ s:W2):Prop:=∀qC:Prop,(∀(o2':Obj) (u tk:Tok),fh x t (i+1) o2'->Lg F (fun y=>if y = "char" then some (.str ⟨#[c]⟩ u) else if y = "col" then some (.int ((i:Int)+1) tk) else m y) (pre++((it2,o2')::(e2,bf it2 (((i+1:Nat):Int)+1) (.str ⟨#[c]⟩ u))::r)) ot s₀ s->qC)->qC
noncomputable def Nz(F:Fm) (n1 n2:Str) (m:Str->Option WY) (pre:ad) (it1 e1 src:W3) (j:Nat) (r ot:ad) (v:WY) (s₀ s:W2):Prop:=∀qC:Prop,(∀(o1':Obj) (tk:Tok),bP src (j+1) o1'->Lg F (fun y=>if y=n2 then some v else if y=n1 then some (.int ((j:Int)+1) tk) else m y) (pre++((it1,o1')::(e1,bf it1 (((j+1:Nat):Int)+1) v)::r)) ot s₀ s->qC)->qC
theorem rZ(FO:aa w F) (hh:A.handled=none) {T2:W5} (hT:kB F.sc "col" "char" T2) {r:ad}{it2 e2:W3}{o2:Obj}{old2:WY}
   (hi:fh x t i o2) (R:Lg F m (pre++((it2,o2)::(e2,bf it2 ((i:Int)+1) old2)::r)) ot s₀ s) (hc:x.cps[i]?=some c) {Q:Option WY->W2->Prop}
   (h:∀v s',wpAny (model ae w) A (letOwnedTupleGo T2 (.ref e2) v) (fun qq Un=>wpAny (model ae w) A (assign T2 F.env v) (fun qq Uq=>Na F m pre it2 e2 i r ot x t c s₀ Uq) (fun qq qq=>False) Un) (fun qq qq=>False) s'->Q (some v) s'):wpAny (model ae w) A (pyNext (.ref e2)) Q E s:=by
 have hlt:i<x.cps.size:=(XJ.mp hc).1
 have hne:e2≠it2:=bv R.nd _ (W4 _ (.head _))
 exact i6 FO hh hT (l5 (A:=A.in1) hh it2 x t) ⟨o2,R.get aD,hi.1,hi.2⟩ hlt (fun q=>hne (Xe.mp q)) (It:=fh x t (i+1)) (fun h' ⟨o',a,b⟩=>⟨o',a,b⟩) R fun v s' hw=>h v s' (Xq hw (fun qq Un hw=>Xq hw (fun qq Uq hw=>by
   refine hw _ ?_;rintro o' u tk ⟨c',t',hc',rfl⟩ hi' R'
   cases hc.symm.trans hc'
   exact(fun qq qk=>qk o' t' tk hi' R')) fun qq qq x=>x) fun qq qq x=>x)
theorem sn(FO:aa w F) (hh:A.handled=none) {n1 n2:Str}{T:W5} (hT:kB F.sc n1 n2 T) {r:ad}{it1 e1 src:W3}{j:Nat}{o1:Obj}{old1:WY}{items:Array WY}
   (hi:bP src j o1) (hsrc:(src,W0 items nn)∈ot) (R:Lg F m (pre++((it1,o1)::(e1,bf it1 ((j:Int)+1) old1)::r)) ot s₀ s) (hv:items[j]?=some v) {Q:Option WY->W2->Prop}
   (h:∀u s',wpAny (model ae w) A (letOwnedTupleGo T (.ref e1) u) (fun qq Un=>wpAny (model ae w) A (assign T F.env u) (fun qq Uq=>Nz F n1 n2 m pre it1 e1 src j r ot v s₀ Uq) (fun qq qq=>False) Un) (fun qq qq=>False) s'->Q (some u) s'):wpAny (model ae w) A (pyNext (.ref e1)) Q E s:=by
 have hlt:j<items.size:=(XJ.mp hv).1
 have hd:=R.dis _ hsrc
 have hne:e1≠it1:=bv R.nd _ (W4 _ (.head _))
 have d1:src≠it1:=fun q=>hd (gN q (Xv (f:=(·.1)) (aD (p:=(it1,o1)))))
 have d2:e1≠src:=fun q=>hd (gN q.symm (Xv (f:=(·.1)) (cG (y:=(e1,bf it1 ((j:Int)+1) old1)))))
 exact i6 FO hh hT (Draws.list (A:=A.in1) hh it1 src d1 items) ⟨⟨o1,R.get aD,hi.1,hi.2⟩,⟨_,R.old hsrc,rfl,nn,rfl⟩⟩ hlt (fun q=>(Xb.mp q).elim hne fun q=>d2 (Xe.mp q)) (It:=bP src (j+1)) (fun h' ⟨⟨o',a,b⟩,_⟩=>⟨o',a,b⟩) R fun Wu s' hw=>h Wu s' (Xq hw (fun qq Un hw=>Xq hw (fun qq Uq hw=>by
   refine hw _ ?_;rintro o' u tk hv' hi' R'
   cases hv.symm.trans hv'
   exact(fun qq qk=>qk o' tk hi' R')) fun qq qq x=>x) fun qq qq x=>x)
theorem TI:kB (S0 314) "row" "line" Gw:= .mk _ _ _ _ (by kernel_rfl) (by kernel_rfl)
theorem Tx:kB (S0 314) "col" "char" g8:= .mk _ _ _ _ (by kernel_rfl) (by kernel_rfl)
theorem N3:(S0 314).isCoroutine=false:=by kernel_rfl
theorem BV(FO:aa w F) (hS:F.sc=S0 314) {it2 e2:W3}{o2:Obj}{old2:WY}{r:ad}{row:Int}
   (hh:(A.over (.forLoop g8 (.ref e2) gg [] F.env) fs).handled=none) (hdep:(A.over (.forLoop g8 (.ref e2) gg [] F.env) fs).depth+2<Xh) (hfs:splitAtGen fs=none) (hfg:fs.any Frame.guarded=false)
   (he:be es row) (hi:fh x t i o2) (hsf:m "source_file" = some (.ref sf)) (R:Lg F m (bt sf dsf es n it2 e2 o2 i old2 r) ot s₀ s) (hB:Top B (bt sf dsf es n it2 e2 o2 i old2 r++ot)) (hc:x.cps[i]?=some c)
   (h:∀a da es' n' l dl sl o2' m' s' k ll p,bS [(a,Xu 183 da),(da,Xc es' n'),(l,aE 79 (some dl) sl),(dl,Xc [] 0)] ⟨c,row,(i:Int)+1⟩ a->fh x t (i+1) o2'->m' "source_file" = some (.ref sf) ->
     Lg F m' (bt sf dsf es n it2 e2 o2' (i+1) (.str ⟨#[c]⟩ ll) r) ([(a,Xu 183 da),(da,Xc es' n'),(l,aE 79 (some dl) sl),(dl,Xc [] 0)]++ot) s₀ s'->B<dl->dl<l->l<da->da<a ->
     (∀A' s'' P',SegX (model ae w) A' (.forLoop g8 (.ref e2) gg [] F.env) (.pure (.again (.forLoop g8 (.ref e2) gg [] F.env))) fs s'' P'->SegX (model ae w) A' (.forLoop g8 (.ref e2) gg [] F.env) (k (.send .none)) fs s'' P') ->
     ∀lv,P (.susp (.ref a) false lv k (.forLoop g8 (.ref e2) gg [] F.env) p fs) s') :
   SegX (model ae w) A (.forLoop g8 (.ref e2) gg [] F.env) ((model ae w).den (.forLoop g8 (.ref e2) gg [] F.env)) fs s P:=by
 refine fF (rZ FO hh (hS▸Tx) hi R hc fun v s' hw=>Xq hw (fun qq Un hw=>Xq hw (fun qq Uq hw=>?_) fun qq qq x=>x.elim) fun qq qq x=>x.elim)
 refine hw _ ?_;rintro o2' u tk hi' Uv
 have n1:("source_file" : Str) ≠ "char" := by decide +kernel
 have n2:("source_file" : Str) ≠ "col" := by decide +kernel
 have n3:("col" : Str) ≠ "char" := by decide +kernel
 have n4:("source_file" : Str) ≠ "loc" := by decide +kernel
 have n5:("char" : Str) ≠ "loc" := by decide +kernel
 have hsf':∀{u v:WY},(if ("source_file" : Str) = "char" then some u else if ("source_file" : Str) = "col" then some v else m "source_file")=some (.ref sf):=fun {u v}=>(if_neg n1).trans ((if_neg n2).trans hsf)
 rw[Nt]
 refine cK (yE FO hS hh hdep he Uv hsf' (k:=(i:Int)+1) (tk:=tk) ((if_neg n3).trans (if_pos rfl)) fun l dl sl Ut hloc Uo lt hlt=>⟨rfl,?_⟩)
 have hB1:B<dl:=hB.elim fun q h=>Xi h.2 ((Xt.mp h.1).elim (fun hq=>(eh hq).elim (fun e=>e▸lt (it2,o2') (W7 _ aD)) fun hq=>hq.elim (fun e=>e▸lt (e2,bf it2 (((i+1:Nat):Int)+1) (.str ⟨#[c]⟩ u)) (W7 _ cG)) fun hq=>lt q (W7 _ (gf hq))) fun hq=>lt q (W4 _ hq))
 show SegX _ A _ ((execs [.Expr (.Yield (some (.Call (.Name "Char" _) [.Name "char" _,.Name "loc" _] [] _)) _) _] F.env).wrap _ _ id id) fs Ut P
 refine aw (et hfs rfl hfg (zk FO hS hh hdep Uo (c:=c) (t:=u) (l:=l) ((if_neg n5).trans (if_pos rfl)) (if_pos rfl) fun a da es' n' UB e1 e2' Ur lt' hlt'=>?_) (show F.sc.isCoroutine=false from hS▸N3) (aT FO))
 have hl:l<da:=lt' (l,aE 79 (some dl) sl) (W4 _ (.head _))
 exact fun lv k p hk=>h a da es' n' l dl sl o2' _ UB k u p (fun qq qk=>qk da es' n' l u (.head _) (.tail _ (.head _)) e1 e2' (hloc.mono fun p hp=> .tail _ (.tail _ hp))) hi' ((if_neg n4).trans hsf') Ur hB1 hlt hl hlt' hk lv
end
end
section
noncomputable def cN(r:Int):Int->List Nat->List Ch
 |_,[]=>[]
 |k,c::cs=>⟨c,r,k⟩::cN r (k+1) cs
noncomputable def bu:Int->List Str->List Ch
 |_,[]=>[]
 |r,l::ls=>cN r 1 (g6 l.cps.toList 0)++bu (r+1) ls
noncomputable abbrev lA(p:Str×Tok):WY:= .str p.1 p.2
noncomputable def fT(l:Str):Prop:=(g6 l.cps.toList 0).length<=100000
section
variable {P:End->W2->Prop}
theorem Lg.lose{r:ad} (R:Lg F m (pre++(a,o)::r) ot s₀ s) {t:Nat} (hx:Heap.ExtBut a s.heap h'):Lg F m (pre++r) ot s₀ {s with heap:=h',toks:=t} :=
 have far:=(R.raw.nw (a,o) (W7 _ aD)).2
 have R':=R.drop ((List.Sublist.refl pre).append (List.sublist_cons_self (a,o) r))
 ⟨R'.raw.to (X:=[a]) (fun x hx=>(Xe.mp hx)▸far) (fun b o hb e=>hx b o (fun q=>hb (q▸ .head _)) e) fun p hp =>
   have h:=R'.raw.nw p hp
   ⟨hx _ _ ((Xt.mp hp).elim (fun hp=>bv R.nd p hp) fun hp q=>R.dis p hp (gN q (Xv (f:=(·.1)) (aD (p:=(a,o)))))) h.1,h.2⟩,R'.nd,R'.dis⟩
theorem Lg.thaw{r:ad}{q:W3×Obj} (R:Lg F m (pre++q::r) ot s₀ s):Lg F m (pre++r) (q::ot) s₀ s :=
 have sub:(pre++r).Sublist (pre++q::r):=(List.Sublist.refl pre).append (List.sublist_cons_self _ _)
 ⟨R.raw.sub fun p hp=>(Xt.mp hp).elim (fun h=>W7 _ (cJ h)) fun h=>(Xb.mp h).elim (fun e=>e▸W7 _ aD) fun h=>W4 _ h,(R.drop sub).nd,
   fun p hp hm=>(Xb.mp hp).elim (fun e=>(Xp.mp hm).elim fun x hx=>bv (d:=q.1) (o:=q.2) R.nd x hx.1 (hx.2.trans (congrArg (·.1) e))) fun hp=>R.dis p hp ((sub.map _).subset hm)⟩
theorem Gr(FO:aa w F) (hS:F.sc=S0 314) {it2 e2:W3}{o2:Obj}{old2:WY}{r:ad}{row:Int}{c1:Code}{fs1:List Frame} (hq:c1.quiet=true)
   (hh:(A.over (.forLoop g8 (.ref e2) gg [] F.env) (lQ (jG [vY] F.env (jz c1) (aK F.env)) (aK F.env) F.env c1 p2::fs1)).handled=none)
   (he:be es row) (hi:fh x t i o2) (hsf:m "source_file" = some (.ref sf)) (R:Lg F m (bt sf dsf es n it2 e2 o2 i old2 r) ot s₀ s) (hc:i=x.cps.size)
   (h:∀es' n' s',be es' (row+1)->Lg F m (am sf dsf es' n'++r) ((e2,bf it2 ((i:Int)+1) old2)::ot) s₀ s'->SegX (model ae w) A c1 ((model ae w).den c1) fs1 s' P) :
   SegX (model ae w) A (.forLoop g8 (.ref e2) gg [] F.env) ((model ae w).den (.forLoop g8 (.ref e2) gg [] F.env)) (lQ (jG [vY] F.env (jz c1) (aK F.env)) (aK F.env) F.env c1 p2::fs1) s P:=by
 refine fF (wpAny_pyNext_enum_endD (D:=l5 (A:=(A.over (.forLoop g8 (.ref e2) gg [] F.env) (lQ (jG [vY] F.env (jz c1) (aK F.env)) (aK F.env) F.env c1 p2::fs1)).in1) hh it2 x t) (i:=(i:Int)+1) (R.get cG) (hc▸⟨o2,R.get aD,hi.1,hi.2⟩) fun h' hx=>?_)
 have R1:Lg F m (am sf dsf es n++((e2,bf it2 ((i:Int)+1) old2)::r)) ot s₀ {s with heap:=h'}:=Lg.lose (t:=s.toks) R hx
 refine jS (gW (.ok .next) (cK (w5 FO hS he R1.thaw hsf fun es' n' s' he' R'=>⟨rfl,?_⟩)))
 exact bM hq (h es' n' s' he' R')
end
end
section
structure G0 where
 src:W3
 items:Array WY
 nn:Nat
 sf:W3
 dsf:W3
 fin:Int
noncomputable abbrev ig(F:Fm) (B:List Stmt) (p:Pos):Frame:=lQ (jG [] F.env IZ (nG F.env)) (nG F.env) F.env (.func B F.env) p
noncomputable abbrev OX(F:Fm) (c1:Code) (p:Pos):Frame:=lQ (jG [vY] F.env (jz c1) (aK F.env)) (aK F.env) F.env c1 p
noncomputable abbrev Ai(F:Fm) (e1:W3):Code:= .forLoop Gw (.ref e1) vi [] F.env
noncomputable abbrev Jv(F:Fm) (e2:W3):Code:= .forLoop g8 (.ref e2) gg [] F.env
noncomputable abbrev eR(it1 e1:W3) (o1:Obj) (j:Nat) (old1:WY):ad:=[(it1,o1),(e1,bf it1 ((j:Int)+1) old1)]
inductive H7(F:Fm) (D:G0) (m:Str->Option WY):ad->List Ch->Code->List Frame->Prop
 |mk (e1 it1 e2 it2:W3) (o1 o2:Obj) (old1 old2:WY) (i j:Nat) (x:Str) (t:Tok) (row:Int) (es:List XH) (n:Nat) (p1 p2:Pos) (Bd:List Stmt) (ls:List (Str×Tok)) :
   it2<e2->fh x t i o2->bP D.src j o1->be es row->m "source_file" = some (.ref D.sf)->i<=x.cps.size ->
   D.items.toList.drop j=ls.map lA->j<=D.items.size->(∀p∈ls,fT p.1)->D.fin=row+1+(ls.length:Int) ->
   H7 F D m (bt D.sf D.dsf es n it2 e2 o2 i old2 (eR it1 e1 o1 j old1)) (cN row ((i:Int)+1) (x.cps.toList.drop i)++bu (row+1) (ls.map (·.1))) (Jv F e2) [OX F (Ai F e1) p2,ig F Bd p1]
noncomputable def jO(w:Xj) (code:Code) (fs:List Frame) (k:Resume->Sem XA):Prop :=
 ∀A' s'' P',SegX (model ae w) A' code (.pure (.again code)) fs s'' P'->SegX (model ae w) A' code (k (.send .none)) fs s'' P'
inductive mW(w:Xj) (F:Fm) (D:G0) (B:Nat) (C₀:List W3) (ot:ad) (s₀:W2):List Ch->End->W2->Prop
 |fin (m':Str->Option WY) (es':List XH) (n':Nat) (ot':ad) (s':W2):be es' D.fin->Lg F m' (am D.sf D.dsf es' n') ot' s₀ s'->(∀p∈ot,p∈ot')->mW w F D B C₀ ot s₀ [] (.ret (.ok (.ret .none))) s'
 |chr (c:Ch) (rest:List Ch) (a:W3) (new cs' ot':ad) (m':Str->Option WY) (k:Resume->Sem XA) (lv:List WY) (p:Pos) (code:Code) (fs:List Frame) (s':W2):jO w code fs k ->
     bS new c a->(∀p∈new,B<p.1)->(a7 new).Nodup->(∀p∈new,p∈ot')->(∀p∈ot,p∈ot')->Lg F m' cs' ot' s₀ s'->(∀p∈cs',p.1∈C₀\/B<p.1)->H7 F D m' cs' rest code fs->mW w F D B C₀ ot s₀ (c::rest) (.susp (.ref a) false lv k code p fs) s'
structure pZ(A:Yc):Prop where
 hd:A.handled=none
 depth:A.depth<=950
section
variable {P:End->W2->Prop}
theorem lE{x:List Nat} (h:i<x.length):x.drop i=x[i]::x.drop (i+1):=(List.drop_eq_getElem_cons h)
theorem PU{P:W3×Obj->Prop}{a b c d:W3×Obj} (ha:P a) (hb:P b) (hc:P c) (hd:P d):∀p∈[a,b,c,d],P p:=fun qq h=>(Xb.mp h).elim (fun e=>e▸ha) fun h=>(Xb.mp h).elim (fun e=>e▸hb) fun h=>(Xb.mp h).elim (fun e=>e▸hc) fun h=>(Xe.mp h)▸hd
theorem Te{a b d:Nat}{x y z u:Obj} (h1:b<a) (h2:c<b) (h3:d<c):(a7 [(a,x),(b,y),(c,z),(d,u)]).Nodup:=by
 have h4:=Xx h2 h1
 have h5:=Xx h3 h2
 have h6:=Xx h3 h4
 exact .cons (fun e h=>(Xb.mp h).elim (fun q=>q▸XC h1) fun h=>(Xb.mp h).elim (fun q=>q▸XC h4) fun h=>(Xe.mp h)▸XC h6) (.cons (fun e h=>(Xb.mp h).elim (fun q=>q▸XC h2) fun h=>(Xe.mp h)▸XC h5) (.cons (fun e h=>(Xe.mp h)▸XC h3) (.cons (fun e h=>nomatch h) .nil)))
theorem EF(FO:aa w F) (hS:F.sc=S0 314) {D:G0}{ot0:ad} (hot:∀p∈ot0,p∈ot) {C₀:List W3}{e1 it1 e2 it2:W3}{o1 o2:Obj}{old1 old2:WY}{j:Nat}{row:Int}{Bd:List Stmt}{ls:List (Str×Tok)}
   (hA:pZ A) (hie:it2<e2)
   (R:Lg F m (bt D.sf D.dsf es n it2 e2 o2 i old2 (eR it1 e1 o1 j old1)) ot s₀ s) (hi2:fh x t i o2) (hi1:bP D.src j o1) (he:be es row) (hsf:m "source_file" = some (.ref D.sf)) (hix:i<=x.cps.size)
   (hls:D.items.toList.drop j=ls.map lA) (hj:j<=D.items.size) (hok:∀p∈ls,fT p.1) (hfin:D.fin=row+1+(ls.length:Int))
   (hB:Top B (bt D.sf D.dsf es n it2 e2 o2 i old2 (eR it1 e1 o1 j old1)++ot)) (hC:∀p∈bt D.sf D.dsf es n it2 e2 o2 i old2 (eR it1 e1 o1 j old1),p.1∈C₀\/B<p.1)
   (hnext:∀(ot':ad) es' n' s',(∀p∈ot,p∈ot')->be es' (row+1)->Lg F m (am D.sf D.dsf es' n'++(eR it1 e1 o1 j old1)) ot' s₀ s'->Top B (am D.sf D.dsf es' n'++(eR it1 e1 o1 j old1)++ot') ->
     SegX (model ae w) A (Ai F e1) ((model ae w).den (Ai F e1)) [ig F Bd p1] s' (mW w F D B C₀ ot0 s₀ (bu (row+1) (ls.map (·.1))))) :
   SegX (model ae w) A (Jv F e2) ((model ae w).den (Jv F e2)) [OX F (Ai F e1) p2,ig F Bd p1] s
     (mW w F D B C₀ ot0 s₀ (cN row ((i:Int)+1) (x.cps.toList.drop i)++bu (row+1) (ls.map (·.1)))):=by
 have hh:(A.over (Jv F e2) [OX F (Ai F e1) p2,ig F Bd p1]).handled=none:=hA.hd
 have hd:(A.over (Jv F e2) [OX F (Ai F e1) p2,ig F Bd p1]).depth+2<Xh:=Xi (XG (XG hA.depth 1) 2) (by decide)
 rcases Nat.lt_or_ge i x.cps.size with hlt|hge
 . rw[lE (x:=x.cps.toList) hlt]
   refine BV FO hS hh hd rfl rfl he hi2 hsf R hB (Array.getElem?_eq_getElem hlt) fun a da es' n' l dl sl o2' m' s' k ll p hchr hi2' hsf' R' q1 q2 q3 q4 hk lv=>?_
   have r1:B<l:=Xx q1 q2
   have r2:B<da:=Xx r1 q3
   exact .chr _ _ a _ _ _ m' k lv p _ _ _ hk hchr (PU (Xx r2 q4) r2 r1 q1) (Te q4 q3 q2) (fun p hp=>W7 _ hp) (fun p hp=>W4 _ (hot p hp)) R'
     (fun p hp=>(eh hp).elim (fun e=>e▸hC (it2,o2) aD) fun h=>h.elim (fun e=>e▸hC (e2,bf it2 ((i:Int)+1) old2) cG) fun h=>hC p (gf h))
     (.mk e1 it1 e2 it2 o1 o2' old1 _ (i+1) j x t row es n p1 p2 Bd ls hie hi2' hi1 he hsf' hlt hls hj hok hfin)
 . rw[List.drop_eq_nil_of_le (as:=x.cps.toList) hge]
   refine Gr FO hS rfl hh he hi2 hsf R (Nat.le_antisymm hix hge) fun es' n' s' he' R'=>hnext _ es' n' s' (fun p hp=> .tail _ hp) he' R' ?_
   refine hB.elim fun q h=>(Xt.mp h.1).elim (fun hq=>?_) fun hq=>⟨q,W4 _ (.tail _ hq),h.2⟩
   have hx:B<=q.1:=h.2
   have he2:B<=e2->Top B (am D.sf D.dsf es' n'++eR it1 e1 o1 j old1++(e2,bf it2 ((i:Int)+1) old2)::ot):=fun h=>⟨(e2,bf it2 ((i:Int)+1) old2),W4 _ (.head _),h⟩
   cases hq with
   |head=>exact⟨(D.sf,Xu 303 D.dsf),.head _,hx⟩
   |tail _ hq=>cases hq with
     |head=>exact⟨(D.dsf,Xc es' n'),.tail _ (.head _),hx⟩
     |tail _ hq=>cases hq with
       |head=>exact he2 (WZ hx (Nat.le_of_lt hie))
       |tail _ hq=>cases hq with
         |head=>exact he2 hx
         |tail _ hq=>exact⟨q,.tail _ (.tail _ (W7 _ hq)),hx⟩
theorem wx(row:Int) (ls:List α) {l:α}:row+((l::ls).length:Int)=row+1+(ls.length:Int):=(congrArg (row+ ·) (Int.add_comm (ls.length:Int) 1)).trans (Int.add_assoc row 1 (ls.length:Int)).symm
theorem Qs{C:W3->Prop} (es:List XH) (n:Nat) (es':List XH) (n':Nat) (h:∀p∈am sf dsf es n,C p.1):∀p∈am sf dsf es' n',C p.1:=fun qq hp=>(Xb.mp hp).elim (fun e=>e▸h _ (.head _)) fun hp=>(Xe.mp hp)▸h (dsf,Xc es n) (.tail _ (.head _))
theorem Ag(FO:aa w F) (hS:F.sc=S0 314) {D:G0}{ot0:ad}{C₀:List W3}{e1 it1:W3}{Bd:List Stmt} (hA:pZ A):∀(ls:List (Str×Tok)) (j:Nat) (m:Str->Option WY) (ot:ad) (s:W2) (o1:Obj) (old1:WY) (row:Int) (es:List XH) (n:Nat),
   (∀p∈ot0,p∈ot)->(D.src,W0 D.items D.nn)∈ot->Lg F m (am D.sf D.dsf es n++eR it1 e1 o1 j old1) ot s₀ s->bP D.src j o1->be es row->m "source_file" = some (.ref D.sf) ->
   D.items.toList.drop j=ls.map lA->j<=D.items.size->(∀p∈ls,fT p.1)->D.fin=row+(ls.length:Int)->Top B (am D.sf D.dsf es n++eR it1 e1 o1 j old1++ot) ->
   (∀p∈am D.sf D.dsf es n++eR it1 e1 o1 j old1,p.1∈C₀\/B<p.1) ->
   SegX (model ae w) A (Ai F e1) ((model ae w).den (Ai F e1)) [ig F Bd p1] s (mW w F D B C₀ ot0 s₀ (bu row (ls.map (·.1)))):=by
 have hh:(A.over (Ai F e1) [ig F Bd p1]).handled=none:=hA.hd
 intro ls
 induction ls with
 |nil =>
   intro j m ot s o1 old1 row es n hot hsrc R hi1 he hsf hls hj hok hfin hB hC
   have hj':j=D.items.size:=Nat.le_antisymm hj (List.drop_eq_nil_iff.mp hls)
   have hd:D.src≠it1:=fun q=>R.dis _ hsrc (gN q (Xv (f:=(·.1)) (aD (p:=(it1,o1)))))
   refine fF (wpAny_pyNext_enum_endD (D:=Draws.list (A:=(A.over (Ai F e1) [ig F Bd p1]).in1) hh it1 D.src hd D.items) (i:=(j:Int)+1) (R.get cG) (hj'▸⟨⟨o1,R.get aD,hi1.1,hi1.2⟩,⟨_,R.old hsrc,rfl,D.nn,rfl⟩⟩) fun h' hx=>?_)
   have R1:Lg F m (am D.sf D.dsf es n++[(e1,bf it1 ((j:Int)+1) old1)]) ot s₀ {s with heap:=h'}:=Lg.lose (t:=s.toks) R hx
   refine jS (gW (.ok .next) (mG (.ok (.ret .none)) (mW.fin m es n ot _ ?_ (R1.drop (List.sublist_append_left _ _)) hot)))
   exact(hfin.trans (Int.add_zero row))▸he
 |cons l ls ih =>
   intro j m ot s o1 old1 row es n hot hsrc R hi1 he hsf hls hj hok hfin hB hC
   have hlt:j<D.items.size:=Nat.lt_of_not_le fun h=>nomatch (List.drop_eq_nil_of_le (as:=D.items.toList) h).symm.trans hls
   have hg:=(List.drop_eq_getElem_cons (l:=D.items.toList) hlt).symm.trans hls
   have hv:D.items[j]?=some (lA l):=(Array.getElem?_eq_getElem hlt).trans (congrArg some (X9 hg).1)
   have hls':D.items.toList.drop (j+1)=ls.map lA:=(X9 hg).2
   refine fF (sn FO hh (hS▸TI) hi1 hsrc R hv fun v s' hw=>Xq hw (fun qq Un hw=>Xq hw (fun qq Uq hw=>?_) fun qq qq x=>x.elim) fun qq qq x=>x.elim)
   refine hw _ ?_;rintro o1' tk hi1' Uv
   have n1:("source_file" : Str) ≠ "line" := by decide +kernel
   have n2:("source_file" : Str) ≠ "row" := by decide +kernel
   have hsf':∀{u v x:WY},(if ("source_file" : Str) = "line" then some u else if ("source_file" : Str) = "line" then some v else if ("source_file" : Str) = "row" then some x else m "source_file")=some (.ref D.sf):=fun {u v x}=>(if_neg n1).trans ((if_neg n1).trans ((if_neg n2).trans hsf))
   rw[OM]
   refine cK (Ac FO hS Uv (x:=l.1) (t:=l.2) (if_pos rfl) (hok l (.head _)) fun t' Ut Uo=>⟨rfl,?_⟩)
   refine aw (xw (iter:=KY "line" _ _ _ _ _) (qS FO Uo (gn hS (by kernel_rfl)) (ln hS (by kernel_rfl)) (y:=⟨(g6 l.1.cps.toList 0).toArray⟩) (u:=t') (if_pos rfl) fun en it oi UB hoi hlt2 Ur hlt3=>?_) (fun x=>rfl))
   refine wpAny_pyIter_enum (Ur.get (p:=(en,bf it 1 .none)) (.head _)) fun p2=>?_
   have Uw:=Ur.perm (cs':=bt D.sf D.dsf es n it en oi 0 .none (eR it1 e1 o1' (j+1) (lA l))) ((XF).trans (((XF).cons _).trans (List.Perm.swap _ _ _)))
   have hBit:B<it:=hB.elim fun q h=>Xi h.2 ((Xt.mp h.1).elim (fun hq=>(eh hq).elim (fun e=>e▸hlt3 (it1,o1') (W7 _ aD)) fun hq=>hq.elim (fun e=>e▸hlt3 (e1,bf it1 (((j+1:Nat):Int)+1) (lA l)) (W7 _ cG)) fun hq=>hlt3 q (W7 _ (gf hq))) fun hq=>hlt3 q (W4 _ hq))
   have hCo:∀p∈am D.sf D.dsf es n++eR it1 e1 o1' (j+1) (lA l),p.1∈C₀\/B<p.1:=fun p hp=>(eh hp).elim (fun e=>e▸hC (it1,o1) aD) fun h=>h.elim (fun e=>e▸hC (e1,bf it1 ((j:Int)+1) old1) cG) fun h=>hC p (gf h)
   refine EF (i:=0) (x:=⟨(g6 l.1.cps.toList 0).toArray⟩) (t:=t') (old2:= .none) FO hS (ot0:=ot0) hot hA hlt2 Uw hoi hi1' he hsf' (Nat.zero_le _) hls' hlt (fun p hp=>hok p (.tail _ hp)) (hfin.trans (wx row ls)) ⟨(it,oi),W7 _ aD,Nat.le_of_lt hBit⟩
     (fun p hp=>(eh hp).elim (fun e=>e▸ .inr hBit) fun h=>h.elim (fun e=>e▸ .inr (Xx hBit hlt2)) fun h=>hCo p h) fun ot' es' n' s' hsub he' R' hB'=>?_
   exact ih (j+1) _ ot' s' o1' _ (row+1) es' n' (fun p hp=>hsub p (hot p hp)) (hsub _ hsrc) R' hi1' he' hsf' hls' hlt (fun p hp=>hok p (.tail _ hp)) (hfin.trans (wx row ls)) hB' fun p hp=>(eh (pre:=am D.sf D.dsf es' n') (r:=[]) hp).elim (fun e=>e▸hC (it1,o1) aD) fun h=>h.elim (fun e=>e▸hC (e1,bf it1 ((j:Int)+1) old1) cG) fun h=>Qs (C:=fun a=>a∈C₀\/B<a) es n es' n' (fun p hp=>hC p (W7 _ hp)) p (XY (am D.sf D.dsf es' n')▸h)
end
end
section
noncomputable def ii(w:Xj) (x:WY) (s:W2):Prop:=∀(A:Yc) (Q:Bool->W2->Prop) (E:WY->W2->Prop),Q false s->wpAny (model ae w) A (isInstance x (.type "StopIteration")) Q E s
noncomputable def EB(w:Xj) (gs:Xf) (UQ:Code) (UZ:Sem Fin) (U0:List Frame):Prop :=
 (gs= .fresh UQ/\UZ=(model ae w).den UQ/\U0=[])\/(∃Vx VL VM cl,gs= .suspended Vx VL UQ VM U0 cl/\UZ=Vx (.send .none))
noncomputable def hG(w:Xj) (g:Nat) (Q:Option WY->W2->Prop) (E:WY->W2->Prop) (e:End) (Un:W2):Prop :=
 (∃v lv k c p fs,e= .susp v false lv k c p fs/\Q (some v) (Un.setGen g e.genState)) \/
 (e= .ret (.ok (.ret .none))/\∀h',(∀b o,Un.heap.get? b=some o->h'.get? b=some o)->Q none {Un.setGen g .finished with heap:=h'}) \/
 (∃x,e= .ret (.error x)/\ii w x (Un.setGen g .finished)/\E x (Un.setGen g .finished))
section
theorem sm{g:Nat}{x:WY}{Q:Fin->W2->Prop} (hg:s.heap.IsGen a g) (hn:ii w x s) (h:E x s):wpAny (model ae w) A (Builtin.Generator.genLeft (.ref a) x) Q E s:=by
 obtain⟨o,nm,qn,ho,hc,hd,hsl⟩:=hg
 unfold Builtin.Generator.genLeft Builtin.Generator.madeByALambda
 refine W6 ?_
 refine W6 (wpAny_load ho (Xk ?_))
 refine W6 (hn _ _ _ ?_)
 rw[Bool.and_false,if_neg (by decide)]
 unfold Builtin.Generator.genEscaped
 refine W6 (hn _ _ _ ?_)
 rw[if_pos (by rfl)]
 refine W6 (wpAny_throw h)
theorem bA(hh:A.handled=none) (hl:s.heap.NoLimit) (hroom:A.depth<Xh) {g:Nat}{gs:Xf}{UQ:Code}{UZ:Sem Fin}{U0:List Frame}{Q:Option WY->W2->Prop} (hg:s.heap.IsGen a g) (hgs:s.gens[g]?=some gs) (hgo:EB w gs UQ UZ U0)
   (x:SegX (model ae w) A.in1 UQ UZ U0 (s.setGen g .running) (fun e Un=>Un.heap.IsGen a g/\hG w g Q E e Un)):wpAny (model ae w) A (pyNext (.ref a)) Q E s:=by
 unfold pyNext
 refine W6 (wpAny_attempt (wpAny_callSpecial?_slot (name:=W8 "__next__") hg.typeIs slot_gen_next
   (wpAny_call_entry slot_gen_next hg.typeIs entry_gen_next ?_ (args_gen_next _))))
 show wpAny _ _ (Builtin.Generator.genWake (.ref a) (.send .none)) _ _ s
 unfold Builtin.Generator.genWake
 refine W6 (wpAny_holding (wpAny_genNumber hg (W6 (wpAny_genState hgs ?_))))
 have hgs':(gs= .fresh UQ/\(Resume.send .none)= .send .none/\UZ=denote table UQ/\U0=[])\/(∃Vx VL VM cl,gs= .suspended Vx VL UQ VM U0 cl/\UZ=Vx (.send .none)):=by
   rcases hgo with⟨a,b,c⟩|h
   . exact .inl ⟨a,rfl,b,c⟩
   . exact .inr h
 have fin:∀(K:GenResult->Sem XA) Q' E',(∀e Un,Un.heap.IsGen a g/\hG w g Q E e Un->wpAny (model ae w) A.in1 (K e.result) Q' E' (Un.setGen g e.genState))->wpAny (model ae w) A.in1 (.resume g (.send .none) [] K) Q' E' s:=by
   intro K Q' E' h Γ p hΓ
   exact X.wake_any XA ae w hgs hgs' (fun Γ=>Γ.In A.in1) (fun qq h=>h) (x.mono fun e Un he Γ p hΓ=>h e Un he Γ p hΓ) Γ p hΓ
 rcases hgo with⟨rfl,qq⟩|⟨Vx,VL,VM,cl,rfl,qq⟩
 all_goals
   refine W6 (wpAny_roomToWake hl hroom ?_)
   refine fin _ _ _ fun e Un he=>?_
   obtain⟨Wv,he⟩:=he
   rcases he with⟨v,lv,k,c,p',fs,rfl,hq⟩|⟨rfl,hq⟩|⟨x,rfl,hn,hE⟩
   . exact Xk ⟨v,rfl,Xk hq⟩
   . show wpAny _ _ (newExc (.type "StopIteration") [] >>= _) _ _ _
     refine W6 ?_
     simp only[newExc,newTuple]
     refine W6 (wpAny_newObj_type ?_ (by size_fits))
     refine W6 (m:=firstArgMember _ _) (wpAny_of_eq (a:=Value.none) (by first|rfl|(simp only[firstArgMember];rfl)) ?_)
     refine wpAny_newObj_type ?_ (by size_fits)
     skip
     refine W6 (W6 (wpAny_handled ?_))
     rw[show A.in1.handled=none from hh]
     refine wpAny_throw ?_
     refine W6 (wpAny_isInstance (T := "StopIteration") (b:=true) ⟨_,Heap.get?_push_size _ rfl,rfl⟩ isSubtype_stop ?_)
     exact Xk (hq _ fun b o hb=>Xm _ (Xm _ hb))
   . show wpAny _ _ (Builtin.Generator.genLeft (.ref a) x) _ _ _
     refine sm Wv hn ?_
     refine W6 (hn _ _ _ ?_)
     rw[if_neg (by decide)]
     exact wpAny_throw hE
end
end
section
noncomputable def cQ(h:Heap) (a:W3):Prop:=∀b o,h.get? b=some o->b<a
theorem cQ.none(x:cQ h a):h.get? a=none:=by
 rcases q:h.get? a with qq|o
 . rfl
 . exact absurd (x a o q) (Nat.lt_irrefl _)
structure g7(I:List Nat) (s:W2) (cs:ad) (s':W2) (cs' new:ad):Prop where
 keep:∀b o,b∉a7 cs->s.heap.get? b=some o->s'.heap.get? b=some o
 got:∀p∈cs'++new,s'.heap.get? p.1=some p.2
 frm:∀p∈cs',p.1∈a7 cs\/cQ s.heap p.1
 frn:∀p∈new,cQ s.heap p.1
 nd:(a7 (cs'++new)).Nodup
 size:s'.gens.size=s.gens.size
 gens:∀i,i∉I->s'.gens[i]?=s.gens[i]?
 bare:AllBare s.gens->AllBare s'.gens
 os:s'.os=s.os
 dr:s'.drawn=s.drawn
structure GP extends G0 where
 H:Heap
 L0:W3
 i0:Nat
 ga0:W3
 os:OsState
 dr:Drawn
noncomputable abbrev F0(P:W1) (G:GP):Fm:=fk {} G.H (ah P 314).qualname (ah P 314).scope G.L0 314 (ah P 314).code G.os G.dr
inductive de(w:Xj) (G:GP):ad->Array Xf->List Ch->Prop
 |fresh (g:Array Xf) (oL:Obj) (m:Str->Option WY) (es:List XH) (n:Nat) (ls:List (Str×Tok)):fL m oL->m "f" = some (.ref G.src)->m "source_file" = some (.ref G.sf)->be es 1->G.items.toList=ls.map lA->(∀p∈ls,fT p.1)->G.fin=1+(ls.length:Int) ->
     g[G.i0]?=some (.fresh (.func (ay (ah w.params 314)) (F0 w.params G).env))->de w G ((G.L0,oL)::am G.sf G.dsf es n) g (bu 1 (ls.map (·.1)))
 |sus (g:Array Xf) (oL:Obj) (m:Str->Option WY) (cs':ad) (k:Resume->Sem XA) (lv:List WY) (p:Pos) (code:Code) (fs:List Frame) (str:List Ch):fL m oL->H7 (F0 w.params G) G.toG0 m cs' str code fs->jO w code fs k->g[G.i0]?=some (.suspended k lv code p fs false)->de w G ((G.L0,oL)::cs') g str
structure l7(w:Xj) (H:Heap) (L:W3) (s:W2) (cs:ad):Prop where
 glo:Ab w H
 st:∀b o,H.get? b=some o->s.heap.get? b=some o
 ab:H.objs.size<=L
 cells:∀p∈cs,s.heap.get? p.1=some p.2/\H.get? p.1=none
 nd:(a7 cs).Nodup
theorem H7.guard{D:G0}{c:Code} (h:H7 F D m cs rest c fs):fs.any Frame.guarded=false/\c.quiet=true:=by
 cases h
 exact⟨rfl,rfl⟩
theorem bB(h:e7 sc=true):sc.isCoroutine=false/\sc.isGenerator=true/\sc.kind= .function/\∀x∈sc.names,x.2≠ .cell :=
 ⟨dq (af (af (af h))),ai (af (af h)),eq_of_beq (ai (af h)),fun x hx=>by simpa using X7.mp (ai h) x hx⟩
section
variable {H:Heap}{q:Str}{os:OsState}{dr:Drawn}
theorem kb(Z:l7 w H L s ((L,oL)::cs)) (hm:fL m oL) (i:Nat) (gs:Xf) :
   Lg (fk {} H q sc L a cd os dr) m cs (aR s.heap H (L::a7 cs)) (s.setGen i gs) (s.setGen i gs):=by
 have nd:=Z.nd
 simp only[a7,List.map_cons,XD] at nd
 refine⟨vj (s:=s.setGen i gs) (Z.cells _ (.head _)).1 hm Z.st Z.ab fun p hp=>⟨(Z.cells p (.tail _ hp)).1,fun q=>nd.1 (q▸Xv hp),(Z.cells p (.tail _ hp)).2⟩,nd.2,fun p hp hc=>?_⟩
 exact(bq.mp hp).2.1 (.tail _ hc)
theorem k9{cs' ot':ad}{sx:W2} (Z:l7 w H L s ((L,oL)::cs)) (hLB:L<=B) (hB:∀q∈cs++aR s.heap H (L::a7 cs),q.1<=B)
   (R:Lg (fk {} H q sc L a cd os dr) m' cs' ot' sx Un) (hot:∀p∈aR s.heap H (L::a7 cs),p∈ot') (hnew:∀p∈new,p∈ot'/\B<p.1) (hnd:(a7 new).Nodup) (hcs:∀p∈cs',p.1∈a7 cs\/B<p.1)
   {I:List Nat} (hi:i∈I) (hsz:Un.gens.size=s.gens.size) (hg:∀j,j∉I->Un.gens[j]?=s.gens[j]?) (hbare:AllBare s.gens->AllBare Un.gens) (hos:Un.os=s.os) (hdr:Un.drawn=s.drawn) (gs':Xf) (hb:gs'.bare=true) :
   ∃oL',Un.heap.get? L=some oL'/\fL m' oL'/\g7 I s ((L,oL)::cs) (Un.setGen i gs') ((L,oL')::cs') new:=by
 obtain⟨oL',hL,hN⟩:=iG R.raw.fr.ns
 have fresh:∀a:W3,B<a->cQ s.heap a:=fun a h3 b o q=>by
   refine Xi ?_ h3
   by_cases h1:b=L
   . rw[h1];exact hLB
   . rcases h2:H.get? b with qq|o'
     ·
       by_cases hm:b∈a7 cs
       . obtain⟨p,hp,e⟩:=Xp.mp hm
         have:=hB p (W7 _ hp)
         rw[e] at this
         exact this
       . exact hB (b,o) (W4 _ (bq.mpr ⟨q,fun hx=>by rcases Xb.mp hx with e|hx;exact h1 e;exact hm hx,h2⟩))
     . exact WZ (Nat.le_of_lt (XT (XQ h2) Z.ab)) hLB
 refine⟨oL',hL,hN,?_⟩
 refine {keep:=fun b o hb e=>?_,got:=fun p hp=>?_,frm:=fun p hp=>?_,frn:=fun p hp=>?_,nd:=?_,size:=?_,gens:=fun j hj=>?_,bare:=fun h=>?_,os:=hos,dr:=hdr}
 . show Un.heap.get? b=some o
   rcases q:H.get? b with qq|o'
   . exact R.old (p:=(b,o)) (hot (b,o) (bq.mpr ⟨e,hb,q⟩))
   ·
     have e':=Z.st b o' q
     rw[e] at e'
     cases e'
     exact R.raw.fr.keep b o q
 . show Un.heap.get? p.1=some p.2
   rcases Xt.mp hp with hp|hp
   . rcases Xb.mp hp with rfl|hp
     . exact hL
     . exact R.get hp
   . exact R.old (hnew p hp).1
 . rcases Xb.mp hp with rfl|hp
   . exact .inl (.head _)
   . rcases hcs p hp with h|h
     . exact .inl (.tail _ h)
     . exact .inr (fresh _ h)
 . exact fresh _ (hnew p hp).2
 . show(List.map (·.1) ((L,oL')::cs'++new)).Nodup
   rw[XM]
   refine List.nodup_append.mpr ⟨?_,hnd,fun a ha b hb e=>?_⟩
   . refine XD.mpr ⟨fun hm=>?_,R.nd⟩
     obtain⟨p,hp,e⟩:=Xp.mp hm
     exact(R.raw.nw p (W7 _ hp)).2.1 e
   . obtain⟨q,hq,rfl⟩:=Xp.mp hb
     rcases Xb.mp ha with h|ha
     . exact(R.raw.nw q (W4 _ (hnew q hq).1)).2.1 (e.symm.trans h)
     . exact R.dis q (hnew q hq).1 (e▸ha)
 . show(Un.gens.setIfInBounds _ _).size=_
   rw[Array.size_setIfInBounds]
   exact hsz
 . have hne:i≠j:=fun q=>hj (q▸hi)
   show(Un.gens.setIfInBounds _ _)[j]?=_
   rw[Yb hne]
   exact hg j hj
 . intro y hy
   have hy':y∈(Un.gens.setIfInBounds i gs'):=hy
   rcases Array.mem_iff_getElem?.mp hy' with⟨k,hk⟩
   by_cases e:i=k
   . subst e
     rw[Array.getElem?_setIfInBounds_self] at hk
     split at hk
     . cases hk;exact hb
     . cases hk
   . rw[Yb e] at hk
     exact hbare h y (Array.mem_of_getElem? hk)
theorem fj{gs:Xf} (hb:gs.bare=true):(s.setGen i gs).gens.size=s.gens.size/\(∀j,j≠i->(s.setGen i gs).gens[j]?=s.gens[j]?)/\(AllBare s.gens->AllBare (s.setGen i gs).gens):=by
 refine⟨Array.size_setIfInBounds,fun j hj=>Yb (Ne.symm hj),fun h y hy=>?_⟩
 have hy':y∈(s.gens.setIfInBounds i gs):=hy
 rcases Array.mem_iff_getElem?.mp hy' with⟨k,hk⟩
 by_cases e:i=k
 . subst e
   rw[Array.getElem?_setIfInBounds_self] at hk
   split at hk
   . cases hk;exact hb
   . cases hk
 . rw[Yb e] at hk
   exact h y (Array.mem_of_getElem? hk)
end
end
section
structure qL(w:Xj) (G:GP) (s:W2) (cs:ad):Prop where
 Z:l7 w G.H G.L0 s cs
 src:s.heap.get? G.src=some (W0 G.items G.nn)
 srcn:G.src∉a7 cs/\G.H.get? G.src=none/\G.src≠G.L0
 gen:s.heap.IsGen G.ga0 G.i0
 genn:G.ga0∉a7 cs/\G.H.get? G.ga0=none/\G.L0<G.ga0
theorem IsGen.of_keep{g:Nat} (x:h.IsGen a g) (k:∀o,h.get? a=some o->h'.get? a=some o):h'.IsGen a g:=by
 obtain⟨o,nm,qn,ho,r⟩:=x
 exact⟨o,nm,qn,k o ho,r⟩
noncomputable def DV(w:Xj) (G:GP) (s:W2) (cs:ad) (Q:Option WY->W2->Prop):List Ch->Prop
 |[]=>∀s' oL' es n,g7 [G.i0] s cs s' ((G.L0,oL')::am G.sf G.dsf es n) []->be es G.fin->Q none s'
 |c::rest=>∀a new cs' s',bS new c a->de w G cs' s'.gens rest->g7 [G.i0] s cs s' cs' new->Q (some (.ref a)) s'
theorem fu{l:List W3} (h1:sf∈l) (h2:dsf∈l):∀p∈am sf dsf es n,p.1∈l:=fun qq hp=>(Xb.mp hp).elim (fun e=>e▸h1) fun hp=>(Xe.mp hp)▸h2
section
variable {G:GP}
theorem wv(S0:qL w G s ((G.L0,oL)::cs)) (hB:∀q∈cs++aR s.heap G.H (G.L0::a7 cs),q.1<=B) {Q:Option WY->W2->Prop}
   (h:DV w G s ((G.L0,oL)::cs) Q str) (hi0:G.i0<s.gens.size) (hsf:∀es n p,p∈am G.sf G.dsf es n->p.1∈a7 cs)
   {e:End} (r:mW w (F0 w.params G) G.toG0 B (a7 cs) (aR s.heap G.H (G.L0::a7 cs)) (s.setGen G.i0 .running) str e Un):Un.heap.IsGen G.ga0 G.i0/\hG w G.i0 Q E e Un:=by
 obtain⟨f1,f2,f3⟩:=fj (s:=s) (i:=G.i0) (gs:= .running) rfl
 have hLB:G.L0<=B:=by
   obtain⟨o,nm,qn,ho,qq⟩:=S0.gen
   have hx:G.ga0∉G.L0::a7 cs:=S0.genn.1
   exact WZ (Nat.le_of_lt S0.genn.2.2) (hB (G.ga0,o) (W4 _ (bq.mpr ⟨ho,hx,S0.genn.2.1⟩)))
 cases r with
 |fin m' es' n' ot' _ he R hot =>
   obtain⟨oL',hL,hN,st⟩:=k9 (new:=[]) (I:=[G.i0]) S0.Z hLB hB R hot (fun qq h=>nomatch h) .nil (fun p hp=> .inl (hsf _ _ _ hp)) (List.mem_singleton_self _) (by rw[R.raw.gens];exact f1) (fun j hj=>by rw[R.raw.gens];exact f2 j fun q=>hj (q▸List.mem_singleton_self _)) (fun hb=>by rw[R.raw.gens];exact f3 hb) R.raw.os R.raw.dr .finished rfl
   refine⟨IsGen.of_keep S0.gen fun o ho=>st.keep _ o S0.genn.1 ho,.inr (.inl ⟨rfl,fun h' hk=>?_⟩)⟩
   refine h _ oL' es' n' {st with keep:=fun b o hb e=>hk b o (st.keep b o hb e),got:=fun p hp=>hk _ _ (st.got p hp)} he
 |chr c rest a new cs' ot' m' k lv p code fs _ hres hchr hnB hnd hno hot R hcs hin =>
   obtain⟨g1,g2⟩:=hin.guard
   have hgs:End.genState (.susp (.ref a) false lv k code p fs)= .suspended k lv code p fs false:=by
     show GenState.suspended k lv code p fs (false || fs.any Frame.guarded)=_
     rw[g1];rfl
   obtain⟨oL',hL,hN,st⟩:=k9 (new:=new) (I:=[G.i0]) S0.Z hLB hB R hot (fun p hp=>⟨hno p hp,hnB p hp⟩) hnd hcs (List.mem_singleton_self _) (by rw[R.raw.gens];exact f1) (fun j hj=>by rw[R.raw.gens];exact f2 j fun q=>hj (q▸List.mem_singleton_self _)) (fun hb=>by rw[R.raw.gens];exact f3 hb) R.raw.os R.raw.dr (.suspended k lv code p fs false) rfl
   refine⟨IsGen.of_keep S0.gen fun o ho=>st.keep _ o S0.genn.1 ho,.inl ⟨_,lv,k,code,p,fs,rfl,?_⟩⟩
   rw[hgs]
   refine h a new _ _ hchr (.sus _ oL' m' cs' k lv p code fs rest hN hin hres ?_) st
   show(Un.gens.setIfInBounds _ _)[_]?=_
   rw[R.raw.gens]
   exact Array.getElem?_setIfInBounds_self_of_lt (by rw[f1];exact hi0)
theorem Ep(hh:A.handled=none) (hd:A.depth<=940) (S0:qL w G s cs) (T:de w G cs s.gens str) {Q:Option WY->W2->Prop}
   (h:DV w G s cs Q str):wpAny (model ae w) A (pyNext (.ref G.ga0)) Q E s:=by
 have hl:s.heap.NoLimit:=S0.Z.glo.lim.keeps S0.Z.st
 have hroom:A.depth<Xh:=Xi hd (by decide)
 have hA:pZ A.in1:=⟨hh,WZ hd (by decide)⟩
 have FO:aa w (F0 w.params G):=ui S0.Z.glo (bB (D6 w.params)).2.2.1
 have hS:(F0 w.params G).sc=Mine.S0 314:=P7 w.params
 cases T with
 |fresh _ oL m es n ls hm hf hsf he hit hok hfin hg =>
   have Vy:=kb (q:=(ah w.params 314).qualname) (sc:=(ah w.params 314).scope) (a:=314) (cd:=(ah w.params 314).code) (os:=G.os) (dr:=G.dr) S0.Z hm G.i0 .running
   obtain⟨B,hB,hT⟩:=fH (am G.sf G.dsf es n++aR s.heap G.H (G.L0::a7 (am G.sf G.dsf es n))) (fun h=>nomatch h)
   have hsrc:(G.src,W0 G.items G.nn)∈aR s.heap G.H (G.L0::a7 (am G.sf G.dsf es n)):=bq.mpr ⟨S0.src,S0.srcn.1,S0.srcn.2.1⟩
   refine bA hh hl hroom S0.gen hg (.inl ⟨rfl,rfl,rfl⟩) ((?_:SegX _ _ _ _ _ _ (mW w (F0 w.params G) G.toG0 B (a7 (am G.sf G.dsf es n)) (aR s.heap G.H (G.L0::a7 (am G.sf G.dsf es n))) (s.setGen G.i0 .running) (bu 1 (ls.map (·.1))))).mono fun e Un r=>wv S0 hB h (XJ.mp hg).1 (fun es' n'=>fu (.head _) (.tail _ (.head _))) r)
   rw[QQ,QI]
   refine nI (aw (xw (iter:=KY "f" _ _ _ _ _) (sD FO Vy (gn hS (by kernel_rfl)) (ln hS (by kernel_rfl)) hf ⟨_,Vy.old hsrc,rfl,G.nn,rfl⟩ fun en it1 oi Uq hoi hlt Uv hlow=>?_) (fun x=>rfl)))
   refine wpAny_pyIter_enum (Uv.get (p:=(en,bf it1 1 .none)) (.head _)) fun p1=>?_
   have Uo:=Uv.perm (cs':=am G.sf G.dsf es n++eR it1 en oi 0 .none) (List.perm_append_comm.trans (List.Perm.swap _ _ _))
   have hBit:B<it1:=hT.lt hlow
   refine Ag FO hS (ot0:=aR s.heap G.H (G.L0::a7 (am G.sf G.dsf es n))) (C₀:=a7 (am G.sf G.dsf es n)) hA ls 0 m _ Uq oi .none 1 es n (fun qq h=>h) hsrc Uo hoi he hsf hit (Nat.zero_le _) hok hfin (hT.mono fun p hp=>(Xt.mp hp).elim (fun hp=>W7 _ (W7 _ hp)) fun hp=>W4 _ hp) ?_
   exact fun p hp=>(Xt.mp hp).elim (fun hp=> .inl (Xv hp)) fun hp=>(Xb.mp hp).elim (fun e=>e▸ .inr hBit) fun hp=>(Xe.mp hp)▸ .inr (Xx hBit hlt)
 |sus _ oL m cs' k lv p code fs str hm hin hres hg =>
   have Vy:=kb (q:=(ah w.params 314).qualname) (sc:=(ah w.params 314).scope) (a:=314) (cd:=(ah w.params 314).code) (os:=G.os) (dr:=G.dr) S0.Z hm G.i0 .running
   cases hin with
   |mk e1 it1 e2 it2 o1 o2 old1 old2 i j x t row es n p1 p2 Bd ls hie hi2 hi1 he hsf hix hls hj hok hfin =>
   obtain⟨B,hB,hT⟩:=fH (bt G.sf G.dsf es n it2 e2 o2 i old2 (eR it1 e1 o1 j old1)++aR s.heap G.H (G.L0::a7 (bt G.sf G.dsf es n it2 e2 o2 i old2 (eR it1 e1 o1 j old1)))) (fun h=>nomatch h)
   have hsrc:(G.src,W0 G.items G.nn)∈aR s.heap G.H (G.L0::a7 (bt G.sf G.dsf es n it2 e2 o2 i old2 (eR it1 e1 o1 j old1))):=bq.mpr ⟨S0.src,S0.srcn.1,S0.srcn.2.1⟩
   refine bA hh hl hroom S0.gen hg (.inr ⟨k,lv,p,false,rfl,rfl⟩) ((?_:SegX _ _ _ _ _ _ (mW w (F0 w.params G) G.toG0 B (a7 (bt G.sf G.dsf es n it2 e2 o2 i old2 (eR it1 e1 o1 j old1))) (aR s.heap G.H (G.L0::a7 (bt G.sf G.dsf es n it2 e2 o2 i old2 (eR it1 e1 o1 j old1)))) (s.setGen G.i0 .running) _)).mono fun e Un r=>wv S0 hB h (XJ.mp hg).1 (fun es' n'=>fu (.head _) (.tail _ (.head _))) r)
   refine hres _ _ _ (bM rfl ?_)
   refine EF FO hS (fun qq h=>h) hA hie Vy hi2 hi1 he hsf hix hls hj hok hfin hT (fun p hp=> .inl (Xv hp)) fun ot' es' n' s' hsub he' R' hB'=>?_
   exact Ag FO hS hA ls j m ot' s' o1 old1 (row+1) es' n' hsub (hsub _ hsrc) R' hi1 he' hsf hls hj hok hfin hB' fun p hp=> .inl ((eh (pre:=am G.sf G.dsf es' n') (r:=[]) hp).elim (fun e=>e▸(.tail _ (.tail _ (.tail _ (.tail _ (.head _)))):it1∈a7 (bt G.sf G.dsf es n it2 e2 o2 i old2 (eR it1 e1 o1 j old1)))) fun h=>h.elim (fun e=>e▸(.tail _ (.tail _ (.tail _ (.tail _ (.tail _ (.head _))))):e1∈a7 (bt G.sf G.dsf es n it2 e2 o2 i old2 (eR it1 e1 o1 j old1)))) fun h=>fu (.head _) (.tail _ (.head _)) p (XY (am G.sf G.dsf es' n')▸h))
end
end
section
section
variable {c:Code}{P:End->W2->Prop}{env:Env}{K:Flow->Sem XA}{H:WY->Sem XA}
theorem BF{test:W5}
   (h:wpAny M (A.over c fs) (isTrue test env (eval test env)) (fun b s'=>SegX M A c ((execs (if b=true then body else orelse) env).wrap K H id id) fs s' P) (fun x s'=>SegX M A c (H x) fs s' P) s) :
   SegX M A c ((exec (.If test body orelse pos) env).wrap K H id id) fs s P:=by
 rw[exec_If]
 show SegX M A c (.at pos fun qq=>(isTrue test env (eval test env) >>= fun b=>if b=true then execs body env else execs orelse env).wrap K H id id) fs s P
 refine lO ?_
 rw[XU,X6]
 refine bX (Xq h (fun b s' hb=>?_) fun qq qq x=>x)
 cases b<;>exact hb
end
structure Qt(I:List Nat) (s s':W2):Prop where
 size:s'.gens.size=s.gens.size
 gens:∀i,i∉I->s'.gens[i]?=s.gens[i]?
 bare:AllBare s.gens->AllBare s'.gens
 os:s'.os=s.os
 dr:s'.drawn=s.drawn
theorem Qt.trans{I:List Nat}{a b c:W2} (x:Qt I a b) (y:Qt I b c):Qt I a c:=⟨y.size.trans x.size,fun i hi=>(y.gens i hi).trans (x.gens i hi),fun h=>y.bare (x.bare h),y.os.trans x.os,y.dr.trans x.dr⟩
theorem Qt.refl(I:List Nat) (s:W2):Qt I s s:=⟨rfl,fun qq qq=>rfl,fun h=>h,rfl,rfl⟩
theorem Qt.mono{I J:List Nat}{a b:W2} (x:Qt I a b) (h:∀i∈I,i∈J):Qt J a b:=⟨x.size,fun i hi=>x.gens i fun q=>hi (h i q),x.bare,x.os,x.dr⟩
theorem g7.qt{I:List Nat}{cs':ad} (x:g7 I s cs s' cs' new):Qt I s s':=⟨x.size,x.gens,x.bare,x.os,x.dr⟩
theorem aO.qt{news:ad}{a b:W2} (R:aO F m news a b) (I:List Nat):Qt I a b:=⟨by rw[R.gens],fun i qq=>by rw[R.gens],fun h=>by rw[R.gens];exact h,R.os,R.dr⟩
section
variable {sx:W2}
theorem Lg.rebase(R:Lg F m cs ot sx s):Lg F m cs ot s s:=⟨⟨R.raw.fr,R.raw.nw,rfl,rfl,rfl⟩,R.nd,R.dis⟩
theorem Lg.step(R:Lg F m cs ot sx s) {I:List Nat}{cs':ad} (st:g7 I s cs s' cs' new):Lg F m cs' (new++ot) s' s':=by
 obtain⟨oL,es,ep,a,r⟩:=R.raw.fr.ns
 have far:∀x:W3,x∈a7 cs->x≠F.L/\F.Up.get? x=none:=fun x hx=>(Xp.mp hx).elim fun p hp=>hp.2▸(R.raw.nw p (W7 _ hp.1)).2
 have up:∀x:W3,cQ s.heap x->x≠F.L/\F.Up.get? x=none:=fun x hx =>
   ⟨fun q=>Nat.lt_irrefl _ (q▸hx F.L oL a),cQ.none (fun b o e=>hx b o e) |> fun qq=>(Option.eq_none_iff_forall_ne_some.mpr fun o q=>Nat.lt_irrefl _ (hx x o (R.raw.fr.keep _ _ q)))⟩
 have nd:=List.nodup_append.mp ((XM (f:=(·.1)) (l₁:=cs') (l₂:=new))▸st.nd:(cs'.map (·.1)++new.map (·.1)).Nodup)
 exact⟨⟨⟨⟨oL,es,ep,st.keep _ _ (fun hm=>(far _ hm).1 rfl) a,r⟩,fun b o e=>st.keep _ o (fun hm=>bN ((far _ hm).2.symm.trans e)) (R.raw.fr.keep b o e),R.raw.fr.above⟩,
   fun p hp=>(Xt.mp hp).elim (fun hp=>⟨st.got p (W7 _ hp),(st.frm p hp).elim (far _) (up _)⟩) fun hp=>(Xt.mp hp).elim (fun hp=>⟨st.got p (W4 _ hp),up _ (st.frn p hp)⟩) fun hp=>⟨st.keep _ _ (R.dis p hp) (R.old hp),(R.raw.nw p (W4 _ hp)).2⟩,rfl,rfl,rfl⟩,
   nd.1,fun p hp hm=>(Xt.mp hp).elim (fun hp=>nd.2.2 p.1 hm p.1 (Xv hp) rfl) fun hp=>(Xp.mp hm).elim fun q hq=>(st.frm q hq.1).elim (fun h=>R.dis p hp (hq.2▸h)) fun h=>Nat.lt_irrefl _ ((congrArg (p.1< ·) hq.2).mp (h _ _ (R.old hp)))⟩
theorem th{news:ad} (FO:aa w F) (R:aO F m news s₀ s) (hl:∀p∈l,p∈news) {c:Ch} (hc:bS l c a) (h:∀t,Q (.str ⟨#[c.c]⟩ t) {s with toks:=s.toks+1}) :
   wpAny (model ae w) A (getAttr (.ref a) (AN 5) true) Q E s:=by
 refine hc _ ?_;rintro d es n l' t h1 h2 h3 h4 h5
 have I:Xr s.heap a (Xu 183 d) 183 (some (Xc es n)):=⟨(R.nw _ (hl _ h1)).1,rfl,rfl,(R.nw _ (hl _ h2)).1⟩
 exact get_own R.fr FO.G.X I (Pa _ _) (A7 _) (Hl _) rfl h3 rfl (h t)
theorem lI{news:ad} (FO:aa w F) (R:aO F m news s₀ s) {Q:Bool->W2->Prop} (hl:∀p∈l,p∈news) {c:Ch} (hc:bS l c a) (h:Q true s) :
   wpAny (model ae w) A (truthy (.ref a)) Q E s:=by
 refine hc _ ?_;rintro d es n l' t h1 h2 h3 h4 h5
 have I:Xr s.heap a (Xu 183 d) 183 (some (Xc es n)):=⟨(R.nw _ (hl _ h1)).1,rfl,rfl,(R.nw _ (hl _ h2)).1⟩
 exact truthy_K0 R.fr FO.G.X I (MI _) (J9 _) h
end
noncomputable def Pu:Stmt:=cP (B0 328).tail
noncomputable def O4:List Stmt:=(eO Pu).2.1
noncomputable def ST:W5:=eJ Pu
noncomputable def MS:Stmt:=cP O4
noncomputable def HZ:Stmt:=cP (eO MS).2.1
noncomputable def Cd:Stmt:=cP (eO MS).2.1.tail
noncomputable def Ll:Stmt:=cP (eO MS).2.2.1
noncomputable def O6:List Stmt:=(eO HZ).2.2.1.tail
theorem Rj(P:W1):ay (ah P 328)=B0 328:=by kernel_rfl
theorem LD(P:W1):(ah P 328).scope=S0 328:=by kernel_rfl
theorem Ry:B0 328=[cP (B0 328),Pu]:=by kernel_rfl
theorem z8(P:W1):e7 (ah P 328).scope=true:=by kernel_rfl
theorem GI(P:W1):aA (ah P 328).scope ["characters"]=true:=by kernel_rfl
end
section
noncomputable def bc:Option Ch->List Ch->List Ch
 |_,[]=>[]
 |none,c::r=>if c.c=92 then bc (some c) r else c::bc none r
 |some b,c::r=>if c.c=13\/c.c=10 then bc none r else b::c::bc none r
structure eu extends GP where
 L1:W3
 i1:Nat
 ga1:W3
noncomputable abbrev F1(P:W1) (G:eu):Fm:=fk {} G.H (ah P 328).qualname (ah P 328).scope G.L1 328 (ah P 328).code G.os G.dr
noncomputable abbrev tc(F:Fm) (ga:W3):Code:= .forLoop ST (.ref ga) O4 [] F.env
noncomputable abbrev Kl(F:Fm) (ga:W3):Flow->Sem XA:=jG [] F.env (jz (tc F ga)) (aK F.env)
noncomputable abbrev Kt(F:Fm) (ga:W3):Flow->Sem XA:=jG [Cd] F.env (Kl F ga) (aK F.env)
noncomputable def TB(F:Fm) (ga:W3):Sem XA:=(execs O6 F.env).wrap (Kt F ga) (aK F.env) id id
noncomputable def TC(F:Fm) (ga:W3):Sem XA:=(execs [Cd] F.env).wrap (Kl F ga) (aK F.env) id id
noncomputable def lF(w:Xj) (code:Code) (fs:List Frame) (k:Resume->Sem XA) (T:Sem XA):Prop :=
 ∀A' s'' P',SegX (model ae w) A' code T fs s'' P'->SegX (model ae w) A' code (k (.send .none)) fs s'' P'
noncomputable def zf(m:Str->Option WY):Prop:=m "backslash" = some .none\/m "backslash" = some (.bool false)
inductive EQ(l:ad) (m:Str->Option WY):Option Ch->Prop
 |no:zf m->EQ l m none
 |at(b:Ch) (a:W3):m "backslash" = some (.ref a)->bS l b a->EQ l m (some b)
inductive wq(w:Xj) (F:Fm) (ga:W3) (fz:ad) (m:Str->Option WY):Code->List Frame->(Resume->Sem XA)->List Ch->List Ch->Prop
 |go (Bd:List Stmt) (p1:Pos) (k:Resume->Sem XA) (str0:List Ch):lF w (tc F ga) [ig F Bd p1] k (.pure (.again (tc F ga)))->zf m->wq w F ga fz m (tc F ga) [ig F Bd p1] k str0 (bc none str0)
 |two (Bd:List Stmt) (p1:Pos) (k:Resume->Sem XA) (str0:List Ch) (ch:Ch) (x:W3):lF w (tc F ga) [ig F Bd p1] k (TB F ga)->m "char" = some (.ref x)->bS fz ch x->wq w F ga fz m (tc F ga) [ig F Bd p1] k str0 (ch::bc none str0)
 |off (Bd:List Stmt) (p1:Pos) (k:Resume->Sem XA) (str0:List Ch):lF w (tc F ga) [ig F Bd p1] k (TC F ga)->wq w F ga fz m (tc F ga) [ig F Bd p1] k str0 (bc none str0)
structure vT(I:List Nat) (s₀:W2) (C₀:List W3) (ot0 nw cs ot:ad) (s:W2):Prop where
 sub:∀p∈ot0,p∈ot
 fresh:∀p∈nw,p∈ot/\cQ s₀.heap p.1
 nd:(a7 nw).Nodup
 cells:∀p∈cs,p.1∈C₀\/cQ s₀.heap p.1
 qt:Qt I s₀ s
inductive vw(w:Xj) (G:eu) (fz:ad) (s₀:W2) (C₀:List W3) (ot0:ad):List Ch->End->W2->Prop
 |fin (m':Str->Option WY) (cs' ot' nw:ad) (es:List XH) (n:Nat) (s':W2):Lg (F1 w.params G) m' cs' ot' s' s'->(G.dsf,Xc es n)∈cs'->be es G.fin->(G.sf,Xu 303 G.dsf)∈cs'->vT [G.i0,G.i1] s₀ C₀ ot0 nw cs' ot' s'->vw w G fz s₀ C₀ ot0 [] (.ret (.ok (.ret .none))) s'
 |chr (c:Ch) (rest:List Ch) (a:W3) (nw cs' ot':ad) (m':Str->Option WY) (k:Resume->Sem XA) (lv:List WY) (p:Pos) (code:Code) (fs:List Frame) (str0:List Ch) (s':W2):bS (nw++fz) c a->Lg (F1 w.params G) m' cs' ot' s' s'->de w G.toGP cs' s'.gens str0 ->
     vT [G.i0,G.i1] s₀ C₀ ot0 nw cs' ot' s'->wq w (F1 w.params G) G.ga0 (nw++fz) m' code fs k str0 rest->vw w G fz s₀ C₀ ot0 (c::rest) (.susp (.ref a) false lv k code p fs) s'
structure oP(G:eu) (ot:ad):Prop where
 ab:G.H.objs.size<=G.L0
 src:(G.src,W0 G.items G.nn)∈ot
 srcL:G.src≠G.L0
 gen:∃o nm qn,(G.ga0,o)∈ot/\o.cls= .type "generator" /\ o.data= .fields #[.int G.i0 0,nm,qn]/\o.slots= #[]
 lt:G.L0<G.ga0
theorem oP.mono{G:eu}{ot':ad} (h:oP G ot) (k:∀p∈ot,p∈ot'):oP G ot':=⟨h.ab,k _ h.src,h.srcL,let⟨o,a,b,c,d⟩:=h.gen;⟨o,a,b,k _ c,d⟩,h.lt⟩
section
variable {G:eu}{sx:W2}
theorem jl(Gl:Ab w G.H) (Z:oP G ot) (R:Lg (F1 w.params G) m cs ot sx s):qL w G.toGP s cs:=by
 obtain⟨o,nm,qn,ho,h1,h2,h3⟩:=Z.gen
 refine⟨⟨Gl,R.raw.fr.keep,Z.ab,fun p hp=>⟨R.get hp,(R.raw.nw p (W7 _ hp)).2.2⟩,R.nd⟩,R.old Z.src,⟨R.dis _ Z.src,(R.raw.nw _ (W4 _ Z.src)).2.2,Z.srcL⟩,
   ⟨o,nm,qn,R.old (p:=(G.ga0,o)) ho,h1,h2,h3⟩,R.dis _ ho,(R.raw.nw _ (W4 _ ho)).2.2,Z.lt⟩
end
end
variable {G:eu}
section
theorem Lm:(S0 328).isCoroutine=false:=by kernel_rfl
theorem Qr:O4=[.If (.Name "backslash" (aj (bj MS))) [HZ,Cd] [Ll] (ci MS)]:=by kernel_rfl
theorem tE(c:Nat):ck c "\r\n" = true↔c=13\/c=10:=by
 unfold ck
 rw[List.elem_iff]
 have e:(("\r\n" : Str)).cps.toList=[13,10]:=by kernel_rfl
 rw[e]
 simp
theorem wB(c:Nat):bU ⟨#[c]⟩ "\\" = true↔c=92:=by
 unfold bU
 have e:(("\\" : Str)).cps.toList=[92]:=by kernel_rfl
 rw[e,beq_iff_eq]
 simp
section
variable {sx:W2}
theorem vT.to{I:List Nat}{C₀:List W3}{ot0 nw:ad} (a:vT I s₀ C₀ ot0 nw cs ot s) (q:Qt I s s'):vT I s₀ C₀ ot0 nw cs ot s':=⟨a.sub,a.fresh,a.nd,a.cells,a.qt.trans q⟩
theorem vT.step{C₀:List W3}{ot0 nw:ad} (a:vT [G.i0,G.i1] s₀ C₀ ot0 nw cs ot s) (R:Lg (F1 w.params G) m cs ot sx s) {b:W3} (hb:s.heap.get? b=some o) (hab:∀a,b<a->cQ s₀.heap a) {cs':ad} (st:g7 [G.i0] s cs s' cs' new) :
   vT [G.i0,G.i1] s₀ C₀ ot0 (new++nw) cs' (new++ot) s':=by
 have up:∀x:W3,cQ s.heap x->cQ s₀.heap x:=fun x hx=>hab x (hx b o hb)
 have nd:=List.nodup_append.mp ((XM (f:=(·.1)) (l₁:=cs') (l₂:=new))▸st.nd:(cs'.map (·.1)++new.map (·.1)).Nodup)
 exact⟨fun p hp=>W4 _ (a.sub p hp),fun p hp=>(Xt.mp hp).elim (fun hp=>⟨W7 _ hp,up _ (st.frn p hp)⟩) fun hp=>⟨W4 _ (a.fresh p hp).1,(a.fresh p hp).2⟩,
   (XM (f:=(·.1)) (l₁:=new) (l₂:=nw):a7 (new++nw)=_)▸List.nodup_append.mpr ⟨nd.2.1,a.nd,fun x hx y hy e=>(Xp.mp hx).elim fun p hp=>(Xp.mp hy).elim fun q hq=>Nat.lt_irrefl _ ((congrArg (q.1< ·) (hp.2.trans (e.trans hq.2.symm))).mp (st.frn p hp.1 q.1 q.2 (R.old (a.fresh q hq.1).1)))⟩,
   fun p hp=>(st.frm p hp).elim (fun h=>(Xp.mp h).elim fun q hq=>hq.2▸a.cells q hq.1) fun h=> .inr (up _ h),a.qt.trans (st.qt.mono fun i hi=>(Xe.mp hi)▸ .head _)⟩
section
variable {code:Code}{K:Flow->Sem XA}{H:WY->Sem XA}{P:End->W2->Prop}{c:Ch}
theorem DM(FO:aa w F) (hS:F.sc=S0 328) (R:Lg F m cs ot sx s) (h:∀s',Lg F (fun y=>if y = "backslash" then some (.bool false) else m y) cs ot sx s'->SegX (model ae w) A code (K .next) fs s' P) :
   SegX (model ae w) A code ((execs [Cd] F.env).wrap K H id id) fs s P:=by
 show SegX _ A code ((execs [.Assign [.Name "backslash" _] (.Constant (.bool false) _ _) _] F.env).wrap K H id id) fs s P
 exact cK (XK (wpAny_Constant_bool (gk FO R.raw (ln hS (by kernel_rfl)) fun s' R'=>⟨rfl,h s' (R.with R')⟩)) (by rfl))
theorem nh(FO:aa w F) (hS:F.sc=S0 328) (hfs:splitAtGen fs=none) (hfg:fs.any Frame.guarded=false) {p3:Pos}{rest:List Stmt} (hx:ak (S0 328) x=true) (R:Lg F m cs ot sx s) (hv:m x=some v)
   (h:∀lv k p,lF w code fs k ((execs rest F.env).wrap K H id id)->P (.susp v false lv k code p fs) s):SegX (model ae w) A code ((execs (.Expr (.Yield (some (.Name x p1)) p2) p3::rest) F.env).wrap K H id id) fs s P :=
 aw (et hfs rfl hfg (ax FO R.raw (ln hS hx) hv fun lv k p hk=>h lv k p hk) (show F.sc.isCoroutine=false from hS▸Lm) (aT FO))
theorem M8(FO:aa w F) (hS:F.sc=S0 328) (hfs:splitAtGen fs=none) (hfg:fs.any Frame.guarded=false) (R:Lg F m cs ot sx s) (hl:∀p∈l,p∈ot) (hc:bS l c a) (hm:m "char" = some (.ref a))
   (h1:c.c=92->∀s',Lg F (fun y=>if y = "backslash" then some (.ref a) else m y) cs ot sx s'->SegX (model ae w) A code (K .next) fs s' P)
   (h2:c.c≠92->∀s' lv k p,Lg F m cs ot sx s'->lF w code fs k (K .next)->P (.susp (.ref a) false lv k code p fs) s') :
   SegX (model ae w) A code ((execs [Ll] F.env).wrap K H id id) fs s P:=by
 show SegX _ A code ((execs [.If (.Compare (.Attribute (.Name "char" _) (AN 5) _) [.Eq] [.Constant (.str "\\") _ _] _) [.Assign [.Name "backslash" _] (.Name "char" _) _] [.Expr (.Yield (some (.Name "char" _)) _) _] _] F.env).wrap K H id id) fs s P
 refine aw (BF (wpAny_isTrue_Compare1 (Attribute_any_ (ax FO R.raw (ln hS (by kernel_rfl)) hm ?_) (by rw[X8,al rfl])) rfl))
 refine th FO R.raw (fun p hp=>W4 _ (hl p hp)) hc fun t=>X4 (eq_str (wpAny_truthy_bool ?_))
 rw[gY]
 have R':Lg F m cs ot sx {s with toks:=s.toks+1+1}:=(R.toks _).toks _
 generalize q:bU ⟨#[c.c]⟩ "\\" = b
 rcases b with qq|qq
 . exact nh FO hS hfs hfg (by kernel_rfl) R' hm fun lv k p hk=>h2 (fun e=>ly (q.symm.trans ((wB c.c).mpr e))) _ lv k p R' hk
 . exact cK (XK (ax FO R'.raw (ln hS (by kernel_rfl)) hm (gk FO R'.raw (ln hS (by kernel_rfl)) fun s' Uo=>⟨rfl,h1 ((wB c.c).mp q) s' (R'.with Uo)⟩)) (by rfl))
theorem K5(FO:aa w F) (hS:F.sc=S0 328) (hfs:splitAtGen fs=none) (hfg:fs.any Frame.guarded=false) {rest:List Stmt} (R:Lg F m cs ot sx s) (hl:∀p∈l,p∈ot) (hc:bS l c a) (hm:m "char" = some (.ref a)) {b:W3} (hb:m "backslash" = some (.ref b))
   (h1:c.c=13\/c.c=10->∀s',Lg F m cs ot sx s'->SegX (model ae w) A code ((execs rest F.env).wrap K H id id) fs s' P)
   (h2:¬(c.c=13\/c.c=10)->∀s' lv k p,Lg F m cs ot sx s'->lF w code fs k ((execs O6 F.env).wrap (jG rest F.env K H) H id id)->P (.susp (.ref b) false lv k code p fs) s') :
   SegX (model ae w) A code ((execs (HZ::rest) F.env).wrap K H id id) fs s P:=by
 show SegX _ A code ((execs (.If (.Compare (.Attribute (.Name "char" _) (AN 5) _) [.In] [.Constant (.str "\r\n") _ _] _) [.Pass _] (.Expr (.Yield (some (.Name "backslash" _)) _) _::O6) _::rest) F.env).wrap K H id id) fs s P
 refine aw (BF (wpAny_isTrue_Compare1 (Attribute_any_ (ax FO R.raw (ln hS (by kernel_rfl)) hm ?_) (by rw[X8,al rfl])) rfl))
 refine th FO R.raw (fun p hp=>W4 _ (hl p hp)) hc fun t=>X4 (in_str (wpAny_truthy_bool ?_))
 rw[tK]
 have R':Lg F m cs ot sx {s with toks:=s.toks+1+1}:=(R.toks _).toks _
 generalize q:ck c.c "\r\n" = b
 rcases b with qq|qq
 . exact nh FO hS hfs hfg (by kernel_rfl) R' hb fun lv k p hk=>h2 (fun e=>ly (q.symm.trans ((tE c.c).mpr e))) _ lv k p R' hk
 . exact cK (wpAny_Pass ⟨rfl,h1 ((tE c.c).mp q) _ R'⟩)
theorem RY(FO:aa w F) (hS:F.sc=S0 328) (hfs:splitAtGen fs=none) (hfg:fs.any Frame.guarded=false) (R:Lg F m cs ot sx s) (hm:m "char" = some v)
   (h:∀lv k p,lF w code fs k (K .next)->P (.susp v false lv k code p fs) s):SegX (model ae w) A code ((execs O6 F.env).wrap K H id id) fs s P:=by
 show SegX _ A code ((execs [.Expr (.Yield (some (.Name "char" _)) _) _] F.env).wrap K H id id) fs s P
 exact nh FO hS hfs hfg (by kernel_rfl) R hm fun lv k p hk=>h lv k p hk
end
theorem bS.obj{c:Ch} (h:bS l c a):∃d,(a,Xu 183 d)∈l:=h _ fun d qq qq qq qq h qq qq qq qq=>⟨d,h⟩
theorem xO(p:Option Ch):bc p []=[]:=by cases p<;>rfl
theorem y2(c:Ch) (r:List Ch):bc none (c::r)=if c.c=92 then bc (some c) r else c::bc none r:=rfl
theorem wR(b c:Ch) (r:List Ch):bc (some b) (c::r)=if c.c=13\/c.c=10 then bc none r else b::c::bc none r:=rfl
theorem Ci(FO:aa w F) (hS:F.sc=S0 328) {sx:W2} (R:Lg F m cs ot sx s) (hb:zf m) {p:Pos}{Q:Bool->W2->Prop} (h:Q false s):wpAny (model ae w) A (isTrue (.Name "backslash" p) F.env (eval (.Name "backslash" p) F.env)) Q E s :=
 hb.elim (fun hb=>isTrue_plain (ax FO R.raw (ln hS (by kernel_rfl)) hb (truthy_none h)) rfl) fun hb=>isTrue_plain (ax FO R.raw (ln hS (by kernel_rfl)) hb (wpAny_truthy_bool h)) rfl
theorem Cc(Gl:Ab w G.H) (hA:pZ A) (hA2:A.depth<=930) {C₀:List W3}{ot0:ad} (hfz:∀p∈fz,p∈ot0) {Bd:List Stmt}:∀(str0:List Ch) (pend:Option Ch) (m:Str->Option WY) (cs ot nw:ad) (s:W2) (b:W3) (o:Obj),
   Lg (F1 w.params G) m cs ot s s->de w G.toGP cs s.gens str0->oP G ot->EQ (nw++fz) m pend->vT [G.i0,G.i1] s₀ C₀ ot0 nw cs ot s->s.heap.get? b=some o->(∀a,b<a->cQ s₀.heap a) ->
   SegX (model ae w) A (tc (F1 w.params G) G.ga0) ((model ae w).den (tc (F1 w.params G) G.ga0)) [ig (F1 w.params G) Bd p1] s (vw w G fz s₀ C₀ ot0 (bc pend str0)):=by
 have FO:aa w (F1 w.params G):=ui Gl (bB (z8 w.params)).2.2.1
 have hS:(F1 w.params G).sc=Mine.S0 328:=LD w.params
 have hh:(A.over (tc (F1 w.params G) G.ga0) [ig (F1 w.params G) Bd p1]).handled=none:=hA.hd
 have hd:(A.over (tc (F1 w.params G) G.ga0) [ig (F1 w.params G) Bd p1]).depth<=940:=WZ (XG hA2 1) (by decide)
 intro str0
 induction str0 with
 |nil =>
   intro pend m cs ot nw s b o R T Z hbs hacc hb hab
   refine eS (Ep hh hd (jl Gl Z R) T fun s' oL' es n st he=>?_)
   rw[xO]
   exact jS (gW (.ok .next) (mG (.ok (.ret .none)) (.fin m _ _ _ es n s' (R.step st) (.tail _ (.tail _ (.head _))) he (.tail _ (.head _)) (hacc.step R hb hab st))))
 |cons c r0 ih =>
   intro pend m cs ot nw s b o R T Z hbs hacc hb hab
   refine eS (Ep hh hd (jl Gl Z R) T fun a new cs' s' hchr T' st=>?_)
   have R':=R.step st
   have acc':=hacc.step R hb hab st
   have Z':=Z.mono (ot':=new++ot) fun p hp=>W4 _ hp
   show wpAny _ _ (assign (.Name "char" _) (F1 w.params G).env (.ref a)) _ _ s'
   refine wpAny_assign_Name (gk FO R'.raw (ln hS (by kernel_rfl)) fun Uq Uo=>?_)
   have Ur:=(R'.with Uo).rebase
   have VN:=acc'.to (Uo.qt [G.i0,G.i1])
   have nb:("backslash" : Str) ≠ "char" := by decide +kernel
   have hca:(fun y:Str=>if y=("char" : Str) then some (Value.ref a) else m y) "char" = some (.ref a):=if_pos rfl
   obtain⟨da,hda⟩:=hchr.obj
   have hlive:∀x,a<x->cQ s₀.heap x:=fun x hx b o e=>Xx ((acc'.fresh _ (W7 _ hda)).2 b o e) hx
   have hchr':bS (new++nw++fz) c a:=hchr.mono fun p hp=>W7 _ (W7 _ hp)
   have hsubn:∀p∈new,p∈new++ot:=fun p hp=>W7 _ hp
   have tld:∀{UB:W2},UB.gens=Uq.gens->de w G.toGP cs' UB.gens r0:=fun e=>(e.trans Uo.gens).symm▸T'
   rw[Qr]
   refine aw (BF ?_)
   cases hbs with
   |no hno =>
     have hno':zf (fun y:Str=>if y=("char" : Str) then some (Value.ref a) else m y):=hno.imp (if_neg nb).trans (if_neg nb).trans
     refine Ci FO hS Ur hno' (M8 FO hS rfl rfl Ur hsubn hchr hca (fun h92 UB Uw=>?_) (fun h92 UB lv k p Uw hk=>?_))
     . rw[y2,if_pos h92]
       exact bM rfl (ih (some c) _ cs' _ (new++nw) UB a _ Uw.rebase (tld Uw.raw.gens) Z' (.at c a (if_pos rfl) hchr') (VN.to (Uw.raw.qt _)) (Uw.old (W7 _ hda)) hlive)
     . rw[y2,if_neg h92]
       exact .chr c _ a (new++nw) cs' (new++ot) _ k lv p _ _ r0 UB hchr' Uw.rebase (tld Uw.raw.gens) (VN.to (Uw.raw.qt _)) (.go Bd p1 k r0 hk hno')
   |«at» b ba hb hbc =>
     have hbl:∀p∈nw++fz,p∈new++ot:=fun p hp=>W4 _ ((Xt.mp hp).elim (fun hp=>(hacc.fresh p hp).1) fun hp=>hacc.sub p (hfz p hp))
     refine isTrue_plain (ax FO Ur.raw (ln hS (by kernel_rfl)) ((if_neg nb).trans hb) (lI FO Ur.raw (fun p hp=>W4 _ (hbl p hp)) hbc ?_)) rfl
     refine K5 FO hS rfl rfl Ur hsubn hchr hca ((if_neg nb).trans hb) (fun hnl UB Uw=>?_) (fun hnl UB lv k p Uw hk=>?_)
     . rw[wR,if_pos hnl]
       exact DM FO hS Uw fun UW UE=>bM rfl (ih none _ cs' _ (new++nw) UW a _ UE.rebase (tld UE.raw.gens) Z' (.no (.inr (if_pos rfl))) (VN.to (UE.raw.qt _)) (UE.old (W7 _ hda)) hlive)
     . rw[wR,if_neg hnl]
       exact .chr b _ ba (new++nw) cs' (new++ot) _ k lv p _ _ r0 UB (hbc.mono fun p hp=>(Xt.mp hp).elim (fun hp=>W7 _ (W4 _ hp)) fun hp=>W4 _ hp) Uw.rebase (tld Uw.raw.gens) (VN.to (Uw.raw.qt _)) (.two Bd p1 k r0 c a hk hca hchr')
end
end
section
theorem l7.above{H:Heap} (Z:l7 w H L s ((L,oL)::cs)) (hLB:L<=B) (hB:∀q∈cs++aR s.heap H (L::a7 cs),q.1<=B):∀a:W3,B<a->cQ s.heap a:=fun a h3 b o q=>by
 refine Xi ?_ h3
 rcases h2:H.get? b with qq|o'
 ·
   by_cases hm:b∈L::a7 cs
   . exact(Xb.mp hm).elim (fun e=>e▸hLB) fun hm=>(Xp.mp hm).elim fun p hp=>hp.2▸hB p (W7 _ hp.1)
   . exact hB (b,o) (W4 _ (bq.mpr ⟨q,hm,h2⟩))
 . exact WZ (Nat.le_of_lt (XT (XQ h2) Z.ab)) hLB
inductive fQ(w:Xj) (G:eu):ad->ad->Array Xf->List Ch->Prop
 |fresh (fz:ad) (g:Array Xf) (oL:Obj) (m:Str->Option WY) (sc0:ad) (str0:List Ch):fL m oL->m "characters" = some (.ref G.ga0)->de w G.toGP sc0 g str0->g[G.i1]?=some (.fresh (.func (ay (ah w.params 328)) (F1 w.params G).env))->fQ w G ((G.L1,oL)::sc0) fz g (bc none str0)
 |sus (fz:ad) (g:Array Xf) (oL:Obj) (m:Str->Option WY) (sc0:ad) (str0 str:List Ch) (k:Resume->Sem XA) (lv:List WY) (p:Pos) (code:Code) (fs:List Frame):fL m oL->wq w (F1 w.params G) G.ga0 fz m code fs k str0 str->de w G.toGP sc0 g str0 ->
     g[G.i1]?=some (.suspended k lv code p fs false)->fQ w G ((G.L1,oL)::sc0) fz g str
inductive fR(G:eu) (sc:ad) (g:Array Xf):List Ch->Prop
 |mk (es:List XH) (n:Nat):g[G.i1]?=some .finished->(G.dsf,Xc es n)∈sc->be es G.fin->(G.sf,Xu 303 G.dsf)∈sc->fR G sc g []
structure qo(w:Xj) (G:eu) (s:W2) (sc fz:ad):Prop where
 Z:l7 w G.H G.L1 s sc
 frz:∀p∈fz,s.heap.get? p.1=some p.2/\p.1∉a7 sc/\G.H.get? p.1=none
 f0:oP G fz
 gen:∃o nm qn,(G.ga1,o)∈fz/\o.cls= .type "generator" /\ o.data= .fields #[.int G.i1 0,nm,qn]/\o.slots= #[]
 lt:G.L1<G.ga1
noncomputable def DI(w:Xj) (G:eu) (fz:ad) (s:W2) (sc:ad) (Q:Option WY->W2->Prop):List Ch->Prop
 |[]=>∀s' sc' new,g7 [G.i0,G.i1] s sc s' sc' new->fR G sc' s'.gens []->Q none s'
 |c::rest=>∀a new sc' s',bS (new++fz) c a->fQ w G sc' (new++fz) s'.gens rest->g7 [G.i0,G.i1] s sc s' sc' new->Q (some (.ref a)) s'
theorem wq.mono{ga:W3}{code:Code}{k:Resume->Sem XA}{str0:List Ch} (h:wq w F ga fz m code fs k str0 rest) (hk:∀p∈fz,p∈fz'):wq w F ga fz' m code fs k str0 rest:=by
 induction h with
 |go Bd p1 k _ a b=>exact .go Bd p1 k _ a b
 |two Bd p1 k _ ch x a b c=>exact .two Bd p1 k _ ch x a b (c.mono hk)
 |off Bd p1 k _ a=>exact .off Bd p1 k _ a
theorem wq.guard{ga:W3}{code:Code}{k:Resume->Sem XA}{str0:List Ch} (h:wq w F ga fz m code fs k str0 rest):fs.any Frame.guarded=false:=by
 induction h<;>rfl
theorem de.gens{G:GP}{g':Array Xf} (h:de w G cs g str) (e:∀gs,g[G.i0]?=some gs->g'[G.i0]?=some gs):de w G cs g' str:=by
 induction h with
 |fresh _ oL m es n ls a b c d q r t u=>exact .fresh g' oL m es n ls a b c d q r t (e _ u)
 |sus _ oL m cs' k lv p code fs str a b c u=>exact .sus g' oL m cs' k lv p code fs str a b c (e _ u)
section
theorem CV{sc0:ad} (S1:qo w G s ((G.L1,oL)::sc0) fz) (hne:G.i0≠G.i1) (hi1:G.i1<s.gens.size) (hLB:G.L1<=B) (hB:∀q∈sc0++aR s.heap G.H (G.L1::a7 sc0),q.1<=B) (hT:Top B (sc0++aR s.heap G.H (G.L1::a7 sc0))) {Q:Option WY->W2->Prop}
   (h:DI w G fz s ((G.L1,oL)::sc0) Q str) {e:End} (r:vw w G fz (s.setGen G.i1 .running) (a7 sc0) (aR s.heap G.H (G.L1::a7 sc0)) str e Un):Un.heap.IsGen G.ga1 G.i1/\hG w G.i1 Q E e Un:=by
 obtain⟨f1,f2,f3⟩:=fj (s:=s) (i:=G.i1) (gs:= .running) rfl
 have up:∀a:W3,cQ s.heap a->B<a:=fun a ha=>hT.elim fun qt h=>Xi h.2 ((Xt.mp h.1).elim (fun h=>ha _ _ (S1.Z.cells qt (.tail _ h)).1) fun h=>ha _ _ (bq.mp h).1)
 have hgen:∀h':Heap,(∀b o,b∉a7 ((G.L1,oL)::sc0)->s.heap.get? b=some o->h'.get? b=some o)->h'.IsGen G.ga1 G.i1:=fun h' hk=>S1.gen.elim fun og h=>h.elim fun nm h=>h.elim fun qn h=>⟨og,nm,qn,hk _ _ (S1.frz _ h.1).2.1 (S1.frz _ h.1).1,h.2⟩
 have leave:∀{m':Str->Option WY}{cs' ot' nw:ad}{Un:W2},Lg (F1 w.params G) m' cs' ot' Un Un->vT [G.i0,G.i1] (s.setGen G.i1 .running) (a7 sc0) (aR s.heap G.H (G.L1::a7 sc0)) nw cs' ot' Un->∀gs':Xf,gs'.bare=true ->
     ∃oL',Un.heap.get? G.L1=some oL'/\fL m' oL'/\g7 [G.i0,G.i1] s ((G.L1,oL)::sc0) (Un.setGen G.i1 gs') ((G.L1,oL')::cs') nw:=fun R acc gs' hb =>
   k9 S1.Z hLB hB R acc.sub (fun p hp=>⟨(acc.fresh p hp).1,up _ (acc.fresh p hp).2⟩) acc.nd (fun p hp=>(acc.cells p hp).imp_right (up _)) (.tail _ (.head _)) (acc.qt.size.trans f1) (fun j hj=>(acc.qt.gens j hj).trans (f2 j fun q=>hj (q▸ .tail _ (.head _)))) (fun hb=>acc.qt.bare (f3 hb)) acc.qt.os acc.qt.dr gs' hb
 have at1:∀{gs:Xf}{cs' ot' nw:ad}{Un:W2},vT [G.i0,G.i1] (s.setGen G.i1 .running) (a7 sc0) (aR s.heap G.H (G.L1::a7 sc0)) nw cs' ot' Un->(Un.setGen G.i1 gs).gens[G.i1]?=some gs:=fun acc=>Array.getElem?_setIfInBounds_self_of_lt (Nat.lt_of_lt_of_eq hi1 (acc.qt.size.trans f1).symm)
 cases r with
 |fin m' cs' ot' nw es n Un R hd he hsf acc =>
   obtain⟨oL',hL,hN,st⟩:=leave R acc .finished rfl
   exact⟨hgen _ st.keep,.inr (.inl ⟨rfl,fun h' hk=>h _ _ nw {st with keep:=fun b o hb e=>hk b o (st.keep b o hb e),got:=fun p hp=>hk _ _ (st.got p hp)} (.mk es n (at1 acc) (.tail _ hd) he (.tail _ hsf))⟩)⟩
 |chr c rest a nw cs' ot' m' k lv p code fs str0' Un hchr R T acc hat =>
   have hgs:End.genState (.susp (.ref a) false lv k code p fs)= .suspended k lv code p fs false:=congrArg (fun b=>GenState.suspended k lv code p fs (false || b)) hat.guard
   obtain⟨oL',hL,hN,st⟩:=leave R acc (.suspended k lv code p fs false) rfl
   refine⟨hgen _ st.keep,.inl ⟨_,lv,k,code,p,fs,rfl,?_⟩⟩
   rw[hgs]
   exact h a nw _ _ hchr (.sus _ _ oL' m' cs' str0' rest k lv p code fs hN hat (T.gens fun gs e=>(Yb (Ne.symm hne)).trans e) (at1 acc)) st
theorem MX(hh:A.handled=none) (hd:A.depth<=920) {sc:ad} (S1:qo w G s sc fz) (hne:G.i0≠G.i1) (T:fQ w G sc fz s.gens str) {Q:Option WY->W2->Prop} (h:DI w G fz s sc Q str):wpAny (model ae w) A (pyNext (.ref G.ga1)) Q E s:=by
 have hl:s.heap.NoLimit:=S1.Z.glo.lim.keeps S1.Z.st
 have hroom:A.depth<Xh:=Xi hd (by decide)
 have hA:pZ A.in1:=⟨hh,WZ hd (by decide)⟩
 have hA2:A.in1.depth<=930:=WZ hd (by decide)
 have FO:aa w (F1 w.params G):=ui S1.Z.glo (bB (z8 w.params)).2.2.1
 have hS:(F1 w.params G).sc=Mine.S0 328:=LD w.params
 have Gl:=S1.Z.glo
 obtain⟨og,nm,qn,hg1,hg2,hg3,hg4⟩:=S1.gen
 have hgen:s.heap.IsGen G.ga1 G.i1:=⟨og,nm,qn,(S1.frz _ hg1).1,hg2,hg3,hg4⟩
 have common:∀(oL:Obj) (m:Str->Option WY) (sc0:ad) (str0:List Ch) (gs:Xf) (UQ:Code) (UZ:Sem XA) (U0:List Frame),sc=(G.L1,oL)::sc0->fL m oL->de w G.toGP sc0 s.gens str0->s.gens[G.i1]?=some gs->EB w gs UQ UZ U0 ->
     (∀s₀ (q:W3×Obj),Lg (F1 w.params G) m sc0 (aR s.heap G.H (G.L1::a7 sc0)) s₀ s₀->de w G.toGP sc0 s₀.gens str0->oP G (aR s.heap G.H (G.L1::a7 sc0))->(∀p∈fz,p∈aR s.heap G.H (G.L1::a7 sc0)) ->
       vT [G.i0,G.i1] s₀ (a7 sc0) (aR s.heap G.H (G.L1::a7 sc0)) [] sc0 (aR s.heap G.H (G.L1::a7 sc0)) s₀->q∈sc0++aR s.heap G.H (G.L1::a7 sc0)->(∀a,q.1<a->cQ s₀.heap a) ->
       SegX (model ae w) A.in1 UQ UZ U0 s₀ (vw w G fz s₀ (a7 sc0) (aR s.heap G.H (G.L1::a7 sc0)) str))->wpAny (model ae w) A (pyNext (.ref G.ga1)) Q E s:=by
   intro oL m sc0 str0 gs UQ UZ U0 hsc hm T0 hg hgo hx
   subst hsc
   have Vy:=(kb (q:=(ah w.params 328).qualname) (sc:=(ah w.params 328).scope) (a:=328) (cd:=(ah w.params 328).code) (os:=G.os) (dr:=G.dr) S1.Z hm G.i1 .running)
   have hfz:∀p∈fz,p∈aR s.heap G.H (G.L1::a7 sc0):=fun p hp=>bq.mpr (S1.frz p hp)
   obtain⟨B,hB,hT⟩:=fH (sc0++aR s.heap G.H (G.L1::a7 sc0)) fun e=>List.not_mem_nil ((List.append_eq_nil_iff.mp e).2▸hfz _ hg1)
   have hLB:G.L1<=B:=WZ (Nat.le_of_lt S1.lt) (hB (G.ga1,og) (W4 _ (hfz _ hg1)))
   have habv:=S1.Z.above hLB hB
   obtain⟨q,hq,e⟩:=id hT
   exact bA hh hl hroom hgen hg hgo ((hx _ q Vy (T0.gens fun gs e=>(Yb (Ne.symm hne)).trans e) (S1.f0.mono hfz) hfz ⟨fun qq h=>h,fun qq h=>absurd h List.not_mem_nil,List.Pairwise.nil,fun p hp=> .inl (Xv hp),Qt.refl _ _⟩ hq fun a ha=>habv a (Xi e ha)).mono fun e Un r=>CV S1 hne (XJ.mp hg).1 hLB hB hT h r)
 have go:∀{Bd:List Stmt}{p1:Pos}{str0:List Ch}{m:Str->Option WY}{sc0:ad}{s₀:W2}{ot:ad}{q:W3×Obj}{s':W2},(∀p∈fz,p∈ot)->Lg (F1 w.params G) m sc0 ot s' s'->de w G.toGP sc0 s'.gens str0->oP G ot->zf m->vT [G.i0,G.i1] s₀ (a7 sc0) ot [] sc0 ot s'->q∈sc0++ot->(∀a,q.1<a->cQ s₀.heap a) ->
     SegX (model ae w) A.in1 (tc (F1 w.params G) G.ga0) ((model ae w).den (tc (F1 w.params G) G.ga0)) [ig (F1 w.params G) Bd p1] s' (vw w G fz s₀ (a7 sc0) ot (bc none str0)):=fun hfz R T' Z hbs acc hq hab =>
   Cc Gl hA hA2 hfz _ none _ _ _ [] _ _ _ R T' Z (.no hbs) acc (R.raw.nw _ hq).1 hab
 cases T with
 |fresh _ _ oL m sc0 str0 hm hch T0 hg =>
   refine common oL m sc0 str0 _ _ _ _ rfl hm T0 hg (.inl ⟨rfl,rfl,rfl⟩) fun s₀ q R T' Z hfz acc hq hab=>?_
   have nb:("characters" : Str) ≠ "backslash" := by decide +kernel
   rw[Rj,Ry]
   refine nI ?_
   show SegX _ _ _ ((execs [.Assign [.Name "backslash" _] (.Constant .none _ _) _,.For ST (.Name "characters" _) O4 [] _] (F1 w.params G).env).wrap _ _ id id) _ s₀ _
   refine cK (XK (wpAny_Constant_none (gk FO R.raw (ln hS (by kernel_rfl)) fun Uq Uo=>⟨rfl,?_⟩)) (by rfl))
   have Ur:=(R.with Uo).rebase
   have Z0:=jl Gl Z Ur
   exact aw (xw (ax FO Uo (ln hS (by kernel_rfl)) ((if_neg nb).trans hch) (wpAny_pyIter_gen Z0.gen fun p1=>go hfz Ur (Uo.gens.symm▸T') Z (.inl (if_pos rfl)) (acc.to (Uo.qt _)) hq hab)))
 |sus _ _ oL m sc0 str0 str k lv p code fs hm hat T0 hg =>
   refine common oL m sc0 str0 _ _ _ _ rfl hm T0 hg (.inr ⟨k,lv,p,false,rfl,rfl⟩) fun s₀ q R T' Z hfz acc hq hab=>?_
   cases hat with
   |go Bd p1 k _ hk hbs=>exact hk _ _ _ (bM rfl (go hfz R T' Z hbs acc hq hab))
   |two Bd p1 k _ ch x hk hmc hchr=>exact hk _ _ _ (RY FO hS rfl rfl R hmc fun lv' k' p' hk'=> .chr ch _ x [] sc0 _ m k' lv' p' _ _ str0 s₀ hchr R T' acc (.off Bd p1 k' str0 hk'))
   |off Bd p1 k _ hk=>exact hk _ _ _ (DM FO hS R fun UW UE=>bM rfl (go hfz UE.rebase (UE.raw.gens.symm▸T') Z (.inr (if_pos rfl)) (acc.to (UE.raw.qt _)) hq hab))
end
end
section
section
theorem nH(hh:A.handled=none) {g:Nat}{Q:Option WY->W2->Prop} (hg:s.heap.IsGen a g) (hgs:s.gens[g]?=some .finished) (hq:∀h',(∀b o,s.heap.get? b=some o->h'.get? b=some o)->Q none {s with heap:=h'}) :
   wpAny (model ae w) A (pyNext (.ref a)) Q E s:=by
 unfold pyNext
 refine W6 (wpAny_attempt (wpAny_callSpecial?_slot (name:=W8 "__next__") hg.typeIs slot_gen_next
   (wpAny_call_entry slot_gen_next hg.typeIs entry_gen_next ?_ (args_gen_next _))))
 show wpAny _ _ (Builtin.Generator.genWake (.ref a) (.send .none)) _ _ s
 unfold Builtin.Generator.genWake
 refine W6 (wpAny_holding (wpAny_genNumber hg (W6 (wpAny_genState hgs ?_))))
 show wpAny _ _ (.resume g (.send .none) [] _) _ _ s
 have fin:∀(K:GenResult->Sem XA) Q' E',wpAny (model ae w) A.in1 (K .finished) Q' E' s->wpAny (model ae w) A.in1 (.resume g (.send .none) [] K) Q' E' s:=by
   intro K Q' E' h Γ p hΓ
   rw[Sem.wp_resume]
   exact⟨.finished,s,by unfold Wakes;rw[hgs];exact⟨rfl,rfl⟩,h Γ p hΓ⟩
 refine fin _ _ _ ?_
 show wpAny _ _ (newExc (.type "StopIteration") [] >>= _) _ _ _
 refine W6 ?_
 simp only[newExc,newTuple]
 refine W6 (wpAny_newObj_type ?_ (by size_fits))
 refine W6 (m:=firstArgMember _ _) (wpAny_of_eq (a:=Value.none) (by first|rfl|(simp only[firstArgMember];rfl)) ?_)
 refine wpAny_newObj_type ?_ (by size_fits)
 skip
 refine W6 (wpAny_handled ?_)
 rw[show A.in1.handled=none from hh]
 refine wpAny_throw ?_
 refine W6 (wpAny_isInstance (T := "StopIteration") (b:=true) ⟨_,Heap.get?_push_size _ rfl,rfl⟩ isSubtype_stop ?_)
 exact Xk (hq _ fun b o hb=>Xm _ (Xm _ hb))
theorem lG{g:Nat}{d:WY} (hg:s.heap.IsGen a g) (h:wpAny (model ae w) A.in1 (pyNext (.ref a)) (fun r s'=>Q (r.getD d) s') E s):wpAny (model ae w) A (call (.builtin "next") [.ref a,d] []) Q E s:=by
 refine call_function_entry (by decide +kernel) (by decide +kernel) kdk_entry_next (kdk_args_next2 _ _) ?_
 unfold Builtin.«next»
 refine W6 (m:=someArgs "next" 1 2 _) (wpAny_of_eq (a:=[Value.ref a,d]) (by first|rfl|kernel_rfl!) ?_)
 dsimp only
 refine W6 (wpAny_specialOf (name:=W8 "__next__") hg.typeIs slot_gen_next.lookup ?_)
 refine wpAny_ite_split (fun hab=>absurd hab (by decide)) (fun qq=>?_)
 exact W6 (Xq h (fun r s' hr=>Xk ⟨_,rfl,hr⟩) fun qq qq x=>x)
end
structure zE(G:eu) (lo:Nat) (fz:ad):Prop where
 lo0:lo<=G.L0
 lo1:lo<=G.L1
 src:(G.src,W0 G.items G.nn)∈fz
 srcL:G.src≠G.L0
 gen0:∃o nm qn,(G.ga0,o)∈fz/\o.cls= .type "generator" /\ o.data= .fields #[.int G.i0 0,nm,qn]/\o.slots= #[]
 lt0:G.L0<G.ga0
 gen1:∃o nm qn,(G.ga1,o)∈fz/\o.cls= .type "generator" /\ o.data= .fields #[.int G.i1 0,nm,qn]/\o.slots= #[]
 lt1:G.L1<G.ga1
 ne:G.i0≠G.i1
theorem zE.mono(h:zE G lo fz) (k:∀p∈fz,p∈fz'):zE G lo fz' :=
 ⟨h.lo0,h.lo1,k _ h.src,h.srcL,let⟨o,a,b,c,d⟩:=h.gen0;⟨o,a,b,k _ c,d⟩,h.lt0,let⟨o,a,b,c,d⟩:=h.gen1;⟨o,a,b,k _ c,d⟩,h.lt1,h.ne⟩
noncomputable def dg(G:eu) (h:Heap):eu:={G with H:=h}
theorem Og(h h':Heap) {c:Code} (T:H7 (F0 P (dg G h).toGP) (dg G h).toG0 m cs r c fs):H7 (F0 P (dg G h').toGP) (dg G h').toG0 m cs r c fs:=by
 induction T with
 |mk e1 it1 e2 it2 o1 o2 old1 old2 i j x t row es n p1 p2 Bd ls q1 q2 q3 q4 q5 q6 q7 q8 q9 qa=>exact .mk (F:=F0 P (dg G h').toGP) (D:=(dg G h').toG0) e1 it1 e2 it2 o1 o2 old1 old2 i j x t row es n p1 p2 Bd ls q1 q2 q3 q4 q5 q6 q7 q8 q9 qa
theorem NI(h h':Heap) {code:Code}{k:Resume->Sem XA}{str0:List Ch} (T:wq w (F1 w.params (dg G h)) (dg G h).ga0 fz m code fs k str0 rest):wq w (F1 w.params (dg G h')) (dg G h').ga0 fz m code fs k str0 rest:=by
 induction T with
 |go Bd p1 k _ a b=>exact .go (F:=F1 w.params (dg G h')) Bd p1 k _ a b
 |two Bd p1 k _ ch x a b c=>exact .two (F:=F1 w.params (dg G h')) Bd p1 k _ ch x a b c
 |off Bd p1 k _ a=>exact .off (F:=F1 w.params (dg G h')) Bd p1 k _ a
theorem sF(h h':Heap) (T:de w (dg G h).toGP cs g str):de w (dg G h').toGP cs g str:=by
 induction T with
 |fresh _ oL m es n ls a b c d q r t u=>exact .fresh (G:=(dg G h').toGP) _ oL m es n ls a b c d q r t u
 |sus _ oL m cs' k lv p code fs str a b c u=>exact .sus (G:=(dg G h').toGP) _ oL m cs' k lv p code fs str a (Og h h' b) c u
theorem tV(h h':Heap) {sc:ad} (T:fQ w (dg G h) sc fz g str):fQ w (dg G h') sc fz g str:=by
 induction T with
 |fresh _ _ oL m sc0 str0 a b c d=>exact .fresh (G:=dg G h') _ _ oL m sc0 str0 a b (sF h h' c) d
 |sus _ _ oL m sc0 str0 str k lv p code fs a b c d=>exact .sus (G:=dg G h') _ _ oL m sc0 str0 str k lv p code fs a (NI h h' b) (sF h h' c) d
theorem Az(h h':Heap) {sc:ad} (D:fR (dg G h) sc g str):fR (dg G h') sc g str:=by
 induction D with
 |mk es n a b c d=>exact .mk (G:=dg G h') es n a b c d
noncomputable def bV(w:Xj) (G:eu) (old:Bool) (co:W3) (lo ng:Nat) (ex:ad) (r:List Ch) (sc fz:ad) (g:Array Xf):Prop:=∀qC:Prop,(∀(sc0:ad),sc=sc0++ex->fQ w G sc0 fz g r\/fR G sc0 g r->zE G lo fz->dP w fz co old->ng<=g.size->qC)->qC
theorem gX{sc:ad}{g':Array Xf} (h:fQ w G sc fz g str) (hg:∀i,i=G.i0\/i=G.i1->∀gs,g[i]?=some gs->g'[i]?=some gs):fQ w G sc fz g' str:=by
 induction h with
 |fresh _ _ oL m sc0 str0 a b c d=>exact .fresh _ g' oL m sc0 str0 a b (c.gens (hg _ (.inl rfl))) (hg _ (.inr rfl) _ d)
 |sus _ _ oL m sc0 str0 _ k lv p code fs a b c d=>exact .sus _ g' oL m sc0 str0 _ k lv p code fs a b (c.gens (hg _ (.inl rfl))) (hg _ (.inr rfl) _ d)
theorem fK{sc:ad} (h:fQ w G sc fz g str) (k:∀p∈fz,p∈fz'):fQ w G sc fz' g str:=by
 induction h with
 |fresh _ _ oL m sc0 str0 a b c d=>exact .fresh fz' _ oL m sc0 str0 a b c d
 |sus _ _ oL m sc0 str0 _ k' lv p code fs a b c d=>exact .sus fz' _ oL m sc0 str0 _ k' lv p code fs a (b.mono k) c d
theorem fR.gens{sc:ad}{g':Array Xf} (h:fR G sc g r) (hg:∀gs,g[G.i1]?=some gs->g'[G.i1]?=some gs):fR G sc g' r:=by
 induction h with
 |mk es n a b c d=>exact .mk es n (hg _ a) b c d
theorem pG{old:Bool}{ng':Nat}{sc:ad}{g':Array Xf} (h:bV w G old co lo ng ex r sc fz g) (hg:∀i,i=G.i0\/i=G.i1->∀gs,g[i]?=some gs->g'[i]?=some gs) (hs:ng'<=g'.size):bV w G old co lo ng' ex r sc fz g' :=
 h _ fun sc0 e h1 h2 h3 qq =>
 fun qq qk=>qk sc0 e (h1.imp (fun h=>gX h hg) fun h=>h.gens (hg _ (.inr rfl))) h2 h3 hs
theorem eo{old:Bool}:eL (bV w G old co lo ng ex) where
 mono:=fun r sc fz fz' g h k =>
   h _ fun sc0 e h1 h2 h3 h4 =>
   fun qq qk=>qk sc0 e (h1.imp_left fun h=>fK h k) (h2.mono k) (h3.mono k) h4
 gens:=fun r sc fz g g' h hs hg =>
   have hn:ng<=g.size:=h _ fun qq qq qq qq qq h4=>h4
   pG h (fun i qq gs e=>(hg i (XJ.mp e).1).trans e) (WZ hn hs)
section
variable {old:Bool}{st:L0}
theorem kh{a b:ad} (h:((a++b).map (·.1)).Nodup):(a7 a).Nodup/\(a7 b).Nodup/\∀x∈a7 a,∀y∈a7 b,x≠y:=List.nodup_append.mp ((XM:(a++b).map (·.1)=_)▸h)
theorem jN{a b:ad} (h1:(a7 a).Nodup) (h2:(a7 b).Nodup) (h3:∀x∈a7 a,∀y∈a7 b,x≠y):((a++b).map (·.1)).Nodup:=(XM:(a++b).map (·.1)=_)▸List.nodup_append.mpr ⟨h1,h2,h3⟩
theorem iC{sc0:ad}:(tl++(sc0++ex)++fz).Perm (sc0++(ex++(tl++fz))):=(List.perm_append_comm.append_right fz).trans (.of_eq ((Xo _ tl fz).trans (Xo sc0 ex _)))
theorem Ee{sc':ad}:(tl++(sc'++ex)++(new++fz)).Perm (sc'++(new++(ex++(tl++fz)))):=iC.trans (List.Perm.append_left sc' ((List.Perm.append_left ex (List.perm_append_comm_assoc tl new fz)).trans (List.perm_append_comm_assoc ex new _)))
theorem A2{I:List Nat}{sc0:ad} (U5:Fr F.Up F.L s.heap m)
   (N:News F.Up F.L s.heap (tl++(sc0++ex)++fz)) (nd:((tl++(sc0++ex)++fz).map (·.1)).Nodup) {sc':ad} (T:g7 I s sc0 s' sc' new) :
   Fr F.Up F.L s'.heap m/\News F.Up F.L s'.heap (tl++(sc'++ex)++(new++fz))/\((tl++(sc'++ex)++(new++fz)).map (·.1)).Nodup:=by
 have nd0:=kh ((iC.map (·.1)).nodup_iff.mp nd)
 have L:Lg F m sc0 (ex++(tl++fz)) s s:=⟨⟨U5,fun p hp=>N p (iC.mem_iff.mpr hp),rfl,rfl,rfl⟩,nd0.1,fun p hp h=>nd0.2.2 p.1 h p.1 (Xv hp) rfl⟩
 have L':=L.step T
 have ndT:=kh T.nd
 refine⟨L'.raw.fr,fun p hp=>L'.raw.nw p (Ee.mem_iff.mp hp),(Ee.map (·.1)).nodup_iff.mpr ?_⟩
 exact jN L'.nd (jN ndT.2.1 nd0.2.1 fun a ha b hb e=>(Xp.mp ha).elim fun p hp=>(Xp.mp hb).elim fun q hq=>Nat.lt_irrefl _ ((congrArg (q.1< ·) (hp.2.trans (e.trans hq.2.symm))).mp (T.frn p hp.1 q.1 q.2 (L.old hq.1))))
   fun a ha b hb e=>(Xp.mp hb).elim fun p hp=>L'.dis p hp.1 (gN (hp.2.trans e.symm) ha)
theorem lU(FO:aa w F) (h:F.Up.get? a=none):F.base.get? a=none:=by
 rcases q:F.base.get? a with qq|o
 . rfl
 . exact bN (h.symm.trans (FO.B.stays _ _ q))
theorem vM(FO:aa w F) {sc0:ad} (hlo:F.base.objs.size<=lo) (U5:Fr F.Up F.L s.heap m) (N:News F.Up F.L s.heap (tl++(sc0++ex)++fz)) (nd:((tl++(sc0++ex)++fz).map (·.1)).Nodup) (Z:zE G lo fz):qo w (dg G F.base) s sc0 fz:=by
 have nd0:=kh ((iC.map (·.1)).nodup_iff.mp nd)
 have N0:∀p∈sc0++(ex++(tl++fz)),_:=fun p hp=>N p (iC.mem_iff.mpr hp)
 have inF:∀p∈fz,p∈ex++(tl++fz):=fun p hp=>W4 _ (W4 _ hp)
 exact⟨⟨FO.gb,fun b o e=>U5.keep b o (FO.B.stays b o e),WZ hlo Z.lo1,fun p hp=>⟨(N0 p (W7 _ hp)).1,lU FO (N0 p (W7 _ hp)).2.2⟩,nd0.1⟩,
   fun p hp=>have h:=N0 p (W4 _ (inF p hp));⟨h.1,fun hm=>nd0.2.2 p.1 hm p.1 (Xv (inF p hp)) rfl,lU FO h.2.2⟩,⟨WZ hlo Z.lo0,Z.src,Z.srcL,Z.gen0,Z.lt0⟩,Z.gen1,Z.lt1⟩
theorem yS{sc0:ad} (h:∀p∈sc0,s.heap.get? p.1=some p.2) (nd:(a7 sc0).Nodup) {I:List Nat} (hk:∀b o,s.heap.get? b=some o->h'.get? b=some o):g7 I s sc0 {s with heap:=h'} sc0 [] :=
 ⟨fun b o qq e=>hk b o e,fun p hp=>hk _ _ (h p ((XY sc0)▸hp)),fun p hp=> .inl (Xv hp),fun qq h=>absurd h List.not_mem_nil,(XY sc0).symm▸nd,rfl,fun qq qq=>rfl,fun h=>h,rfl,rfl⟩
noncomputable def iB(w:Xj) (G:eu) (old:Bool) (co:W3) (lo ng:Nat) (ex:ad) (r:List Ch) (sc fz:ad) (g:Array Xf):Prop:=∀qC:Prop,(∀(sc0:ad),bV w G old co lo ng ex r sc fz g->sc=sc0++ex->fR G sc0 g r->qC)->qC
theorem mU(hga:la.ga=G.ga1) (FO:aa w F) (LV:aU F.A 20) (R:RS w (J0 w.params la (bV w G old co lo ng ex)) F m st fz s) (hlo:la.lo=lo)
   (h0:st.rest=[]->∀fz' s',(∀p∈fz,p∈fz')->RS w (J0 w.params la (iB w G old co lo ng ex)) F m st fz' s'->Q .none s')
   (h1:∀c r,st.rest=c::r->∀a fz' s',(∀p∈fz,p∈fz')->bS fz' c a->RS w (J0 w.params la (bV w G old co lo ng ex)) F m {st with rest:=r} fz' s'->Q (.ref a) s') :
   wpAny (model ae w) F.A (call (.builtin "next") [.ref la.ga,.none] []) Q E s:=by
 obtain⟨mu,qi,N,nd⟩:=R.led;refine qi _ ?_;rintro lex ab va vb vc na nb nc ps sc rfl r1 r2 r3 ht qi;refine qi _ ?_;rintro sc0 rfl hS Z OI hng
 have hlo':F.base.objs.size<=lo:=hlo▸R.lo
 have S1:=vM (tl:=[(la.tb,W0 va.toArray na),(la.pb,W0 vb.toArray nb),(la.ct,W0 vc.toArray nc),(225,tabObj ps)]) FO hlo' R.fr N nd Z
 have hh:F.A.in1.handled=none:=LV.hd
 have hd:F.A.in1.depth<=920:=WZ (Nat.le_of_add_right_le LV.depth) (by decide)
 obtain⟨og,nm,qn,g1,g2,g3,g4⟩:=Z.gen1
 have hgen:s.heap.IsGen G.ga1 G.i1:=⟨og,nm,qn,(S1.frz _ g1).1,g2,g3,g4⟩
 have kk:∀new:ad,∀p∈fz,p∈new++fz:=fun new p hp=>W4 _ hp
 have behind:∀{I:List Nat}{s':W2}{sc' new:ad} (r':List Ch) (S':bR),g7 I s sc0 s' sc' new->S' r' (sc'++ex) (new++fz) s'.gens->RS w (J0 w.params la S') F m {st with rest:=r'} (new++fz) s':=fun {I s' sc' new} r' S' T hS' =>
   have q:=A2 (tl:=[(la.tb,W0 va.toArray na),(la.pb,W0 vb.toArray nb),(la.ct,W0 vc.toArray nc),(225,tabObj ps)]) R.fr N nd T
   ⟨q.1,⟨_,(fun qq qk=>qk ⟨kk new _ lex.1,kk new _ lex.2⟩ (T.bare ab) va vb vc na nb nc ps (sc'++ex) rfl (r1.mono (kk new)) (r2.mono (kk new)) (r3.mono (kk new)) ht hS'),q.2⟩,T.os.trans R.os,T.dr.trans R.dr,R.lo⟩
 have strm:∀{I:List Nat}{s':W2}{sc' new:ad}{r:List Ch},g7 I s sc0 s' sc' new->fQ w G sc' (new++fz) s'.gens r\/fR G sc' s'.gens r->bV w G old co lo ng ex r (sc'++ex) (new++fz) s'.gens:=fun T h=>(fun qq qk=>qk _ rfl h (Z.mono (kk _)) (OI.mono (kk _)) (T.size▸hng))
 have fin:∀{I:List Nat}{s':W2}{sc' new:ad} (qq:[]=st.rest),g7 I s sc0 s' sc' new->fR G sc' s'.gens []->Q .none s':=fun e T hD =>
   h0 e.symm _ _ (kk _) ((congrArg (fun r=>({st with rest:=r}:L0)) e)▸behind [] (iB w G old co lo ng ex) T (fun qq qk=>qk _ (strm T (.inr hD)) rfl hD))
 rw[hga]
 refine lG hgen ?_
 refine hS.elim (fun hL=>?_) fun hD=>?_
 . refine MX (G:=dg G F.base) hh hd S1 Z.ne (tV G.H _ hL) ?_
   generalize hr:st.rest=r
   rcases r with qq|⟨c,r⟩
   . exact fun s' sc' new T hD=>fin hr.symm T (Az _ G.H hD)
   . exact fun a new sc' s' hc hL' T=>h1 c r hr a _ s' (kk new) hc (behind r _ T (strm T (.inl (tV _ G.H hL'))))
 . generalize hr:st.rest=r at hD
   cases hD with
   |mk es n hf d1 d2 d3=>exact nH hh hgen hf fun h' hk=>fin hr.symm (yS (fun p hp=>(S1.Z.cells p hp).1) S1.Z.nd (I:=[]) hk) (.mk es n hf d1 d2 d3)
theorem RS.weak{S':bR} (R:RS w (J0 w.params la S) F m st fz s) (h:∀r sc fz g,S r sc fz g->S' r sc fz g):RS w (J0 w.params la S') F m st fz s :=
 R.led.elim fun mu l=>l.1 _ fun lex ab va vb vc na nb nc ps sc e r1 r2 r3 ht hS =>
 ⟨R.fr,⟨mu,fun qq qk=>qk lex ab va vb vc na nb nc ps sc e r1 r2 r3 ht (h _ _ _ _ hS),l.2⟩,R.os,R.dr,R.lo⟩
theorem CI(hga:la.ga=G.ga1) (hlo:la.lo=lo):kU w la (bV w G old co lo ng ex) where
 ok F m st fz s K Q E FO LV R hK P:=mU hga FO LV R hlo (fun hr fz' s' hk R'=>by
     unfold sI at hK
     rw[hr] at hK
     exact P _ _ _ _ _ hK hk (R'.weak fun qq qq qq qq h=>h _ fun qq h qq qq=>h) .none) fun c r hr a fz' s' hk hc R'=>by
     unfold sI at hK
     rw[hr] at hK
     exact P _ _ _ _ _ hK hk R' (.chr hc)
end
end
section
section
variable {old:Bool}{st:LS}
noncomputable abbrev JS(w:Xj) (la:LA) (G:eu) (old:Bool) (co:W3) (lo ng:Nat) (ex:ad):cu LS:=J1 w.params la (bV w G old co lo ng ex)
noncomputable def TM(w:Xj) (la:LA) (G:eu) (old:Bool) (co:W3) (lo ng:Nat) (ex:ad) (F:Fm) (st:LS) (fz:ad) (s:W2):Prop:=∀qC:Prop,(∀(tl:ad),News F.Up F.L s.heap (tl++ex++fz)->((tl++ex++fz).map (·.1)).Nodup ->
   (∀(ex' fz':ad) (s':W2) m',(∀p∈fz,p∈fz')->News F.Up F.L s'.heap (tl++ex'++fz')->((tl++ex'++fz').map (·.1)).Nodup->Fr F.Up F.L s'.heap m'->s'.gens=s.gens->s'.os=s.os->s'.drawn=s.drawn->RS w (JS w la G old co lo ng ex') F m' st fz' s')->qC)->qC
theorem RS.ex_open(R:RS w (JS w la G old co lo ng ex) F m st fz s):TM w la G old co lo ng ex F st fz s:=by
 obtain⟨qq,qi,N,nd⟩:=R.led;refine qi _ ?_;rintro b rest qi e z;refine qi _ ?_;rintro lex ab va vb vc na nb nc ps qq rfl r1 r2 r3 ht qi;refine qi _ ?_;rintro sc0 rfl hS Z OI hng
 exact fun qq qk=>qk ((la.tb,W0 va.toArray na)::(la.pb,W0 vb.toArray nb)::(la.ct,W0 vc.toArray nc)::(225,tabObj ps)::sc0) N nd fun ex' qq qq qq k N' nd' F' hg ho hd =>
   ⟨F',⟨_,(fun qq qk=>qk b rest (fun qq qk=>qk ⟨k _ lex.1,k _ lex.2⟩ (hg.symm▸ab) va vb vc na nb nc ps (sc0++ex') rfl (r1.mono k) (r2.mono k) (r3.mono k) ht (fun qq qk=>qk sc0 rfl (hg.symm▸hS.imp_left fun h=>fK h k) (Z.mono k) (OI.mono k) (hg.symm▸hng))) e z),N',nd'⟩,ho.trans R.os,hd.trans R.dr,R.lo⟩
theorem RS.alloc_ex(R:RS w (JS w la G old co lo ng ex) F m st fz s) (hf:o.isFreed=false):RS w (JS w la G old co lo ng ((s.heap.objs.size,o)::ex)) F m st fz {s with heap:=s.heap.push o}:=by
 refine R.ex_open _ ?_;rintro tl N nd back
 have pm:(tl++(s.heap.objs.size,o)::ex++fz).Perm ((s.heap.objs.size,o)::(tl++ex++fz)):=XF.append_right fz
 exact back _ fz _ m (fun qq h=>h) (fun p hp=>N.push R.fr o hf p (pm.mem_iff.mp hp)) ((pm.map (·.1)).nodup_iff.mpr (XD.mpr ⟨fun hm=>(Xp.mp hm).elim fun p hp=>Nat.lt_irrefl _ ((congrArg (. <s.heap.objs.size) hp.2).mp (XQ (N p hp.1).1)),nd⟩)) (R.fr.push o) rfl rfl rfl
theorem RS.drop_ex{ex':ad} (R:RS w (JS w la G old co lo ng ex) F m st fz s) (h:ex'.Sublist ex):RS w (JS w la G old co lo ng ex') F m st fz s:=by
 refine R.ex_open _ ?_;rintro tl N nd back
 have sub:(tl++ex'++fz).Sublist (tl++ex++fz):=((List.Sublist.refl tl).append h).append (List.Sublist.refl fz)
 exact back ex' fz s m (fun qq h=>h) (fun p hp=>N p (sub.subset hp)) ((sub.map _).nodup nd) R.fr rfl rfl rfl
theorem BH{e1 e2:ad}{x:W3×Obj}:tl++(e1++x::e2)++fz=(tl++e1)++x::(e2++fz):=by
 rw[Xo,Xo,Xo]
 rfl
noncomputable def Tg(w:Xj) (la:LA) (G:eu) (old:Bool) (co:W3) (lo ng:Nat) (e1:ad) (a:W3) (o:Obj) (e2:ad) (F:Fm) (st:LS) (fz:ad) (s:W2):Prop:=∀qC:Prop,(∀(pre post:ad),News F.Up F.L s.heap (pre++(a,o)::post)->((pre++(a,o)::post).map (·.1)).Nodup ->
   (∀o' s' m',News F.Up F.L s'.heap (pre++(a,o')::post)->Fr F.Up F.L s'.heap m'->s'.gens=s.gens->s'.os=s.os->s'.drawn=s.drawn->RS w (JS w la G old co lo ng (e1++(a,o')::e2)) F m' st fz s')->qC)->qC
theorem RS.ex_cell{e1 e2:ad} (R:RS w (JS w la G old co lo ng (e1++(a,o)::e2)) F m st fz s):Tg w la G old co lo ng e1 a o e2 F st fz s:=by
 refine R.ex_open _ ?_;rintro tl N nd back
 rw[BH] at N nd
 exact fun qq qk=>qk (tl++e1) (e2++fz) N nd fun o' s' m' N' F' hg ho hd=>back _ fz s' m' (fun qq h=>h) (BH▸N') (BH▸eT nd) F' hg ho hd
theorem News.turn{o':Obj} (N:News Up L h (pre++(a,o)::post)) (nd:((pre++(a,o)::post).map (·.1)).Nodup) (hx:Heap.ExtBut a h h') (ho:h'.get? a=some o'):News Up L h' (pre++(a,o')::post):=pT N nd hx ho
theorem Fr.turn(F:Fr Up L h m) (N:News Up L h (pre++(a,o)::post)) (hx:Heap.ExtBut a h h'):Fr Up L h' m :=
 have z:=(N (a,o) aD).2
 ⟨F.ns.extBut hx (Ne.symm z.1),fun b x e=>hx b x (fun q=>bN (z.2.symm.trans (q▸e))) (F.keep b x e),F.above⟩
theorem News.lose(N:News Up L h (pre++(a,o)::post)) (nd:((pre++(a,o)::post).map (·.1)).Nodup) (hx:Heap.ExtBut a h h'):News Up L h' (pre++post):=fun p hp=>⟨hx _ _ (bv nd p hp) (N p (cJ hp)).1,(N p (cJ hp)).2⟩
theorem RS.lose_ex{e1 e2:ad} (R:RS w (JS w la G old co lo ng (e1++(a,o)::e2)) F m st fz s) (hx:Heap.ExtBut a s.heap h'):RS w (JS w la G old co lo ng (e1++e2)) F m st fz {s with heap:=h'}:=by
 refine R.ex_open _ ?_;rintro tl N nd back
 have sub:(tl++(e1++e2)++fz).Sublist (tl++(e1++(a,o)::e2)++fz):=((List.Sublist.refl tl).append ((List.Sublist.refl e1).append (List.sublist_cons_self _ _))).append (List.Sublist.refl fz)
 have nd1:=(sub.map (·.1)).nodup nd
 rw[BH] at N nd
 have e:tl++(e1++e2)++fz=(tl++e1)++(e2++fz):=by rw[Xo,Xo,Xo]
 exact back _ fz _ m (fun qq h=>h) (e▸News.lose N nd hx) nd1 (Fr.turn R.fr N hx) rfl rfl rfl
end
structure gy(w:Xj) (la:LA) (G:eu) (old:Bool) (co:W3) (lo ng:Nat):Prop where
 ga:la.ga=G.ga1
 lo:la.lo=lo
 more:la.more=fun qq=>none
 co:la.co=co
theorem gy.z0{old:Bool} (Z:gy w la G old co lo ng) (ex:ad):Z0 w la (bV w G old co lo ng ex):=⟨eo,CI Z.ga Z.lo,Z.more,nJ⟩
theorem gy.z1{old:Bool} (Z:gy w la G old co lo ng) (ex:ad):Z1 w la (bV w G old co lo ng ex):=⟨Z.z0 ex,nJ,Gc (Z.z0 ex)⟩
end
section
noncomputable def jm:List Str:=["self", "sequence", "chars", "valid", "char"]
noncomputable def ul:T:= .asg 4 (.mcall (.loc 0) 30 .nil)
noncomputable def nS:Ts:= .cons (.ite (.tand (.loc 4) (.cmp .In (.attr (.loc 4) 5) (.loc 3))) (.cons .cont .nil) (.cons .dead (.cons .dead .nil))) .nil
noncomputable def SG:Stmt:=cP (B0 258).tail
noncomputable def Jd:List Stmt:=(eO SG).2.1
noncomputable def PV:Stmt:=cP Jd
noncomputable def SP:Stmt:=cP Jd.tail
noncomputable def Q4:List Stmt:=Jd.tail.tail
theorem PO(P:W1):ay (ah P 258)=B0 258:=by kernel_rfl
theorem QB(P:W1):(ah P 258).scope=S0 258:=by kernel_rfl
theorem PQ:B0 258=[cP (B0 258),SG,cP (B0 258).tail.tail]:=by kernel_rfl
theorem RL:Jd=PV::SP::Q4:=by kernel_rfl
theorem IA:jJ jL (S0 258) jm ul PV:=⟨by kernel_rfl,by kernel_rfl⟩
theorem FV:cq jL (S0 258) jm nS Q4:=⟨by kernel_rfl,by kernel_rfl⟩
theorem L8(P:W1):bl P 258:=⟨by kernel_rfl,by kernel_rfl,by kernel_rfl⟩
theorem C7(P:W1) (a b:WY):X1 (ah P 258) ⟨[a,b],[]⟩=(pure [(W8 "self",a),(W8 "sequence",b)]:Sem (List (Str×WY))):=by kernel_rfl
theorem HG(P:W1):aA (ah P 258).scope ["self", "sequence"]=true:=by kernel_rfl
theorem mY:jm.Nodup:=by decide +kernel
section
variable {old:Bool}{st:LS}
theorem zK(FO:aa w F) (hS:F.sc=S0 258) {e1 e2:ad} (R:RS w (JS w la G old co lo ng (e1++(a,W0 vs.toArray n)::e2)) F m st fz s) (hz:vs.length<=1000) (ha:m "chars" = some (.ref a)) (hv:m "char" = some v) {Q:Flow->W2->Prop}
   (h:∀s' n',RS w (JS w la G old co lo ng (e1++(a,W0 (vs++[v]).toArray n')::e2)) F m st fz s'->Q .next s'):wpAny (model ae w) A (exec SP F.env) Q E s:=by
 show wpAny (model ae w) A (exec (.Expr (.Call (.Attribute (.Name "chars" _) "append" _) [.Name "char" _] [] _) _) F.env) Q E s
 refine R.ex_cell _ ?_;rintro pre post N nd back
 refine wpAny_Expr_any ?_ (aT FO) (by rfl)
 refine methodCall_KW (pl:=(do return (←importBound _ F.env).getD true)) (kws:=[]) (dy FO R (ln hS (by kernel_rfl)) ha ?_) (bI rfl rfl rfl)
 refine kl_method N (W4 _ (.head _)) PySem.F.slot_list_append PySem.F.type_list_append ?_
 refine XZ (P:=fun qq=>True) rfl (fun h qq=>aB w _ h) ?_
 refine aq (Xz (dy FO R (ln hS (by kernel_rfl)) hv (args_nil ⟨trivial,?_⟩))) rfl
 refine append_K R.fr N (fe nd) (fun h' F' N'=>h _ (n+1) (back (W0 (vs++[v]).toArray (n+1)) _ m ((congrArg (fun l=>W0 l (n+1)) (List.push_toArray vs v))▸N') F' rfl rfl rfl)) ?_
 exact(XO:vs.toArray.size=_)▸WZ hz (by decide)
theorem Cu(Z:gy w la G old co lo ng) (FO:aa w F) (hS:F.sc=S0 258) (LV:aU F.A 26) {e1 e2:ad}{sa:List V}{sc:List Ch}{c:Ch}{v:Str}{sq:V}{x4:Option V} (R:RS w (JS w la G old co lo ng (e1++(a,W0 vs.toArray n)::e2)) F m ⟨sa,sc,c::r⟩ fz s) (hz:vs.length<=1000) (hm:ck c.c v=true)
   (L:Lc w.params la jm [some .self,some sq,some (.raw (.ref a)),some (.str v),x4] m fz) {Q:Flow->W2->Prop} (HE:PassesOwn (model ae w) F.A F.env E)
   (h:∀m' vs' fz' s' n',(∀p∈fz,p∈fz')->vs'.length=vs.length+1->Lc w.params la jm [some .self,some sq,some (.raw (.ref a)),some (.str v),some (.chr c)] m' fz'->RS w (JS w la G old co lo ng (e1++(a,W0 (X5 vs') n')::e2)) F m' ⟨sa,c::sc,r⟩ fz' s'->Q .cont s') :
   wpAny (model ae w) F.A (execs Jd F.env) Q E s:=by
 rw[RL]
 have Y:=Z.z1 (e1++(a,W0 vs.toArray n)::e2)
 refine Xa (om (Ex:=fun qq qq=>False) (jQ Y (nA Y (by decide:24<=26))) FO LV mY ul PV (hS▸IA) _ [some .self,some sq,some (.raw (.ref a)),some (.str v),x4] ⟨sa,sc,c::r⟩ fz s (fun fl ρ st'=>fl= .next/\ρ=[some .self,some sq,some (.raw (.ref a)),some (.str v),some (.chr c)]/\st'=⟨sa,c::sc,r⟩) _ _
   (⟨rfl,rfl,rfl⟩:Fl.next= .next/\[some V.self,some sq,some (.raw (.ref a)),some (.str v),some (.chr c)]=[some V.self,some sq,some (.raw (.ref a)),some (.str v),some (.chr c)]/\LS.mk sa (c::sc) r=⟨sa,c::sc,r⟩) R L (fun fl ρ st' fz' m' s' xf hk hf R' L' rf=>?_) (fun qq qq qq qq qq hx=>hx.elim) HE)
 obtain⟨rfl,rfl,rfl⟩:=hk
 cases rf
 obtain⟨xa,hxa,ra⟩:=L' 2 "chars" _ rfl rfl
 obtain rfl:=ra.view
 obtain⟨xc,hxc,rc⟩:=L' 4 "char" _ rfl rfl
 refine Xa (zK FO hS R' hz hxa hxc fun s'' n' R''=>?_)
 have Y2:=Z.z1 (e1++(a,W0 (vs++[xc]).toArray n')::e2)
 have hw:i5 (uZ Rk fun qq qq qq=>none) (fun qq qq=>False) nS [some .self,some sq,some (.raw (.ref a)),some (.str v),some (.chr c)] ⟨sa,c::sc,r⟩ (fun fl ρ st'=>fl= .cont/\ρ=[some .self,some sq,some (.raw (.ref a)),some (.str v),some (.chr c)]/\st'=⟨sa,c::sc,r⟩):=by
   exact(fX (rp hm) ⟨rfl,rfl,rfl⟩:opt (rB .In (.str ⟨#[c.c]⟩) (.str v)) fun q=>opt (fi q) fun b=>match b with|true=>Fl.cont= .cont/\[some V.self,some sq,some (V.raw (.ref a)),some (V.str v),some (V.chr c)]=[some V.self,some sq,some (V.raw (.ref a)),some (V.str v),some (V.chr c)]/\LS.mk sa (c::sc) r=⟨sa,c::sc,r⟩|false=>False)
 refine n9 (Ex:=fun qq qq=>False) (jQ Y2 (nA Y2 (by decide:24<=26))) FO LV mY nS Q4 (hS▸FV) _ _ _ fz' s'' _ _ _ hw R'' L' (fun fl ρ st' Uy Vd Uq xf hk Uu Uo UL rf=>?_) (fun qq qq qq qq qq hx=>hx.elim) HE
 obtain⟨rfl,rfl,rfl⟩:=hk
 cases rf
 exact h Vd _ Uy Uq n' (fun p hp=>Uu p (hf p hp)) (Xg (as:=vs) (bs:=[xc])) UL Uo
noncomputable def Gq(sa:List V) (sc:List Ch) (c1 c2:Ch) (r:List Ch):Nat->LS
 |0=>⟨sa,sc,c1::c2::r⟩
 |1=>⟨sa,c1::sc,c2::r⟩
 |_=>⟨sa,c2::c1::sc,r⟩
noncomputable def Hf(v1 v2:Str) (t1 t2:Tok) (x y:LS) (i:Nat):Prop:=∀qC:Prop,(∀(sa:List V) (sc:List Ch) (c:Ch) (r':List Ch) (v:Str) (t:Tok),(#[Value.str v1 t1,.str v2 t2]:Array WY)[i]?=some (.str v t)->x=⟨sa,sc,c::r'⟩->ck c.c v=true->y=⟨sa,c::sc,r'⟩->qC)->qC
theorem AP{sa:List V}{sc:List Ch}{c1 c2:Ch}{v1 v2:Str}{t1 t2:Tok} (hm1:ck c1.c v1=true) (hm2:ck c2.c v2=true):∀{i:Nat},i<2->Hf v1 v2 t1 t2 (Gq sa sc c1 c2 r i) (Gq sa sc c1 c2 r (i+1)) i
 |0,_=>fun qq qk=>qk sa sc c1 (c2::r) v1 t1 rfl rfl hm1 rfl
 |1,_=>fun qq qk=>qk sa (c1::sc) c2 r v2 t2 rfl rfl hm2 rfl
noncomputable def Um(w:Xj) (la:LA) (G:eu) (old:Bool) (co:W3) (lo ng:Nat) (ex:ad) (F:Fm) (fz:ad) (ls ca it:W3) (sq:V) (at':Nat->LS) (k:Nat) (UB:W2):Prop:=∀qC:Prop,(∀(i:Nat) (m':Str->Option WY) (fz':ad) (oi:Obj) (vs:List WY) (n:Nat) (x3 x4:Option V),k+i=2->bP ls i oi->(∀p∈fz,p∈fz')->vs.length=i->Lc w.params la jm [some .self,some sq,some (.raw (.ref ca)),x3,x4] m' fz' ->
     RS w (JS w la G old co lo ng ((it,oi)::(ca,W0 (X5 vs) n)::ex)) F m' (at' i) fz' UB->qC)->qC
theorem HL(Z:gy w la G old co lo ng) (ex:ad):DH w la (bV w G old co lo ng ex) where
 ok F m st fz s v1 v2 xv K Q E FO LV R rv h P:=by
   obtain⟨sa,sc,sr⟩:=st
   rcases sr with qq|⟨c1,sr⟩
   . exact h.elim
   . cases sr with
     |nil=>exact h.elim
     |cons c2 r =>
   obtain⟨hm1,hm2,hK⟩:=(h:ck c1.c v1=true/\ck c2.c v2=true/\K (.bool true) ⟨sa,c2::c1::sc,r⟩)
   obtain⟨ls,nl,vs,rfl,hls,rvs⟩:=rv.view
   obtain⟨a,b,ra,rb⟩:=rvs.two
   obtain⟨t1,rfl⟩:=ra.view
   obtain⟨t2,rfl⟩:=rb.view
   refine wpAny_call (fo (n:=26) FO LV (L8 _) (.of_eq (C7 _ _ _)) (au (HG _) rfl) R fun F' s' C FO' LV' he hsc R'=>?_)
   have hS:F'.sc=S0 258:=hsc.trans (QB _)
   have hlist:∀{e:ad}{m:Str->Option WY}{st:LS}{fz':ad}{s:W2},(∀p∈fz,p∈fz')->RS w (JS w la G old co lo ng e) F' m st fz' s->s.heap.IsList ls #[Value.str v1 t1,.str v2 t2]:=fun k R =>
     ⟨_,hls.elim (fun h=>R.get (k _ h)) fun h=>FO'.G.X.keeps R.fr.keep _ _ h,rfl,nl,rfl⟩
   have e:ay (ah w.params 258)=[.Assign [.Name "chars" _] (.List [] _) _,.For (.Name "valid" _) (.Name "sequence" _) Jd [] _,.Return (some (.Constant (.bool true) _ _)) _]:=((PO _).trans PQ).trans rfl
   rw[e]
   have h1:ak F'.sc "chars" = true:=ln hS (by kernel_rfl)
   refine Xa (XK ?_ (by rfl))
   rw[arm_eval_List]
   refine W6 (wpAny_standAt (W6 (args_nil (wpAny_newList ?_ (by decide)))))
   have R1:RS w (JS w la G old co lo ng ((s'.heap.objs.size,W0 (X5 []) 0)::ex)) F' _ _ fz {s' with heap:=s'.heap.push {cls:= .type "list",data:= .seq [].toArray}}:=RS.alloc_ex (o:=W0 #[] 0) R' rfl
   generalize s'.heap.objs.size=ca at R1 ⊢
   refine aM FO' R1 h1 fun Uq Uo=>?_
   have n2:("sequence" : Str) ≠ "chars" := by decide +kernel
   have n3:("self" : Str) ≠ "sequence" := by decide +kernel
   have hL1:=(y4 (P:=w.params) (la:=la) (ns:=["chars", "valid", "char"]) (us:=[none,none,none]) (bJ 3) n3 .self rv).set mY (i:=2) (n := "chars") rfl (v:= .raw (.ref ca)) (xv:= .ref ca) (.raw _)
   refine Xa (wpAny_For (dy FO' Uo (ln hS (by kernel_rfl)) (v:= .ref ls) ((if_neg n2).trans (by kernel_rfl)) ?_))
   refine wpAny_pyIter_list (hlist (fun qq h=>h) Uo) ?_
   have R3:=RS.alloc_ex (o:={cls:= .type "list_iterator",data:= .fields #[.ref ls,.int 0 0]}) Uo rfl
   generalize Uq.heap.objs.size=it at R3 ⊢
   refine codeAny_forLoop (Um w la G old co lo ng ex F' fz ls ca it (.lst [.str v1,.str v2]) (Gq sa sc c1 c2 r)) ?_ 2 (fun qq qk=>qk 0 _ fz _ [] 0 none none rfl ⟨rfl,rfl⟩ (fun qq h=>h) rfl hL1 R3)
   intro k UB qi;refine qi _ ?_;rintro i m' fz' oi vs n x3 x4 hk hoi hfz hlen L' R'
   refine(RS.ex_cell (e1:=[]) R') _ ?_;rintro pre post N nd back
   have hit':UB.heap.IsListIter it ls i:=⟨oi,(N (it,oi) aD).1,hoi⟩
   have hi2:i<=2:=hk▸Nat.le_add_left i k
   rcases Nat.lt_or_ge i 2 with hi|hi
   . refine(AP (sa:=sa) (sc:=sc) (r:=r) (t1:=t1) (t2:=t2) hm1 hm2 hi) _ ?_;rintro sa' sc' c r' v t hx hst hmem hnext
     refine wpAny_pyNext_list_item hit' (hlist hfz R') hx fun h' hit2 hs2=>?_
     obtain⟨oi2,ho2,hoi2⟩:=hit2
     have R5:=hst▸back oi2 {UB with heap:=h'} m' (News.turn N nd hs2.extBut ho2) (Fr.turn R'.fr N hs2.extBut) rfl rfl rfl
     refine wpAny_assign_Name (aM FO' R5 (ln hS (by kernel_rfl)) fun V3 R6=>?_)
     refine wpAny_passesOwn PassesOwn.leaving (Cu Z FO' hS LV' (e1:=[(it,oi2)]) (e2:=ex) R6 (hlen▸WZ hi2 (by decide)) hmem (L'.set mY (i:=3) (n := "valid") rfl (v:= .str v) (xv:= .str v t) (.str _ _)) PassesOwn.leaving fun m7 vs7 fz7 s7 n7 hk7 hl7 L7 R7=>?_)
     have hk0:0<k:=Nat.pos_of_ne_zero fun e=>Nat.lt_irrefl 2 (Xi (W9 (hk.symm.trans ((congrArg (. +i) e).trans (Nat.zero_add i)))) hi)
     exact⟨k - 1,Nat.sub_lt hk0 Nat.one_pos,fun qq qk=>qk (i+1) m7 fz7 oi2 vs7 n7 _ _ ((Nat.add_right_comm (k - 1) i 1).trans ((congrArg (. +i) (Nat.sub_add_cancel hk0)).trans hk)) hoi2 (fun p hp=>hk7 p (hfz p hp)) (hl7.trans (congrArg (. +1) hlen)) L7 (hnext▸R7)⟩
   . obtain rfl:=Nat.le_antisymm hi2 hi
     refine wpAny_pyNext_list_end LV'.hd hit' (hlist hfz R') rfl fun h' hx=>?_
     have R6:=(RS.lose_ex (e1:=[]) R' hx).drop_ex (ex':=ex) (List.sublist_cons_self _ _)
     refine Xw ?_
     show wpAny _ _ (execs [_] F'.env) _ _ _
     exact Xa (wpAny_Return_some (wpAny_Constant_bool ⟨_,_,fz',R6,fun Ur=>P _ _ _ _ _ hK hfz Ur (.bool _)⟩))
end
end
section
theorem gy.z2{old:Bool} (Z:gy w la G old co lo ng) (ex:ad):Z2 w la (bV w G old co lo ng ex) old :=
 ⟨Z.z1 ex,HL Z ex,fun r sc fz g h=>Z.co▸h _ fun qq qq qq qq OI qq=>OI⟩
noncomputable abbrev SD(w:Xj) (G:eu) (old:Bool) (co:W3) (lo ng:Nat) (ex:ad) (b:Bool):bR:=b.rec (bV w G old co lo ng ex) (iB w G old co lo ng ex)
noncomputable abbrev e0:L0:=⟨[],[],[],[]⟩
noncomputable abbrev JF(w:Xj) (la:LA) (G:eu) (old:Bool) (co:W3) (lo ng:Nat) (ex:ad):cu Bool:=bC la (fun b=>I0 w.params la (SD w G old co lo ng ex b) e0)
section
variable {old:Bool}
theorem iB.strm{sc:ad} (h:iB w G old co lo ng ex r sc fz g):bV w G old co lo ng ex r sc fz g:=h _ fun qq h qq qq=>h
theorem Ax:eL (iB w G old co lo ng ex) where
 mono:=fun r sc fz fz' g h k=>h _ fun sc0 h e d=>(fun qq qk=>qk sc0 (eo.mono _ _ _ _ _ h k) e d)
 gens:=fun r sc fz g g' h hs hg=>h _ fun sc0 h e d=>(fun qq qk=>qk sc0 (eo.gens _ _ _ _ _ h hs hg) e (d.gens fun gs e=>(hg _ (XJ.mp e).1).trans e))
theorem z6:∀(b:Bool),eL (SD w G old co lo ng ex b)
 |true=>Ax
 |false=>eo
theorem SD.strm{sc:ad} (h:SD w G old co lo ng ex b r sc fz g):bV w G old co lo ng ex r sc fz g:=by
 cases b
 . exact h
 . exact iB.strm h
theorem RS.of_jf(R:RS w (JF w la G old co lo ng ex) F m b fz s):RS w (J0 w.params la (SD w G old co lo ng ex b)) F m e0 fz s:=⟨R.fr,R.led,R.os,R.dr,R.lo⟩
theorem RS.to_jf(R:RS w (J0 w.params la (SD w G old co lo ng ex b)) F m e0 fz s):RS w (JF w la G old co lo ng ex) F m b fz s:=⟨R.fr,R.led,R.os,R.dr,R.lo⟩
theorem tR:bZ (JF w la G old co lo ng ex):=⟨fun b mu fz fz' g h k=>(jY (P:=w.params) (la:=la) (z6 b)).mono _ mu fz fz' g h k⟩
theorem xV:gc (JF w la G old co lo ng ex):=⟨fun qq qq qq qq h=>Bp.lex _ _ _ _ h⟩
noncomputable def S2:Nat->Hd Bool:=cD 5 (h2 fun g n qq K qq=>opt (yA g) fun qq=>opt (isNone n) fun qq=>K .none true) qm
theorem GU(Z:gy w la G old co lo ng) (hn:20<=n):aW w (JF w la G old co lo ng ex) n S2:= .bn 4 rfl (fun F m st fz s vs xs kw xk K X Q E FO LV R rvs rk h P PE=>(iV h rvs rk).casesOn fun o x v u ro rx h=>by
 obtain⟨qq,e,h⟩:=ac h
 obtain⟨qq,e',h⟩:=ac h
 obtain rfl:=uf e;obtain rfl:=dL e';obtain rfl:=ro.view;obtain rfl:=rx.view
 exact mU (ex:=ex) Z.ga FO (LV.le hn) (R.of_jf.weak fun qq qq qq qq h=>SD.strm h) Z.lo (fun qq fz' s' hk R'=>P _ _ _ _ _ h hk (RS.to_jf (b:=true) R') .none) fun c r hr=>(List.cons_ne_nil c r hr.symm).elim) .nil
noncomputable def TR(k:Nat) (qq:Bool):Option Bool:=match Nat.beq k 1 with|true=>some false|false=>none
noncomputable abbrev MN:lz Bool:=oO true TR S2 (fun qq qq qq=>none)
theorem yX(Z:gy w la G old co lo ng) (hn:20<=n):aI w (JF w la G old co lo ng ex) MN n :=
 eX tR xV (fun qq F m st fz s k a R ha=>by
   obtain⟨xs,hk⟩:=DF (st:=e0) Z.more ha
   refine(cm R.of_jf hk ha) _ ?_;rintro pre post vs nn r N qq qq
   exact⟨_,_,_,N,aD⟩)
   (fun F m st fz s k a b A Q E R ha hb h=>by
     have hb':(match Nat.beq k 1 with|true=>some false|false=>none)=some b:=hb
     cases hk:Nat.beq k 1 with
     |true =>
       rw[hk] at hb'
       cases hb';cases X2 hk
       exact mr (xs:=[]) R.of_jf (k:=1) rfl ha (Nat.zero_le _) (h _)
     |false=>rw[hk] at hb';exact bN hb') (GU Z hn) (fun qq qq qq qq qq qq qq qq qq qq qq qq qq qq qq qq qq qq qq qq qq h=>bN h)
theorem se(Z:gy w la G old co lo ng) (FO:aa w F) (LV:aU F.A 21) (R:RS w (JF w la G old co lo ng ex) F m b fz s) {K:V->Bool->Prop} (h:K .none true) (P:a8 w (JF w la G old co lo ng ex) F m fz K Q) :
   wpAny (model ae w) F.A (call (.ref 216) [.ref la.lx] []) Q E s :=
 fD (n:=20) (ns:=cL) (ir:=dC) (ρ:=[some .self,some (.bool true),none]) (K:=K) (Ex:=fun qq qq=>False) (yX Z (Xl _)) nJ FO LV (wD _)
   (tN (qz _) (qG _) (FO.G.X.keeps R.fr.keep _ _ (sB _)) rfl _) (au (rR _) rfl) on (qU _) R (y4 (ns:=["char"]) (us:=[none]) (bJ 1) (by decide +kernel) .self (.bool _)) h P (fun qq qq qq qq qq hx=>hx.elim)
noncomputable def Sm:Nat->Hd Bool:=cD 316 (s1 fun qq K qq=>K .none true) qm
theorem IB(Z:gy w la G old co lo ng) (hn:21<=n):aW w (JF w la G old co lo ng ex) n Sm:= .ref (a:=216) (fun F m st fz s vs xs kw xk K X Q E FO LV R rvs rk h P PE=>by
 obtain⟨rfl,rfl,h⟩:=rj h rvs rk
 exact se Z FO (LV.le hn) R h P) .nil
noncomputable abbrev No:lz Bool:=oO false (fun qq qq=>none) Sm (fun qq qq qq=>none)
theorem y6(Z:gy w la G old co lo ng) (hn:21<=n):aI w (JF w la G old co lo ng ex) No n :=
 eX tR xV (fun h=>ly h) (fun qq qq qq qq qq qq qq qq qq qq qq qq qq h=>bN h) (IB Z hn) (fun qq qq qq qq qq qq qq qq qq qq qq qq qq qq qq qq qq qq qq qq qq h=>bN h)
theorem v6(Z:gy w la G old co lo ng) (FO:aa w F) (LV:aU F.A 29) (R:RS w (JS w la G old co lo ng ex) F m ⟨[],[],[]⟩ fz s)
   (h:∀fz' s',(∀p∈fz,p∈fz')->RS w (J1 w.params la (SD w G old co lo ng ex true)) F m ⟨[],[],[]⟩ fz' s'->Q .none s'):codeAny (model ae w) F.A (.call (.ref 373) ⟨[.ref la.lx],[]⟩) (RQ Q E) s:=by
 refine R.down _ ?_;rintro b rest R0 e z
 obtain rfl:=(List.append_eq_nil_iff.mp e.symm).1
 obtain rfl:=(List.append_eq_nil_iff.mp e.symm).2
 refine rt (n:=28) (ns:=kf) (ir:=kD) (K:=fun v b=>v= .none/\b=true) (Ex:=fun qq qq=>False) (y6 Z (by decide)) nJ FO LV (Et _) (.of_eq (tZ _ _)) (au (yD _) rfl) pk (xP _) (RS.to_jf (b:=false) R0) (O8 (us:=sZ) kN .self) (⟨rfl,rfl⟩:V.none=V.none/\true=true) (fun v b' fz' s' xv hk hf R' rv=>?_) fun qq qq qq qq qq hx=>hx.elim
 obtain⟨rfl,rfl⟩:=hk
 obtain rfl:=rv.view
 exact h fz' s' hf (RS.lift (b:=[]) (rest:=[]) (a:=[]) (c:=[]) R'.of_jf (Nat.zero_le _))
end
end
section
noncomputable def rO(h:Heap) (n:Nat):Heap:={h with objs:=(h.objs.toList.take n).toArray}
theorem Bf:(rO h n).objs[a]?=if a<n then h.objs[a]? else none:=by
 show(h.objs.toList.take n).toArray[a]?=_
 rw[Ya,List.getElem?_take,Array.getElem?_toList]
theorem kg:(rO h n).get? a=some o↔h.get? a=some o/\a<n:=by
 rw[Heap.get?_eq_some,Heap.get?_eq_some,Bf]
 by_cases hl:a<n
 . rw[if_pos hl];exact⟨fun h=>⟨h,hl⟩,fun h=>h.1⟩
 . rw[if_neg hl];exact⟨fun h=>bN h.1,fun h=>absurd h.2 hl⟩
theorem vl:(rO h n).objs.size<=n:=WZ (W9 ((XO:(h.objs.toList.take n).toArray.size=_).trans List.length_take)) (Nat.min_le_left _ _)
structure ev(F F':Fm) (m:Str->Option WY):Prop where
 base:F'.base=F.base
 outer:F'.outer=F.env::F.outer
 os:F'.os=F.os
 dr:F'.dr=F.dr
 fr:Fr F.Up F.L F'.Up m
 ne:F'.L≠F.L
 new:F.Up.get? F'.L=none
noncomputable def iM(F:Fm) (s:W2) (led:List W3) (A:Yc) (q:Str) (sc:Scope) (L a:W3) (cd:WY) (cl:List (Str×W3)):Fm :=
 {A,UU:=F.A,base:=F.base,Up:=hideAll (rO s.heap L) led,outer:=F.env::F.outer,q,sc,L,a,cd,os:=F.os,dr:=F.dr,cl}
section
theorem jp{g:Heap}{C:W3->Prop} (hC:∀b o,C b->h.get? b=some o->g.get? b=some o):∀{l:List Env},h.FunFrames base l->(∀env∈l,∀b,env.frame=some b->C b)->g.FunFrames base l
 |[],_,_=>trivial
 |env::_,⟨h1,⟨UO,o,h2,h3,h4,h5⟩,h6⟩,hb=>⟨h1,⟨UO,o,h2,h3,hC _ _ (hb env (.head _) UO h2) h4,h5⟩,jp hC h6 fun e he=>hb e (.tail _ he)⟩
theorem Co(FO:aa w F) (U5:Fr F.Up F.L s.heap m) {led:ad} (N:News F.Up F.L s.heap led) {q:Str} (hk:sc.kind= .function) (hL:F.L<L) (hLn:F.Up.get? L=none)
   (hA:A.frames=some (PySem.W.envX q sc L a cd cl::F.env::F.outer)):aa w (iM F s (a7 led) A q sc L a cd cl)/\ev F (iM F s (a7 led) A q sc L a cd cl) m:=by
 have nm:∀b o,F.Up.get? b=some o->b∉a7 led:=fun b o e hm=>(Xp.mp hm).elim fun p hp=>bN ((N p hp.1).2.2.symm.trans (hp.2▸e))
 have hlt:F.Up.objs.size<=L:=WZ U5.above (Nat.le_of_lt hL)
 have st:∀b o,F.Up.get? b=some o->(hideAll (rO s.heap L) (a7 led)).get? b=some o:=fun b o e =>
   hideAll_get _ (kg.mpr ⟨U5.keep b o e,XT (XQ e) hlt⟩) (nm b o e)
 have bs:∀b o,F.base.get? b=some o->(hideAll (rO s.heap L) (a7 led)).get? b=some o:=fun b o e=>st b o (FO.B.stays b o e)
 obtain⟨oL,es,ep,hoL,r⟩:=U5.ns
 have nL:F.L∉a7 led:=fun hm=>(Xp.mp hm).elim fun p hp=>(N p hp.1).2.1 hp.2
 have hLg:(hideAll (rO s.heap L) (a7 led)).get? F.L=some oL:=hideAll_get _ (kg.mpr ⟨hoL,hL⟩) nL
 have K':=PySem.W.pushX (env:=F.env) FO.B U5 rfl FO.kind
 refine⟨⟨⟨FO.fr,bs,jp (C:=fun b=>b=F.L\/∃o,F.Up.get? b=some o) (fun b o hb e=>hb.elim (fun q=>?_) fun⟨o',q⟩=>XE ((U5.keep _ _ q).symm.trans e)▸st _ _ q) K'.frames fun env he b hb=>(Xb.mp he).elim (fun q=> .inl (XE (hb.symm.trans (q▸rfl)))) fun he=> .inr ((funFrames_in FO.B.frames env he).elim fun UO h=>h.elim fun Vz h=>⟨Vz,XE (h.1.symm.trans hb)▸h.2⟩)⟩,hA,FO.gb.keeps bs,hk,FO.gb⟩,⟨rfl,rfl,rfl,rfl,⟨⟨oL,es,ep,hLg,r⟩,st,U5.above⟩,XC hL,hLn⟩⟩
 subst q
 exact XE (hoL.symm.trans e)▸hLg
theorem CM{led:ad}{q:Str} (hL:s.heap.get? L=some oL) (hm:fL m' oL):Fr (iM F s (a7 led) A q sc L a cd cl).Up L s.heap m' :=
 ⟨dU hL hm,fun b o e=>(kg.mp (of_hideAll _ e)).1,WZ (W9 (hideAll_size ..)) vl⟩
theorem vG{led sub:ad} (h:∀p∈sub,p∈led/\s.heap.get? p.1=some p.2) {q:Str} (hL:∀p∈sub,p.1≠L):News (iM F s (a7 led) A q sc L a cd cl).Up L s.heap sub :=
 fun p hp=>⟨(h p hp).2,hL p hp,hideAll_none _ (Xv (h p hp).1)⟩
theorem pu{F':Fm} (U:ev F F' m) {m'':Str->Option WY} (Fr':Fr F'.Up F'.L s.heap m''):Fr F.Up F.L s.heap m :=
 have⟨o,es,ep,h,r⟩:=U.fr.ns
 ⟨⟨o,es,ep,Fr'.keep _ _ h,r⟩,fun b o e=>Fr'.keep b o (U.fr.keep b o e),U.fr.above⟩
theorem kJ{F':Fm} (U:ev F F' m) {led:ad} (N:News F'.Up F'.L s.heap led):News F.Up F.L s.heap led:=fun p hp =>
 have⟨o,_,_,h,_⟩:=U.fr.ns
 have e:=(N p hp).2.2
 ⟨(N p hp).1,fun q=>bN (e.symm.trans (q▸h)),Option.eq_none_iff_forall_ne_some.mpr fun qq q=>bN (e.symm.trans (U.fr.keep _ _ q))⟩
noncomputable def qj{σ:Type} (I:σ->ad->ad->Array Xf->Prop) (F:Fm) (m:Str->Option WY) (st:σ) (fz:ad) (p:bE) (e:WY) (s:W2):Prop:=∀qC:Prop,(∀(x d:W3) (es:List XH) (n:Nat) (mu:ad) (B:Heap),e= .ref x->(d,Xc es n)∈fz->jC fz es p->I st mu fz s.gens->((mu++fz).map (·.1)).Nodup->F.base.StaysIn B ->
   (∀q∈mu++fz,B.get? q.1=some q.2/\F.base.get? q.1=none)->rM B (F.env::F.outer) x (mZ d) s.heap->(∃UV,Fr F.Up F.L UV m/\UV.UpToSlots s.heap)->s.os=F.os->s.drawn=F.dr->qC)->qC
theorem qj.d(h:qj I F m st fz p e s):rU I F st fz p e s:=by
 refine h _ ?_;rintro x d es n mu B h1 h2 h3 h4 h5 h6 h7 h8 h9 h10 h11
 exact(fun qq qk=>qk x d es n mu B h1 h2 h3 h4 h5 h6 h7 h8 ⟨m,h9⟩ h10 h11)
theorem jq{F':Fm} (hA:A.frames=some (F'.env::F'.outer)) (U:ev F F' m) {Q:Unit->W2->Prop} (hz:rU I F' st fz p e s) (h:∀s',qj I F m st fz p e s'->Q () s'):wpAny (model ae w) A (leaving F'.env e) Q E s:=by
 refine hz _ ?_;rintro x d es n mu B rfl hd hp hI nd hB hl hfl ⟨Vc,UV,Uz,up⟩ ho hdr
 exact mM (iw d) hA (L:=F'.L) rfl hfl fun h' fl up' =>
   h _ (fun qq qk=>qk x d es n mu B rfl hd hp hI nd (U.base▸hB) (U.base▸hl) (U.outer▸fl) ⟨F'.Up,U.fr,((Heap.UpToSlots.of_keeps Uz.keep).trans up).trans up'⟩ (ho.trans U.os) (hdr.trans U.dr))
end
theorem ua{c:Code}{env:Env}{B:List Stmt}{K1:Flow->Sem XA}{x:WY}{P:End->W2->Prop}
   (hc:A.over c [lQ K1 (nG env) env (.func B env) p1]=A.over (.func B env) []) (h:wpAny (model ae w) (A.over (.func B env) []) (leaving env x) (fun qq Uq=>P (.ret (.error x)) Uq) (fun x' s'=>P (.ret (.error x')) s') s) :
   SegX (model ae w) A c (aK env x) [lQ K1 (nG env) env (.func B env) p1] s P:=by
 have h2:=wpAny_leaving_again (A':=A.over (.func B env) []) (A'':=A.over (.func B env) []) (SameStack.refl _) (what := "frame.own-activation:exception-without-traceback") (E₂:=fun qq qq=>False) (E₃:=fun qq qq=>False) h
 have lift:∀(y:WY) (s':W2),P (.ret (.error y)) s'->SegX (model ae w) A (.func B env) (.raise y) [] s' P:=fun y s' hy=>mG (.error y) hy
 have out:∀Un,wpAny (model ae w) (A.over (.func B env) []) (do
       if (←field x 1) == .none then unsupported "frame.own-activation:exception-without-traceback"
       setFlight x env.frame) (fun qq Uq=>wpAny (model ae w) (A.over (.func B env) []) (leaving env x) (fun qq Uq=>P (.ret (.error x)) Uq) (fun x' s'=>P (.ret (.error x')) s') Uq) (fun qq qq=>False) Un ->
     SegX (model ae w) A c (.raise x) [lQ K1 (nG env) env (.func B env) p1] Un P:=by
   intro Un h₁
   refine gW (.error x) ?_
   show SegX (model ae w) A (.func B env) ((((do
       if (←field x 1) == .none then unsupported "frame.own-activation:exception-without-traceback"
       setFlight x env.frame):Sem Unit).bind (fun qq=>(Sem.raise x:Sem Flow))).wrap K1 (nG env) id id) [] Un P
   rw[Sem.bind_eq_wrap,X6]
   refine bX (Xq h₁ (fun qq Uq UI=>?_) fun qq qq hx=>hx.elim)
   show SegX (model ae w) A (.func B env) ((leaving env x).wrap (fun qq=> .raise x) .raise id id) [] Uq P
   exact bX (Xq UI (fun qq Ut UJ=>lift x Ut UJ) fun x' s' hx=>lift x' s' hx)
 refine bX ?_
 rw[hc]
 exact W6 (Xq h2 (fun qq Un h₁=>wpAny_theTreesLotGoes (out Un h₁)) fun qq qq hx=>hx.elim)
end
section
structure GQ(G:eu) (g g':Array Xf):Prop where
 size:g.size<=g'.size
 same:∀i,i=G.i0\/i=G.i1->∀gs,g[i]?=some gs->g'[i]?=some gs
 bare:AllBare g->AllBare g'
theorem GQ.refl(G:eu) (g:Array Xf):GQ G g g:=⟨Xl _,fun qq qq qq h=>h,fun h=>h⟩
theorem GQ.set{gs:Xf} (h0:i≠G.i0) (h1:i≠G.i1) (hb:gs.bare=true):GQ G s.gens (s.setGen i gs).gens :=
 have f:=fj (s:=s) (i:=i) hb
 ⟨W9 f.1.symm,fun j hj gs' e=>(f.2.1 j (hj.elim (fun q=>q▸h0.symm) fun q=>q▸h1.symm)).trans e,f.2.2⟩
theorem GQ.push{gs:Xf} (hb:gs.bare=true):GQ G g (g.push gs) :=
 ⟨WZ (Nat.le_succ _) (W9 (Array.size_push ..).symm),fun i qq gs' e=>(Array.getElem?_push_lt (XJ.mp e).1).trans ((Array.getElem?_eq_getElem (XJ.mp e).1).symm.trans e),fun h=>h.push hb⟩
noncomputable def Kz(w:Xj) (G:eu) {σ:Type} (Jf:ad->cu σ) (ex:ad) (F:Fm) (st:σ) (fz:ad) (s:W2):Prop:=∀qC:Prop,(∀(tl:ad),News F.Up F.L s.heap (tl++ex++fz)->(a7 (tl++ex++fz)).Nodup ->
   (∀(F':Fm) (ex' fz':ad) (s':W2) m',F'.os=F.os->F'.dr=F.dr->F'.base=F.base->(∀p∈fz,p∈fz')->News F'.Up F'.L s'.heap (tl++ex'++fz')->(a7 (tl++ex'++fz')).Nodup->Fr F'.Up F'.L s'.heap m'->GQ G s.gens s'.gens->s'.os=s.os->s'.drawn=s.drawn ->
     RS w (Jf ex') F' m' st fz' s')->qC)->qC
structure eK(w:Xj) (G:eu) {σ:Type} (Jf:ad->cu σ):Prop where
 la:∀ex ex',(Jf ex').la=(Jf ex).la
 opn:∀ex F m st fz s,RS w (Jf ex) F m st fz s->Kz w G Jf ex F st fz s
theorem sA{S:ad->bR} (h:∀ex r sc fz g,S ex r sc fz g->∃sc0,sc=sc0++ex/\∀ex' fz' g',(∀p∈fz,p∈fz')->GQ G g g'->S ex' r (sc0++ex') fz' g'):eK w G (fun ex=>J1 w.params la (S ex)) where
 la:=fun qq qq=>rfl
 opn:=fun ex F m st fz s R=>by
   obtain⟨mu,qi,N,nd⟩:=R.led;refine qi _ ?_;rintro b rest qi e z;refine qi _ ?_;rintro lex ab va vb vc na nb nc ps sc rfl r1 r2 r3 ht hS
   obtain⟨sc0,rfl,hB⟩:=h _ _ _ _ _ hS
   exact fun qq qk=>qk ((la.tb,W0 va.toArray na)::(la.pb,W0 vb.toArray nb)::(la.ct,W0 vc.toArray nc)::(225,tabObj ps)::sc0) N nd fun F' ex' fz' s' m' e1 e2 e3 k N' nd' Uz hg ho hd =>
     ⟨Uz,⟨_,(fun qq qk=>qk b rest (fun qq qk=>qk ⟨k _ lex.1,k _ lex.2⟩ (hg.bare ab) va vb vc na nb nc ps (sc0++ex') rfl (r1.mono k) (r2.mono k) (r3.mono k) ht (hB ex' fz' _ k hg)) e z),N',nd'⟩,(ho.trans R.os).trans e1.symm,(hd.trans R.dr).trans e2.symm,e3.symm▸R.lo⟩
theorem gx{old:Bool}{sc:ad} (h:bV w G old co lo ng ex r sc fz g):∃sc0,sc=sc0++ex/\∀ex' fz' g',(∀p∈fz,p∈fz')->GQ G g g'->bV w G old co lo ng ex' r (sc0++ex') fz' g' :=
 h _ fun sc0 e hS Z OI hng=>⟨sc0,e,fun qq qq qq k hg=>(fun qq qk=>qk sc0 rfl (hS.imp (fun h=>fK (gX h hg.same) k) fun h=>h.gens (hg.same _ (.inr rfl))) (Z.mono k) (OI.mono k) (WZ hng hg.size))⟩
theorem ip{old:Bool}:eK w G (JS w la G old co lo ng):=sA fun qq qq qq qq qq h=>gx h
section
variable {Jf:ad->cu σ}
theorem jA{x:W3×Obj}:(tl++x::ex++fz).Perm (x::(tl++ex++fz)):=XF.append_right fz
noncomputable def GK(w:Xj) (G:eu) {σ:Type} (Jf:ad->cu σ) (ex:ad) (F:Fm) (m m':Str->Option WY) (st:σ) (fz:ad) (s s':W2) (A:Yc) (q:Str) (sc:Scope) (L a:W3) (cd:WY) (cl:List (Str×W3)):Prop:=∀qC:Prop,(∀(led:List W3),aa w (iM F s led A q sc L a cd cl)->ev F (iM F s led A q sc L a cd cl) m->RS w (Jf ex) (iM F s led A q sc L a cd cl) m' st fz s'->qC)->qC
theorem ik(JO:eK w G Jf) (FO:aa w F) (R:RS w (Jf ((L,oL)::ex)) F m st fz s) (hm:fL m' oL) {gs:Xf} (h0:i≠G.i0) (h1:i≠G.i1) (hb:gs.bare=true) {q:Str} (hk:sc.kind= .function) (hL:F.L<L)
   (hA:A.frames=some (PySem.W.envX q sc L a cd cl::F.env::F.outer)):GK w G Jf ex F m m' st fz s (s.setGen i gs) A q sc L a cd cl:=by
 refine(JO.opn _ _ _ _ _ _ R) _ ?_;rintro tl N nd back
 have nd2:=XD.mp ((jA.map (·.1)).nodup_iff.mp nd)
 have N2:=fun p hp=>N p (jA.mem_iff.mpr hp)
 have hLm:=N2 _ (.head _)
 have N':News F.Up F.L s.heap (tl++ex++fz):=fun p hp=>N2 p (.tail _ hp)
 have⟨FO',U⟩:=Co (led:=tl++ex++fz) FO R.fr N' hk hL hLm.2.2 hA
 exact(fun qq qk=>qk (a7 (tl++ex++fz)) FO' U (back _ ex fz (s.setGen i gs) m' rfl rfl rfl (fun qq h=>h) (vG (fun p hp=>⟨hp,(N' p hp).1⟩) fun p hp e=>nd2.1 (gN e.symm (Xv hp))) nd2.2 (CM hLm.1 hm) (GQ.set h0 h1 hb) rfl rfl))
theorem m6(JO:eK w G Jf) {F':Fm} (U:ev F F' m) (R:RS w (Jf ex) F' m' st fz s) {gs:Xf} (h0:i≠G.i0) (h1:i≠G.i1) (hb:gs.bare=true) :
   ∃oL,fL m' oL/\RS w (Jf ((F'.L,oL)::ex)) F m st fz (s.setGen i gs):=by
 refine(JO.opn _ _ _ _ _ _ R) _ ?_;rintro tl N nd back
 obtain⟨oL,hL,hm⟩:=iG R.fr.ns
 have N2:=kJ U N
 exact⟨oL,hm,back F _ fz _ m U.os.symm U.dr.symm U.base.symm (fun qq h=>h) (fun p hp=>(Xb.mp (jA.mem_iff.mp hp)).elim (fun e=>e▸⟨hL,U.ne,U.new⟩) fun hp=>N2 p hp) ((jA.map (·.1)).nodup_iff.mpr (XD.mpr ⟨fun hmm=>(Xp.mp hmm).elim fun p hp=>(N p hp.1).2.1 hp.2,nd⟩)) (pu U R.fr) (GQ.set h0 h1 hb) rfl rfl⟩
theorem tn(JO:eK w G Jf) {F':Fm} (U:ev F F' m) (R:RS w (Jf ex) F' m' st fz s) {gs:Xf} (h0:i≠G.i0) (h1:i≠G.i1) (hb:gs.bare=true):RS w (Jf ex) F m st fz (s.setGen i gs):=by
 refine(JO.opn _ _ _ _ _ _ R) _ ?_;rintro tl N nd back
 exact back F ex fz _ m U.os.symm U.dr.symm U.base.symm (fun qq h=>h) (kJ U N) nd (pu U R.fr) (GQ.set h0 h1 hb) rfl rfl
theorem pD(JO:eK w G Jf) (R:RS w (Jf ex) F m st fz s) {t:Nat} (hk:∀b o,s.heap.get? b=some o->h'.get? b=some o):RS w (Jf ex) F m st fz {s with heap:=h',toks:=t}:=by
 refine(JO.opn _ _ _ _ _ _ R) _ ?_;rintro tl N nd back
 exact back F ex fz _ m rfl rfl rfl (fun qq h=>h) (fun p hp=>⟨hk _ _ (N p hp).1,(N p hp).2⟩) nd (R.fr.keeps hk) (GQ.refl _ _) rfl rfl
end
section
theorem po:typeLookup (.type "method") "__bool__" = pure none:=by rw[typeLookup_type,builtinLookup_eq_fast];kernel_rfl
theorem qI:typeLookup (.type "method") "__len__" = pure none:=by rw[typeLookup_type,builtinLookup_eq_fast];kernel_rfl
theorem pg{q:W3}{Q:Bool->W2->Prop} (hT:s.TypeIs (.ref q) "method") (h:Q true s):wpAny M A (truthy (.ref q)) Q E s:=by
 unfold truthy
 refine W6 (m:=callSpecial? (.ref q) (W8 "__bool__")) (W6 (wpAny_specialOf hT po (Xk ?_)))
 refine W6 (wpAny_specialOf hT qI ?_)
 exact Xk h
end
end
section
noncomputable def gj:List Str:=["self", "characters", "start_state", "state"]
noncomputable def OQ:X:= .attr (.loc 0) 0
noncomputable def EC:X:= .mcall (.attr (.loc 0) 0) 41 (.cons (.k (.int 0)) .nil)
noncomputable def N8:W5->W5
 |.Yield (some e) _=>e
 |e=>e
noncomputable def Sy:Stmt:=cP (B0 208).tail.tail
noncomputable def Pf:W5:=bj Sy
noncomputable def Pg:List Stmt:=(eO Sy).2.1
noncomputable def SE:Stmt:=cP Pg
noncomputable def Jc:W5:=bj SE
noncomputable def Fu:List Stmt:=(eO SE).2.1
noncomputable def O2:W5:=N8 (bj (cP Fu))
noncomputable def Pc:Stmt:=cP Pg.tail
theorem Ql(P:W1):ay (ah P 208)=B0 208:=by kernel_rfl
theorem K6(P:W1):(ah P 208).scope=S0 208:=by kernel_rfl
theorem Nw:iU jL (S0 208) gj OQ Jc:=⟨by kernel_rfl,by kernel_rfl⟩
theorem I7:iU jL (S0 208) gj EC O2:=⟨by kernel_rfl,by kernel_rfl⟩
theorem KN:(S0 208).isCoroutine=false:=by kernel_rfl
theorem wF(P:W1):e7 (ah P 208).scope=true:=by kernel_rfl
theorem ND:gj.Nodup:=by decide +kernel
inductive jF where
 |tok (t:V) (f:W3) (st:LS)|fin|err (p:bE)
inductive bd(old:Bool):W3->LS->jF->Prop
 |tok {f:W3}{t:V}{a:List V}{c r:List Ch}:bd old f ⟨t::a,c,r⟩ (.tok t f ⟨a,c,r⟩)
 |step {f:W3}{c r:List Ch}{f':W3}{st':LS}{res:jF}:f∈gV->dh old f ⟨[],c,r⟩ (fun v st=>v= .meth f'/\st=st') (fun qq qq=>False)->bd old f' st' res->bd old f ⟨[],c,r⟩ res
 |fin:bd old 373 ⟨[],[],[]⟩ .fin
 |err {f:W3}{c r:List Ch}{p:bE}{st':LS}:f∈gV->dh old f ⟨[],c,r⟩ (fun qq qq=>False) (fun q st=>q=p/\st=st')->bd old f ⟨[],c,r⟩ (.err p)
noncomputable abbrev GH(F:Fm):Code:= .whileLoop Pf Pg [] F.env
noncomputable abbrev wm(F:Fm):Code:= .whileLoop Jc Fu [] F.env
noncomputable abbrev Cb(F:Fm) (p2:Pos):Frame:=lQ (jG [Pc] F.env (jz (GH F)) (aK F.env)) (aK F.env) F.env (GH F) p2
section
variable {old:Bool}
theorem sW(Z:gy w la G old co lo ng) (FO:aa w F) (hS:F.sc=S0 208) (LV:aU F.A 20) {sa:List V}{sc sr:List Ch} (R:RS w (JS w la G old co lo ng ex) F m ⟨sa,sc,sr⟩ fz s) (L:Lc w.params la gj (some .self::ρ) m fz) {Q:Bool->W2->Prop}
   (h:∀fz' s',(∀p∈fz,p∈fz')->RS w (JS w la G old co lo ng ex) F m ⟨sa,sc,sr⟩ fz' s'->Q (!sa.isEmpty) s'):wpAny (model ae w) F.A (isTrue Jc F.env (eval Jc F.env)) Q E s:=by
 refine R.down _ ?_;rintro b rest R0 e z
 cases (e:sr=b++rest)
 have hz:sa.length<=100000:=WZ (WZ (WZ (XL _ _) (XL _ _)) (iE z)) (by decide)
 refine zq (ρ:=some .self::ρ) (Ex:=fun qq qq=>False) (em (w:=w) (n:=20) (Z.z0 ex).SO Z.more (di (Z.z0 ex).NO (Xl _))) FO LV OQ Jc (hS▸Nw) m ⟨sa,b.map .chr,sc.reverse.map .chr,rest⟩ fz s (fun b' st'=>b'=!sa.isEmpty/\st'=⟨sa,b.map .chr,sc.reverse.map .chr,rest⟩) Q E (fX (qK (k:=0) (st:=⟨sa,b.map .chr,sc.reverse.map .chr,rest⟩) rfl hz) ⟨rfl,rfl⟩:opt (OZ 0 ⟨sa,b.map .chr,sc.reverse.map .chr,rest⟩) fun b'=>b'=!sa.isEmpty/\L0.mk sa (b.map .chr) (sc.reverse.map .chr) rest=⟨sa,b.map .chr,sc.reverse.map .chr,rest⟩) R0 L (fun b' st' fz' s' hk' hf R'=>?_) (fun qq qq qq qq qq hx=>hx.elim)
 obtain⟨rfl,rfl⟩:=hk'
 exact h fz' s' hf (R'.lift z)
theorem Fi(Z:gy w la G old co lo ng) (FO:aa w F) (hS:F.sc=S0 208) (LV:aU F.A 20) {t:V}{a:List V}{c:List Ch} (R:RS w (JS w la G old co lo ng ex) F m ⟨t::a,c,r⟩ fz s) (L:Lc w.params la gj (some .self::ρ) m fz)
   (h:∀v fz' s',(∀p∈fz,p∈fz')->RV w.params la fz' t v->RS w (JS w la G old co lo ng ex) F m ⟨a,c,r⟩ fz' s'->Q v s'):wpAny (model ae w) F.A (eval O2 F.env) Q E s:=by
 refine R.down _ ?_;rintro b rest R0 e' z
 cases (e':r=b++rest)
 have z':(LS.mk a c (b++rest)).room:=WZ (XG (XG (Nat.le_succ _) _) _) z
 have hz:a.length<=100000:=WZ (WZ (WZ (XL _ _) (XL _ _)) (iE z')) (by decide)
 refine xG (ρ:=some .self::ρ) (Ex:=fun qq qq=>False) (em (w:=w) (n:=20) (Z.z0 ex).SO Z.more (di (Z.z0 ex).NO (Xl _))) FO LV EC O2 (hS▸I7) m ⟨t::a,b.map .chr,c.reverse.map .chr,rest⟩ fz s (fun v st'=>v=t/\st'=⟨a,b.map .chr,c.reverse.map .chr,rest⟩) Q E (⟨hz,rfl,rfl⟩:a.length<=100000/\t=t/\L0.mk a (b.map .chr) (c.reverse.map .chr) rest=⟨a,b.map .chr,c.reverse.map .chr,rest⟩) R0 L (fun v st' fz' s' xv hk' hf R' rv=>?_) (fun qq qq qq qq qq hx=>hx.elim)
 obtain⟨rfl,rfl⟩:=hk'
 exact h xv fz' s' hf rv (R'.lift z')
theorem qM{q:W3}{self:WY} (hq:s.heap.get? q=some (methodObj (.ref f) self)) (h:codeAny (model ae w) A (.call (.ref f) ⟨[self],[]⟩) (RQ Q E) s):wpAny (model ae w) A (call (.ref q) [] []) Q E s :=
 wpAny_call (method_call hq h)
theorem HW(P:W1) (hf:f∈gV):fnIn (KF P) f=true :=
 j9 (M:=fun f=>fnIn (KF P) f=true) hf ⟨cF (a:=20) rfl,cF (a:=21) rfl,cF (a:=22) rfl,cF (a:=24) rfl,cF (a:=25) rfl,cF (a:=26) rfl,cF (a:=27) rfl,cF (a:=28) rfl,trivial⟩
theorem ka(FO:aa w F) (hS:F.sc=S0 208) {J:cu LS}{ls:LS} (R:RS w J F m ls fz s) {q:W3} (hf:f∈gV) (hq:(q,methodObj (.ref f) (.ref J.la.lx))∈fz) (hm:m "state" = some (.ref q)) {Q:Flow->W2->Prop}
   (h:codeAny (model ae w) F.A (.call (.ref f) ⟨[.ref J.la.lx],[]⟩) (RQ (fun v s'=>wpAny (model ae w) F.A (storeName F.env "state" v) (fun qq=>Q .next) E s') E) s):wpAny (model ae w) F.A (exec Pc F.env) Q E s:=by
 show wpAny (model ae w) F.A (exec (.Assign [.Name "state" _] (.Call (.Name "state" _) [] [] _) _) F.env) Q E s
 exact XK (Call_ (dy FO R (ln hS (by kernel_rfl)) hm (callWith_M0 ⟨R.get hq,FO.G.X.keeps R.fr.keep⟩ (HW w.params hf) (qM (R.get hq) h))) rfl) (by rfl)
end
end
section
inductive o7(w:Xj) (la:LA) (G:eu) (old:Bool) (co:W3) (lo ng:Nat) (ex:ad) (F Fb:Fm) (Bd:List Stmt) (p1:Pos) (fz:ad):jF->End->W2->Prop
 |tok (t:V) (f:W3) (st:LS) (p2:Pos) (v:WY) (k:Resume->Sem XA) (lv:List WY) (p:Pos) (m':Str->Option WY) (fz':ad) (s':W2):jO w (wm F) [Cb F p2,ig F Bd p1] k->(∀p∈fz,p∈fz')->RV w.params la fz' t v->RS w (JS w la G old co lo ng ex) F m' st fz' s'->Lc w.params la gj [some .self,none,none,some (.meth f)] m' fz'->o7 w la G old co lo ng ex F Fb Bd p1 fz (.tok t f st) (.susp v false lv k (wm F) p [Cb F p2,ig F Bd p1]) s'
 |fin (m':Str->Option WY) (fz':ad) (s':W2):(∀p∈fz,p∈fz')->RS w (J1 w.params la (SD w G old co lo ng ex true)) F m' ⟨[],[],[]⟩ fz' s'->o7 w la G old co lo ng ex F Fb Bd p1 fz .fin (.ret (.ok (.ret .none))) s'
 |err (p:bE) (x:WY) (fz':ad) (st':LS) (s':W2):(∀p∈fz,p∈fz')->rU (I1 w.params la (bV w G old co lo ng ex)) Fb st' fz' p x s'->ii w x s'->o7 w la G old co lo ng ex F Fb Bd p1 fz (.err p) (.ret (.error x)) s'
theorem o7.up{old:Bool}{Bd:List Stmt}{Uy:ad}{res:jF}{e:End} (h:o7 w la G old co lo ng ex F Fb Bd p1 Uy res e s) (up:∀p∈fz,p∈Uy):o7 w la G old co lo ng ex F Fb Bd p1 fz res e s:=by
 induction h with
 |tok t f st p2 v k lv p m' fz' s' a b c d e=>exact .tok t f st p2 v k lv p m' fz' s' a (fun p hp=>b p (up p hp)) c d e
 |fin m' fz' s' a b=>exact .fin m' fz' s' (fun p hp=>a p (up p hp)) b
 |err p x fz' st' s' a b c=>exact .err p x fz' st' s' (fun p hp=>a p (up p hp)) b c
section
variable {old:Bool}
theorem fB(FO:aa w F) (hz:rU I F st fz p e s) (hs:s'.heap=s.heap):ii w e s':=by
 refine hz _ ?_;rintro x d es n mu B rfl hd hp hI nd hB hl qf ⟨m,UV,Uz,up⟩ qq qq;refine qf.t _ ?_;rintro oe vs T oT ts he hP qq qq qq qq qq qq qq
 intro A Q E hQ
 obtain⟨sl,hC⟩:=up _ _ (Uz.keep _ _ (FO.G.X _ _ (yq w.params))) (fun vs e=>nomatch e)
 rw[←hs] at hC he
 have hty:wpAny (model ae w) A (typeOf (.ref x)) (fun v Uq=>v= .ref 156/\Uq=s') E s':=W6 (wpAny_loadPart he (Xk ⟨hP.1,rfl⟩))
 unfold isInstance
 refine W6 (Xq hty (fun v Uq hv=>?_) fun qq qq x=>x)
 obtain⟨rfl,rfl⟩:=hv
 unfold isSubtype mroOf classData
 refine W6 (W6 (W6 (wpAny_load hC (Xk (Xk ?_)))))
 exact Xk hQ
theorem DN(FO:aa w F) (hS:F.sc=S0 208) {J:cu σ} (R:RS w J F m st fz s) (hv:m "state" = some v) {Q:Bool->W2->Prop} (h:wpAny (model ae w) A (truthy v) Q E s):wpAny (model ae w) A (isTrue Pf F.env (eval Pf F.env)) Q E s:=by
 show wpAny _ _ (isTrue (.Name "state" _) F.env (eval (.Name "state" _) F.env)) Q E s
 exact isTrue_plain (dy FO R (ln hS (by kernel_rfl)) hv h) rfl
structure SL(A:Yc) (F:Fm) (Bd:List Stmt) (p1:Pos):Prop where
 a:∀p2,A.over (wm F) [Cb F p2,ig F Bd p1]=F.A
 b:A.over (GH F) [ig F Bd p1]=F.A
 c:A.over (.func Bd F.env) []=F.A
section
variable {Bd:List Stmt}{P:End->W2->Prop}
theorem ue(FO:aa w F) (hS:F.sc=S0 208) {f':W3}{ls:LS} (R:RS w (JS w la G old co lo ng ex) F m ls fz s) (L:Lc w.params la gj [some .self,none,none,some (.meth f')] m fz)
   (h:∀p2,SegX (model ae w) A (wm F) ((model ae w).den (wm F)) [Cb F p2,ig F Bd p1] s P):SegX (model ae w) A (GH F) ((model ae w).den (GH F)) [ig F Bd p1] s P:=by
 obtain⟨xq,hq,rq⟩:=L 3 "state" _ rfl rfl
 obtain⟨q,rfl,hqm⟩:=rq.view
 refine eA (DN FO hS R hq (pg ⟨_,R.get hqm,rfl⟩ ?_))
 show SegX _ _ _ ((execs [.While Jc Fu [] _,Pc] F.env).wrap _ _ id id) _ s P
 exact aw (t8 h)
theorem km(Z:gy w la G old co lo ng) (FO:aa w F) (hS:F.sc=S0 208) (LV:aU F.A 29) (W:SL A F Bd p1) {c:List Ch} (R:RS w (JS w la G old co lo ng ex) F m ⟨[],c,r⟩ fz s) (L:Lc w.params la gj (some .self::ρ) m fz)
   (h:∀fz' s',(∀p∈fz,p∈fz')->RS w (JS w la G old co lo ng ex) F m ⟨[],c,r⟩ fz' s'->SegX (model ae w) A (GH F) ((execs [Pc] F.env).wrap (jz (GH F)) (aK F.env) id id) [ig F Bd p1] s' P) :
   SegX (model ae w) A (wm F) ((model ae w).den (wm F)) [Cb F p2,ig F Bd p1] s P:=by
 refine eA ?_
 rw[W.a p2]
 exact sW Z FO hS (LV.le (by decide)) R L fun fz' s' hf R'=>gW (.ok .next) (h fz' s' hf R')
theorem yW(Z:gy w la G old co lo ng) (FO:aa w F) (hS:F.sc=S0 208) (LV:aU F.A 29) (W:SL A F Bd p1) (U:ev Fb F mb) (FOb:aa w Fb) {st:LS}{res:jF} (hN:bd old f st res):∀{p2:Pos}{m:Str->Option WY}{fz:ad}{s:W2},RS w (JS w la G old co lo ng ex) F m st fz s->Lc w.params la gj [some .self,none,none,some (.meth f)] m fz ->
     SegX (model ae w) A (wm F) ((model ae w).den (wm F)) [Cb F p2,ig F Bd p1] s (o7 w la G old co lo ng ex F Fb Bd p1 fz res):=by
 have LV20:aU F.A 20:=LV.le (by decide)
 induction hN with
 |@tok f t a c r =>
   intro p2 m fz s R L
   refine eA ?_
   rw[W.a p2]
   refine sW Z FO hS LV20 R L fun fz' s' hf R'=>?_
   show SegX _ _ _ ((execs [.Expr (.Yield (some O2) _) _] F.env).wrap _ _ id id) _ s' _
   refine aw (et rfl rfl rfl ?_ (show F.sc.isCoroutine=false from hS▸KN) (aT FO))
   refine(W.a p2).symm▸Fi Z FO hS LV20 R' (L.mono hf) fun v Uy Uq Uu rv Uo=>?_
   exact fun lv k p hk=> .tok t f _ p2 v k lv p m Uy Uq hk (fun p hp=>Uu p (hf p hp)) rv Uo (L.mono fun p hp=>Uu p (hf p hp))
 |@step f c r f' st' res hf hW hN ih =>
   intro p2 m fz s R L
   refine km Z FO hS LV W R L fun fz' s' hfz R'=>?_
   obtain⟨xq,hq,rq⟩:=L 3 "state" _ rfl rfl
   obtain⟨q,rfl,hqm⟩:=rq.view
   refine cK (W.b.symm▸ka FO hS R' hf (hfz _ hqm) hq (pR (Z.z2 ex) FO LV R' f hf hW (fun v UA Uy Uq xv hk Uu Uo rv=>?_) (fun qq qq qq qq qq hx=>hx.elim)))
   obtain⟨rfl,rfl⟩:=hk
   have up:∀p∈fz,p∈Uy:=fun p hp=>Uu p (hfz p hp)
   refine aM FO Uo (ln hS (by kernel_rfl)) fun Ut Ur=>⟨rfl,?_⟩
   have UL:=(L.mono up).set ND (i:=3) (n := "state") rfl rv
   exact bM rfl (ue FO hS Ur UL fun p=>(ih Ur UL).mono fun e UB hr=>hr.up up)
 |fin =>
   intro p2 m fz s R L
   refine km Z FO hS LV W R L fun fz' s' hfz R'=>?_
   obtain⟨xq,hq,rq⟩:=L 3 "state" _ rfl rfl
   obtain⟨q,rfl,hqm⟩:=rq.view
   refine cK (W.b.symm▸ka FO hS R' (.head _) (hfz _ hqm) hq (v6 Z FO LV R' fun Uy Uq Uu Uo=>?_))
   refine aM FO Uo (ln hS (by kernel_rfl)) fun Ut Ur=>⟨rfl,?_⟩
   exact bM rfl (eA (DN FO hS Ur (if_pos rfl) (truthy_none (gW (.ok .next) (mG (.ok (.ret .none)) (.fin _ Uy Ut (fun p hp=>Uu p (hfz p hp)) Ur))))))
 |@err f c r p st' hf hW =>
   intro p2 m fz s R L
   refine km Z FO hS LV W R L fun fz' s' hfz R'=>?_
   obtain⟨xq,hq,rq⟩:=L 3 "state" _ rfl rfl
   obtain⟨q,rfl,hqm⟩:=rq.view
   refine cK (W.b.symm▸ka FO hS R' hf (hfz _ hqm) hq (pR (Z.z2 ex) FO LV R' f hf hW (fun qq qq qq qq qq hk=>hk.elim) (fun q UA Uy x Uq hx Uu hz=>?_)))
   obtain⟨rfl,rfl⟩:=hx
   refine ua (W.b.trans W.c.symm) (W.c.symm▸jq FO.fr U hz fun Ut U8=>?_)
   exact .err _ x Uy _ Ut (fun p hp=>Uu p (hfz p hp)) U8.d (fB FOb U8.d rfl)
end
end
end
section
theorem vI{old:Bool}{sc:ad} (h:iB w G old co lo ng ex r sc fz g):∃sc0,sc=sc0++ex/\∀ex' fz' g',(∀p∈fz,p∈fz')->GQ G g g'->iB w G old co lo ng ex' r (sc0++ex') fz' g' :=
 h _ fun sc0 hS e D=>(gx hS).elim fun sc1 h1=>⟨sc0,e,fun ex' fz' g' k hg=>(fun qq qk=>qk sc0 (List.append_cancel_right (e.symm.trans h1.1)▸h1.2 ex' fz' g' k hg) rfl (D.gens (hg.same _ (.inr rfl))))⟩
theorem fJ{old:Bool}:∀{b:Bool},eK w G (fun ex=>J1 w.params la (SD w G old co lo ng ex b))
 |true=>sA fun qq qq qq qq qq h=>vI h
 |false=>sA fun qq qq qq qq qq h=>gx h
theorem wC{old:Bool}{mu:ad}{st:LS}{g':Array Xf} (h:I1 w.params la (bV w G old co lo ng ex) st mu fz g) (hg:GQ G g g'):I1 w.params la (bV w G old co lo ng ex) st mu fz g':=by
 refine h _ ?_;rintro b rest qi e z;refine qi _ ?_;rintro lex ab va vb vc na nb nc ps sc e1 r1 r2 r3 ht hS
 have hng:ng<=g.size:=hS _ fun qq qq qq qq qq h=>h
 exact(fun qq qk=>qk b rest (fun qq qk=>qk lex (hg.bare ab) va vb vc na nb nc ps sc e1 r1 r2 r3 ht (pG hS hg.same (WZ hng hg.size))) e z)
theorem GL{old:Bool}{st:LS} (h:rU (I1 w.params la (bV w G old co lo ng ex)) F st fz p e s) (hg:GQ G s.gens s'.gens) (hh:s'.heap=s.heap) (ho:s'.os=s.os) (hd:s'.drawn=s.drawn) :
   rU (I1 w.params la (bV w G old co lo ng ex)) F st fz p e s':=by
 refine h _ ?_;rintro x d es n mu B h1 h2 h3 hI h4 h5 h6 h7 h8 h9 h10
 exact(fun qq qk=>qk x d es n mu B h1 h2 h3 (wC hI hg) h4 h5 h6 (hh.symm▸h7) (hh.symm▸h8) (ho.trans h9) (hd.trans h10))
noncomputable def f6(Fb:Fm) (P:W1) (f:W3) (L:W3):Fm:={Fb with q:=(ah P f).qualname,sc:=(ah P f).scope,L:=L,a:=f,cd:=(ah P f).code,cl:=[]}
noncomputable def fN(w:Xj) (la:LA) (Fb:Fm) (L2 i2:Nat) (fz:ad) (oL:Obj) (g:Array Xf) (f:W3):Prop:=∀qC:Prop,(∀(m:Str->Option WY) (Bd:List Stmt) (p1 p2:Pos) (k:Resume->Sem XA) (lv:List WY) (p:Pos),fL m oL->Lc w.params la gj [some .self,none,none,some (.meth f)] m fz ->
   jO w (wm (f6 Fb w.params 208 L2)) [Cb (f6 Fb w.params 208 L2) p2,ig (f6 Fb w.params 208 L2) Bd p1] k->g[i2]?=some (.suspended k lv (wm (f6 Fb w.params 208 L2)) p [Cb (f6 Fb w.params 208 L2) p2,ig (f6 Fb w.params 208 L2) Bd p1] false)->qC)->qC
noncomputable def d9(i:Nat) (a:W3) (fz:ad):Prop:=∀qC:Prop,(∀(o:Obj) (nm qn:WY),(a,o)∈fz->o.cls= .type "generator" -> o.data= .fields #[.int i 0,nm,qn]->o.slots= #[]->qC)->qC
theorem d9.mono(h:d9 i a fz) (k:∀p∈fz,p∈fz'):d9 i a fz':=h _ fun o a b h r t u=>(fun qq qk=>qk o a b (k _ h) r t u)
theorem RS.isGen{J:cu σ} (R:RS w J F m st fz s) (h:d9 i a fz):s.heap.IsGen a i:=h _ fun o a b h r t u=>⟨o,a,b,R.get h,r,t,u⟩
theorem IN(h:rU I F st fz p e s) {q:W3×Obj} (hq:q∈fz):s.heap.get? q.1=some q.2 :=
 h _ fun qq qq qq qq qq qq qq qq qq qq qq qq h6 h7 qq qq qq=>h7.1 _ _ (h6 q (W4 _ hq)).1
theorem py(h:rU I F st fz p e s) (hg:d9 i a fz):s.heap.IsGen a i:=hg _ fun o a b h' r t u=>⟨o,a,b,IN h h',r,t,u⟩
structure oq(G:eu) (ng i:Nat):Prop where
 n0:i≠G.i0
 n1:i≠G.i1
 lt:i<ng
theorem Eo{old:Bool}{st:LS} (R:RS w (JS w la G old co lo ng ex) F m st fz s):ng<=s.gens.size :=
 R.led.elim fun qq h=>h.1 _ fun qq qq h qq qq=>h _ fun qq qq qq qq qq qq qq qq qq qq qq qq qq qq qq hS=>hS _ fun qq qq qq qq qq h=>h
section
variable {old:Bool}
noncomputable def lg(w:Xj) (la:LA) (G:eu) (old:Bool) (co:W3) (lo ng:Nat) (ex:ad) (L2 i2:Nat) (Fb:Fm) (mb:Str->Option WY) (fz:ad) (Q:Option WY->W2->Prop) (E:WY->W2->Prop):jF->Prop
 |.tok t f st=>∀v oL fz' s',(∀p∈fz,p∈fz')->RV w.params la fz' t v->RS w (JS w la G old co lo ng ((L2,oL)::ex)) Fb mb st fz' s'->fN w la Fb L2 i2 fz' oL s'.gens f->Q (some v) s'
 |.fin=>∀fz' s',(∀p∈fz,p∈fz')->RS w (J1 w.params la (SD w G old co lo ng ex true)) Fb mb ⟨[],[],[]⟩ fz' s'->Q none s'
 |.err p=>∀x st' fz' s',(∀p∈fz,p∈fz')->rU (I1 w.params la (bV w G old co lo ng ex)) Fb st' fz' p x s'->E x s'
noncomputable abbrev wk(Fb:Fm) (s:W2) (led:List W3) (A:Yc) (P:W1) (f:W3) (L:W3):Fm:=iM Fb s led A (ah P f).qualname (ah P f).scope L f (ah P f).code []
theorem sO{ga2:Nat} (hI:oq G ng i2) {Q:Option WY->W2->Prop} (hgen:d9 i2 ga2 fz) {sw:W2}{led:List W3} (FO:aa w Fb) (U:ev Fb (wk Fb sw led A w.params 208 L2) mb)
   {Bd:List Stmt}{res:jF} (h:lg w la G old co lo ng ex L2 i2 Fb mb fz Q E res) {e:End} (r:o7 w la G old co lo ng ex (wk Fb sw led A w.params 208 L2) Fb Bd p1 fz res e Un):Un.heap.IsGen ga2 i2/\hG w i2 Q E e Un:=by
 induction r with
 |tok t f st p2 v k lv p m' fz' Un hres hk rv R L =>
   have⟨oL,hN,R'⟩:=m6 ip U R (i:=i2) (gs:= .suspended k lv (wm (wk Fb sw led A w.params 208 L2)) p [Cb (wk Fb sw led A w.params 208 L2) p2,ig (wk Fb sw led A w.params 208 L2) Bd p1] false) hI.n0 hI.n1 rfl
   exact⟨R.isGen (hgen.mono hk),.inl ⟨v,lv,k,_,p,_,rfl,h v oL fz' _ hk rv R' (fun qq qk=>qk m' Bd p1 p2 k lv p hN L hres (Array.getElem?_setIfInBounds_self_of_lt (XT hI.lt (Eo R))))⟩⟩
 |fin m' fz' Un hk R =>
   exact⟨R.isGen (hgen.mono hk),.inr (.inl ⟨rfl,fun h' hk'=>h fz' _ hk (pD (Jf:=fun ex=>J1 w.params la (SD w G old co lo ng ex true)) fJ (tn (Jf:=fun ex=>J1 w.params la (SD w G old co lo ng ex true)) fJ U R (i:=i2) (gs:= .finished) hI.n0 hI.n1 rfl) (t:=Un.toks) hk')⟩)⟩
 |err p x fz' st' Un hk hz hns =>
   exact⟨py hz (hgen.mono hk),.inr (.inr ⟨x,rfl,fB FO hz rfl,h x st' fz' _ hk (GL hz (GQ.set hI.n0 hI.n1 rfl) rfl rfl rfl)⟩)⟩
theorem u4(a n:Nat):a+1+0+3+10*n<=a+10*(n+2):=Nat.add_right_comm a 4 (10*n)▸XB (by decide:4<=20) (a+10*n)
theorem aU.wk{Bd:List Stmt}{env:Env} (h:aU A (n+2)):aU (A.in1.over (.func Bd env) []) n:=⟨h.hd,WZ (W9 (Nat.add_right_comm A.depth 1 n)) (Nat.le_of_succ_le h.depth),WZ (u4 _ _) h.units⟩
theorem NB(Z:gy w la G old co lo ng) (FO:aa w Fb) (LV:aU Fb.A 31) {ga2:Nat}{st:LS}{res:jF} (R:RS w (JS w la G old co lo ng ((L2,oL)::ex)) Fb mb st fz s) (hI:oq G ng i2) (hgen:d9 i2 ga2 fz) (T:fN w la Fb L2 i2 fz oL s.gens f) (hN:bd old f st res) (hL:Fb.L<L2)
   {Q:Option WY->W2->Prop} (h:lg w la G old co lo ng ex L2 i2 Fb mb fz Q E res):wpAny (model ae w) Fb.A (pyNext (.ref ga2)) Q E s:=by
 refine T _ ?_;rintro m Bd p1 p2 k lv p hm L hres hg
 have hA:(Fb.A.in1.over (.func Bd (f6 Fb w.params 208 L2).env) []).frames=some ((f6 Fb w.params 208 L2).env::Fb.env::Fb.outer):=congrArg (fun f=>pushEnvs [(f6 Fb w.params 208 L2).env] (pushEnvs [] f)) FO.fr
 refine(ik (i:=i2) (gs:= .running) ip FO R hm hI.n0 hI.n1 rfl (bB (wF w.params)).2.2.1 hL hA) _ ?_;rintro led FO' U R'
 exact bA LV.hd (FO.G.lim.keeps R.fr.keep) (LV.lt) (R.isGen hgen) hg (.inr ⟨k,lv,p,false,rfl,rfl⟩) (hres _ _ _ (bM rfl ((yW (A:=Fb.A.in1) Z FO' (K6 w.params) LV.wk ⟨fun qq=>rfl,rfl,rfl⟩ U FO hN R' L).mono fun e Un hr=>sO hI hgen FO U h hr)))
end
end
section
noncomputable def dO(la:LA):List XH :=
 [⟨la.hs 0,.str "token_buffer" (la.ts 0),.ref la.tb⟩,⟨la.hs 1,.str "pushed_back" (la.ts 1),.ref la.pb⟩,⟨la.hs 2,.str "current_text" (la.ts 2),.ref la.ct⟩,
  ⟨la.hs 3,.str "coptions" (la.ts 3),.ref la.co⟩]
noncomputable def LA.setT(la:LA) (P:W1) (tk:Tok):LA:={la with ts:=fun i=>if i=4 then tk else la.ts i,hs:=fun i=>if i=4 then XV P (AN 4) else la.hs i}
noncomputable def IP(P:W1) (la:LA) (S:bR) (r:List Ch) (mu fz:ad) (g:Array Xf):Prop:=∀qC:Prop,(∀(na nb nc:Nat) (ps:Array WY) (n4:Nat) (sc:ad),(la.lx,Xu 439 la.dx)∈fz->AllBare g->r.length<=90000->mu=(la.tb,W0 #[] na)::(la.pb,W0 #[] nb)::(la.ct,W0 #[] nc)::(225,tabObj ps)::(la.dx,Xc (dO la) n4)::sc ->
   la.dn=n4+1->hJ ps->S r sc fz g->qC)->qC
noncomputable abbrev JP(w:Xj) (la:LA) (G:eu) (old:Bool) (co:W3) (lo ng:Nat) (ex:ad):cu (List Ch):=bC la (IP w.params la (bV w G old co lo ng ex))
theorem te{old:Bool}:eK w G (JP w la G old co lo ng) where
 la:=fun qq qq=>rfl
 opn:=fun ex F m st fz s R=>by
   obtain⟨mu,qi,N,nd⟩:=R.led;refine qi _ ?_;rintro na nb nc ps n4 sc lex ab hz rfl hdn ht hS
   obtain⟨sc0,rfl,hB⟩:=gx hS
   exact fun qq qk=>qk ((la.tb,W0 #[] na)::(la.pb,W0 #[] nb)::(la.ct,W0 #[] nc)::(225,tabObj ps)::(la.dx,Xc (dO la) n4)::sc0) N nd fun F' ex' fz' s' m' e1 e2 e3 k N' nd' Uz hg ho hd =>
     ⟨Uz,⟨_,(fun qq qk=>qk na nb nc ps n4 (sc0++ex') (k _ lex) (hg.bare ab) hz rfl hdn ht (hB ex' fz' _ k hg)),N',nd'⟩,(ho.trans R.os).trans e1.symm,(hd.trans R.dr).trans e2.symm,e3.symm▸R.lo⟩
theorem z9(P:W1):b0 (KF P) 439 4=true:=by kernel_rfl
theorem Bn(P:W1) (la:LA) (tk:Tok) (n4:Nat):Xc (putL (AN 4) (XV P (AN 4)) (.str (AN 4) tk) (.ref la.ga) (dO la)) (putN (AN 4) (dO la) n4)=Xc (eW (la.setT P tk)) (n4+1):=by kernel_rfl
section
variable {old:Bool}
theorem vO(FO:aa w F) (R:RS w (JP w la G old co lo ng ex) F m r fz s) {Q:Unit->W2->Prop}
   (h:∀tk s',RS w (JS w (la.setT w.params tk) G old co lo ng ex) F m ⟨[],[],r⟩ ((la.dx,Xc (eW (la.setT w.params tk)) la.dn)::fz) s'->Q () s'):wpAny (model ae w) A (setAttr (.ref la.lx) (AN 4) (.ref la.ga)) Q E s:=by
 obtain⟨mu,qi,N,nd⟩:=R.led;refine qi _ ?_;rintro na nb nc ps n4 sc lex ab hz rfl hdn ht hS
 let pre:ad:=[(la.tb,W0 #[] na),(la.pb,W0 #[] nb),(la.ct,W0 #[] nc),(225,tabObj ps)]
 have nd1:((pre++(la.dx,Xc (dO la) n4)::(sc++fz)).map (·.1)).Nodup:=nd
 have hne:=bv nd1
 have hlx:la.lx≠la.dx:=hne (la.lx,Xu 439 la.dx) (W4 pre (W4 sc lex))
 have Rr:aO F m ((la.lx,Xu 439 la.dx)::(la.dx,Xc (dO la) n4)::(pre++(sc++fz))) s s :=
   ⟨R.fr,fun p hp=>N p ((Xb.mp hp).elim (fun e=>e▸W4 _ lex) fun hp=>(XF (l₁:=pre)).mem_iff.mpr hp),rfl,rfl,rfl⟩
 refine bb FO (z9 _) (o:=Xu 439 la.dx) (sl:= #[]) rfl Rr hlx hne (Xd rfl) (by kernel_rfl) fun s' tk R'=>?_
 rw[Bn,←hdn] at R'
 exact h tk s' ⟨R'.fr,⟨pre++sc,(fun qq qk=>qk [] r (fun qq qk=>qk ⟨.tail _ lex,.head _⟩ (R'.gens.symm▸ab) [] [] [] na nb nc ps sc rfl .nil .nil .nil ht (R'.gens.symm▸eo.mono _ _ _ _ _ hS fun p hp=> .tail _ hp)) rfl (show 0+r.length<=90000 from(Nat.zero_add _).symm▸hz)),fun p hp=>R'.nw p (.tail _ (bH (mu:=pre++sc) hp)),
   ((XF (l₁:=pre++sc)).map (·.1)).nodup_iff.mpr (((XF (l₁:=pre)).map (·.1)).nodup_iff.mp (eT nd1))⟩,R'.os.trans R.os,R'.dr.trans R.dr,R.lo⟩
end
end
section
section
variable {old:Bool}
theorem gy.setT(Z:gy w la G old co lo ng) (tk:Tok):gy w (la.setT w.params tk) G old co lo ng:=⟨Z.ga,Z.lo,Z.more,Z.co⟩
theorem lg.mono{Q:Option WY->W2->Prop} (k:∀p∈fz,p∈fz') {res:jF} (h:lg w la G old co lo ng ex L2 i2 Fb mb fz Q E res):lg w la G old co lo ng ex L2 i2 Fb mb fz' Q E res:=by
 cases res with
 |tok t f st=>exact fun v oL Uy s' hk=>h v oL Uy s' fun p hp=>hk p (k p hp)
 |fin=>exact fun Uy s' hk=>h Uy s' fun p hp=>hk p (k p hp)
 |err p=>exact fun x st' Uy s' hk=>h x st' Uy s' fun p hp=>hk p (k p hp)
theorem Lc.skip{n:Str}{us:List (Option V)} (h:Lc P la ns us m fz):Lc P la (n::ns) (none::us) m fz
 |0,_,_,_,hv=>bN hv
 |i+1,k,u,hi,hv=>h i k u hi hv
theorem E7(Z:gy w la G old co lo ng) (FO:aa w Fb) (LV:aU Fb.A 31) {ga2:Nat}{res:jF} (R:RS w (JP w la G old co lo ng ((L2,oL)::ex)) Fb mb r fz s) (hI:oq G ng i2) (hgen:d9 i2 ga2 fz) (hm:fL m oL)
   (h1:m "self" = some (.ref la.lx)) (h2:m "characters" = some (.ref la.ga)) {q:W3} (h3:m "start_state" = some (.ref q)) (hq:(q,methodObj (.ref 373) (.ref la.lx))∈fz) (hg:s.gens[i2]?=some (.fresh (.func (ay (ah w.params 208)) (f6 Fb w.params 208 L2).env))) (hN:bd old 373 ⟨[],[],r⟩ res) (hL:Fb.L<L2)
   {Q:Option WY->W2->Prop} (h:∀tk,lg w (la.setT w.params tk) G old co lo ng ex L2 i2 Fb mb fz Q E res):wpAny (model ae w) Fb.A (pyNext (.ref ga2)) Q E s:=by
 have hA:(Fb.A.in1.over (.func (B0 208) (f6 Fb w.params 208 L2).env) []).frames=some ((f6 Fb w.params 208 L2).env::Fb.env::Fb.outer):=congrArg (fun f=>pushEnvs [(f6 Fb w.params 208 L2).env] (pushEnvs [] f)) FO.fr
 refine(ik (i:=i2) (gs:= .running) te FO R hm hI.n0 hI.n1 rfl (bB (wF w.params)).2.2.1 hL hA) _ ?_;rintro led FO' U R'
 have hS:(wk Fb s led (Fb.A.in1.over (.func (B0 208) (f6 Fb w.params 208 L2).env) []) w.params 208 L2).sc=S0 208:=K6 w.params
 rw[Ql] at hg
 refine bA LV.hd (FO.G.lim.keeps R.fr.keep) LV.lt (R.isGen hgen) hg (.inl ⟨rfl,rfl,rfl⟩) (nI ?_)
 show SegX _ _ _ ((execs [.Assign [.Attribute (.Name "self" _) (AN 4) _] (.Name "characters" _) _,.Assign [.Name "state" _] (.Name "start_state" _) _,.While Pf Pg [] _] (f6 Fb w.params 208 L2).env).wrap _ _ id id) _ _ _
 refine cK (Xn (dy FO' R' (ln hS (by kernel_rfl)) h2 (dy FO' R' (ln hS (by kernel_rfl)) h1 (vO FO' R' fun tk Uq Uo=>⟨rfl,?_⟩))))
 refine cK (XK (dy FO' Uo (ln hS (by kernel_rfl)) h3 (aM FO' Uo (ln hS (by kernel_rfl)) fun Ut Ur=>⟨rfl,?_⟩)) (by rfl))
 have n1:("self" : Str) ≠ "state" := by decide +kernel
 have kk:∀p∈fz,p∈(la.dx,Xc (eW (la.setT w.params tk)) la.dn)::fz:=fun p hp=> .tail _ hp
 have U6:Lc w.params (la.setT w.params tk) gj [some .self,none,none,some (.meth 373)] (fun y=>if y = "state" then some (.ref q) else m y) ((la.dx,Xc (eW (la.setT w.params tk)) la.dn)::fz) :=
   (((dJ (us:=[]) fun qq=>rfl).cons (if_pos rfl) (show RV w.params (la.setT w.params tk) _ (.meth 373) (.ref q) from .meth (.tail _ hq))).skip.skip).cons ((if_neg n1).trans h1) (show RV w.params (la.setT w.params tk) _ .self (.ref la.lx) from .self)
 exact aw (t8 fun p1=>ue (F:=wk Fb s led (Fb.A.in1.over (.func (B0 208) (f6 Fb w.params 208 L2).env) []) w.params 208 L2) FO' hS Ur U6 fun p2=>(yW (A:=Fb.A.in1) (Z.setT tk) FO' hS LV.wk ⟨fun qq=>rfl,rfl,rfl⟩ U FO hN Ur U6).mono fun e Un hr=>sO hI (hgen.mono kk) FO U ((h tk).mono kk) hr)
end
end
section
noncomputable abbrev QN(fd:FuncData) (cc:W3):FuncData:=PySem.W.ksFn fd.name fd.qualname fd.params (ay fd) fd.scope fd.defaults fd.kwdefaults fd.doc fd.pyModule fd.annotations fd.code fd.closureTuple cc
structure pY(P:W1) (f cc:W3):Prop where
 shape:(KF P).lookup f=some (QO (qy ((KF P).lookup f)) (QN (ah P f) cc))
 scope:nM (ah P f).scope=true
 code:codeIn (KF P) (ah P f).code (ah P f).qualname=true
theorem pY.fd{cc:W3} (h:pY P f cc):ah P f=QN (ah P f) cc:=congrArg (fun x=>O7 (qy x).data) h.shape
noncomputable def Ri:Data->Array WY
 |.fields vs=>vs
 |_=> #[]
noncomputable def Tu:Data->ClassData
 |.cls c=>c
 |_=>default
noncomputable def Tr:Option WY->Tok
 |some (.str _ t)=>t
 |_=>default
noncomputable abbrev ob(P:W1) (a:W3):Obj:=qy ((KF P).lookup a)
noncomputable abbrev wl(P:W1) (f:W3):W3:=Fp (some (some (ah P f).code))
noncomputable abbrev QF(P:W1) (f:W3):Option Arg:=((ah P f).params.posonlyargs++(ah P f).params.args).head?
structure im(P:W1) (f cc D:W3):Prop where
 lf:(KF P).lookup f=some (ob P f)
 df:(ob P f).data= .func (ah P f)
 code:(ah P f).code= .ref (wl P f)
 lc:(KF P).lookup (wl P f)=some (ob P (wl P f))
 dc:(ob P (wl P f)).data= .fields (Ri (ob P (wl P f)).data)
 fil:(Ri (ob P (wl P f)).data)[2]?=some (.str ae.main.file (Tr (Ri (ob P (wl P f)).data)[2]?))
 par:QF P f=some ((QF P f).getD default)/\((QF P f).getD default).arg = "self"
 lcc:(KF P).lookup cc=some (ob P cc)
 dcc:(ob P cc).data= .cell (some (.ref D))
 lD:(KF P).lookup D=some (ob P D)
 dD:(ob P D).data= .cls (Tu (ob P D).data)
 sup:(ah P f).scope.names.lookup ("super" : Str)=some .globalImplicit
 cls:(ah P f).scope.names.lookup ("__class__" : Str)=some .free
 slf:(ah P f).scope.names.lookup ("self" : Str)=some .local
 kind:(ah P f).scope.kind= .function
theorem LQ(P:W1):im P 102 90 127:=⟨by kernel_rfl,by kernel_rfl,by kernel_rfl,by kernel_rfl,by kernel_rfl,by kernel_rfl,⟨by kernel_rfl,by kernel_rfl⟩,by kernel_rfl,by kernel_rfl,by kernel_rfl,by kernel_rfl,by kernel_rfl,by kernel_rfl,by kernel_rfl,by kernel_rfl⟩
theorem JI(P:W1):im P 344 332 439:=⟨by kernel_rfl,by kernel_rfl,by kernel_rfl,by kernel_rfl,by kernel_rfl,by kernel_rfl,⟨by kernel_rfl,by kernel_rfl⟩,by kernel_rfl,by kernel_rfl,by kernel_rfl,by kernel_rfl,by kernel_rfl,by kernel_rfl,by kernel_rfl,by kernel_rfl⟩
theorem MD(P:W1):im P 366 332 439:=⟨by kernel_rfl,by kernel_rfl,by kernel_rfl,by kernel_rfl,by kernel_rfl,by kernel_rfl,⟨by kernel_rfl,by kernel_rfl⟩,by kernel_rfl,by kernel_rfl,by kernel_rfl,by kernel_rfl,by kernel_rfl,by kernel_rfl,by kernel_rfl,by kernel_rfl⟩
theorem KW(P:W1):pY P 102 90:=⟨by kernel_rfl,by kernel_rfl,by kernel_rfl⟩
theorem Mp(P:W1):pY P 344 332:=⟨by kernel_rfl,by kernel_rfl,by kernel_rfl⟩
theorem Ix:(ae.main.scope.names.lookup ("super" : Str)).isSome=false:=by kernel_rfl
theorem Ds:bootBuiltins "super" = some (.type "super"):=by kernel_rfl
theorem Ct(P:W1):nsIn (KF P) XI "super" = some none:=by kernel_rfl
theorem A8(P:W1):nsIn (KF P) cStatics "thirdparty.any" = some none:=by kernel_rfl
section
variable {news:ad}
theorem mO(FO:aa w F) (hdep:F.A.depth<Xh) {cc:W3} (KO:pY w.params f cc) {R:Result->W2->Prop}
   (hbind:lB s (ah w.params f) args binds) (hloc:binds.all (fun y=>(ah w.params f).scope.names.lookup y.1 == some .local)=true) (UC:aO F m news s₀ s)
   (h:∀F' s',F'.A=F.A.deeper F'.env->aa w F'->F'.env=PySem.W.ksEnv (ah w.params f).qualname (ah w.params f).scope F'.L f (ah w.params f).code cc->F'.sc=(ah w.params f).scope ->
     aO F' (fun y=>binds.reverse.lookup y) news s₀ s' ->
     _root_.PySem.wpAt (model ae w) F'.A (.func (ay (ah w.params f)) F'.env) (execs (ay (ah w.params f)) F'.env) (fun fl s''=>∃m' news',aO F' m' news' s₀ s''/\(aO F m news' s₀ s''->R (.ok (.ret (match fl with| .ret v=>v|_=> .none))) s''))
       (fun qq qq=>False) s') :
   codeAny (model ae w) F.A (.call (.ref f) args) R s:=by
 have S:=dp KO.scope
 have X:(KF w.params).In s.heap:=FO.G.X.keeps UC.fr.keep
 obtain⟨FG,BG,st,lv⟩:=PySem.W.groundX (R:=R) (env:=F.env) FO.B UC.fr UC.nw FO.fr rfl FO.kind
 refine PySem.ks_codeAny_call_defAt (fd:=QN (ah w.params f) cc) (body:=ay (ah w.params f)) (binds:=binds) hdep (X _ _ KO.shape) rfl (FO.G.lim.keeps UC.fr.keep) (codeRec_of X KO.code) rfl (KO.fd▸hbind.h) S.cell (fun y hy=>eq_of_beq (X7.mp hloc y hy)) (fun h₁ hns UY=>?_) S.co S.gen S.kind
 let U7:Fm:={A:=F.A.deeper (PySem.W.ksEnv (ah w.params f).qualname (ah w.params f).scope s.heap.objs.size f (ah w.params f).code cc),UU:=F.A,base:=F.base,Up:=hideAll s.heap (news.map (·.1)),outer:=F.env::F.outer,q:=(ah w.params f).qualname,sc:=(ah w.params f).scope,L:=s.heap.objs.size,a:=f,cd:=(ah w.params f).code,os:=F.os,dr:=F.dr,cl:=[("__class__",cc)]}
 have Vj:aa w U7:=⟨BG,Around.frames_deeper BG.stack,FO.G.keeps st,S.kind,FO.gb⟩
 have hfr:Fr (hideAll s.heap (news.map (·.1))) s.heap.objs.size h₁ (fun y=>binds.reverse.lookup y):=⟨hns,fun b o e=>UY b o (of_hideAll _ e),W9 (hideAll_size _ _)⟩
 have hnw:News (hideAll s.heap (news.map (·.1))) s.heap.objs.size h₁ news:=fun p hp=>⟨UY _ _ (UC.nw p hp).1,X3 (XQ (UC.nw p hp).1),hideAll_none _ (Xv hp)⟩
 refine PySem.ks_wpAt_mono (h U7 {s with heap:=h₁,toks:=s.toks+binds.length} rfl Vj rfl rfl ⟨hfr,hnw,UC.gens,UC.os,UC.dr⟩) (fun fl s'' hh=>?_) fun qq qq x=>x.elim
 obtain⟨m',news',R',k⟩:=hh
 exact lv _ _ ⟨s.heap.objs.size,m',news',R'.fr,R'.nw,fun Uz Vk=>k ⟨Uz,Vk,R'.gens,R'.os,R'.dr⟩⟩
theorem u8(FO:aa w F) (R:aO F m news s₀ s) {cc D:W3} (hS:im w.params f cc D) (henv:F.env=PySem.W.ksEnv (ah w.params f).qualname (ah w.params f).scope F.L f (ah w.params f).code cc) {x C:W3}{ox:Obj}{odx:Option Obj} (hself:m "self" = some (.ref x)) (I:Xr s.heap x ox C odx)
   (hsub:mroIn (KF w.params) C (.ref D)=some true) {p0:Pos}{attr:Str}{whole:Sem WY} (hat:(attr == ("__class__" : Str))=false)
   (h:∀so s',aO F m ((so,PySem.W.ks_superObj D x C)::news) s₀ s'->(∀p∈news,p.1<so)->Q (.ref so) s') :
   _root_.PySem.wpAt (model ae w) A (.func body F.env) (attributeBase (.Call (.Name "super" p0) [] [] p1) attr F.env whole) Q E s:=by
 have X:(KF w.params).In s.heap:=FO.G.X.keeps R.fr.keep
 obtain⟨mg,eg⟩:=FO.G.gl
 obtain⟨mb,eb,fb⟩:=FO.G.bi
 rw[henv,hS.code]
 obtain⟨hh,g,dr,t,os⟩:=s
 have e1:(PySem.W.ksEnv (ah w.params f).qualname (ah w.params f).scope F.L f (.ref (wl w.params f)) cc).kindOf "super" = some .globalImplicit:=hS.sup
 have e2:(PySem.W.ksEnv (ah w.params f).qualname (ah w.params f).scope F.L f (.ref (wl w.params f)) cc).kindOf "__class__" = some .free:=hS.cls
 refine PySem.ks_wpAt_super_base (env:=PySem.W.ksEnv (ah w.params f).qualname (ah w.params f).scope F.L f (.ref (wl w.params f)) cc) e1 e2 hat rfl (X _ _ hS.lf) hS.df hS.par.1 rfl (X _ _ hS.lc) hS.dc hS.fil (beq_self_eq_true _) Ix ?_
 refine ks_loadName_global (env:=PySem.W.ksEnv (ah w.params f).qualname (ah w.params f).scope F.L f (.ref (wl w.params f)) cc) hS.kind e1 (loadGlobal_builtin (env:=PySem.W.ksEnv (ah w.params f).qualname (ah w.params f).scope F.L f (.ref (wl w.params f)) cc) (eg.keeps R.fr.keep) (mg_none_of FO.G.X eg (Ct _)) (eb.keeps R.fr.keep) ((fb _ (by decide +kernel)).trans Ds) ⟨rfl,?_⟩)
 refine wpAny_loadName_free hS.kind e2 rfl ⟨_,X _ _ hS.lcc,hS.dcc⟩ ?_
 rw[hS.par.2]
 refine wpAny_loadName_local hS.kind hS.slf R.fr.ns hself (PySem.ks_wpAny_isType_cls (X _ _ hS.lD) hS.dD ⟨rfl,PySem.ks_wpAny_call_super (X _ _ hS.lD) hS.dD I.at_ I.cls (fun c e=>?_) (looks_mroIn X hsub) (fun h' e k=>?_)⟩)
 . have:=I.no
   unfold notCls at this
   rw[e] at this
   exact XW this
 . have⟨F',N',l'⟩:=PySem.W.ks_newsPush (s:=⟨hh,g,dr,t,os⟩) R.fr R.nw rfl e k
   exact h _ _ ⟨F',N',R.gens,R.os,R.dr⟩ l'
theorem re(FO:aa w F) {so D x C f2:W3}{ox:Obj}{odx:Option Obj} (R:aO F m ((so,PySem.W.ks_superObj D x C)::news) s₀ s) (I:Xr s.heap x ox C odx) (hm:PySem.W.ks_superIn (KF w.params) C D name=some (some (.ref f2))) (ht:typeIn (KF w.params) (.ref f2)=some (.type "function"))
   (hn:(name == ("__class__" : Str))=false) {pl:Sem Bool}{Q:WY×List WY->W2->Prop}
   (h:∀q s',aO F m ((q,methodObj (.ref f2) (.ref x))::news) s₀ s'->(∀p∈news,p.1<q)->Q (.ref q,[]) s'):wpAny (model ae w) A (getMethod (.ref so) name pl) Q E s :=
 PySem.W.ks_method R.fr FO.G.X R.nw (.head _) I (A8 _) hm ht hn fun q h' F' N' lt=>h q _ ⟨F',fun p hp=>(Xb.mp hp).elim (fun e=>N' p (e▸ .head _)) fun hp=>N' p (.tail _ (.tail _ hp)),R.gens,R.os,R.dr⟩ fun p hp=>lt p (.tail _ hp)
end
end
section
theorem v9{o:W5}{apos:Pos}{args:List W5}{env:Env} (h2:apos.endLine=pos.line)
   (h3:methodCallForm (args.length+([]:List Keyword).length) (backTo pos (starEach args env)) (backToKw pos (keywordEach [] env))=true) :
   eval (.Call (.Attribute o name apos) args [] pos) env=(do
     let ov ←attributeBase o name env (eval o env)
     standAt apos.atName
     let(f,first) ←holding [ov] (getMethod ov name (do return (←importBound o env).getD true))
     callWith pos f first (backTo pos (starEach args env)) []):=by
 rw[arm_eval_Call]
 unfold methodCall
 rw[h3]
 have hpos:methodCallPos true o env apos pos=pure pos:=by unfold methodCallPos;simp[h2]
 rw[hpos]
 rfl
section
variable {news:ad}
theorem hM(FO:aa w F) (R:aO F m news s₀ s) {cc D f2:W3} (hS:im w.params f cc D) (henv:F.env=PySem.W.ksEnv (ah w.params f).qualname (ah w.params f).scope F.L f (ah w.params f).code cc) {x C:W3}{ox od:Obj} (hself:m "self" = some (.ref x))
   (hx:(x,ox)∈news) (hd:(dx,od)∈news) (h1:ox.cls= .ref C) (h2:ox.dict=some dx) (h3:notCls ox=true)
   (hsub:mroIn (KF w.params) C (.ref D)=some true) {p0 ap:Pos}{es:List W5} (hn:(name == ("__class__" : Str))=false) (hap:ap.endLine=pos.line)
   (hform:methodCallForm (es.length+([]:List Keyword).length) (backTo pos (starEach es F.env)) (backToKw pos (keywordEach [] F.env))=true)
   (hm:PySem.W.ks_superIn (KF w.params) C D name=some (some (.ref f2))) (ht:typeIn (KF w.params) (.ref f2)=some (.type "function"))
   (h:∀q s',aO F m ((q,methodObj (.ref f2) (.ref x))::news) s₀ s'->(∀p∈news,p.1<q)->wpAny (model ae w) A (callWith pos (.ref q) [] (backTo pos (starEach es F.env)) []) Q E s') :
   _root_.PySem.wpAt (model ae w) A (.func body F.env) (eval (.Call (.Attribute (.Call (.Name "super" p0) [] [] p1) name ap) es [] pos) F.env) Q E s:=by
 have I:Xr s.heap x ox C (some od):=⟨(R.nw _ hx).1,h1,h3,h2.symm▸(R.nw _ hd).1⟩
 refine PySem.ks_wpAt_MethodCall (u8 FO R hS henv hself I hsub hn fun so Ut Ur lt=>?_) (v9 hap hform)
 have I':Xr Ut.heap x ox C (some od):=⟨(Ur.nw _ (.tail _ hx)).1,h1,h3,h2.symm▸(Ur.nw _ (.tail _ hd)).1⟩
 exact re FO Ur I' hm ht hn h
theorem RU(P:W1):ay (ah P 102)=B0 102:=by kernel_rfl
theorem QR(P:W1):(ah P 102).scope=S0 102:=by kernel_rfl
noncomputable def TT:Stmt:=cP (B0 102)
noncomputable def Rl:List Stmt:=(B0 102).tail
noncomputable abbrev Sh:List IS:=[.dict 9 "space",.dict 10 "first"]
theorem RC:B0 102=TT::Rl:=by kernel_rfl
theorem Pp(P:W1):jx (KF P) 127 (S0 102) Sh Rl:=⟨by kernel_rfl,by kernel_rfl⟩
theorem NH(P:W1):jx (KF P) 127 (ah P 36).scope xC (ay (ah P 36)):=⟨(Mq P).eq,by kernel_rfl⟩
theorem NS(P:W1):ju (KF P) 127 102=true:=by kernel_rfl
theorem KU(P:W1):PySem.W.ks_superIn (KF P) 127 127 "__init__" = some (some (.ref 36)):=by kernel_rfl
theorem Ki(P:W1):mroIn (KF P) 127 (.ref 127)=some true:=by kernel_rfl
theorem Q1(P:W1):typeIn (KF P) (.ref 36)=some (.type "function"):=by kernel_rfl
theorem PX(P:W1):fnIn (KF P) 36=true:=by kernel_rfl
theorem C3(P:W1) (a b c d e f:WY):X1 (ah P 102) ⟨[a,b,c,d,e,f],[]⟩=(pure [(W8 "self",a),(W8 "typ",b),(W8 "val",c),(W8 "space",d),(W8 "first",e),(W8 "loc",f)]:Sem (List (Str×WY))):=by kernel_rfl
theorem EZ(P:W1):aA (ah P 102).scope ["self", "typ", "val", "space", "first", "loc"]=true:=by kernel_rfl
structure DE(sl:Array (Option WY)) (tv vv:WY) (l:W3):Prop where
 mk ::
 t:(sl[1]?).join=some tv
 v:(sl[2]?).join=some vv
 l:(sl[0]?).join=some (.ref l)
structure EE(es:List XH) (sv fv:WY):Prop where
 mk ::
 s:getL "space" es=some (some sv)
 f:getL "first" es=some (some fv)
theorem qH(FO:aa w F) (hh:F.A.handled=none) (hdep:F.A.depth+4<Xh) (R:aO F m news s₀ s) {tv vv sv fv:WY}{l:W3}{d:W3}{Wf:Array (Option WY)} (hl:(l,aE 79 (some d) Wf)∈news) (hd:(d,o)∈news)
   (h:∀x dx sl es n s',DE sl tv vv l->EE es sv fv ->
     aO F m ((x,aE 127 (some dx) sl)::(dx,Xc es n)::news) s₀ s'->(∀p∈news,p.1<dx)->dx<x->Q (.ref x) s') :
   wpAny (model ae w) F.A (call (.ref 127) [tv,vv,sv,fv,.ref l] []) Q E s:=by
 obtain⟨m1,m2,m3⟩:=dN (NS w.params)
 refine call_cls R.fr FO.G.X R.nw m1 m2 m3 fun x dx h' F' N' lt hlt=>?_
 let UH:=F.A.under (.builtin "type.__call__" ⟨.ref 127::[tv,vv,sv,fv,.ref l],[]⟩)
 have hd1:UH.depth=F.A.depth+1:=depth_under_kw _ _ _ _
 have FO':aa w {F with A:=UH}:=FO.with rfl
 have R':aO {F with A:=UH} m ((x,aE 127 (some dx) #[])::(dx,Xc [] 0)::news) s₀ {s with heap:=h'}:=⟨F',N',R.gens,R.os,R.dr⟩
 refine mO (F:={F with A:=UH}) FO' (show UH.depth<_ from hd1▸Xi (XL _ 3) hdep) (KW _) (.of_eq (C3 _ _ _ _ _ _ _)) (au (EZ _) rfl) R' fun Uz Uq hA Ux henv hsc Uo=>?_
 have hS:=hsc.trans (QR _)
 have hhd:Uz.A.handled=none:=hA▸hh
 have hdp:Uz.A.depth=F.A.depth+2:=hA▸congrArg (. +1) hd1
 rw[RU,RC]
 refine PySem.ks_wpAt_execs_cons ?_
 show _root_.PySem.wpAt _ _ _ (exec (.Expr (.Call (.Attribute (.Call (.Name "super" _) [] [] _) "__init__" _) [.Name "typ" _,.Name "val" _,.Name "loc" _] [] _) _) Uz.env) _ _ _
 refine PySem.ks_wpAt_Expr_any (hM Ux Uo (LQ _) henv (C:=127) (by kernel_rfl) (.head _) (.tail _ (.head _)) rfl rfl rfl (Ki _) (by decide +kernel) rfl rfl (KU _) (Q1 _) fun q Ut Ur qq=>?_) (aT Ux)
 refine XZ (P:=MethP (KF w.params) q 36 (.ref x)) rfl (keeps_M (PX _)) (aq ?_ rfl)
 refine Xz (ax Ux Ur (ln hS (by kernel_rfl)) (v:=tv) (by kernel_rfl) (Xz (ax Ux Ur (ln hS (by kernel_rfl)) (v:=vv) (by kernel_rfl) (Xz (ax Ux Ur (ln hS (by kernel_rfl)) (v:= .ref l) (by kernel_rfl) (args_nil ⟨⟨(Ur.nw _ (.head _)).1,Ux.G.X.keeps Ur.fr.keep⟩,?_⟩))))))
 refine wpAny_call (method_call (Ur.nw _ (.head _)).1 ?_)
 have Uw:=Ur.sub (news':=(x,aE 127 (some dx) #[])::(dx,Xc [] 0)::news) fun p hp=> .tail _ hp
 refine dk Ux (hdp▸Nat.lt_of_succ_lt (Nat.lt_of_succ_lt hdep)) (Mj _) (.of_eq (zY _ _ _ _ _)) (au (D7 _) rfl) Uw fun V4 UB Wg Vf qq V5 UE=>?_
 refine Xq (jR Vf (Wg▸hhd) (XC hlt) lt hlt (by kernel_rfl) xC _ (V5▸NH _) _ _ _ UB (fun sl es n=>(es=[]/\n=0)/\DE sl tv vv l) (fun qq qq=>False) UE
   ⟨tv,by kernel_rfl,vv,by kernel_rfl,fun qq qk=>qk l d Wf o (by kernel_rfl) hl hd,.ref l,by kernel_rfl,⟨rfl,rfl⟩,.mk (by kernel_rfl) (by kernel_rfl) (by kernel_rfl)⟩) (fun fl UW hq=>hq.casesOn fun sl es n hK Vg=>?_) fun qq qq z=>z.elim
 obtain rfl:=hK.1.1;obtain rfl:=hK.1.2
 refine⟨_,_,Vg,fun UP=>?_⟩
 refine _root_.PySem.wpAt_of_wpAny (Xq (jR Ux hhd (XC hlt) lt hlt (by kernel_rfl) Sh Rl (hS▸Pp _) _ _ _ UW (fun sl' es n=>sl'=sl/\EE es sv fv) (fun qq qq=>False) UP
   ⟨sv,by kernel_rfl,Xd (by kernel_rfl),by kernel_rfl,fun tk=>⟨fv,by kernel_rfl,Xd (by kernel_rfl),by kernel_rfl,fun tk2=>⟨rfl,.mk (by kernel_rfl) (by kernel_rfl)⟩⟩⟩) (fun fl VD hq=>hq.casesOn fun sl' es n hK' Vh=>⟨_,_,Vh,fun US=>⟨rfl,?_⟩⟩) fun qq qq z=>z.elim)
 cases hK'.1
 exact h x dx sl es n VD hK.2 hK'.2 ⟨US.fr,US.nw,US.gens,US.os,US.dr⟩ lt hlt
end
section
variable {J:cu σ}
theorem vS(JO:bZ J) (FO:aa w F) (LV:aU F.A n) (R:RS w J F m st fz s) {v sp:Str}{f:Bool}{t1 t2 t3:Tok}{r k:Int}{l:W3} (hl:eV fz r k l)
   (h:∀x fz' s',(∀p∈fz,p∈fz')->jk fz' ty v sp f r k x->RS w J F m st fz' s'->Q (.ref x) s'):wpAny (model ae w) F.A (call (.ref 127) [.str ty t1,.str v t2,.str sp t3,.bool f,.ref l] []) Q E s:=by
 refine R.raw _ ?_;rintro mu hi R' nd
 refine(id hl) _ ?_;rintro sl tr tk d hl1 hl2 hl3 hl4
 refine qH FO LV.hd (Xi (XG (WZ (XL _ n) LV.depth) 4) (by decide)) R' (W4 _ hl1) (W4 _ hl2) fun x dx sl es n s' e e' Uo lt hlt=>?_
 have k:∀p∈fz,p∈(x,aE 127 (some dx) sl)::(dx,Xc es n)::fz:=fun p hp=> .tail _ (.tail _ hp)
 exact h x _ s' k (fun qq qk=>qk sl t1 t2 t3 l dx es n (.head _) (.tail _ (.head _)) e.t e.v e.l (hl.mono k) e'.s e'.f) (RS.of_raw2 JO R.os R.dr R.lo hi nd Uo lt hlt)
end
end
section
theorem Ic(P:W1):nsIn (KF P) XI "CToken" = some (some (.ref 127)):=by kernel_rfl
theorem IF(P:W1):keepIn (KF P) (.ref 127)=true:=by kernel_rfl
theorem QX(P:W1):findIn (KF P) (.ref 47) "__bool__" = some none:=by kernel_rfl
theorem Po(P:W1):findIn (KF P) (.ref 47) "__len__" = some none:=by kernel_rfl
noncomputable def mJ(i:Nat):Option (Str×V):=List.lookup i [(0,("CToken",.raw (.ref 127)))]
theorem Ae{v:V} (h:mJ i=some (x,v)):fU w la x v :=
 a6 (M:=fun qq p=>fU w la p.1 p.2) (b:=(x,v)) h ⟨⟨_,fun qq=> .raw _,.inl (Ic _)⟩,trivial⟩
noncomputable def G7(v:V):Option Unit:=(lm v).bind fun g=>match Nat.beq (wj g) 227 with|true=>some ()|false=>none
theorem t5{v:V}{u:Unit} (h:G7 v=some u):v= .raw (.ref 127):=by
 obtain⟨g,h1,h2⟩:=aC h
 have h3:(match Nat.beq (wj g) 227 with|true=>some ()|false=>none)=some u:=h2
 rcases hb:Nat.beq (wj g) 227 with qq|qq
 . rw[hb] at h3;exact bN h3
 . obtain rfl:=fx h1;rw[s8 (a:=127) (X2 hb)]
noncomputable def wS:V->Option Unit
 |.tok _ _ _ _=>some ()
 |_=>none
noncomputable def Tm(v:V):Option Bool:=match wS v with|some _=>some true|none=>fi v
noncomputable def Sr:List V->Option (Str×Str×Str×Bool×Int×Int)
 |[a,b,c,d,e]=>(strO a).bind fun x=>(strO b).bind fun y=>(strO c).bind fun z=>(lb d).bind fun f=>(FS e).map fun p=>(x,y,z,f,p.1,p.2)
 |_=>none
theorem G6{vs:List V}{q:Str×Str×Str×Bool×Int×Int} (h:Sr vs=some q):vs=[.str q.1,.str q.2.1,.str q.2.2.1,.bool q.2.2.2.1,.loc q.2.2.2.2.1 q.2.2.2.2.2]:=by
 match vs,h with
 |[],h=>exact bN h
 |[_],h=>exact bN h
 |[_,_],h=>exact bN h
 |[_,_,_],h=>exact bN h
 |[_,_,_,_],h=>exact bN h
 |_::_::_::_::_::_::_,h=>exact bN h
 |[a,b,c,d,e],h =>
   obtain⟨x,h1,h⟩:=aC h
   obtain⟨y,h2,h⟩:=aC h
   obtain⟨z,h3,h⟩:=aC h
   obtain⟨f,h4,h⟩:=aC h
   obtain⟨p,h5,h⟩:=cp h
   obtain rfl:=h
   rw[ek h1,ek h2,ek h3,lh h4,ub h5]
noncomputable def u9{σ:Type}:lz σ where
 glob:=mJ
 attr v a st K:=opt (yu v a) fun u=>K u st
 meth qq qq:=none
 callable v:=(G7 v).isSome
 call f vs kw st K qq:=opt (G7 f) fun qq=>opt (Sr vs) fun q=>opt (Jg kw) fun qq=>K (.ctok q.1 q.2.1 q.2.2.1 q.2.2.2.1 q.2.2.2.2.1 q.2.2.2.2.2) st
 truth v st K:=opt (Tm v) fun b=>K b st
 bin qq qq qq qq qq:=False
 iop op v u st K:=opt (strO v) fun x=>opt (strO u) fun y=>op= .Add/\ar x+ar y<=100000/\K (.str (aQ x y)) st
 cmp op v u st K:=opt (rB op v u) fun r=>K r st
 sub qq qq qq qq qq:=False
 slc qq qq qq qq qq:=False
 lst qq qq qq:=False
theorem ny{J:cu σ} (JO:bZ J) (LJ:gc J):aI w J (u9 (σ:=σ)) n where
 jok:=JO
 glob i x v h:=Ae h
 attr F m st fz s v xv a K Q E FO LV R rv h P:=(ac h).elim fun u hu=>tz JO LJ FO R rv hu.1 hu.2 P
 meth qq qq qq qq qq qq qq qq qq qq qq qq qq qq qq qq h:=bN h
 methK qq qq qq h:=bN h
 keep F m st fz s v xv FO R rv h:=by
   obtain⟨u,hu⟩:=Option.isSome_iff_exists.mp h
   obtain rfl:=t5 hu
   obtain rfl:=rv.view
   exact keeps_K (IF _) _ (FO.G.X.keeps R.fr.keep)
 call F m st fz s f xf vs xs kw xk K X Q E FO LV R rf rvs rk h P PE:=by
   obtain⟨u,hu,h⟩:=ac h
   obtain⟨q,hq,h⟩:=ac h
   obtain⟨u',hk,hK⟩:=ac h
   obtain rfl:=t5 hu;obtain rfl:=kv hk;obtain rfl:=rk.nil_eq;obtain rfl:=rf.view
   rw[G6 hq] at rvs
   obtain⟨v1,qq,r1,q1⟩:=rvs.uncons
   obtain⟨v2,qq,r2,q2⟩:=q1.uncons
   obtain⟨v3,v4,v5,r3,r4,r5⟩:=q2.three
   obtain⟨t1,rfl⟩:=r1.view
   obtain⟨t2,rfl⟩:=r2.view
   obtain⟨t3,rfl⟩:=r3.view
   obtain rfl:=r4.view
   obtain⟨l,rfl,hl⟩:=r5.view
   exact vS JO FO LV R hl fun x fz' s' hf hc R'=>P _ _ _ _ _ hK hf R' (.ctok hc)
 truth F m st fz s v xv K Q E FO LV R rv h P:=by
   obtain⟨b,hb,h⟩:=ac h
   have h':(match wS v with|some _=>some true|none=>fi v)=some b:=hb
   rcases ht:wS v with qq|u
   . rw[ht] at h';exact oM FO R rv h' h P
   ·
     rw[ht] at h'
     cases h'
     cases v with
     |tok =>
       obtain⟨a,rfl,qi⟩:=rv.view;refine qi _ ?_;rintro sl t1 t2 l d h1 h2 qq qq qq qq
       exact truthy_K0 R.fr FO.G.X (cz R h1 h2) (QX _) (Po _) (P _ _ _ _ h (fun qq h=>h) R)
     |_=>exact bN ht
 bin qq qq qq qq qq qq qq qq qq qq qq qq qq qq qq qq qq qq h qq:=h.elim
 iop F m st fz s op v xv u xu K Q E FO LV R rv ru h P:=by
   obtain⟨x,hx,h⟩:=ac h
   obtain⟨y,hy,rfl,hz,h⟩:=ac h
   obtain⟨t1,rfl⟩:=rv.strO hx
   obtain⟨t2,rfl⟩:=ru.strO hy
   refine PyProof.Rows.iadd_str (fun t' tk=>?_) (eU hz)
   rw[iA]
   exact P _ _ _ _ _ h (fun qq h=>h) (R.toks _) (.str _ _)
 cmp F m st fz s op v xv u xu K Q E FO LV R rv ru h P:=(ac h).elim fun r hr=>yF R rv ru hr.1 hr.2 P
 sub qq qq qq qq qq qq qq qq qq qq qq qq qq qq qq qq qq qq qq qq qq h qq qq:=h.elim
 slc qq qq qq qq qq qq qq qq qq qq qq qq qq qq qq qq qq qq qq qq qq qq qq qq qq qq h qq:=h.elim
 lst qq qq qq qq qq qq qq qq qq qq qq qq qq qq h qq:=h.elim
noncomputable def i7:List Str:=["self", "characters", "space", "first", "token"]
theorem qv:i7.Nodup:=by decide +kernel
noncomputable def Ek:X:= .cmp .Eq (.attr (.loc 4) 7) (.k (.str "BOL"))
noncomputable def yH:X:= .cmp .Eq (.attr (.loc 4) 7) (.k (.str "WS"))
noncomputable def tx:X:= .call (.glob 0) (.cons (.k (.str "BOL")) (.cons (.k (.str "")) (.cons (.k (.str "")) (.cons (.loc 3) (.cons (.attr (.loc 4) 6) .nil)))))
noncomputable def Ev:X:= .call (.glob 0) (.cons (.attr (.loc 4) 7) (.cons (.attr (.loc 4) 8) (.cons (.loc 2) (.cons (.loc 3) (.cons (.attr (.loc 4) 6) .nil)))))
noncomputable def we(b:Bool):T:= .asg 3 (.k (.bool b))
noncomputable def wa:T:= .asg 2 (.k (.str ""))
noncomputable def JA:T:= .aug 2 .Add (.attr (.loc 4) 8)
noncomputable def IE(s:Stmt):W5:=N8 (bj s)
noncomputable def Kf:Stmt:=cP (B0 366)
noncomputable def Kn:Stmt:=cP (B0 366).tail
noncomputable def RT:Stmt:=cP (B0 366).tail.tail.tail
noncomputable def Fk:Stmt:=cP (B0 366).tail.tail.tail.tail
noncomputable def S5:W5:=eJ RT
noncomputable def Lh:W5:=bj RT
noncomputable def P8:List Stmt:=(eO RT).2.1
noncomputable def Ji:Stmt:=cP P8
noncomputable def Ja:Stmt:=cP (eO Ji).2.1
noncomputable def I6:Stmt:=cP (eO Ji).2.1.tail
noncomputable def IG:Stmt:=cP (eO Ji).2.1.tail.tail
noncomputable def Cr:Stmt:=cP (eO Ji).2.2.1
noncomputable def JV:Stmt:=cP (eO Cr).2.1
noncomputable def Lv:Stmt:=cP (eO Cr).2.2.1
noncomputable def Bv:Stmt:=cP (eO Cr).2.2.1.tail
noncomputable def Dy:Stmt:=cP (eO Cr).2.2.1.tail.tail
noncomputable def E3:Stmt:=cP (eO Ja).2.1
noncomputable def Oj:Stmt:=cP (eO Fk).2.1
theorem Q3(P:W1):ay (ah P 366)=B0 366:=by kernel_rfl
theorem IJ(P:W1):(ah P 366).scope=S0 366:=by kernel_rfl
theorem M2:(S0 366).isCoroutine=false:=by kernel_rfl
theorem xR(P:W1):e7 (ah P 366).scope=true:=by kernel_rfl
theorem M9:jJ mJ (S0 366) i7 wa Kf:=⟨by kernel_rfl,by kernel_rfl⟩
theorem Km:jJ mJ (S0 366) i7 (we true) Kn:=⟨by kernel_rfl,by kernel_rfl⟩
theorem Nl:iU mJ (S0 366) i7 Ek (bj Ji):=⟨by kernel_rfl,by kernel_rfl⟩
theorem Ey:iU mJ (S0 366) i7 (.loc 3) (bj Ja):=⟨by kernel_rfl,by kernel_rfl⟩
theorem I3:iU mJ (S0 366) i7 tx (IE E3):=⟨by kernel_rfl,by kernel_rfl⟩
theorem J5:jJ mJ (S0 366) i7 (we true) I6:=⟨by kernel_rfl,by kernel_rfl⟩
theorem Lr:jJ mJ (S0 366) i7 wa IG:=⟨by kernel_rfl,by kernel_rfl⟩
theorem DC:iU mJ (S0 366) i7 yH (bj Cr):=⟨by kernel_rfl,by kernel_rfl⟩
theorem E8:jJ mJ (S0 366) i7 JA JV:=⟨by kernel_rfl,by kernel_rfl⟩
theorem Id:iU mJ (S0 366) i7 Ev (IE Lv):=⟨by kernel_rfl,by kernel_rfl⟩
theorem Gp:jJ mJ (S0 366) i7 wa Bv:=⟨by kernel_rfl,by kernel_rfl⟩
theorem Hx:jJ mJ (S0 366) i7 (we false) Dy:=⟨by kernel_rfl,by kernel_rfl⟩
theorem Ea:iU mJ (S0 366) i7 (.tand (.loc 3) (.loc 4)) (bj Fk):=⟨by kernel_rfl,by kernel_rfl⟩
theorem EL:iU mJ (S0 366) i7 tx (IE Oj):=⟨by kernel_rfl,by kernel_rfl⟩
set_option genCtorIdx true in
inductive S3 where
 |mid (b:Bool) (ty v:Str) (r k:Int) (f:W3) (st:LS)|done
noncomputable abbrev S3.bol(v:Str) (r k:Int) (f:W3) (st:LS):S3:= .mid true "BOL" v r k f st
noncomputable abbrev S3.oth(ty v:Str) (r k:Int) (f:W3) (st:LS):S3:= .mid false ty v r k f st
inductive eD where
 |tok (t:V) (S:S3)|fin|err (p:bE)
inductive dR(old:Bool):Str->Bool->V->W3->LS->eD->Prop
 |bol1 {sp:Str}{tk:V}{f f':W3}{st st':LS}{v:Str}{r k:Int}:bd old f st (.tok (.tok "BOL" v r k) f' st')->dR old sp true tk f st (.tok (.ctok "BOL" "" "" true r k) (.bol v r k f' st'))
 |bol0 {sp:Str}{tk:V}{f f':W3}{st st':LS}{v:Str}{r k:Int}{res:eD}:bd old f st (.tok (.tok "BOL" v r k) f' st')->dR old "" true (.tok "BOL" v r k) f' st' res->dR old sp false tk f st res
 |ws {sp:Str}{first:Bool}{tk:V}{f f':W3}{st st':LS}{v:Str}{r k:Int}{res:eD}:bd old f st (.tok (.tok "WS" v r k) f' st')->ar sp+ar v<=100000->dR old (aQ sp v) first (.tok "WS" v r k) f' st' res->dR old sp first tk f st res
 |oth {sp:Str}{first:Bool}{tk:V}{f f':W3}{st st':LS}{ty v:Str}{r k:Int}:bd old f st (.tok (.tok ty v r k) f' st')->bU ty "BOL" = false->bU ty "WS" = false->dR old sp first tk f st (.tok (.ctok ty v sp first r k) (.oth ty v r k f' st'))
 |end1 {sp:Str}{f:W3}{st:LS}{ty v:Str}{r k:Int}:bd old f st .fin->dR old sp true (.tok ty v r k) f st (.tok (.ctok "BOL" "" "" true r k) .done)
 |end0 {sp:Str}{first:Bool}{tk:V}{f:W3}{st:LS}:bd old f st .fin->(first=false\/tk= .none)->(tk= .none\/∃ty v r k,tk= .tok ty v r k)->dR old sp first tk f st .fin
 |err {sp:Str}{first:Bool}{tk:V}{f:W3}{st:LS}{p:bE}:bd old f st (.err p)->dR old sp first tk f st (.err p)
inductive BO(old:Bool):S3->eD->Prop
 |mid {b:Bool}{r k:Int}{f:W3}{st:LS}{res:eD}{ty v:Str}:dR old "" b (.tok ty v r k) f st res->BO old (.mid b ty v r k f st) res
 |done:BO old .done .fin
theorem BO.bol{old:Bool}{r k:Int}{st:LS}{res:eD}{v:Str} (h:dR old "" true (.tok "BOL" v r k) f st res):BO old (.bol v r k f st) res:= .mid h
theorem BO.oth{old:Bool}{r k:Int}{st:LS}{res:eD}{v:Str} (h:dR old "" false (.tok ty v r k) f st res):BO old (.oth ty v r k f st) res:= .mid h
end
variable {res:eD}
section
section
variable {J:cu σ}{o:lz σ}{c:Code}{P:End->W2->Prop}{K:Flow->Sem XA}{H:WY->Sem XA}
theorem Hs(O:aI w J o n) (FO:aa w F) (LV:aU F.A n) (hn:ns.Nodup) (hA:A.over c fs=F.A) {t:T}{e:Stmt}{rest:List Stmt} (hc:jJ o.glob F.sc ns t e) (R:RS w J F m st fz s) (L:Lc w.params J.la ns ρ m fz) {K':List (Option V)->σ->Prop}
   (hW:EJ o (fun qq qq=>False) t ρ st (fun fl ρ' st'=>fl= .next/\K' ρ' st'))
   (h:∀m' ρ' st' fz' s',K' ρ' st'->(∀p∈fz,p∈fz')->RS w J F m' st' fz' s'->Lc w.params J.la ns ρ' m' fz'->SegX (model ae w) A c ((execs rest F.env).wrap K H id id) fs s' P) :
   SegX (model ae w) A c ((execs (e::rest) F.env).wrap K H id id) fs s P:=by
 refine cK (hA.symm▸?_)
 refine Xq (om O FO LV hn t e hc m ρ st fz s _ (fun f s'=>f= .next/\SegX (model ae w) A c ((execs rest F.env).wrap K H id id) fs s' P) (fun qq qq=>False) hW R L (fun fl ρ' st' fz' m' s' xf hk hf R' L' rf=>?_) (fun qq qq qq qq qq hx=>hx.elim) PassesOwn.never) (fun qq qq h=>h) fun qq qq h=>h.elim
 obtain⟨rfl,hk⟩:=hk
 cases rf
 exact⟨rfl,h _ _ _ _ _ hk hf R' L'⟩
theorem j7(O:aI w J o n) (FO:aa w F) (LV:aU F.A n) (hA:A.over c fs=F.A) {x:X}{e:W5} (hc:iU o.glob F.sc ns x e) (R:RS w J F m st fz s) (L:Lc w.params J.la ns ρ m fz) {K':Bool->σ->Prop}
   (hW:p6 o ρ (fun qq qq=>False) x st K')
   (h:∀b st' fz' s',K' b st'->(∀p∈fz,p∈fz')->RS w J F m st' fz' s'->SegX (model ae w) A c ((execs (if b=true then body else orelse) F.env).wrap K H id id) fs s' P) :
   SegX (model ae w) A c ((exec (.If e body orelse q) F.env).wrap K H id id) fs s P:=by
 refine BF (hA.symm▸?_)
 exact Xq (zq O FO LV x e hc m st fz s K' (fun b s'=>SegX (model ae w) A c ((execs (if b=true then body else orelse) F.env).wrap K H id id) fs s' P) (fun qq qq=>False) hW R L (fun b st' fz' s' hk hf R'=>h b st' fz' s' hk hf R') (fun qq qq qq qq qq hx=>hx.elim)) (fun qq qq h=>h) fun qq qq h=>h.elim
theorem kO(O:aI w J o n) (FO:aa w F) (LV:aU F.A n) (hA:A.over c fs=F.A) (hfs:splitAtGen fs=none) (hfg:fs.any Frame.guarded=false) (hco:F.env.scope.isCoroutine=false) {x:X}{e:W5}{ypos:Pos} (hc:iU o.glob F.sc ns x e) (R:RS w J F m st fz s) (L:Lc w.params J.la ns ρ m fz) {K':V->σ->Prop}
   (hW:cZ o ρ (fun qq qq=>False) x st K')
   (h:∀v xv st' fz' s' k lv p,K' v st'->(∀p∈fz,p∈fz')->RS w J F m st' fz' s'->RV w.params J.la fz' v xv->lF w c fs k (K .next)->P (.susp xv false lv k c p fs) s') :
   SegX (model ae w) A c ((exec (.Expr (.Yield (some e) ypos) pos) F.env).wrap K H id id) fs s P:=by
 refine et hfs rfl hfg (hA.symm▸?_) hco (aT FO)
 refine Xq (xG O FO LV x e hc m st fz s K' (fun v s'=>∀l k p,(∀A' s'' P',SegX (model ae w) A' c (K .next) fs s'' P'->SegX (model ae w) A' c (k (.send .none)) fs s'' P')->P (.susp v false l k c p fs) s') (fun qq qq=>False) hW R L (fun v st' fz' s' xv hk hf R' rv=>?_) (fun qq qq qq qq qq hx=>hx.elim)) (fun qq qq h=>h) fun qq qq h=>h.elim
 exact fun l k p hk'=>h v xv st' fz' s' k l p hk hf R' rv hk'
end
theorem fN.mono(h:fN w la Fb L2 i2 fz oL g f) (k:∀p∈fz,p∈fz'):fN w la Fb L2 i2 fz' oL g f :=
 h _ fun m Bd p1 p2 kk lv p a b c d=>(fun qq qk=>qk m Bd p1 p2 kk lv p a (b.mono k) c d)
noncomputable abbrev JT(w:Xj) (la:LA) (G:eu) (old:Bool) (co:W3) (lo ng:Nat) (ex:ad) (Fb:Fm) (L2 i2:Nat) (oL:Obj) (f:W3):cu LS :=
 bC la (fun st mu fz g=>I1 w.params la (bV w G old co lo ng ((L2,oL)::ex)) st mu fz g/\fN w la Fb L2 i2 fz oL g f)
section
variable {old:Bool}{st:LS}
theorem Md:bZ (JT w la G old co lo ng ex Fb L2 i2 oL f):=⟨fun st mu fz fz' g h k=>⟨(ef eo).mono _ _ _ _ _ h.1 k,h.2.mono k⟩⟩
theorem Fj:gc (JT w la G old co lo ng ex Fb L2 i2 oL f):=⟨fun st mu fz g h=>(sh (P:=w.params) (la:=la) (S:=bV w G old co lo ng ((L2,oL)::ex))).lex _ _ _ _ h.1⟩
theorem RS.to_jt(R:RS w (JS w la G old co lo ng ((L2,oL)::ex)) F m st fz s) (T:fN w la Fb L2 i2 fz oL s.gens f):RS w (JT w la G old co lo ng ex Fb L2 i2 oL f) F m st fz s:=by
 obtain⟨mu,hi,N,nd⟩:=R.led
 exact⟨R.fr,⟨mu,⟨hi,T⟩,N,nd⟩,R.os,R.dr,R.lo⟩
theorem RS.of_jt(R:RS w (JT w la G old co lo ng ex Fb L2 i2 oL f) F m st fz s):RS w (JS w la G old co lo ng ((L2,oL)::ex)) F m st fz s/\fN w la Fb L2 i2 fz oL s.gens f:=by
 obtain⟨mu,hi,N,nd⟩:=R.led
 exact⟨⟨R.fr,⟨mu,hi.1,N,nd⟩,R.os,R.dr,R.lo⟩,hi.2⟩
end
noncomputable abbrev oU(F:Fm) (ga:W3):Code:= .forLoop S5 (.ref ga) P8 [] F.env
noncomputable abbrev wt(F:Fm) (Bd:List Stmt) (p1:Pos):Frame:=lQ (jG [Fk] F.env IZ (nG F.env)) (nG F.env) F.env (.func Bd F.env) p1
noncomputable abbrev Ps(F:Fm) (ga:W3):Flow->Sem XA:=jG [] F.env (jz (oU F ga)) (aK F.env)
noncomputable def Tw(F:Fm) (ga:W3):Sem XA:=(execs [I6,IG] F.env).wrap (Ps F ga) (aK F.env) id id
noncomputable def TV(F:Fm) (ga:W3):Sem XA:=(execs [Bv,Dy] F.env).wrap (jG [] F.env (Ps F ga) (aK F.env)) (aK F.env) id id
noncomputable def T3(F:Fm) (ga:W3) (b:Bool):Sem XA:=b.rec (TV F ga) (Tw F ga)
inductive lw(w:Xj) (la:LA) (F:Fm) (ga2:W3) (fz:ad) (m:Str->Option WY):Code->List Frame->(Resume->Sem XA)->S3->Prop
 |mid (Bd:List Stmt) (p1:Pos) (k:Resume->Sem XA) (b:Bool) (ty v:Str) (r kk:Int) (f:W3) (st:LS):lF w (oU F ga2) [wt F Bd p1] k (T3 F ga2 b)->Lc w.params la i7 [some .self,none,none,none,some (.tok ty v r kk)] m fz->lw w la F ga2 fz m (oU F ga2) [wt F Bd p1] k (.mid b ty v r kk f st)
 |done (Bd:List Stmt) (k:Resume->Sem XA):lF w (.func Bd F.env) [] k (leafOf (.ok (.ret .none)))->lw w la F ga2 fz m (.func Bd F.env) [] k .done
inductive Ra(w:Xj) (la:LA) (G:eu) (old:Bool) (co:W3) (lo ng:Nat) (ex:ad) (Fl:Fm) (F:Fm) (L2 i2:Nat) (m:Str->Option WY) (fz:ad) (s:W2):S3->Prop
 |mid (b:Bool) (ty v:Str) (r k:Int) (f:W3) (st:LS) (oL:Obj):RS w (JT w la G old co lo ng ex Fl L2 i2 oL f) F m st fz s->Ra w la G old co lo ng ex Fl F L2 i2 m fz s (.mid b ty v r k f st)
 |done:RS w (J1 w.params la (SD w G old co lo ng ex true)) F m ⟨[],[],[]⟩ fz s->Ra w la G old co lo ng ex Fl F L2 i2 m fz s .done
inductive pF(w:Xj) (la:LA) (G:eu) (old:Bool) (co:W3) (lo ng:Nat) (ex:ad) (F Fb:Fm) (L2 i2:Nat) (ga2:W3) (fz:ad):eD->End->W2->Prop
 |tok (t:V) (S:S3) (v:WY) (code:Code) (fs:List Frame) (k:Resume->Sem XA) (lv:List WY) (p:Pos) (m':Str->Option WY) (fz':ad) (s':W2):(∀p∈fz,p∈fz')->RV w.params la fz' t v->lw w la F ga2 fz' m' code fs k S->Ra w la G old co lo ng ex F F L2 i2 m' fz' s' S->pF w la G old co lo ng ex F Fb L2 i2 ga2 fz (.tok t S) (.susp v false lv k code p fs) s'
 |fin (m':Str->Option WY) (fz':ad) (s':W2):(∀p∈fz,p∈fz')->RS w (J1 w.params la (SD w G old co lo ng ex true)) F m' ⟨[],[],[]⟩ fz' s'->pF w la G old co lo ng ex F Fb L2 i2 ga2 fz .fin (.ret (.ok (.ret .none))) s'
 |err (p:bE) (x:WY) (fz':ad) (st':LS) (mb:Str->Option WY) (s':W2):(∀p∈fz,p∈fz')->ev Fb F mb->qj (I1 w.params la (bV w G old co lo ng ex)) Fb mb st' fz' p x s'->ii w x s'->pF w la G old co lo ng ex F Fb L2 i2 ga2 fz (.err p) (.ret (.error x)) s'
theorem pF.up{old:Bool} (up:∀p∈fz,p∈fz') {e:End} (h:pF w la G old co lo ng ex F Fb L2 i2 ga2 fz' res e s'):pF w la G old co lo ng ex F Fb L2 i2 ga2 fz res e s':=by
 induction h with
 |tok t S v code fs k lv p m' Uy s' a b c d=>exact .tok t S v code fs k lv p m' Uy s' (fun p hp=>a p (up p hp)) b c d
 |fin m' Uy s' a b=>exact .fin m' Uy s' (fun p hp=>a p (up p hp)) b
 |err p x Uy st' mb s' a b c d=>exact .err p x Uy st' mb s' (fun p hp=>a p (up p hp)) b c d
end
section
section
variable {old:Bool}{Bd:List Stmt}
theorem wf{Fx:Fm}:aI w (JT w la G old co lo ng ex Fx L2 i2 oL f) u9 31:=ny Md Fj
theorem RK:aI w (J1 w.params la (SD w G old co lo ng ex true)) u9 31:=ny (ef (z6 true)) sh
theorem JM(FO:aa w F) (hS:F.sc=S0 366) (LV:aU F.A 31) (hA1:A.over (oU F ga2) [wt F Bd p1]=F.A) {v:Str}{r k:Int}{st:LS}{ρ2 ρ3:Option V}{P:End->W2->Prop}
   (R:RS w (JT w la G old co lo ng ex F L2 i2 oL f) F m st fz s) (L:Lc w.params la i7 [some .self,none,ρ2,ρ3,some (.tok ty v r k)] m fz)
   (h:∀m' fz' s',(∀p∈fz,p∈fz')->RS w (JT w la G old co lo ng ex F L2 i2 oL f) F m' st fz' s'->Lc w.params la i7 [some .self,none,some (.str ""),some (.bool b),some (.tok ty v r k)] m' fz'->SegX (model ae w) A (oU F ga2) ((model ae w).den (oU F ga2)) [wt F Bd p1] s' P) :
   SegX (model ae w) A (oU F ga2) (T3 F ga2 b) [wt F Bd p1] s P:=by
 rcases b with qq|qq
 ·
   show SegX _ A _ ((execs [Bv,Dy] F.env).wrap _ _ id id) _ s P
   refine Hs (t:=wa) wf FO LV qv hA1 (hS▸Gp) R L (K':=fun ρ' st'=>ρ'=[some .self,none,some (.str ""),ρ3,some (.tok ty v r k)]/\st'=st) ⟨rfl,rfl,rfl⟩ fun m1 ρ1 st1 fz1 s1 hk hf1 R1 L1=>?_
   obtain⟨rfl,rfl⟩:=hk
   refine Hs (t:=we false) wf FO LV qv hA1 (hS▸Hx) R1 L1 (K':=fun ρ' st'=>ρ'=[some .self,none,some (.str ""),some (.bool false),some (.tok ty v r k)]/\st'=st1) ⟨rfl,rfl,rfl⟩ fun m2 ρ2' st2 fz2 s2 hk hf2 R2 L2'=>?_
   obtain⟨rfl,rfl⟩:=hk
   exact bM rfl (h m2 fz2 s2 (fun p hp=>hf2 p (hf1 p hp)) R2 L2')
 ·
   show SegX _ A _ ((execs [I6,IG] F.env).wrap _ _ id id) _ s P
   refine Hs (t:=we true) wf FO LV qv hA1 (hS▸J5) R L (K':=fun ρ' st'=>ρ'=[some .self,none,ρ2,some (.bool true),some (.tok ty v r k)]/\st'=st) ⟨rfl,rfl,rfl⟩ fun m1 ρ1 st1 fz1 s1 hk hf1 R1 L1=>?_
   obtain⟨rfl,rfl⟩:=hk
   refine Hs (t:=wa) wf FO LV qv hA1 (hS▸Lr) R1 L1 (K':=fun ρ' st'=>ρ'=[some .self,none,some (.str ""),some (.bool true),some (.tok ty v r k)]/\st'=st1) ⟨rfl,rfl,rfl⟩ fun m2 ρ2' st2 fz2 s2 hk hf2 R2 L2'=>?_
   obtain⟨rfl,rfl⟩:=hk
   exact bM rfl (h m2 fz2 s2 (fun p hp=>hf2 p (hf1 p hp)) R2 L2')
theorem Lc.drop{n:Str}{u:Option V}{us:List (Option V)} (h:Lc P la (n::ns) (u::us) m fz):Lc P la ns us m fz:=fun i k v hi hv=>h (i+1) k v hi hv
theorem Lc.push{n:Str}{u:Option V}{us us':List (Option V)} (h:Lc P la (n::ns) (u::us) m fz) (h':Lc P la ns us' m fz):Lc P la (n::ns) (u::us') m fz
 |0,k,v,hi,hv=>h 0 k v hi hv
 |i+1,k,v,hi,hv=>h' i k v hi hv
theorem Lc.forget{a b c d:Option V} (h:Lc P la i7 [some .self,a,b,c,d] m fz):Lc P la i7 [some .self,none,none,none,d] m fz:=Lc.push h h.drop.drop.drop.drop.skip.skip.skip
theorem FM:bU "WS" "BOL" = false:=by decide +kernel
theorem xS(x:Str):bU x x=true:=beq_self_eq_true _
structure oy(w:Xj) (G:eu) (old:Bool) (co:W3) (lo ng:Nat) (ex:ad) (F:Fm) (L2 i2:Nat) (ga2:W3) (laf:Tok->LA) (sp:Str) (first:Bool) (tk:V) (f:W3) (st:LS) (m:Str->Option WY) (fz:ad) (s:W2):Prop where
 nx:∀(Q:Option WY->W2->Prop) (E:WY->W2->Prop) (r2:jF),bd old f st r2->(∀t,lg w (laf t) G old co lo ng ex L2 i2 F m fz Q E r2)->wpAny (model ae w) F.A (pyNext (.ref ga2)) Q E s
 L:∀t,Lc w.params (laf t) i7 [some .self,none,some (.str sp),some (.bool first),some tk] m fz
theorem m9(Z:gy w la G old co lo ng) (FO:aa w F) (LV:aU F.A 31) (hI:oq G ng i2) (hL:F.L<L2) {sp:Str}{first:Bool}{tk:V}{st:LS} (R:RS w (JT w la G old co lo ng ex F L2 i2 oL f) F m st fz s)
   (L:Lc w.params la i7 [some .self,none,some (.str sp),some (.bool first),some tk] m fz) (hgen:d9 i2 ga2 fz):oy w G old co lo ng ex F L2 i2 ga2 (fun qq=>la) sp first tk f st m fz s :=
 ⟨fun Q E r2 hN h=>NB Z FO LV R.of_jt.1 hI hgen R.of_jt.2 hN hL (h 0),fun qq=>L⟩
section
variable {laf:Tok->LA}{f':W3}{st st':LS}{sp:Str}{first:Bool}{tk:V}{P:End->W2->Prop}
theorem jU(FO:aa w F) (hS:F.sc=S0 366) (LV:aU F.A 31) (hA1:A.over (oU F ga2) [wt F Bd p1]=F.A) {v:Str}{r k:Int} (hN:bd old f st (.tok (.tok ty v r k) f' st')) (HD:oy w G old co lo ng ex F L2 i2 ga2 laf sp first tk f st m fz s)
   (h:∀t m' fz' s' oL',(∀p∈fz,p∈fz')->RS w (JT w (laf t) G old co lo ng ex F L2 i2 oL' f') F m' st' fz' s'->Lc w.params (laf t) i7 [some .self,none,some (.str sp),some (.bool first),some (.tok ty v r k)] m' fz' ->
       ∀b,b=bU ty "BOL" -> SegX (model ae w) A (oU F ga2) ((execs (if b=true then [Ja,I6,IG] else [Cr]) F.env).wrap (Ps F ga2) (aK F.env) id id) [wt F Bd p1] s' P) :
     SegX (model ae w) A (oU F ga2) ((model ae w).den (oU F ga2)) [wt F Bd p1] s P:=by
 refine eS (hA1.symm▸HD.nx _ _ _ hN fun t xv oL' fz' s' hk rv R' T'=>?_)
 show wpAny _ _ (assign (.Name "token" _) F.env xv) _ _ s'
 refine wpAny_assign_Name (aM FO (R'.to_jt T') (ln hS (by kernel_rfl)) fun Uq Uo=>?_)
 show SegX _ A _ ((execs [.If (bj Ji) [Ja,I6,IG] [Cr] _] F.env).wrap _ _ id id) _ Uq P
 have L:=((HD.L t).mono hk).set qv (i:=4) (n := "token") rfl rv
 refine aw (j7 (x:=Ek) (ρ:=[some .self,none,some (.str sp),some (.bool first),some (.tok ty v r k)]) wf FO LV hA1 (hS▸Nl) Uo L (K':=fun b UA=>b=bU ty "BOL" /\ UA=st') ⟨rfl,rfl⟩ fun b UA Uy Ut hb Uu Ur=>?_)
 obtain⟨hb,rfl⟩:=hb
 exact h t _ Uy Ut oL' (fun p hp=>Uu p (hk p hp)) Ur (L.mono Uu) b hb
theorem tH(FO:aa w F) (hA1:A.over (oU F ga2) [wt F Bd p1]=F.A) (hN:bd old f st .fin) (HD:oy w G old co lo ng ex F L2 i2 ga2 laf sp first tk f st m fz s)
   (h:∀t fz' s',(∀p∈fz,p∈fz')->RS w (J1 w.params (laf t) (SD w G old co lo ng ex true)) F m ⟨[],[],[]⟩ fz' s'->Lc w.params (laf t) i7 [some .self,none,some (.str sp),some (.bool first),some tk] m fz' ->
       SegX (model ae w) A (.func Bd F.env) ((execs [Fk] F.env).wrap IZ (nG F.env) id id) [] s' P) :
     SegX (model ae w) A (oU F ga2) ((model ae w).den (oU F ga2)) [wt F Bd p1] s P :=
 eS (hA1.symm▸HD.nx _ _ _ hN fun t fz' s' hk R'=>jS (gW (.ok .next) (h t fz' s' hk R' ((HD.L t).mono hk))))
theorem sK(FO:aa w F) (hS:F.sc=S0 366) (LV:aU F.A 31)
   (hA1:A.over (oU F ga2) [wt F Bd p1]=F.A) (hA3:A.over (.func Bd F.env) []=F.A) (U:ev Fb F mb) (FOb:aa w Fb) (hI:oq G ng i2) (hL:F.L<L2) (hR:dR old sp first tk f st res):∀{laf:Tok->LA}{m:Str->Option WY}{fz:ad}{s:W2},(∀t,gy w (laf t) G old co lo ng)->oy w G old co lo ng ex F L2 i2 ga2 laf sp first tk f st m fz s->d9 i2 ga2 fz ->
     SegX (model ae w) A (oU F ga2) ((model ae w).den (oU F ga2)) [wt F Bd p1] s (fun e s'=>∃t,pF w (laf t) G old co lo ng ex F Fb L2 i2 ga2 fz res e s'):=by
 have hco:F.env.scope.isCoroutine=false:=(show F.sc.isCoroutine=false from hS▸M2)
 induction hR with
 |@bol1 sp tk f f' st st' v r k hN =>
   intro laf m fz s hZ HD hgen
   refine jU FO hS LV hA1 hN HD fun t m' fz' s' oL' hk R' L' b hb=>?_
   obtain rfl:=hb
   show SegX _ A _ ((execs [.If (bj Ja) [.Expr (.Yield (some (IE E3)) _) _] [] _,I6,IG] F.env).wrap _ _ id id) _ s' _
   refine aw (j7 (x:= .loc 3) wf FO LV hA1 (hS▸Ey) R' L' (K':=fun b UF=>b=true/\UF=st') (⟨rfl,rfl⟩:true=true/\st'=st') fun b UF UR Ut hb UG Ur=>?_)
   obtain⟨rfl,rfl⟩:=hb
   have U6:=L'.mono UG
   refine aw (kO (x:=tx) wf FO LV hA1 rfl rfl hco (hS▸I3) Ur U6 (K':=fun v' UN=>v'= .ctok "BOL" "" "" true r k/\UN=UF) (⟨rfl,rfl⟩:V.ctok "BOL" "" "" true r k= .ctok "BOL" "" "" true r k/\UF=UF) fun v' xv UN Va UB kk lv p hv U3 Uw rv hres=>?_)
   obtain⟨rfl,rfl⟩:=hv
   exact⟨t,.tok _ _ xv _ _ kk lv p m' Va UB (fun p hp=>U3 p (UG p (hk p hp))) rv (.mid Bd p1 kk true "BOL" v r k f' UN hres (Lc.forget (U6.mono U3))) (.mid true "BOL" v r k f' UN oL' Uw)⟩
 |@bol0 sp tk f f' st st' v r k res hN hrest ih =>
   intro laf m fz s hZ HD hgen
   refine jU FO hS LV hA1 hN HD fun t m' fz' s' oL' hk R' L' b hb=>?_
   obtain rfl:=hb
   show SegX _ A _ ((execs [.If (bj Ja) [.Expr (.Yield (some (IE E3)) _) _] [] _,I6,IG] F.env).wrap _ _ id id) _ s' _
   refine aw (j7 (x:= .loc 3) wf FO LV hA1 (hS▸Ey) R' L' (K':=fun b UF=>b=false/\UF=st') (⟨rfl,rfl⟩:false=false/\st'=st') fun b UF UR Ut hb UG Ur=>?_)
   obtain⟨rfl,rfl⟩:=hb
   refine JM (b:=true) FO hS LV hA1 Ur (L'.mono UG) fun Ww Va UB U3 Uw UT=>?_
   have up:∀p∈fz,p∈Va:=fun p hp=>U3 p (UG p (hk p hp))
   exact(ih (laf:=fun qq=>laf t) (fun qq=>hZ t) (m9 (hZ t) FO LV hI hL Uw UT (hgen.mono up)) (hgen.mono up)).mono fun e s' h=>h.elim fun qq h=>⟨t,h.up up⟩
 |@ws sp first tk f f' st st' v r k res hN hz hrest ih =>
   intro laf m fz s hZ HD hgen
   refine jU FO hS LV hA1 hN HD fun t m' fz' s' oL' hk R' L' b hb=>?_
   obtain rfl:=hb.trans FM
   show SegX _ A _ ((execs [.If (bj Cr) [JV] _ _] F.env).wrap _ _ id id) _ s' _
   refine aw (j7 (x:=yH) wf FO LV hA1 (hS▸DC) R' L' (K':=fun b UF=>b=bU "WS" "WS" /\ UF=st') (⟨rfl,rfl⟩:bU "WS" "WS" = bU "WS" "WS" /\ st'=st') fun b UF UR Ut hb UG Ur=>?_)
   obtain⟨hb,rfl⟩:=hb
   obtain rfl:=hb.trans (xS _)
   refine Hs (t:=JA) wf FO LV qv hA1 (hS▸E8) Ur (L'.mono UG) (K':=fun ρ' UN=>ρ'=[some .self,none,some (.str (aQ sp v)),some (.bool first),some (.tok "WS" v r k)]/\UN=UF)
     (⟨rfl,hz,rfl,rfl,rfl⟩:Operator.Add= .Add/\ar sp+ar v<=100000/\Fl.next= .next/\[some V.self,none,some (V.str (aQ sp v)),some (V.bool first),some (V.tok "WS" v r k)]=[some V.self,none,some (V.str (aQ sp v)),some (V.bool first),some (V.tok "WS" v r k)]/\UF=UF) fun Ww WS UN Va UB VY U3 Uw UT=>?_
   obtain⟨rfl,rfl⟩:=VY
   have up:∀p∈fz,p∈Va:=fun p hp=>U3 p (UG p (hk p hp))
   exact bM rfl ((ih (laf:=fun qq=>laf t) (fun qq=>hZ t) (m9 (hZ t) FO LV hI hL Uw UT (hgen.mono up)) (hgen.mono up)).mono fun e s' h=>h.elim fun qq h=>⟨t,h.up up⟩)
 |@oth sp first tk f f' st st' ty v r k hN h1 h2 =>
   intro laf m fz s hZ HD hgen
   refine jU FO hS LV hA1 hN HD fun t m' fz' s' oL' hk R' L' b hb=>?_
   obtain rfl:=hb.trans h1
   show SegX _ A _ ((execs [.If (bj Cr) _ [.Expr (.Yield (some (IE Lv)) _) _,Bv,Dy] _] F.env).wrap _ _ id id) _ s' _
   refine aw (j7 (x:=yH) wf FO LV hA1 (hS▸DC) R' L' (K':=fun b UF=>b=bU ty "WS" /\ UF=st') (⟨rfl,rfl⟩:bU ty "WS" = bU ty "WS" /\ st'=st') fun b UF UR Ut hb UG Ur=>?_)
   obtain⟨hb,rfl⟩:=hb
   obtain rfl:=hb.trans h2
   have U6:=L'.mono UG
   refine aw (kO (x:=Ev) wf FO LV hA1 rfl rfl hco (hS▸Id) Ur U6 (K':=fun v' UN=>v'= .ctok ty v sp first r k/\UN=UF) (⟨rfl,rfl⟩:V.ctok ty v sp first r k= .ctok ty v sp first r k/\UF=UF) fun v' xv UN Va UB kk lv p hv U3 Uw rv hres=>?_)
   obtain⟨rfl,rfl⟩:=hv
   exact⟨t,.tok _ _ xv _ _ kk lv p m' Va UB (fun p hp=>U3 p (UG p (hk p hp))) rv (.mid Bd p1 kk false ty v r k f' UN hres (Lc.forget (U6.mono U3))) (.mid false ty v r k f' UN oL' Uw)⟩
 |@end1 sp f st ty v r k hN =>
   intro laf m fz s hZ HD hgen
   refine tH FO hA1 hN HD fun t fz' s' hk R' L'=>?_
   show SegX _ A _ ((execs [.If (bj Fk) [.Expr (.Yield (some (IE Oj)) _) _] [] _] F.env).wrap _ _ id id) _ s' _
   refine aw (j7 (x:= .tand (.loc 3) (.loc 4)) RK FO LV hA3 (hS▸Ea) R' L' (K':=fun b UA=>b=true/\UA=⟨[],[],[]⟩) (⟨rfl,rfl⟩:true=true/\LS.mk [] [] []=⟨[],[],[]⟩) fun b UA Uy Uq hb Uu Uo=>?_)
   obtain⟨rfl,rfl⟩:=hb
   refine aw (kO (x:=tx) RK FO LV hA3 rfl rfl hco (hS▸EL) Uo (L'.mono Uu) (K':=fun v' UN=>v'= .ctok "BOL" "" "" true r k/\UN=⟨[],[],[]⟩) (⟨rfl,rfl⟩:V.ctok "BOL" "" "" true r k= .ctok "BOL" "" "" true r k/\LS.mk [] [] []=⟨[],[],[]⟩) fun v' xv UN Va UB kk lv p hv U3 Uw rv hres=>?_)
   obtain⟨rfl,rfl⟩:=hv
   exact⟨t,.tok _ _ xv _ _ kk lv p m Va UB (fun p hp=>U3 p (Uu p (hk p hp))) rv (.done Bd kk hres) (.done Uw)⟩
 |@end0 sp first tk f st hN h1 h2 =>
   intro laf m fz s hZ HD hgen
   refine tH FO hA1 hN HD fun t fz' s' hk R' L'=>?_
   show SegX _ A _ ((execs [.If (bj Fk) _ [] _] F.env).wrap _ _ id id) _ s' _
   have hw:p6 u9 [some .self,none,some (.str sp),some (.bool first),some tk] (fun qq qq=>False) (.tand (.loc 3) (.loc 4)) (⟨[],[],[]⟩:LS) (fun b UA=>b=false/\UA=⟨[],[],[]⟩):=by
     rcases first with qq|qq
     . exact(⟨rfl,rfl⟩:false=false/\LS.mk [] [] []=⟨[],[],[]⟩)
     ·
       obtain rfl:=h1.resolve_left XW
       exact(⟨rfl,rfl⟩:false=false/\LS.mk [] [] []=⟨[],[],[]⟩)
   refine aw (j7 (x:= .tand (.loc 3) (.loc 4)) RK FO LV hA3 (hS▸Ea) R' L' hw fun b UA Uy Uq hb Uu Uo=>?_)
   obtain⟨rfl,rfl⟩:=hb
   exact mG (.ok (.ret .none)) ⟨t,.fin m Uy Uq (fun p hp=>Uu p (hk p hp)) Uo⟩
 |@err sp first tk f st p hN =>
   intro laf m fz s hZ HD hgen
   refine eS (hA1.symm▸HD.nx _ _ _ hN fun t x st' fz' s' hk hz=>ua (hA1.trans hA3.symm) (hA3.symm▸jq FO.fr U hz fun Ut U8=>?_))
   exact⟨t,.err _ x fz' st' _ Ut hk U U8 (fB FOb U8.d rfl)⟩
end
end
end
section
noncomputable abbrev Se(fd:FuncData) (cl:List (Str×W3)):FuncData:=PySem.W.fnX fd.name fd.qualname fd.params (ay fd) fd.scope cl fd.defaults fd.kwdefaults fd.doc fd.pyModule fd.annotations fd.code fd.closureTuple
structure pU(P:W1) (f:W3) (cl:List (Str×W3)):Prop where
 shape:(KF P).lookup f=some (QO (ob P f) (Se (ah P f) cl))
 scope:e7 (ah P f).scope=true
 code:codeIn (KF P) (ah P f).code (ah P f).qualname=true
theorem pU.fd(h:pU P f cl):ah P f=Se (ah P f) cl:=congrArg (fun x=>O7 (qy x).data) h.shape
theorem Nv(P:W1):pU P 208 []:=⟨by kernel_rfl,wF P,by kernel_rfl⟩
theorem KP(P:W1):pU P 314 []:=⟨by kernel_rfl,D6 P,by kernel_rfl⟩
theorem K7(P:W1):pU P 328 []:=⟨by kernel_rfl,z8 P,by kernel_rfl⟩
theorem MQ(P:W1):pU P 366 [("__class__",332)]:=⟨by kernel_rfl,xR P,by kernel_rfl⟩
noncomputable def iJ(i:Nat) (nm qn:WY):Obj:={cls:= .type "generator",data:= .fields #[.int i 0,nm,qn]}
section
variable {news:ad}
theorem pN(FO:aa w F) (hdep:A.depth<Xh) (R:aO F m news s₀ s) (GO:pU w.params f cl) (hbind:lB s (ah w.params f) args binds) (hloc:binds.all (fun y=>(ah w.params f).scope.names.lookup y.1 == some .local)=true) {Rr:Result->W2->Prop}
   (h:∀L ga oL nm qn h' t,fL (fun y=>binds.reverse.lookup y) oL->Fr F.Up F.L h' m->News F.Up F.L h' ((ga,iJ s.gens.size nm qn)::(L,oL)::news)->(∀p∈news,p.1<L)->L<ga->F.L<L ->
     Rr (.ok (.ret (.ref ga))) {s with heap:=h',toks:=t,gens:=s.gens.push (.fresh (.func (ay (ah w.params f)) (PySem.W.envX (ah w.params f).qualname (ah w.params f).scope L f (ah w.params f).code cl)))}) :
   codeAny (model ae w) A (.call (.ref f) args) Rr s:=by
 obtain⟨hco,hgen,hk,hcell⟩:=bB GO.scope
 have X:(KF w.params).In s.heap:=FO.G.X.keeps R.fr.keep
 refine codeAny_call_generator hdep (X _ _ GO.shape) rfl hco hgen rfl (codeRec_of X GO.code) ((GO.fd▸hbind.h:_) _ _ _ _ ?_)
 refine wpAny_newFunctionEnv hcell (fun y hy=>eq_of_beq (X7.mp hloc y hy)) (fun h₁ hns hsb=>?_) hk
 have UY:∀b o,s.heap.get? b=some o->h₁.get? b=some o:=fun b o e=>hsb.extBut b o (X3 (XQ e)) (Xm _ e)
 obtain⟨oL,hoL,hN⟩:=iG hns
 have hsz:s.heap.objs.size<h₁.objs.size:=XQ hoL
 have hFL:F.L<s.heap.objs.size:=mA R.fr.ns
 have none:∀{a:W3},s.heap.objs.size<=a->F.Up.get? a= .none:=fun ha=>Option.eq_none_iff_forall_ne_some.mpr fun o q=>absurd (XQ (R.fr.keep _ _ q)) (Nat.not_lt_of_le ha)
 exact⟨(FO.G.lim.keeps R.fr.keep).fresh _ hsb,h s.heap.objs.size h₁.objs.size oL (.str (ah w.params f).name (s.toks+binds.length)) (.str (ah w.params f).qualname (s.toks+binds.length+1)) _ _ hN (R.fr.keeps fun b o e=>Xm _ (UY b o e))
   (fun p hp=>(Xb.mp hp).elim (fun e=>e▸⟨Heap.get?_push_at rfl rfl,XC (Xx hFL hsz),none (Nat.le_of_lt hsz)⟩) fun hp=>(Xb.mp hp).elim (fun e=>e▸⟨Xm _ hoL,XC hFL,none (Xl _)⟩) fun hp=>⟨Xm _ (UY _ _ (R.nw p hp).1),(R.nw p hp).2⟩)
   (fun p hp=>XQ (R.nw p hp).1) hsz hFL⟩
theorem vJ(FO:aa w F) (R:aO F m news s₀ s) {lx:W3} (hx:(lx,Xu 439 dx)∈news) (hd:(dx,Xc es n)∈news) {a:Nat} (hf:Jh a=some f) (he:getL (AN a) es=some none)
   (h:∀q s',aO F m ((q,methodObj (.ref f) (.ref lx))::news) s₀ s'->(∀p∈news,p.1<q)->Q (.ref q) s'):wpAny (model ae w) A (getAttr (.ref lx) (AN a) true) Q E s:=by
 have hm:=np w.params (sQ hf)
 have hg:=ai hm
 have I:Xr s.heap lx (Xu 439 dx) 439 (some (Xc es n)):=⟨(R.nw _ hx).1,rfl,rfl,(R.nw _ hd).1⟩
 exact kbm_bound R.fr FO.G.X R.nw I (ew _ _) (lr _) (eq_of_beq (af (af hm))) (af (af (af hg))) (eq_of_beq (ai (af (af hg)))) (eq_of_beq (ai (af hg))) (dq (ai (af hm))) he fun q h' F' N' lt=>h q _ ⟨F',N',R.gens,R.os,R.dr⟩ lt
end
section
variable {c:Code}{P:End->W2->Prop}{env:Env}
theorem xI{m:Sem α}{K:α->Sem XA}{H:WY->Sem XA}{gd lv} (h:_root_.PySem.wpAt M (A.over c []) c m (fun a s'=>SegX M A c (K a) [] s' P) (fun x s'=>SegX M A c (H x) [] s' P) s):SegX M A c (m.wrap K H gd lv) [] s P:=by
 rintro Γ p rfl hΓ
 obtain⟨e,s',hr,hq⟩:=runs_wrap_of_wp (Φ:=fun e s'=>e.quiet=true/\P e s') K H gd lv m (h (Γ.over []) p rfl (hΓ.over [])) (fun a p' s' h'=>h' Γ p' rfl hΓ) (fun x p' s' h'=>h' Γ p' rfl hΓ)
 exact⟨e,s',hr,hq⟩
theorem Au{K:Flow->Sem XA}{H:WY->Sem XA}{target iter:W5}
   (h:_root_.PySem.wpAt M (A.over c []) c (eval iter env) (fun x Un=>wpAny M (A.over c []) (pyIter x) (fun it Uq=>∀p,SegX M A (.forLoop target it body orelse env) (M.den (.forLoop target it body orelse env))
     [.ret (fun r=>((match r with| .ok f=>(.pure f:Sem Flow)| .error e=> .raise e).onRaise fun(x:WY)=>do
       if (←field x 1) == Value.none then unsupported "frame.own-activation:exception-without-traceback"
       setFlight x env.frame).wrap K H id id) none (id false) (id []) c p []] Uq P) (fun x s'=>SegX M A c (H x) [] s' P) Un) (fun x s'=>SegX M A c (H x) [] s' P) s)
   (hs:∀x,foldedSetIterable iter env x=pure x:=by intro qq;rfl) :
   SegX M A c ((exec (.For target iter body orelse pos) env).wrap K H id id) [] s P:=by
 rw[exec_For]
 show SegX M A c (.at pos fun qq=>((eval iter env >>= fun x=>foldedSetIterable iter env x >>= fun x=>standAt iter.pos >>= fun qq=>holding [x] (pyIter x) >>= fun it=>runOwn (.forLoop target it body orelse env) env).wrap K H id id)) [] s P
 refine lO ?_
 rw[XU,X6]
 refine xI (PySem.ks_wpAt_mono h (fun x Un h₁=>?_) fun qq qq x=>x)
 show SegX M A c (Sem.wrap K H id id (foldedSetIterable iter env x >>= fun x=>standAt iter.pos >>= fun qq=>holding [x] (pyIter x) >>= fun it=>runOwn (.forLoop target it body orelse env) env)) [] Un P
 rw[hs x]
 show SegX M A c (.at iter.pos fun qq=>(holding [x] (pyIter x) >>= fun it=>runOwn (.forLoop target it body orelse env) env).wrap K H id id) [] Un P
 refine lO ?_
 rw[XU,X6]
 refine bX (wpAny_holding (Xq h₁ (fun it Uq UI=>?_) fun qq qq x=>x))
 exact rT UI
end
end
section
noncomputable def dd(Fb:Fm) (P:W1) (L:W3):Fm:={Fb with q:=(ah P 366).qualname,sc:=(ah P 366).scope,L:=L,a:=366,cd:=(ah P 366).code,cl:=[("__class__",332)]}
noncomputable abbrev Ew(Fb:Fm) (s:W2) (led:List W3) (A:Yc) (P:W1) (L:W3):Fm:=iM Fb s led A (ah P 366).qualname (ah P 366).scope L 366 (ah P 366).code [("__class__",332)]
noncomputable def mj(w:Xj) (la:LA) (Fb:Fm) (L3 i3:Nat) (ga2:W3) (fz:ad) (oL:Obj) (g:Array Xf) (S:S3):Prop:=∀qC:Prop,(∀(m:Str->Option WY) (code:Code) (fs:List Frame) (k:Resume->Sem XA) (lv:List WY) (p:Pos),fL m oL->lw w la (dd Fb w.params L3) ga2 fz m code fs k S->g[i3]?=some (.suspended k lv code p fs false)->qC)->qC
theorem lw.mono{code:Code}{k:Resume->Sem XA}{S:S3} (h:lw w la F ga2 fz m code fs k S) (kk:∀p∈fz,p∈fz'):lw w la F ga2 fz' m code fs k S:=by
 induction h with
 |mid Bd p1 k b ty v r q f st a c=>exact .mid Bd p1 k b ty v r q f st a (c.mono kk)
 |done Bd k a=>exact .done Bd k a
theorem lw.guard{code:Code}{k:Resume->Sem XA}{S:S3} (h:lw w la F ga2 fz m code fs k S):fs.any Frame.guarded=false:=by
 induction h<;>rfl
theorem mj.mono{L3 i3:Nat}{S:S3} (h:mj w la Fb L3 i3 ga2 fz oL g S) (kk:∀p∈fz,p∈fz'):mj w la Fb L3 i3 ga2 fz' oL g S :=
 h _ fun m code fs k lv p a b c=>(fun qq qk=>qk m code fs k lv p a (b.mono kk) c)
theorem fN.fb(Fc:Fm) {g':Array Xf} (h:fN w la Fb L2 i2 fz oL g f) (e:∀gs,g[i2]?=some gs->g'[i2]?=some gs):fN w la Fc L2 i2 fz oL g' f :=
 h _ fun m Bd p1 p2 kk lv p a b c d=>(fun qq qk=>qk m Bd p1 p2 kk lv p a b c (e _ d))
theorem Aq{sw:W2}{led:List W3}{L3:W3}{code:Code}{k:Resume->Sem XA}{S:S3} (h:lw w la (Ew Fb sw led A w.params L3) ga2 fz m code fs k S):lw w la (dd Fb w.params L3) ga2 fz m code fs k S:=by
 induction h with
 |mid Bd p1 k b ty v r q f st a c=>exact .mid (F:=dd Fb w.params L3) Bd p1 k b ty v r q f st a c
 |done Bd k a=>exact .done (F:=dd Fb w.params L3) Bd k a
inductive Es(w:Xj) (la:LA) (G:eu) (old:Bool) (co:W3) (lo ng:Nat) (ex:ad) (L3 i3 L2 i2:Nat) (ga2:W3) (Fb:Fm) (mb:Str->Option WY) (fz:ad) (s:W2):S3->Prop
 |mid (b:Bool) (ty v:Str) (r k:Int) (f:W3) (st:LS) (oL3 oL2:Obj):RS w (JS w la G old co lo ng ((L3,oL3)::(L2,oL2)::ex)) Fb mb st fz s->fN w la Fb L2 i2 fz oL2 s.gens f->mj w la Fb L3 i3 ga2 fz oL3 s.gens (.mid b ty v r k f st)->Es w la G old co lo ng ex L3 i3 L2 i2 ga2 Fb mb fz s (.mid b ty v r k f st)
 |done (oL3:Obj):RS w (J1 w.params la (SD w G old co lo ng ((L3,oL3)::ex) true)) Fb mb ⟨[],[],[]⟩ fz s->mj w la Fb L3 i3 ga2 fz oL3 s.gens .done->Es w la G old co lo ng ex L3 i3 L2 i2 ga2 Fb mb fz s .done
noncomputable def sJ(w:Xj) (la:LA) (G:eu) (old:Bool) (co:W3) (lo ng:Nat) (ex:ad) (L3 i3 L2 i2:Nat) (ga2:W3) (Fb:Fm) (mb:Str->Option WY) (fz:ad) (Q:Option WY->W2->Prop) (E:WY->W2->Prop):eD->Prop
 |.tok t S=>∀v fz' s',(∀p∈fz,p∈fz')->RV w.params la fz' t v->Es w la G old co lo ng ex L3 i3 L2 i2 ga2 Fb mb fz' s' S->Q (some v) s'
 |.fin=>∀fz' s',(∀p∈fz,p∈fz')->RS w (J1 w.params la (SD w G old co lo ng ex true)) Fb mb ⟨[],[],[]⟩ fz' s'->Q none s'
 |.err p=>∀x st' fz' s',(∀p∈fz,p∈fz')->qj (I1 w.params la (bV w G old co lo ng ex)) Fb mb st' fz' p x s'->E x s'
section
variable {old:Bool}
theorem Mm{st:LS} (R:RS w (J1 w.params la (SD w G old co lo ng ex b)) F m st fz s):ng<=s.gens.size :=
 R.led.elim fun qq h=>h.1 _ fun qq qq h qq qq=>h _ fun qq qq qq qq qq qq qq qq qq qq qq qq qq qq qq hS=>(SD.strm hS) _ fun qq qq qq qq qq h=>h
theorem xr{F':Fm} (U:ev F F' m) (U':ev F F' m'):m=m':=by
 obtain⟨o,es,ep,h1,h2,qq,h3⟩:=U.fr.ns
 obtain⟨o',es',ep',h1',h2',qq,h3'⟩:=U'.fr.ns
 cases h1.symm.trans h1'
 cases h2.symm.trans h2'
 exact funext fun x=>(h3 x).symm.trans (h3' x)
theorem Dn{st:LS} (h:qj (I1 w.params la (bV w G old co lo ng ex)) F m st fz p e s) (hg:GQ G s.gens s'.gens) (hh:s'.heap=s.heap) (ho:s'.os=s.os) (hd:s'.drawn=s.drawn) :
   qj (I1 w.params la (bV w G old co lo ng ex)) F m st fz p e s' :=
 h _ fun x d es n mu B h1 h2 h3 hI h4 h5 h6 h7 h8 h9 h10=>(fun qq qk=>qk x d es n mu B h1 h2 h3 (wC hI hg) h4 h5 h6 (hh.symm▸h7) (hh.symm▸h8) (ho.trans h9) (hd.trans h10))
theorem nj{L3 i3:Nat}{ga3:W3} (hI3:oq G ng i3) (h23:i2≠i3) {Q:Option WY->W2->Prop} (hgen:d9 i3 ga3 fz) {sw:W2}{led:List W3} (FO:aa w Fb) (U:ev Fb (Ew Fb sw led A w.params L3) mb) (h:sJ w la G old co lo ng ex L3 i3 L2 i2 ga2 Fb mb fz Q E res) {e:End} (r:pF w la G old co lo ng ex (Ew Fb sw led A w.params L3) Fb L2 i2 ga2 fz res e Un):Un.heap.IsGen ga3 i3/\hG w i3 Q E e Un:=by
 induction r with
 |tok t S v code fs k lv p m' fz' Un hk rv hsus hst =>
   have hgs:End.genState (.susp v false lv k code p fs)= .suspended k lv code p fs false:=congrArg (fun b=>GenState.suspended k lv code p fs (false || b)) hsus.guard
   have fin:∀oL,i3<Un.gens.size->fL m' oL->mj w la Fb L3 i3 ga2 fz' oL (Un.setGen i3 (.suspended k lv code p fs false)).gens S:=fun oL hlt hN =>
     (fun qq qk=>qk m' code fs k lv p hN (Aq hsus) (Array.getElem?_setIfInBounds_self_of_lt hlt))
   have out:∀{P:Prop},P->Es w la G old co lo ng ex L3 i3 L2 i2 ga2 Fb mb fz' (Un.setGen i3 (.suspended k lv code p fs false)) S->P/\hG w i3 Q E (.susp v false lv k code p fs) Un:=fun hP T =>
     ⟨hP,.inl ⟨v,lv,k,code,p,fs,rfl,hgs.symm▸h v fz' _ hk rv T⟩⟩
   induction hst with
   |mid b ty Wx r q f st oL R =>
     have⟨R0,T0⟩:=R.of_jt
     have⟨oL3,hN,R'⟩:=m6 ip U R0 (i:=i3) (gs:= .suspended k lv code p fs false) hI3.n0 hI3.n1 rfl
     exact out (R0.isGen (hgen.mono hk)) (.mid b ty Wx r q f st oL3 oL R' (T0.fb Fb fun gs e=>(Yb (Ne.symm h23)).trans e) (fin oL3 (XT hI3.lt (Eo R0)) hN))
   |done R0 =>
     have⟨oL3,hN,R'⟩:=m6 (Jf:=fun ex=>J1 w.params la (SD w G old co lo ng ex true)) fJ U R0 (i:=i3) (gs:= .suspended k lv code p fs false) hI3.n0 hI3.n1 rfl
     exact out (R0.isGen (hgen.mono hk)) (.done oL3 R' (fin oL3 (XT hI3.lt (Mm R0)) hN))
 |fin m' fz' Un hk R =>
   exact⟨R.isGen (hgen.mono hk),.inr (.inl ⟨rfl,fun h' hk'=>h fz' _ hk (pD (Jf:=fun ex=>J1 w.params la (SD w G old co lo ng ex true)) fJ (tn (Jf:=fun ex=>J1 w.params la (SD w G old co lo ng ex true)) fJ U R (i:=i3) (gs:= .finished) hI3.n0 hI3.n1 rfl) (t:=Un.toks) hk')⟩)⟩
 |err p x fz' st' mb' Un hk U' hz hns =>
   exact⟨py hz.d (hgen.mono hk),.inr (.inr ⟨x,rfl,fB FO hz.d rfl,h x st' fz' _ hk (Dn (xr U' U▸hz) (GQ.set hI3.n0 hI3.n1 rfl) rfl rfl rfl)⟩)⟩
theorem nR{L3:Nat}{Bd:List Stmt} (FO:aa w Fb):(Fb.A.in1.over (.func Bd (dd Fb w.params L3).env) []).frames=some ((dd Fb w.params L3).env::Fb.env::Fb.outer):=congrArg (fun f=>pushEnvs [(dd Fb w.params L3).env] (pushEnvs [] f)) FO.fr
theorem KA(Z:gy w la G old co lo ng) (FO:aa w Fb) (LV:aU Fb.A 33) {L3 i3:Nat}{ga3:W3}{S:S3} (hI3:oq G ng i3) (hI2:oq G ng i2) (h23:i2≠i3) (hgen3:d9 i3 ga3 fz) (hgen2:d9 i2 ga2 fz) (T:Es w la G old co lo ng ex L3 i3 L2 i2 ga2 Fb mb fz s S) (hN:BO old S res)
   (hL3:Fb.L<L3) (hL2:L3<L2) {Q:Option WY->W2->Prop} (h:sJ w la G old co lo ng ex L3 i3 L2 i2 ga2 Fb mb fz Q E res):wpAny (model ae w) Fb.A (pyNext (.ref ga3)) Q E s:=by
 have sc3:=(bB (xR w.params)).2.2.1
 cases T with
 |mid b ty v r kk f st oL3 oL2 R T2 T3 =>
   cases hN with
   |mid hrun =>
   refine T3 _ ?_;rintro m code fs k lv p hm hsus hg
   cases hsus with
   |mid Bd p1 _ _ _ _ _ _ _ _ hres L =>
   refine(ik (i:=i3) (gs:= .running) ip FO R hm hI3.n0 hI3.n1 rfl sc3 hL3 (nR (Bd:=Bd) FO)) _ ?_;rintro led FO' U R'
   refine bA LV.hd (FO.G.lim.keeps R.fr.keep) LV.lt (R.isGen hgen3) hg (.inr ⟨k,lv,p,false,rfl,rfl⟩) (hres _ _ _ ?_)
   refine JM (F:=Ew Fb s led (Fb.A.in1.over (.func Bd (dd Fb w.params L3).env) []) w.params L3) FO' (IJ w.params) LV.wk rfl (R'.to_jt (T2.fb _ fun gs e=>(Yb (Ne.symm h23)).trans e)) L fun m' fz' s' hf Uo UL=>?_
   exact(sK (laf:=fun qq=>la) FO' (IJ w.params) LV.wk rfl rfl U FO hI2 hL2 hrun (fun qq=>Z) (m9 Z FO' LV.wk hI2 hL2 Uo UL (hgen2.mono hf)) (hgen2.mono hf)).mono fun e Un h'=>h'.elim fun qq hr=>nj hI3 h23 hgen3 FO U h (hr.up hf)
 |done oL3 R T3 =>
   cases hN
   refine T3 _ ?_;rintro m code fs k lv p hm hsus hg
   cases hsus with
   |done Bd _ hres =>
   refine(ik (Jf:=fun ex=>J1 w.params la (SD w G old co lo ng ex true)) (i:=i3) (gs:= .running) fJ FO R hm hI3.n0 hI3.n1 rfl sc3 hL3 (nR (Bd:=Bd) FO)) _ ?_;rintro led FO' U R'
   exact bA LV.hd (FO.G.lim.keeps R.fr.keep) LV.lt (R.isGen hgen3) hg (.inr ⟨k,lv,p,false,rfl,rfl⟩) (hres _ _ _ (mG _ (nj hI3 h23 hgen3 FO U h (.fin m fz _ (fun qq h=>h) R'))))
end
end
section
noncomputable def Ly{σ:Type}:lz σ where
 glob:=mJ
 attr qq qq qq qq:=False
 meth qq qq:=none
 callable qq:=false
 call qq qq qq qq qq qq:=False
 truth qq qq qq:=False
 bin qq qq qq qq qq:=False
 iop qq qq qq qq qq:=False
 cmp qq qq qq qq qq:=False
 sub qq qq qq qq qq:=False
 slc qq qq qq qq qq:=False
 lst qq qq qq:=False
theorem At{J:cu σ} (JO:bZ J):aI w J (Ly (σ:=σ)) n where
 jok:=JO
 glob i x v h:=Ae h
 attr:=fun qq qq qq qq qq qq qq qq qq qq qq qq qq qq qq h qq=>h.elim
 meth:=fun qq qq qq qq qq qq qq qq qq qq qq qq qq qq qq qq h=>bN h
 methK:=fun qq qq qq h=>bN h
 keep:=fun qq qq qq qq qq qq qq qq qq qq h=>ly h
 call:=fun qq qq qq qq qq qq qq qq qq qq qq qq qq qq qq qq qq qq qq qq qq h qq qq=>h.elim
 truth:=fun qq qq qq qq qq qq qq qq qq qq qq qq qq qq h qq=>h.elim
 bin:=fun qq qq qq qq qq qq qq qq qq qq qq qq qq qq qq qq qq qq h qq=>h.elim
 iop:=fun qq qq qq qq qq qq qq qq qq qq qq qq qq qq qq qq qq qq h qq=>h.elim
 cmp:=fun qq qq qq qq qq qq qq qq qq qq qq qq qq qq qq qq qq qq h qq=>h.elim
 sub:=fun qq qq qq qq qq qq qq qq qq qq qq qq qq qq qq qq qq qq qq qq qq h qq qq=>h.elim
 slc:=fun qq qq qq qq qq qq qq qq qq qq qq qq qq qq qq qq qq qq qq qq qq qq qq qq qq qq h qq=>h.elim
 lst:=fun qq qq qq qq qq qq qq qq qq qq qq qq qq qq h qq=>h.elim
theorem Mu(P:W1):PySem.W.ks_superIn (KF P) 439 439 "tokenize" = some (some (.ref 208)):=by kernel_rfl
theorem DL(P:W1):mroIn (KF P) 439 (.ref 439)=some true:=by kernel_rfl
theorem KI(P:W1):typeIn (KF P) (.ref 208)=some (.type "function"):=by kernel_rfl
theorem Ln(P:W1):fnIn (KF P) 208=true:=by kernel_rfl
theorem AF(P:W1) (a b c:WY):X1 (ah P 208) ⟨[a,b,c],[]⟩=(pure [(W8 "self",a),(W8 "characters",b),(W8 "start_state",c)]:Sem (List (Str×WY))):=by kernel_rfl
theorem Go(P:W1):aA (ah P 208).scope ["self", "characters", "start_state"]=true:=by kernel_rfl
section
variable {old:Bool}
theorem Lq:bZ (JP w la G old co lo ng ex):=⟨fun st mu fz fz' g h k=>h _ fun na nb nc ps n4 sc lex ab hz e hdn ht hS=>(fun qq qk=>qk na nb nc ps n4 sc (k _ lex) ab hz e hdn ht (eo.mono _ _ _ _ _ hS k))⟩
noncomputable def MY(w:Xj) (la:LA) (G:eu) (old:Bool) (co:W3) (lo ng:Nat) (ex:ad) (F:Fm) (r:List Ch) (fz:ad) (s:W2):Prop:=∀qC:Prop,(∀(tl:ad) (n4:Nat),(la.lx,Xu 439 la.dx)∈fz->(la.dx,Xc (dO la) n4)∈tl->ng<=s.gens.size->News F.Up F.L s.heap (tl++ex++fz)->(a7 (tl++ex++fz)).Nodup ->
   (∀(F':Fm) (ex' fz':ad) (s':W2) m' (ng':Nat),F'.os=F.os->F'.dr=F.dr->F'.base=F.base->(∀p∈fz,p∈fz')->News F'.Up F'.L s'.heap (tl++ex'++fz')->(a7 (tl++ex'++fz')).Nodup->Fr F'.Up F'.L s'.heap m'->GQ G s.gens s'.gens->s'.os=s.os->s'.drawn=s.drawn->ng'<=s'.gens.size ->
     RS w (JP w la G old co lo ng' ex') F' m' r fz' s')->qC)->qC
theorem Hk(R:RS w (JP w la G old co lo ng ex) F m r fz s):MY w la G old co lo ng ex F r fz s:=by
 obtain⟨mu,qi,N,nd⟩:=R.led;refine qi _ ?_;rintro na nb nc ps n4 sc lex ab hz rfl hdn ht qi;refine qi _ ?_;rintro sc0 rfl hS Z OI hng
 exact fun qq qk=>qk ((la.tb,W0 #[] na)::(la.pb,W0 #[] nb)::(la.ct,W0 #[] nc)::(225,tabObj ps)::(la.dx,Xc (dO la) n4)::sc0) n4 lex (.tail _ (.tail _ (.tail _ (.tail _ (.head _))))) hng N nd fun F' ex' fz' s' m' ng' e1 e2 e3 k N' nd' Uz hg ho hd hn =>
   ⟨Uz,⟨_,(fun qq qk=>qk na nb nc ps n4 (sc0++ex') (k _ lex) (hg.bare ab) hz rfl hdn ht (fun qq qk=>qk sc0 rfl (hS.imp (fun h=>fK (gX h hg.same) k) fun h=>h.gens (hg.same _ (.inr rfl))) (Z.mono k) (OI.mono k) hn)),N',nd'⟩,(ho.trans R.os).trans e1.symm,(hd.trans R.dr).trans e2.symm,e3.symm▸R.lo⟩
theorem gy.ngs(Z:gy w la G old co lo ng) (ng':Nat):gy w la G old co lo ng':=⟨Z.ga,Z.lo,Z.more,Z.co⟩
theorem Em{x g q:W3×Obj}:(tl++x::ex++g::q::fz).Perm (g::x::q::(tl++ex++fz)):=jA.trans (((XF.trans (XF.cons g)).cons x).trans (List.Perm.swap g x _))
theorem dG{b:W3} (h:∀p∈l,p.1<b):b∉a7 l:=fun hm=>(Xp.mp hm).elim fun p hp=>X3 (h p hp.1) hp.2
theorem Bw(FO:aa w F) (hdep:F.A.depth<Xh) (R:RS w (JP w la G old co lo ng ex) F m r fz s) (henv:F.env=PySem.W.ksEnv (ah w.params 366).qualname (ah w.params 366).scope F.L 366 (ah w.params 366).code 332) (h1:m "self" = some (.ref la.lx)) (h2:m "characters" = some (.ref la.ga)) (hS:F.sc=S0 366) {Bd:List Stmt} (h:∀L2 i2 ga2 oL2 m2 q fz' s',(∀p∈fz,p∈fz')->F.L<L2->ng<=i2->i2<s'.gens.size->d9 i2 ga2 fz'->fL m2 oL2->m2 "self" = some (.ref la.lx)->m2 "characters" = some (.ref la.ga)->m2 "start_state" = some (.ref q)->(q,methodObj (.ref 373) (.ref la.lx))∈fz' ->
     s'.gens[i2]?=some (.fresh (.func (ay (ah w.params 208)) (f6 F w.params 208 L2).env))->RS w (JP w la G old co lo (i2+1) ((L2,oL2)::ex)) F m r fz' s'->Q (.ref ga2) s') :
   _root_.PySem.wpAt (model ae w) F.A (.func Bd F.env) (eval Lh F.env) Q E s:=by
 show _root_.PySem.wpAt _ _ _ (eval (.Call (.Attribute (.Call (.Name "super" _) [] [] _) "tokenize" _) [.Name "characters" _,.Attribute (.Name "self" _) (AN 20) _] [] _) F.env) Q E s
 refine(Hk R) _ ?_;rintro tl n4 hlx hdx hng N nd back
 have hlx':(la.lx,Xu 439 la.dx)∈tl++ex++fz:=W4 _ hlx
 have hdx':(la.dx,Xc (dO la) n4)∈tl++ex++fz:=W7 _ (W7 _ hdx)
 refine hM FO (⟨R.fr,N,rfl,rfl,rfl⟩:aO F m (tl++ex++fz) s s) (MD _) henv h1 hlx' hdx' rfl rfl rfl (DL _) (by decide +kernel) rfl rfl (Mu _) (KI _) fun q Un Uv WT=>?_
 refine XZ (P:=MethP (KF w.params) q 208 (.ref la.lx)) rfl (keeps_M (Ln _)) (aq ?_ rfl)
 refine Xz (ax FO Uv (ln hS (by kernel_rfl)) h2 (Xz (Attribute_any_ (ax FO Uv (ln hS (by kernel_rfl)) h1 (vJ FO Uv (.tail _ hlx') (.tail _ hdx') (a:=20) (f:=373) rfl (by kernel_rfl) fun ql Uq Uo Wy=>?_)) (by rw[X8,al rfl]))))
 refine args_nil ⟨⟨(Uo.nw _ (.tail _ (.head _))).1,FO.G.X.keeps Uo.fr.keep⟩,wpAny_call (method_call (Uo.nw _ (.tail _ (.head _))).1 ?_)⟩
 have Ur:=Uo.sub (news':=(ql,methodObj (.ref 373) (.ref la.lx))::(tl++ex++fz)) fun p hp=>(Xb.mp hp).elim (fun e=>e▸ .head _) fun hp=> .tail _ (.tail _ hp)
 refine pN FO hdep Ur (Nv _) (.of_eq (AF _ _ _ _)) (au (Go _) rfl) fun L2 ga2 oL2 nmv qnv h' t hN2 hfr hnw lt hlt hFL=>?_
 have hgs:Uq.gens=s.gens:=Uo.gens
 have all:∀p∈(L2,oL2)::(ql,methodObj (.ref 373) (.ref la.lx))::(tl++ex++fz),p.1<ga2:=fun p hp=>(Xb.mp hp).elim (fun e=>e▸hlt) fun hp=>Xx (lt p hp) hlt
 have nd':(a7 (tl++((L2,oL2)::ex)++((ga2,iJ Uq.gens.size nmv qnv)::(ql,methodObj (.ref 373) (.ref la.lx))::fz))).Nodup :=
   (Em.map (·.1)).nodup_iff.mpr (XD.mpr ⟨dG all,XD.mpr ⟨dG lt,XD.mpr ⟨dG fun p hp=>Wy p (.tail _ hp),nd⟩⟩⟩)
 exact h L2 Uq.gens.size ga2 oL2 _ ql ((ga2,iJ Uq.gens.size nmv qnv)::(ql,methodObj (.ref 373) (.ref la.lx))::fz) _ (fun p hp=> .tail _ (.tail _ hp)) hFL (hgs.symm▸hng) (Nat.lt_of_lt_of_eq (Nat.lt_succ_self _) (Array.size_push ..).symm) (fun qq qk=>qk _ nmv qnv (.head _) rfl rfl rfl) hN2 (by kernel_rfl) (by kernel_rfl) (by kernel_rfl) (.tail _ (.head _)) Array.getElem?_push_size
   (back F _ _ _ m _ rfl rfl rfl (fun p hp=> .tail _ (.tail _ hp)) (fun p hp=>hnw p (Em.mem_iff.mp hp)) nd' hfr (hgs▸GQ.push rfl) Uo.os Uo.dr (W9 (Array.size_push ..).symm))
end
end
section
section
variable {old:Bool}
theorem Lc.setT{tk:Tok} (h:Lc w.params la i7 [some .self,some .gen,some (.str ""),some (.bool true),some .none] m fz):Lc w.params (la.setT w.params tk) i7 [some .self,none,some (.str ""),some (.bool true),some .none] m fz:=by
 obtain⟨a,ea,ra⟩:=h 0 _ _ rfl rfl
 obtain⟨b,eb,rb⟩:=h 2 _ _ rfl rfl
 obtain⟨c,ec,rc⟩:=h 3 _ _ rfl rfl
 obtain⟨d,ed,rd⟩:=h 4 _ _ rfl rfl
 obtain⟨t,rfl⟩:=rb.view
 obtain rfl:=ra.view;obtain rfl:=rc.view;obtain rfl:=rd.view
 exact((((dJ (us:=[]) fun qq=>rfl).cons ed (show RV w.params (la.setT w.params tk) fz .none .none from .none)).cons ec (.bool _)).cons eb (.str _ _)).skip.cons ea (show RV w.params (la.setT w.params tk) fz .self (.ref la.lx) from .self)
theorem EH(Z:gy w la G old co lo ng) (FO:aa w Fb) (LV:aU Fb.A 33) {L3 i3:Nat}{ga3:W3}{oL3:Obj}{m3:Str->Option WY} (R:RS w (JP w la G old co lo ng ((L3,oL3)::ex)) Fb mb r fz s) (hi0:G.i0<ng) (hi1:G.i1<ng) (hI3:oq G ng i3) (hgen3:d9 i3 ga3 fz) (hm:fL m3 oL3)
   (h1:m3 "self" = some (.ref la.lx)) (h2:m3 "characters" = some (.ref la.ga)) (hg:s.gens[i3]?=some (.fresh (.func (ay (ah w.params 366)) (dd Fb w.params L3).env))) (hN:dR old "" true .none 373 ⟨[],[],r⟩ res) (hL3:Fb.L<L3)
   {Q:Option WY->W2->Prop}
   (h:∀tk ng' L2 i2 ga2 fz',(∀p∈fz,p∈fz')->L3<L2->oq G ng' i2->oq G ng' i3->i2≠i3->d9 i2 ga2 fz'->sJ w (la.setT w.params tk) G old co lo ng' ex L3 i3 L2 i2 ga2 Fb mb fz' Q E res):wpAny (model ae w) Fb.A (pyNext (.ref ga3)) Q E s:=by
 refine(ik (i:=i3) (gs:= .running) te FO R hm hI3.n0 hI3.n1 rfl (bB (xR w.params)).2.2.1 hL3 (nR (Bd:=B0 366) FO)) _ ?_;rintro led FO' U R'
 have hS:(Ew Fb s led (Fb.A.in1.over (.func (B0 366) (dd Fb w.params L3).env) []) w.params L3).sc=S0 366:=IJ w.params
 have LV':aU (Fb.A.in1.over (.func (B0 366) (dd Fb w.params L3).env) []) 31:=LV.wk
 rw[Q3] at hg
 refine bA LV.hd (FO.G.lim.keeps R.fr.keep) LV.lt (R.isGen hgen3) hg (.inl ⟨rfl,rfl,rfl⟩) (nI ?_)
 show SegX _ _ _ ((execs [Kf,Kn,.Assign [.Name "token" _] (.Constant .none _ _) _,.For S5 Lh P8 [] _,Fk] (dd Fb w.params L3).env).wrap _ _ id id) _ _ _
 have Wz:Lc w.params la i7 [some .self,some .gen,none,none,none] m3 fz:=((dJ (us:=[none,none,none]) (bJ 3)).cons h2 .gen).cons h1 .self
 have ON:aI w (JP w la G old co lo ng ex) Ly 31:=At Lq
 refine Hs (t:=wa) (F:=Ew Fb s led (Fb.A.in1.over (.func (B0 366) (dd Fb w.params L3).env) []) w.params L3) ON FO' LV' qv rfl (hS▸M9) R' Wz (K':=fun ρ' st'=>ρ'=[some .self,some .gen,some (.str ""),none,none]/\st'=r) ⟨rfl,rfl,rfl⟩ fun m1 ρ1 r1 fz1 s1 hk hf1 R1 L1=>?_
 obtain⟨rfl,rfl⟩:=hk
 refine Hs (t:=we true) ON FO' LV' qv rfl (hS▸Km) R1 L1 (K':=fun ρ' st'=>ρ'=[some .self,some .gen,some (.str ""),some (.bool true),none]/\st'=r1) ⟨rfl,rfl,rfl⟩ fun m2 ρ2 r2 fz2 s2 hk hf2 R2 L2'=>?_
 obtain⟨rfl,rfl⟩:=hk
 refine cK (XK (wpAny_Constant_none (aM FO' R2 (ln hS (by kernel_rfl)) fun s3 R3=>⟨rfl,?_⟩)) (by rfl))
 have L3':=L2'.set qv (i:=4) (n := "token") rfl (RV.none (P:=w.params) (la:=la) (fz:=fz2))
 obtain⟨xs,hs,rs⟩:=L3' 0 "self" _ rfl rfl
 obtain⟨xg,hgn,rg⟩:=L3' 1 "characters" _ rfl rfl
 obtain rfl:=rs.view;obtain rfl:=rg.view
 refine aw (Au ?_ (fun x=>rfl))
 refine Bw (F:=Ew Fb s led (Fb.A.in1.over (.func (B0 366) (dd Fb w.params L3).env) []) w.params L3) FO' LV'.lt R3 rfl hs hgn hS fun L2 i2 ga2 oL2 mg q fz4 s4 hf4 hL2 hng2 hi2 hgen2 hN2 e1 e2 e3 hq hg2 R4=>wpAny_pyIter_gen (R4.isGen hgen2) fun p1=>?_
 have up:∀p∈fz,p∈fz4:=fun p hp=>hf4 p (hf2 p (hf1 p hp))
 have hI2:oq G (i2+1) i2:=⟨XC (XT hi0 hng2),XC (XT hi1 hng2),Nat.lt_succ_self _⟩
 have hI3':oq G (i2+1) i3:=⟨hI3.n0,hI3.n1,XT hI3.lt (Nat.le_succ_of_le hng2)⟩
 have h23:i2≠i3:=XC (XT hI3.lt hng2)
 have HD:oy w G old co lo (i2+1) ex (Ew Fb s led (Fb.A.in1.over (.func (B0 366) (dd Fb w.params L3).env) []) w.params L3) L2 i2 ga2 (fun t=>la.setT w.params t) "" true .none 373 ⟨[],[],r2⟩ (fun y=>if y = "token" then some .none else m2 y) fz4 s4 :=
   ⟨fun Q E res2 hN' hp=>E7 (Z.ngs (i2+1)) FO' LV' R4 hI2 hgen2 hN2 e1 e2 e3 hq hg2 hN' hL2 hp,fun t=>(L3'.mono hf4).setT⟩
 exact(sK (laf:=fun t=>la.setT w.params t) FO' hS LV' rfl rfl U FO hI2 hL2 hN (fun t=>(Z.ngs (i2+1)).setT t) HD hgen2).mono fun e Un h'=>h'.elim fun t hr=>nj hI3' h23 (hgen3.mono up) FO U (h t (i2+1) L2 i2 ga2 fz4 up hL2 hI2 hI3' h23 hgen2) hr
end
end
section
noncomputable abbrev JG(la:LA):cu (ad×Array Xf):=bC la (fun st mu qq g=>mu=st.1/\g=st.2)
section
theorem RS.graw(R:RS w (JG la) F m (cs,g) fz s):aO F m (cs++fz) s s/\(a7 (cs++fz)).Nodup/\s.gens=g:=by
 obtain⟨mu,⟨rfl,hg⟩,N,nd⟩:=R.led
 exact⟨⟨R.fr,N,rfl,rfl,rfl⟩,nd,hg⟩
theorem zr{n1 n2:ad} (hp:(n1++n2).Perm new):(n1++cs++(n2++fz)).Perm (new++(cs++fz)) :=
 (List.Perm.of_eq (Xo n1 cs (n2++fz))).trans ((((List.perm_append_comm_assoc cs n2 fz).append_left n1).trans (.of_eq (Xo n1 n2 (cs++fz)).symm)).trans (hp.append_right _))
theorem RS.gput(R:RS w (JG la) F m (cs,g) fz s) {n1 n2:ad} (R':aO F m' (new++(cs++fz)) s s') (hp:(n1++n2).Perm new) (hn:(a7 new).Nodup) (hd:∀p∈new,p.1∉a7 (cs++fz)):RS w (JG la) F m' (n1++cs,g) (n2++fz) s' :=
 have q:=R.graw
 ⟨R'.fr,⟨n1++cs,⟨rfl,R'.gens.trans q.2.2⟩,fun p h=>R'.nw p ((zr hp).mem_iff.mp h),((zr hp).map _).nodup_iff.mpr (jN hn q.2.1 fun a ha b hb e=>(Xp.mp ha).elim fun p hp=>hd p hp.1 (gN (hp.2.trans e) hb))⟩,R'.os.trans R.os,R'.dr.trans R.dr,R.lo⟩
theorem Iv{x:W3}{ox:Obj}:(a7 [(x,ox)]).Nodup:=XD.mpr ⟨List.not_mem_nil,List.Pairwise.nil⟩
end
theorem PC(P:W1):ay (ah P 293)=B0 293:=by kernel_rfl
theorem Rd(P:W1):(ah P 293).scope=S0 293:=by kernel_rfl
theorem Kr(P:W1):bl P 293:=⟨by kernel_rfl,by kernel_rfl,by kernel_rfl⟩
theorem KV(P:W1):ju (KF P) 303 293=true:=by kernel_rfl
theorem QD(P:W1):b0 (KF P) 303 58=true:=by kernel_rfl
theorem Ay(P:W1) (a b:WY):X1 (ah P 293) ⟨[a,b],[]⟩=(pure [(W8 "self",a),(W8 "name",b)]:Sem (List (Str×WY))):=by kernel_rfl
theorem EM(P:W1):aA (ah P 293).scope ["self", "name"]=true:=by kernel_rfl
section
variable {news:ad}
theorem wy(FO:aa w F) (hdep:F.A.depth+2<Xh) (R:aO F m news s₀ s) {fv:WY} (hf:handedIn fv=true)
   (h:∀x dx es n s',be es 1->aO F m ((x,Xu 303 dx)::(dx,Xc es n)::news) s₀ s'->(∀p∈news,p.1<dx)->dx<x->Q (.ref x) s') :
   wpAny (model ae w) F.A (call (.ref 303) [fv] []) Q E s:=by
 obtain⟨m1,m2,m3⟩:=dN (KV w.params)
 refine call_cls R.fr FO.G.X R.nw m1 m2 m3 fun x dx h' F' N' lt hlt=>?_
 let UH:=F.A.under (.builtin "type.__call__" ⟨.ref 303::[fv],[]⟩)
 have hd1:UH.depth=F.A.depth+1:=depth_under_kw _ _ _ _
 have FO':aa w {F with A:=UH}:=FO.with rfl
 have R':aO {F with A:=UH} m ((x,aE 303 (some dx) #[])::(dx,Xc [] 0)::news) s₀ {s with heap:=h'}:=⟨F',N',R.gens,R.os,R.dr⟩
 refine dk (F:={F with A:=UH}) FO' (show UH.depth<_ from hd1▸Nat.lt_of_succ_lt hdep) (Kr _) (.of_eq (Ay _ _ _)) (au (EM _) rfl) R' fun Uz Uq hA Ux henv hsc Uo=>?_
 have hS:=hsc.trans (Rd _)
 have ne2:∀p∈news,p.1≠dx:=fun p hp=>X3 (lt p hp)
 rw[PC]
 show wpAny _ _ (execs [.Assign [.Attribute (.Name "self" _) (AN 58) _] (.Name "name" _) _,.Assign [.Attribute (.Name "self" _) (AN 11) _] (.Constant (.int 1) _ _) _] Uz.env) _ _ Uq
 refine Xa (Xn (ax Ux Uo (ln hS (by kernel_rfl)) (v:=fv) (by kernel_rfl) (ax Ux Uo (ln hS (by kernel_rfl)) (v:= .ref x) (by kernel_rfl) ?_)))
 refine bb Ux (QD _) (o:=aE 303 (some dx) #[]) (sl:= #[]) rfl Uo (XC hlt) ne2 (Nat.zero_le _) (by kernel_rfl) fun Ut tk Ur=>?_
 refine Xa (Xn (wpAny_Constant_int (ax Ux (Ur.toks _) (ln hS (by kernel_rfl)) (v:= .ref x) (by kernel_rfl) ?_)))
 refine bb Ux (yb _) (o:=aE 303 (some dx) #[]) (sl:= #[]) rfl (Ur.toks _) (XC hlt) ne2 (Xd (by kernel_rfl)) (by kernel_rfl) fun UB tk2 Uw=>?_
 exact Xw ⟨_,_,Uw,fun UE=>⟨rfl,h x dx _ _ UB ⟨XV w.params (AN 58),tk,fv,XV w.params (AN 11),tk2,Ut.toks,by kernel_rfl,hf⟩ ⟨UE.fr,UE.nw,UE.gens,UE.os,UE.dr⟩ lt hlt⟩⟩
end
end
section
section
variable {news:ad}
theorem eY(R:aO F m news s₀ s) (h:∀a s',aO F m ((a,W0 #[] 0)::news) s₀ s'->(∀p∈news,p.1<a)->Q (.ref a) s'):wpAny (model ae w) A (eval (.List [] q) F.env) Q E s:=by
 refine List_ (args_nil (wpAny_newList ?_ (by decide)))
 have R':=R.more (h':=s.heap.push {cls:= .type "list",data:= .seq ([]:List WY).toArray}) (t:=s.toks) (new:=[(s.heap.objs.size,W0 #[] 0)]) (fun b o e=>Xm _ e) (fun p hp=>(Xe.mp hp)▸⟨Heap.get?_push_at rfl rfl,Xl _⟩)
 exact h _ _ R' fun p hp=>XQ (R.nw p hp).1
end
theorem Qh(P:W1):ay (ah P 201)=B0 201:=by kernel_rfl
theorem PF(P:W1):(ah P 201).scope=S0 201:=by kernel_rfl
theorem Q9(P:W1):ay (ah P 344)=B0 344:=by kernel_rfl
theorem Pq(P:W1):(ah P 344).scope=S0 344:=by kernel_rfl
theorem Mr(P:W1):bl P 201:=⟨by kernel_rfl,by kernel_rfl,by kernel_rfl⟩
theorem Ob(P:W1):ju (KF P) 439 344=true:=by kernel_rfl
theorem Hm(P:W1):PySem.W.ks_superIn (KF P) 439 439 "__init__" = some (some (.ref 201)):=by kernel_rfl
theorem Nu(P:W1):typeIn (KF P) (.ref 201)=some (.type "function"):=by kernel_rfl
theorem Kg(P:W1):fnIn (KF P) 201=true:=by kernel_rfl
theorem A6(P:W1) (a b:WY):X1 (ah P 344) ⟨[a,b],[]⟩=(pure [(W8 "self",a),(W8 "coptions",b)]:Sem (List (Str×WY))):=by kernel_rfl
theorem F5(P:W1):aA (ah P 344).scope ["self", "coptions"]=true:=by kernel_rfl
theorem Cj(P:W1) (a:WY):X1 (ah P 201) ⟨[a],[]⟩=(pure [(W8 "self",a)]:Sem (List (Str×WY))):=by kernel_rfl
theorem Gh(P:W1):aA (ah P 201).scope ["self"]=true:=by kernel_rfl
theorem KB(P:W1):b0 (KF P) 439 0=true/\b0 (KF P) 439 1=true/\b0 (KF P) 439 2=true/\b0 (KF P) 439 3=true:=⟨by kernel_rfl,by kernel_rfl,by kernel_rfl,by kernel_rfl⟩
noncomputable def N6(P:W1) (tb pb ct:W3) (t0 t1 t2:Tok):List XH :=
 [⟨XV P (AN 0),.str (AN 0) t0,.ref tb⟩,⟨XV P (AN 1),.str (AN 1) t1,.ref pb⟩,⟨XV P (AN 2),.str (AN 2) t2,.ref ct⟩]
noncomputable def fM(P:W1) (tb pb ct:W3) (cv:WY) (t0 t1 t2 t3:Tok):List XH:=N6 P tb pb ct t0 t1 t2++[⟨XV P (AN 3),.str (AN 3) t3,cv⟩]
section
variable {news:ad}
theorem vR(h:dx<a) (k:∀p∈l,p.1≠dx):∀p∈(a,o)::l,p.1≠dx:=fun p hp=>(Xb.mp hp).elim (fun e=>e▸XC h) (k p)
theorem wK(P:W1) (tb pb ct:W3) (cv:WY) (t0 t1 t2 t3:Tok):putL (AN 3) (XV P (AN 3)) (.str (AN 3) t3) cv (putL (AN 2) (XV P (AN 2)) (.str (AN 2) t2) (.ref ct) (putL (AN 1) (XV P (AN 1)) (.str (AN 1) t1) (.ref pb) (putL (AN 0) (XV P (AN 0)) (.str (AN 0) t0) (.ref tb) [])))=fM P tb pb ct cv t0 t1 t2 t3:=by kernel_rfl
theorem rN(FO:aa w F) (hdep:F.A.depth+4<Xh) (R:aO F m news s₀ s) {cv:WY}
   (h:∀x dx tb pb ct t0 t1 t2 t3 n s',aO F m ((x,Xu 439 dx)::(dx,Xc (fM w.params tb pb ct cv t0 t1 t2 t3) n)::(tb,W0 #[] 0)::(pb,W0 #[] 0)::(ct,W0 #[] 0)::news) s₀ s' ->
     (∀p∈news,p.1<dx)->dx<x->x<tb->tb<pb->pb<ct->Q (.ref x) s') :
   wpAny (model ae w) F.A (call (.ref 439) [cv] []) Q E s:=by
 obtain⟨m1,m2,m3⟩:=dN (Ob w.params)
 refine call_cls R.fr FO.G.X R.nw m1 m2 m3 fun x dx h' F' N' lt hlt=>?_
 let UH:=F.A.under (.builtin "type.__call__" ⟨.ref 439::[cv],[]⟩)
 have hd1:UH.depth=F.A.depth+1:=depth_under_kw _ _ _ _
 have FO':aa w {F with A:=UH}:=FO.with rfl
 have R':aO {F with A:=UH} m ((x,aE 439 (some dx) #[])::(dx,Xc [] 0)::news) s₀ {s with heap:=h'}:=⟨F',N',R.gens,R.os,R.dr⟩
 refine mO (F:={F with A:=UH}) FO' (show UH.depth<_ from hd1▸Xi (XL _ 3) hdep) (Mp _) (.of_eq (A6 _ _ _)) (au (F5 _) rfl) R' fun Uz Uq hA Ux henv hsc Uo=>?_
 have hS:=hsc.trans (Pq _)
 have hdp:Uz.A.depth=F.A.depth+2:=hA▸congrArg (. +1) hd1
 have ne2:∀p∈news,p.1≠dx:=fun p hp=>X3 (lt p hp)
 rw[Q9]
 show _root_.PySem.wpAt _ _ _ (execs [.Expr (.Call (.Attribute (.Call (.Name "super" _) [] [] _) "__init__" _) [] [] _) _,.Assign [.Attribute (.Name "self" _) (AN 3) _] (.Name "coptions" _) _] Uz.env) _ _ _
 refine PySem.ks_wpAt_execs_cons (PySem.ks_wpAt_Expr_any (hM Ux Uo (JI _) henv (C:=439) (by kernel_rfl) (.head _) (.tail _ (.head _)) rfl rfl rfl (DL _) (by decide +kernel) rfl rfl (Hm _) (Nu _) fun q Ut Ur qq=>?_) (aT Ux))
 refine callWith_M0 ⟨(Ur.nw _ (.head _)).1,Ux.G.X.keeps Ur.fr.keep⟩ (Kg _) (wpAny_call (method_call (Ur.nw _ (.head _)).1 ?_))
 have Uw:=Ur.sub (news':=(x,aE 439 (some dx) #[])::(dx,Xc [] 0)::news) fun p hp=> .tail _ hp
 refine dk Ux (hdp▸Nat.lt_of_succ_lt (Nat.lt_of_succ_lt hdep)) (Mr _) (.of_eq (Cj _ _)) (au (Gh _) rfl) Uw fun V4 UB Wg Vf qq V5 UE=>?_
 have WA:=V5.trans (PF _)
 have hl:ak V4.sc "self" = true:=ln WA (by kernel_rfl)
 rw[Qh]
 show wpAny _ _ (execs [.Assign [.Attribute (.Name "self" _) (AN 0) _] (.List [] _) _,.Assign [.Attribute (.Name "self" _) (AN 1) _] (.List [] _) _,.Assign [.Attribute (.Name "self" _) (AN 2) _] (.List [] _) _] V4.env) _ _ UB
 have hslf:(fun y=>List.lookup y [(W8 "self",Value.ref x)].reverse) "self" = some (.ref x):=by kernel_rfl
 have D:=KB w.params
 refine Xa (Xn (eY UE fun tb UW Vg l1=>ax Vf Vg hl hslf ?_))
 have hx1:x<tb:=l1 _ (.head _)
 have hd1:=Xx hlt hx1
 have WB:=Vg.sub fun p hp=>bH (mu:=[_,_]) hp
 refine bb Vf D.1 (o:=aE 439 (some dx) #[]) (sl:= #[]) rfl WB (XC hlt) (vR hd1 ne2) (Nat.zero_le _) (by kernel_rfl) fun V3 t0 UP=>?_
 refine Xa (Xn (eY UP fun pb V6 Vh l2=>ax Vf Vh hl hslf ?_))
 have hx2:tb<pb:=l2 _ (.tail _ (.tail _ (.head _)))
 have hd2:=Xx hd1 hx2
 have WC:=Vh.sub fun p hp=>bH (mu:=[_,_,_]) hp
 refine bb Vf D.2.1 (o:=aE 439 (some dx) #[]) (sl:= #[]) rfl WC (XC hlt) (vR hd1 (vR hd2 ne2)) (Xd (by kernel_rfl)) (by kernel_rfl) fun VD t1 US=>?_
 refine Xa (Xn (eY US fun ct WD VA l3=>ax Vf VA hl hslf ?_))
 have hx3:pb<ct:=l3 _ (.tail _ (.tail _ (.tail _ (.head _))))
 have WE:=VA.sub fun p hp=>bH (mu:=[_,_,_,_]) hp
 have qv:=vR (o:=W0 #[] 0) hd1 (vR (o:=W0 #[] 0) hd2 (vR (o:=W0 #[] 0) (Xx hd2 hx3) ne2))
 refine bb Vf D.2.2.1 (o:=aE 439 (some dx) #[]) (sl:= #[]) rfl WE (XC hlt) qv (Xd (by kernel_rfl)) (by kernel_rfl) fun Wh t2 V7=>Xw ⟨_,_,V7,fun VE=>_root_.PySem.wpAt_of_wpAny ?_⟩
 refine Xa (Xn (ax Ux VE (ln hS (by kernel_rfl)) (v:=cv) (by kernel_rfl) (ax Ux VE (ln hS (by kernel_rfl)) (v:= .ref x) (by kernel_rfl) ?_)))
 refine bb Ux D.2.2.2 (o:=aE 439 (some dx) #[]) (sl:= #[]) rfl VE (XC hlt) qv (Xd (by kernel_rfl)) (by kernel_rfl) fun Wi t3 V8=>Xw ⟨_,_,V8,fun Vp=>⟨rfl,?_⟩⟩
 exact h x dx tb pb ct t0 t1 t2 t3 _ Wi ⟨Vp.fr,wK w.params tb pb ct cv t0 t1 t2 t3▸Vp.nw,Vp.gens,Vp.os,Vp.dr⟩ lt hlt hx1 hx2 hx3
end
end
section
theorem QT(P:W1):ay (ah P 490)=B0 490:=by kernel_rfl
theorem Pr(P:W1):(ah P 490).scope=S0 490:=by kernel_rfl
theorem PP(P:W1):ay (ah P 483)=B0 483:=by kernel_rfl
theorem Rf(P:W1):(ah P 483).scope=S0 483:=by kernel_rfl
theorem JH(P:W1):bl P 490:=⟨by kernel_rfl,by kernel_rfl,by kernel_rfl⟩
theorem Om(P:W1):bl P 483:=⟨by kernel_rfl,by kernel_rfl,by kernel_rfl⟩
theorem AW(P:W1) (a b c:WY):X1 (ah P 490) ⟨[a,b,c],[]⟩=(pure [(W8 "self",a),(W8 "setting",b),(W8 "value",c)]:Sem (List (Str×WY))):=by kernel_rfl
theorem I4(P:W1):aA (ah P 490).scope ["self", "setting", "value"]=true:=by kernel_rfl
theorem Cz(P:W1) (a b:WY):X1 (ah P 483) ⟨[a,b],[]⟩=(pure [(W8 "self",a),(W8 "setting",b)]:Sem (List (Str×WY))):=by kernel_rfl
theorem IM(P:W1):aA (ah P 483).scope ["self", "setting"]=true:=by kernel_rfl
noncomputable def jH(w:Xj) (so:Obj) (kvs:List (Str×WY)) (n:Nat):Prop:=∀qC:Prop,(∀(D:List (PyData×PyData)),so.IsDictOf (PySem.strKind ae w) kvs->PyProof.V.FlatPairs PyData.str kvs D->D.length<=n->qC)->qC
section
variable {rest:ad}{x sd:W3}{so:Obj}{N:Nat}{kvs:List (Str×WY)}{k:Str}
theorem pd(FO:aa w F) (R:aO F m ((sd,so)::rest) s₀ s) (hx:(x,Xu 507 dx)∈rest) (hdx:(dx,Xc es n)∈rest) (hset:getL (AN 61) es=some (some (.ref sd))) (hne:∀p∈rest,p.1≠sd) (hD:jH w so kvs N) (hN:N<=100) (h1:m "self" = some (.ref x)) (h2:m "setting" = some (.str k t))
   {q0 q4:Pos}{ve:W5} (k1:ak F.sc "self" = true) (k2:ak F.sc "setting" = true) {dv:PyData} (hv:PyProof.V.Flat v dv) (hve:∀{E' Q':WY->W2->Prop},Q' v s->wpAny (model ae w) A (eval ve F.env) Q' E' s)
   (hsw:swapsWith ve (some (.Subscript (.Attribute (.Name "self" q0) (AN 61) q1) (.Name "setting" q2) q3)) q4.line F.env=pure false) {Q:Flow->W2->Prop}
   (h:∀so' s',jH w so' (stored kvs k v) (N+1)->aO F m ((sd,so')::rest) s₀ s'->Q .next s'):wpAny (model ae w) A (exec (.Assign [.Subscript (.Attribute (.Name "self" q0) (AN 61) q1) (.Name "setting" q2) q3] ve q4) F.env) Q E s:=by
 refine wpAny_Assign_Subscript (hve ?_) hsw
 have I:Xr s.heap x (Xu 507 dx) 507 (some (Xc es n)):=⟨(R.nw _ (.tail _ hx)).1,rfl,rfl,(R.nw _ (.tail _ hdx)).1⟩
 have hset':getL "settings" es=some (some (.ref sd)):=hset
 refine Attribute_any_ (ax FO R k1 h1 (get_own R.fr FO.G.X I (Ku _) (OF _) (NU _) rfl hset' rfl ?_)) (by rw[X8,al rfl])
 refine ax FO (R.toks _) k2 h2 ?_
 refine hD _ ?_;rintro D hd hf hl
 refine setItem_K (knd:=PySem.strKind ae w) PyProof.V.same_str (strKind_is _ _ _ _) hv (R.toks _).fr (R.toks _).nw (.head hne) hd hf (fun h' o' F' N' hd' hf'=>?_) (sizeLine_eq▸WZ hl (WZ hN (by decide)))
 exact h o' _ (fun qq qk=>qk _ hd' hf' (WZ (PyProof.V.putD_length_le (PyData.str k) dv D) (XX hl))) ⟨F',N',R.gens,R.os,R.dr⟩
theorem z5(FO:aa w F) (hdep:F.A.depth<Xh) (R:aO F m ((sd,so)::rest) s₀ s) (hx:(x,Xu 507 dx)∈rest) (hdx:(dx,Xc es n)∈rest) (hset:getL (AN 61) es=some (some (.ref sd))) (hne:∀p∈rest,p.1≠sd) (hD:jH w so kvs N) (hN:N<=100) {dv:PyData} (hv:PyProof.V.Flat v dv) {Rr:Result->W2->Prop} (h:∀so' s',jH w so' (stored kvs k v) (N+1)->aO F m ((sd,so')::rest) s₀ s'->Rr (.ok (.ret .none)) s'):codeAny (model ae w) F.A (.call (.ref 490) ⟨[.ref x,.str k t,v],[]⟩) Rr s:=by
 refine dk FO hdep (JH _) (.of_eq (AW _ _ _ _)) (au (I4 _) rfl) R fun Uz Uq hA Ux henv hsc Uo=>?_
 have hS:=hsc.trans (Pr _)
 rw[QT]
 show wpAny _ _ (execs [.Assign [.Subscript (.Attribute (.Name "self" _) (AN 61) _) (.Name "setting" _) _] (.Name "value" _) _] Uz.env) _ _ Uq
 exact Xa (pd Ux Uo hx hdx hset hne hD hN (by kernel_rfl) (t:=t) (k:=k) (by kernel_rfl) (ln hS (by kernel_rfl)) (ln hS (by kernel_rfl)) hv (fun hq=>ax Ux Uo (ln hS (by kernel_rfl)) (v:=v) (by kernel_rfl) hq) (by rfl) fun so' Ut hD' Ur=>Xw ⟨_,_,Ur,fun Uw=>h so' Ut hD' Uw⟩)
theorem nv(FO:aa w F) (hdep:F.A.depth<Xh) (R:aO F m ((sd,so)::rest) s₀ s) (hx:(x,Xu 507 dx)∈rest) (hdx:(dx,Xc es n)∈rest) (hset:getL (AN 61) es=some (some (.ref sd))) (hne:∀p∈rest,p.1≠sd) (hD:jH w so kvs N) (hN:N<=100)
   {Rr:Result->W2->Prop} (h:∀so' s',jH w so' (stored kvs k (.bool false)) (N+1)->aO F m ((sd,so')::rest) s₀ s'->Rr (.ok (.ret .none)) s'):codeAny (model ae w) F.A (.call (.ref 483) ⟨[.ref x,.str k t],[]⟩) Rr s:=by
 refine dk FO hdep (Om _) (.of_eq (Cz _ _ _)) (au (IM _) rfl) R fun Uz Uq hA Ux henv hsc Uo=>?_
 have hS:=hsc.trans (Rf _)
 rw[PP]
 show wpAny _ _ (execs [.Assign [.Subscript (.Attribute (.Name "self" _) (AN 61) _) (.Name "setting" _) _] (.Constant (.bool false) _ _) _] Uz.env) _ _ Uq
 exact Xa (pd Ux Uo hx hdx hset hne hD hN (by kernel_rfl) (t:=t) (k:=k) (by kernel_rfl) (ln hS (by kernel_rfl)) (ln hS (by kernel_rfl)) (PyProof.V.Flat.bool false) (fun hq=>wpAny_Constant_bool hq) (by rfl) fun so' Ut hD' Ur=>Xw ⟨_,_,Ur,fun Uw=>h so' Ut hD' Uw⟩)
end
end
section
theorem OW(P:W1) (nm:Str):plainGet (KF P) 507 nm=true:=by
 show plainGet (KF P) 507 "" = true
 kernel_rfl
theorem KE(P:W1):findIn (KF P) (.ref 507) "disable" = some (some (.ref 483)):=by kernel_rfl
theorem Jq(P:W1):findIn (KF P) (.ref 507) "set" = some (some (.ref 490)):=by kernel_rfl
theorem OV(P:W1):isFn (KF P) (.ref 483)=true:=by kernel_rfl
theorem Nn(P:W1):isFn (KF P) (.ref 490)=true:=by kernel_rfl
theorem OR(P:W1):keepIn (KF P) (.ref 483)=true:=by kernel_rfl
theorem Nr(P:W1):keepIn (KF P) (.ref 490)=true:=by kernel_rfl
theorem QE(P:W1):ay (ah P 455)=B0 455:=by kernel_rfl
theorem P6(P:W1):(ah P 455).scope=S0 455:=by kernel_rfl
theorem Ju(P:W1):bl P 455:=⟨by kernel_rfl,by kernel_rfl,by kernel_rfl⟩
theorem LZ(P:W1):ju (KF P) 507 455=true:=by kernel_rfl
theorem C1(P:W1) (a:WY):X1 (ah P 455) ⟨[a],[]⟩=(pure [(W8 "self",a)]:Sem (List (Str×WY))):=by kernel_rfl
theorem GD(P:W1):aA (ah P 455).scope ["self"]=true:=by kernel_rfl
theorem MU(P:W1):b0 (KF P) 507 61=true/\b0 (KF P) 507 62=true/\b0 (KF P) 507 63=true/\b0 (KF P) 507 64=true:=⟨by kernel_rfl,by kernel_rfl,by kernel_rfl,by kernel_rfl⟩
section
variable {rest:ad}{x sd:W3}{so:Obj}{N:Nat}{kvs:List (Str×WY)}{k:Str}
theorem lp(FO:aa w F) (hdep:F.A.depth<Xh) (R:aO F m ((sd,so)::rest) s₀ s) (hx:(x,Xu 507 dx)∈rest) (hdx:(dx,Xc es n)∈rest) (hset:getL (AN 61) es=some (some (.ref sd))) (hno:getL "disable" es=some none) (hne:∀p∈rest,p.1≠sd) (hD:jH w so kvs N) (hN:N<=100) (h1:m "self" = some (.ref x))
   {q0 ap:Pos}{t:Nat}{r:List Stmt} (hl:ak F.sc "self" = true) (hap:ap.endLine=pos.line) {Q:Flow->W2->Prop} (h:∀so' s',jH w so' (stored kvs k (.bool false)) (N+1)->aO F m ((sd,so')::rest) s₀ s'->wpAny (model ae w) F.A (execs r F.env) Q E s') :
   wpAny (model ae w) F.A (execs (.Expr (.Call (.Attribute (.Name "self" q0) "disable" ap) [.Constant (.str k) t q1] [] pos) q2::r) F.env) Q E s:=by
 have I:Xr s.heap x (Xu 507 dx) 507 (some (Xc es n)):=⟨(R.nw _ (.tail _ hx)).1,rfl,rfl,(R.nw _ (.tail _ hdx)).1⟩
 refine Xa (wpAny_Expr_any (methodCall_KW (pl:=(do return (←importBound (.Name "self" _) F.env).getD true)) (kws:=[]) (ax FO R hl h1 (method_inst R.fr FO.G.X I (OW _ _) (KE _) (OV _) hno ?_)) (bI rfl hap rfl)) (aT FO) (by rfl))
 refine XZ (P:=fun h=>(KF w.params).In h) rfl (keeps_K (OR _)) (aq ?_ rfl)
 refine Xz (X4 (args_nil ⟨FO.G.X.keeps R.fr.keep,?_⟩))
 exact wpAny_call (nv FO hdep (R.toks _) hx hdx hset hne hD hN fun so' s' hD' R'=>h so' s' hD' R')
theorem o9(FO:aa w F) (hdep:F.A.depth<Xh) (R:aO F m ((sd,so)::rest) s₀ s) (hx:(x,Xu 507 dx)∈rest) (hdx:(dx,Xc es n)∈rest) (hset:getL (AN 61) es=some (some (.ref sd))) (hno:getL "set" es=some none) (hne:∀p∈rest,p.1≠sd) (hD:jH w so kvs N) (hN:N<=100) {ob v:Str} (h1:m ob=some (.ref x))
   {q0 ap:Pos}{t t':Nat}{r:List Stmt} (hl:ak F.sc ob=true) (hap:ap.endLine=pos.line) {Q:Flow->W2->Prop} (h:∀so' s' t,jH w so' (stored kvs k (.str v t)) (N+1)->aO F m ((sd,so')::rest) s₀ s'->wpAny (model ae w) F.A (execs r F.env) Q E s') :
   wpAny (model ae w) F.A (execs (.Expr (.Call (.Attribute (.Name ob q0) "set" ap) [.Constant (.str k) t q1,.Constant (.str v) t' q3] [] pos) q2::r) F.env) Q E s:=by
 have I:Xr s.heap x (Xu 507 dx) 507 (some (Xc es n)):=⟨(R.nw _ (.tail _ hx)).1,rfl,rfl,(R.nw _ (.tail _ hdx)).1⟩
 refine Xa (wpAny_Expr_any (methodCall_KW (pl:=(do return (←importBound (.Name _ _) F.env).getD true)) (kws:=[]) (ax FO R hl h1 (method_inst R.fr FO.G.X I (OW _ _) (Jq _) (Nn _) hno ?_)) (bI rfl hap rfl)) (aT FO) (by rfl))
 refine XZ (P:=fun h=>(KF w.params).In h) rfl (keeps_K (Nr _)) (aq ?_ rfl)
 refine Xz (X4 (Xz (X4 (args_nil ⟨FO.G.X.keeps R.fr.keep,?_⟩))))
 exact wpAny_call (z5 FO hdep ((R.toks _).toks _) hx hdx hset hne hD hN (PyProof.V.Flat.str _ _) fun so' s' hD' R'=>h so' s' _ hD' R')
end
noncomputable def jj(t:Tok):List (Str×WY):=stored (stored (stored (stored [] "trigraphs" (.bool false)) "std" (.str "c99" t)) "verbose" (.bool false)) "freestanding" (.bool false)
section
variable {news:ad}
theorem S4(h:a<dx) (k:∀p∈l,p.1≠dx):∀p∈(a,o)::l,p.1≠dx:=fun p hp=>(Xb.mp hp).elim (fun e=>e▸X3 h) (k p)
theorem AT{x d a b c e:W3×Obj}:(e::x::d::a::b::c::l).Perm (x::d::c::b::a::e::l) :=
 (XF (l₁:=[x,d]) (l₂:=a::b::c::l)).symm.trans (.cons x (.cons d ((XF (l₁:=[a,b,c]) (l₂:=l)).symm.trans (((XF (l₁:=[a,b]) (l₂:=e::l)).trans ((List.Perm.swap b a (e::l)).cons c))))))
theorem vz(FO:aa w F) (hdep:F.A.depth+4<Xh) (R:aO F m news s₀ s)
   (h:∀x dx sd so es n t l1 l2 l3 s',getL (AN 61) es=some (some (.ref sd))->getL "set" es=some none->jH w so (jj t) 4->aO F m ((sd,so)::(x,Xu 507 dx)::(dx,Xc es n)::(l1,W0 #[] 0)::(l2,W0 #[] 0)::(l3,W0 #[] 0)::news) s₀ s' ->
     (∀p∈news,p.1<dx)->dx<x->x<sd->sd<l1->l1<l2->l2<l3->Q (.ref x) s') :
   wpAny (model ae w) F.A (call (.ref 507) [] []) Q E s:=by
 obtain⟨m1,m2,m3⟩:=dN (LZ w.params)
 refine call_cls R.fr FO.G.X R.nw m1 m2 m3 fun x dx h' F' N' lt hlt=>?_
 let UH:=F.A.under (.builtin "type.__call__" ⟨[.ref 507],[]⟩)
 have hd1:UH.depth=F.A.depth+1:=depth_under_kw _ _ _ _
 have FO':aa w {F with A:=UH}:=FO.with rfl
 have R':aO {F with A:=UH} m ((x,aE 507 (some dx) #[])::(dx,Xc [] 0)::news) s₀ {s with heap:=h'}:=⟨F',N',R.gens,R.os,R.dr⟩
 refine dk (F:={F with A:=UH}) FO' (show UH.depth<_ from hd1▸Xi (XL _ 3) hdep) (Ju _) (.of_eq (C1 _ _)) (au (GD _) rfl) R' fun Uz Uq hA Ux henv hsc Uo=>?_
 have hS:=hsc.trans (P6 _)
 have hl:ak Uz.sc "self" = true:=ln hS (by kernel_rfl)
 have hdp:Uz.A.depth=F.A.depth+2:=hA▸congrArg (. +1) hd1
 have VO:Uz.A.depth<Xh:=hdp▸Nat.lt_of_succ_lt (Nat.lt_of_succ_lt hdep)
 rw[QE]
 show wpAny _ _ (execs [.Assign [.Attribute (.Name "self" _) (AN 61) _] (.Dict [] [] _) _,.Assign [.Attribute (.Name "self" _) (AN 62) _] (.List [] _) _,.Assign [.Attribute (.Name "self" _) (AN 63) _] (.List [] _) _,.Assign [.Attribute (.Name "self" _) (AN 64) _] (.List [] _) _,
   .Expr (.Call (.Attribute (.Name "self" _) "disable" _) [.Constant (.str "trigraphs") _ _] [] _) _,.Expr (.Call (.Attribute (.Name "self" _) "set" _) [.Constant (.str "std") _ _,.Constant (.str "c99") _ _] [] _) _,.Expr (.Call (.Attribute (.Name "self" _) "disable" _) [.Constant (.str "verbose") _ _] [] _) _,.Expr (.Call (.Attribute (.Name "self" _) "disable" _) [.Constant (.str "freestanding") _ _] [] _) _] Uz.env) _ _ Uq
 have hslf:(fun y=>List.lookup y [(W8 "self",Value.ref x)].reverse) "self" = some (.ref x):=by kernel_rfl
 have ne2:∀p∈news,p.1≠dx:=fun p hp=>X3 (lt p hp)
 have D:=MU w.params
 refine Xa (Xn (newDict_K Uo.fr Uo.nw Ux.G.lim fun sd UJ so WF WG l1 qq hd hf qq qq=>?_))
 have Ur:aO Uz _ ((sd,so)::(x,aE 507 (some dx) #[])::(dx,Xc [] 0)::news) s₀ {Uq with heap:=UJ}:=⟨WF,WG,Uo.gens,Uo.os,Uo.dr⟩
 refine ax Ux Ur hl hslf ?_
 have hx1:x<sd:=l1 _ (.head _)
 have g1:=Xx hlt hx1
 have nd1:=vR (o:=so) g1 ne2
 refine bb Ux D.1 (o:=aE 507 (some dx) #[]) (sl:= #[]) rfl (Ur.sub fun p hp=>bH (mu:=[_,_]) hp) (XC hlt) nd1 (Nat.zero_le _) (by kernel_rfl) fun UB t0 Uw=>?_
 refine Xa (Xn (eY Uw fun a1 UW UE l2=>ax Ux UE hl hslf ?_))
 have hx2:sd<a1:=l2 (sd,so) (.tail _ (.tail _ (.head _)))
 have g2:=Xx g1 hx2
 have nd2:=vR (o:=W0 #[] 0) g2 nd1
 refine bb Ux D.2.1 (o:=aE 507 (some dx) #[]) (sl:= #[]) rfl (UE.sub fun p hp=>bH (mu:=[_,_]) hp) (XC hlt) nd2 (Xd (by kernel_rfl)) (by kernel_rfl) fun V3 t1 Vg=>?_
 refine Xa (Xn (eY Vg fun a2 V6 UP l3=>ax Ux UP hl hslf ?_))
 have hx3:a1<a2:=l3 (a1,W0 #[] 0) (.tail _ (.tail _ (.head _)))
 have g3:=Xx g2 hx3
 have qv:=vR (o:=W0 #[] 0) g3 nd2
 refine bb Ux D.2.2.1 (o:=aE 507 (some dx) #[]) (sl:= #[]) rfl (UP.sub fun p hp=>bH (mu:=[_,_]) hp) (XC hlt) qv (Xd (by kernel_rfl)) (by kernel_rfl) fun VD t2 Vh=>?_
 refine Xa (Xn (eY Vh fun a3 WD US l4=>ax Ux US hl hslf ?_))
 have hx4:a2<a3:=l4 (a2,W0 #[] 0) (.tail _ (.tail _ (.head _)))
 refine bb Ux D.2.2.2 (o:=aE 507 (some dx) #[]) (sl:= #[]) rfl (US.sub fun p hp=>bH (mu:=[_,_]) hp) (XC hlt) (vR (o:=W0 #[] 0) (Xx g3 hx4) qv) (Xd (by kernel_rfl)) (by kernel_rfl) fun Wh t3 VA=>?_
 generalize hes:putL (AN 64) (XV w.params (AN 64)) (.str (AN 64) t3) (.ref a3) _=es at VA
 have q1:getL (AN 61) es=some (some (.ref sd)):=hes▸by kernel_rfl
 have q2:getL "disable" es=some none:=hes▸by kernel_rfl
 have q3:getL "set" es=some none:=hes▸by kernel_rfl
 generalize putN (AN 64) _ _=n at VA
 have V7:aO Uz (fun y=>List.lookup y [(W8 "self",Value.ref x)].reverse) ((sd,so)::(x,Xu 507 dx)::(dx,Xc es n)::(a1,W0 #[] 0)::(a2,W0 #[] 0)::(a3,W0 #[] 0)::news) s₀ Wh:=VA.sub fun p hp=>(AT (x:=(x,aE 507 (some dx) #[]))).mem_iff.mp hp
 have hne:∀p∈(x,Xu 507 dx)::(dx,Xc es n)::(a1,W0 #[] 0)::(a2,W0 #[] 0)::(a3,W0 #[] 0)::news,p.1≠sd :=
   S4 hx1 (S4 g1 (vR hx2 (vR (Xx hx2 hx3) (vR (Xx hx2 (Xx hx3 hx4)) fun p hp=>X3 (Xx (lt p hp) g1)))))
 refine lp Ux VO V7 (.head _) (.tail _ (.head _)) q1 q2 hne (fun qq qk=>qk [] hd hf (Xl _)) (by decide) hslf hl rfl fun so1 WU D1 VE=>?_
 refine o9 Ux VO VE (.head _) (.tail _ (.head _)) q1 q3 hne D1 (by decide) hslf hl rfl fun so2 Wi t D2 V8=>?_
 refine lp Ux VO V8 (.head _) (.tail _ (.head _)) q1 q2 hne D2 (by decide) hslf hl rfl fun so3 WV D3 Vp=>?_
 refine lp Ux VO Vp (.head _) (.tail _ (.head _)) q1 q2 hne D3 (by decide) hslf hl rfl fun so4 WH D4 WI=>?_
 exact Xw ⟨_,_,WI,fun VF=>⟨rfl,h x dx sd so4 es n t a1 a2 a3 WH q1 q3 D4 ⟨VF.fr,VF.nw,VF.gens,VF.os,VF.dr⟩ lt hlt hx1 hx2 hx3 hx4⟩⟩
end
end
section
theorem Rh(P:W1):nsIn (KF P) XI "create_characters" = some (some (.ref 314)):=by kernel_rfl
theorem QW(P:W1):nsIn (KF P) XI "continued_lines_filter" = some (some (.ref 328)):=by kernel_rfl
theorem Nx(P:W1):keepIn (KF P) (.ref 314)=true:=by kernel_rfl
theorem LY(P:W1):keepIn (KF P) (.ref 328)=true:=by kernel_rfl
theorem Kq(P:W1):keepIn (KF P) (.ref 366)=true:=by kernel_rfl
theorem KZ(P:W1):findIn (KF P) (.ref 439) "tokenize" = some (some (.ref 366)):=by kernel_rfl
theorem Jo(P:W1):isFn (KF P) (.ref 366)=true:=by kernel_rfl
theorem N9(P:W1):bl P 351:=⟨by kernel_rfl,by kernel_rfl,by kernel_rfl⟩
theorem C6(P:W1) (a b c:WY):X1 (ah P 351) ⟨[a,b,c],[]⟩=(pure [(W8 "self",a),(W8 "src",b),(W8 "source_file",c)]:Sem (List (Str×WY))):=by kernel_rfl
theorem E5(P:W1):aA (ah P 351).scope ["self", "src", "source_file"]=true:=by kernel_rfl
theorem BD(P:W1) (a b:WY):X1 (ah P 314) ⟨[a,b],[]⟩=(pure [(W8 "f",a),(W8 "source_file",b)]:Sem (List (Str×WY))):=by kernel_rfl
theorem CO(P:W1) (a:WY):X1 (ah P 328) ⟨[a],[]⟩=(pure [(W8 "characters",a)]:Sem (List (Str×WY))):=by kernel_rfl
theorem CZ(P:W1) (a b:WY):X1 (ah P 366) ⟨[a,b],[]⟩=(pure [(W8 "self",a),(W8 "characters",b)]:Sem (List (Str×WY))):=by kernel_rfl
theorem He(P:W1):aA (ah P 366).scope ["self", "characters"]=true:=by kernel_rfl
theorem RN(P:W1):ay (ah P 351)=B0 351:=by kernel_rfl
theorem Q7(P:W1):(ah P 351).scope=S0 351:=by kernel_rfl
section
noncomputable def d4(P:W1) (g:Array Xf) (f L:W3) (cl:List (Str×W3)):Array Xf:=g.push (.fresh (.func (ay (ah P f)) (PySem.W.envX (ah P f).qualname (ah P f).scope L f (ah P f).code cl)))
noncomputable def Qc(w:Xj) (la:LA) (F:Fm) (m:Str->Option WY) (cs fz:ad) (g:Array Xf) (f L ga:W3) (oL:Obj) (cl:List (Str×W3)) (s':W2):Prop:=∀qC:Prop,(∀(nm qn:WY),RS w (JG la) F m ((L,oL)::cs,d4 w.params g f L cl) ((ga,iJ g.size nm qn)::fz) s'->qC)->qC
theorem xt{x g:W3×Obj}:(x::cs++g::fz).Perm (g::x::(cs++fz)):=XF (l₁:=x::cs)
theorem qr(FO:aa w F) (hdep:A.depth<Xh) (R:RS w (JG la) F m (cs,g) fz s) (GO:pU w.params f cl) (hbind:lB s (ah w.params f) args binds) (hloc:binds.all (fun y=>(ah w.params f).scope.names.lookup y.1 == some .local)=true) {Rr:Result->W2->Prop}
   (h:∀L ga oL s',fL (fun y=>binds.reverse.lookup y) oL->(∀p∈cs++fz,p.1<L)->L<ga->F.L<L->Qc w la F m cs fz g f L ga oL cl s'->Rr (.ok (.ret (.ref ga))) s') :
   codeAny (model ae w) A (.call (.ref f) args) Rr s:=by
 have⟨Rr0,nd,hg⟩:=R.graw
 subst hg
 exact pN FO hdep Rr0 GO hbind hloc fun L ga oL nm qn h' t hN hfr hnw lt hlt hFL =>
   h L ga oL _ hN lt hlt hFL (fun qq qk=>qk nm qn ⟨hfr,⟨(L,oL)::cs,⟨rfl,rfl⟩,fun p hp=>hnw p (xt.mem_iff.mp hp),(xt.map (·.1)).nodup_iff.mpr (XD.mpr ⟨dG (l:=(L,oL)::(cs++fz)) fun p hp=>(Xb.mp hp).elim (fun e=>e▸hlt) fun hp=>Xx (lt p hp) hlt,XD.mpr ⟨dG lt,nd⟩⟩)⟩,R.os,R.dr,R.lo⟩)
theorem uU(FO:aa w F) (LV:aU F.A 10) (R:RS w (JG la) F m (cs,g) fz s) {lx sv:W3}{old:Bool}{tb pb ct:W3}{t0 t1 t2 t3:Tok} (hlx:(lx,Xu 439 dx)∈cs++fz) (hdx:(dx,Xc (fM w.params tb pb ct (.ref co) t0 t1 t2 t3) n)∈cs++fz) (OI:dP w fz co old)
   (h:∀L0 ga0 oL0 m0 L1 ga1 oL1 m1 L3 ga3 oL3 m3 n0 q0 n1 q1 n3 q3 fz' s',fL m0 oL0->m0 "f" = some (.ref sv)->m0 "source_file" = some (.ref sf)->fL m1 oL1->m1 "characters" = some (.ref ga0)->fL m3 oL3->m3 "self" = some (.ref lx)->m3 "characters" = some (.ref ga1) ->
     (∀p∈cs++fz,p.1<L0)->F.L<L0->L0<ga0->ga0<L1->L1<ga1->ga1<L3->L3<ga3 ->
     (∀p∈(ga3,iJ (g.size+2) n3 q3)::(ga1,iJ (g.size+1) n1 q1)::(ga0,iJ g.size n0 q0)::fz,p∈fz') ->
     RS w (JG la) F m ((L3,oL3)::(L1,oL1)::(L0,oL0)::cs,d4 w.params (d4 w.params (d4 w.params g 314 L0 []) 328 L1 []) 366 L3 [("__class__",332)]) fz' s'->Q (.ref ga3) s') :
   wpAny (model ae w) F.A (call (.ref 351) [.ref lx,.ref sv,.ref sf] []) Q E s:=by
 refine wpAny_call (fo (n:=9) FO LV (N9 _) (.of_eq (C6 _ _ _ _)) (au (E5 _) rfl) R fun Uz Uq C Ux Wj henv hsc Uo=>?_)
 have hS:=hsc.trans (Q7 _)
 rw[RN]
 show wpAny _ _ (execs [.Assign [.Name "characters" _] (.Call (.Name "create_characters" _) [.Name "src" _,.Name "source_file" _] [] _) _,.If (.Subscript (.Attribute (.Name "self" _) (AN 3) _) (.Constant (.str "trigraphs") _ _) _) _ [] _,.Assign [.Name "characters" _] (.Call (.Name "continued_lines_filter" _) [.Name "characters" _] [] _) _,.Return (some (.Call (.Attribute (.Name "self" _) "tokenize" _) [.Name "characters" _] [] _)) _] Uz.env) _ _ Uq
 have hdep:Uz.A.depth<Xh:=Wj.lt
 have k1:ak Uz.sc "characters" = true:=ln hS (by kernel_rfl)
 have k5:ak Uz.sc "self" = true:=ln hS (by kernel_rfl)
 refine Xa (XK (Call_ (bF Ux Uo.graw.1 (gn hS (by kernel_rfl)) (.inl (Rh _)) ?_) rfl) (by rfl))
 refine XZ (P:=fun h=>(KF w.params).In h) rfl (keeps_K (Nx _)) (aq ?_ rfl)
 refine Xz (dy Ux Uo (ln hS (by kernel_rfl)) (v:= .ref sv) (by kernel_rfl) (Xz (dy Ux Uo (ln hS (by kernel_rfl)) (v:= .ref sf) (by kernel_rfl) (args_nil ⟨Ux.G.X.keeps Uo.fr.keep,?_⟩))))
 refine wpAny_call (qr Ux hdep Uo (KP _) (.of_eq (BD _ _ _)) (au (Gu _) rfl) fun L0 ga0 oL0 Ut hN0 lt0 hlt0 hF0 GJ=>GJ _ fun n0 q0 Ur=>?_)
 refine aM Ux Ur k1 fun UB Uw=>?_
 have sub0:∀p∈cs++fz,p∈((L0,oL0)::cs)++((ga0,iJ g.size n0 q0)::fz):=fun p hp=>xt.mem_iff.mpr (.tail _ (.tail _ hp))
 have WJ:Xr UB.heap lx (Xu 439 dx) 439 (some (Xc (fM w.params tb pb ct (.ref co) t0 t1 t2 t3) n)):=⟨(Uw.graw.1.nw _ (sub0 _ hlx)).1,rfl,rfl,(Uw.graw.1.nw _ (sub0 _ hdx)).1⟩
 have hco:getL (AN 3) (fM w.params tb pb ct (.ref co) t0 t1 t2 t3)=some (some (.ref co)):=by kernel_rfl
 have nch:("self" : Str) ≠ "characters" := by decide +kernel
 refine Xa (wpAny_If (isTrue_plain (Subscript_ (Attribute_any_ (dy Ux Uw k5 (v:= .ref lx) ((if_neg nch).trans (by kernel_rfl)) (get_own Uw.fr Ux.G.X WJ (ew _ _) (lr _) (Q2 _) rfl hco rfl (X4 ?_))) (by rw[X8,al rfl]))) rfl))
 refine oD Ux (n:=7) Wj ((Uw.toks _).toks _) (OI.mono fun p hp=> .tail _ hp) rfl (K:=fun v st'=>v= .bool false/\st'=((L0,oL0)::cs,d4 w.params g 314 L0 [])) (.inr ⟨rfl,rfl,rfl⟩) fun v st' VP UW xv hk VG UE rv=>?_
 obtain⟨rfl,rfl⟩:=hk
 obtain rfl:=rv.view
 refine wpAny_truthy_bool ?_
 show wpAny _ _ (execs [] Uz.env) _ _ _
 refine Xw ?_
 refine Xa (XK (Call_ (bF Ux UE.graw.1 (gn hS (by kernel_rfl)) (.inl (QW _)) ?_) rfl) (by rfl))
 refine XZ (P:=fun h=>(KF w.params).In h) rfl (keeps_K (LY _)) (aq ?_ rfl)
 refine Xz (dy Ux UE k1 (v:= .ref ga0) (if_pos rfl) (args_nil ⟨Ux.G.X.keeps UE.fr.keep,?_⟩))
 refine wpAny_call (qr Ux hdep UE (K7 _) (.of_eq (CO _ _)) (au (GI _) rfl) fun L1 ga1 oL1 V3 hN1 lt1 hlt1 hF1 GJ=>GJ _ fun n1 q1 Vg=>?_)
 refine aM Ux Vg k1 fun V6 UP=>?_
 have e1:(d4 w.params g 314 L0 []).size=g.size+1:=Array.size_push ..
 have hga0:(ga0,iJ g.size n0 q0)∈VP:=VG _ (.head _)
 have sub1:∀p∈cs++fz,p∈((L1,oL1)::(L0,oL0)::cs)++((ga1,iJ (d4 w.params g 314 L0 []).size n1 q1)::VP):=fun p hp=>(Xt.mp hp).elim (fun h=>W7 _ (.tail _ (.tail _ h))) fun h=>W4 _ (.tail _ (VG _ (.tail _ h)))
 have WK:Xr V6.heap lx (Xu 439 dx) 439 (some (Xc (fM w.params tb pb ct (.ref co) t0 t1 t2 t3) n)):=⟨(UP.graw.1.nw _ (sub1 _ hlx)).1,rfl,rfl,(UP.graw.1.nw _ (sub1 _ hdx)).1⟩
 refine Xa (wpAny_Return_some (methodCall_KW (pl:=(do return (←importBound (.Name "self" _) Uz.env).getD true)) (kws:=[]) (dy Ux UP k5 (v:= .ref lx) ((if_neg nch).trans ((if_neg nch).trans (by kernel_rfl))) (method_inst UP.fr Ux.G.X WK (ew _ _) (KZ _) (Jo _) (by kernel_rfl) ?_)) (bI rfl rfl rfl)))
 refine XZ (P:=fun h=>(KF w.params).In h) rfl (keeps_K (Kq _)) (aq ?_ rfl)
 refine Xz (dy Ux UP k1 (v:= .ref ga1) (if_pos rfl) (args_nil ⟨Ux.G.X.keeps UP.fr.keep,?_⟩))
 refine wpAny_call (qr Ux hdep UP (MQ _) (.of_eq (CZ _ _ _)) (au (He _) rfl) fun L3 ga3 oL3 VD hN3 lt3 hlt3 hF3 GJ=>GJ _ fun n3 q3 Vh=>⟨_,_,_,Vh,fun US=>?_⟩)
 have e2:(d4 w.params (d4 w.params g 314 L0 []) 328 L1 []).size=g.size+2:=(Array.size_push ..).trans (congrArg (. +1) e1)
 have c1:ga0<L1:=lt1 (ga0,iJ g.size n0 q0) (W4 _ hga0)
 have c2:ga1<L3:=lt3 (ga1,_) (W4 _ (.head _))
 exact h L0 ga0 oL0 _ L1 ga1 oL1 _ L3 ga3 oL3 _ n0 q0 n1 q1 n3 q3 _ VD hN0 (by kernel_rfl) (by kernel_rfl) hN1 (by kernel_rfl) hN3 (by kernel_rfl) (by kernel_rfl) lt0 (C.fr.elim fun mF hfr=>Xx (XT (mA hfr.ns) Uo.fr.above) hF0) hlt0 c1 hlt1 c2 hlt3
   (fun p hp=>(Xb.mp hp).elim (fun e=>e▸e2▸ .head _) fun hp=>(Xb.mp hp).elim (fun e=>e▸e1▸ .tail _ (.head _)) fun hp=> .tail _ (.tail _ (VG _ hp))) US
end
end
section
noncomputable def P9{σ:Type} (w:Xj) (J:cu σ) (F:Fm) (st:σ) (fz:ad) (s:W2):Prop:=∀qC:Prop,(∀(news:ad),(∀p∈fz,p∈news)->News F.Up F.L s.heap news ->
   (∀s' m',Fr F.Up F.L s'.heap m'->News F.Up F.L s'.heap news->s'.gens=s.gens->s'.os=s.os->s'.drawn=s.drawn->RS w J F m' st fz s') ->
   (∀a o s' m',s.heap.objs.size<=a->Fr F.Up F.L s'.heap m'->News F.Up F.L s'.heap ((a,o)::news)->s'.gens=s.gens->s'.os=s.os->s'.drawn=s.drawn->RS w J F m' st ((a,o)::fz) s')->qC)->qC
theorem RS.door{J:cu σ} (JO:bZ J) (R:RS w J F m st fz s):P9 w J F st fz s:=by
 obtain⟨mu,hi,N,nd⟩:=R.led
 exact(fun qq qk=>qk (mu++fz) (fun p hp=>W4 _ hp) N (fun s' m' F' N' hg ho hd=>⟨F',⟨mu,hg.symm▸hi,N',nd⟩,ho.trans R.os,hd.trans R.dr,R.lo⟩) (fun a o s' m' ha F' N' hg ho hd=>R.join JO hi nd (fun p hp=>XT (XQ (N p hp).1) ha) F' N' hg ho hd))
noncomputable abbrev aG:=List (W3×List V)
inductive fC(P:W1) (la:LA) (fz:ad):aG->ad->Prop
 |nil:fC P la fz [] []
 |cons {a:W3}{n:Nat}{xs:List V}{vs:List WY}{own:aG}{mo:ad}:aL P la fz xs vs->fC P la fz own mo->fC P la fz ((a,xs)::own) ((a,W0 vs.toArray n)::mo)
theorem fC.mono(h:∀p∈fz,p∈fz') {own:aG}{mo:ad} (c:fC P la fz own mo):fC P la fz' own mo:=by
 induction c with
 |nil=>exact .nil
 |cons r _ ih=>exact .cons (aL.mono h r) ih
noncomputable def Uh(P:W1) (la:LA) (ex:ad) (gs:Array Xf) (own:aG) (mu fz:ad) (g:Array Xf):Prop:=∀qC:Prop,(∀(mo:ad),g=gs->mu=mo++ex->fC P la fz own mo->qC)->qC
noncomputable abbrev JL(P:W1) (la:LA) (ex:ad) (gs:Array Xf):cu aG:=bC la (Uh P la ex gs)
theorem fO:bZ (JL P la ex gs):=⟨fun qq qq qq qq qq h k=>h _ fun mo h1 h2 h3=>(fun qq qk=>qk mo h1 h2 (h3.mono k))⟩
section
variable {J:cu σ}
inductive DU(P:W1) (la:LA) (fz:ad) (h:Heap) (xs:List V):WY->Prop
 |mk (a:W3) (vs:List WY) (nn:Nat):aL P la fz xs vs->h.get? a=some (W0 vs.toArray nn)->DU P la fz h xs (.ref a)
theorem qP(FO:aa w F) (R:RS w J F m st fz s) (rv:RV w.params J.la fz (.lst xs) v):DU w.params J.la fz s.heap xs v:=by
 obtain⟨a,nn,vs,rfl,h,r⟩:=rv.view
 exact⟨a,vs,nn,r,h.elim (fun h=>R.get h) fun h=>FO.G.X.keeps R.fr.keep _ _ h⟩
theorem bQ(FO:aa w F) (R:RS w J F m st fz s) (rv:RV w.params J.la fz (.lst xs) v):∃a vs,v= .ref a/\aL w.params J.la fz xs vs/\s.heap.IsList a vs.toArray :=
 (qP FO R rv).casesOn fun a vs nn r h=>⟨a,vs,rfl,r,_,h,rfl,nn,rfl⟩
theorem gB(R:RS w J F m st fz s) (rv:RV w.params J.la fz (.tup xs) v):∃a vs,v= .ref a/\aL w.params J.la fz xs vs/\IsTup s.heap a vs.toArray:=by
 obtain⟨a,nn,vs,rfl,h,r⟩:=rv.view
 exact⟨a,vs,rfl,r,_,R.get h,rfl,nn,rfl⟩
theorem aL.nil_eq(r:aL P la fz [] vs):vs=[]:=List.eq_nil_of_length_eq_zero r.length
theorem aL.get:∀{xs:List V}{vs:List WY},aL P la fz xs vs->∀{i:Nat}{x:V},xs[i]?=some x->∃v,vs[i]?=some v/\RV P la fz x v
 |[],_,_,_,_,h=>bN h
 |_::_,_,r,0,_,h=>r.uncons.casesOn fun v qq a qq=>⟨v,rfl,XE h▸a⟩
 |_::_,_,r,_+1,_,h=>r.uncons.casesOn fun qq qq qq b=>b.get h
theorem aL.get_none(r:aL P la fz xs vs) (h:xs[i]?=none):vs[i]?=none:=List.getElem?_eq_none_iff.mpr (r.length.symm▸List.getElem?_eq_none_iff.mp h)
theorem aL.ints:∀{ns:List Int}{vs:List WY},aL P la fz (ns.map .int) vs->IntsAre vs ns:=by intro l0;induction l0 with
 |nil=>intro qq h;exact h.nil_eq▸ .nil
 |cons n ns ih=>intro qq h;exact h.uncons.casesOn fun qq qq a b=>a.view.elim fun qq e=>e▸ .cons _ _ (ih b)
theorem aL.strs:∀{ns:List Str}{vs:List WY},aL P la fz (ns.map .str) vs->StrsAre vs ns:=by intro l0;induction l0 with
 |nil=>intro qq h;exact h.nil_eq▸ .nil
 |cons n ns ih=>intro qq h;exact h.uncons.casesOn fun qq qq a b=>a.view.elim fun qq e=>e▸ .cons _ _ (ih b)
theorem aL.ofStrs:∀(l:List (Str×Tok)),aL P la fz ((l.map (·.1)).map .str) (strValues l)
 |[]=> .nil
 |p::l=> .cons (.str _ _) (aL.ofStrs l)
theorem aL.toStrs:∀{ns:List Str}{vs:List WY},aL P la fz (ns.map .str) vs->∃l:List (Str×Tok),vs=strValues l/\l.map (·.1)=ns:=by intro l0;induction l0 with
 |nil=>intro qq h;exact h.nil_eq▸⟨[],rfl,rfl⟩
 |cons n ns ih=>intro qq h;exact h.uncons.casesOn fun qq qq a b=>a.view.elim fun t e=>(ih b).elim fun l hl=>⟨(n,t)::l,e▸hl.1▸rfl,congrArg (n:: ·) hl.2⟩
end
theorem aL.drop:∀{xs:List V}{vs:List WY},aL P la fz xs vs->∀n:Nat,aL P la fz (xs.drop n) (vs.drop n)
 |_,_,r,0=>r
 |[],_,r,_+1=>r.nil_eq▸ .nil
 |_::_,_,r,n+1=>r.uncons.casesOn fun qq qq qq b=>b.drop n
theorem aL.take:∀{xs:List V}{vs:List WY},aL P la fz xs vs->∀n:Nat,aL P la fz (xs.take n) (vs.take n)
 |_,_,_,0=> .nil
 |[],_,r,_+1=>r.nil_eq▸ .nil
 |_::_,_,r,n+1=>r.uncons.casesOn fun qq qq a b=> .cons a (b.take n)
noncomputable def wQ{α:Type} (xs:List α) (a b:Nat):List α:=(xs.drop a).take (b - a)
theorem aL.cut(r:aL P la fz xs vs) {lo hi:Option Int}{a b:Nat} (e:sliceBounds lo hi none xs.length=((a:Int),(b:Int),1)):aL P la fz (wQ xs a b) (slicePick vs.toArray lo hi none).toList :=
 (kmk_pick_nat vs.toArray (((congrArg (sliceBounds lo hi none) ((XO:vs.toArray.size=_).trans r.length))).trans e)).symm▸(r.drop a).take (b - a)
theorem tG(k:Nat): -1+((k+1:Nat):Int)=k:=(congrArg (-1+ ·) (Int.add_comm (k:Int) 1)).trans (Int.neg_add_cancel_left 1 k)
theorem oz(k:Nat):max 0 (min (-1+((k+1:Nat):Int)) ((k+1:Nat):Int))=k:=(congrArg (fun x=>max 0 (min x ((k+1:Nat):Int))) (tG k)).trans ((congrArg (max 0) (Int.min_eq_left (Int.le.intro 1 rfl))).trans (Int.max_eq_right (Int.natCast_nonneg k)))
theorem B4(k:Nat):sliceBounds none (some (-1)) none (k+1)=(((0:Nat):Int),(k:Int),1):=congrArg (fun x=>((0:Int),x,(1:Int))) (oz k)
theorem AI(k:Nat):sliceBounds (some (-1)) none none (k+1)=((k:Int),((k+1:Nat):Int),1):=congrArg (fun x=>(x,((k+1:Nat):Int),(1:Int))) (oz k)
end
variable {K:V->aG->Prop}
section
noncomputable def sV(l:List Str):List V:=l.map .str
noncomputable def fG:List (List Str):=[[],["\\\n"],["\\\n", " "],["/**/"],[" "],["\x0c"],["\\\n", "\\\n"]]
noncomputable def e9:List (List Str):=[[" "],["\n"],["/*x*/"],["//x", "\n"],[" ", " "],["\t"],["\n", "\n"],["/*\n*/"],[" ", "/***/", " "],["\n", " ", "//", "\n"],["/\\\n*/*\\\n/"],["/\\\n/ */ \\\ny", "\n"],["\x0c"],["/*//\n\"*/", "\t"]]
noncomputable def lj:List (List Str):=[[],["\n"],["\n", "\n"],[" ", " "],["//x"],["/*x"],["\n", " ", "\\\n", " "],["\n", "/*\n*/"],["\\\n"],["\"x"],["\n", "/* *\n"]]
noncomputable def cS:List (Str×Str):=[("ID", "abc"),("ID", "L1_"),("NUMBER", "12"),("NUMBER", "0x1F"),("STRING", "\"//\""),("STRING", "\"/* \""),("CHAR", "'/'"),("CHAR", "L'*'"),("++", "++"),("->", "->"),(">>=", ">>="),("...", "..."),("##", "##"),("/", "/"),("/=", "/="),("*", "*"),("\\", "\\")]
noncomputable def bw:List Str:=["/*x", "\"x", "/* *\n"]
noncomputable def Ow(l:List (List Str)):List V:=l.map fun x=> .lst (sV x)
noncomputable def tD:List V:=cS.map fun p=> .tup [.str p.1,.str p.2]
noncomputable def SM:WY->Option (Str×Tok)
 |.str x t=>some (x,t)
 |_=>none
theorem Iw{p:Str×Tok} (h:SM v=some p):v= .str p.1 p.2:=db (f:=fun p:Str×Tok=>Value.str p.1 p.2) (d:=(⟨#[]⟩,default)) (by cases v<;>first|exact .inl rfl|exact .inr rfl) h
noncomputable def NE:WY->Option W3
 |.ref x=>some x
 |_=>none
theorem qY{p:W3} (h:NE v=some p):v= .ref p:=db (f:=Value.ref) (d:=0) (by cases v<;>first|exact .inl rfl|exact .inr rfl) h
noncomputable def SR:WY->Option String
 |.type x=>some x
 |_=>none
theorem Gn{p:String} (h:SR v=some p):v= .type p:=db (f:=Value.type) (d := "") (by cases v<;>first|exact .inl rfl|exact .inr rfl) h
noncomputable def Pw:Data->Option (List WY×Nat)
 |.seq us n=>some (us.toList,n)
 |_=>none
theorem Ij{v:Data}{p:List WY×Nat} (h:Pw v=some p):v= .seq p.1.toArray p.2:=db (f:=fun p:List WY×Nat=>Data.seq p.1.toArray p.2) (d:=([],0)) (by cases v<;>first|exact .inl rfl|exact .inr rfl) h
noncomputable def So(o:Obj):Option (List WY×Nat):=(SR o.cls).bind fun t=>match t == "list" && (o.dict.isNone&&o.slots.isEmpty) with|true=>Pw o.data|false=>none
theorem IC{p:List WY×Nat} (h:So o=some p):o=W0 p.1.toArray p.2:=by
 obtain⟨c,d,e,f⟩:=o
 obtain⟨t,ht,h⟩:=aC h
 have h':(match t == "list" && (d.isNone&&f.isEmpty) with|true=>Pw e|false=>none)=some p:=h
 rcases hb:t == "list" && (d.isNone&&f.isEmpty) with qq|qq
 . rw[hb] at h';exact bN h'
 ·
   rw[hb] at h'
   have hd:d=none:=Option.isNone_iff_eq_none.mp (af (ai hb))
   have hf:f= #[]:=Array.isEmpty_iff.mp (ai (ai hb))
   rw[show c= .type t from Gn ht,eq_of_beq (af hb),hd,hf,Ij h']
noncomputable def tP:List WY->List Str->Bool
 |[],[]=>true
 |v::vs,y::ys=>(SM v).any (fun p=>p.1 == y)&&tP vs ys
 |_,_=>false
noncomputable def Qf(P:W1) (v:WY):Option (List WY×Nat):=(NE v).bind fun a=>((KF P).lookup a).bind So
noncomputable def lstK(P:W1):List WY->List (List Str)->Bool
 |[],[]=>true
 |v::vs,y::ys=>(Qf P v).any (fun p=>tP p.1 y)&&lstK P vs ys
 |_,_=>false
noncomputable def Bq(P:W1) (a:W3) (l:List (List Str)):Bool:=(Qf P (.ref a)).any fun p=>lstK P p.1 l
theorem nt{o:Option α}{f:α->Bool} (h:o.any f=true):∃x,o=some x/\f x=true:=by
 rcases o with qq|x
 . exact ly h
 . exact⟨x,rfl,h⟩
theorem o8:∀{vs:List WY}{ys:List Str},tP vs ys=true->aL P la fz (sV ys) vs
 |[],[],_=> .nil
 |[],_::_,h=>ly h
 |_::_,[],h=>ly h
 |v::vs,y::ys,h=>(nt (af h)).elim fun p hp=>Iw hp.1▸eq_of_beq hp.2▸ .cons (.str _ _) (o8 (ai h))
theorem DB{f:List WY->Bool} (h:(Qf P v).any (fun p=>f p.1)=true) (k:∀vs,f vs=true->aL P la fz xs vs):RV P la fz (.lst xs) v:=by
 obtain⟨p,hp,hf⟩:=nt h
 obtain⟨a,ha,hp⟩:=aC hp
 obtain⟨o,ho,hp⟩:=aC hp
 exact qY ha▸ .lstK (ho.trans (congrArg some (IC hp))) (k _ hf)
theorem tY:∀{vs:List WY}{ys:List (List Str)},lstK P vs ys=true->aL P la fz (Ow ys) vs
 |[],[],_=> .nil
 |[],_::_,h=>ly h
 |_::_,[],h=>ly h
 |v::vs,y::ys,h=> .cons (DB (f:=fun vs=>tP vs y) (af h) fun qq=>o8) (tY (ai h))
theorem nK{l:List (List Str)} (h:Bq P a l=true):RV P la fz (.lst (Ow l)) (.ref a):=DB (f:=fun vs=>lstK P vs l) h fun qq=>tY
theorem Ft(P:W1):Bq P 541 fG=true:=by kernel_rfl
theorem F8(P:W1):Bq P 533 e9=true:=by kernel_rfl
theorem F6(P:W1):Bq P 553 lj=true:=by kernel_rfl
noncomputable abbrev lH:=Nat->Hd aG
noncomputable abbrev oZ(w:Xj) (la:LA) (ex:ad) (gs:Array Xf) (n:Nat) (c:lH):Prop:=aW w (JL w.params la ex gs) n c
noncomputable def iP(i:Nat):Option (Str×V):=List.lookup i [(0,("sum",.raw (.builtin "sum"))),(1,("len",.raw (.builtin "len"))),(2,("_law_EXTRA",.lst (Ow fG))),(3,("_law_AHEAD",.lst (Ow e9))),(4,("_law_ENDS",.lst (Ow lj))),(5,("_law_TOKENS",.raw (.ref 518))),(6,("_law_UNENDED",.raw (.ref 560))),(7,("_law_place",.raw (.ref 567)))]
noncomputable def Ub:WY->Bool
 |.builtin _=>true
 |.ref a=>Nat.beq a 518 || (Nat.beq a 560 || Nat.beq a 567)
 |_=>false
noncomputable def Qi(v:V):Bool:=(lm v).any Ub
noncomputable def LM(v:V) (a:Nat):Option WY:=(strO v).bind fun qq=>List.lookup a [(50,.builtin "str.split"),(51,.builtin "str.join"),(53,.builtin "str.find")]
noncomputable def zb(x y:Str) (i:Int):Int:=match Builtin.Str.occurrences x y (PySem.fromIndex x.length i) x.length 1 with|k::_=>(k:Int)|[]=> -1
noncomputable def uY:V->Option (List V)
 |.tup l=>some l
 |_=>none
theorem iD{v:V}{x:List V} (h:uY v=some x):v= .tup x:=db (d:=[]) (by cases v<;>first|exact .inl rfl|exact .inr rfl) h
noncomputable def P4(v:V) (st:aG) (K:V->aG->Prop):Prop:=match eI v with
 |some xs=>xs.length<=1000000/\K (.int xs.length) st
 |none=>(match strO v with
   |some x=>ar x<=1000000/\K (.int (ar x)) st
   |none=>opt (lm v) fun g=>opt (NE g) fun a=>∃pre xs post,st=pre++(a,xs)::post/\xs.length<=1000000/\K (.int xs.length) st)
noncomputable def Lp:Hd aG:=h1 fun x st K qq=>opt (eI x) fun xs=>∃ns:List Int,xs=ns.map .int/\K (.int ns.sum) st
noncomputable def Mz:Hd aG:=h1 fun x st K qq=>P4 x st K
noncomputable def MA:Hd aG:=h2 fun x y st K qq=>opt (strO x) fun x=>opt (strO y) fun y=>(y.length == 0)=false/\ar x<=1000000/\K (.lst (sV (XN x y))) st
noncomputable def Mf:Hd aG:=h3 fun x y i st K qq=>opt (strO x) fun x=>opt (strO y) fun y=>opt (intO i) fun i=>K (.int (zb x y i)) st
noncomputable def tL:lH:=cD 6 Lp (cD 7 Mz (cD 8 MA (cD 9 Mf qm)))
noncomputable def Hp(v u:V) (st:aG) (K:V->aG->Prop):Prop:=match strO v with
 |some x=>opt (strO u) fun y=>ar x+ar y<=100000/\K (.str (aQ x y)) st
 |none=>(match intO v with
   |some a=>opt (intO u) fun b=>K (.int (a+b)) st
   |none=>(match eI v with
     |some xs=>opt (eI u) fun ys=>xs.length+ys.length<=1000000/\K (.lst (xs++ys)) st
     |none=>opt (uY v) fun xs=>opt (uY u) fun ys=>(xs.isEmpty=false/\ys.isEmpty=false)/\xs.length+ys.length<=1000/\K (.tup (xs++ys)) st))
noncomputable def FT(v u:V) (st:aG) (K:V->aG->Prop):Prop:=match intO v with
 |some a=>opt (intO u) fun b=>IntMulOk a b/\K (.int (a*b)) st
 |none=>opt (strO v) fun x=>opt (intO u) fun n=>MulOk x n/\K (.str (Txt.mul x n)) st
noncomputable def Nc(op:Operator) (v u:V) (st:aG) (K:V->aG->Prop):Prop:=match op with
 |.Add=>Hp v u st K
 |.Mult=>FT v u st K
 |.Sub=>opt (intO v) fun a=>opt (intO u) fun b=>K (.int (a - b)) st
 |.FloorDiv=>opt (intO v) fun a=>opt (intO u) fun b=>(b≠0/\b.natAbs<1073741824)/\K (.int (a.fdiv b)) st
 |.Mod=>opt (intO v) fun a=>opt (intO u) fun b=>b≠0/\K (.int (a.fmod b)) st
 |_=>False
noncomputable def NM(op:Operator) (v u:V) (st:aG) (K:V->aG->Prop):Prop:=op= .Add/\match strO v with
 |some x=>opt (strO u) fun y=>ar x+ar y<=100000/\K (.str (aQ x y)) st
 |none=>opt (intO v) fun a=>opt (intO u) fun b=>K (.int (a+b)) st
noncomputable def Lo(op:CmpOp) (v u:V) (st:aG) (K:V->aG->Prop):Prop:=match op with
 |.Eq=>(match strO v with
   |some x=>opt (strO u) fun y=>K (.bool (bU x y)) st
   |none=>opt (intO v) fun a=>opt (intO u) fun b=>K (.bool (a == b)) st)
 |.NotEq=>opt (strO v) fun x=>opt (strO u) fun y=>K (.bool (!bU x y)) st
 |.Lt=>opt (intO v) fun a=>opt (intO u) fun b=>K (.bool (decide (a<b))) st
 |.In=>opt (strO v) fun x=>opt (eI u) fun ys=>∃l:List Str,ys=sV l/\K (.bool (l.any (. == x))) st
 |.Is=>opt (isNone v) fun qq=>opt (isNone u) fun qq=>K (.bool true) st
 |_=>False
noncomputable def SJ(xs:List V) (k:Int):Option V:=(seqIndex? k xs.length).bind (xs[·]?)
noncomputable def MG(xs:List V) (i:V) (st:aG) (K:V->aG->Prop):Prop:=opt (intO i) fun k=>(-1000000<=k/\k<=1000000)/\∃x,SJ xs k=some x/\K x st
noncomputable def MJ(v i:V) (st:aG) (K:V->aG->Prop):Prop:=match eI v with
 |some xs=>MG xs i st K
 |none=>opt (uY v) fun xs=>MG xs i st K
noncomputable def GB(v:V):Option (Option Int):=match isNone v with
 |some _=>some none
 |none=>(intO v).map some
noncomputable def qT(v lo hi:V) (st:aG) (K:V->aG->Prop):Prop:=opt (GB lo) fun l=>opt (GB hi) fun h=>match eI v with
 |some xs=>xs.length<=1000000/\∃a b:Nat,sliceBounds l h none xs.length=((a:Int),(b:Int),1)/\K (.lst (wQ xs a b)) st
 |none=>opt (strO v) fun x=>ar x<=1000000/\K (.str (Txt.slice x l h)) st
noncomputable def Ro(v:V) (st:aG) (K:Bool->aG->Prop):Prop:=match lb v with
 |some b=>K b st
 |none=>opt (eI v) fun xs=>xs.length<=1000000/\K (!xs.isEmpty) st
noncomputable abbrev eP(c:lH):lz aG where
 glob:=iP
 attr qq qq qq qq:=False
 meth:=LM
 callable:=Qi
 call f vs kw st K X:=opt (lm f) fun g=>c (wj g) vs kw st K X
 truth:=Ro
 bin:=Nc
 iop:=NM
 cmp:=Lo
 sub v i st K qq:=MJ v i st K
 slc:=qT
 lst vs st K:=match vs with
   |[]=>∀a,K (.raw (.ref a)) ((a,[])::st)
   |v::vs=>vs.length<=1000/\K (.lst (v::vs)) st
theorem G5(P:W1):nsIn (KF P) XI "sum" = some none:=by kernel_rfl
theorem E2(P:W1):nsIn (KF P) XI "len" = some none:=by kernel_rfl
theorem Oi(P:W1):nsIn (KF P) XI "_law_EXTRA" = some (some (.ref 541)):=by kernel_rfl
theorem Li(P:W1):nsIn (KF P) XI "_law_AHEAD" = some (some (.ref 533)):=by kernel_rfl
theorem Lb(P:W1):nsIn (KF P) XI "_law_ENDS" = some (some (.ref 553)):=by kernel_rfl
theorem Nf(P:W1):nsIn (KF P) XI "_law_TOKENS" = some (some (.ref 518)):=by kernel_rfl
theorem JZ(P:W1):nsIn (KF P) XI "_law_UNENDED" = some (some (.ref 560)):=by kernel_rfl
theorem NQ(P:W1):nsIn (KF P) XI "_law_place" = some (some (.ref 567)):=by kernel_rfl
theorem Nm:bootBuiltins "sum" = some (.builtin "sum"):=by kernel_rfl
theorem Le:bootBuiltins "len" = some (.builtin "len"):=by kernel_rfl
theorem J3(P:W1):keepIn (KF P) (.ref 518)=true:=by kernel_rfl
theorem Mx(P:W1):keepIn (KF P) (.ref 560)=true:=by kernel_rfl
theorem Nk(P:W1):keepIn (KF P) (.ref 567)=true:=by kernel_rfl
section
variable {st:aG}
theorem Txt.find_at{y:Str}{i:Int}{u v:Tok} (h:Q (.int (zb x y i) s.toks) {s with toks:=s.toks+1}):wpAny (model ae w) A (call (.builtin "str.find") [.str x t,.str y u,.int i v] []) Q E s :=
 call_gives PySem.F.slot_str_find (typeIs_str _ _ _) PySem.F.entry_str_find (PySem.F.args_str_find_3 _ _ _) (gives_str_find_from x y i t u v) h
inductive OG(P:W1) (la:LA) (fz:ad) (pre:aG) (a:W3) (xs:List V) (post:aG):ad->Prop
 |mk (m1:ad) (vs:List WY) (n:Nat) (m2:ad):aL P la fz xs vs->(∀ys us n',aL P la fz ys us->fC P la fz (pre++(a,ys)::post) (m1++(a,W0 (X5 us) n')::m2))->fC P la fz (pre++post) (m1++m2)->OG P la fz pre a xs post (m1++(a,W0 (X5 vs) n)::m2)
theorem fC.split:∀{pre:aG}{a:W3}{xs:List V}{post:aG}{mo:ad},fC P la fz (pre++(a,xs)::post) mo->OG P la fz pre a xs post mo
 |[],a,xs,post,mo,h=>by
   cases h with|cons r h=>exact⟨[],_,_,_,r,fun ys us n' q=> .cons q h,h⟩
 |(b,zs)::pre,a,xs,post,mo,h=>by
   cases h with|cons r h =>
   obtain⟨m1,vs,n,m2,q,k,k2⟩:=fC.split h
   exact⟨_::m1,vs,n,m2,q,fun ys us n' q'=> .cons r (k ys us n' q'),.cons r k2⟩
theorem eQ(h:n<=1000000):(n:Int)<2 ^ 63:=Int.lt_of_le_of_lt (Int.ofNat_le.mpr h) (by decide)
theorem rL{ns:List Int} (h:IntsAre vs ns):∃its:List (Int×Tok),vs.toArray=intItems its.toArray/\its.map (·.1)=ns:=by
 induction h with
 |nil=>exact⟨[],by kernel_rfl,rfl⟩
 |cons k t _ ih =>
   obtain⟨its,e,en⟩:=ih
   refine⟨(k,t)::its,Array.toList_inj.mp ?_,congrArg (k:: ·) en⟩
   have:=congrArg Array.toList e
   unfold intItems at this ⊢
   rw[Array.toList_map] at this ⊢
   exact congrArg (Value.int k t:: ·) this
theorem Bo:cw w (JL w.params la ex gs) n (.builtin "sum") Lp:=fun F m st fz s vs xs kw xk K X Q E FO LV R rvs rk h P PE=>by
 obtain⟨x,v,rfl,rfl,r1,h⟩:=ki h rvs rk
 obtain⟨l,hl,ns,e,hK⟩:=ac h
 rw[cH hl,e] at r1
 obtain⟨a,us,rfl,r2,hl⟩:=bQ FO R r1
 obtain⟨its,e,en⟩:=rL r2.ints
 refine(R.door fO) _ ?_;rintro news hsub N k0 k1
 rw[e] at hl
 refine sum_intListG LV.hd hl fun h' tk t' hk'=>?_
 have e3:List.take its.toArray.size (List.map (fun x=>x.fst) its.toArray.toList)=ns:=(List.take_of_length_le (W9 (XR ..))).trans en
 rw[preSum_eq,e3]
 exact P _ _ _ _ _ hK (fun qq h=>h) (k0 {s with heap:=h',toks:=tk} m (R.fr.kept hk') (fun p hp=>⟨hk' _ _ (N p hp).1,(N p hp).2⟩) rfl rfl rfl) (.int _ _)
theorem Cf:cw w (JL w.params la ex gs) n (.builtin "len") Mz:=fun F m st fz s vs xs kw xk K X Q E FO LV R rvs rk h P PE=>by
 obtain⟨x,v,rfl,rfl,r1,h⟩:=ki h rvs rk
 have h':(match eI x with|some xs=>xs.length<=1000000/\K (.int xs.length) st|none=>(match strO x with|some x=>ar x<=1000000/\K (.int (ar x)) st|none=>opt (lm x) fun g=>opt (NE g) fun a=>∃pre xs post,st=pre++(a,xs)::post/\xs.length<=1000000/\K (.int xs.length) st)):=h
 rcases hl:eI x with qq|xs
 ·
   rw[hl] at h'
   rcases hs:strO x with qq|y
   ·
     rw[hs] at h'
     obtain⟨g,hg,h'⟩:=ac h'
     obtain⟨a,ha,pre,xs,post,rfl,hz,hK⟩:=ac h'
     obtain rfl:=fx hg;obtain rfl:=qY ha;obtain rfl:=r1.view
     obtain⟨mu,qi,N2,nd⟩:=R.led;refine qi _ ?_;rintro mo hg rfl hc
     obtain⟨m1,us,nn,m2,r2,qq⟩:=hc.split
     have e:us.toArray.size=xs.length:=(XO:us.toArray.size=_).trans r2.length
     exact Calls.call_len_list (items:=us.toArray) ⟨_,(N2 (_,W0 us.toArray nn) (W7 _ (W7 _ aD))).1,rfl,nn,rfl⟩ (eQ (WZ (W9 e) hz)) (e▸P _ _ _ _ _ hK (fun qq h=>h) (R.toks _) (.int _ _))
   ·
     rw[hs] at h'
     obtain⟨t,rfl⟩:=r1.strO hs
     exact len_str (Int.not_le.mpr (eQ (WZ (W9 (bo y)) h'.1))) (bo y▸P _ _ _ _ _ h'.2 (fun qq h=>h) (R.toks _) (.int _ _))
 ·
   rw[hl] at h'
   rw[cH hl] at r1
   obtain⟨a,us,rfl,r2,hl⟩:=bQ FO R r1
   have e:us.toArray.size=xs.length:=(XO:us.toArray.size=_).trans r2.length
   exact Calls.call_len_list hl (eQ (WZ (W9 e) h'.1)) (e▸P _ _ _ _ _ h'.2 (fun qq h=>h) (R.toks _) (.int _ _))
theorem ti:cw w (JL w.params la ex gs) n (.builtin "str.split") MA:=fun F m st fz s vs xs kw xk K X Q E FO LV R rvs rk h P PE=>(iV h rvs rk).casesOn fun x y v u r1 r2 h=>by
 obtain⟨x',hx,h⟩:=ac h
 obtain⟨y',hy,h1,h2,hK⟩:=ac h
 obtain⟨t,rfl⟩:=r1.strO hx
 obtain⟨t',rfl⟩:=r2.strO hy
 refine(R.door fO) _ ?_;rintro news hsub N k0 k1
 refine splitN1 R.fr N h1 (fun l h' k e F' N'=>?_) (WZ (W9 (congrArg (. +2) (bo x'))) (WZ (XG h2 2) (by decide)))
 refine P _ _ _ {s with heap:=h',toks:=k} _ hK (fun p hp=> .tail _ hp) (k1 s.heap.objs.size _ {s with heap:=h',toks:=k} m (Xl _) F' N' rfl rfl rfl) ?_
 rw[←e]
 exact .lst (n:=0) (.head _) (aL.ofStrs l)
theorem Dc:cw w (JL w.params la ex gs) n (.builtin "str.find") Mf:=fun F m st fz s vs xs kw xk K X Q E FO LV R rvs rk h P PE=>(rW h rvs rk).casesOn fun x y i v u t r1 r2 r3 h=>by
 obtain⟨x',hx,h⟩:=ac h
 obtain⟨y',hy,h⟩:=ac h
 obtain⟨i',hi,hK⟩:=ac h
 obtain⟨t1,rfl⟩:=r1.strO hx
 obtain⟨t2,rfl⟩:=r2.strO hy
 obtain⟨t3,rfl⟩:=r3.intO hi
 exact Txt.find_at (P _ _ _ _ _ hK (fun qq h=>h) (R.toks _) (.int _ _))
theorem oh:oZ w la ex gs n tL:= .bn 5 rfl Bo (.bn 6 rfl Cf (.bn 7 rfl ti (.bn 8 rfl Dc .nil)))
end
end
section
theorem oE{value slice:W5}{o i:WY}{T id:String}{ops:List WY} (hT:s.TypeIs o T)
   (hl:typeLookup (.type T) "__getitem__" = pure (some (.builtin id))) (h:wpAny (model prog w) A (getItem o i) Q E s) (hs:subscripted slice false o i=operate ops (getItem o i)) :
   wpAny (model prog w) A (subscriptTail value slice o i) Q E s:=by
 unfold subscriptTail
 refine W6 ?_
 rw[getitemInPython_of_ne hT.not_modules]
 refine W6 (wpAny_specialOf hT hl ?_)
 have fin:wpAny (model prog w) A (subscripted slice false o i) (fun r Ut=>wpAny (model prog w) A (letTemporaryGo value o r >>= fun qq=>pure r) Q E Ut) E s:=by
   rw[hs]
   exact wpAny_operating (Xq h (fun r Ut UJ=>W6 (wpAny_letTemporaryGo (Xk UJ))) fun qq qq x=>x)
 first
   |exact Xk (W6 fin)
   |exact W6 (Xk (W6 fin))
   |exact W6 fin
section
variable {st:aG}
theorem kn{k:Int}{j:Nat} (h:seqIndex? k n=some j):(0<=k/\j=k.toNat)\/(k<0/\ -(n:Int)<=k/\j=(k+n).toNat):=by
 unfold seqIndex? at h
 by_cases h0:k<0
 . simp only[h0,if_true] at h
   obtain⟨hr,e⟩:=iL h
   have h1:=of_decide_eq_true (af hr)
   exact .inr ⟨h0,by omega,e.symm⟩
 . simp only[h0,if_false] at h
   exact .inl ⟨Int.not_lt.mp h0,(iL h).2.symm⟩
theorem gI{v:V}{x:WY}{o:Option Int} (h:GB v=some o) (r:RV P la fz v x):IsPart x o:=by
 have h':(match isNone v with|some _=>some none|none=>(intO v).map some)=some o:=h
 rcases hn:isNone v with qq|u
 ·
   rw[hn] at h'
   obtain⟨i,hi,rfl⟩:=cp h'
   obtain⟨t,rfl⟩:=r.intO hi
   exact .int _ _
 . rw[hn] at h';cases h';cases dL hn;cases r.view;exact .none
inductive Ms(P:W1) (la:LA) (fz:ad) (vs:List WY) (st:aG) (K:V->aG->Prop):WY->Prop
 |mk (k:Int) (t:Tok) (j:Nat) (x:V) (xv:WY): -1000000<=k->k<=1000000->seqIndex? k vs.length=some j->vs[j]?=some xv->RV P la fz x xv->K x st->Ms P la fz vs st K (.int k t)
theorem ud{i:V}{xi:WY} (h:MG xs i st K) (ri:RV P la fz i xi) (r:aL P la fz xs vs):Ms P la fz vs st K xi:=by
 obtain⟨k,hk,hb,x,hx,hK⟩:=ac h
 obtain⟨t,rfl⟩:=ri.intO hk
 obtain⟨j,hj,hxj⟩:=aC hx
 obtain⟨xv,e,rx⟩:=r.get hxj
 exact⟨k,t,j,x,xv,hb.1,hb.2,r.length.symm▸hj,e,rx,hK⟩
theorem Db(FO:aa w F) {v i:V}{xi:WY}{value slice:W5} (R:RS w (JL w.params la ex gs) F m st fz s) (rv:RV w.params la fz v xv) (ri:RV w.params la fz i xi) (hs:ft slice=false) (h:MJ v i st K) (P:a8 w (JL w.params la ex gs) F m fz K Q) :
   wpAny (model ae w) A (subscriptTail value slice xv xi) Q E s:=by
 have h':(match eI v with|some xs=>MG xs i st K|none=>opt (uY v) fun xs=>MG xs i st K):=h
 rcases hv:eI v with qq|xs
 ·
   rw[hv] at h'
   obtain⟨xs,hx,h'⟩:=ac h'
   rw[iD hx] at rv
   obtain⟨a,vs,rfl,r,hl⟩:=gB R rv
   obtain⟨k,t,j,x,xv,b1,b2,hj,e,rx,hK⟩:=ud h' ri r
   exact oE hl.typeIs slot_tuple_getitem.lookup (getItem_tuple hl (Int.le_trans (by decide) b1) (Int.lt_of_le_of_lt b2 (by decide)) ((XO:vs.toArray.size=_).symm▸hj) (Ya.trans e) (P _ _ _ _ _ hK (fun qq h=>h) R rx)) (cI hs _ _)
 ·
   rw[hv] at h'
   rw[cH hv] at rv
   obtain⟨a,vs,rfl,r,hl⟩:=bQ FO R rv
   obtain⟨k,t,j,x,xv,b1,b2,hj,e,rx,hK⟩:=ud h' ri r
   refine oE hl.typeIs PySem.slot_list_getitem.lookup ?_ (cI hs _ _)
   rcases kn hj with⟨h0,rfl⟩|⟨h0,h1,rfl⟩
   . exact wpAny_getItem_list hl h0 (Int.lt_of_le_of_lt b2 (by decide)) (Ya.trans e) (P _ _ _ _ _ hK (fun qq h=>h) R rx)
   . exact wpAny_getItem_list_neg hl h0 ((XO:vs.toArray.size=_).symm▸h1) (Int.le_trans (by decide) b1) ((XO:vs.toArray.size=_).symm▸Ya.trans e) (P _ _ _ _ _ hK (fun qq h=>h) R rx)
theorem uh{x:WY}{o:Option Int} (h:IsPart x o):∃l:Option (Int×Tok),l.map (·.1)=o/\x=partValue l:=by
 cases h with
 |none=>exact⟨none,rfl,rfl⟩
 |int i t=>exact⟨some (i,t),rfl,rfl⟩
theorem Bh(FO:aa w F) {v lo hi:V}{xlo xhi:WY}{value:W5}{l u:Option W5}{p:Pos} (R:RS w (JL w.params la ex gs) F m st fz s) (rv:RV w.params la fz v xv) (rl:RV w.params la fz lo xlo) (rh:RV w.params la fz hi xhi)
   (hm:(a,({cls:= .type "slice",data:= .fields #[xlo,xhi,.none]}:Obj))∈fz) (h:qT v lo hi st K) (P:a8 w (JL w.params la ex gs) F m fz K Q) :
   wpAny (model ae w) A (subscriptTail value (.Slice l u none p) xv (.ref a)) Q E s:=by
 obtain⟨lo',e1,h⟩:=ac h
 obtain⟨hi',e2,h⟩:=ac h
 have h':(match eI v with|some xs=>xs.length<=1000000/\∃a b:Nat,sliceBounds lo' hi' none xs.length=((a:Int),(b:Int),1)/\K (.lst (wQ xs a b)) st|none=>opt (strO v) fun x=>ar x<=1000000/\K (.str (Txt.slice x lo' hi')) st):=h
 rcases hv:eI v with qq|xs
 ·
   rw[hv] at h'
   obtain⟨x,hx,hz,hK⟩:=ac h'
   obtain⟨t,rfl⟩:=rv.strO hx
   obtain⟨l1,rfl,rfl⟩:=uh (gI e1 rl)
   obtain⟨l2,rfl,rfl⟩:=uh (gI e2 rh)
   exact oE (ops:=[.ref a,.str x t]) (typeIs_str _ _ _) PySem.F.slot_str_getitem.lookup (wpAny_getItem_str_slice (l:=l1) (u:=l2) (st:=none) ⟨_,R.get hm,rfl,rfl⟩ rfl (post_val_or_str ⟨WZ (Txt.slice_le x _ _) (WZ (W9 (bo x)) (WZ hz (by decide))),fun t' k=>P _ _ _ _ _ hK (fun qq h=>h) (R.toks _) (.str _ _)⟩)) rfl
 ·
   rw[hv] at h'
   obtain⟨hz,i,j,hb,hK⟩:=h'
   rw[cH hv] at rv
   obtain⟨b,vs,rfl,r,hl⟩:=bQ FO R rv
   refine oE (ops:=[.ref a,.ref b]) hl.typeIs PySem.slot_list_getitem.lookup (wpAny_getItem_list_slice hl ⟨_,R.get hm,rfl,rfl⟩ (gI e1 rl) (gI e2 rh) .none nofun ?_ (WZ (W9 ((XO:vs.toArray.size=_).trans r.length)) (WZ hz (by decide)))) rfl
   exact P _ _ _ {s with heap:=s.heap.push _} _ hK (fun p hp=> .tail _ hp) (R.alloc fO rfl s.toks) (.lst (n:=0) (vs:=(slicePick vs.toArray lo' hi' none).toList) (.head _) ((r.cut hb).mono fun p hp=> .tail _ hp))
theorem sG{v:V} (hv:strO v=some x) (rv:RV P la fz v xv) (ru:RV P la fz u xu) (h:opt (strO u) fun y=>ar x+ar y<=100000/\K (.str (aQ x y)) st):∃y t t',xv= .str x t/\xu= .str y t'/\ar x+ar y<=100000/\K (.str (aQ x y)) st:=by
 obtain⟨y,hy,h1,h2⟩:=ac h
 obtain⟨t,e⟩:=rv.strO hv
 obtain⟨t',e'⟩:=ru.strO hy
 exact⟨y,t,t',e,e',h1,h2⟩
theorem gG{v:V}{G:Int->Int->Prop} (rv:RV P la fz v xv) (ru:RV P la fz u xu) (h:opt (intO v) fun a=>opt (intO u) fun b=>G a b):∃a b t t',xv= .int a t/\xu= .int b t'/\G a b:=by
 obtain⟨a,ha,h⟩:=ac h
 obtain⟨b,hb,h⟩:=ac h
 obtain⟨t,e⟩:=rv.intO ha
 obtain⟨t',e'⟩:=ru.intO hb
 exact⟨a,b,t,t',e,e',h⟩
theorem AA(FO:aa w F) {v:V} (R:RS w (JL w.params la ex gs) F m st fz s) (rv:RV w.params la fz v xv) (ru:RV w.params la fz u xu) (h:Hp v u st K) (P:a8 w (JL w.params la ex gs) F m fz K Q) :
   wpAny (model ae w) A (binaryOp .Add xv xu) Q E s:=by
 unfold Hp at h
 rcases hs:strO v with qq|x
 ·
   rw[hs] at h
   rcases hi:intO v with qq|a
   ·
     rw[hi] at h
     refine(R.door fO) _ ?_;rintro news hsub N k0 k1
     have fin:∀{h':Heap}{o:Obj}{V':V},K V' st->Fr F.Up F.L h' m->News F.Up F.L h' ((s.heap.objs.size,o)::news)->RV w.params la ((s.heap.objs.size,o)::fz) V' (.ref s.heap.objs.size)->Q (.ref s.heap.objs.size) {s with heap:=h'}:=fun {h' o V'} hK F' N' r =>
       P _ _ _ {s with heap:=h'} _ hK (fun p hp=> .tail _ hp) (k1 s.heap.objs.size _ {s with heap:=h'} m (Xl _) F' N' rfl rfl rfl) r
     cases hl:eI v with
     |some xs =>
       rw[hl] at h
       obtain⟨ys,hy,hz,hK⟩:=ac h
       rw[cH hl] at rv
       rw[cH hy] at ru
       obtain⟨a,vs,rfl,r1,h1⟩:=bQ FO R rv
       obtain⟨b,us,rfl,r2,h2⟩:=bQ FO R ru
       exact add_lists R.fr N h1 h2 (fun h' F' N'=>fin hK F' N' (.lst (n:=0) (.head _) ((r1.append r2).mono fun p hp=> .tail _ hp))) (WZ (W9 (congr (congrArg (. + ·) r1.length) r2.length)) (WZ hz (by decide)))
     |none =>
       rw[hl] at h
       obtain⟨xs,hx,h⟩:=ac h
       obtain⟨ys,hy,hne,hz,hK⟩:=ac h
       rw[iD hx] at rv
       rw[iD hy] at ru
       obtain⟨a,vs,rfl,r1,h1⟩:=gB R rv
       obtain⟨b,us,rfl,r2,h2⟩:=gB R ru
       have ne:∀{l:List V}{q:List WY},l.isEmpty=false->aL w.params la fz l q->q≠[]:=fun he r e=>by
         cases List.eq_nil_of_length_eq_zero (r.length.symm.trans (congrArg List.length e));cases he
       exact add_tuples R.fr N h1 h2 (fun e=>absurd e (ne hne.1 r1)) (fun qq e=>absurd e (ne hne.2 r2)) (fun qq qq h' F' N'=>fin hK F' N' (.tup (n:=0) (.head _) ((r1.append r2).mono fun p hp=> .tail _ hp))) (WZ (W9 (congr (congrArg (. + ·) r1.length) r2.length)) (WZ hz (by decide)))
   ·
     rw[hi] at h
     obtain⟨t,rfl⟩:=rv.intO hi
     obtain⟨b,hb,hK⟩:=ac h
     obtain⟨t',rfl⟩:=ru.intO hb
     exact PyProof.Rows.add_int (P _ _ _ _ _ hK (fun qq h=>h) (R.toks _) (.int _ _))
 ·
   rw[hs] at h
   obtain⟨y,t,t',rfl,rfl,hz,hK⟩:=sG hs rv ru h
   refine PyProof.Rows.add_str (fun t' tk=>?_) (eU hz)
   rw[iA]
   exact P _ _ _ _ _ hK (fun qq h=>h) (R.toks _) (.str _ _)
theorem Df(FO:aa w F) {op:Operator}{v:V} (R:RS w (JL w.params la ex gs) F m st fz s) (rv:RV w.params la fz v xv) (ru:RV w.params la fz u xu) (h:Nc op v u st K) (P:a8 w (JL w.params la ex gs) F m fz K Q) :
   wpAny (model ae w) A (binaryOp op xv xu) Q E s:=by
 cases op with
 |Add=>exact AA FO R rv ru h P
 |Sub =>
   obtain⟨a,b,t,t',rfl,rfl,hK⟩:=gG rv ru h
   exact PyProof.Rows.sub_int (P _ _ _ _ _ hK (fun qq h=>h) (R.toks _) (.int _ _))
 |Mult =>
   have h:FT v u st K:=h
   unfold FT at h
   rcases hi:intO v with qq|a
   ·
     rw[hi] at h
     obtain⟨x,hx,h⟩:=ac h
     obtain⟨b,hb,h0,hK⟩:=ac h
     obtain⟨t,rfl⟩:=rv.strO hx
     obtain⟨t',rfl⟩:=ru.intO hb
     exact SB.mul h0 fun t' k=>P _ _ _ _ _ hK (fun qq h=>h) (R.toks _) (.str _ _)
   ·
     rw[hi] at h
     obtain⟨t,rfl⟩:=rv.intO hi
     obtain⟨b,hb,h0,hK⟩:=ac h
     obtain⟨t',rfl⟩:=ru.intO hb
     exact PyProof.Rows.mul_int (P _ _ _ _ _ hK (fun qq h=>h) (R.toks _) (.int _ _)) h0
 |FloorDiv =>
   obtain⟨a,b,t,t',rfl,rfl,h0,hK⟩:=gG rv ru h
   exact PyProof.Rows.floordiv_int h0.1 (P _ _ _ _ _ hK (fun qq h=>h) (R.toks _) (.int _ _)) (.inl (PyProof.noPylong_small h0.2))
 |Mod =>
   obtain⟨a,b,t,t',rfl,rfl,h0,hK⟩:=gG rv ru h
   exact PyProof.Rows.mod_int h0 (P _ _ _ _ _ hK (fun qq h=>h) (R.toks _) (.int _ _))
 |_=>exact h.elim
theorem Bc{op:Operator}{v:V} (R:RS w (JL w.params la ex gs) F m st fz s) (rv:RV w.params la fz v xv) (ru:RV w.params la fz u xu) (h:NM op v u st K) (P:a8 w (JL w.params la ex gs) F m fz K Q) :
   wpAny (model ae w) A (inplaceOp op xv xu) Q E s:=by
 obtain⟨rfl,h⟩:=h
 rcases hs:strO v with qq|x
 ·
   rw[hs] at h
   obtain⟨a,b,t,t',rfl,rfl,hK⟩:=gG rv ru h
   exact PyProof.Rows.iadd_int (P _ _ _ _ _ hK (fun qq h=>h) (R.toks _) (.int _ _))
 ·
   rw[hs] at h
   obtain⟨y,t,t',rfl,rfl,hz,hK⟩:=sG hs rv ru h
   refine PyProof.Rows.iadd_str (fun t' tk=>?_) (eU hz)
   rw[iA]
   exact P _ _ _ _ _ hK (fun qq h=>h) (R.toks _) (.str _ _)
theorem B2{v:V}{G:Str->Str->Prop} (rv:RV P la fz v xv) (ru:RV P la fz u xu) (h:opt (strO v) fun a=>opt (strO u) fun b=>G a b):∃a b t t',xv= .str a t/\xu= .str b t'/\G a b:=by
 obtain⟨a,ha,h⟩:=ac h
 obtain⟨b,hb,h⟩:=ac h
 obtain⟨t,e⟩:=rv.strO ha
 obtain⟨t',e'⟩:=ru.strO hb
 exact⟨a,b,t,t',e,e',h⟩
theorem AY(FO:aa w F) {op:CmpOp}{v:V} (R:RS w (JL w.params la ex gs) F m st fz s) (rv:RV w.params la fz v xv) (ru:RV w.params la fz u xu) (h:Lo op v u st K) (P:a8 w (JL w.params la ex gs) F m fz K Q) :
   wpAny (model ae w) A (compareOp op xv xu) Q E s:=by
 have fin:∀{b:Bool},K (.bool b) st->Q (.bool b) s:=fun hK=>P _ _ _ _ _ hK (fun qq h=>h) R (.bool _)
 cases op with
 |Eq =>
   have h':(match strO v with|some x=>opt (strO u) fun y=>K (.bool (bU x y)) st|none=>opt (intO v) fun a=>opt (intO u) fun b=>K (.bool (a == b)) st):=h
   rcases hs:strO v with qq|x
   ·
     rw[hs] at h'
     obtain⟨a,b,t,t',rfl,rfl,hK⟩:=gG rv ru h'
     exact PyProof.Rows.eq_int (fin hK)
   ·
     rw[hs] at h'
     obtain⟨t,rfl⟩:=rv.strO hs
     obtain⟨y,hy,hK⟩:=ac h'
     obtain⟨t',rfl⟩:=ru.strO hy
     exact PyProof.Rows.eq_str ((gY x y).symm▸fin hK)
 |NotEq =>
   obtain⟨x,y,t,t',rfl,rfl,hK⟩:=B2 rv ru h
   refine PyProof.Rows.ne_str ?_
   show Q (.bool (!(x == y))) s
   exact(gY x y).symm▸fin hK
 |Lt =>
   obtain⟨a,b,t,t',rfl,rfl,hK⟩:=gG rv ru h
   exact PyProof.Rows.lt_int (fin hK)
 |In =>
   obtain⟨x,hx,h⟩:=ac h
   obtain⟨ys,hy,l,e,hK⟩:=ac h
   obtain⟨t,rfl⟩:=rv.strO hx
   rw[cH hy,e] at ru
   obtain⟨a,vs,rfl,r,hl⟩:=bQ FO R ru
   exact in_list_strs hl r.strs (fin hK)
 |Is =>
   obtain⟨qq,hx,h⟩:=ac h
   obtain⟨qq,hy,hK⟩:=ac h
   obtain rfl:=dL hx;obtain rfl:=dL hy;obtain rfl:=rv.view;obtain rfl:=ru.view
   exact is_none (fin hK)
 |_=>exact h.elim
end
end
section
section
variable {own:aG}
noncomputable def Ul(w:Xj) (la:LA) (ex:ad) (gs:Array Xf) (F:Fm) (own:aG) (fz:ad) (s:W2):Prop:=∀qC:Prop,(∀(mo:ad),fC w.params la fz own mo->News F.Up F.L s.heap (mo++ex++fz)->((mo++ex++fz).map (·.1)).Nodup->qC)->qC
theorem RS.jl_open(R:RS w (JL w.params la ex gs) F m own fz s):Ul w la ex gs F own fz s:=R.led.elim fun qq h=>h.1 _ fun mo qq e hc=>(fun qq qk=>qk mo hc (e▸h.2.1) (e▸h.2.2))
theorem RS.jl_gs(R:RS w (JL w.params la ex gs) F m own fz s):s.gens=gs:=R.led.elim fun qq h=>h.1 _ fun qq e qq qq=>e
theorem RS.jl_mk{ex':ad}{own':aG} (R:RS w (JL w.params la ex gs) F m own fz s) {mo:ad} (hc:fC w.params la fz' own' mo) (N:News F.Up F.L s'.heap (mo++ex'++fz')) (nd:((mo++ex'++fz').map (·.1)).Nodup) (hg:s'.gens=s.gens)
   (F':Fr F.Up F.L s'.heap m') (ho:s'.os=s.os) (hd:s'.drawn=s.drawn):RS w (JL w.params la ex' gs) F m' own' fz' s' :=
 ⟨F',⟨mo++ex',(fun qq qk=>qk mo (hg.trans R.jl_gs) rfl hc),N,nd⟩,ho.trans R.os,hd.trans R.dr,R.lo⟩
theorem RS.jl_alloc(R:RS w (JL w.params la ex gs) F m own fz s) (hf:o.isFreed=false) (t:Nat):RS w (JL w.params la ((s.heap.objs.size,o)::ex) gs) F m own fz {s with heap:=s.heap.push o,toks:=t}:=by
 refine R.jl_open _ ?_;rintro mo hc N nd
 exact R.jl_mk hc (fun p hp=>N.push R.fr o hf p (jA.mem_iff.mp hp)) ((jA.map (·.1)).nodup_iff.mpr (XD.mpr ⟨dG fun p hp=>XQ (N p hp).1,nd⟩)) rfl (R.fr.push o) rfl rfl
noncomputable def T8(w:Xj) (la:LA) (a:W3) (o:Obj) (ex:ad) (gs:Array Xf) (F:Fm) (own:aG) (fz:ad) (s:W2):Prop:=∀qC:Prop,(∀(pre post:ad),News F.Up F.L s.heap (pre++(a,o)::post)->((pre++(a,o)::post).map (·.1)).Nodup->(∀p∈fz,p∈post) ->
   (∀o' s' m',News F.Up F.L s'.heap (pre++(a,o')::post)->Fr F.Up F.L s'.heap m'->s'.gens=s.gens->s'.os=s.os->s'.drawn=s.drawn->RS w (JL w.params la ((a,o')::ex) gs) F m' own fz s') ->
   (∀s' m',News F.Up F.L s'.heap (pre++post)->Fr F.Up F.L s'.heap m'->s'.gens=s.gens->s'.os=s.os->s'.drawn=s.drawn->RS w (JL w.params la ex gs) F m' own fz s')->qC)->qC
theorem zQ{a b c:List α}{x:α}:a++x::b++c=a++x::(b++c):=Xo a (x::b) c
theorem RS.jl_cell(R:RS w (JL w.params la ((a,o)::ex) gs) F m own fz s):T8 w la a o ex gs F own fz s:=by
 refine R.jl_open _ ?_;rintro mo hc N nd
 rw[zQ] at N nd
 exact(fun qq qk=>qk mo (ex++fz) N nd (fun p hp=>W4 _ hp) (fun o' s' m' N' F' hg ho hd=>R.jl_mk hc (zQ.symm▸N') (zQ.symm▸eT nd) hg F' ho hd) (fun s' m' N' F' hg ho hd=>R.jl_mk hc ((Xo mo ex fz).symm▸N') ((Xo mo ex fz).symm▸(((List.Sublist.refl mo).append (List.sublist_cons_self _ _)).map (·.1)).nodup nd) hg F' ho hd))
theorem RS.jl_set{o':Obj} (R:RS w (JL w.params la ((a,o)::ex) gs) F m own fz s) {t:Nat} (hx:Heap.ExtBut a s.heap h') (ho:h'.get? a=some o'):RS w (JL w.params la ((a,o')::ex) gs) F m own fz {s with heap:=h',toks:=t}:=by
 refine R.jl_cell _ ?_;rintro pre post N nd qq b qq
 exact b o' _ m (News.turn N nd hx ho) (Fr.turn R.fr N hx) rfl rfl rfl
theorem RS.jl_lose(R:RS w (JL w.params la ((a,o)::ex) gs) F m own fz s) {t:Nat} (hx:Heap.ExtBut a s.heap h'):RS w (JL w.params la ex gs) F m own fz {s with heap:=h',toks:=t}:=by
 refine R.jl_cell _ ?_;rintro pre post N nd qq qq b
 exact b _ m (News.lose N nd hx) (Fr.turn R.fr N hx) rfl rfl rfl
theorem RS.jl_drop{p:W3×Obj} (R:RS w (JL w.params la (p::ex) gs) F m own fz s):RS w (JL w.params la ex gs) F m own fz s:=by
 refine(RS.jl_cell (a:=p.1) (o:=p.2) R) _ ?_;rintro pre post N nd qq qq b
 exact b s m (fun p hp=>N p (cJ hp)) R.fr rfl rfl rfl
theorem RS.jl_get(R:RS w (JL w.params la ((a,o)::ex) gs) F m own fz s):s.heap.get? a=some o/\a≠F.L/\∀p∈fz,p.1≠a:=by
 refine R.jl_cell _ ?_;rintro pre post N nd hm qq qq
 have:=N (a,o) aD
 exact⟨this.1,this.2.1,fun p hp=>bv nd p (W4 _ (hm p hp))⟩
theorem RS.own_new(R:RS w (JL w.params la ex gs) F m own fz s) (t:Nat):RS w (JL w.params la ex gs) F m ((s.heap.objs.size,[])::own) fz {s with heap:=s.heap.push (W0 #[] 0),toks:=t}:=by
 refine R.jl_open _ ?_;rintro mo hc N nd
 exact R.jl_mk (s':={s with heap:=s.heap.push (W0 #[] 0),toks:=t}) (mo:=(s.heap.objs.size,W0 (X5 []) 0)::mo) (.cons .nil hc) (N.push R.fr (W0 #[] 0) rfl) (XD.mpr ⟨dG fun p hp=>XQ (N p hp).1,nd⟩) rfl (R.fr.push _) rfl rfl
noncomputable def TU(w:Xj) (la:LA) (ex:ad) (gs:Array Xf) (F:Fm) (m:Str->Option WY) (own:aG) (fz:ad) (s:W2):Prop:=∀qC:Prop,(∀(news:ad),News F.Up F.L s.heap news->(∀a xs vs nn s',s.heap.objs.size<=a->aL w.params la fz xs vs->Fr F.Up F.L s'.heap m->News F.Up F.L s'.heap ((a,W0 (X5 vs) nn)::news)->s'.gens=s.gens->s'.os=s.os->s'.drawn=s.drawn ->
   RS w (JL w.params la ex gs) F m ((a,xs)::own) fz s')->qC)->qC
theorem RS.own_put(R:RS w (JL w.params la ex gs) F m own fz s):TU w la ex gs F m own fz s:=by
 refine R.jl_open _ ?_;rintro mo hc N nd
 exact(fun qq qk=>qk (mo++ex++fz) N (fun a xs vs nn s' ha r F' N' hg ho hd=>R.jl_mk (mo:=(a,W0 (X5 vs) nn)::mo) (.cons (n:=nn) r hc) N' (XD.mpr ⟨dG fun p hp=>XT (XQ (N p hp).1) ha,nd⟩) hg F' ho hd))
theorem Fd{m1 m2:ad}{x:W3×Obj}:m1++x::m2++ex++fz=m1++x::(m2++ex++fz):=(congrArg (. ++fz) zQ).trans zQ
theorem RS.own_append{pre post:aG} (R:RS w (JL w.params la ex gs) F m (pre++(a,xs)::post) fz s) {x:V} (rv:RV w.params la fz x v) (hz:xs.length<=1000000)
   (h:∀s',RS w (JL w.params la ex gs) F m (pre++(a,xs++[x])::post) fz s'->Q .none s'):wpAny (model ae w) A (call (.builtin "list.append") [.ref a,v] []) Q E s:=by
 refine R.jl_open _ ?_;rintro mo hc N nd
 obtain⟨m1,vs,n,m2,r,k,qq⟩:=hc.split
 rw[Fd] at N nd
 refine append_K R.fr N (fe nd) (fun h' F' N'=>h _ (R.jl_mk (k _ (vs++[v]) (n+1) (r.append (.cons rv .nil))) ?_ (Fd.symm▸eT nd) rfl F' rfl rfl)) (WZ (W9 ((XO:vs.toArray.size=_).trans r.length)) (WZ hz (by decide)))
 rw[Fd]
 exact(congrArg (fun l=>W0 l (n+1)) (List.push_toArray vs v))▸N'
theorem RS.own_get{pre post:aG} (R:RS w (JL w.params la ex gs) F m (pre++(a,xs)::post) fz s):∃news its nn,News F.Up F.L s.heap news/\(a,W0 its nn)∈news:=by
 refine R.jl_open _ ?_;rintro mo hc N nd
 obtain⟨m1,vs,n,m2,r,k,qq⟩:=hc.split
 exact⟨_,vs.toArray,n,N,W7 _ (W7 _ aD)⟩
noncomputable def T4(w:Xj) (la:LA) (ex:ad) (gs:Array Xf) (F:Fm) (m:Str->Option WY) (own:aG) (fz:ad) (s:W2) (xs:List V) (a:W3):Prop:=∀qC:Prop,(∀(fz':ad),(∀p∈fz,p∈fz')->RV w.params la fz' (.lst xs) (.ref a)->RS w (JL w.params la ex gs) F m own fz' s->qC)->qC
theorem wG{m1 m2:ad}{x:W3×Obj}:(m1++m2++ex++x::fz).Perm (m1++x::m2++ex++fz) :=
 XF.trans (((XF (l₁:=m1) (l₂:=m2)).append_right ex).append_right fz).symm
theorem RS.own_freeze{pre post:aG} (R:RS w (JL w.params la ex gs) F m (pre++(a,xs)::post) fz s):T4 w la ex gs F m (pre++post) fz s xs a:=by
 refine R.jl_open _ ?_;rintro mo hc N nd
 obtain⟨m1,vs,n,m2,r,qq,k⟩:=hc.split
 have sub:∀p∈fz,p∈(a,W0 (X5 vs) n)::fz:=fun p hp=> .tail _ hp
 exact(fun qq qk=>qk ((a,W0 (X5 vs) n)::fz) sub (.lst (.head _) (r.mono sub)) (R.jl_mk (k.mono sub) (fun p hp=>N p (wG.mem_iff.mp hp)) ((wG.map (·.1)).nodup_iff.mpr nd) rfl R.fr rfl rfl))
theorem IU{v:V} (h:iP i=some (x,v)):fU w la x v :=
 a6 (M:=fun qq p=>fU w la p.1 p.2) (b:=(x,v)) h
   ⟨⟨_,fun qq=> .raw _,.inr ⟨G5 _,by decide +kernel,Nm⟩⟩,⟨_,fun qq=> .raw _,.inr ⟨E2 _,by decide +kernel,Le⟩⟩,⟨_,fun qq=>nK (Ft _),.inl (Oi _)⟩,⟨_,fun qq=>nK (F8 _),.inl (Li _)⟩,⟨_,fun qq=>nK (F6 _),.inl (Lb _)⟩,⟨_,fun qq=> .raw _,.inl (Nf _)⟩,⟨_,fun qq=> .raw _,.inl (JZ _)⟩,⟨_,fun qq=> .raw _,.inl (NQ _)⟩,trivial⟩
theorem jX{c:lH} (hc:oZ w la ex gs n c):aI w (JL w.params la ex gs) (eP c) n where
 jok:=fO
 glob i x v h:=IU h
 attr F m st fz s v xv a K Q E FO LV R rv h P:=h.elim
 meth F m st fz s v xv a f pl Q E FO LV R rv h hq:=by
   obtain⟨x,hx,h⟩:=aC h
   obtain⟨t,rfl⟩:=rv.strO hx
   refine a6 (M:=fun a f=>Q (f,[.str x t]) s->wpAny (model ae w) F.A (getMethod (.str x t) (AN a) pl) Q E s) h ⟨fun hq=>?_,fun hq=>?_,fun hq=>?_,trivial⟩ (hq _ R)
   . change wpAny _ _ (getMethod (.str _ _) "split" pl) Q E s
     with_reducible exact dX PySem.F.slot_str_split PySem.F.type_str_split hq
   . change wpAny _ _ (getMethod (.str _ _) "join" pl) Q E s
     with_reducible exact dX PySem.F.slot_str_join PySem.F.type_str_join hq
   . change wpAny _ _ (getMethod (.str _ _) "find" pl) Q E s
     with_reducible exact dX PySem.F.slot_str_find PySem.F.type_str_find hq
 methK v a f h hh X:=by
   obtain⟨x,hx,h⟩:=aC h
   exact a6 (M:=fun qq f=>kl w f hh) h ⟨aB _ _ _,aB _ _ _,aB _ _ _,trivial⟩
 keep F m st fz s v xv FO R rv h:=by
   obtain⟨g,hg,h⟩:=nt h
   obtain rfl:=fx hg;obtain rfl:=rv.view
   cases xv with
   |builtin b=>exact aB _ _ _
   |ref a =>
     have X:=FO.G.X.keeps R.fr.keep
     exact(Bool.or_eq_true_iff.mp h).elim (fun h=>X2 h▸keeps_K (J3 _) _ X) fun h=>(Bool.or_eq_true_iff.mp h).elim (fun h=>X2 h▸keeps_K (Mx _) _ X) fun h=>X2 h▸keeps_K (Nk _) _ X
   |_=>exact ly h
 call F m st fz s f xf vs xs kw xk K X Q E FO LV R rf rvs rk h P PE:=(ac h).elim fun g hg=>by
   obtain rfl:=fx hg.1
   obtain rfl:=rf.view
   exact hc.ok _ _ _ _ _ _ _ _ _ _ _ _ _ _ FO LV R rvs rk hg.2 P PE
 truth F m st fz s v xv K Q E FO LV R rv h P:=by
   have h':(match lb v with|some b=>K b st|none=>opt (eI v) fun xs=>xs.length<=1000000/\K (!xs.isEmpty) st):=h
   rcases hb:lb v with qq|b
   ·
     rw[hb] at h'
     obtain⟨xs,hx,hz,hK⟩:=ac h'
     rw[cH hx] at rv
     obtain⟨a,vs,rfl,r,hl⟩:=bQ FO R rv
     refine wpAny_truthy_list hl (eQ (WZ (W9 ((XO:vs.toArray.size=_).trans r.length)) hz)) ?_
     have e:vs.toArray.isEmpty=xs.isEmpty:=(List.isEmpty_toArray (l:=vs)).trans (r.ind (M:=fun xs vs=>vs.isEmpty=xs.isEmpty) rfl fun qq qq qq=>rfl)
     rw[e]
     exact P _ _ _ _ hK (fun qq h=>h) (R.toks _)
   ·
     rw[hb] at h'
     obtain rfl:=lh hb;obtain rfl:=rv.view
     exact wpAny_truthy_bool (P _ _ _ _ h' (fun qq h=>h) R)
 bin F m st fz s op v xv u xu K Q E FO LV R rv ru h P:=Df FO R rv ru h P
 iop F m st fz s op v xv u xu K Q E FO LV R rv ru h P:=Bc R rv ru h P
 cmp F m st fz s op v xv u xu K Q E FO LV R rv ru h P:=AY FO R rv ru h P
 sub F m st fz s v xv i xi value slice K X Q E FO LV R rv ri hs h P PE:=Db FO R rv ri hs h P
 slc F m st fz s v xv lo xlo hi xhi value l u p a K Q E FO LV R rv rl rh hm h P:=Bh FO R rv rl rh hm h P
 lst F m st fz s vs xs K Q E FO LV R rvs h P:=by
   rcases vs with qq|⟨v,vs⟩
   ·
     obtain rfl:=rvs.nil_eq
     exact wpAny_newList (P _ _ _ _ _ ((show ∀a,K (.raw (.ref a)) ((a,[])::st) from h) _) (fun qq h=>h) (R.own_new s.toks) (.raw _)) (by decide)
   ·
     have h:vs.length<=1000/\K (.lst (v::vs)) st:=h
     exact wpAny_newList (P _ _ _ _ _ h.2 (fun p hp=>List.mem_cons_of_mem _ hp) (R.alloc fO rfl s.toks) (.lst (n:=0) (.head _) (rvs.mono fun p hp=>List.mem_cons_of_mem _ hp))) (WZ (W9 rvs.length) (WZ (XX h.1) (by decide)))
end
end
section
structure LX where
 w:Xj
 la:LA
 gs:Array Xf
 F:Fm
 ns:List Str
structure bK(C:LX) (c:lH) (n:Nat):Prop where
 FO:aa C.w C.F
 LV:aU C.F.A n
 hc:∀ex,oZ C.w C.la ex C.gs n c
 hn:C.ns.Nodup
noncomputable abbrev nB:bE->aG->Prop:=fun qq qq=>False
noncomputable abbrev KS:=Fl->List (Option V)->aG->Prop
noncomputable abbrev LX.J(C:LX) (ex:ad):cu aG:=JL C.w.params C.la ex C.gs
section
variable (C:LX)
noncomputable def Oc(ex:ad) (e:Stmt) (ρ:List (Option V)) (own:aG) (K:KS):Prop :=
 ∀m fz s Q E,RS C.w (C.J ex) C.F m own fz s->Lc C.w.params C.la C.ns ρ m fz->fP C.w (C.J ex) C.F C.ns fz K Q->PassesOwn (model ae C.w) C.F.A C.F.env E->wpAny (model ae C.w) C.F.A (exec e C.F.env) Q E s
noncomputable def Sa(ex:ad) (e:List Stmt) (ρ:List (Option V)) (own:aG) (K:KS):Prop :=
 ∀m fz s Q E,RS C.w (C.J ex) C.F m own fz s->Lc C.w.params C.la C.ns ρ m fz->fP C.w (C.J ex) C.F C.ns fz K Q->PassesOwn (model ae C.w) C.F.A C.F.env E->wpAny (model ae C.w) C.F.A (execs e C.F.env) Q E s
end
noncomputable def gM:List Str:=["script", "numbers", "total", "old", "options", "atoms", "place", "n", "written", "kind", "val", "cut", "broken", "parts", "lines", "done", "due", "space", "first", "run", "last", "refused", "row", "column", "bare", "source", "got", "t", "error"]
theorem Tz:gM.Nodup:=by decide +kernel
inductive B6 where
 |nm (i:Nat)|tp (is:List Nat)
noncomputable def uk:List Nat->List V->List (Option V)->List (Option V)
 |i::is,v::vs,ρ=>uk is vs (cU ρ i v)
 |_,_,ρ=>ρ
noncomputable def setT:B6->List (Option V)->V->Option (List (Option V))
 |.nm i,ρ,v=>some (cU ρ i v)
 |.tp is,ρ,v=>(uY v).bind fun vs=>match Nat.beq is.length vs.length with|true=>some (uk is vs ρ)|false=>none
noncomputable def qb(ns:List Str):List Nat->List W5->List W5
 |[],_=>[]
 |i::is,es=> .Name (mh ns i) (aj (sC es))::qb ns is es.tail
noncomputable def n6(ns:List Str):B6->W5->W5
 |.nm i,e=> .Name (mh ns i) (aj e)
 |.tp is,e=> .Tuple (qb ns is (ou e).1) (dw e) (aj e)
noncomputable def CB(sc:Scope) (ns:List Str):List Nat->Bool
 |[]=>true
 |i::is=>cT sc ns i&&CB sc ns is
noncomputable def uH(sc:Scope) (ns:List Str):B6->Bool
 |.nm i=>cT sc ns i
 |.tp is=>!is.isEmpty&&CB sc ns is
mutual
inductive U where
 |ir (t:T)|app (i:Nat) (x:X)|asg (is:List Nat) (x:X)|forT (t:B6) (x:X) (b:Us)|enum (i0 i1 i2:Nat) (b:Us)|ite (x:X) (a b:Us)
inductive Us where
 |nil|cons (u:U) (us:Us)|bare (is:List Nat) (x:X) (us:Us)
end
section
variable (sc:Scope) (ns:List Str)
noncomputable def yp(is:List Nat) (x:X) (e:Stmt):Stmt:= .Assign [n6 ns (.tp is) (eJ e)] (ce iP ns x (bj e)) (ci e)
noncomputable def FX(e:Stmt):Stmt:= .Assign [.Name (mh ns 24) (aj (eJ e))] (.Call (.Attribute (.Name (mh ns 8) (aj (ao (ao (bj e))))) "replace" (aj (ao (bj e)))) [.Constant (.str "\\\n") (dw (aN (bj e))) (aj (aN (bj e))),.Constant (.str "") (dw (pK (bj e))) (aj (pK (bj e)))] [] (aj (bj e))) (ci e)
mutual
noncomputable def QK:U->Stmt->Stmt
 |.ir t,e=>Pe iP ns t e
 |.app i x,e=> .Expr (.Call (.Attribute (.Name (mh ns i) (aj (ao (ao (bj e))))) "append" (aj (ao (bj e)))) [ce iP ns x (aN (bj e))] [] (aj (bj e))) (ci e)
 |.asg is x,e=>yp ns is x e
 |.forT t x b,e=> .For (n6 ns t (eJ e)) (ce iP ns x (bj e)) (j0 b (eO e).2.1) [] (ci e)
 |.enum i0 i1 i2 b,e=> .For (n6 ns (.tp [i1,i2]) (eJ e)) (.Call (.Name "enumerate" (aj (ao (bj e)))) [.Name (mh ns i0) (aj (aN (bj e)))] [] (aj (bj e))) (j0 b (eO e).2.1) [] (ci e)
 |.ite x a b,e=> .If (ce iP ns x (bj e)) (j0 a (eO e).2.1) (j0 b (eO e).2.2.1) (ci e)
noncomputable def j0:Us->List Stmt->List Stmt
 |.nil,_=>[]
 |.cons u us,es=>QK u (cP es)::j0 us es.tail
 |.bare is x us,es=>yp ns is x (cP es)::FX ns (cP es.tail)::j0 us es.tail.tail
end
noncomputable def Ky(k:Nat):X->Bool
 |.tup _=>Nat.blt 3 k
 |_=>true
noncomputable def Af(is:List Nat) (x:X) (e:Stmt):Bool:=uH sc ns (.tp is)&&(Ky is.length x&&d7 iP sc ns x (bj e))
noncomputable def FB(e:Stmt):Bool:=(cT sc ns 24&&cT sc ns 8)&&Nat.beq (aj (ao (bj e))).endLine (aj (bj e)).line
mutual
noncomputable def RI:U->Stmt->Bool
 |.ir t,e=>O5 iP sc ns t e
 |.app i x,e=>cT sc ns i&&(Nat.beq (aj (ao (bj e))).endLine (aj (bj e)).line&&d7 iP sc ns x (aN (bj e)))
 |.asg is x,e=>Af sc ns is x e
 |.forT t x b,e=>uH sc ns t&&(d7 iP sc ns x (bj e)&&kH b (eO e).2.1)
 |.enum i0 i1 i2 b,e=>uH sc ns (.tp [i1,i2])&&((bO sc "enumerate" && cT sc ns i0)&&kH b (eO e).2.1)
 |.ite x a b,e=>d7 iP sc ns x (bj e)&&(kH a (eO e).2.1&&kH b (eO e).2.2.1)
noncomputable def kH:Us->List Stmt->Bool
 |.nil,_=>true
 |.cons u us,es=>RI u (cP es)&&kH us es.tail
 |.bare is x us,es=>Af sc ns is x (cP es)&&(FB sc ns (cP es.tail)&&kH us es.tail.tail)
end
structure lR(u:U) (e:Stmt):Prop where
 eq:e=QK ns u e
 ok:RI sc ns u e=true
structure mK(u:Us) (e:List Stmt):Prop where
 eq:e=j0 ns u e
 ok:kH sc ns u e=true
end
section
variable {C:LX}{c:lH}{own:aG}{K:KS}
theorem iZ(FO:aa C.w C.F) {Q:Unit->W2->Prop} (R:RS C.w (C.J ex) C.F m own fz s) (hx:C.F.sc.names.lookup x=some .local)
   (h:∀s',0<s'.toks->RS C.w (C.J ex) C.F (fun y=>if y=x then some v else m y) own fz s'->Q () s'):wpAny (model ae C.w) A (storeName C.F.env x v) Q E s:=by
 obtain⟨mu,hi,N,nd⟩:=R.led
 exact PySem.W.storeX_L R.fr N (fun h' F' N'=>h _ (Nat.succ_pos _) ⟨F',⟨mu,hi,N',nd⟩,R.os,R.dr,R.lo⟩) FO.kind hx
theorem Br(ns:List Str) (env:Env):∀(is:List Nat) (es:List W5),(assignEach (qb ns is es) env).length=is.length/\(assignEach (qb ns is es) env).findIdx? (·.1)=none:=by intro l0;induction l0 with
 |nil=>intro qq;exact⟨rfl,rfl⟩
 |cons i is ih =>
   intro es;have q:=ih es.tail
   have e:assignEach (qb ns (i::is) es) env=(false,fun v=>assign (.Name (mh ns i) (aj (sC es))) env v)::assignEach (qb ns is es.tail) env:=rfl
   rw[e]
   exact⟨congrArg (. +1) q.1,by rw[List.findIdx?_cons,q.2];rfl⟩
theorem pC(O:bK C c n):∀{is:List Nat}{es:List W5},CB C.F.sc C.ns is=true->∀{vs:List V}{xs:List WY}{ρ:List (Option V)}{m:Str->Option WY}{s:W2}{Q:Unit->W2->Prop},is.length=vs.length->aL C.w.params C.la fz vs xs ->
   RS C.w (C.J ex) C.F m own fz s->Lc C.w.params C.la C.ns ρ m fz->(is≠[]\/0<s.toks)->(∀m' s',0<s'.toks->RS C.w (C.J ex) C.F m' own fz s'->Lc C.w.params C.la C.ns (uk is vs ρ) m' fz->Q () s') ->
   wpAny (model ae C.w) A (assignInOrder ((assignEach (qb C.ns is es) C.F.env).map (·.2)) xs) Q E s
 |[],_,_,[],_,_,_,_,_,_,r,R,L,ht,hq=>r.nil_eq▸Xk (hq _ _ (ht.resolve_left fun q=>q rfl) R L)
 |[],_,_,_::_,_,_,_,_,_,hl,_,_,_,_,_=>absurd hl.symm (Nat.succ_ne_zero _)
 |_::_,_,_,[],_,_,_,_,_,hl,_,_,_,_,_=>absurd hl (Nat.succ_ne_zero _)
 |i::is,es,h,v::vs,xs,ρ,m,s,Q,hl,r,R,L,_,hq=>r.uncons.casesOn fun xv xs r1 r2 =>
   assignInOrder_cons (t:=fun v=>assign (.Name (mh C.ns i) (aj (sC es))) C.F.env v) (wpAny_assign_Name (iZ O.FO R (b9 (af h)).2.1 fun Un WL Uv=>pC O (es:=es.tail) (ai h) (Nat.succ.inj hl) r2 Uv (L.set O.hn (b9 (af h)).1 r1) (.inr WL) hq))
theorem yQ(O:bK C c n) (hh:A.handled=none) {t:B6}{e:W5} (hk:uH C.F.sc C.ns t=true) {v:V}{ρ':List (Option V)} (hs:setT t ρ v=some ρ') (R:RS C.w (C.J ex) C.F m own fz s) (L:Lc C.w.params C.la C.ns ρ m fz) (rv:RV C.w.params C.la fz v xv) {Q:Unit->W2->Prop}
   (hq:∀m' s',0<s'.toks->RS C.w (C.J ex) C.F m' own fz s'->Lc C.w.params C.la C.ns ρ' m' fz->Q () s'):wpAny (model ae C.w) A (assign (n6 C.ns t e) C.F.env xv) Q E s:=by
 cases t with
 |nm i =>
   cases hs
   exact wpAny_assign_Name (iZ O.FO R (b9 hk).2.1 fun Un ht Uv=>hq _ _ ht Uv (L.set O.hn (b9 hk).1 rv))
 |tp is =>
   obtain⟨vs,hv,hs⟩:=aC hs
   have hs':(match Nat.beq is.length vs.length with|true=>some (uk is vs ρ)|false=>none)=some ρ':=hs
   rcases hb:Nat.beq is.length vs.length with qq|qq
   . rw[hb] at hs';exact bN hs'
   ·
     rw[hb] at hs'
     cases hs'
     have hl:=X2 hb
     rw[iD hv] at rv
     obtain⟨a,us,rfl,r,ht⟩:=gB R rv
     refine(R.door fO) _ ?_;rintro news hsub N k0 qq
     have q:=Br C.ns C.F.env is (ou e).1
     exact unpackN_ R.fr N ht hh (q.1.trans (hl.trans (r.length.symm.trans (XO:us.toArray.size=_).symm))) q.2 fun h' F' N'=>pC O (ai hk) hl r (k0 {s with heap:=h'} m F' N' rfl rfl rfl) L (.inl fun q=>by subst q;exact XW (af (a:=false) (show(false&&CB C.F.sc C.ns [])=true from hk))) hq
end
end
variable {C:LX}
section
noncomputable def bx(w:Str):Str:=Txt.replace w "\\\n" ""
noncomputable def kq(b:Bool) (A B:Prop):Prop:=match b with|true=>A|false=>B
noncomputable def NZ(N:List (Option V)->aG->Prop) (K:KS):KS:=fun fl ρ own=>match fl with
 |.next=>N ρ own
 |.brk=>K .brk ρ own
 |.cont=>K .cont ρ own
 |.ret v=>K (.ret v) ρ own
noncomputable def KJ(N:List (Option V)->aG->Prop) (K:KS):KS:=fun fl ρ own=>match fl with
 |.next=>N ρ own
 |.cont=>N ρ own
 |.brk=>K .next ρ own
 |.ret v=>K (.ret v) ρ own
noncomputable def uK(f:List (Option V)->aG->KS->Prop) (t:B6) (K:KS):List V->List (Option V)->aG->Prop
 |[],ρ,own=>K .next ρ own
 |x::xs,ρ,own=>opt (setT t ρ x) fun ρ'=>f ρ' own (KJ (uK f t K xs) K)
noncomputable def Eu(f:List (Option V)->aG->KS->Prop) (i1 i2:Nat) (K:KS):Nat->List V->List (Option V)->aG->Prop
 |_,[],ρ,own=>K .next ρ own
 |i,x::xs,ρ,own=>f (cU (cU ρ i1 (.int i)) i2 x) own (KJ (Eu f i1 i2 K (i+1) xs) K)
noncomputable def KC(v:V):Option W3:=(lm v).bind NE
theorem Dz{v:V} (h:KC v=some a):v= .raw (.ref a):=(aC h).elim fun qq h=>(fx h.1).trans (congrArg V.raw (qY h.2))
section
variable (c:lH)
noncomputable def xK(is:List Nat) (x:X) (ρ:List (Option V)) (own:aG) (N:List (Option V)->aG->Prop):Prop:=cZ (eP c) ρ nB x own fun v own=>opt (setT (.tp is) ρ v) fun ρ=>N ρ own
noncomputable def Iy(ρ:List (Option V)) (N:List (Option V)->Prop):Prop:=opt (fS ρ 8) fun v=>opt (strO v) fun y=>ar y<=1000000/\N (cU ρ 24 (.str (bx y)))
mutual
noncomputable def wi:U->List (Option V)->aG->KS->Prop
 |.ir t,ρ,own,K=>EJ (eP c) nB t ρ own K
 |.app i x,ρ,own,K=>opt (fS ρ i) fun v=>opt (KC v) fun a=>(∃pre xs post,own=pre++(a,xs)::post)/\cZ (eP c) ρ nB x own fun v own=>∃pre xs post,own=pre++(a,xs)::post/\xs.length<=1000000/\K .next ρ (pre++(a,xs++[v])::post)
 |.asg is x,ρ,own,K=>xK c is x ρ own (K .next)
 |.forT t x b,ρ,own,K=>cZ (eP c) ρ nB x own fun v own=>opt (eI v) fun xs=>uK (aP b) t K xs ρ own
 |.enum i0 i1 i2 b,ρ,own,K=>opt (fS ρ i0) fun v=>opt (eI v) fun xs=>Eu (aP b) i1 i2 K 0 xs ρ own
 |.ite x a b,ρ,own,K=>p6 (eP c) ρ nB x own fun v own=>kq v (aP a ρ own K) (aP b ρ own K)
noncomputable def aP:Us->List (Option V)->aG->KS->Prop
 |.nil,ρ,own,K=>K .next ρ own
 |.cons u us,ρ,own,K=>wi u ρ own (NZ (fun ρ own=>aP us ρ own K) K)
 |.bare is x us,ρ,own,K=>xK c is x ρ own fun ρ own=>Iy ρ fun ρ=>aP us ρ own K
end
end
theorem p9(x:X) (e:W5) (env:Env) (v:WY):foldedSetIterable (ce iP ns x e) env v=pure v:=by
 cases x<;>rfl
theorem y1(t:W5) (x:X) (e:W5) (l:Nat) (env:Env):swapsWithSole [t] (ce iP ns x e) l env=pure false:=gZ x e (some t) l env
theorem xj:∀(is:List Nat) (es:List W5),(qb ns is es).length=is.length:=by intro l0;induction l0 with
 |nil=>intro qq;exact rfl
 |cons qq is ih=>intro es;exact congrArg (. +1) (ih es.tail)
theorem Dq{ts:List W5} (hl:ts.length=k) (h:Nat.blt 3 k=true) {tk:Tok}{p:Pos}{e:W5} (env:Env):swappedStores [.Tuple ts tk p] e env=pure none:=by
 cases e with
 |Tuple vs _ _ =>
   match ts,hl,h with
   |_::_::_::_::_,_,_=>rfl
   |[],h,q=>exact XW ((congrArg (Nat.blt 3) h).trans q)
   |[_],h,q=>exact XW ((congrArg (Nat.blt 3) h).trans q)
   |[_,_],h,q=>exact XW ((congrArg (Nat.blt 3) h).trans q)
   |[_,_,_],h,q=>exact XW ((congrArg (Nat.blt 3) h).trans q)
 |_=>rfl
theorem Ap{is:List Nat}{x:X} (h:Ky is.length x=true) (e1 e2:W5) (env:Env):swappedStores [n6 ns (.tp is) e1] (ce iP ns x e2) env=pure none:=by
 cases x with
 |tup xs=>exact Dq (xj is _) h env
 |_=>rfl
section
variable (C:LX) (c:lH)
noncomputable def UX(u:U):Prop:=∀ex e ρ own K,RI C.F.sc C.ns u e=true->wi c u ρ own K->Oc C ex (QK C.ns u e) ρ own K
noncomputable def mD(u:Us):Prop:=∀ex e ρ own K,kH C.F.sc C.ns u e=true->aP c u ρ own K->Sa C ex (j0 C.ns u e) ρ own K
end
section
variable {c:lH}{own:aG}{K:KS}
theorem lq{J:cu aG}:bz J F fz nB E:=fun qq qq qq qq qq h=>h.elim
theorem Jx(O:bK C c n) (t:T):UX C c (.ir t):=fun ex e ρ own K hc H m fz s Q E R L P HE=>(qR (jX (O.hc ex)) O.FO O.LV O.hn).1 t e m ρ own fz s K Q E hc H R L P lq HE
theorem t6(O:bK C c n) (x:X) {e:W5} (hc:d7 iP C.F.sc C.ns x e=true) {Kx:V->aG->Prop} (H:cZ (eP c) ρ nB x own Kx) (R:RS C.w (C.J ex) C.F m own fz s) (L:Lc C.w.params C.la C.ns ρ m fz) (P:a8 C.w (C.J ex) C.F m fz Kx Q):wpAny (model ae C.w) C.F.A (eval (ce iP C.ns x e) C.F.env) Q E s :=
 (dt (jX (O.hc ex)) O.FO O.LV x).e e m own fz s Kx Q E hc H R L P lq
theorem F3(O:bK C c n) (x:X) {a b:Us} (h:mD C c a) (k:mD C c b):UX C c (.ite x a b):=fun ex e ρ own K hc H m fz s Q E R L P HE =>
 wpAny_If ((dt (jX (O.hc ex)) O.FO O.LV x).t _ m own fz s _ _ E (af hc) H R L (fun v st' fz' s' hk hf R'=>by
   cases v with
   |true=>exact h ex _ ρ st' K (af (ai hc)) hk m fz' s' Q E R' (L.mono hf) (P.up hf) HE
   |false=>exact k ex _ ρ st' K (ai (ai hc)) hk m fz' s' Q E R' (L.mono hf) (P.up hf) HE) lq)
theorem ze(O:bK C c n) {is:List Nat}{x:X}{e:Stmt} (hc:Af C.F.sc C.ns is x e=true) {N:List (Option V)->aG->Prop} (H:xK c is x ρ own N) (R:RS C.w (C.J ex) C.F m own fz s) (L:Lc C.w.params C.la C.ns ρ m fz) {Q:Flow->W2->Prop}
   (h:∀ρ' own' fz' m' s',N ρ' own'->(∀p∈fz,p∈fz')->0<s'.toks->RS C.w (C.J ex) C.F m' own' fz' s'->Lc C.w.params C.la C.ns ρ' m' fz'->Q .next s'):wpAny (model ae C.w) C.F.A (exec (yp C.ns is x e) C.F.env) Q E s :=
 Assign_Tuple (t6 O x (ai (ai hc)) H R L fun v own' fz' s' xv hk hf R' rv=>(ac hk).elim fun ρ' hk=>yQ O O.LV.hd (af hc) hk.1 R' (L.mono hf) rv fun m' Un ht Uv UO=>h ρ' own' fz' m' Un hk.2 hf ht Uv UO)
   (y1 _ _ _ _ _) (Ap (af (ai hc)) _ _ _)
theorem H9(O:bK C c n) (is:List Nat) (x:X):UX C c (.asg is x):=fun ex e ρ own K hc H m fz s Q E R L P HE =>
 ze O hc H R L fun ρ' own' fz' m' s' hk hf qq R' L'=>P _ _ _ _ _ _ _ hk hf R' L' .next
theorem Hu(O:bK C c n) (i:Nat) (x:X):UX C c (.app i x):=fun ex e ρ own K hc H m fz s Q E R L P HE=>by
 obtain⟨v,hv,H⟩:=ac H
 obtain⟨a,ha,⟨pre,xs,post,hown⟩,G⟩:=ac H
 obtain⟨h1,h2,h3⟩:=b9 (af hc)
 obtain⟨xv,hx,rx⟩:=L i _ v h1 hv
 obtain rfl:=Dz ha
 obtain rfl:=rx.view
 have hp:(backTo (aj (bj e)) (starEach [ce iP C.ns x (aN (bj e))] C.F.env)).any (·.1)=false:=bW _ _ (.cons x .nil) [aN (bj e)]
 refine wpAny_Expr_any (methodCall_KW (pl:=(do return (←importBound (.Name (mh C.ns i) (aj (ao (ao (bj e))))) C.F.env).getD true)) (kws:=[]) (ld R.fr hx ?_ O.FO.kind h2 h3) (bI rfl (X2 (af (ai hc))) (kW (by exact Xd rfl) hp))) (quiet O.FO) rfl
 rw[hown] at R
 obtain⟨news,its,nn,N,hm⟩:=R.own_get
 refine kl_method N hm PySem.F.slot_list_append PySem.F.type_list_append (XZ (P:=fun h=>(KF C.w.params).In h) (Bool.or_eq_false_iff.mpr ⟨hp,rfl⟩) (fun h X=>aB C.w _ h) (aq (Xz (t6 O x (ai (ai hc)) G (hown▸R) L fun v st' fz' s' xv hk hf R' rv=>?_) (dB _ _ _ _)) hp))
 obtain⟨pre',xs',post',e',hz,hk⟩:=hk
 rw[e'] at R'
 exact args_nil ⟨O.FO.G.X.keeps R'.fr.keep,R'.own_append rv hz fun Uq Uo=>P _ _ _ _ _ _ _ hk hf Uo (L.mono hf) .next⟩
theorem tA:mD C c .nil:=fun ex e ρ own K hc H m fz s Q E R L P HE=>Xw (P _ _ _ _ _ _ _ H ag R L .next)
theorem y9{u:U}{us:Us} (h:UX C c u) (k:mD C c us):mD C c (.cons u us):=fun ex e ρ own K hc H m fz s Q E R L P HE =>
 Xa (h ex _ ρ own _ (af hc) H m fz s _ E R L (fun fl ρ' st' fz' m' s' xf hk hf R' L' rf=>by
   cases rf with
   |next=>exact k ex _ ρ' st' K (ai hc) hk m' fz' s' Q E R' L' (P.up hf) HE
   |brk=>exact P _ _ _ _ _ _ _ hk hf R' L' .brk
   |cont=>exact P _ _ _ _ _ _ _ hk hf R' L' .cont
   |ret rv=>exact P _ _ _ _ _ _ _ hk hf R' L' (.ret rv)) HE)
theorem xp(O:bK C c n) (is:List Nat) (x:X) {us:Us} (k:mD C c us):mD C c (.bare is x us):=fun ex e ρ own K hc H m fz s Q E R L P HE =>
 Xa (ze O (af hc) H R L fun Vb Vq UK Vc Un hk hf ht Uv UO=>by
   obtain⟨v,hv,hk⟩:=ac hk
   obtain⟨y,hy,hz,hk⟩:=ac hk
   have hb:=af (ai hc)
   obtain⟨h1,h2,h3⟩:=b9 (ai (af hb))
   obtain⟨xv,hx,rv⟩:=UO 8 _ v h1 hv
   obtain⟨t,rfl⟩:=rv.strO hy
   have hs:=b9 (af (af hb))
   refine Xa (XK (methodCall_KW (pl:=(do return (←importBound (.Name (mh C.ns 8) (aj (ao (ao (bj (cP e.tail)))))) C.F.env).getD true)) (kws:=[]) (ld Uv.fr hx ?_ O.FO.kind h2 h3) (bI rfl (X2 (ai hb)) (kW (Xd rfl) rfl))) rfl)
   with_reducible refine dX PySem.F.slot_str_replace PySem.F.type_str_replace ?_
   refine XZ (P:=fun qq=>True) rfl (fun h qq=>aB C.w _ h) (aq (Xz (wpAny_Constant_str (Xz (wpAny_Constant_str (args_nil ⟨trivial,?_⟩))))) rfl)
   refine SC.replace (u:=Un.toks) (v:=Un.toks+1) (XC ht) (Nat.succ_ne_zero _) (X3 (Nat.lt_succ_self _)) (by decide) ((bo y).symm▸WZ hz (by decide)) fun t' k'=>?_
   exact iZ O.FO (Uv.toks k') hs.2.1 fun Uq qq Uo=>k ex _ _ Vq K (ai (ai hc)) hk _ UK Uq Q E Uo (UO.set O.hn hs.1 (.str (bx y) t')) (P.up hf) HE)
end
end
section
section
variable {c:lH}{own:aG}{K:KS}
theorem tC{b:Us} (hb:mD C c b) {es:List Stmt} (hsd:kH C.F.sc C.ns b es=true) {ex':ad}{N:List (Option V)->aG->Prop} (H:aP c b ρ own (KJ N K)) (R:RS C.w (C.J ex') C.F m own fz s) (L:Lc C.w.params C.la C.ns ρ m fz) (HE:PassesOwn (model ae C.w) C.F.A C.F.env E)
   {U4:ad} (hf:∀p∈U4,p∈fz) {Q:Flow->W2->Prop} (P:fP C.w (C.J ex) C.F C.ns U4 K Q) (dn:∀{m own fz s},RS C.w (C.J ex') C.F m own fz s->RS C.w (C.J ex) C.F m own fz s) {X:W2->Prop}
   (next:∀ρ' own' fz' m' s',N ρ' own'->(∀p∈U4,p∈fz')->RS C.w (C.J ex') C.F m' own' fz' s'->Lc C.w.params C.la C.ns ρ' m' fz'->X s') :
   wpAny (model ae C.w) C.F.A (execs (j0 C.ns b es) C.F.env) (fun f Ut=>match f with| .next| .cont=>X Ut| .brk=>Q .next Ut| .ret v=>Q (.ret v) Ut) E s :=
 hb ex' es ρ own _ hsd H m fz s _ E R L (fun fl VQ VR UR VS Ut xf hk UG Uw UT rf=>by
   have mem:=az hf UG
   cases rf with
   |next=>exact next _ _ _ _ _ hk mem Uw UT
   |cont=>exact next _ _ _ _ _ hk mem Uw UT
   |brk=>exact P _ _ _ _ _ _ _ hk mem (dn Uw) UT .next
   |ret rv=>exact P _ _ _ _ _ _ _ hk mem (dn Uw) UT (.ret rv)) HE
noncomputable def ME(C:LX) (ex:ad) (it l:W3) (xs:List V) (U4:ad) (H:Nat->List (Option V)->aG->Prop) (k:Nat) (s:W2):Prop:=∀qC:Prop,(∀(i:Nat) (ρ:List (Option V)) (own:aG) (fz:ad) (m:Str->Option WY) (o:Obj),k=xs.length - i->H i ρ own->RS C.w (C.J ((it,o)::ex)) C.F m own fz s->Lc C.w.params C.la C.ns ρ m fz->(∀p∈U4,p∈fz)->bP l i o->qC)->qC
theorem sX(e:h.get? a=some (W0 vs.toArray nn)):h.IsList a vs.toArray:=⟨_,e,rfl,nn,rfl⟩
theorem mq{x:V} (h:xs[i]?=some x):xs.drop i=x::xs.drop (i+1):=(List.drop_eq_getElem?_toList_append).trans (h▸rfl)
theorem mB(h:xs[i]?=none):xs.drop i=[]:=List.drop_eq_nil_of_le (List.getElem?_eq_none_iff.mp h)
theorem sub_lt{x:V} (h:xs[i]?=some x):xs.length - (i+1)<xs.length - i:=Nat.sub_succ_lt_self _ _ (List.getElem?_eq_some_iff.mp h).1
theorem L9{M:Xj}{t:B6}{e:W5}{ρ':List (Option V)}{v:V} (hs:setT t ρ v=some ρ') (R:RS C.w (C.J ex) C.F m own fz s) (rv:RV C.w.params C.la fz v xv) {it l:W3} (hit:s.heap.IsListIter it l i) {Q:Unit->W2->Prop} (h:Q () s):wpAny (model ae C.w) A (letOwnedTupleGo (n6 C.ns t e) (.ref it) xv) Q E s:=by
 cases t with
 |nm i=>exact Xk h
 |tp is =>
   obtain⟨vs,hv,qq⟩:=aC hs
   rw[iD hv] at rv
   obtain⟨a,us,rfl,qq,qq⟩:=gB R rv
   exact wpAny_letOwnedTupleGo_listiter hit h
noncomputable def Sg(C:LX) (T:W5) (it:WY) (B:List Stmt) (R:Result->W2->Prop) (I:Nat->W2->Prop) (n:Nat):Option WY->W2->Prop:=fun r Un=>match r with
   |none=>wpAny (model ae C.w) C.F.A (execs [] C.F.env) (fun f Ut=>R (.ok f) Ut) (notedBy (model ae C.w) C.F.A C.F.env fun e s'=>R (.error e) s') Un
   |some v=>wpAny (model ae C.w) C.F.A (letOwnedTupleGo T it v) (fun qq WM=>wpAny (model ae C.w) C.F.A (assign T C.F.env v) (fun qq Uq=>wpAny (model ae C.w) C.F.A (execs B C.F.env) (fun f Ut=>match f with
     |.next| .cont=>∃m,m<n/\I m Ut
     |.brk=>R (.ok .next) Ut
     |.ret v=>R (.ok (.ret v)) Ut) (notedBy (model ae C.w) C.F.A C.F.env fun e s'=>R (.error e) s') Uq) (notedBy (model ae C.w) C.F.A C.F.env fun e s'=>R (.error e) s') WM) (notedBy (model ae C.w) C.F.A C.F.env fun e s'=>R (.error e) s') Un
noncomputable def yT(C:LX) (T:W5) (it:WY) (B:List Stmt) (R:Result->W2->Prop) (I:Nat->W2->Prop) (n:Nat) (s:W2):Prop :=
 wpAny (model ae C.w) C.F.A (pyNext it) (Sg C T it B R I n) (notedBy (model ae C.w) C.F.A C.F.env fun e s'=>R (.error e) s') s
noncomputable abbrev z3(C:LX) (Q:Flow->W2->Prop) (E:WY->W2->Prop):Result->W2->Prop:=fun r s'=>match r with| .ok f=>Q f s'| .error e=>cameBackBy (model ae C.w) C.F.A C.F.env E e s'
theorem kG{J:cu σ} (FO:aa w F) (R:RS w J F m st fz s) {l:W3} (rv:RV w.params J.la fz (.lst xs) (.ref l)):∃vs,s.heap.IsList l vs.toArray/\aL w.params J.la fz xs vs:=by
 have l1:=qP FO R rv
 revert l1
 generalize hw:Value.ref l=lv
 intro l1
 obtain⟨l',vs',nn',r',hl'⟩:=l1
 cases hw
 exact⟨vs',sX hl',r'⟩
theorem z7(O:bK C c n) {t:B6}{b:Us} (hb:mD C c b) {T:W5}{es:List Stmt} (ht:uH C.F.sc C.ns t=true) (hsd:kH C.F.sc C.ns b es=true) {it l:W3} (rv:RV C.w.params C.la fz (.lst xs) (.ref l)) {Q:Flow->W2->Prop} (P:fP C.w (C.J ex) C.F C.ns fz K Q) (HE:PassesOwn (model ae C.w) C.F.A C.F.env E) (I:ME C ex it l xs fz (fun i ρ own=>uK (aP c b) t K (xs.drop i) ρ own) k Un) :
   yT C (n6 C.ns t T) (.ref it) (j0 C.ns b es) (z3 C Q E) (ME C ex it l xs fz (fun i ρ own=>uK (aP c b) t K (xs.drop i) ρ own)) k Un:=by
 refine I _ ?_;rintro i Vb Vq UK Vc o hk G Uv UO f ho
 obtain⟨vs,hl,r⟩:=kG O.FO Uv (rv.mono f)
 have hit:Un.heap.IsListIter it l i:=⟨o,Uv.jl_get.1,ho⟩
 rcases hv:xs[i]? with qq|x
 . exact wpAny_pyNext_list_end O.LV.hd hit hl ((Ya).trans (r.get_none hv)) fun h₁ VH=>Xw (P _ _ _ _ _ _ _ (mB hv▸G:uK (aP c b) t K [] Vb Vq) f (Uv.jl_lose (t:=Un.toks) VH) UO .next)
 ·
   obtain⟨u,hu,ru⟩:=r.get hv
   obtain⟨VU,hset,G⟩:=ac (mq hv▸G:uK (aP c b) t K (x::xs.drop (i+1)) Vb Vq)
   exact wpAny_pyNext_list_item hit hl ((Ya).trans hu) fun h₁ Ve UM=>Ve.elim fun Vz ho =>
     have Uo:=Uv.jl_set (t:=Un.toks) UM.extBut ho.1
     L9 (M:=C.w) hset Uo ru Ve (yQ O O.LV.hd ht hset Uo UO ru fun Vd Uq qq Ur U6=>wpAny_passesOwn HE (tC hb hsd G Ur U6 HE f P RS.jl_drop fun VQ VR UR VS Ut Vi UG Uw UT =>
       ⟨_,(hk.symm▸sub_lt hv:xs.length - (i+1)<k),fun qq qk=>qk (i+1) VQ VR UR VS Vz rfl Vi Uw UT UG ho.2⟩))
theorem E6(O:bK C c n) (t:B6) (x:X) {b:Us} (hb:mD C c b):UX C c (.forT t x b):=fun ex e ρ own K hc H m fz s Q E R L P HE =>
 wpAny_For (t6 O x (af (ai hc)) H R L fun v own' fz' s' xv hk hf R' rv=>by
   obtain⟨xs,hx,hk⟩:=ac hk
   rw[cH hx] at rv
   obtain⟨a,vs,rfl,r,hl⟩:=bQ O.FO R' rv
   exact wpAny_pyIter_list hl (codeAny_forLoop_any _ (fun qq qq I=>z7 O hb (af hc) (ai (ai hc)) rv (P.up hf) HE I) _ (fun qq qk=>qk 0 ρ own' fz' m _ rfl hk (R'.jl_alloc rfl s'.toks) (L.mono hf) ag ⟨rfl,rfl⟩))) (p9 _ _ _)
end
end
section
section
variable {c:lH}{own:aG}{K:KS}
noncomputable def Pl(w:Xj) (la:LA) (cs ex:ad) (gs:Array Xf) (F:Fm) (m:Str->Option WY) (own:aG) (fz:ad) (s:W2):Prop:=∀qC:Prop,(∀(ot:ad),Lg F m cs ot s s->(∀cs' m' s',Lg F m' cs' ot s s'->RS w (JL w.params la (cs'++ex) gs) F m' own fz s')->qC)->qC
theorem RS.jl_lg(R:RS w (JL w.params la (cs++ex) gs) F m own fz s):Pl w la cs ex gs F m own fz s:=by
 refine R.jl_open _ ?_;rintro mo hc N nd
 have nd0:=kh ((iC.map (·.1)).nodup_iff.mp nd)
 exact(fun qq qk=>qk (ex++(mo++fz)) ⟨⟨R.fr,fun p hp=>N p (iC.mem_iff.mpr hp),rfl,rfl,rfl⟩,nd0.1,fun p hp h=>nd0.2.2 p.1 h p.1 (Xv hp) rfl⟩ (fun cs' m' s' L=>R.jl_mk hc (fun p hp=>L.raw.nw p (iC.mem_iff.mp hp))
   ((iC.map (·.1)).nodup_iff.mpr (jN L.nd nd0.2.1 fun x hx y hy e=>(Xp.mp hy).elim fun p hp=>L.dis p hp.1 (gN (hp.2.trans e.symm) hx))) L.raw.gens L.raw.fr L.raw.os L.raw.dr))
inductive J8(C:LX) (ex:ad) (xs:List V) (m:Str->Option WY) (own:aG) (fz:ad) (s':W2):WY->Prop
 |mk (l it en:W3) (o:Obj):RV C.w.params C.la fz (.lst xs) (.ref l)->bP l 0 o->RS C.w (C.J ((it,o)::(en,bf it (0:Nat) .none)::ex)) C.F m own fz s'->J8 C ex xs m own fz s' (.ref en)
theorem Ah(O:bK C c n) (hg:bO C.F.sc "enumerate" = true) {i0:Nat} (h0:cT C.F.sc C.ns i0=true) (hv:fS ρ i0=some (.lst xs)) (R:RS C.w (C.J ex) C.F m own fz s) (L:Lc C.w.params C.la C.ns ρ m fz) {p3:Pos} (h:∀v s',J8 C ex xs m own fz s' v->Q v s') :
   wpAny (model ae C.w) C.F.A (eval (.Call (.Name "enumerate" p1) [.Name (mh C.ns i0) p2] [] p3) C.F.env) Q E s:=by
 obtain⟨h1,h2,h3⟩:=b9 h0
 obtain⟨xv,hx,rv⟩:=L i0 _ _ h1 hv
 refine(RS.jl_lg (cs:=[]) R) _ ?_;rintro ot L0 back
 have l1:=qP O.FO R rv
 cases l1 with|mk l vs nn r hl =>
 refine Call_ (bF O.FO L0.raw hg (.inr ⟨Me _,by decide +kernel,PyProof.Rows.boot_enumerate⟩) (PySem.callWith_type rfl (aq (Xz (ld R.fr hx (args_nil (call_enumerate_1 hl fun h' he hit hz hk=>hit.elim fun oi hi=>?_)) O.FO.kind h2 h3)) rfl))) rfl
 have R1:=back _ _ _ (L0.more (t:=s.toks) (h':=h') (new:=[(s.heap.objs.size,oi),(s.heap.objs.size+1,bf s.heap.objs.size (0:Nat) .none)]) hk (fun p hp=>(Xb.mp hp).elim (fun e=>e▸⟨hi.1,Xl _⟩) fun hp=>(Xe.mp hp)▸⟨he,Nat.le_succ _⟩)
   (XD.mpr ⟨fun h=>X3 (Nat.lt_succ_self _) (Xe.mp h),XD.mpr ⟨List.not_mem_nil,List.nodup_nil⟩⟩))
 exact h _ _ ⟨l,_,_,oi,rv,hi.2,R1⟩
noncomputable def MC(C:LX) (ex:ad) (it en l:W3) (xs:List V) (U4:ad) (H:Nat->List (Option V)->aG->Prop) (k:Nat) (s:W2):Prop:=∀qC:Prop,(∀(i:Nat) (ρ:List (Option V)) (own:aG) (fz:ad) (m:Str->Option WY) (o:Obj) (old:WY),k=xs.length - i->H i ρ own->RS C.w (C.J ((it,o)::(en,bf it (i:Nat) old)::ex)) C.F m own fz s->Lc C.w.params C.la C.ns ρ m fz->(∀p∈U4,p∈fz)->bP l i o->qC)->qC
theorem si{b:W3}{oa ob:Obj} (ha:h.get? a=some oa) (hb:h.get? b=some ob) (hne:oa.cls≠ob.cls):a≠b:=fun e=>hne (congrArg Obj.cls (XE (ha.symm.trans (e▸hb))))
theorem CW(O:bK C c n) {i1:Nat}{b:Us} (hb:mD C c b) {T:W5}{es:List Stmt} (ht:uH C.F.sc C.ns (.tp [i1,i2])=true) (hsd:kH C.F.sc C.ns b es=true) {it en l:W3} (rv:RV C.w.params C.la fz (.lst xs) (.ref l)) {Q:Flow->W2->Prop} (P:fP C.w (C.J ex) C.F C.ns fz K Q) (HE:PassesOwn (model ae C.w) C.F.A C.F.env E) (I:MC C ex it en l xs fz (fun i ρ own=>Eu (aP c b) i1 i2 K i (xs.drop i) ρ own) k Un) :
   yT C (n6 C.ns (.tp [i1,i2]) T) (.ref en) (j0 C.ns b es) (z3 C Q E) (MC C ex it en l xs fz (fun i ρ own=>Eu (aP c b) i1 i2 K i (xs.drop i) ρ own)) k Un:=by
 refine I _ ?_;rintro i Vb Vq UK Vc o old hk G Uv UO f ho
 obtain⟨vs,hl,r⟩:=kG O.FO Uv (rv.mono f)
 have hit:Un.heap.IsListIter it l i:=⟨o,Uv.jl_get.1,ho⟩
 have he:=Uv.jl_drop.jl_get.1
 rcases hv:xs[i]? with qq|x
 . exact wpAny_pyNext_enum_end O.LV.hd he hit hl ((Ya).trans (r.get_none hv)) fun h₁ VH=>Xw (P _ _ _ _ _ _ _ (mB hv▸G:Eu (aP c b) i1 i2 K i [] Vb Vq) f (Uv.jl_lose (t:=Un.toks) VH).jl_drop UO .next)
 ·
   obtain⟨u,hu,ru⟩:=r.get hv
   have G:=(mq hv▸G:Eu (aP c b) i1 i2 K i (x::xs.drop (i+1)) Vb Vq)
   refine(RS.jl_lg (cs:=[(it,o),(en,bf it (i:Nat) old)]) Uv) _ ?_;rintro ot L0 back
   have hs:(cT C.F.sc C.ns i1&&(cT C.F.sc C.ns i2&&true))=true:=ht
   have hT:kB C.F.sc (mh C.ns i1) (mh C.ns i2) (n6 C.ns (.tp [i1,i2]) T):= .mk _ _ _ _ (ai (af hs)) (ai (af (ai hs)))
   obtain⟨a1,a2,a3⟩:=b9 (af hs)
   obtain⟨b1,b2,b3⟩:=b9 (af (ai hs))
   have hu':vs.toArray[i]?=some u:=(Ya).trans hu
   have d1:l≠it:=hl.elim fun ol h=>si h.1 (Uv.jl_get.1) (by rw[h.2.1,ho.1];exact fun q=>absurd (Value.type.inj q) (by decide))
   have d2:l≠en:=hl.elim fun ol h=>si h.1 he (by rw[h.2.1];exact fun q=>absurd (Value.type.inj q) (by decide))
   have d3:it≠en:=si Uv.jl_get.1 he (by rw[ho.1];exact fun q=>absurd (Value.type.inj q) (by decide))
   exact i6 O.FO O.LV.hd hT (pre:=[]) (r:=[]) (Draws.list (A:=C.F.A.in1) O.LV.hd it l d1 vs.toArray) ⟨hit,hl⟩ (XJ.mp hu').1 (fun q=>(Xb.mp q).elim (fun q=>d3 q.symm) fun q=>d2 (Xe.mp q).symm) (It:=bP l (i+1)) (fun h' h=>h.1.elim fun o' h=>⟨o',h⟩) L0
     fun v s' hw=>Xq hw (fun qq Un hw=>Xq hw (fun qq Uq hw=>by
       refine hw _ ?_;rintro o' u' tk hP hI R'
       cases hu'.symm.trans hP
       exact wpAny_passesOwn HE (tC hb hsd (ex':=(it,o')::(en,bf it ((i:Nat)+1:Nat) u)::ex) G (back _ _ _ R') ((UO.set O.hn a1 (.int (i:Int) tk)).set O.hn b1 ru) HE f P (fun R=>R.jl_drop.jl_drop) fun VQ VR UR VS Ut Vi UG Uw UT =>
         ⟨_,(hk.symm▸sub_lt hv:xs.length - (i+1)<k),fun qq qk=>qk (i+1) VQ VR UR VS o' u rfl Vi Uw UT UG hI⟩)) fun qq qq x=>x.elim) fun qq qq x=>x.elim
theorem Dd(O:bK C c n) (i0 i1 i2:Nat) {b:Us} (hb:mD C c b):UX C c (.enum i0 i1 i2 b):=fun ex e ρ own K hc H m fz s Q E R L P HE=>by
 obtain⟨v,hv,H⟩:=ac H
 obtain⟨xs,hx,H⟩:=ac H
 obtain rfl:=cH hx
 have hc':=ai hc
 exact wpAny_For (Ah O (af (af hc')) (ai (af hc')) hv R L fun v s' ha=>ha.casesOn fun l it en o rv ho R' =>
   wpAny_pyIter_enum (R'.jl_drop.jl_get.1) (codeAny_forLoop_any _ (fun qq qq I=>CW O hb (af hc) (ai hc') rv P HE I) _ (fun qq qk=>qk 0 ρ own fz m o _ rfl H R' L ag ho))) (fun qq=>rfl)
theorem DG(O:bK C c n):(∀u,UX C c u)/\∀u,mD C c u :=
 have c1:=fun t=>Jx O t
 have c2:=fun i x=>Hu O i x
 have c3:=fun is x=>H9 O is x
 have c4:=fun t x b (h:mD C c b)=>E6 O t x h
 have c5:=fun i0 i1 i2 b (h:mD C c b)=>Dd O i0 i1 i2 h
 have c6:=fun x a b (h:mD C c a) (k:mD C c b)=>F3 O x h k
 have c7:=fun u us (h:UX C c u) (k:mD C c us)=>y9 h k
 have c8:=fun is x us (k:mD C c us)=>xp O is x k
 ⟨U.rec (motive_2:=mD C c) c1 c2 c3 c4 c5 c6 tA c7 c8,Us.rec (motive_1:=UX C c) c1 c2 c3 c4 c5 c6 tA c7 c8⟩
theorem Mw(O:bK C c n) {u:Us}{es:List Stmt} (hk:mK C.F.sc C.ns u es) (H:aP c u ρ own K):Sa C ex es ρ own K:=hk.eq▸(DG O).2 u ex es ρ own K hk.ok H
theorem JN(O:bK C c n) {u:U}{e:Stmt} (hk:lR C.F.sc C.ns u e) (H:wi c u ρ own K):Oc C ex e ρ own K:=hk.eq▸(DG O).1 u ex e ρ own K hk.ok H
end
end
section
noncomputable def lN(K:V->aG->Prop):KS:=fun fl qq own=>match fl with| .ret v=>K v own|_=>False
section
variable {own:aG}{c:lH}
theorem xx(FO:aa w F) (LV:aU F.A (n+1)) (hc:∀ex,oZ w la ex gs n c) (KO:bl w.params f) {pos:List WY}{u:Us}
   (hbind:lB s (ah w.params f) ⟨pos,[]⟩ binds) (hloc:binds.all (fun y=>(ah w.params f).scope.names.lookup y.1 == some .local)=true) (hn:ns.Nodup) (hk:mK (ah w.params f).scope ns u (ay (ah w.params f))) (R:RS w (JL w.params la ex gs) F m own fz s) (hρ:Lc w.params la ns ρ (fun y=>binds.reverse.lookup y) fz)
   (H:aP c u ρ own (lN K)) (P:a8 w (JL w.params la ex gs) F m fz K Q):wpAny (model ae w) F.A (call (.ref f) pos []) Q E s :=
 wpAny_call (fo FO LV KO hbind hloc R fun F' s' C FO' LV' he hsc R'=>Mw (C:=⟨w,la,gs,F',ns⟩) ⟨FO',LV',hc,hn⟩ (show mK F'.sc ns u _ from hsc▸hk) H _ fz s' _ _ R' hρ (fun fl ρ' st' fz' m' s'' xf hk hf R'' L'' rf=>⟨m',st',fz',R'',fun Ur=>by
   cases rf with
   |ret rv=>exact P _ _ _ _ _ hk hf Ur rv
   |_=>exact hk.elim⟩) PassesOwn.leaving)
end
noncomputable def Q8:List (Str×Str)->Xs
 |[]=> .nil
 |p::r=> .cons (.tup (.cons (.k (.str p.1)) (.cons (.k (.str p.2)) .nil))) (Q8 r)
noncomputable def Sz:List Str->Xs
 |[]=> .nil
 |p::r=> .cons (.k (.str p)) (Sz r)
noncomputable def Sk:Us:= .cons (.ir (.ret (.lst (Q8 cS)))) .nil
noncomputable def Sv:Us:= .cons (.ir (.ret (.lst (Sz bw)))) .nil
theorem NN(P:W1):bl P 518:=⟨by kernel_rfl,by kernel_rfl,by kernel_rfl⟩
theorem NW(P:W1):bl P 560:=⟨by kernel_rfl,by kernel_rfl,by kernel_rfl⟩
theorem NA(P:W1):bl P 567:=⟨by kernel_rfl,by kernel_rfl,by kernel_rfl⟩
theorem HC(P:W1):mK (ah P 518).scope [] Sk (ay (ah P 518)):=⟨by kernel_rfl,by kernel_rfl⟩
theorem Ho(P:W1):mK (ah P 560).scope [] Sv (ay (ah P 560)):=⟨by kernel_rfl,by kernel_rfl⟩
theorem AL(P:W1):X1 (ah P 518) ⟨[],[]⟩=(pure []:Sem (List (Str×WY))):=by kernel_rfl
theorem CL(P:W1):X1 (ah P 560) ⟨[],[]⟩=(pure []:Sem (List (Str×WY))):=by kernel_rfl
theorem CR(P:W1) (a:WY):X1 (ah P 567) ⟨[a],[]⟩=(pure [(W8 "text",a)]:Sem (List (Str×WY))):=by kernel_rfl
theorem EN(P:W1):aA (ah P 567).scope ["text"]=true:=by kernel_rfl
noncomputable def Si:List Str:=["text", "rows", "parts", "column", "part"]
theorem S8:Si.Nodup:=by decide +kernel
noncomputable def Q5:T:= .asg 1 (.mcall (.loc 0) 50 (.cons (.k (.str "\n")) .nil))
noncomputable def PM:T:= .asg 2 (.mcall (.sub (.loc 1) (.neg 1)) 50 (.cons (.k (.str "\t")) .nil))
noncomputable def KQ:T:= .asg 3 (.k (.int 1))
noncomputable def Sb:X:= .slc (.loc 2) (.k .none) (.neg 1)
noncomputable def yw:Us:= .cons (.ir (.aug 3 .Add (.bin .Add (.bin .Mult (.bin .FloorDiv (.call (.glob 1) (.cons (.loc 4) .nil)) (.k (.int 8))) (.k (.int 8))) (.k (.int 8))))) .nil
noncomputable def y0:T:= .ret (.tup (.cons (.call (.glob 1) (.cons (.loc 1) .nil)) (.cons (.bin .Add (.loc 3) (.call (.glob 1) (.cons (.sub (.loc 2) (.neg 1)) .nil))) .nil)))
noncomputable def uP:Us:= .cons (.ir Q5) (.cons (.ir PM) (.cons (.ir KQ) (.cons (.forT (.nm 4) Sb yw) (.cons (.ir y0) .nil))))
theorem Fe(P:W1):mK (ah P 567).scope Si uP (ay (ah P 567)):=⟨by kernel_rfl,by kernel_rfl⟩
noncomputable def f8(c:Int) (p:Str):Int:=c+(Int.fdiv (ar p:Int) 8*8+8)
noncomputable def a9(l:List Str):Str:=l.getLastD ""
noncomputable def aJ(x:Str):Int×Int :=
 let rows:=XN x "\n"
 let parts:=XN (a9 rows) "\t"
 (rows.length,parts.dropLast.foldl f8 1+ar (a9 parts))
theorem cV{l:List Str} (h:l≠[]):l=l.dropLast++[a9 l]:=by
 unfold a9
 rw[List.getLastD_eq_getLast?,List.getLast?_eq_some_getLast h]
 exact(List.dropLast_concat_getLast h).symm
theorem cO(l:List Str):(sV l).length=l.length:=XR _
theorem pv{xs:List Str} (h:xs≠[]):a9 xs∈xs:=(congrArg (a9 xs∈ ·) (cV h)).mpr (W4 _ (.head _))
theorem dm{y a:Str} (h:a∈XN x y):ar a<=ar x:=by
 have:=part_short h
 rw[bo,bo] at this
 exact this
theorem bY(x y:Str):XN x y≠[]:=List.length_pos_iff.mp (split_pos x y)
theorem zh(l:List α) (x:α):wQ (l++[x]) 0 l.length=l:=List.take_left' rfl
theorem yJ(l:List α) (x:α):wQ (l++[x]) l.length (l.length+1)=[x]:=by
 show((l++[x]).drop l.length).take (l.length+1 - l.length)=[x]
 rw[List.drop_left' rfl,Nat.add_sub_cancel_left];rfl
theorem rK(l:List Str) (x:Str):sV (l++[x])=sV l++[V.str x]:=XM
theorem ph{xs:List Str} (h:xs≠[]) (hz:xs.length<=1000000) {st:aG} (hK:K (.lst (sV xs.dropLast)) st):qT (.lst (sV xs)) .none (.int (-1)) st K:=by
 have e:=cV h
 generalize xs.dropLast=l at e hK
 generalize a9 xs=x at e
 subst e
 exact⟨WZ (W9 (cO _)) hz,0,l.length,by rw[cO,Xg];exact B4 _,by rw[rK,←cO l,zh];exact hK⟩
theorem yo{xs:List Str} (h:xs≠[]) (hz:xs.length<=1000000) {st:aG} (hK:K (.lst (sV [a9 xs])) st):qT (.lst (sV xs)) (.int (-1)) .none st K:=by
 have e:=cV h
 generalize xs.dropLast=l at e
 generalize a9 xs=x at e hK
 subst e
 exact⟨WZ (W9 (cO _)) hz,l.length,l.length+1,by rw[cO,Xg];exact AI _,by rw[rK,←cO l,yJ];exact hK⟩
theorem BZ(k:Nat):seqIndex? (-1) (k+1)=some k :=
 (congrArg (fun j:Int=>if 0<=j&&j<((k+1:Nat):Int) then some j.toNat else none) (tG k)).trans (if_pos (Bool.and_eq_true_iff.mpr ⟨decide_eq_true (Int.natCast_nonneg k),decide_eq_true (Int.ofNat_lt.mpr (Nat.lt_succ_self k))⟩))
theorem tS{xs:List Str} (h:xs≠[]):SJ (sV xs) (-1)=some (.str (a9 xs)):=by
 have e:=cV h
 generalize a9 xs=x at e ⊢
 generalize xs.dropLast=l at e
 subst e
 show(seqIndex? (-1) (sV (l++[x])).length).bind ((sV (l++[x]))[·]?)=_
 rw[cO,Xg,rK]
 exact(congrArg (fun o:Option Nat=>o.bind ((sV l++[V.str x])[·]?)) (BZ l.length)).trans ((cO l)▸List.getElem?_concat_length)
end
section
noncomputable def Nh:List V->Option Unit
 |[]=>some ()
 |_=>none
theorem AH{vs:List V}{u:Unit} (h:Nh vs=some u):vs=[]:=by
 rcases vs with qq|⟨qq,qq⟩
 . rfl
 . exact bN h
noncomputable def h0(v:V):Hd aG:=fun vs kw st K qq=>opt (Jg kw) fun qq=>opt (Nh vs) fun qq=>K v st
noncomputable def O3(x:Str):V:= .tup [.int (aJ x).1,.int (aJ x).2]
noncomputable def SN:Hd aG:=h1 fun x st K qq=>opt (strO x) fun x=>ar x<=100000/\K (O3 x) st
noncomputable def cy:lH:=cD (518+100) (h0 (.lst tD)) (cD (560+100) (h0 (.lst (sV bw))) (cD (567+100) SN tL))
theorem FH{o:lz aG}{X:bE->aG->Prop}{st:aG}:∀(l:List (Str×Str)) (K:List V->aG->Prop),K (l.map fun p=> .tup [.str p.1,.str p.2]) st->kR o ρ X (Q8 l) st K:=by intro l0;induction l0 with
 |nil=>intro qq h;exact h
 |cons p l ih=>intro K h;exact ih (fun vs s=>K (.tup [.str p.1,.str p.2]::vs) s) h
theorem FA{c:lH}{st:aG}:∀{vs:List V},Nat.blt 0 vs.length=true->vs.length<=1001->K (.lst vs) st->(eP c).lst vs st K:=by intro l0;induction l0 with
 |nil=>intro h0 qq qq;exact ly h0
 |cons v vs ih=>intro qq hl h;exact⟨Nat.le_of_succ_le_succ hl,h⟩
theorem vx:tD.length=17:=XR _
section
variable {K:KS}{own:aG}
theorem yB{r q:Option V}:∀(ps:List Str) (c:Int) (v:Option V),(∀p∈ps,ar p<=100000)->(∀v,K .next [some (.str x),r,q,some (.int (ps.foldl f8 c)),v] own)->uK (aP tL yw) (.nm 4) K (sV ps) [some (.str x),r,q,some (.int c),v] own:=by intro l0;induction l0 with
 |nil=>intro qq v qq h;exact h v
 |cons p ps ih=>intro c qq hp h;exact 
   have h1:ar p<=1000000/\((8:Int)≠0/\(8:Int).natAbs<1073741824)/\IntMulOk ((ar p:Int).fdiv 8) 8/\Operator.Add= .Add/\uK (aP tL yw) (.nm 4) K (sV ps) [some (.str x),r,q,some (.int (f8 c p)),some (.str p)] own :=
     ⟨WZ (hp p (.head _)) (by decide),⟨by decide,by decide⟩,IntMulOk.of_right (by decide),rfl,ih _ _ (fun q hq=>hp q (.tail _ hq)) h⟩
   h1
noncomputable abbrev iz(x:Str):List Str:=XN x "\n"
noncomputable abbrev jZ(x:Str):List Str:=XN (a9 (iz x)) "\t"
theorem kL(y z:Str) (h:ar y<=100000):(XN y z).length<=1000000:=WZ (split_le y z) (WZ (XG (WZ (W9 (bo y)) h) 2) (by decide))
theorem vC{K:V->aG->Prop} (hx:ar x<=100000) (hl:ar (a9 (jZ x))<=100000) (hK:K (O3 x) own) (v:Option V):aP tL (.cons (.ir y0) .nil) [some (.str x),some (.lst (sV (iz x))),some (.lst (sV (jZ x))),some (.int ((jZ x).dropLast.foldl f8 1)),v] own (lN K) :=
 Xy (WZ (W9 (cO _)) (kL _ _ hx)) (Xy ⟨by decide,by decide⟩ (Exists.intro _ (Xy (tS (bY _ _)) (Xy (WZ hl (by decide)) (show K (.tup [.int (sV (iz x)).length,.int _]) own from(cO (iz x)).symm▸hK)))))
theorem vg{K:V->aG->Prop} (hx:ar x<=100000) (hl:ar (a9 (iz x))<=100000) (hK:K (O3 x) own):aP tL (.cons (.ir KQ) (.cons (.forT (.nm 4) Sb yw) (.cons (.ir y0) .nil))) [some (.str x),some (.lst (sV (iz x))),some (.lst (sV (jZ x))),none,none] own (lN K) :=
 have hp:∀p∈jZ x,ar p<=100000:=fun p hp=>WZ (dm hp) hl
 (ph (bY _ _) (kL _ _ hl) (yB (K:=NZ (fun ρ own=>aP tL (.cons (.ir y0) .nil) ρ own (lN K)) (lN K)) _ _ _ (fun p h=>hp p (List.dropLast_subset _ h)) (vC hx (hp _ (pv (bY _ _))) hK)):qT (.lst (sV (jZ x))) .none (.int (-1)) own fun v own=>opt (eI v) fun xs=>uK (aP tL yw) (.nm 4) (NZ (fun ρ own=>aP tL (.cons (.ir y0) .nil) ρ own (lN K)) (lN K)) xs [some (.str x),some (.lst (sV (iz x))),some (.lst (sV (jZ x))),some (.int 1),none] own)
theorem yc{K:V->aG->Prop} (hx:ar x<=100000) (hK:K (O3 x) own):aP tL uP [some (.str x),none,none,none,none] own (lN K) :=
 have hrows:=bY x "\n"
 have hl2:ar (a9 (iz x))<=100000:=WZ (dm (pv hrows)) hx
 Xy rfl (Xy (WZ hx (by decide)) (Xy ⟨by decide,by decide⟩ (Exists.intro (.str (a9 (iz x))) (Xy (tS hrows) (Xy rfl (Xy (WZ hl2 (by decide)) (vg hx hl2 hK)))))))
theorem Da{K:V->aG->Prop} (hK:K (.lst tD) own):aP tL Sk [] own (lN K) :=
 FH (o:=eP tL) (ρ:=[]) (X:=nB) (st:=own) cS (fun vs s=>(eP tL).lst vs s fun v s=>K v s) (FA rfl (WZ (W9 vx) (by decide)) hK)
theorem NT{K:V->aG->Prop} (hK:K (.lst (sV bw)) own):aP tL Sv [] own (lN K):=Xy (by decide) hK
end
section
theorem yj{v:V}{vs:List V}{kw:List (Nat×V)}{st:aG}{X:bE->aG->Prop}{xs:List WY}{xk:List (Str×WY)} (h:h0 v vs kw st K X) (r:aL P la fz vs xs) (k:wg P la fz kw xk):xs=[]/\xk=[]/\K v st:=by
 obtain⟨qq,e,h⟩:=ac h
 obtain⟨qq,e',h⟩:=ac h
 obtain rfl:=kv e;obtain rfl:=AH e'
 exact⟨r.nil_eq,k.nil_eq,h⟩
theorem Bm:cw w (JL w.params la ex gs) (n+1) (.ref 518) (h0 (.lst tD)):=fun F m st fz s vs xs kw xk K X Q E FO LV R rvs rk h P PE=>by
 obtain⟨rfl,rfl,hK⟩:=yj h rvs rk
 exact xx FO LV (fun qq=>oh) (NN _) (.of_eq (AL _)) rfl .nil (HC _) R (dJ fun qq=>rfl) (Da hK) P
theorem BI:cw w (JL w.params la ex gs) (n+1) (.ref 560) (h0 (.lst (sV bw))):=fun F m st fz s vs xs kw xk K X Q E FO LV R rvs rk h P PE=>by
 obtain⟨rfl,rfl,hK⟩:=yj h rvs rk
 exact xx FO LV (fun qq=>oh) (NW _) (.of_eq (CL _)) rfl .nil (Ho _) R (dJ fun qq=>rfl) (NT hK) P
theorem Ih:cw w (JL w.params la ex gs) (n+1) (.ref 567) SN:=fun F m st fz s vs xs kw xk K X Q E FO LV R rvs rk h P PE=>by
 obtain⟨x,v,rfl,rfl,r1,h⟩:=ki h rvs rk
 obtain⟨y,hy,hz,hK⟩:=ac h
 obtain rfl:=ek hy
 exact xx FO LV (fun qq=>oh) (NA _) (.of_eq (CR _ _)) (au (EN _) rfl) S8 (Fe _) R (O8 (bJ 4) r1) (yc hz hK) P
theorem Fv:oZ w la ex gs (n+1) cy:= .ref Bm (.ref BI (.ref Ih oh))
end
end
section
noncomputable abbrev aH:=Str×Str×Str
noncomputable def aV(a:aH):V:= .tup [.str a.1,.str a.2.1,.str a.2.2]
noncomputable def bg(x:Str):aH:=("",x, "")
noncomputable def um(i:Nat) (n:Int):List Str:=fG.getD ((n.fdiv 238+i).fmod 7).toNat []++e9.getD (n.fmod 14).toNat []
noncomputable def iq(i:Nat) (n:Int):Str×Str:=cS.getD ((n.fdiv 14+i).fmod 17).toNat ("", "")
noncomputable def rH(i:Nat) (n:Int):Int:=(n.fdiv 1666+i).fmod 4
noncomputable def yZ(c:Bool) (cut:Int) (val:Str):Str:=match c with|true=>aQ (aQ (Txt.slice val none (some cut)) "\\\n") (Txt.slice val (some cut) none)|false=>val
noncomputable def aF(cut:Int) (val:Str):Str:=yZ (decide (0<cut)&&decide (cut<ar val)) cut val
noncomputable def rI(c:Bool):List aH:=match c with|true=>[bg " "]|false=>[]
noncomputable def fZ(val:Str):List aH:=rI (bU val "/" || bU val "\\")
noncomputable def dE(i:Nat) (n:Int):List aH:=(um i n).map bg++((iq i n).1,aF (rH i n) (iq i n).2,(iq i n).2)::fZ (iq i n).2
noncomputable def fE:Nat->List Int->List aH
 |_,[]=>[]
 |i,n::ns=>dE i n++fE (i+1) ns
noncomputable def TK:X:= .bin .Add (.sub (.glob 2) (.bin .Mod (.bin .Add (.bin .FloorDiv (.loc 7) (.k (.int 238))) (.loc 6)) (.k (.int 7)))) (.sub (.glob 3) (.bin .Mod (.loc 7) (.k (.int 14))))
noncomputable def TG:X:= .tup (.cons (.k (.str "")) (.cons (.loc 8) (.cons (.k (.str "")) .nil)))
noncomputable def TH:X:= .sub (.call (.glob 5) .nil) (.bin .Mod (.bin .Add (.bin .FloorDiv (.loc 7) (.k (.int 14))) (.loc 6)) (.k (.int 17)))
noncomputable def Lw:T:= .asg 11 (.bin .Mod (.bin .Add (.bin .FloorDiv (.loc 7) (.k (.int 1666))) (.loc 6)) (.k (.int 4)))
noncomputable def Ud:X:= .tand (.cmp .Lt (.k (.int 0)) (.loc 11)) (.cmp .Lt (.loc 11) (.call (.glob 1) (.cons (.loc 10) .nil)))
noncomputable def Tv:X:= .bin .Add (.bin .Add (.slc (.loc 10) (.k .none) (.loc 11)) (.k (.str "\\\n"))) (.slc (.loc 10) (.loc 11) (.k .none))
noncomputable def On:T:= .asg 12 (.ite Ud Tv (.loc 10))
noncomputable def T1:X:= .tup (.cons (.loc 9) (.cons (.loc 12) (.cons (.loc 10) .nil)))
noncomputable def Tj:X:= .tor (.cmp .Eq (.loc 10) (.k (.str "/"))) (.cmp .Eq (.loc 10) (.k (.str "\\")))
noncomputable def OY:X:= .tup (.cons (.k (.str "")) (.cons (.k (.str " ")) (.cons (.k (.str "")) .nil)))
noncomputable def Uj:X:= .sub (.glob 4) (.bin .Mod (.loc 2) (.k (.int 11)))
noncomputable def AC:Us:= .cons (.app 5 TG) .nil
noncomputable def P1:Us:= .cons (.ite Tj (.cons (.app 5 OY) .nil) .nil) .nil
noncomputable def Sq:Us:= .cons (.app 5 T1) P1
noncomputable def RW:Us:= .cons (.ir On) Sq
noncomputable def MK:Us:= .cons (.asg [9,10] TH) (.cons (.ir Lw) RW)
noncomputable def O0:Us:= .cons (.forT (.nm 8) TK AC) MK
noncomputable def uA:U:= .enum 1 6 7 O0
noncomputable def uB:U:= .forT (.nm 8) Uj AC
noncomputable def rA(x0:Option V) (num tot old opt atm:V) (x6 x7 x8 x9 x10 x11 x12:Option V):List (Option V) :=
 [x0,some num,some tot,some old,some opt,some atm,x6,x7,x8,x9,x10,x11,x12,none,none,none,none,none,none,none,none,none,none,none,none,none,none,none,none]
theorem nk{k:Int} (h0:0<=k) (h1:k<n):seqIndex? k n=some k.toNat :=
 (congrArg (fun j:Int=>if 0<=j&&j<(n:Int) then some j.toNat else none) (if_neg (Int.not_lt.mpr h0):(if k<0 then k+(n:Int) else k)=k)).trans (if_pos (Bool.and_eq_true_iff.mpr ⟨decide_eq_true h0,decide_eq_true h1⟩))
theorem jK(a:Int) {b:Int} (hb:0<b):0<=a.fmod b/\a.fmod b<b:=⟨Int.fmod_nonneg_of_pos a hb,Int.fmod_lt_of_pos a hb⟩
theorem nq{f:α->V}{l:List α}{b:Int} (d:α) (hl:(l.length:Int)=b) (hb:0<b) (h6:b<=1000000) (a:Int) {st:aG}{c:lH}{X:bE->aG->Prop} (hK:K (f (l.getD (a.fmod b).toNat d)) st):(eP c).sub (.lst (l.map f)) (.int (a.fmod b)) st K X:=by
 have q:=jK a hb
 generalize a.fmod b=k at q hK ⊢
 have hlt:k<((l.map f).length:Int):=by rw[XR,hl];exact q.2
 have hn:k.toNat<l.length:=(Int.toNat_lt q.1).mpr (by rw[hl];exact q.2)
 refine⟨⟨Int.le_trans (by decide) q.1,Int.le_trans (Int.le_of_lt q.2) h6⟩,_,(congrArg (fun o:Option Nat=>o.bind ((l.map f)[·]?)) (nk q.1 hlt)).trans ?_,hK⟩
 rw[Option.bind_some,List.getElem?_map,List.getD_eq_getElem?_getD,List.getElem?_eq_getElem hn]
 rfl
theorem ms(a b:List Str):sV a++sV b=sV (a++b):=XM.symm
theorem hU{l:List (List Str)}{N:Nat} (h:∀x∈l,x.length<=N) (k:Nat):(l.getD k []).length<=N:=by
 rw[List.getD_eq_getElem?_getD]
 rcases e:l[k]? with qq|x
 . exact Nat.zero_le _
 . exact h x (List.mem_of_getElem? e)
theorem kK(i:Nat) (n:Int):iq i n∈cS:=by
 have q:=jK (n.fdiv 14+i) (b:=17) (by decide)
 have h2:((n.fdiv 14+i).fmod 17).toNat<cS.length:=(Int.toNat_lt q.1).mpr q.2
 exact(congrArg (. ∈cS) (List.getD_eq_getElem?_getD.trans (congrArg (·.getD ("", "")) (List.getElem?_eq_getElem h2)))).mpr (List.getElem_mem h2)
theorem rQ:∀p∈cS,ar p.2<=10:=by decide +kernel
theorem eF{l u:Option Int}:ar (Txt.slice x l u)<=ar x:=by
 have:=Txt.slice_le x l u
 rw[bo,bo] at this
 exact this
theorem iI(x y:Str):ar (aQ x y)=ar x+ar y:=by
 show(x.cps.toList++y.cps.toList).length=_
 exact Xg
theorem fq(i:Nat) (k:Int):(um i k).length<=20 :=
 WZ (W9 Xg) (Nat.add_le_add (hU (l:=fG) (N:=10) (by decide +kernel) _) (hU (l:=e9) (N:=10) (by decide +kernel) _))
theorem oN(v:Str):(fZ v).length<=1:=by
 show(rI _).length<=1
 cases bU v "/" || bU v "\\" <;> decide
theorem p5(i:Nat) (k:Int):(dE i k).length<=30 :=
 WZ (W9 (Xg.trans (congrArg (. +_) (XR _)))) (WZ (Nat.add_le_add (fq i k) (XX (oN _))) (by decide))
section
variable {K:KS}{own:aG}
theorem sU{x:X}{v:V}{pre post:aG} (hn:fS ρ i=some (.raw (.ref a))) (H:∀K':V->aG->Prop,K' v (pre++(a,xs)::post)->cZ (eP cy) ρ nB x (pre++(a,xs)::post) K') (hz:xs.length<=1000000) (hK:K .next ρ (pre++(a,xs++[v])::post)):wi cy (.app i x) ρ (pre++(a,xs)::post) K :=
 fX hn (fX (u:=a) rfl ⟨⟨pre,xs,post,rfl⟩,H _ ⟨pre,xs,post,rfl,hz,hK⟩⟩)
noncomputable abbrev cr(a:W3) (l:List aH):aG:=[(a,l.map aV)]
theorem rz{x:X}{l:List aH}{b:aH} (hn:fS ρ 5=some (.raw (.ref a))) (H:∀K':V->aG->Prop,K' (aV b) (cr a l)->cZ (eP cy) ρ nB x (cr a l) K') (hz:l.length<=1000000) (hK:K .next ρ (cr a (l++[b]))):wi cy (.app 5 x) ρ (cr a l) K :=
 sU (pre:=[]) (post:=[]) hn H ((XR (as:=l) aV).symm▸hz) (show K .next ρ [(a,l.map aV++[aV b])] from(XM (f:=aV) (l₁:=l) (l₂:=[b]))▸hK)
end
end
section
section
variable {K:KS}{x0:Option V}{num tot old opt:V}{at':W3}{x6 x7 x11 x12:Option V}
theorem kF:∀(ws:List Str) (l:List aH) (x8:Option V),l.length+ws.length<=1000000->(∀x8,K .next (rA x0 num tot old opt (.raw (.ref at')) x6 x7 x8 x9 x10 x11 x12) (cr at' (l++ws.map bg))) ->
   uK (aP cy AC) (.nm 8) K (sV ws) (rA x0 num tot old opt (.raw (.ref at')) x6 x7 x8 x9 x10 x11 x12) (cr at' l)
 |[],l,x8,_,h=>(XY l▸h x8 :)
 |w::ws,l,_,hz,h=>rz (ρ:=rA x0 num tot old opt (.raw (.ref at')) x6 x7 (some (.str w)) x9 x10 x11 x12) (b:=bg w) rfl (fun qq h=>h) (WZ (XL _ _) hz)
   (kF ws (l++[bg w]) _ (WZ (W9 ((congrArg (. +ws.length) Xg).trans (Nat.add_right_comm _ _ _))) hz) fun x8=>(Xo l [bg w] (ws.map bg)).symm▸h x8)
noncomputable def jv(K:KS) (x0:Option V) (num tot old opt:V) (at':W3) (x6 x7 x8 x9:Option V) (val:Str) (cut:Int) (own:aG) (v:V):Prop:=K .next (rA x0 num tot old opt (.raw (.ref at')) x6 x7 x8 x9 (some (.str val)) (some (.int cut)) (some v)) own
theorem AB{val:Str}{cut:Int}{own:aG} (hval:ar val<=10) (hK:jv K x0 num tot old opt at' x6 x7 x8 x9 val cut own (.str (aF cut val))) :
   wi cy (.ir On) (rA x0 num tot old opt (.raw (.ref at')) x6 x7 x8 x9 (some (.str val)) (some (.int cut)) x12) own K:=by
 have a0:ar val<=1000000:=WZ hval (by decide)
 have a1:ar (Txt.slice val none (some cut))+ar ("\\\n" : Str)<=100000:=WZ (XG (WZ eF hval) _) (by decide +kernel)
 have a2:ar (aQ (Txt.slice val none (some cut)) "\\\n")+ar (Txt.slice val (some cut) none)<=100000:=WZ (Nat.add_le_add (WZ (W9 (iI _ _)) (XG (WZ eF hval) _)) (WZ eF hval)) (by decide +kernel)
 have bro:∀c:Bool,jv K x0 num tot old opt at' x6 x7 x8 x9 val cut own (.str (yZ c cut val))->(match c with
     |true=>ar val<=1000000/\ar (Txt.slice val none (some cut))+ar ("\\\n" : Str)<=100000/\ar val<=1000000/\ar (aQ (Txt.slice val none (some cut)) "\\\n")+ar (Txt.slice val (some cut) none)<=100000/\jv K x0 num tot old opt at' x6 x7 x8 x9 val cut own (.str (aQ (aQ (Txt.slice val none (some cut)) "\\\n") (Txt.slice val (some cut) none)))
     |false=>jv K x0 num tot old opt at' x6 x7 x8 x9 val cut own (.str val)):=fun c=>by
   rcases c with qq|qq
   . exact fun h=>h
   . exact fun h=>⟨a0,a1,a0,a2,h⟩
 have go:∀b c:Bool,jv K x0 num tot old opt at' x6 x7 x8 x9 val cut own (.str (yZ (b&&c) cut val))->(match b with
     |true=>ar val<=1000000/\(match c with
       |true=>ar val<=1000000/\ar (Txt.slice val none (some cut))+ar ("\\\n" : Str)<=100000/\ar val<=1000000/\ar (aQ (Txt.slice val none (some cut)) "\\\n")+ar (Txt.slice val (some cut) none)<=100000/\jv K x0 num tot old opt at' x6 x7 x8 x9 val cut own (.str (aQ (aQ (Txt.slice val none (some cut)) "\\\n") (Txt.slice val (some cut) none)))
       |false=>jv K x0 num tot old opt at' x6 x7 x8 x9 val cut own (.str val))
     |false=>jv K x0 num tot old opt at' x6 x7 x8 x9 val cut own (.str val)):=fun b c=>by
   rcases b with qq|qq
   . exact fun h=>h
   . exact fun h=>⟨a0,bro c h⟩
 exact go _ _ hK
noncomputable abbrev aX(us:Us) (K:KS):KS:=NZ (fun ρ own=>aP cy us ρ own K) K
theorem yi{l:List aH}{val:Str} (hl:l.length<=1000000) (hK:K .next (rA x0 num tot old opt (.raw (.ref at')) x6 x7 x8 x9 (some (.str val)) x11 x12) (cr at' (l++fZ val))) :
   aP cy P1 (rA x0 num tot old opt (.raw (.ref at')) x6 x7 x8 x9 (some (.str val)) x11 x12) (cr at' l) K:=by
 have yes:K .next (rA x0 num tot old opt (.raw (.ref at')) x6 x7 x8 x9 (some (.str val)) x11 x12) (cr at' (l++[bg " "]))->aP cy (.cons (.app 5 OY) .nil) (rA x0 num tot old opt (.raw (.ref at')) x6 x7 x8 x9 (some (.str val)) x11 x12) (cr at' l) (aX .nil K) :=
   fun h=>rz (b:=bg " ") rfl (fun qq h=>h) hl h
 have no:K .next (rA x0 num tot old opt (.raw (.ref at')) x6 x7 x8 x9 (some (.str val)) x11 x12) (cr at' (l++[]))->K .next (rA x0 num tot old opt (.raw (.ref at')) x6 x7 x8 x9 (some (.str val)) x11 x12) (cr at' l):=fun h=>XY l▸h
 have go:∀b c:Bool,K .next (rA x0 num tot old opt (.raw (.ref at')) x6 x7 x8 x9 (some (.str val)) x11 x12) (cr at' (l++rI (b || c)))->(match b with
     |true=>aP cy (.cons (.app 5 OY) .nil) (rA x0 num tot old opt (.raw (.ref at')) x6 x7 x8 x9 (some (.str val)) x11 x12) (cr at' l) (aX .nil K)
     |false=>(match c with
       |true=>aP cy (.cons (.app 5 OY) .nil) (rA x0 num tot old opt (.raw (.ref at')) x6 x7 x8 x9 (some (.str val)) x11 x12) (cr at' l) (aX .nil K)
       |false=>K .next (rA x0 num tot old opt (.raw (.ref at')) x6 x7 x8 x9 (some (.str val)) x11 x12) (cr at' l))):=fun b c=>by
   rcases b with qq|qq
   . rcases c with qq|qq
     . exact no
     . exact yes
   . exact yes
 exact go _ _ hK
theorem F7(a b:List Str):(sV a).length+(sV b).length=(a++b).length:=by rw[cO,cO,Xg]
theorem Ko(l:List aH) (i:Nat) (k:Int):l++(um i k).map bg++[((iq i k).1,aF (rH i k) (iq i k).2,(iq i k).2)]++fZ (iq i k).2=l++dE i k:=(Xo _ _ _).trans (Xo _ _ _)
theorem GY{l:List aH}{a b:Nat} (h:l.length<=a) (ws:List Str) (hw:ws.length<=b):(l++ws.map bg).length<=a+b:=WZ (W9 (Xg.trans (congrArg (l.length+ ·) (XR bg)))) (Nat.add_le_add h hw)
theorem JB{l:List aH}{kind val:Str}{cut:Int} (hl:l.length<=900020) (hval:ar val<=10) (hK:∀x12,K .next (rA x0 num tot old opt (.raw (.ref at')) x6 x7 x8 (some (.str kind)) (some (.str val)) (some (.int cut)) x12) (cr at' (l++[(kind,aF cut val,val)]++fZ val))) :
   aP cy RW (rA x0 num tot old opt (.raw (.ref at')) x6 x7 x8 (some (.str kind)) (some (.str val)) (some (.int cut)) x12) (cr at' l) K :=
 AB (K:=aX Sq K) hval (rz (K:=aX P1 K) (ρ:=rA x0 num tot old opt (.raw (.ref at')) x6 x7 x8 (some (.str kind)) (some (.str val)) (some (.int cut)) (some (.str (aF cut val)))) (b:=(kind,aF cut val,val)) rfl (fun qq h=>h) (WZ hl (by decide))
   (yi (WZ (W9 Xg) (WZ (XX hl) (by decide))) (hK _)))
theorem LH{l:List aH}{k:Int} (hl:l.length<=900020) (hK:∀x9 x10 x11 x12,K .next (rA x0 num tot old opt (.raw (.ref at')) (some (.int i)) (some (.int k)) x8 x9 x10 x11 x12) (cr at' (l++[((iq i k).1,aF (rH i k) (iq i k).2,(iq i k).2)]++fZ (iq i k).2))) :
   aP cy MK (rA x0 num tot old opt (.raw (.ref at')) (some (.int i)) (some (.int k)) x8 x9 x10 x11 x12) (cr at' l) K:=by
 have h4:aP cy (.cons (.ir Lw) RW) (rA x0 num tot old opt (.raw (.ref at')) (some (.int i)) (some (.int k)) x8 (some (.str (iq i k).1)) (some (.str (iq i k).2)) x11 x12) (cr at' l) K:=Xy ⟨by decide,by decide⟩ (Xy (by decide) (JB hl (rQ _ (kK i k)) (hK _ _ _)))
 refine Xy ⟨by decide,by decide⟩ (Xy (by decide) ?_)
 refine nq (b:=17) (l:=cS) (f:=fun p:Str×Str=> .tup [.str p.1,.str p.2]) ("", "") rfl (by decide) (by decide) _ ?_
 exact h4
theorem CD{l:List aH}{k:Int} (hl:l.length<=900000) (hK:∀x8 x9 x10 x11 x12,K .next (rA x0 num tot old opt (.raw (.ref at')) (some (.int i)) (some (.int k)) x8 x9 x10 x11 x12) (cr at' (l++dE i k))) :
   aP cy O0 (rA x0 num tot old opt (.raw (.ref at')) (some (.int i)) (some (.int k)) x8 x9 x10 x11 x12) (cr at' l) K:=by
 have h3:∀x8,aP cy MK (rA x0 num tot old opt (.raw (.ref at')) (some (.int i)) (some (.int k)) x8 x9 x10 x11 x12) (cr at' (l++(um i k).map bg)) K:=fun x8=>LH (GY hl _ (fq i k)) fun qq qq qq qq=>(Ko l i k).symm▸hK _ _ _ _ _
 have h0:uK (aP cy AC) (.nm 8) (aX MK K) (sV (fG.getD ((k.fdiv 238+i).fmod 7).toNat [])++sV (e9.getD (k.fmod 14).toNat [])) (rA x0 num tot old opt (.raw (.ref at')) (some (.int i)) (some (.int k)) x8 x9 x10 x11 x12) (cr at' l) :=
   (ms _ _).symm▸kF (K:=aX MK K) (um i k) l x8 (WZ (Nat.add_le_add hl (fq i k)) (by decide)) h3
 refine Xy ⟨by decide,by decide⟩ (Xy (by decide) ?_)
 refine nq (b:=7) (l:=fG) (f:=fun x=> .lst (sV x)) [] rfl (by decide) (by decide) _ ?_
 refine Xy (by decide) ?_
 refine nq (b:=14) (l:=e9) (f:=fun x=> .lst (sV x)) [] rfl (by decide) (by decide) _ ?_
 exact Xy (WZ (W9 (F7 _ _)) (WZ (fq i k) (by decide))) h0
end
end
section
noncomputable def xb(t:Int):List Str:=lj.getD (t.fmod 11).toNat []
theorem mT(t:Int):(xb t).length<=10:=hU (l:=lj) (N:=10) (by decide +kernel) _
theorem gP:∀(l:List Int) (j:Nat),(fE j l).length<=30*l.length:=by intro l0;induction l0 with
 |nil=>intro qq;exact Xl _
 |cons n l ih=>intro j;exact WZ (W9 Xg) (WZ (Nat.add_le_add (p5 j n) (ih (j+1))) (W9 (Nat.add_comm _ _)))
section
variable {K:KS}{x0:Option V}{num tot old opt:V}{at':W3}{x6 x7 x11 x12:Option V}
theorem DT:∀(ns:List Int) (i:Nat) (l:List aH) (x6 x7 x8 x9 x10 x11 x12:Option V),l.length+30*ns.length<=900000->(∀x6 x7 x8 x9 x10 x11 x12,K .next (rA x0 num tot old opt (.raw (.ref at')) x6 x7 x8 x9 x10 x11 x12) (cr at' (l++fE i ns))) ->
   Eu (aP cy O0) 6 7 K i (ns.map .int) (rA x0 num tot old opt (.raw (.ref at')) x6 x7 x8 x9 x10 x11 x12) (cr at' l)
 |[],_,l,_,_,_,_,_,_,_,_,h=>(XY l▸h _ _ _ _ _ _ _ :)
 |n::ns,i,l,_,_,x8,x9,x10,x11,x12,hz,h=>CD (K:=KJ (Eu (aP cy O0) 6 7 K (i+1) (ns.map .int)) K) (WZ (XL _ _) hz) fun qq qq qq qq qq =>
   DT ns (i+1) (l++dE i n) _ _ _ _ _ _ _ (WZ (XG (WZ (W9 Xg) (XB (p5 i n) _)) _) (WZ (W9 ((Nat.add_assoc _ _ _).trans (congrArg (l.length+ ·) (Nat.add_comm 30 (30*ns.length))))) hz)) fun qq qq qq qq qq qq qq=>(Xo l (dE i n) (fE (i+1) ns)).symm▸h _ _ _ _ _ _ _
theorem Ld{ns:List Int} (hz:ns.length<=100) (h:∀x6 x7 x8 x9 x10 x11 x12,K .next (rA x0 (.lst (ns.map .int)) tot old opt (.raw (.ref at')) x6 x7 x8 x9 x10 x11 x12) (cr at' (fE 0 ns))) :
   wi cy uA (rA x0 (.lst (ns.map .int)) tot old opt (.raw (.ref at')) x6 x7 x8 x9 x10 x11 x12) (cr at' []) K :=
 DT ns 0 [] x6 x7 x8 x9 x10 x11 x12 (WZ (W9 (Nat.zero_add _)) (WZ (Nat.mul_le_mul_left 30 hz) (by decide))) h
theorem OP{t:Int}{l:List aH} (hl:l.length<=900000) (h:∀x8,K .next (rA x0 num (.int t) old opt (.raw (.ref at')) x6 x7 x8 x9 x10 x11 x12) (cr at' (l++(xb t).map bg))) :
   wi cy uB (rA x0 num (.int t) old opt (.raw (.ref at')) x6 x7 x8 x9 x10 x11 x12) (cr at' l) K:=by
 refine Xy (by decide) ?_
 refine nq (b:=11) (l:=lj) (f:=fun x=> .lst (sV x)) [] rfl (by decide) (by decide) _ ?_
 exact kF (xb t) l x8 (WZ (Nat.add_le_add hl (mT t)) (by decide)) h
end
end
section
noncomputable def Pz(ty v sp:Str) (f:Bool) (r k:Int):V:= .tup [.str ty,.str v,.str sp,.bool f,.int r,.int k]
structure bL where
 ty:Str
 v:Str
 sp:Str
 f:Bool
 r:Int
 k:Int
noncomputable def bL.V(x:bL):V:=Pz x.ty x.v x.sp x.f x.r x.k
structure DS where
 done:Str
 due:List bL
 space:Str
 first:Bool
 run:Bool
 last:Int×Int
 refused:Bool
noncomputable def cj(w:Str):Bool:=bU (bx w) " " || bU (bx w) "\t"
noncomputable def kj(w:Str):Bool:=bU (Txt.slice (bx w) none (some 2)) "//"
noncomputable def wide(d w:Str):Int:=(aJ (aQ d w)).2 - (aJ d).2
noncomputable def bG(w:Str):Str:=Txt.slice w none (some (zb w "/" 1+1))
noncomputable def gz{α:Type} (b:Bool) (x y:α):α:=match b with|true=>x|false=>y
noncomputable def Pb(d:DS) (a:aH):DS:={d with due:=d.due++[⟨a.1,a.2.2,d.space,d.first,(aJ d.done).1,(aJ d.done).2⟩],space := "",first:=false,run:=false,last:=aJ d.done}
noncomputable def Of(d:DS):DS:={d with due:=gz d.first (d.due++[⟨"BOL", "", "",true,(aJ d.done).1,(aJ d.done).2⟩]) d.due,space := "",first:=true,run:=false,last:=aJ d.done}
noncomputable def Je(d:DS) (a:aH):DS:={d with last:=gz d.run d.last (aJ d.done),run:=true,space:=aQ d.space (Txt.mul " " (wide d.done a.2.1))}
noncomputable def KT(d:DS):DS:={d with due:=d.due++[⟨"refused", "", "",false,0,0⟩],refused:=true}
noncomputable def ER(d:DS) (a:aH):DS:={d with due:=d.due++[⟨"refused", "", "",false,(aJ (aQ d.done (bG a.2.1))).1,(aJ (aQ d.done (bG a.2.1))).2⟩],refused:=true}
noncomputable def Am(d:DS):DS:={d with run:=false}
noncomputable def aZ(old:Bool) (d:DS) (a:aH):DS :=
 gz (!bU a.1 "") (Pb d a) (gz (bU a.2.1 "\n") (Of d) (gz (cj a.2.1) (Je d a) (gz (bw.any (. == bx a.2.1)) (KT d) (gz (kj a.2.1&&old) (ER d a) (gz (!bU (bx a.2.1) "") (Am d) d)))))
noncomputable def iR(d:DS) (a:aH):DS:={d with done:=aQ d.done a.2.1}
noncomputable def gL(old:Bool):DS->List aH->DS
 |d,[]=>d
 |d,a::r=>gz (aZ old d a).refused (aZ old d a) (gL old (iR (aZ old d a) a) r)
structure e8(d:DS) (a:aH):Prop where
 done:ar d.done+ar a.2.1<=40000
 space:ar d.space<=40000
 due:d.due.length<=40000
 bare:ar (bx a.2.1)<=1000
 wide:cj a.2.1=true->0<=wide d.done a.2.1/\wide d.done a.2.1<=100
noncomputable def LE(old:Bool):DS->List aH->Prop
 |_,[]=>True
 |d,a::r=>e8 d a/\((aZ old d a).refused=false->LE old (iR (aZ old d a) a) r)
structure XS where
 x0:Option V
 x1:Option V
 x2:Option V
 x4:Option V
 x5:Option V
 x6:Option V
 x7:Option V
 x11:Option V
 x12:Option V
 x13:Option V
 x14:Option V
noncomputable def rC(X:XS) (old:Bool) (x8 x9 x10:Option V) (d:DS) (du:W3) (x22 x23 x24:Option V):List (Option V) :=
 [X.x0,X.x1,X.x2,some (.bool old),X.x4,X.x5,X.x6,X.x7,x8,x9,x10,X.x11,X.x12,X.x13,X.x14,some (.str d.done),some (.raw (.ref du)),some (.str d.space),some (.bool d.first),some (.bool d.run),some (.tup [.int d.last.1,.int d.last.2]),some (.bool d.refused),x22,x23,x24,none,none,none,none]
noncomputable def bT(O:aG) (du:W3) (l:List bL):aG:=(du,l.map bL.V)::O
noncomputable def Tn:X:= .tup (.cons (.k (.str "")) (.cons (.lst .nil) (.cons (.k (.str "")) (.cons (.k (.bool true)) (.cons (.k (.bool false)) (.cons (.tup (.cons (.k (.int 1)) (.cons (.k (.int 1)) .nil))) (.cons (.k (.bool false)) .nil)))))))
noncomputable def Uc:X:= .call (.glob 7) (.cons (.loc 15) .nil)
noncomputable def TN:X:= .cmp .NotEq (.loc 9) (.k (.str ""))
noncomputable def To:X:= .tup (.cons (.loc 9) (.cons (.loc 10) (.cons (.loc 17) (.cons (.loc 18) (.cons (.loc 22) (.cons (.loc 23) .nil))))))
noncomputable def Pn(b:Bool):X:= .tup (.cons (.k (.str "")) (.cons (.k (.bool b)) (.cons (.k (.bool false)) (.cons (.tup (.cons (.loc 22) (.cons (.loc 23) .nil))) .nil))))
noncomputable def TP:X:= .cmp .Eq (.loc 8) (.k (.str "\n"))
noncomputable def SY:X:= .tup (.cons (.k (.str "BOL")) (.cons (.k (.str "")) (.cons (.k (.str "")) (.cons (.k (.bool true)) (.cons (.loc 22) (.cons (.loc 23) .nil))))))
noncomputable def Uk:X:= .tor (.cmp .Eq (.loc 24) (.k (.str " "))) (.cmp .Eq (.loc 24) (.k (.str "\t")))
noncomputable def El:T:= .asg 20 (.tup (.cons (.loc 22) (.cons (.loc 23) .nil)))
noncomputable def pE:T:= .asg 19 (.k (.bool true))
noncomputable def pJ:T:= .aug 17 .Add (.bin .Mult (.k (.str " ")) (.bin .Sub (.sub (.call (.glob 7) (.cons (.bin .Add (.loc 15) (.loc 8)) .nil)) (.k (.int 1))) (.loc 23)))
noncomputable def Ta:X:= .cmp .In (.loc 24) (.call (.glob 6) .nil)
noncomputable def T5:X:= .tup (.cons (.k (.str "refused")) (.cons (.k (.str "")) (.cons (.k (.str "")) (.cons (.k (.bool false)) (.cons (.k (.int 0)) (.cons (.k (.int 0)) .nil))))))
noncomputable def SU:T:= .asg 21 (.k (.bool true))
noncomputable def TD:X:= .tand (.cmp .Eq (.slc (.loc 24) (.k .none) (.k (.int 2))) (.k (.str "//"))) (.loc 3)
noncomputable def TJ:X:= .bin .Add (.tup (.cons (.k (.str "refused")) (.cons (.k (.str "")) (.cons (.k (.str "")) (.cons (.k (.bool false)) .nil))))) (.call (.glob 7) (.cons (.bin .Add (.loc 15) (.slc (.loc 8) (.k .none) (.bin .Add (.mcall (.loc 8) 53 (.cons (.k (.str "/")) (.cons (.k (.int 1)) .nil))) (.k (.int 1))))) .nil))
noncomputable def Ug:X:= .cmp .NotEq (.loc 24) (.k (.str ""))
noncomputable def Qz:T:= .asg 19 (.k (.bool false))
noncomputable def HU:T:= .ite (.loc 21) (.cons .brk .nil) .nil
noncomputable def HF:T:= .aug 15 .Add (.loc 8)
noncomputable def iX(u:U):Us:= .cons u .nil
noncomputable def ss(u v:U):Us:= .cons u (.cons v .nil)
noncomputable def QU:Us:=ss (.app 16 To) (.asg [17,18,19,20] (Pn false))
noncomputable def QM:Us:=ss (.ite (.loc 18) (iX (.app 16 SY)) .nil) (.asg [17,18,19,20] (Pn true))
noncomputable def Qe:Us:= .cons (.ite (.tnot (.loc 19)) (iX (.ir El)) .nil) (ss (.ir pE) (.ir pJ))
noncomputable def Rq:Us:=ss (.app 16 T5) (.ir SU)
noncomputable def Rx:Us:=ss (.app 16 TJ) (.ir SU)
noncomputable def Sn:Us:=iX (.ir Qz)
noncomputable def e6:U:= .ite Ug Sn .nil
noncomputable def e5:U:= .ite TD Rx (iX e6)
noncomputable def e4:U:= .ite Ta Rq (iX e5)
noncomputable def e3:U:= .ite Uk Qe (iX e4)
noncomputable def e2:U:= .ite TP QM (iX e3)
noncomputable def e1:U:= .ite TN QU (iX e2)
noncomputable def Pk:Us:= .bare [22,23] Uc (.cons e1 (ss (.ir HU) (.ir HF)))
noncomputable def uC:U:= .forT (.tp [9,8,10]) (.loc 5) Pk
section
variable {K:KS}{Y:XS}{old:Bool}{x22 x23 x24:Option V}{d:DS}{du:W3}{O:aG}{a:aH}
noncomputable def r5(Y:XS) (old:Bool) (a:aH) (d0 d:DS) (du:W3):List (Option V):=rC Y old (some (.str a.2.1)) (some (.str a.1)) (some (.str a.2.2)) d du (some (.int (aJ d0.done).1)) (some (.int (aJ d0.done).2)) (some (.str (bx a.2.1)))
noncomputable def oS(K:KS) (Y:XS) (old:Bool) (a:aH) (d0 d:DS) (du:W3) (O:aG):Prop:=K .next (r5 Y old a d0 d du) (bT O du d.due)
noncomputable def kz(us:Us) (K:KS) (Y:XS) (old:Bool) (a:aH) (d:DS) (du:W3) (O:aG):Prop:=aP cy us (r5 Y old a d d du) (bT O du d.due) K
theorem qE{x:X}{l:List bL}{b:bL} (hn:fS ρ 16=some (.raw (.ref du))) (H:∀K':V->aG->Prop,K' b.V (bT O du l)->cZ (eP cy) ρ nB x (bT O du l) K') (hz:l.length<=1000000) (hK:K .next ρ (bT O du (l++[b]))):wi cy (.app 16 x) ρ (bT O du l) K :=
 sU (pre:=[]) (post:=O) hn H ((XR (as:=l) bL.V).symm▸hz) (show K .next ρ ((du,l.map bL.V++[b.V])::O) from(XM (f:=bL.V) (l₁:=l) (l₂:=[b]))▸hK)
theorem td{us:Us}{x:X}{b:bL} (hS:e8 d a) (H:∀K':V->aG->Prop,K' b.V (bT O du d.due)->cZ (eP cy) (r5 Y old a d d du) nB x (bT O du d.due) K') (h:aP cy us (r5 Y old a d d du) (bT O du (d.due++[b])) K):kz (.cons (.app 16 x) us) K Y old a d du O :=
 qE rfl H (WZ hS.due (by decide)) h
theorem T7(hS:e8 d a) (h:oS K Y old a d (Pb d a) du O):kz QU K Y old a d du O :=
 td (b:=⟨a.1,a.2.2,d.space,d.first,(aJ d.done).1,(aJ d.done).2⟩) hS (fun qq h=>h) h
theorem S9(hS:e8 d a) (h:oS K Y old a d (KT d) du O):kz Rq K Y old a d du O :=
 td (b:=⟨"refused", "", "",false,0,0⟩) hS (fun qq h=>h) h
theorem TF(h:oS K Y old a d (Am d) du O):kz Sn K Y old a d du O:=h
end
end
section
section
variable {K:KS}{Y:XS}{old:Bool}{x22 x23 x24:Option V}{d:DS}{du:W3}{O:aG}{a:aH}
theorem dF{P:α->Prop} (b:Bool) {x y:α}{A B:Prop} (h:P (gz b x y)) (ht:b=true->P x->A) (hf:b=false->P y->B):kq b A B:=by
 rcases b with qq|qq
 . exact hf rfl h
 . exact ht rfl h
theorem fm{P:α->Prop} (b:Bool) {x y:α} (hx:P x) (hy:P y):P (gz b x y):=by
 rcases b with qq|qq
 . exact hy
 . exact hx
theorem Td(hS:e8 d a) (h:oS K Y old a d (Of d) du O):kz QM K Y old a d du O :=
 dF (P:=fun l=>K .next (r5 Y old a d (Of d) du) (bT O du l)) d.first h (fun qq h=>td (x:=SY) (us:= .nil) (K:=aX (iX (.asg [17,18,19,20] (Pn true))) K) (b:=⟨"BOL", "", "",true,(aJ d.done).1,(aJ d.done).2⟩) hS (fun qq h=>h) h) fun qq h=>h
theorem BR:∀k:Fin 101,ar (Txt.mul " " (k.val:Int))=k.val:=by decide +kernel
theorem vt{k:Int} (h:0<=k/\k<=100):ar (Txt.mul " " k)<=100:=by
 obtain⟨n,rfl⟩:=Int.eq_ofNat_of_zero_le h.1
 have hn:n<=100:=Int.ofNat_le.mp h.2
 exact WZ (W9 (BR ⟨n,Nat.lt_succ_of_le hn⟩)) hn
theorem u0:∀k:Fin 101,MulOk " " (k.val:Int):=by unfold MulOk;decide +kernel
theorem w3{k:Int} (h:0<=k/\k<=100):MulOk " " k:=by
 obtain⟨n,rfl⟩:=Int.eq_ofNat_of_zero_le h.1
 exact u0 ⟨n,Nat.lt_succ_of_le (Int.ofNat_le.mp h.2)⟩
theorem Jk(h:n<=40000):n<=100000:=WZ h (by decide)
theorem sT{P:α->Prop} (b:Bool) {x y:α}{A B:Prop} (h:P (gz b x y)) (ht:P y->A) (hf:P x->B):kq (!b) A B:=by
 rcases b with qq|qq
 . exact ht h
 . exact hf h
theorem KK{c:lH}{x:X}{us:Us}{own:aG} (v:V) (H:∀K':V->aG->Prop,K' v own->cZ (eP c) ρ nB x own K') (h:aP c us (cU ρ i v) own K):aP c (.cons (.ir (.asg i x)) us) ρ own K:=H _ h
theorem yP{us:Us}{own:aG} (h:aP cy us ρ own K):aP cy .nil ρ own (aX us K):=h
theorem RB{l:V} (hS:e8 d a) (hb:cj a.2.1=true) (h:K .next (cU (cU (cU (r5 Y old a d d du) 20 l) 19 (.bool true)) 17 (.str (aQ d.space (Txt.mul " " (wide d.done a.2.1))))) (bT O du d.due)):aP cy (ss (.ir pE) (.ir pJ)) (cU (r5 Y old a d d du) 20 l) (bT O du d.due) K :=
 have hw:=hS.wide hb
 Xy (Jk hS.done) (Xy (Jk (WZ (W9 (iI _ _)) hS.done)) (Xy ⟨by decide,by decide⟩ (Exists.intro _ (Xy rfl (Xy (w3 hw) (Xy rfl (Xy (WZ (Nat.add_le_add hS.space (vt hw)) (by decide)) h)))))))
theorem Tc(hS:e8 d a) (hb:cj a.2.1=true) (h:oS K Y old a d (Je d a) du O):kz Qe K Y old a d du O :=
 sT (P:=fun l:Int×Int=>aP cy (ss (.ir pE) (.ir pJ)) (cU (r5 Y old a d d du) 20 (.tup [.int l.1,.int l.2])) (bT O du d.due) K) d.run (x:=d.last) (y:=aJ d.done) (RB hS hb h)
   (A:=aP cy (iX (.ir El)) (r5 Y old a d d du) (bT O du d.due) (aX (ss (.ir pE) (.ir pJ)) K)) (fun h=>KK _ (fun qq h=>h) (yP h))
   (B:=aP cy .nil (r5 Y old a d d du) (bT O du d.due) (aX (ss (.ir pE) (.ir pJ)) K)) fun h=>yP h
theorem Tk(hS:e8 d a) (h:oS K Y old a d (ER d a) du O):kz Rx K Y old a d du O :=
 have hl:ar d.done+ar (bG a.2.1)<=40000:=WZ (XB eF _) hS.done
 td (b:=⟨"refused", "", "",false,(aJ (aQ d.done (bG a.2.1))).1,(aJ (aQ d.done (bG a.2.1))).2⟩) hS (fun qq h=>Xy (WZ (Nat.le_of_add_left_le hS.done) (by decide)) (Xy (Jk hl) (Xy (Jk (WZ (W9 (iI _ _)) hl)) (Xy ⟨rfl,rfl⟩ (Xy (Xd rfl) h))))) h
theorem Bi{A B:Prop} (b c:Bool):kq (b&&c) A B->match (generalizing:=false) b with|true=>kq c A B|false=>kq false A B:=by
 cases b<;>exact fun h=>h
theorem GT{A B:Prop} (b c:Bool):kq (b || c) A B->match (generalizing:=false) b with|true=>kq true A B|false=>kq c A B:=by
 cases b<;>exact fun h=>h
theorem c6(h:oS K Y old a d (gz (!bU (bx a.2.1) "") (Am d) d) du O):kz (iX e6) K Y old a d du O :=
 dF (P:=fun d'=>oS (aX .nil K) Y old a d d' du O) (!bU (bx a.2.1) "") h (fun qq h=>TF h) fun qq h=>h
theorem c5(hS:e8 d a) (h:oS K Y old a d (gz (kj a.2.1&&old) (ER d a) (gz (!bU (bx a.2.1) "") (Am d) d)) du O):kz (iX e5) K Y old a d du O :=
 Xy (WZ hS.bare (by decide)) (Bi (kj a.2.1) old (A:=kz Rx (aX .nil K) Y old a d du O) (B:=kz (iX e6) (aX .nil K) Y old a d du O) (dF (P:=fun d'=>oS (aX .nil K) Y old a d d' du O) _ h (fun qq h=>Tk hS h) fun qq h=>c6 h))
theorem c4(hS:e8 d a) (h:oS K Y old a d (gz (bw.any (. == bx a.2.1)) (KT d) (gz (kj a.2.1&&old) (ER d a) (gz (!bU (bx a.2.1) "") (Am d) d))) du O):kz (iX e4) K Y old a d du O :=
 Exists.intro bw (Xy rfl (dF (A:=kz Rq (aX .nil K) Y old a d du O) (B:=kz (iX e5) (aX .nil K) Y old a d du O) (P:=fun d'=>oS (aX .nil K) Y old a d d' du O) _ h (fun qq h=>S9 hS h) fun qq h=>c5 hS h))
theorem c3(hS:e8 d a) (h:oS K Y old a d (gz (cj a.2.1) (Je d a) (gz (bw.any (. == bx a.2.1)) (KT d) (gz (kj a.2.1&&old) (ER d a) (gz (!bU (bx a.2.1) "") (Am d) d)))) du O):kz (iX e3) K Y old a d du O :=
 GT (bU (bx a.2.1) " ") (bU (bx a.2.1) "\t") (A:=kz Qe (aX .nil K) Y old a d du O) (B:=kz (iX e4) (aX .nil K) Y old a d du O) (dF (P:=fun d'=>oS (aX .nil K) Y old a d d' du O) _ h (fun hb h=>Tc hS hb h) fun qq h=>c4 hS h)
theorem c1{us:Us} (hS:e8 d a) (h:oS (aX us K) Y old a d (aZ old d a) du O):kz (.cons e1 us) K Y old a d du O :=
 dF (A:=kz QU (aX us K) Y old a d du O) (B:=kz (iX e2) (aX us K) Y old a d du O) (P:=fun d'=>oS (aX us K) Y old a d d' du O) (!bU a.1 "") h (fun qq h=>T7 hS h) fun qq h =>
   dF (A:=kz QM (aX .nil (aX us K)) Y old a d du O) (B:=kz (iX e3) (aX .nil (aX us K)) Y old a d du O) (P:=fun d'=>oS (aX .nil (aX us K)) Y old a d d' du O) (bU a.2.1 "\n") h (fun qq h=>Td hS h) fun qq h=>c3 hS h
theorem vQ:(aZ old d a).done=d.done :=
 fm (P:=fun d':DS=>d'.done=d.done) _ rfl (fm (P:=fun d':DS=>d'.done=d.done) _ rfl (fm (P:=fun d':DS=>d'.done=d.done) _ rfl (fm (P:=fun d':DS=>d'.done=d.done) _ rfl (fm (P:=fun d':DS=>d'.done=d.done) _ rfl (fm (P:=fun d':DS=>d'.done=d.done) _ rfl rfl)))))
end
end
section
noncomputable def SH:X:= .bin .Add (.tup (.cons (.k (.str "BOL")) (.cons (.k (.str "")) (.cons (.k (.str "")) (.cons (.k (.bool true)) .nil))))) (.loc 20)
noncomputable def LI:X:= .tup (.cons (.k (.str "end")) (.cons (.k (.str "")) (.cons (.k (.str "")) (.cons (.k (.bool false)) (.cons (.bin .Add (.call (.glob 1) (.cons (.loc 14) .nil)) (.k (.int 1))) (.cons (.k (.int 0)) .nil))))))
noncomputable def Ss:Us:=ss (.ite (.loc 18) (iX (.app 16 SH)) .nil) (.app 16 LI)
noncomputable def uD:U:= .ite (.tnot (.loc 21)) Ss .nil
noncomputable def BE(nl:Nat):bL:=⟨"end", "", "",false,(nl:Int)+1,0⟩
noncomputable def kS(d:DS) (nl:Nat):List bL :=
 gz d.refused d.due (gz d.first (d.due++[⟨"BOL", "", "",true,d.last.1,d.last.2⟩]) d.due++[BE nl])
section
variable {K:KS}{Y:XS}{old:Bool}{x22 x23 x24:Option V}{d:DS}{du:W3}{O:aG}{a:aH}
theorem Gf{d0 d':DS} (hl:ar d'.done+ar a.2.1<=100000) (h:kq d'.refused (K .brk (r5 Y old a d0 d' du) (bT O du d'.due)) (K .next (r5 Y old a d0 (iR d' a) du) (bT O du d'.due))):aP cy (ss (.ir HU) (.ir HF)) (r5 Y old a d0 d' du) (bT O du d'.due) K:=by
 obtain⟨q1,q2,q3,q4,q5,q6,r⟩:=d'
 rcases r with qq|qq
 . exact Xy rfl (Xy hl h)
 . exact h
theorem Mc(hS:e8 d a) (h:kq (aZ old d a).refused (K .brk (r5 Y old a d (aZ old d a) du) (bT O du (aZ old d a).due)) (K .next (r5 Y old a d (iR (aZ old d a) a) du) (bT O du (aZ old d a).due))) :
   aP cy Pk (rC Y old (some (.str a.2.1)) (some (.str a.1)) (some (.str a.2.2)) d du x22 x23 x24) (bT O du d.due) K :=
 have hl:ar (aZ old d a).done+ar a.2.1<=100000:=vQ (old:=old) (d:=d) (a:=a)▸Jk hS.done
 have h1:kz (.cons e1 (ss (.ir HU) (.ir HF))) K Y old a d du O:=c1 hS (Gf hl h)
 Xy (Jk (Nat.le_of_add_right_le hS.done)) (Xy (WZ (Nat.le_of_add_left_le hS.done) (by decide)) h1)
theorem DZ:∀(A:List aH) (d:DS) (x8 x9 x10 x22 x23 x24:Option V),LE old d A->d.refused=false->(∀x8 x9 x10 x22 x23 x24,K .next (rC Y old x8 x9 x10 (gL old d A) du x22 x23 x24) (bT O du (gL old d A).due)) ->
   uK (aP cy Pk) (.tp [9,8,10]) K (A.map aV) (rC Y old x8 x9 x10 d du x22 x23 x24) (bT O du d.due)
 |[],_,_,_,_,_,_,_,_,_,h=>h _ _ _ _ _ _
 |a::A,d,_,_,_,_,_,_,hS,_,h=>Mc (K:=KJ (uK (aP cy Pk) (.tp [9,8,10]) K (A.map aV)) K) hS.1
   (dF (P:=fun d'=>∀x8 x9 x10 x22 x23 x24,K .next (rC Y old x8 x9 x10 d' du x22 x23 x24) (bT O du d'.due)) (aZ old d a).refused h (fun qq h=>h _ _ _ _ _ _) fun hr h=>DZ A (iR (aZ old d a) a) _ _ _ _ _ _ (hS.2 hr) hr h)
theorem Kw{A:List aH} (hS:LE old d A) (hd:d.refused=false) (h:∀x8 x9 x10 x22 x23 x24,K .next (rC {Y with x5:=some (.lst (A.map aV))} old x8 x9 x10 (gL old d A) du x22 x23 x24) (bT O du (gL old d A).due)):wi cy uC (rC {Y with x5:=some (.lst (A.map aV))} old x8 x9 x10 d du x22 x23 x24) (bT O du d.due) K :=
 DZ A d x8 x9 x10 x22 x23 x24 hS hd h
noncomputable abbrev rD(Y:XS) (ln:W3) (old:Bool) (x8 x9 x10:Option V) (d:DS) (du:W3) (x22 x23 x24:Option V):List (Option V):=rC {Y with x14:=some (.raw (.ref ln))} old x8 x9 x10 d du x22 x23 x24
theorem y7{ls:List Str}{ln:W3}{pre post:aG}{l:List bL} (hls:ls.length<=1000000) (hz:l.length<=1000000) (h:K .next (rD Y ln old x8 x9 x10 d du x22 x23 x24) (bT (pre++(ln,sV ls)::post) du (l++[BE ls.length]))) :
   aP cy (iX (.app 16 LI)) (rD Y ln old x8 x9 x10 d du x22 x23 x24) (bT (pre++(ln,sV ls)::post) du l) K :=
 qE (b:=BE ls.length) (K:=aX .nil K) rfl (fun K' h=>Exists.intro ((du,l.map bL.V)::pre) (Exists.intro (sV ls) (Exists.intro post (Xy rfl (Xy (WZ (W9 (cO ls)) hls) ((cO ls).symm▸h)))))) hz h
theorem OJ{ls:List Str}{ln:W3}{pre post:aG} (hls:ls.length<=1000000) (hdu:d.due.length<=50000)
   (h:K .next (rD Y ln old x8 x9 x10 d du x22 x23 x24) (bT (pre++(ln,sV ls)::post) du (kS d ls.length))):wi cy uD (rD Y ln old x8 x9 x10 d du x22 x23 x24) (bT (pre++(ln,sV ls)::post) du d.due) K :=
 have hz:d.due.length<=1000000:=WZ hdu (by decide)
 sT (P:=fun l=>K .next (rD Y ln old x8 x9 x10 d du x22 x23 x24) (bT (pre++(ln,sV ls)::post) du l)) d.refused h
   (A:=aP cy Ss (rD Y ln old x8 x9 x10 d du x22 x23 x24) (bT (pre++(ln,sV ls)::post) du d.due) K) (fun h =>
     dF (P:=fun l=>K .next (rD Y ln old x8 x9 x10 d du x22 x23 x24) (bT (pre++(ln,sV ls)::post) du (l++[BE ls.length]))) d.first h
       (A:=aP cy (iX (.app 16 SH)) (rD Y ln old x8 x9 x10 d du x22 x23 x24) (bT (pre++(ln,sV ls)::post) du d.due) (aX (iX (.app 16 LI)) K))
       (fun qq h=>qE (b:=⟨"BOL", "", "",true,d.last.1,d.last.2⟩) (K:=aX .nil (aX (iX (.app 16 LI)) K)) rfl (fun K' h=>Xy ⟨rfl,rfl⟩ (Xy (Xd rfl) h)) hz (y7 hls (WZ (W9 Xg) (WZ (XX hdu) (by decide))) h))
       (B:=aP cy .nil (rD Y ln old x8 x9 x10 d du x22 x23 x24) (bT (pre++(ln,sV ls)::post) du d.due) (aX (iX (.app 16 LI)) K)) fun qq h=>yP (y7 hls hz h))
   (B:=aP cy .nil (rD Y ln old x8 x9 x10 d du x22 x23 x24) (bT (pre++(ln,sV ls)::post) du d.due) K) fun h=>h
end
end
section
noncomputable def CC(sc:Scope):Bool:=sc.kind == .function&&sc.names.all fun x=>(!(x.2 == .free)&&!(x.2 == .cell))&&(!(x.2 == .local) || sc.names.lookup x.1 == some .local)
structure CS(sc:Scope):Prop where
 kind:sc.kind= .function
 free:∀x∈sc.names,x.2≠ .free
 cell:∀x∈sc.names,x.2≠ .cell
 loc:∀x∈sc.names,x.2= .local->sc.names.lookup x.1=some .local
theorem gE(h:CC sc=true):CS sc :=
 have z:=X7.mp (ai h)
 ⟨eq_of_beq (af h),fun x hx e=>absurd (dq (af (af (z x hx)))) (by rw[e];exact XW),fun x hx e=>absurd (dq (ai (af (z x hx)))) (by rw[e];exact XW),fun x hx e=>(Bool.or_eq_true_iff.mp (ai (z x hx))).elim (fun h=>absurd (dq h) (by rw[e];exact XW)) eq_of_beq⟩
section
variable {c:lH}{own:aG}
theorem sL{mo:ad}{p q:W3×Obj}:(mo++p::q::ex++fz).Perm (mo++q::p::ex++fz):=((List.Perm.swap q p ex).append_left mo).append_right fz
theorem RS.jl_swap{p q:W3×Obj} (R:RS w (JL w.params la (p::q::ex) gs) F m own fz s):RS w (JL w.params la (q::p::ex) gs) F m own fz s:=by
 refine R.jl_open _ ?_;rintro mo hc N nd
 exact R.jl_mk hc (fun x hx=>N x (sL.mem_iff.mp hx)) ((sL.map (·.1)).nodup_iff.mpr nd) rfl R.fr rfl rfl
noncomputable def JJ(C:LX) (ex:ad) (m:Str->Option WY) (own:aG) (fz:ad) (A D:W3) (ys:List V) (R:Result->W2->Prop):Prop :=
 ∀fz' s' oC mC,(∀p∈fz,p∈fz')->RS C.w (C.J ((A,oC)::ex)) C.F m ((D,ys)::own) fz' s'->fL mC oC->R (.ok .next) s'
noncomputable def oR(C:LX) (ex:ad) (m:Str->Option WY) (own:aG) (e:W5) (sc:Scope) (xs ys:List V):Prop :=
 ∀A it D l fz s oC mC o R,RS C.w (C.J ((A,oC)::(it,o)::ex)) C.F m ((D,[])::own) fz s->fL mC oC->RV C.w.params C.la fz (.lst xs) (.ref l)->bP l 0 o->JJ C ex m own fz A D ys R->codeAny (model ae C.w) C.F.A (.compLoop e 0 (.ref it) (.ref D) (compEnv sc A C.F.env)) R s
noncomputable def JW(C:LX) (sc:Scope) (A D:W3) (Q E:WY->W2->Prop):Result->W2->Prop:=fun r s'=>∃m,s'.heap.Ns A m/\∀h',Heap.SameBut A s'.heap h' ->
 match r with| .ok _=>Q (.ref D) {s' with heap:=h'}| .error x=>wpAny (model ae C.w) C.F.A (passOn "comprehension.variables-let-go" x (compEnv sc A C.F.env)) (fun v=>Q v) E {s' with heap:=h'}
theorem rG(O:bK C c n) {elt target iter:W5}{ifs:List W5} (hs:CS sc) {ys:List V} (loop:oR C ex m own (.ListComp elt [⟨target,iter,ifs,0⟩] sc pos) sc xs ys) (R:RS C.w (C.J ex) C.F m own fz s) (rv:RV C.w.params C.la fz (.lst xs) v)
   (h:∀fz' s' v',(∀p∈fz,p∈fz')->RS C.w (C.J ex) C.F m own fz' s'->RV C.w.params C.la fz' (.lst ys) v'->Q v' s') :
   wpAny (model ae C.w) C.F.A (pyIter v) (fun it Uq=>wpAny (model ae C.w) C.F.A (newList []) (fun acc Ut=>wpAny (model ae C.w) C.F.A (newFunctionEnv sc C.F.env.globals [] [] C.F.env.qual none .none (some C.F.env)) (fun cenv UB =>
     codeAny (model ae C.w) C.F.A (.compStart (.ListComp elt (⟨target,iter,ifs,0⟩::[]) sc pos) 0 it acc {cenv with scope:=sc})
       (fun r s'=>∃m,s'.heap.Ns cenv.locals m/\∀h',Heap.SameBut cenv.locals s'.heap h' ->
         match r with| .ok _=>Q acc {s' with heap:=h'}| .error x=>wpAny (model ae C.w) C.F.A (passOn "comprehension.variables-let-go" x {cenv with scope:=sc}) Q E {s' with heap:=h'}) UB) E Ut) E Uq) E s:=by
 obtain⟨l,vs,rfl,r,hl⟩:=bQ O.FO R rv
 have R1:=R.jl_alloc (o:={cls:= .type "list_iterator",data:= .fields #[.ref l,.int 0 0]}) rfl s.toks
 refine wpAny_pyIter_list hl (wpAny_newList (wpAny_newFunctionEnv hs.cell (fun y hy=>absurd hy List.not_mem_nil) (fun h₁ hns hsb=>?_) hs.kind) (by decide))
 obtain⟨oC,hoC,hnC⟩:=iG hns
 have R4:=(((R1.own_new s.toks).jl_alloc (o:={cls:= .type (if (some C.F.env).isSome then "dict" else "frame"),data:= .dict #[]}) rfl s.toks).jl_set (t:=s.toks) hsb.extBut hoC)
 have go:=loop _ _ _ l fz _ oC _ _ (JW C sc _ _ Q E) R4 hnC rv ⟨rfl,rfl⟩ fun fz'' s'' oC' mC' hf' R5 hn5=>⟨mC',dU R5.jl_get.1 hn5,fun h' hs'=>(RS.own_freeze (pre:=[]) (R5.jl_lose (t:=s''.toks) hs'.extBut)) _ fun fz3 hf3 rv3 R7=>h _ _ _ (az hf' hf3) R7 rv3⟩
 exact codeAny_compStart_list go (wpAny_pyIter_listiter (l:=l) (i:=0) ⟨_,R4.jl_drop.jl_get.1,rfl,rfl⟩ go)
end
end
section
open PyProof.Rows.LCp (codeAny_compLoop_pair)
section
variable {c:lH}{own:aG}{B:Yc}
theorem dT{A:W3}{oC:Obj}{mC:Str->Option WY} (R:RS C.w (C.J ((A,oC)::ex)) C.F m own fz s) (hn:fL mC oC) (hk:sc.kind= .function) {p:Pos} (hx:sc.names.lookup x=some .local) {Q:Unit->W2->Prop}
   (h:∀oC' s',RS C.w (C.J ((A,oC')::ex)) C.F m own fz s'->fL (fun y=>if y=x then some v else mC y) oC'->Q () s'):wpAny (model ae C.w) B (assign (.Name x p) (compEnv sc A C.F.env) v) Q E s :=
 wpAny_assign_Name (wpAny_storeName_local hx (dU R.jl_get.1 hn) (fun h₁ hns hsb=>(iG hns).elim fun oC' ho=>h oC' _ (R.jl_set hsb.extBut ho.1) ho.2) (by simp[compEnv,hk]))
theorem gF{A:W3}{oC:Obj}{mC:Str->Option WY} (R:RS C.w (C.J ((A,oC)::ex)) C.F m own fz s) (hn:fL mC oC) (hk:sc.kind= .function) (hx:sc.names.lookup x=some .local) (hd:(x == ("__debug__" : Str))=false) (hm:mC x=some v) {p:Pos} (h:Q v s) :
   wpAny (model ae C.w) B (eval (.Name x p) (compEnv sc A C.F.env)) Q E s:=wpAny_Name (wpAny_loadName_local hk hx (dU R.jl_get.1 hn) hm h) hd
noncomputable def xn{α:Type} (C:LX) (ex:ad) (m:Str->Option WY) (own:aG) (U4:ad) (A it D l:W3) (out:α->List V) (As:List α) (k:Nat) (s:W2):Prop:=∀qC:Prop,(∀(i:Nat) (oC:Obj) (mC:Str->Option WY) (o:Obj) (fz:ad),k=As.length - i->RS C.w (C.J ((A,oC)::(it,o)::ex)) C.F m ((D,(As.take i).flatMap out)::own) fz s->fL mC oC->bP l i o->(∀p∈U4,p∈fz)->qC)->qC
noncomputable def EK{α:Type} (C:LX) (ex:ad) (m:Str->Option WY) (own:aG) (U4:ad) (A it D l:W3) (f:α->V) (out:α->List V) (As:List α) (k:Nat) (u:WY) (s:W2):Prop:=∀qC:Prop,(∀(a:α) (Y:List V) (i:Nat) (oC:Obj) (mC:Str->Option WY) (o:Obj) (fz:ad),a∈As->RV C.w.params C.la fz (f a) u->Y.length<=1000000->RS C.w (C.J ((A,oC)::(it,o)::ex)) C.F m ((D,Y)::own) fz s->fL mC oC->s.heap.IsListIter it l i ->
   (∀s' oC' mC',RS C.w (C.J ((A,oC')::(it,o)::ex)) C.F m ((D,Y++out a)::own) fz s'->fL mC' oC'->∃k',k'<k/\xn C ex m own U4 A it D l out As k' s')->qC)->qC
theorem j8{out:α->List V} (ho:∀a,(out a).length<=1):∀l:List α,(l.flatMap out).length<=l.length:=by intro l0;induction l0 with
 |nil=>exact Xl _
 |cons a l ih=>exact WZ (W9 ((congrArg List.length List.flatMap_cons).trans Xg)) (WZ (Nat.add_le_add (ho a) (ih)) (W9 (Nat.add_comm _ _)))
theorem uu{out:α->List V}{As:List α}{a:α} (h:As[i]?=some a):(As.take (i+1)).flatMap out=(As.take i).flatMap out++out a:=by
 rw[List.take_add_one,h,List.flatMap_append]
 exact congrArg (_++ ·) (XY _)
theorem uJ{out:α->List V}{As:List α} (h:As[i]?=none):(As.take i).flatMap out=As.flatMap out:=congrArg (List.flatMap out) (List.take_of_length_le (List.getElem?_eq_none_iff.mp h))
theorem nO(O:bK C c n) {A it D l:W3}{f:α->V}{out:α->List V} (ho:∀a,(out a).length<=1) {As:List α} (hz:As.length<=1000000) (rv:RV C.w.params C.la fz (.lst (As.map f)) (.ref l)) (I:xn C ex m own fz A it D l out As k s) {R:Result->W2->Prop} (hend:JJ C ex m own fz A D (As.flatMap out) R)
   {Q:Option WY->W2->Prop} (h0:∀s',R (.ok .next) s'->Q none s') (h1:∀u s',EK C ex m own fz A it D l f out As k u s'->Q (some u) s'):wpAny (model ae C.w) C.F.A (pyNext (.ref it)) Q E s:=by
 refine I _ ?_;rintro i oC mC o UK hk Uv hn hit hf
 obtain⟨vs,hl,r⟩:=kG O.FO Uv (rv.mono hf)
 have hit':s.heap.IsListIter it l i:=⟨o,Uv.jl_drop.jl_get.1,hit⟩
 rcases hv:As[i]? with qq|a
 ·
   have hv':(As.map f)[i]?=none:=List.getElem?_map.trans (congrArg (Option.map f) hv)
   exact wpAny_pyNext_list_end O.LV.hd hit' hl (Ya.trans (r.get_none hv')) fun h₁ VH=>h0 _ (hend UK _ oC mC hf (uJ (out:=out) hv▸Uv.jl_swap.jl_lose (t:=s.toks) VH) hn)
 ·
   have hv':(As.map f)[i]?=some (f a):=List.getElem?_map.trans (congrArg (Option.map f) hv)
   obtain⟨u,hu,ru⟩:=r.get hv'
   have hlt:=(List.getElem?_eq_some_iff.mp hv).1
   exact wpAny_pyNext_list_item hit' hl (Ya.trans hu) fun h₁ Ve UM=>h1 _ _ (Ve.elim fun Vz Wk=>(fun qq qk=>qk a ((As.take i).flatMap out) (i+1) oC mC Vz UK (List.mem_of_getElem? hv) ru (WZ (j8 ho _) (WZ (List.length_take_le' i As) hz)) ((Uv.jl_swap.jl_set (t:=s.toks) UM.extBut Wk.1).jl_swap) hn Ve (fun s' oC' mC' R' hn'=>⟨_,(hk.symm▸Nat.sub_succ_lt_self _ _ hlt:As.length - (i+1)<k),fun qq qk=>qk (i+1) oC' mC' Vz UK rfl (uu (out:=out) hv▸R') hn' Wk.2 hf⟩)))
end
end
section
open PyProof.Rows.LCp (codeAny_compLoop_pair)
@[irreducible] noncomputable def lwS (i:Nat):Stmt:=cP ((B0 572).drop i)
theorem Ui:lR (S0 572) gM uA (lwS 6):=⟨by kernel_rfl,by kernel_rfl⟩
theorem Ti:lR (S0 572) gM uB (lwS 7):=⟨by kernel_rfl,by kernel_rfl⟩
theorem RH:lR (S0 572) gM uC (lwS 11):=⟨by kernel_rfl,by kernel_rfl⟩
theorem RX:lR (S0 572) gM uD (lwS 12):=⟨by kernel_rfl,by kernel_rfl⟩
theorem Q0:lR (S0 572) gM (.asg [15,16,17,18,19,20,21] Tn) (lwS 10):=⟨by kernel_rfl,by kernel_rfl⟩
noncomputable def pM:W5->W5×W5×List W5×Scope×Pos
 |.ListComp el (⟨t,it,ifs,_⟩::_) sc p=>(el,t,it::ifs,sc,p)
 |_=>(default,default,[],S0 572,default)
noncomputable def wn(e:W5):Scope:=(pM e).2.2.2.1
noncomputable def Jj(e:W5):W5:=sC (pM e).2.2.1
noncomputable def vX(i:Nat):W5:=bj (lwS i)
noncomputable def cW:W5:=aN (ao (ao (vX 8)))
noncomputable def Q6:X:= .slc (.loc 13) (.k .none) (.neg 1)
noncomputable def Qb:X:= .slc (.loc 13) (.neg 1) (.k .none)
noncomputable def cA:W5:=ao (vX 9)
noncomputable def cB:W5:=aN (vX 9)
noncomputable def tW(i:Nat):W5:=sC ((ou (pM cW).2.1).1.drop i)
theorem wV:cW= .ListComp (.Name "written" (aj (pM cW).1)) [⟨.Tuple [.Name "kind" (aj (tW 0)),.Name "written" (aj (tW 1)),.Name "val" (aj (tW 2))] (dw (pM cW).2.1) (aj (pM cW).2.1),ce iP gM (.loc 5) (Jj cW),[],0⟩] (wn cW) (pM cW).2.2.2.2:=by kernel_rfl
theorem DY:cA= .ListComp (.BinOp (.Name "part" (aj (ao (pM cA).1))) .Add (.Constant (.str "\n") (dw (aN (pM cA).1)) (aj (aN (pM cA).1))) (aj (pM cA).1)) [⟨.Name "part" (aj (pM cA).2.1),ce iP gM Q6 (Jj cA),[],0⟩] (wn cA) (pM cA).2.2.2.2:=by kernel_rfl
noncomputable def tB:W5:=sC (pM cB).2.2.1.tail
theorem D0:cB= .ListComp (.Name "part" (aj (pM cB).1)) [⟨.Name "part" (aj (pM cB).2.1),ce iP gM Qb (Jj cB),[.Compare (.Name "part" (aj (ao tB))) [.NotEq] [.Constant (.str "") (dw (aN tB)) (aj (aN tB))] (aj tB)],0⟩] (wn cB) (pM cB).2.2.2.2:=by kernel_rfl
noncomputable def nX(sc:Scope) (ns:List Str):Bool:=ns.all fun x=>sc.names.lookup x == some .local&&!(x == ("__debug__" : Str))
theorem oX:(CC (wn cW)&&nX (wn cW) ["kind", "written", "val"])=true:=by kernel_rfl
theorem zT:(CC (wn cA)&&nX (wn cA) ["part"])=true:=by kernel_rfl
theorem xF:(CC (wn cB)&&nX (wn cB) ["part"])=true:=by kernel_rfl
theorem dW(h:nX sc ns=true) (hx:x∈ns):sc.names.lookup x=some .local/\(x == ("__debug__" : Str))=false :=
 have z:=X7.mp h x hx
 ⟨eq_of_beq (af z),dq (ai z)⟩
section
variable {c:lH}{own:aG}
noncomputable def Fg(a:aH):List V:=[.str a.2.1]
theorem w0(O:bK C c n) {As:List aH} (hz:As.length<=1000000):oR C ex m own cW (wn cW) (As.map aV) (As.flatMap Fg):=fun A it D l fz s oC mC o R R0 hn rv ho hend=>by
 rw[wV]
 have hs:=gE (af oX)
 have l1:=dW (ai oX) (x := "kind") (.head _)
 have l2:=dW (ai oX) (x := "written") (.tail _ (.head _))
 have l3:=dW (ai oX) (x := "val") (.tail _ (.tail _ (.head _)))
 refine codeAny_compLoop_pair (xn C ex m own fz A it D l Fg As) (fun k s I=>nO O (f:=aV) (fun qq=>Xl _) hz rv I hend (fun qq h=>h) fun u s' T=>?_) _ (fun qq qk=>qk 0 oC mC o fz rfl R0 hn ho ag)
 . refine T _ ?_;rintro a Y i oC mC o UK ha ru hY Uv VI hit next
   obtain⟨T,us,rfl,r3,htup⟩:=gB Uv ru
   obtain⟨v1,v2,v3,q1,q2,q3⟩:=r3.three
   obtain⟨t2,rfl⟩:=q2.strO rfl
   refine wpAny_letOwnedTupleGo_listiter hit ?_
   refine(Uv.door fO) _ ?_;rintro news hsub N k0 qq
   refine unpackN_ Uv.fr N htup O.LV.hd rfl rfl fun UI Uz Vk=>?_
   exact assignInOrder_cons (dT (k0 {s' with heap:=UI} m Uz Vk rfl rfl rfl) VI hs.kind l1.1 fun oC1 s1 R4 hn4=>assignInOrder_cons (dT R4 hn4 hs.kind l2.1 fun oC2 s2 R5 hn5=>assignInOrder_cons (dT R5 hn5 hs.kind l3.1 fun oC3 s3 R6 hn6=>assignInOrder_nil
     (gF R6 hn6 hs.kind l2.1 l2.2 ((if_neg (by decide +kernel:("written" : Str) ≠ "val")).trans (if_pos rfl)) (RS.own_append (pre:=[]) R6 (.str a.2.1 t2) hY fun s4 R7=>next _ _ _ R7 hn6)))))
noncomputable def Hb(y:Str):List V:=[.str (aQ y "\n")]
theorem zy(O:bK C c n) {ps:List Str} (hz:ps.length<=1000000) (hp:∀y∈ps,ar y<=50000):oR C ex m own cA (wn cA) (sV ps) (ps.flatMap Hb):=fun A it D l fz s oC mC o R R0 hn rv ho hend=>by
 rw[DY]
 have hs:=gE (af zT)
 have l1:=dW (ai zT) (x := "part") (.head _)
 refine codeAny_compLoop_tests (xn C ex m own fz A it D l Hb ps) (fun k s I=>nO O (f:= .str) (fun qq=>Xl _) hz rv I hend (fun qq h=>h) fun u s' T=>?_) _ (fun qq qk=>qk 0 oC mC o fz rfl R0 hn ho ag)
 . refine T _ ?_;rintro y Y i oC mC o UK hy ru hY Uv VI hit next
   obtain⟨t,rfl⟩:=ru.strO rfl
   exact dT Uv VI hs.kind l1.1 fun oC1 s1 R2 hn2=>wpAny_tests_nil (wpAny_BinOp (gF R2 hn2 hs.kind l1.1 l1.2 (if_pos rfl) (X4 (PyProof.Rows.add_str (fun t' tk=>by
     rw[iA]
     exact RS.own_append (pre:=[]) ((R2.toks _).toks tk) (.str (aQ y "\n") t') hY fun s4 R7=>next _ _ _ R7 hn2) (eU (WZ (XG (hp y hy) _) (by decide +kernel)))))))
noncomputable def qp(y:Str):List V:=gz (!bU y "") [.str y] []
theorem kQ(y:Str):(qp y).length<=1:=fm (P:=fun l:List V=>l.length<=1) _ (Xl _) (Nat.zero_le _)
theorem zJ(O:bK C c n) {ps:List Str} (hz:ps.length<=1000000):oR C ex m own cB (wn cB) (sV ps) (ps.flatMap qp):=fun A it D l fz s oC mC o R R0 hn rv ho hend=>by
 rw[D0]
 have hs:=gE (af xF)
 have l1:=dW (ai xF) (x := "part") (.head _)
 refine codeAny_compLoop_tests (xn C ex m own fz A it D l qp ps) (fun k s I=>nO O (f:= .str) kQ hz rv I hend (fun qq h=>h) fun u s' T=>?_) _ (fun qq qk=>qk 0 oC mC o fz rfl R0 hn ho ag)
 . refine T _ ?_;rintro y Y i oC mC o UK hy ru hY Uv VI hit next
   obtain⟨t,rfl⟩:=ru.strO rfl
   refine dT Uv VI hs.kind l1.1 fun oC1 s1 R2 hn2=>wpAny_tests_one (wpAny_isTrue_Compare1 (gF R2 hn2 hs.kind l1.1 l1.2 (if_pos rfl) (X4 (PyProof.Rows.ne_str (wpAny_truthy_bool ?_)))) rfl)
   have e:(y != ("" : Str))=!bU y "" := congrArg (!·) (gY y "")
   rw[e]
   have e2:∀b,(!bU y "")=b->Y++qp y=Y++gz b [.str y] []:=fun b h=>h▸rfl
   rcases hb:!bU y "" with qq|qq
   . exact next _ _ _ (((e2 _ hb).trans (XY Y)).symm▸R2.toks _) hn2
   . exact gF (R2.toks _) hn2 hs.kind l1.1 l1.2 (if_pos rfl) (RS.own_append (pre:=[]) (R2.toks _) (.str y t) hY fun s4 R7=>next _ _ _ ((e2 _ hb).symm▸R7) hn2)
end
end
section
noncomputable def mi(l:List Str):Str:=Txt.join "" l
theorem qQ:∀(l:List Str) (a:Array Nat),(l.foldl (fun acc p=>acc++(⟨#[]⟩:Str).cps++p.cps) a).toList=a.toList++(l.map (·.cps.toList)).flatten:=by intro l0;induction l0 with
 |nil=>intro a;exact(XY _).symm
 |cons p l ih =>
   intro a;rw[List.foldl_cons,ih,Array.toList_append,Array.toList_append,List.map_cons,List.flatten_cons,←Xo]
   exact congrArg (. ++_) (congrArg (. ++_) (XY _))
theorem ma:∀l:List Str,(mi l).cps.toList=(l.map (·.cps.toList)).flatten:=by intro l0;induction l0 with
 |nil=>exact rfl
 |cons p l ih=>exact qQ l p.cps
theorem qF:∀{l:List Str},(∀y∈l,ar y<=B)->(l.map (·.cps.toList)).flatten.length<=l.length*B:=by intro l0;induction l0 with
 |nil=>intro qq;exact Nat.zero_le _
 |cons p l ih=>intro h;exact WZ (W9 Xg) (WZ (Nat.add_le_add (h p (.head _)) (ih fun y hy=>h y (.tail _ hy))) (W9 ((Nat.add_comm _ _).trans (Nat.succ_mul _ _).symm)))
theorem kd{l:List Str} (h:∀y∈l,ar y<=B):ar (mi l)<=l.length*B:=WZ (W9 (congrArg List.length (ma l))) (qF h)
theorem BC{l:List Str} (h:∀y∈l,ar y<=B) (hz:l.length*B<=1000000):JoinOk "" l=true :=
 (Bool.not_eq_true' _).mpr (StrLaws.joinFits (B:=B) (fun y hy=>WZ (W9 (bo y)) (h y hy)) (WZ (W9 (Nat.add_zero _)) (WZ hz (by decide))))
noncomputable def br(x:Str):List Str:=let ps:=XN x "\n";ps.dropLast.map (fun p=>aQ p "\n")++[a9 ps].filter (fun p=>!bU p "")
theorem pe(g:α->V):∀l:List α,l.flatMap (fun a=>[g a])=l.map g:=by intro l0;induction l0 with
 |nil=>exact rfl
 |cons a l ih=>exact congrArg (g a:: ·) (ih)
theorem uq(x:Str):(XN x "\n").dropLast.flatMap Hb++[a9 (XN x "\n")].flatMap qp=sV (br x):=by
 show List.flatMap (fun p=>[V.str (aQ p "\n")]) _++_=sV (_++_)
 rw[←ms]
 rw[(pe (fun p=>V.str (aQ p "\n")) _).trans List.map_map.symm]
 refine congrArg (_++ ·) ?_
 show qp _++[]=_
 unfold qp
 rw[XY,List.filter_cons]
 cases !bU (a9 (XN x "\n")) "" <;> rfl
theorem Tb:lwS 8= .Assign [.Name "parts" (aj (eJ (lwS 8)))] (.Call (.Attribute (.Call (.Attribute (.Constant (.str "") (dw (ao (ao (ao (ao (vX 8)))))) (aj (ao (ao (ao (ao (vX 8))))))) "join" (aj (ao (ao (ao (vX 8)))))) [cW] [] (aj (ao (ao (vX 8))))) "split" (aj (ao (vX 8)))) [.Constant (.str "\n") (dw (aN (vX 8))) (aj (aN (vX 8)))] [] (aj (vX 8))) (ci (lwS 8)):=by kernel_rfl
theorem La:(aj (ao (vX 8))).endLine=(aj (vX 8)).line:=by kernel_rfl
theorem M1:(aj (ao (ao (ao (vX 8))))).endLine=(aj (ao (ao (vX 8)))).line:=by kernel_rfl
theorem Sd:(ak (S0 572) "parts" && d7 iP (S0 572) gM (.loc 5) (Jj cW))=true:=by kernel_rfl
theorem Tf:lwS 9= .Assign [.Name "lines" (aj (eJ (lwS 9)))] (.BinOp cA .Add cB (aj (vX 9))) (ci (lwS 9)):=by kernel_rfl
theorem QG:(ak (S0 572) "lines" && (d7 iP (S0 572) gM Q6 (Jj cA)&&d7 iP (S0 572) gM Qb (Jj cB)))=true:=by kernel_rfl
section
variable {env:Env}
theorem mS{o:W5}{apos:Pos}{args:List W5} (h1:∀whole,attributeBase o name env whole=whole) (h2:apos.endLine=pos.line)
   (h3:methodCallForm (args.length+([]:List Keyword).length) (backTo pos (starEach args env)) (backToKw pos (keywordEach [] env))=true) :
   eval (.Call (.Attribute o name apos) args [] pos) env=(do
     let ov ←eval o env
     standAt apos.atName
     let(f,first) ←holding [ov] (getMethod ov name (do return (←importBound o env).getD true))
     callWith pos f first (backTo pos (starEach args env)) (backToKw pos (keywordEach [] env))):=by
 rw[arm_eval_Call,h1]
 unfold methodCall
 rw[h3,show methodCallPos true o env apos pos=pure pos by unfold methodCallPos;simp[h2]]
 rfl
theorem l6{o arg:W5}{nm:Str}{id:String}{apos:Pos} (slot:PySem.Slot "str" nm id) (ty:typeOf (.builtin id)=pure (.type "method_descriptor")) (hab:∀whole,attributeBase o nm env whole=whole) (hl:apos.endLine=pos.line)
   (hst:starEach [arg] env=[(false,eval arg env)])
   (h:wpAny (model ae w) A (eval o env) (fun ov Un=>∃x t,ov= .str x t/\wpAny (model ae w) A (eval arg env) (fun av Uq=>wpAny (model ae w) A (call (.builtin id) [.str x t,av] []) Q E Uq) E Un) E s) :
   wpAny (model ae w) A (eval (.Call (.Attribute o nm apos) [arg] [] pos) env) Q E s :=
 have hp:(backTo pos (starEach [arg] env)).any (·.1)=false:=hst▸rfl
 methodCall_KW (pl:=(do return (←importBound o env).getD true)) (kws:=[]) (Xq h (fun ov Un h₁=>by
   obtain⟨x,t,rfl,h₁⟩:=h₁
   with_reducible refine dX slot ty ?_
   exact XZ (P:=fun qq=>True) (Bool.or_eq_false_iff.mpr ⟨hp,rfl⟩) (fun h qq=>aB w _ h) (aq (Xz (Xq h₁ (fun av Uq UI=>args_nil ⟨trivial,UI⟩) fun qq qq x=>x) hst) hp)) fun qq qq x=>x) (mS hab hl (kW (by exact Xd rfl) hp))
end
section
variable {own:aG}{K:KS}
theorem jb{c:lH} (O:bK C c n) {e elt target it:W5}{ifs:List W5}{xi:X} (he:e= .ListComp elt [⟨target,ce iP C.ns xi it,ifs,0⟩] sc pos) (hs:CS sc) (hx:d7 iP C.F.sc C.ns xi it=true) {ys:List V} (H:cZ (eP c) ρ nB xi own (fun v own'=>v= .lst xs/\own'=own))
   (loop:oR C ex m own e sc xs ys) (R:RS C.w (C.J ex) C.F m own fz s) (L:Lc C.w.params C.la C.ns ρ m fz) (h:∀fz' s' v',(∀p∈fz,p∈fz')->RS C.w (C.J ex) C.F m own fz' s'->RV C.w.params C.la fz' (.lst ys) v'->Q v' s'):wpAny (model ae C.w) C.F.A (eval e C.F.env) Q E s:=by
 subst he
 exact wpAny_ListComp hs.free hs.kind hs.loc (t6 O xi hx H R L fun v own' fz' s' xv hk hf R' rv=>by
   obtain⟨rfl,rfl⟩:=hk
   exact rG O hs loop R' rv fun fz'' s'' v' hf'=>h fz'' s'' v' (az hf hf')) (p9 _ _ _)
theorem Nj(As:List aH):As.flatMap Fg=sV (As.map (·.2.1)):=(pe (fun a:aH=>V.str a.2.1) As).trans List.map_map.symm
theorem qX{v:V} (h:fS ρ i=some v) {K:V->aG->Prop} (hK:K v own):cZ (eP cy) ρ nB (.loc i) own K:=(h▸hK:match fS ρ i with|some v=>K v own|none=>False)
theorem u1(O:bK C cy (n+1)) (hns:C.ns=gM) (hS:C.F.sc=S0 572) {As:List aH} (hA:fS ρ 5=some (.lst (As.map aV))) (hz:As.length<=1000) (hB:∀a∈As,ar a.2.1<=100) (hK:K .next (cU ρ 13 (.lst (sV (XN (mi (As.map (·.2.1))) "\n")))) own):Oc C ex (lwS 8) ρ own K:=fun m fz s Q E R L P HE=>by
 have hB':∀y∈As.map (·.2.1),ar y<=100:=fun y hy=>(Xp.mp hy).elim fun a ha=>ha.2▸hB a ha.1
 have hl:(As.map (·.2.1)).length*100<=1000000:=WZ (Nat.mul_le_mul_right 100 (WZ (W9 (XR _)) hz)) (by decide)
 rw[Tb]
 refine XK (l6 PySem.F.slot_str_split PySem.F.type_str_split (fun qq=>rfl) La rfl (l6 PySem.F.slot_str_join PySem.F.type_str_join (fun qq=>rfl) M1 (wV▸rfl) (X4 ⟨"",s.toks,rfl,?_⟩))) rfl
 refine jb O (hns▸wV) (gE (af oX)) (hns▸hS▸ai Sd) (qX hA ⟨rfl,rfl⟩) (w0 O (WZ hz (by decide))) (R.toks (s.toks+1)) L fun fz' s' v' hf R' rv=>?_
 rw[Nj] at rv
 obtain⟨D,vs,rfl,r,hl'⟩:=bQ O.FO R' rv
 obtain⟨l,rfl,el⟩:=r.toStrs
 exact SC.join hl' el (BC hB' hl) fun t' tk=>⟨_,_,rfl,X4 (ti C.F m own fz' _ [.str (mi (As.map (·.2.1))),.str "\n"] _ [] [] (fun v own'=>v= .lst (sV (XN (mi (As.map (·.2.1))) "\n"))/\own'=own) nB _ E O.FO O.LV ((R'.toks tk).toks _) (.cons (.str _ _) (.cons (.str _ _) .nil)) ⟨[],rfl,.nil⟩
   ⟨rfl,WZ (kd hB') hl,rfl,rfl⟩ (fun v own' fz'' s'' xv hk hf' R'' rv''=>by
     obtain⟨rfl,rfl⟩:=hk
     exact aM O.FO R'' (hS▸af Sd) fun Uq Uo=>P _ _ _ _ _ _ _ hK (az hf hf') Uo ((L.mono (az hf hf')).set O.hn (i:=13) (hns▸rfl) rv'') .next) lq)⟩
end
end
section
section
variable {own:aG}{K:KS}
theorem Fz{xs:List Str} (hA:fS ρ 13=some (.lst (sV xs))) (h:xs≠[]) (hz:xs.length<=1000000):cZ (eP cy) ρ nB Q6 own (fun v own'=>v= .lst (sV xs.dropLast)/\own'=own) :=
 qX (K:=fun v s=>qT v .none (.int (-1)) s fun v own'=>v= .lst (sV xs.dropLast)/\own'=own) hA (ph h hz ⟨rfl,rfl⟩)
theorem Fo{xs:List Str} (hA:fS ρ 13=some (.lst (sV xs))) (h:xs≠[]) (hz:xs.length<=1000000):cZ (eP cy) ρ nB Qb own (fun v own'=>v= .lst (sV [a9 xs])/\own'=own) :=
 qX (K:=fun v s=>qT v (.int (-1)) .none s fun v own'=>v= .lst (sV [a9 xs])/\own'=own) hA (yo h hz ⟨rfl,rfl⟩)
theorem uw(O:bK C cy (n+1)) (hns:C.ns=gM) (hS:C.F.sc=S0 572) (hA:fS ρ 13=some (.lst (sV (XN x "\n")))) (hz:ar x<=50000) (hK:∀a,K .next (cU ρ 14 (.raw (.ref a))) ((a,sV (br x))::own)):Oc C ex (lwS 9) ρ own K:=fun m fz s Q E R L P HE=>by
 have hne:XN x "\n" ≠ []:=bY _ _
 have hsz:=kL x "\n" (WZ hz (by decide))
 have hsh:∀p∈(XN x "\n").dropLast,ar p<=50000:=fun p hp=>WZ (dm (List.dropLast_subset _ hp)) hz
 have hd:(XN x "\n").dropLast.length<=1000000:=WZ (W9 List.length_dropLast) (WZ (Nat.sub_le _ _) hsz)
 rw[Tf]
 refine XK (wpAny_BinOp (jb O (hns▸DY) (gE (af zT)) (hns▸hS▸af (ai QG)) (Fz hA hne hsz) (zy O hd hsh) R L fun fz' s' v' hf R' rv =>
   jb O (hns▸D0) (gE (af xF)) (hns▸hS▸ai (ai QG)) (Fo hA hne hsz) (zJ O (Xd rfl)) R' (L.mono hf) fun fz'' s'' v'' hf' R'' ru=>?_)) rfl
 obtain⟨a1,iX,rfl,r1,hl1⟩:=bQ O.FO R'' (rv.mono hf')
 obtain⟨a2,ss,rfl,r2,hl2⟩:=bQ O.FO R'' ru
 refine R''.own_put _ ?_;rintro news N put
 have c1:iX.length<=1000000:=WZ (W9 r1.length) (WZ (j8 (fun qq=>Xl _) _) hd)
 have c2:ss.length<=1:=WZ (W9 r2.length) (j8 kQ _)
 have rr:=r1.append r2
 rw[uq] at rr
 exact add_lists R''.fr N hl1 hl2 (fun h' F' N'=>aM O.FO (put _ _ _ 0 {s'' with heap:=h'} (Xl _) rr F' N' rfl rfl rfl) (hS▸af QG) fun Uq Uo=>P _ _ _ _ _ _ _ (hK _) (az hf hf') Uo ((L.mono (az hf hf')).set O.hn (i:=14) (hns▸rfl) (.raw _)) .next) (WZ (Nat.add_le_add c1 c2) (by decide))
end
end
section
section
variable {own:aG}
noncomputable def Th(w:Xj) (la:LA) (ex:ad) (gs:Array Xf) (F:Fm) (m:Str->Option WY) (own:aG) (fz:ad) (s:W2):Prop:=∀qC:Prop,(∀(news:ad),aO F m news s s->(a7 news).Nodup->(∀new n1 n2 s' m',aO F m' (new++news) s s'->(a7 (new++news)).Nodup->(n1++n2).Perm new->RS w (JL w.params la (n1++ex) gs) F m' own (n2++fz) s')->qC)->qC
theorem DR{mo n1 n2:ad} (hp:(n1++n2).Perm new):(mo++(n1++ex)++(n2++fz)).Perm (new++(mo++ex++fz)):=((List.perm_append_comm_assoc mo n1 ex).append_right _).trans (zr (cs:=mo++ex) hp)
theorem RS.jl_more(R:RS w (JL w.params la ex gs) F m own fz s):Th w la ex gs F m own fz s:=by
 refine R.jl_open _ ?_;rintro mo hc N nd
 exact(fun qq qk=>qk (mo++ex++fz) ⟨R.fr,N,rfl,rfl,rfl⟩ nd (fun new n1 n2 s' m' R' hn hp=>R.jl_mk (hc.mono fun p hp=>W4 _ hp) (fun p h=>R'.nw p ((DR hp).mem_iff.mp h)) (((DR hp).map (·.1)).nodup_iff.mpr hn) R'.gens R'.fr R'.os R'.dr))
noncomputable def Uf(w:Xj) (la:LA) (a:W3) (o:Obj) (ex:ad) (gs:Array Xf) (F:Fm) (m:Str->Option WY) (own:aG) (fz:ad) (s:W2):Prop:=∀qC:Prop,(∀(rest:ad),(∀p∈fz,p∈rest)->(∀p∈rest,p.1≠a)->aO F m ((a,o)::rest) s s->(∀o' s' m',aO F m' ((a,o')::rest) s s'->RS w (JL w.params la ((a,o')::ex) gs) F m' own fz s')->qC)->qC
theorem RS.jl_turn(R:RS w (JL w.params la ((a,o)::ex) gs) F m own fz s):Uf w la a o ex gs F m own fz s:=by
 refine R.jl_cell _ ?_;rintro pre post N nd hm b qq
 exact(fun qq qk=>qk (pre++post) (fun p hp=>W4 _ (hm p hp)) (bv nd) ⟨R.fr,fun p hp=>N p (XF.mem_iff.mpr hp),rfl,rfl,rfl⟩ (fun o' s' m' R'=>b o' s' m' (fun p hp=>R'.nw p (XF.mem_iff.mp hp)) R'.fr R'.gens R'.os R'.dr))
theorem D5{mo:ad}{p:W3×Obj}:(mo++ex++p::fz).Perm (mo++p::ex++fz):=XF.trans jA.symm
theorem RS.jl_still{p:W3×Obj} (R:RS w (JL w.params la (p::ex) gs) F m own fz s):RS w (JL w.params la ex gs) F m own (p::fz) s:=by
 refine R.jl_open _ ?_;rintro mo hc N nd
 exact R.jl_mk (hc.mono (a5 p)) (fun q hq=>N q (D5.mem_iff.mp hq)) ((D5.map (·.1)).nodup_iff.mpr nd) rfl R.fr rfl rfl
theorem uS(h:m x=some v):(fun y=>if y=x then some v else m y)=m:=funext fun y=>ite_eq_right_iff.mpr fun e=>e▸h.symm
noncomputable def TL(w:Xj) (la:LA) (ex:ad) (gs:Array Xf) (F:Fm) (ns:List Str) (m:Str->Option WY) (own:aG) (ρ:List (Option V)) (fz:ad) (s:W2):Prop:=∀qC:Prop,(∀(fz':ad),(∀p∈fz,p∈fz')->RS w (JL w.params la ex gs) F m own fz' s->Lc w.params la ns ρ m fz'->qC)->qC
theorem pH(hn:ns.Nodup) (hx:nm ns i=some x) (ha:fS ρ i=some (.raw (.ref a))) {pre post:aG} (R:RS w (JL w.params la ex gs) F m (pre++(a,xs)::post) fz s) (L:Lc w.params la ns ρ m fz):TL w la ex gs F ns m (pre++post) (cU ρ i (.lst xs)) fz s:=by
 refine R.own_freeze _ ?_;rintro fz' hf rv R'
 obtain⟨xv,hv,rx⟩:=L i x _ hx ha
 obtain rfl:=rx.view
 have L':=(L.mono hf).set hn hx rv
 rw[uS hv] at L'
 exact(fun qq qk=>qk fz' hf R' L')
theorem BX:∀{vs:List WY}{ns:List Int},IntsAre vs ns->aL P la fz (ns.map .int) vs:=fun h=>by
 induction h with
 |nil=>exact .nil
 |cons n t _ ih=>exact .cons (.int n t) ih
end
noncomputable def PG:T:= .asg 2 (.call (.glob 0) (.cons (.loc 1) .nil))
noncomputable def PY:T:= .asg 3 (.cmp .Eq (.bin .Mod (.bin .FloorDiv (.loc 2) (.k (.int 11))) (.k (.int 4))) (.k (.int 1)))
noncomputable def Pv:T:= .asg 5 (.lst .nil)
theorem TQ:lR (S0 572) gM (.ir PG) (lwS 1):=⟨by kernel_rfl,by kernel_rfl⟩
theorem Tp:lR (S0 572) gM (.ir PY) (lwS 2):=⟨by kernel_rfl,by kernel_rfl⟩
theorem T6:lR (S0 572) gM (.ir Pv) (lwS 5):=⟨by kernel_rfl,by kernel_rfl⟩
noncomputable def b8(ns:List Int):List Int:=if ns.take 10=[] then [0] else ns.take 10
noncomputable def dj(t:Int):Bool:=(t.fdiv 11).fmod 4 == 1
noncomputable def r0(x0 x1 x2 x3 x4:Option V):List (Option V):=[x0,x1,x2,x3,x4,none,none,none,none,none,none,none,none,none,none,none,none,none,none,none,none,none,none,none,none,none,none,none,none]
noncomputable def Mo:W5:=ao (vX 0)
noncomputable def Rt:W5:=aN (vX 0)
theorem Tl:lwS 0= .Assign [.Name "numbers" (aj (eJ (lwS 0)))] (.BoolOp .Or [.Subscript (.Name "script" (aj (ao Mo))) (.Slice none (some (.Constant (.int 10) (dw (aN (aN Mo))) (aj (aN (aN Mo))))) none (aj (aN Mo))) (aj Mo),.List [.Constant (.int 0) (dw (ao Rt)) (aj (ao Rt))] (aj Rt)] (aj (vX 0))) (ci (lwS 0)):=by kernel_rfl
theorem Sj:(ak (S0 572) "numbers" && ak (S0 572) "script")=true:=by kernel_rfl
section
variable {own:aG}{Q:Flow->W2->Prop}
theorem vk{ns:List Int} (h:(ns.take 10).isEmpty=false):b8 ns=ns.take 10:=if_neg fun e=>XW ((congrArg List.isEmpty e).symm.trans h)
theorem vU{ns:List Int} (h:(ns.take 10).isEmpty=true):b8 ns=[0]:=if_pos (List.isEmpty_iff.mp h)
theorem vA{β:Type}:∀{l:List α}{k:List β},l.length=k.length->l.isEmpty=k.isEmpty
 |[],[],_=>rfl
 |_::_,_::_,_=>rfl
 |[],_::_,h=>absurd h.symm (Nat.succ_ne_zero _)
 |_::_,[],h=>absurd h (Nat.succ_ne_zero _)
inductive Sc(C:LX) (ex:ad) (m:Str->Option WY) (own:aG) (ns:List Int):WY->W2->Prop
 |mk (fz:ad) (s:W2) (a:W3) (us:List WY):RS C.w (C.J ex) C.F m own fz s->(a,W0 us.toArray 0)∈fz->IntsAre us (ns.take 10)->Sc C ex m own ns (.ref a) s
theorem EP(O:bK C cy n) (hS:C.F.sc=S0 572) {sa:W3}{ns:List Int} (hsa:C.F.Up.IsList sa vs.toArray) (hi:IntsAre vs ns) (hz:ns.length<=1000) (hm:m "script" = some (.ref sa)) (R:RS C.w (C.J ex) C.F m own fz s) {p3 p4:Pos}{Q:WY->W2->Prop} (h:∀v s',Sc C ex m own ns v s'->Q v s') :
   wpAny (model ae C.w) C.F.A (eval (.Subscript (.Name "script" p1) (.Slice none (some (.Constant (.int 10) k p2)) none p3) p4) C.F.env) Q E s:=by
 have hsc:ak C.F.sc "script" = true:=hS▸ai Sj
 have R1:=(R.toks (s.toks+1)).alloc fO (o:={cls:= .type "slice",data:= .fields #[.none,.int 10 s.toks,.none]}) rfl (s.toks+1)
 have hl1:(s.heap.push {cls:= .type "slice",data:= .fields #[.none,.int 10 s.toks,.none]}).IsList sa vs.toArray:=hsa.elim fun o ho=>⟨o,R1.fr.keep _ _ ho.1,ho.2⟩
 have hlen:vs.toArray.size<=1000:=WZ (W9 ((XO:vs.toArray.size=_).trans hi.length)) hz
 have e:(slicePick vs.toArray none (some 10) none).toList.toArray=slicePick vs.toArray none (some 10) none:=Array.toArray_toList
 have R2:=R1.alloc fO (o:=W0 (slicePick vs.toArray none (some 10) none).toList.toArray 0) rfl (s.toks+1)
 have fin:=h _ _ (.mk _ _ _ _ R2 (.head _) (kmk_upto (y:=10) hi (by decide)))
 rw[e] at fin
 refine Subscript_ (ld R.fr hm (wpAny_Slice ?_) O.FO.kind (eq_of_beq (af hsc)) (dq (ai hsc)))
 rw[evalPart_none,evalPart_some]
 refine Xk (wpAny_Constant_int (Xk ?_))
 exact oE (ops:=[.ref s.heap.objs.size,.ref sa]) (T := "list") (Heap.IsList.typeIs (s:={s with heap:=s.heap.push {cls:= .type "slice",data:= .fields #[.none,.int 10 s.toks,.none]},toks:=s.toks+1}) hl1) PySem.slot_list_getitem.lookup
   (wpAny_getItem_list_slice (lo:=none) (hi:=some 10) (st:=none) hl1 ⟨_,R1.get (.head _),rfl,rfl⟩ .none (.int _ _) .none (by simp) fin (WZ hlen (by decide))) rfl
theorem KR(O:bK C cy n) (hns:C.ns=gM) (hS:C.F.sc=S0 572) {es:List Stmt}{sa:W3}{ns:List Int} (hsa:C.F.Up.IsList sa vs.toArray) (hi:IntsAre vs ns) (hz:ns.length<=1000) (hm:m "script" = some (.ref sa)) (R:RS C.w (C.J ex) C.F m own fz s)
   (h:∀m' fz' s',RS C.w (C.J ex) C.F m' own fz' s'->Lc C.w.params C.la C.ns (r0 none (some (.lst ((b8 ns).map .int))) none none none) m' fz'->wpAny (model ae C.w) C.F.A (execs es C.F.env) Q E s'):wpAny (model ae C.w) C.F.A (execs (lwS 0::es) C.F.env) Q E s:=by
 have fin:∀(l:List Int) (xv:WY) (fz':ad) (s':W2),b8 ns=l->RS C.w (C.J ex) C.F m own fz' s'->RV C.w.params C.la fz' (.lst (l.map .int)) xv->wpAny (model ae C.w) C.F.A (storeName C.F.env "numbers" xv) (fun qq s''=>wpAny (model ae C.w) C.F.A (execs es C.F.env) Q E s'') E s':=fun l xv fz' s' hv R' rv =>
   aM O.FO R' (hS▸af Sj) fun Uq Uo=>h _ fz' Uq Uo ((dJ (bJ 29)).set O.hn (i:=1) (hns▸rfl) (hv▸rv))
 rw[Tl]
 refine Xa (XK (wpAny_Or2 (EP O hS hsa hi hz hm R fun v Un h10=>?_)) rfl)
 obtain⟨UK,Uq,a,us,Uv,Wl,hu⟩:=h10
 have hl:us.toArray.size=(ns.take 10).length:=(XO:us.toArray.size=_).trans hu.length
 have h10:(ns.take 10).length<=10:=List.length_take_le 10 ns
 refine wpAny_truthy_list (sX (Uv.get Wl)) (eQ (WZ (W9 hl) (WZ h10 (by decide)))) ?_
 have eb:us.toArray.isEmpty=(ns.take 10).isEmpty:=(List.isEmpty_toArray (l:=us)).trans (vA hu.length)
 rcases hb:(ns.take 10).isEmpty with qq|qq
 ·
   rw[eb,hb]
   exact fin _ _ _ _ (vk hb) (Uv.toks _) (.lst Wl (BX hu))
 ·
   rw[eb,hb]
   exact List_ (Xz (wpAny_Constant_int (args_nil (wpAny_newList (fin [0] _ _ _ (vU hb) (Uv.alloc fO (o:=W0 ([.int 0 (Un.toks+1+1)]:List WY).toArray 0) rfl _) (.lst (n:=0) (vs:=[.int 0 (Un.toks+1+1)]) (.head _) (.cons (.int _ _) .nil))) (Xd rfl)))))
end
end
section
theorem Ru(P:W1):nsIn (KF P) XI "COptions" = some (some (.ref 507)):=by kernel_rfl
theorem JE(P:W1):keepIn (KF P) (.ref 507)=true:=by kernel_rfl
theorem Cg(t:Tok):PySem.valueAt (jj t) ("std" : Str)=some (.str "c99" t):=by kernel_rfl
theorem DA(t:Tok):PySem.valueAt (jj t) ("trigraphs" : Str)=some (.bool false):=by kernel_rfl
theorem w4(t u:Tok):PySem.valueAt (stored (jj t) "std" (.str "c89" u)) ("std" : Str)=some (.str "c89" u):=by kernel_rfl
theorem wE(t u:Tok):PySem.valueAt (stored (jj t) "std" (.str "c89" u)) ("trigraphs" : Str)=some (.bool false):=by kernel_rfl
noncomputable def SK:Stmt:=cP (eO (lwS 4)).2.1
noncomputable def Dv:W5:=bj SK
theorem Ty:lwS 3= .Assign [.Name "options" (aj (eJ (lwS 3)))] (.Call (.Name "COptions" (aj (ao (vX 3)))) [] [] (aj (vX 3))) (ci (lwS 3)):=by kernel_rfl
theorem TS:lwS 4= .If (ce iP gM (.loc 3) (vX 4)) [.Expr (.Call (.Attribute (.Name "options" (aj (ao (ao Dv)))) "set" (aj (ao Dv))) [.Constant (.str "std") (dw (aN Dv)) (aj (aN Dv)),.Constant (.str "c89") (dw (pK Dv)) (aj (pK Dv))] [] (aj Dv)) (ci SK)] [] (ci (lwS 4)):=by kernel_rfl
theorem Oy:(aj (ao Dv)).endLine=(aj Dv).line:=by kernel_rfl
theorem AK:(ak (S0 572) "options" && (bO (S0 572) "COptions" && d7 iP (S0 572) gM (.loc 3) (vX 4)))=true:=by kernel_rfl
theorem bp{b:W3} (h:a<b) (hl:∀p∈l,p.1<a):∀p∈(a,o)::l,p.1<b:=fun p hp=>(Xb.mp hp).elim (fun e=>e▸h) fun hp=>Xx (hl p hp) h
theorem cY(hl:∀p∈l,p.1<a) (h:(a7 l).Nodup):(a7 ((a,o)::l)).Nodup:=XD.mpr ⟨dG hl,h⟩
theorem zx{a b c d e f:W3×Obj}:(f::e::d::a::b::c::l).Perm (a::b::c::d::e::f::l) :=
 (List.perm_append_comm (l₁:=[f,e,d]) (l₂:=[a,b,c])).append_right l |>.trans (((List.reverse_perm [f,e,d]).symm.append_left [a,b,c]).append_right l)
theorem Ia{news:ad}{x sd l1 l2 l3:W3}{o1 o2 o3 o4 o5 o6:Obj} (lt:∀p∈news,p.1<dx) (h1:dx<x) (h2:x<sd) (h3:sd<l1) (h4:l1<l2) (h5:l2<l3) (nd:(a7 news).Nodup):(a7 ([(sd,o1),(x,o2),(dx,o3),(l1,o4),(l2,o5),(l3,o6)]++news)).Nodup:=by
 have b1:=bp (o:=o3) h1 lt
 have b2:=bp (o:=o2) h2 b1
 have b3:=bp (o:=o1) h3 b2
 have b4:=bp (o:=o4) h4 b3
 exact(zx.map (·.1)).nodup_iff.mp (cY (o:=o6) (bp (o:=o5) h5 b4) (cY (o:=o5) b4 (cY (o:=o4) b3 (cY (o:=o1) b2 (cY (o:=o2) b1 (cY (o:=o3) lt nd))))))
section
variable {own:aG}{Q:Flow->W2->Prop}{x0 x1 x2:Option V}{old:Bool}
inductive K2(C:LX) (ex:ad) (m:Str->Option WY) (own:aG) (fz:ad) (s:W2):WY->Prop
 |mk (op dx sd:W3) (so:Obj) (es:List XH) (nn:Nat) (t:Tok) (fz':ad):getL "settings" es=some (some (.ref sd))->getL "set" es=some none->jH C.w so (jj t) 4->(op,Xu 507 dx)∈fz'->(dx,Xc es nn)∈fz'->(∀p∈fz,p∈fz')->RS C.w (C.J ((sd,so)::ex)) C.F m own fz' s->K2 C ex m own fz s (.ref op)
theorem Kh{c:lH} (O:bK C c n) (hS:C.F.sc=S0 572) (hdep:C.F.A.depth+4<Xh) (R:RS C.w (C.J ex) C.F m own fz s) {Q:WY->W2->Prop} (h:∀v s',K2 C ex m own fz s' v->Q v s'):wpAny (model ae C.w) C.F.A (eval (.Call (.Name "COptions" p1) [] [] p2) C.F.env) Q E s:=by
 refine R.jl_more _ ?_;rintro news RR nd back
 exact Call_ (bF O.FO RR (hS▸af (ai AK)) (.inl (Ru _)) (XZ (P:=fun h=>(KF C.w.params).In h) rfl (fun h X=>keeps_K (JE _) h X) (aq (args_nil ⟨O.FO.G.X.keeps R.fr.keep,vz O.FO hdep RR fun op dx sd so es nn t l1 l2 l3 s' hset hno hD R1 lt o1 o2 o3 o4 o5 =>
   h _ _ ⟨op,dx,sd,so,es,nn,t,_,hset,hno,hD,.head _,.tail _ (.head _),fun p hp=> .tail _ (.tail _ (.tail _ (.tail _ (.tail _ hp)))),back [(sd,so),(op,Xu 507 dx),(dx,Xc es nn),(l1,W0 #[] 0),(l2,W0 #[] 0),(l3,W0 #[] 0)] [(sd,so)] [(op,Xu 507 dx),(dx,Xc es nn),(l1,W0 #[] 0),(l2,W0 #[] 0),(l3,W0 #[] 0)] s' m R1 (Ia lt o1 o2 o3 o4 o5 nd) (.refl _)⟩⟩) rfl))) rfl
theorem GR(O:bK C cy (n+1)) (hns:C.ns=gM) (hS:C.F.sc=S0 572) (hdep:C.F.A.depth+4<Xh) {es:List Stmt} (R:RS C.w (C.J ex) C.F m own fz s) (L:Lc C.w.params C.la C.ns (r0 x0 x1 x2 (some (.bool old)) none) m fz)
   (h:∀op m' fz' s',(∀p∈fz,p∈fz')->RS C.w (C.J ex) C.F m' own fz' s'->dP C.w fz' op old->Lc C.w.params C.la C.ns (r0 x0 x1 x2 (some (.bool old)) (some (.raw (.ref op)))) m' fz'->wpAny (model ae C.w) C.F.A (execs es C.F.env) Q E s') :
   wpAny (model ae C.w) C.F.A (execs (lwS 3::lwS 4::es) C.F.env) Q E s:=by
 rw[Ty]
 refine Xa (XK (Kh O hS hdep R fun v Un hc=>?_) rfl)
 obtain⟨op,dx,sd,so,es',nn,t,UK,hset,hno,hD,mop,mdx,up,Uv⟩:=hc
 refine aM O.FO Uv (hS▸af AK) fun Uq Uo=>?_
 have UL:Lc C.w.params C.la C.ns (r0 x0 x1 x2 (some (.bool old)) (some (.raw (.ref op)))) _ UK:=(L.mono up).set O.hn (i:=4) (hns▸rfl:nm C.ns 4=some "options") (.raw (.ref op))
 rw[TS]
 refine Xa (wpAny_If ((dt (Ex:=nB) (ns:=gM) (ρ:=r0 x0 x1 x2 (some (.bool old)) (some (.raw (.ref op)))) (jX (O.hc _)) O.FO O.LV (.loc 3)).t (vX 4) _ own UK Uq (fun b own'=>b=old/\own'=own) _ E (hS▸ai (ai AK)) ⟨rfl,rfl⟩ Uo (hns▸UL) (fun b own' Uy Ut hk hf Ur=>?_) lq))
 obtain⟨rfl,rfl⟩:=hk
 rcases b with qq|qq
 ·
   refine hD _ ?_;rintro D i1 qq qq
   exact Xw (h op _ _ Ut (fun p hp=> .tail _ (hf p (up p hp))) Ur.jl_still (fun qq qk=>qk dx es' nn sd so _ t (.tail _ (hf _ mop)) (.tail _ (hf _ mdx)) hset (.head _) i1 (Cg _) (DA _)) (UL.mono fun p hp=> .tail _ (hf p hp)))
 ·
   refine Ur.jl_turn _ ?_;rintro rest hrf hne R5 bk
   refine o9 O.FO (Xi (XL _ 4) hdep) R5 (hrf _ (hf _ mop)) (hrf _ (hf _ mdx)) hset hno hne hD (by decide) (if_pos rfl) (hS▸af AK) Oy fun so' s4 u hD' R6=>Xw ?_
   refine hD' _ ?_;rintro D i1 qq qq
   exact h op _ _ s4 (fun p hp=> .tail _ (hf p (up p hp))) (bk so' s4 _ R6).jl_still (fun qq qk=>qk dx es' nn sd so' _ u (.tail _ (hf _ mop)) (.tail _ (hf _ mdx)) hset (.head _) i1 (w4 _ _) (wE _ _)) (UL.mono fun p hp=> .tail _ (hf p hp))
end
end
section
noncomputable def aS(num:List Int):List aH:=fE 0 num++(xb num.sum).map bg
noncomputable def aY(num:List Int):Str:=mi ((aS num).map (·.2.1))
noncomputable def IW:DS:=⟨"",[], "",true,false,(1,1),false⟩
noncomputable def qx(num:List Int):DS:=gL (dj num.sum) IW (aS num)
noncomputable def i8(num:List Int):List bL:=kS (qx num) (br (aY num)).length
structure dH(num:List Int):Prop where
 short:num.length<=10
 wr:∀a∈aS num,ar a.2.1<=100
 ok:LE (dj num.sum) IW (aS num)
 due:(qx num).due.length<=40000
noncomputable def O1(N:List (Option V)->aG->Prop):KS:=NZ N fun qq qq qq=>False
section
variable {own:aG}{Q:Flow->W2->Prop}{es:List Stmt}
noncomputable def St(C:LX) (ex:ad) (fz:ad) (es:List Stmt) (Q:Flow->W2->Prop) (E:WY->W2->Prop) (ρ:List (Option V)) (own:aG):Prop :=
 ∀m fz' s,(∀p∈fz,p∈fz')->RS C.w (C.J ex) C.F m own fz' s->Lc C.w.params C.la C.ns ρ m fz'->wpAny (model ae C.w) C.F.A (execs es C.F.env) Q E s
theorem FI{e:Stmt} (HE:PassesOwn (model ae C.w) C.F.A C.F.env E) (h:Oc C ex e ρ own (O1 (St C ex fz es Q E))):St C ex fz (e::es) Q E ρ own:=fun m fz' s hf R L =>
 Xa (h m fz' s _ E R L (fun fl ρ' st' fz'' m' s' xf hk hf' R' L' rf=>by
   cases rf with
   |next=>exact hk m' fz'' s' (az hf hf') R' L'
   |_=>exact hk.elim) HE)
theorem px(O:bK C cy n) (hns:C.ns=gM) (hS:C.F.sc=S0 572) (HE:PassesOwn (model ae C.w) C.F.A C.F.env E) {u:U}{e:Stmt} (hk:lR (S0 572) gM u e) (H:wi cy u ρ own (O1 (St C ex fz es Q E))):St C ex fz (e::es) Q E ρ own:=FI HE (JN O (hS▸hns▸hk) H)
theorem Eg(O:bK C cy n) (hx:nm C.ns i=some x) (ha:fS ρ i=some (.raw (.ref a))) {pre post:aG} (h:St C ex fz es Q E (cU ρ i (.lst xs)) (pre++post)):St C ex fz es Q E ρ (pre++(a,xs)::post):=fun m fz' s hf R L =>
 (pH O.hn hx ha R L) _ fun fz'' hf' R' L'=>h m fz'' s (az hf hf') R' L'
theorem i4(h:num.length<=10):(aS num).length<=310 :=
 WZ (W9 (Xg.trans (congrArg (_+ ·) (XR bg)))) (Nat.add_le_add (WZ (gP num 0) (Nat.mul_le_mul_left 30 h)) (mT _))
theorem pI(SZ:dH num):ar (aY num)<=50000 :=
 WZ (kd (B:=100) fun y hy=>(Xp.mp hy).elim fun a ha=>ha.2▸SZ.wr a ha.1) (WZ (Nat.mul_le_mul_right 100 (WZ (W9 (XR _)) (i4 SZ.short))) (by decide))
theorem vm(h:ar x<=50000):(br x).length<=1000000 :=
 WZ (W9 (Xg.trans (congrArg (. +_) ((XR _).trans List.length_dropLast)))) (WZ (Nat.add_le_add (WZ (Nat.sub_le _ _) (WZ (split_le x "\n") (XG (WZ (W9 (bo x)) h) 2))) (List.length_filter_le _ _)) (Xd rfl))
noncomputable def pV(C:LX) (ex fz:ad) (es:List Stmt) (num:List Int) (op:W3) (Q:Flow->W2->Prop) (E:WY->W2->Prop):Prop :=
 ∀ln vd m fz' s,(∀p∈fz,p∈fz')->RS C.w (C.J ex) C.F m [(ln,sV (br (aY num)))] fz' s->m "options" = some (.ref op)->m "lines" = some (.ref ln)->m "due" = some vd->RV C.w.params C.la fz' (.lst ((i8 num).map bL.V)) vd->wpAny (model ae C.w) C.F.A (execs es C.F.env) Q E s
theorem H5(hns:C.ns=gM) {ln du:W3}{Y:XS}{old:Bool}{x22 x23 x24:Option V}{d:DS} (h:pV C ex fz es num op Q E):St C ex fz es Q E (cU (rD {Y with x4:=some (.raw (.ref op))} ln old x8 x9 x10 d du x22 x23 x24) 16 (.lst ((i8 num).map bL.V))) [(ln,sV (br (aY num)))]:=fun m fz' s hf R L=>by
 obtain⟨v4,e4,r4⟩:=L 4 "options" _ (hns▸rfl) rfl
 obtain⟨v14,e14,r14⟩:=L 14 "lines" _ (hns▸rfl) rfl
 obtain⟨v16,e16,r16⟩:=L 16 "due" _ (hns▸rfl) rfl
 obtain rfl:=r4.view
 obtain rfl:=r14.view
 exact h ln v16 m fz' s hf R e4 e14 e16 r16
theorem IH(O:bK C cy n) (hns:C.ns=gM) (hS:C.F.sc=S0 572) (HE:PassesOwn (model ae C.w) C.F.A C.F.env E) (SZ:dH num) {ln:W3}{x6 x7 x11 x12:Option V}{p:V} (h:pV C ex fz es num op Q E) :
   St C ex fz (lwS 10::lwS 11::lwS 12::es) Q E (cU (cU (rA none (.lst (num.map .int)) (.int num.sum) (.bool (dj num.sum)) (.raw (.ref op)) (.lst ((aS num).map aV)) x6 x7 x8 x9 x10 x11 x12) 13 p) 14 (.raw (.ref ln))) [(ln,sV (br (aY num)))] :=
 let Y:XS:=⟨none,some (.lst (num.map .int)),some (.int num.sum),some (.raw (.ref op)),some (.lst ((aS num).map aV)),x6,x7,x11,x12,some p,some (.raw (.ref ln))⟩
 px O hns hS HE Q0 fun du=>px O hns hS HE RH (Kw (Y:=Y) (d:=IW) (O:=[(ln,sV (br (aY num)))]) SZ.ok rfl fun x8 x9 x10 x22 x23 x24 =>
   px O hns hS HE RX (OJ (Y:=Y) (pre:=[]) (post:=[]) (vm (pI SZ)) (WZ SZ.due (by decide)) (Eg O (i:=16) (x := "due") (hns▸rfl) (pre:=[]) rfl (H5 (Y:=Y) hns h))))
end
end
section
section
variable {own:aG}{Q:Flow->W2->Prop}{es:List Stmt}
theorem xU:∀(ρ:List (Option V)) (i:Nat) (v:V),Nat.ble (i+1) ρ.length=true->fS (cU ρ i v) i=some v
 |[],_,_,h=>ly h
 |_::_,0,_,_=>rfl
 |_::r,i+1,v,h=>xU r i v h
theorem zR(O:bK C cy (n+1)) (hns:C.ns=gM) (hS:C.F.sc=S0 572) (HE:PassesOwn (model ae C.w) C.F.A C.F.env E) (SZ:dH num) {x6 x7 x11 x12:Option V} (h:pV C ex fz es num op Q E) :
   St C ex fz (lwS 9::lwS 10::lwS 11::lwS 12::es) Q E (cU (rA none (.lst (num.map .int)) (.int num.sum) (.bool (dj num.sum)) (.raw (.ref op)) (.lst ((aS num).map aV)) x6 x7 x8 x9 x10 x11 x12) 13 (.lst (sV (XN (aY num) "\n")))) [] :=
 FI HE (uw O hns hS (K:=O1 (St C ex fz (lwS 10::lwS 11::lwS 12::es) Q E)) (x:=aY num) (xU _ 13 _ rfl) (pI SZ) fun ln=>IH (x6:=x6) (x7:=x7) (x8:=x8) (x9:=x9) (x10:=x10) (x11:=x11) (x12:=x12) (p:= .lst (sV (XN (aY num) "\n"))) O hns hS HE SZ h)
theorem wz(O:bK C cy (n+1)) (hns:C.ns=gM) (hS:C.F.sc=S0 572) (HE:PassesOwn (model ae C.w) C.F.A C.F.env E) (SZ:dH num) {x6 x7 x11 x12:Option V} (h:pV C ex fz es num op Q E) :
   St C ex fz (lwS 8::lwS 9::lwS 10::lwS 11::lwS 12::es) Q E (rA none (.lst (num.map .int)) (.int num.sum) (.bool (dj num.sum)) (.raw (.ref op)) (.lst ((aS num).map aV)) x6 x7 x8 x9 x10 x11 x12) [] :=
 FI HE (u1 O hns hS (K:=O1 (St C ex fz (lwS 9::lwS 10::lwS 11::lwS 12::es) Q E)) (As:=aS num) rfl (WZ (i4 SZ.short) (by decide)) SZ.wr (zR O hns hS HE SZ h))
theorem II(O:bK C cy (n+1)) (hns:C.ns=gM) (hS:C.F.sc=S0 572) (HE:PassesOwn (model ae C.w) C.F.A C.F.env E) (SZ:dH num) {at':W3}{x6 x7 x11 x12:Option V} (h:pV C ex fz es num op Q E) :
   St C ex fz (lwS 8::lwS 9::lwS 10::lwS 11::lwS 12::es) Q E (rA none (.lst (num.map .int)) (.int num.sum) (.bool (dj num.sum)) (.raw (.ref op)) (.raw (.ref at')) x6 x7 x8 x9 x10 x11 x12) (cr at' (aS num)) :=
 Eg O (i:=5) (x := "atoms") (hns▸rfl) (pre:=[]) (post:=[]) (xs:=(aS num).map aV) rfl (wz (x6:=x6) (x7:=x7) (x8:=x8) (x9:=x9) (x10:=x10) (x11:=x11) (x12:=x12) O hns hS HE SZ h)
theorem xh(O:bK C cy (n+1)) (hns:C.ns=gM) (hS:C.F.sc=S0 572) (HE:PassesOwn (model ae C.w) C.F.A C.F.env E) (SZ:dH num) (h:pV C ex fz es num op Q E) :
   St C ex fz (lwS 5::lwS 6::lwS 7::lwS 8::lwS 9::lwS 10::lwS 11::lwS 12::es) Q E (r0 none (some (.lst (num.map .int))) (some (.int num.sum)) (some (.bool (dj num.sum))) (some (.raw (.ref op)))) [] :=
 px O hns hS HE T6 fun at'=>px O hns hS HE Ui (Ld (WZ SZ.short (by decide)) fun x6 x7 x8 x9 x10 x11 x12=>px O hns hS HE Ti (OP (WZ (gP num 0) (WZ (Nat.mul_le_mul_left 30 SZ.short) (by decide))) fun x8=>II (x6:=x6) (x7:=x7) (x8:=x8) (x9:=x9) (x10:=x10) (x11:=x11) (x12:=x12) O hns hS HE SZ h))
theorem CN(O:bK C cy (n+1)) (hns:C.ns=gM) (hS:C.F.sc=S0 572) (hdep:C.F.A.depth+4<Xh) (HE:PassesOwn (model ae C.w) C.F.A C.F.env E) (SZ:dH num)
   (h:∀op fz',dP C.w fz' op (dj num.sum)->pV C ex fz' es num op Q E) :
   St C ex fz (lwS 1::lwS 2::lwS 3::lwS 4::lwS 5::lwS 6::lwS 7::lwS 8::lwS 9::lwS 10::lwS 11::lwS 12::es) Q E (r0 none (some (.lst (num.map .int))) none none none) [] :=
 have h3:St C ex fz (lwS 3::lwS 4::lwS 5::lwS 6::lwS 7::lwS 8::lwS 9::lwS 10::lwS 11::lwS 12::es) Q E (r0 none (some (.lst (num.map .int))) (some (.int num.sum)) (some (.bool (dj num.sum))) none) []:=fun m fz' s hf R L=>GR O hns hS hdep R L fun op m' fz'' s' hf' R' OI L'=>xh O hns hS HE SZ (h op fz'' OI) m' fz'' s' ag R' L'
 px O hns hS HE TQ (Exists.intro num (Xy rfl (px O hns hS HE Tp (Xy ⟨by decide,by decide⟩ (Xy (by decide) h3)))))
theorem vy(O:bK C cy (n+1)) (hns:C.ns=gM) (hS:C.F.sc=S0 572) (hdep:C.F.A.depth+4<Xh) (HE:PassesOwn (model ae C.w) C.F.A C.F.env E) {sa:W3}{ns:List Int} (hsa:C.F.Up.IsList sa vs.toArray) (hi:IntsAre vs ns) (hz:ns.length<=1000) (hm:m "script" = some (.ref sa)) (SZ:dH (b8 ns))
   (R:RS C.w (C.J ex) C.F m [] fz s) (h:∀op fz',dP C.w fz' op (dj (b8 ns).sum)->pV C ex fz' es (b8 ns) op Q E) :
   wpAny (model ae C.w) C.F.A (execs (lwS 0::lwS 1::lwS 2::lwS 3::lwS 4::lwS 5::lwS 6::lwS 7::lwS 8::lwS 9::lwS 10::lwS 11::lwS 12::es) C.F.env) Q E s :=
 KR O hns hS hsa hi hz hm R fun m' fz' s' R' L'=>CN O hns hS hdep HE SZ h m' fz' s' ag R' L'
end
end
section
theorem QV(P:W1):nsIn (KF P) XI "SourceFile" = some (some (.ref 303)):=by kernel_rfl
theorem JX(P:W1):keepIn (KF P) (.ref 303)=true:=by kernel_rfl
theorem RE:lwS 13= .Assign [.Name "source" (aj (eJ (lwS 13)))] (.Call (.Name "SourceFile" (aj (ao (vX 13)))) [.Constant (.str "t.c") (dw (aN (vX 13))) (aj (aN (vX 13)))] [] (aj (vX 13))) (ci (lwS 13)):=by kernel_rfl
theorem Qj:lwS 14= .Assign [.Name "got" (aj (eJ (lwS 14)))] (.List [] (aj (vX 14))) (ci (lwS 14)):=by kernel_rfl
theorem mV:(ak (S0 572) "source" && (bO (S0 572) "SourceFile" && ak (S0 572) "got"))=true:=by kernel_rfl
section
variable {own:aG}{Q:Flow->W2->Prop}
noncomputable def CU(w:Xj) (la:LA) (ex:ad) (gs:Array Xf) (F:Fm) (m:Str->Option WY) (own:aG) (fz:ad) (s:W2) (a:W3) (xs:List V):Prop:=∀qC:Prop,(∀(vs:List WY) (nn:Nat),aL w.params la fz xs vs->RS w (JL w.params la ex gs) F m own ((a,W0 (X5 vs) nn)::fz) s->qC)->qC
theorem RS.own_still(R:RS w (JL w.params la ex gs) F m ((a,xs)::own) fz s):CU w la ex gs F m own fz s a xs:=by
 refine R.jl_open _ ?_;rintro mo hc N nd
 obtain⟨m1,vs,nn,m2,r,qq,k2⟩:=fC.split (pre:=[]) hc
 have pm:(m1++m2++ex++(a,W0 (X5 vs) nn)::fz).Perm (m1++(a,W0 (X5 vs) nn)::m2++ex++fz):=wG
 exact(fun qq qk=>qk vs nn r (R.jl_mk (k2.mono (a5 _)) (fun p hp=>N p (pm.mem_iff.mp hp)) ((pm.map (·.1)).nodup_iff.mpr nd) rfl R.fr rfl rfl))
theorem yk(FO:aa w F) (hS:F.sc=S0 572) {es:List Stmt} (R:RS w (JL w.params la ex gs) F m own fz s) (hdep:F.A.depth+2<Xh)
   (h:∀sf dsf es' nn gt s',be es' 1->RS w (JL w.params la (am sf dsf es' nn++ex) gs) F (fun y=>if y = "got" then some (.ref gt) else if y = "source" then some (.ref sf) else m y) ((gt,[])::own) fz s'->wpAny (model ae w) F.A (execs es F.env) Q E s') :
   wpAny (model ae w) F.A (execs (lwS 13::lwS 14::es) F.env) Q E s:=by
 refine R.jl_more _ ?_;rintro news RR nd back
 rw[RE,Qj]
 refine Xa (XK (Call_ (bF FO RR (hS▸af (ai mV)) (.inl (QV _)) (XZ (P:=fun h=>(KF w.params).In h) rfl (fun h X=>keeps_K (JX _) h X) (aq (Xz (X4 (args_nil ⟨FO.G.X.keeps R.fr.keep,wy FO hdep (RR.toks _) rfl fun sf dsf es' nn s1 hE R1 lt o1=>?_⟩))) rfl))) rfl) rfl)
 have R2:=back (am sf dsf es' nn) (am sf dsf es' nn) [] s1 m R1 (cY (o:=Xu 303 dsf) (bp (o:=Xc es' nn) o1 lt) (cY (o:=Xc es' nn) lt nd)) (.of_eq (XY _))
 exact aM FO R2 (hS▸af mV) fun s2 R3=>Xa (XK (List_ (args_nil (wpAny_newList (aM FO (R3.own_new s2.toks) (hS▸ai (ai mV)) fun s3 R5=>h sf dsf es' nn _ s3 hE R5) (by decide)))) rfl)
end
end
section
noncomputable def yh:Stmt->List Stmt×List ExceptHandler×List Stmt×List Stmt×Pos
 |.Try b h o f p=>(b,h,o,f,p)
 |_=>([],[],[],[],default)
noncomputable def qA:Stmt:=cP (yh (lwS 15)).1
noncomputable def rX:W5:=bj qA
theorem Ef:rX= .Call (.Attribute (.Call (.Name "CLexer" (aj (ao (ao (ao rX))))) [.Name "options" (aj (aN (ao (ao rX))))] [] (aj (ao (ao rX)))) "lex" (aj (ao rX))) [.Name "lines" (aj (aN rX)),.Name "source" (aj (pK rX))] [] (aj rX):=by kernel_rfl
theorem Qg:(aj (ao rX)).endLine=(aj rX).line:=by kernel_rfl
theorem BL:((bO (S0 572) "CLexer" && ak (S0 572) "options")&&(ak (S0 572) "lines" && ak (S0 572) "source"))=true:=by kernel_rfl
theorem K3(P:W1):nsIn (KF P) XI "CLexer" = some (some (.ref 439)):=by kernel_rfl
theorem JR(P:W1):keepIn (KF P) (.ref 439)=true:=by kernel_rfl
theorem Ks(P:W1):findIn (KF P) (.ref 439) "lex" = some (some (.ref 351)):=by kernel_rfl
theorem Lz(P:W1):isFn (KF P) (.ref 351)=true:=by kernel_rfl
theorem Ov(P:W1):keepIn (KF P) (.ref 351)=true:=by kernel_rfl
theorem HR{tb pb ct:W3}{cv:WY}{t0 t1 t2 t3:Tok}:getL "lex" (fM P tb pb ct cv t0 t1 t2 t3)=some none:=by kernel_rfl
theorem Dg{a b c d e f g i j:α}{h r:List α}:(a::b::c::d::e::(f::g::h++(i::[j]))++r).Perm (i::f::g::(e::a::b::c::j::(h++[d]))++r):=by
 refine List.Perm.append_right r ?_
 have h1:(f::g::h++(i::[j])).Perm (i::f::g::(j::h)):=XF.trans (((List.perm_append_comm (l₁:=h) (l₂:=[j])).cons g).cons f |>.cons i)
 have h2:(e::a::b::c::j::(h++[d])).Perm (a::b::c::d::e::(j::h)) :=
   (((((List.perm_append_comm (l₁:=h) (l₂:=[d])).cons j).trans (.swap d j h)).append_left [e,a,b,c])).trans ((XF (l₁:=[a,b,c,d]) (a:=e) (l₂:=j::h)).symm)
 exact((h1.append_left [a,b,c,d,e]).trans (List.perm_append_comm_assoc [a,b,c,d,e] [i,f,g] (j::h))).trans ((h2.symm.append_left [i,f,g]))
theorem Lj(P:W1) (L0 L1 L3:W3):AllBare (d4 P (d4 P (d4 P #[] 314 L0 []) 328 L1 []) 366 L3 [("__class__",332)]):=((AllBare.empty.push rfl).push rfl).push rfl
theorem vo{a b c d e:W3×Obj}:(e::d::c::a::b::l).Perm (a::b::c::d::e::l) :=
 ((List.perm_append_comm (l₁:=[e,d,c]) (l₂:=[a,b])).trans ((List.reverse_perm [e,d,c]).symm.append_left [a,b])).append_right l
theorem Dr{news:ad}{x tb pb ct:W3}{o1 o2 o3 o4 o5:Obj} (lt:∀p∈news,p.1<dx) (h1:dx<x) (h2:x<tb) (h3:tb<pb) (h4:pb<ct) (nd:(a7 news).Nodup):(a7 ([(x,o1),(dx,o2),(tb,o3),(pb,o4),(ct,o5)]++news)).Nodup:=by
 have b1:=bp (o:=o2) h1 lt
 have b2:=bp (o:=o1) h2 b1
 have b3:=bp (o:=o3) h3 b2
 exact(vo.map (·.1)).nodup_iff.mp (cY (o:=o5) (bp (o:=o4) h4 b3) (cY (o:=o4) b3 (cY (o:=o3) b2 (cY (o:=o1) b1 (cY (o:=o2) lt nd)))))
section
theorem RS.gputA(R:RS w (JG la) F m (cs,g) fz s) {n1 n2:ad} (R':aO F m' (new++(cs++fz)) s s') (hp:(n1++n2).Perm new) (hn:(a7 (new++(cs++fz))).Nodup):RS w (JG la) F m' (n1++cs,g) (n2++fz) s' :=
 have q:=kh hn
 R.gput R' hp q.1 fun p hp h=>q.2.2 p.1 (Xv hp) p.1 h rfl
inductive DQ(w:Xj) (la:LA) (F:Fm) (m:Str->Option WY) (cs:ad) (g:Array Xf) (fz:ad) (op:W3) (s:W2):WY->Prop
 |mk (x dx tb pb ct:W3) (t0 t1 t2 t3:Tok) (dn:Nat):RS w (JG la) F m ((dx,Xc (fM w.params tb pb ct (.ref op) t0 t1 t2 t3) dn)::(tb,W0 #[] 0)::(pb,W0 #[] 0)::(ct,W0 #[] 0)::cs,g) ((x,Xu 439 dx)::fz) s->DQ w la F m cs g fz op s (.ref x)
theorem y3(FO:aa w F) (hS:F.sc=S0 572) (hdep:F.A.depth+4<Xh) (R:RS w (JG la) F m (cs,g) fz s) (m1:m "options" = some (.ref op)) {p3:Pos} (h:∀v s',DQ w la F m cs g fz op s' v->Q v s') :
   wpAny (model ae w) F.A (eval (.Call (.Name "CLexer" p1) [.Name "options" p2] [] p3) F.env) Q E s :=
 Call_ (bF FO R.graw.1 (hS▸af (af BL)) (.inl (K3 _)) (XZ (P:=fun h=>(KF w.params).In h) rfl (fun h X=>keeps_K (JR _) h X) (aq (Xz (ax FO R.graw.1 (hS▸ai (af BL)) m1 (args_nil ⟨FO.G.X.keeps R.fr.keep,rN FO hdep R.graw.1 fun x dx tb pb ct t0 t1 t2 t3 dn s1 R1 lt o1 o2 o3 o4 =>
   h _ _ ⟨x,dx,tb,pb,ct,t0,t1,t2,t3,dn,R.gputA (new:=[(x,Xu 439 dx),(dx,Xc (fM w.params tb pb ct (.ref op) t0 t1 t2 t3) dn),(tb,W0 #[] 0),(pb,W0 #[] 0),(ct,W0 #[] 0)]) (n1:=[(dx,Xc (fM w.params tb pb ct (.ref op) t0 t1 t2 t3) dn),(tb,W0 #[] 0),(pb,W0 #[] 0),(ct,W0 #[] 0)]) (n2:=[(x,Xu 439 dx)]) R1 (List.perm_append_comm (l₂:=[(x,Xu 439 dx)])) (Dr lt o1 o2 o3 o4 R.graw.2.1)⟩⟩))) rfl))) rfl
end
end
section
theorem vD(l:List (Str×Tok)):(strValues l).toArray.toList=l.map lA:=rfl
section
noncomputable abbrev li(l:List (Str×Tok)):List Ch:=bc none (bu 1 (l.map (·.1)))
inductive FQ(w:Xj) (F:Fm) (m:Str->Option WY) (old:Bool) (op sf dsf gt:W3) (l:List (Str×Tok)) (fz:ad) (s:W2):WY->Prop
 |mk (la:LA) (G:eu) (ga3 L3:W3) (oL3:Obj) (m3:Str->Option WY) (nn:Nat) (fz':ad):gy w la G old op F.base.objs.size 3->(∀p∈fz,p∈fz')->G.sf=sf->G.dsf=dsf->G.fin=1+(l.length:Int)->G.i0=0->G.i1=1 ->
     RS w (JP w la G old op F.base.objs.size 3 ((L3,oL3)::[(gt,W0 #[] nn)])) F m (li l) fz' s->d9 2 ga3 fz'->fL m3 oL3->m3 "self" = some (.ref la.lx)->m3 "characters" = some (.ref la.ga) ->
     s.gens[2]?=some (.fresh (.func (ay (ah w.params 366)) (dd F w.params L3).env))->F.L<L3->FQ w F m old op sf dsf gt l fz s (.ref ga3)
noncomputable abbrev J4(w:Xj) (x dx tb pb ct op sf dsf gt:W3) (t0 t1 t2 t3:Tok) (dn:Nat) (es:List XH) (nn1 nn:Nat) (ps:Array WY):ad :=
 (dx,Xc (fM w.params tb pb ct (.ref op) t0 t1 t2 t3) dn)::(tb,W0 #[] 0)::(pb,W0 #[] 0)::(ct,W0 #[] 0)::(gt,W0 #[] nn)::(am sf dsf es nn1++[(225,tabObj ps)])
theorem Hi{old:Bool}{ln x tb pb ct:W3}{t0 t1 t2 t3:Tok}{dn nn1 nn2:Nat}{l:List (Str×Tok)} (hbase:F.base.objs.size<=F.L) (hE:be es 1) (hps:hJ ps) (hok:∀p∈l,fT p.1) (hlen:(li l).length<=90000) (OI:dP w fz op old) (hln:(ln,W0 (strValues l).toArray nn2)∈fz)
   {L0 ga0 L1 ga1 L3 ga3:W3}{oL0 oL1 oL3:Obj}{m0 m1 m3:Str->Option WY}{n0 q0 n1 q1 n3 q3:WY} (hn0:fL m0 oL0) (f1:m0 "f" = some (.ref ln)) (f2:m0 "source_file" = some (.ref sf)) (hn1:fL m1 oL1) (f3:m1 "characters" = some (.ref ga0)) (hn3:fL m3 oL3) (f4:m3 "self" = some (.ref x)) (f5:m3 "characters" = some (.ref ga1))
   (hl0:ln<L0) (hFL:F.L<L0) (g1:L0<ga0) (g2:ga0<L1) (g3:L1<ga1) (g4:ga1<L3) (up:∀p∈(ga3,iJ 2 n3 q3)::(ga1,iJ 1 n1 q1)::(ga0,iJ 0 n0 q0)::(x,Xu 439 dx)::fz,p∈fz')
   (R:RS w (JG la) F m ((L3,oL3)::(L1,oL1)::(L0,oL0)::J4 w x dx tb pb ct op sf dsf gt t0 t1 t2 t3 dn es nn1 nn ps,d4 w.params (d4 w.params (d4 w.params #[] 314 L0 []) 328 L1 []) 366 L3 [("__class__",332)]) fz' s):FQ w F m old op sf dsf gt l fz s (.ref ga3):=by
 have hfr:∀p∈(x,Xu 439 dx)::fz,p∈fz':=fun p hp=>up p (.tail _ (.tail _ (.tail _ hp)))
 have hup:∀p∈fz,p∈fz':=fun p hp=>hfr p (.tail _ hp)
 obtain⟨Rr,nd,hg⟩:=R.graw
 let G:eu:={src:=ln,items:=(strValues l).toArray,nn:=nn2,sf,dsf,fin:=1+(l.length:Int),H:=F.base,L0,i0:=0,ga0,os:=F.os,dr:=F.dr,L1,i1:=1,ga1}
 let la':LA:={lx:=x,dx,tb,pb,ct,co:=op,ga:=ga1,gn:=0,dn:=dn+1,hs:=fun i=>XV w.params (AN i),ts:=fun i=>match i with|0=>t0|1=>t1|2=>t2|_=>t3,more:=fun qq=>none,lo:=F.base.objs.size}
 have hL1:F.L<L1:=Xx hFL (Xx g1 g2)
 have le:∀{a},F.L<a->F.base.objs.size<=a:=fun ha=>Nat.le_of_lt (Xi hbase ha)
 have I:IP w.params la' (bV w G old op F.base.objs.size 3 ((L3,oL3)::[(gt,W0 #[] nn)])) (li l) ((tb,W0 #[] 0)::(pb,W0 #[] 0)::(ct,W0 #[] 0)::(225,tabObj ps)::(dx,Xc (dO la') dn)::(((L1,oL1)::(L0,oL0)::am sf dsf es nn1)++((L3,oL3)::[(gt,W0 #[] nn)]))) fz' s.gens:=by
   rw[hg]
   exact(fun qq qk=>qk 0 0 0 ps dn _ (hfr _ (.head _)) (Lj _ _ _ _) hlen rfl rfl hps (fun qq qk=>qk _ rfl (.inl (.fresh fz' _ oL1 m1 _ _ hn1 f3 (.fresh _ oL0 m0 es nn1 l hn0 f1 f2 hE (vD l) hok rfl rfl) rfl))
     ⟨le hFL,le hL1,hup _ hln,X3 hl0,⟨_,n0,q0,up _ (.tail _ (.tail _ (.head _))),rfl,rfl,rfl⟩,g1,⟨_,n1,q1,up _ (.tail _ (.head _)),rfl,rfl,rfl⟩,g3,Nat.zero_ne_one⟩ (OI.mono hup) (Xl 3)))
 have pm:=Dg (a:=(tb,W0 #[] 0)) (b:=(pb,W0 #[] 0)) (c:=(ct,W0 #[] 0)) (d:=(225,tabObj ps)) (e:=(dx,Xc (dO la') dn)) (f:=(L1,oL1)) (g:=(L0,oL0)) (h:=am sf dsf es nn1) (i:=(L3,oL3)) (j:=(gt,W0 #[] nn)) (r:=fz')
 exact⟨la',G,ga3,L3,oL3,m3,nn,fz',⟨rfl,rfl,rfl,rfl⟩,hup,rfl,rfl,rfl,rfl,rfl,⟨R.fr,⟨_,I,fun p hp=>Rr.nw p (pm.mem_iff.mp hp),(pm.map (·.1)).nodup_iff.mpr nd⟩,R.os,R.dr,Xl _⟩,(fun qq qk=>qk _ n3 q3 (up _ (.head _)) rfl rfl rfl),hn3,f4,f5,hg▸rfl,Xx hL1 (Xx g3 g4)⟩
end
end
section
section
theorem fC.nil_eq{mo:ad} (h:fC P la fz [] mo):mo=[]:=by
 cases h;rfl
noncomputable def QH(w:Xj) (la:LA) (F:Fm) (m:Str->Option WY) (gt:W3) (cs fz:ad) (s:W2):Prop:=∀qC:Prop,(∀(nn:Nat),RS w (JG la) F m ((gt,W0 #[] nn)::cs,#[]) fz s->qC)->qC
theorem N5(R:RS w (JL w.params la cs #[]) F m [(gt,[])] fz s):QH w la F m gt cs fz s:=by
 refine R.jl_open _ ?_;rintro mo hc N nd
 obtain⟨m1,vs,nn,m2,r,qq,k2⟩:=fC.split (pre:=[]) hc
 obtain⟨rfl,rfl⟩:=List.append_eq_nil_iff.mp k2.nil_eq
 obtain rfl:=r.nil_eq
 exact(fun qq qk=>qk nn ⟨R.fr,⟨_,⟨rfl,R.jl_gs⟩,N,nd⟩,R.os,R.dr,R.lo⟩)
theorem BA(FO:aa w F) (LV:aU F.A 12) (hbase:F.base.objs.size<=F.L) (hS:F.sc=S0 572) {ln:W3}{nn1 nn2:Nat}{l:List (Str×Tok)}{old:Bool}
   (R:RS w (JL w.params la (am sf dsf es nn1++[(225,tabObj ps)]) #[]) F m [(gt,[])] fz s) (hE:be es 1) (hln:(ln,W0 (strValues l).toArray nn2)∈fz) (OI:dP w fz op old) (hps:hJ ps)
   (m1:m "options" = some (.ref op)) (m2:m "lines" = some (.ref ln)) (m3:m "source" = some (.ref sf)) (hok:∀p∈l,fT p.1) (hlen:(li l).length<=90000) (h:∀v s',FQ w F m old op sf dsf gt l fz s' v->Q v s') :
   wpAny (model ae w) F.A (eval rX F.env) Q E s:=by
 refine(N5 R) _ ?_;rintro nn R0
 rw[Ef]
 refine methodCall_KW (pl:=(do return (←importBound (.Call (.Name "CLexer" (aj (ao (ao (ao rX))))) [.Name "options" (aj (aN (ao (ao rX))))] [] (aj (ao (ao rX)))) F.env).getD true)) (kws:=[]) (y3 FO hS (Xi (XB (by decide) _) (Xi LV.depth (by decide))) R0 m1 fun v s1 ha=>?_) (mS (fun qq=>rfl) Qg (kW (Xd rfl) rfl))
 obtain⟨x,dx,tb,pb,ct,t0,t1,t2,t3,dn,R2⟩:=ha
 have q:=R2.graw
 have hl1:(x,Xu 439 dx)∈J4 w x dx tb pb ct op sf dsf gt t0 t1 t2 t3 dn es nn1 nn ps++(x,Xu 439 dx)::fz:=aD
 have I1:Xr s1.heap x (Xu 439 dx) 439 (some (Xc (fM w.params tb pb ct (.ref op) t0 t1 t2 t3) dn)):=⟨(q.1.nw _ hl1).1,rfl,rfl,(q.1.nw _ (.head _)).1⟩
 refine method_inst R2.fr FO.G.X I1 (ew _ _) (Ks _) (Lz _) HR (XZ (P:=fun h=>(KF w.params).In h) rfl (fun h X=>keeps_K (Ov _) h X) (aq (Xz (ax FO q.1 (hS▸af (ai BL)) m2 (Xz (ax FO q.1 (hS▸ai (ai BL)) m3 (args_nil ⟨FO.G.X.keeps R2.fr.keep,?_⟩))))) rfl))
 exact uU FO (LV.le (by decide)) R2 hl1 (.head _) (OI.mono fun p hp=> .tail _ hp) fun L0 ga0 oL0 nm0 L1 ga1 oL1 nm1 L3 ga3 oL3 nm3 n0 q0' n1 q1' n3 q3' fz' s' hn0 f1 f2 hn1 f3 hn3 f4 f5 ltL0 hFL g1 g2 g3 g4 g5 up R3 =>
   h _ _ (Hi hbase hE hps hok hlen OI hln hn0 f1 f2 hn1 f3 hn3 f4 f5 (ltL0 (ln,W0 (strValues l).toArray nn2) (W4 _ (.tail _ hln))) hFL g1 g2 g3 g4 up R3)
end
end
section
noncomputable def xT{σ:Type} (I:σ->ad->ad->Array Xf->Prop) (g:Array Xf):σ->ad->ad->Array Xf->Prop:=fun st mu fz g'=>I st mu fz g'/\g'=g
noncomputable def vW:X:= .tup (.cons (.attr (.loc 0) 7) (.cons (.attr (.loc 0) 8) (.cons (.attr (.loc 0) 9) (.cons (.attr (.loc 0) 10) (.cons (.attr (.attr (.loc 0) 6) 11) (.cons (.attr (.attr (.loc 0) 6) 12) .nil))))))
noncomputable def m5:Stmt:=cP (eO qA).2.1
noncomputable def qV:W5:=bj m5
noncomputable abbrev Js(f:W5->W5) (e:Stmt):Stmt:= .Expr (.Call (.Attribute (.Name "got" (aj (ao (ao (bj e))))) "append" (aj (ao (bj e)))) [f (aN (bj e))] [] (aj (bj e))) (ci e)
theorem IY:m5=Js (ce mJ ["t"] vW) m5:=by kernel_rfl
theorem Jm:(aj (ao qV)).endLine=(aj qV).line:=by kernel_rfl
theorem t4:(ak (S0 572) "got" && (ak (S0 572) "t" && d7 mJ (S0 572) ["t"] vW (aN qV)))=true:=by kernel_rfl
theorem Gb:qA= .For (.Name "t" (aj (eJ qA))) rX [m5] [] (ci qA):=by kernel_rfl
section
variable {Q:Flow->W2->Prop}
theorem RS.fix(R:RS w (bC la I) F m st fz s):RS w (bC la (xT I s.gens)) F m st fz s:=⟨R.fr,R.led.elim fun mu h=>⟨mu,⟨h.1,rfl⟩,h.2⟩,R.os,R.dr,R.lo⟩
theorem RS.unfix(R:RS w (bC la (xT I g)) F m st fz s):RS w (bC la I) F m st fz s/\s.gens=g:=⟨⟨R.fr,R.led.elim fun mu h=>⟨mu,h.1.1,h.2⟩,R.os,R.dr,R.lo⟩,R.led.elim fun qq h=>h.1.2⟩
theorem Iu(h:bZ (bC la I)):bZ (bC la (xT I g)):=⟨fun st mu fz fz' g q k=>Xy (h.mono st mu fz fz' g q.1 k) q.2⟩
theorem De(h:gc (bC la I)):gc (bC la (xT I g)):=⟨fun st mu fz g q=>h.lex st mu fz g (And.left q)⟩
theorem zi{If:ad->σ->ad->ad->Array Xf->Prop} (JO:eK w G fun ex=>bC la (If ex)) (R:RS w (bC la (If (pre++[(gt,W0 vs.toArray nn)]))) F m st fz s) (r:aL w.params la fz xs vs) (hz:xs.length<=1000000) {x:V} (rv:RV w.params la fz x v) {Q:WY->W2->Prop}
   (h:∀vs' nn' s',s'.gens=s.gens->aL w.params la fz (xs++[x]) vs'->RS w (bC la (If (pre++[(gt,W0 (X5 vs') nn')]))) F m st fz s'->Q .none s'):wpAny (model ae w) A (call (.builtin "list.append") [.ref gt,v] []) Q E s:=by
 refine(JO.opn _ F m st fz s R) _ ?_;rintro tl N nd back
 have e:∀o:Obj,tl++(pre++[(gt,o)])++fz=tl++pre++(gt,o)::fz:=fun o=>(congrArg (. ++fz) (Xo tl pre _).symm).trans (Xo (tl++pre) [(gt,o)] fz)
 rw[e] at N nd
 refine append_K R.fr N (fe nd) (fun h' F' N'=>h (vs++[v]) (nn+1) _ rfl (r.append (.cons rv .nil)) (back F _ fz {s with heap:=h'} m rfl rfl rfl ag ?_ (by rw[e];exact eT nd) F' (GQ.refl _ _) rfl rfl)) (WZ (W9 ((XO:vs.toArray.size=_).trans r.length)) (WZ hz (by decide)))
 rw[e]
 exact(congrArg (fun l=>W0 l (nn+1)) (List.push_toArray vs v))▸N'
theorem s5{σ:Type}{If:ad->σ->ad->ad->Array Xf->Prop} (JO:eK w G fun ex=>bC la (If ex)) (hm:∀ex,bZ (bC la (If ex))) (hl:∀ex,gc (bC la (If ex))) (FO:aa w F) (LV:aU F.A n) (hS:F.sc=S0 572) {pre:ad}{gt:W3}{xs:List V}{vs:List WY}{nn:Nat}{st:σ} (hgot:m "got" = some (.ref gt))
   (R:RS w (bC la (If (pre++[(gt,W0 vs.toArray nn)]))) F m st fz s) (r:aL w.params la fz xs vs) (hz:xs.length<=1000000) {ρ:List (Option V)} (L:Lc w.params la ["t"] ρ m fz) {v:V} (H:cZ u9 ρ (fun qq qq=>False) vW st (fun u st'=>u=v/\st'=st))
   (h:∀vs' nn' fz' s',(∀p∈fz,p∈fz')->s'.gens=s.gens->aL w.params la fz' (xs++[v]) vs'->RS w (bC la (If (pre++[(gt,W0 (X5 vs') nn')]))) F m st fz' s'->Q .next s'):wpAny (model ae w) F.A (exec m5 F.env) Q E s:=by
 rw[IY]
 have hp:(backTo (aj qV) (starEach [ce mJ ["t"] vW (aN qV)] F.env)).any (·.1)=false:=bW _ _ (.cons vW .nil) [aN qV]
 have hgl:ak F.sc "got" = true:=hS▸af t4
 have O:aI w (bC la (xT (If (pre++[(gt,W0 vs.toArray nn)])) s.gens)) u9 n:=ny (Iu (hm _)) (De (hl _))
 refine(JO.opn _ F m st fz s R) _ ?_;rintro tl N nd qq
 refine wpAny_Expr_any (methodCall_KW (pl:=(do return (←importBound (.Name "got" (aj (ao (ao qV)))) F.env).getD true)) (kws:=[]) (ld R.fr hgot (kl_method N (D:=gt) (its:=vs.toArray) (n:=nn) (W7 _ (W4 _ (W4 _ (.head _)))) PySem.F.slot_list_append PySem.F.type_list_append
   (XZ (P:=fun h=>(KF w.params).In h) (Bool.or_eq_false_iff.mpr ⟨hp,rfl⟩) (fun h X=>aB w _ h) (aq (Xz ((dt (ρ:=ρ) (Ex:=fun qq qq=>False) O FO LV vW).e _ m st fz s (fun u st'=>u=v/\st'=st) _ E (hS▸ai (ai t4)) H R.fix L (fun u st' fz' s' xv hk hf R' rv=>?_) fun qq qq qq qq qq hx=>hx.elim) (dB _ _ _ _)) hp))) FO.kind (eq_of_beq (af hgl)) (dq (ai hgl))) (bI rfl Jm (kW (Xd rfl) hp))) (quiet FO) rfl
 obtain⟨rfl,rfl⟩:=hk
 have q:=R'.unfix
 exact args_nil ⟨FO.G.X.keeps R'.fr.keep,zi JO q.1 (r.mono hf) hz rv fun vs' nn' s'' hg r' R''=>h vs' nn' fz' s'' hf (hg.trans q.2) r' R''⟩
end
end
section
noncomputable def jc:bE->bL
 |none=>⟨"refused", "", "",false,0,0⟩
 |some (r,k)=>⟨"refused", "", "",false,r,k⟩
inductive gh(old:Bool):eD->List bL->bE->Bool->Prop
 |tok {ty v sp:Str}{f:Bool}{r k:Int}{S:S3}{res:eD}{rest:List bL}{p:bE}{b:Bool}:BO old S res->gh old res rest p b->gh old (.tok (.ctok ty v sp f r k) S) (⟨ty,v,sp,f,r,k⟩::rest) p b
 |fin:gh old .fin [] none true
 |err {p:bE}:gh old (.err p) [] p false
structure tX(w:Xj) (la:LA) (m0 m:Str->Option WY) (fz0 fz:ad) (xs:List bL) (vs:List WY):Prop where
 mm:∀y:Str,y ≠ "t" -> m y=m0 y
 up:∀p∈fz0,p∈fz
 r:aL w.params la fz (xs.map bL.V) vs
section
variable {m0:Str->Option WY}{fz0:ad}{Q:Flow->W2->Prop}{old:Bool}{ga3 L3:W3}{all:List bL}
theorem zt(FO:aa w F) (LV:aU F.A n) (hS:F.sc=S0 572) {i3:Nat}{S:S3} (hgot:m "got" = some (.ref gt)) (r:aL w.params la fz xs vs) (hz:xs.length<=1000000) {x:bL}{tv:WY} (rv:RV w.params la fz (.ctok x.ty x.v x.sp x.f x.r x.k) tv)
   (T:Es w la G old op lo ng [(gt,W0 vs.toArray nn)] L3 i3 L2 i2 ga2 F m fz s S)
   (h:∀vs' nn' fz' s',(∀p∈fz,p∈fz')->aL w.params la fz' (xs++[x.V]) vs'->Es w la G old op lo ng [(gt,W0 (X5 vs') nn')] L3 i3 L2 i2 ga2 F (fun y=>if y = "t" then some tv else m y) fz' s' S->Q .next s') :
   wpAny (model ae w) F.A (assign (.Name "t" q) F.env tv) (fun qq Uq=>wpAny (model ae w) F.A (execs [m5] F.env) Q E Uq) E s:=by
 have hl:ak F.sc "t" = true:=hS▸af (ai t4)
 have hg':(if ("got" : Str) = "t" then some tv else m "got")=some (.ref gt):=(if_neg (by decide +kernel)).trans hgot
 have L':Lc w.params la ["t"] [some (.ctok x.ty x.v x.sp x.f x.r x.k)] (fun y=>if y = "t" then some tv else m y) fz:=Lc.cons (dJ (us:=[]) (bJ 0)) (if_pos rfl) rv
 induction T with
 |mid b ty v r' k f st oL3 oL2 R T2 T3=>exact wpAny_assign_Name (aM FO R.fix hl fun Uq Uo=>Xa (s5 (If:=fun ex=>I1 w.params la (bV w G old op lo ng ex)) (pre:=[(L3,oL3),(L2,oL2)]) (m:=fun y=>if y = "t" then some tv else m y) (vs:=vs) (nn:=nn) (st:=st) (ρ:=[some (.ctok x.ty x.v x.sp x.f x.r x.k)]) (v:=x.V) ip (fun qq=>ef eo) (fun qq=>sh) FO LV hS hg' Uo.unfix.1 r hz L' (Xy rfl rfl) fun vs' nn' fz' s' hf hg r' R' =>
     Xw (h vs' nn' fz' s' hf r' (.mid b ty v _ k f st oL3 oL2 R' ((hg.trans Uo.unfix.2)▸T2.mono hf) ((hg.trans Uo.unfix.2)▸T3.mono hf)))))
 |done oL3 R T3=>exact wpAny_assign_Name (aM FO R.fix hl fun Uq Uo=>Xa (s5 (If:=fun ex=>I1 w.params la (SD w G old op lo ng ex true)) (pre:=[(L3,oL3)]) (m:=fun y=>if y = "t" then some tv else m y) (vs:=vs) (nn:=nn) (st:=⟨[],[],[]⟩) (ρ:=[some (.ctok x.ty x.v x.sp x.f x.r x.k)]) (v:=x.V) fJ (fun qq=>ef (z6 true)) (fun qq=>sh) FO LV hS hg' Uo.unfix.1 r hz L' (Xy rfl rfl) fun vs' nn' fz' s' hf hg r' R' =>
     Xw (h vs' nn' fz' s' hf r' (.done oL3 R' ((hg.trans Uo.unfix.2)▸T3.mono hf)))))
end
end
section
section
variable {m0:Str->Option WY}{fz0:ad}{s0:W2}{Q:Flow->W2->Prop}{old:Bool}{ga3 L3:W3}{all:List bL}
inductive OE(w:Xj) (G:eu) (F:Fm) (old:Bool) (op gt ga3 L3:W3) (lo:Nat) (m0:Str->Option WY) (fz0:ad) (all:List bL) (p:bE) (b:Bool) (s0:W2) (k:Nat) (s:W2):Prop
 |start:k=all.length+1->s=s0->OE w G F old op gt ga3 L3 lo m0 fz0 all p b s0 k s
 |mid (la:LA) (ng L2 i2:Nat) (ga2:W3) (m:Str->Option WY) (fz:ad) (vs:List WY) (nn:Nat) (xs:List bL) (S:S3) (res:eD) (rows:List bL):k=rows.length->gy w la G old op lo ng->L3<L2->oq G ng i2->oq G ng 2->i2≠2->d9 2 ga3 fz->d9 i2 ga2 fz->tX w la m0 m fz0 fz xs vs->BO old S res->gh old res rows p b->xs++rows=all ->
     Es w la G old op lo ng [(gt,W0 vs.toArray nn)] L3 2 L2 i2 ga2 F m fz s S->OE w G F old op gt ga3 L3 lo m0 fz0 all p b s0 k s
noncomputable def jW(w:Xj) (G:eu) (F:Fm) (old:Bool) (op gt:W3) (lo:Nat) (m0:Str->Option WY) (fz0:ad) (all:List bL) (Q:Flow->W2->Prop):Prop :=
 ∀la ng m fz s' vs nn,tX w la m0 m fz0 fz all vs->RS w (J1 w.params la (SD w G old op lo ng [(gt,W0 (X5 vs) nn)] true)) F m ⟨[],[],[]⟩ fz s'->Q .next s'
noncomputable def ni(w:Xj) (G:eu) (F:Fm) (old:Bool) (op gt:W3) (lo:Nat) (m0:Str->Option WY) (fz0:ad) (all:List bL) (p:bE) (E:WY->W2->Prop):Prop :=
 ∀la ng m fz st x s' vs nn,tX w la m0 m fz0 fz all vs->qj (I1 w.params la (bV w G old op lo ng [(gt,W0 (X5 vs) nn)])) F m st fz p x s'->E x s'
noncomputable abbrev cx(w:Xj) (la:LA) (F:Fm):LX:=⟨w,la,#[],F,[]⟩
theorem xB(FO:aa w F) (LV:aU F.A n) (hS:F.sc=S0 572) (hgot:m0 "got" = some (.ref gt)) (hall:all.length<=50000) (hq:b=true->jW w G F old op gt lo m0 fz0 all Q) (he:b=false->ni w G F old op gt lo m0 fz0 all p E) {xs:List bL}{rows:List bL} (Z:gy w la G old op lo ng) (hL2:L3<L2) (hI2:oq G ng i2) (hI3:oq G ng 2) (h23:i2≠2) (hg3:d9 2 ga3 fz) (hg2:d9 i2 ga2 fz) (EA:tX w la m0 m fz0 fz xs vs) (HA:gh old res rows p b) (hl:xs++rows=all) (hk:rows.length<=k) :
   sJ w la G old op lo ng [(gt,W0 vs.toArray nn)] L3 2 L2 i2 ga2 F m fz (Sg (cx w la F) (.Name "t" q) (.ref ga3) [m5] (z3 (cx w la F) Q E) (OE w G F old op gt ga3 L3 lo m0 fz0 all p b s0) k) E res:=by
 induction HA with
 |@tok ty v sp f r k' S res rest _ _ hn HA _=>exact fun tv fz' s' hf rv T=>Xk (zt FO LV hS (x:=⟨ty,v,sp,f,r,k'⟩) ((EA.mm "got" (by decide +kernel)).trans hgot) (EA.r.mono hf) (WZ (W9 (XR _)) (WZ (Nat.le_of_add_right_le (W9 (Xg.symm.trans (congrArg List.length hl)))) (WZ hall (by decide)))) rv T fun vs' nn' Uy Ut Uu r' T' =>
     ⟨rest.length,hk,.mid la ng L2 i2 ga2 _ Uy vs' nn' (xs++[⟨ty,v,sp,f,r,k'⟩]) S res rest rfl Z hL2 hI2 hI3 h23 (hg3.mono (az hf Uu)) (hg2.mono (az hf Uu)) ⟨fun y hy=>(if_neg hy).trans (EA.mm y hy),az EA.up (az hf Uu),(XM (f:=bL.V) (l₁:=xs) (l₂:=[⟨ty,v,sp,f,r,k'⟩])).symm▸r'⟩ hn HA ((Xo xs [⟨ty,v,sp,f,r,k'⟩] rest).trans hl) T'⟩)
 |fin=>exact fun fz' s' hf R=>Xw (hq rfl la ng m fz' s' vs nn ⟨EA.mm,az EA.up hf,((XY xs).symm.trans hl)▸EA.r.mono hf⟩ R)
 |err=>exact fun x st' fz' s' hf hz=>he rfl la ng m fz' st' x s' vs nn ⟨EA.mm,az EA.up hf,((XY xs).symm.trans hl)▸EA.r.mono hf⟩ hz
theorem xH(FO:aa w F) (LV:aU F.A 33) (hS:F.sc=S0 572) (HE:PassesOwn (model ae w) F.A F.env E) (hL3:F.L<L3) (hgot:m0 "got" = some (.ref gt)) (i0:G.i0=0) (i1:G.i1=1) (hall:all.length<=50000) (hq:b=true->jW w G F old op gt lo m0 fz0 all Q) (he:b=false->ni w G F old op gt lo m0 fz0 all p E)
   {oL3:Obj}{m3:Str->Option WY} (Z:gy w la G old op lo 3) (R:RS w (JP w la G old op lo 3 ((L3,oL3)::[(gt,W0 #[] nn)])) F m0 r fz s0) (hgen3:d9 2 ga3 fz) (hm:fL m3 oL3)
   (h1:m3 "self" = some (.ref la.lx)) (h2:m3 "characters" = some (.ref la.ga)) (hg:s0.gens[2]?=some (.fresh (.func (ay (ah w.params 366)) (dd F w.params L3).env))) (hN:dR old "" true .none 373 ⟨[],[],r⟩ res) (HA:gh old res all p b) (hup:∀p∈fz0,p∈fz) :
   codeAny (model ae w) F.A (.forLoop (.Name "t" q) (.ref ga3) [m5] [] F.env) (z3 (cx w la F) Q E) s0:=by
 have hidx:oq G 3 2:=⟨by rw[i0];decide,by rw[i1];decide,by decide⟩
 refine codeAny_forLoop_any (OE w G F old op gt ga3 L3 lo m0 fz0 all p b s0) (fun k Un I=>?_) (all.length+1) (.start rfl rfl)
 show yT (cx w la F) (.Name "t" q) (.ref ga3) [m5] (z3 (cx w la F) Q E) (OE w G F old op gt ga3 L3 lo m0 fz0 all p b s0) k Un
 induction I with
 |start hk hs =>
   subst hs
   exact wpAny_passesOwn HE (EH Z FO LV R (by rw[i0];decide) (by rw[i1];decide) hidx hgen3 hm h1 h2 hg hN hL3 (E:=E) fun tk ng' L2 i2 ga2 fz' hf hL2 hI2 hI3 h23 hg2 =>
     xB (s0:=Un) FO LV hS hgot hall hq he (la:=la.setT w.params tk) (vs:=[]) (xs:=[]) ⟨Z.ga,Z.lo,Z.more,Z.co⟩ hL2 hI2 hI3 h23 (hgen3.mono hf) hg2 ⟨fun qq qq=>rfl,az hup hf,.nil⟩ HA rfl (hk.symm▸Nat.le_succ _))
 |mid la ng L2 i2 ga2 m fz vs nn xs S res rows hk Z hL2 hI2 hI3 h23 hg3 hg2 EA hn HA hl T =>
   exact wpAny_passesOwn HE (KA Z FO LV hI3 hI2 h23 hg3 hg2 T hn hL3 hL2 (xB (s0:=s0) FO LV hS hgot hall hq he Z hL2 hI2 hI3 h23 hg3 hg2 EA HA hl (W9 hk.symm)))
end
end
section
noncomputable def sH(w:Xj) (A:Yc) (env:Env) (s:W2) (e:W5) (r:Int):Prop :=
 ∀(Q:WY->W2->Prop) (E:WY->W2->Prop) (k:Nat),(∀t k',Q (.int r t) {s with toks:=k'})->wpAny (model ae w) A (eval e env) Q E {s with toks:=k}
theorem ku{env:Env}{i:Int}{p:Pos}:sH w A env s (.Constant (.int i) k p) i:=fun qq qq qq h=>wpAny_Constant_int (h _ _)
noncomputable def tI(a:W5) (i:Nat):W5:=sC ((ou a).1.drop i)
noncomputable def Gy(ty:Str) (e1 e2 a:W5):W5:= .Tuple [.Constant (.str ty) (dw (tI a 0)) (aj (tI a 0)),.Constant (.str "") (dw (tI a 1)) (aj (tI a 1)),.Constant (.str "") (dw (tI a 2)) (aj (tI a 2)),.Constant (.bool false) (dw (tI a 3)) (aj (tI a 3)),e1,e2] (dw a) (aj a)
noncomputable def Ar(ty:Str) (e1 e2:W5) (e:Stmt):Stmt:=Js (Gy ty e1 e2) e
noncomputable def wA(e:W5):Prop:=∀rest env,starEach (e::rest) env=(false,eval e env)::starEach rest env
section
variable {Q:Flow->W2->Prop}
theorem nU(FO:aa w F) (hS:F.sc=S0 572) {e:Stmt}{e1 e2:W5} (hap:(aj (ao (bj e))).endLine=(aj (bj e)).line) (hs1:wA e1) (hs2:wA e2) (hgot:m "got" = some (.ref gt)) (hlen:xs.length<=1000000)
   (R:RS w (JL w.params la ex gs) F m [(gt,xs)] fz s) {r k:Int} (h1:sH w A F.env s e1 r) (h2:sH w A F.env s e2 k)
   (h:∀fz' s',(∀p∈fz,p∈fz')->RS w (JL w.params la ex gs) F m [(gt,xs++[bL.V ⟨ty, "", "",false,r,k⟩])] fz' s'->Q .next s'):wpAny (model ae w) A (exec (Ar ty e1 e2 e) F.env) Q E s:=by
 have hgl:ak F.sc "got" = true:=hS▸af t4
 have hst:∀rest env,starEach (Gy ty e1 e2 (aN (bj e))::rest) env=(false,eval (Gy ty e1 e2 (aN (bj e))) env)::starEach rest env:=fun qq qq=>rfl
 obtain⟨news,its,nn,N,hm⟩:=R.own_get (pre:=[]) (post:=[])
 refine wpAny_Expr_any (methodCall_KW (pl:=(do return (←importBound (.Name "got" (aj (ao (ao (bj e))))) F.env).getD true)) (kws:=[]) (ld R.fr hgot (kl_method N hm PySem.F.slot_list_append PySem.F.type_list_append (XZ (P:=fun h=>(KF w.params).In h) rfl (fun h X=>aB w _ h) (aq (Xz ?_ (hst _ _)) rfl))) FO.kind (eq_of_beq (af hgl)) (dq (ai hgl))) (bI rfl hap (kW (Xd rfl) rfl))) (quiet FO) rfl
 refine Tuple_ (Xz (X4 (Xz (X4 (Xz (X4 (Xz (wpAny_Constant_bool (Xz (h1 _ _ _ fun t1 k1=>Xz (h2 _ _ _ fun t2 k2=>args_nil (wpAny_newObj_type ?_ (Xd rfl))) (hs2 _ _)) (hs1 _ _))))))))))
 have R2:=R.alloc fO (o:={cls:= .type "tuple",data:= .seq #[.str ty s.toks,.str "" (s.toks+1),.str "" (s.toks+1+1),.bool false,.int r t1,.int k t2]}) rfl k2
 exact args_nil ⟨FO.G.X.keeps R2.fr.keep,R2.own_append (pre:=[]) (post:=[]) (x:=bL.V ⟨ty, "", "",false,r,k⟩) (.tup (n:=0) (.head _) (.cons (.str _ _) (.cons (.str _ _) (.cons (.str _ _) (.cons (.bool _) (.cons (.int _ _) (.cons (.int _ _) .nil))))))) hlen fun Uq Uo=>h _ _ (a5 _) Uo⟩
end
end
section
noncomputable def iW(w:Xj) (F:Fm) (m0:Str->Option WY) (fz0:ad) (gt:W3) (all:List bL) (s:W2):Prop:=∀qC:Prop,(∀(la:LA) (tl:ad) (ps:Array WY) (m:Str->Option WY) (fz:ad),RS w (JL w.params la tl s.gens) F m [(gt,all.map bL.V)] fz s->AllBare s.gens->(225,tabObj ps)∈tl->hJ ps->(∀y:Str,y ≠ "t" -> y ≠ "error" -> m y=m0 y)->(∀p∈fz0,p∈fz)->qC)->qC
noncomputable def ij:Stmt:=cP (yh (lwS 15)).1.tail
noncomputable def Eb:W5:=tI (aN (bj ij)) 4
noncomputable def DP:W5:=tI (aN (bj ij)) 5
theorem C2:ij=Ar "end" (.Attribute (.Name "source" (aj (ao Eb))) (AN 11) (aj Eb)) (.Constant (.int 0) (dw DP) (aj DP)) ij:=by kernel_rfl
theorem Ir:(aj (ao (bj ij))).endLine=(aj (bj ij)).line:=by kernel_rfl
section
variable {Q:Flow->W2->Prop}
theorem C8(FO:aa w F) (hS:F.sc=S0 572) {fin:Int} (hgot:m "got" = some (.ref gt)) (hsrc:m "source" = some (.ref sf)) (hlen:xs.length<=1000000)
   (R:RS w (JL w.params la ex gs) F m [(gt,xs)] fz s) (c1:(sf,Xu 303 dsf)∈ex) (c2:(dsf,Xc es n)∈ex) (hE:be es fin)
   (h:∀fz' s',(∀p∈fz,p∈fz')->RS w (JL w.params la ex gs) F m [(gt,xs++[bL.V ⟨"end", "", "",false,fin,0⟩])] fz' s'->Q .next s'):wpAny (model ae w) A (exec ij F.env) Q E s:=by
 refine R.jl_open _ ?_;rintro mo hc N nd
 obtain⟨t,htr⟩:=hE.row
 have hsl:ak F.sc "source" = true:=hS▸af mV
 have I:Xr s.heap sf (Xu 303 dsf) 303 (some (Xc es n)):=⟨(N _ (W7 _ (W4 _ c1))).1,rfl,rfl,(N _ (W7 _ (W4 _ c2))).1⟩
 rw[C2]
 exact nU FO hS Ir (fun qq qq=>rfl) (fun qq qq=>rfl) hgot hlen R (fun Q E k hq=>Attribute_any_ (ld (R.toks k).fr hsrc (get_own (R.toks k).fr FO.G.X I (C9 _ _) (A1 _) (wI _) rfl htr rfl (hq _ _)) FO.kind (eq_of_beq (af hsl)) (dq (ai hsl))) (by rw[X8,al rfl])) ku h
noncomputable def DX(w:Xj) (la:LA) (G:eu) (F:Fm) (m:Str->Option WY) (gt:W3) (xs:List V) (fz:ad) (s:W2):Prop:=∀qC:Prop,(∀(tl:ad) (ps:Array WY) (es:List XH) (n:Nat),RS w (JL w.params la tl s.gens) F m [(gt,xs)] fz s->AllBare s.gens->(225,tabObj ps)∈tl->hJ ps->(G.sf,Xu 303 G.dsf)∈tl->(G.dsf,Xc es n)∈tl->be es G.fin->qC)->qC
theorem Io{old:Bool} (R:RS w (J1 w.params la (SD w G old op lo ng [(gt,W0 vs.toArray nn)] true)) F m ⟨[],[],[]⟩ fz s) (r:aL w.params la fz xs vs):DX w la G F m gt xs fz s:=by
 obtain⟨mu,qi,N,nd⟩:=R.led;refine qi _ ?_;rintro b rest qi e z;refine qi _ ?_;rintro lex ab va vb vc na nb nc ps sc rfl r1 r2 r3 ht qi;refine qi _ ?_;rintro sc0 hst rfl hD
 have pm:=(List.perm_append_comm (l₁:=[(gt,W0 vs.toArray nn)]) (l₂:=(la.tb,W0 va.toArray na)::(la.pb,W0 vb.toArray nb)::(la.ct,W0 vc.toArray nc)::(225,tabObj ps)::sc0)).append_right fz
 have up:∀{p:W3×Obj},p∈sc0->p∈(la.tb,W0 va.toArray na)::(la.pb,W0 vb.toArray nb)::(la.ct,W0 vc.toArray nc)::(225,tabObj ps)::sc0:=fun hp=> .tail _ (.tail _ (.tail _ (.tail _ hp)))
 generalize hr:(e0:L0).rest=r0 at hD
 have fin:∀{r0:List Ch},fR G sc0 s.gens r0->DX w la G F m gt xs fz s:=fun h=>by
   induction h with
   |mk es n hf c2 hE c1=>exact(fun qq qk=>qk _ ps es n ⟨R.fr,⟨_,(fun qq qk=>qk [(gt,W0 vs.toArray nn)] rfl rfl (.cons r .nil)),fun p hp=>N p (pm.mem_iff.mp hp),(pm.map (·.1)).nodup_iff.mpr nd⟩,R.os,R.dr,R.lo⟩ ab (.tail _ (.tail _ (.tail _ (.head _)))) ht (up c1) (up c2) hE)
 exact fin hD
end
end
section
section
variable {la':LA}
theorem aL.imp(r:aL P la fz xs vs):(∀x∈xs,∀v,RV P la fz x v->RV P la' fz x v)->aL P la' fz xs vs :=
 r.ind (M:=fun xs vs=>(∀x∈xs,∀v,RV P la fz x v->RV P la' fz x v)->aL P la' fz xs vs) (fun qq=> .nil) fun a qq ih h=> .cons (h _ (.head _) _ a) (ih fun x hx=>h x (.tail _ hx))
noncomputable def s9:V->Bool
 |.str _| .bool _| .int _=>true
 |_=>false
theorem I8{y:V} (hy:s9 y=true) (rv:RV P la fz y v):RV P la' fz y v:=by
 cases y with
 |str x=>obtain⟨t,rfl⟩:=rv.strO rfl;exact .str x t
 |bool b=>obtain rfl:=rv.view;exact .bool b
 |int i=>obtain⟨t,rfl⟩:=rv.intO rfl;exact .int i t
 |_=>exact ly hy
theorem Hh(x:bL) (rv:RV P la fz x.V v):RV P la' fz x.V v:=by
 obtain⟨a,nn,vs,rfl,hm,r⟩:=rv.view
 exact .tup hm (r.imp fun y hy v=>I8 (X7.mp (show([.str x.ty,.str x.v,.str x.sp,.bool x.f,.int x.r,.int x.k]:List V).all s9=true from rfl) y hy))
theorem nE{xs:List bL} (h:aL P la fz (xs.map bL.V) vs):aL P la' fz (xs.map bL.V) vs :=
 h.imp fun y hy v rv=>(Xp.mp hy).elim fun x hx=>hx.2▸Hh x (hx.2▸rv)
end
section
variable {x:WY}
theorem xA(hb:F.base=F.Up) (hz:qj I F m st fz p x s):Fr F.Up F.L s.heap m:=by
 refine hz _ ?_;rintro xa d es n mu B rfl hd hp hI nd hB hl hfl ⟨UV,Uz,up⟩ ho hdr
 obtain⟨⟨o,es',ep,h1,h2,h3,h4⟩,h5,h6⟩:=Uz
 obtain⟨sl,h7⟩:=up _ _ h1 (fun vs e=>by rw[h2] at e;exact Data.noConfusion e)
 exact⟨⟨_,es',ep,h7,h2,h3,h4⟩,fun b o e=>hfl.k _ _ (hB _ _ (hb▸e)),h6⟩
inductive Sp(I:σ->ad->ad->Array Xf->Prop) (F:Fm) (m:Str->Option WY) (st:σ) (fz:ad) (p:bE) (s:W2):WY->Prop
 |mk (xa d:W3) (B:Heap):rM B (F.env::F.outer) xa (mZ d) s.heap->(∀h',B.StaysIn h'->h'.FunFrames B (F.env::F.outer)->ez h' B xa (mZ d) .none->cM s.heap h'->qj I F m st fz p (.ref xa) {s with heap:=h'})->Sp I F m st fz p s (.ref xa)
theorem z4(hz:qj I F m st fz p x s):Sp I F m st fz p s x:=by
 refine hz _ ?_;rintro xa d es n mu B rfl hd hp hI nd hB hl hfl ⟨UV,Uz,up⟩ ho hdr
 exact⟨xa,d,B,hfl,fun h' a1 a2 a3 a4=>(fun qq qk=>qk xa d es n mu B rfl hd hp hI nd hB hl ⟨a1,hfl.n,a2,a3⟩ ⟨UV,Uz,up.trans a4⟩ ho hdr)⟩
theorem zl(hA:A.frames=some (F.env::F.outer)) (hz:qj I F m st fz p x s) {Q:Unit->W2->Prop}{E':WY->W2->Prop} (h:∀s',qj I F m st fz p x s'->Q () s') :
   wpAny (model ae w) A (noteFrame x F.env) (fun qq Uq=>wpAny (model ae w) A (setFlight x none) Q E Uq) E' s:=by
 obtain⟨xa,d,B,f,back⟩:=z4 hz
 exact pA (iw d) hA f.f (L:=F.L) rfl f.t f.k f.n fun h' a1 a2 a3 a4=>jP a1 a2 a3 fun h'' b1 b2 b3 b4=>h _ (back h'' b1 b2 b3 (a4.trans b4))
theorem r9(hz:qj I F m st fz p x s) {Q:Unit->W2->Prop} (h:∀s',qj I F m st fz p x s'->Q () s'):wpAny (model ae w) A (setFlight x none) Q E s:=by
 obtain⟨xa,d,B,f,back⟩:=z4 hz
 exact jP f.k f.f f.t fun h'' b1 b2 b3 b4=>h _ (back h'' b1 b2 b3 b4)
end
section
variable {old:Bool}{xs:List bL}{st:LS}{x:WY}
theorem G4{B:Heap}{xa d:W3} (hfl:rM B (F.env::F.outer) xa (mZ d) h):∃oe vs,h.get? xa=some oe/\mZ d oe/\oe.data= .fields vs/\xa≠F.L/\B.get? F.L=none:=by
 refine hfl.t _ ?_;rintro oe vs' T oT ts he hc hdat qq qq qq qq qq qq
 obtain⟨qq,⟨L',oL,hL',hBL,hgL,hnf⟩,qq⟩:=hfl.f
 obtain rfl:L'=F.L:=(XE hL').symm
 exact⟨oe,vs',he,hc,hdat,fun e=>hnf _ ((congrArg Obj.data (XE (hgL.symm.trans (e▸he)))).trans hdat),hBL⟩
inductive Sw(w:Xj) (F:Fm) (m:Str->Option WY) (gt:W3) (xs:List bL) (fz:ad) (p:bE) (s:W2):WY->Prop
 |mk (xa d:W3) (es:List XH) (n:Nat) (oe:Obj) (tl:ad) (ps:Array WY) (la':LA):(d,Xc es n)∈fz->jC fz es p->mZ d oe->notCls oe=true->RS w (JL w.params la' tl s.gens) F m [(gt,xs.map bL.V)] ((xa,oe)::fz) s->AllBare s.gens->(225,tabObj ps)∈tl->hJ ps->Sw w F m gt xs fz p s (.ref xa)
theorem OC{L:ad}{g x:W3×Obj}:(g::L++x::fz).Perm (x::(L++[g]++fz)):=(XF (l₁:=g::L)).trans (((List.perm_append_comm (l₁:=[g]) (l₂:=L)).append_right fz).cons x)
theorem y5(hb:F.base=F.Up) (hz:qj (I1 w.params la (bV w G old op lo ng [(gt,W0 vs.toArray nn)])) F m st fz p x s) (r:aL w.params la fz (xs.map bL.V) vs):Sw w F m gt xs fz p s x:=by
 have hfr:=xA hb hz
 refine hz _ ?_;rintro xa d es n mu B rfl hd hp qi nd hB hl hfl qq ho hdr;refine qi _ ?_;rintro b rest qi e z;refine qi _ ?_;rintro lex ab va vb vc na nb nc ps sc rfl r1 r2 r3 ht qi;refine qi _ ?_;rintro sc0 rfl qq qq qq qq
 obtain⟨oe,vs',he,hc,hdat,hne,hBL⟩:=G4 hfl
 have pm:=OC (L:=(la.tb,W0 va.toArray na)::(la.pb,W0 vb.toArray nb)::(la.ct,W0 vc.toArray nc)::(225,tabObj ps)::sc0) (fz:=fz) (g:=(gt,W0 vs.toArray nn)) (x:=(xa,oe))
 have hx0:F.Up.get? xa=none:=by
   rcases q:F.Up.get? xa with qq|o'
   . rfl
   . exact bN ((hfl.n).symm.trans (hB _ _ (hb.symm▸q)))
 refine⟨xa,d,es,n,oe,_,ps,{la with lo:=F.base.objs.size},hd,hp,hc,by unfold notCls;rw[hdat],⟨hfr,⟨_,(fun qq qk=>qk [(gt,W0 vs.toArray nn)] rfl rfl (.cons ((nE r).mono (a5 _)) .nil)),fun q hq=>?_,(pm.map (·.1)).nodup_iff.mpr (XD.mpr ⟨fun hm=>?_,nd⟩)⟩,ho,hdr,Xl _⟩,ab,.tail _ (.tail _ (.tail _ (.head _))),ht⟩
 . rcases Xb.mp (pm.mem_iff.mp hq) with rfl|hq
   . exact⟨he,hne,hx0⟩
   . have c:=hl q hq
     exact⟨hfl.k _ _ c.1,fun e=>bN (hBL.symm.trans (e▸c.1)),hb▸c.2⟩
 . exact(Xp.mp hm).elim fun q hq=>bN (hfl.n.symm.trans (hq.2▸(hl q hq.1).1))
end
end
section
noncomputable def jy:Stmt:=cP ((yh (lwS 15)).2.1.head?.elim [] fun h=>match h with| .ExceptHandler _ _ b _=>b)
noncomputable def p7:W5:=bj jy
noncomputable def Aj:Stmt:=cP (eO jy).2.1
noncomputable def wo:Stmt:=cP (eO jy).2.2.1
noncomputable def rE(s:Stmt) (i:Nat):W5:=tI (aN (bj s)) i
theorem AV:jy= .If (.Compare (.Attribute (.Name "error" (aj (ao (ao p7)))) "loc" (aj (ao p7))) [.Is] [.Constant .none (dw (aN p7)) (aj (aN p7))] (aj p7)) [Aj] [wo] (ci jy):=by kernel_rfl
theorem I9:Aj=Ar "refused" (.Constant (.int 0) (dw (rE Aj 4)) (aj (rE Aj 4))) (.Constant (.int 0) (dw (rE Aj 5)) (aj (rE Aj 5))) Aj:=by kernel_rfl
theorem Ig:wo=Ar "refused" (.Attribute (.Attribute (.Name "error" (aj (ao (ao (rE wo 4))))) "loc" (aj (ao (rE wo 4)))) (AN 11) (aj (rE wo 4))) (.Attribute (.Attribute (.Name "error" (aj (ao (ao (rE wo 5))))) "loc" (aj (ao (rE wo 5)))) (AN 12) (aj (rE wo 5))) wo:=by kernel_rfl
theorem Ke:(aj (ao (bj Aj))).endLine=(aj (bj Aj)).line:=by kernel_rfl
theorem Nb:(aj (ao (bj wo))).endLine=(aj (bj wo)).line:=by kernel_rfl
theorem nW:ak (S0 572) "error" = true:=by kernel_rfl
theorem Qm(P:W1):nsIn (KF P) XI "CompilerError" = some (some (.ref 156)):=by kernel_rfl
theorem Qk(P:W1):findIn (KF P) (.ref 156) "loc" = some none:=by kernel_rfl
theorem Qp(P:W1):exmOne (KF P) (.ref 156) (.ref 156)=some true:=by kernel_rfl
theorem PZ(P:W1):findIn (KF P) (.ref 156) "__getattribute__" = some (some (.builtin "BaseException.__getattribute__")):=by kernel_rfl
theorem Qx(P:W1):findIn (KF P) (.ref 156) "__getattr__" = some none:=by kernel_rfl
theorem QP(P:W1):subIn (KF P) (.ref 156) (.type "BaseException")=some true:=by kernel_rfl
theorem Hv:typeOf (.builtin "BaseException.__getattribute__")=pure (.type "wrapper_descriptor"):=by kernel_rfl
theorem Gs(v:WY):bindSpecial (.builtin "BaseException.__getattribute__") v=pure (.builtin "BaseException.__getattribute__",[v]):=by
 unfold bindSpecial
 rw[Hv]
 rfl
section
theorem Bs{x:W3}{ox:Obj}{od:Option Obj} (X:(KF w.params).In s.heap) (I:Xr s.heap x ox 156 od) (hf:findObj (KF w.params) 156 od name=some (.value v)) (hh:handedIn v=true)
   (h:Q v {s with toks:=s.toks+1}):wpAny (model ae w) A (getAttr (.ref x) name true) Q E s:=by
 obtain⟨hp,g,d,t,os⟩:=s
 have L0:=I.type (M:=model ae w)
 have L1:=looks_findIn (M:=model ae w) X (PZ _)
 have L2:=looks_findIn (M:=model ae w) X (Qx _)
 have L3:=looks_find (M:=model ae w) X I hf
 have L4:=looks_subIn (M:=model ae w) X (QP _)
 unfold getAttr getAttrBy
 refine W6 (wpAny_mkText (wpAny_holding (W6 (L0.at (W6 (L1.at ?_))))))
 show wpAny _ _ (getAttrByItsOwn _ _ _ _ _ _) _ _ _
 unfold getAttrByItsOwn
 refine W6 ?_
 show wpAny _ _ (typeLookup _ _) _ _ _
 refine L2.at ?_
 show wpAny _ _ ((holding [] (callGetattribute _ _ _ _)).attempt >>= _) _ _ _
 refine W6 (wpAny_attempt (wpAny_holding ?_))
 show wpAny _ _ (boundAndCalled _ _ _) _ _ _
 unfold boundAndCalled
 rw[Gs]
 show wpAny _ _ (call (.builtin "BaseException.__getattribute__") [.ref x,.str name t] []) _ _ _
 refine wpAny_call ?_
 refine codeAny_call_builtin_at (Code.quiet_builtin _ (by decide +kernel)) F.entry_bexc_ga ?_
 have hk:builtinKind "BaseException.__getattribute__" = some .slot:=by decide +kernel
 have hsplit:splitId "BaseException.__getattribute__" = some ("BaseException", "__getattribute__"):=by decide +kernel
 have ha:=F.args_bexc_ga (.ref x) (.str name t)
 simp only[checkBuiltinCall,hk,hsplit]
 refine W6 ?_
 show wpAny _ _ (typeOf (.ref x) >>= fun t=>isSubtype t _) _ _ _
 refine W6 (L0.at (L4.at ?_))
 simp only[Bool.not_true,Bool.false_eq_true,if_false]
 refine wpAny_of_eq (a:=()) (by
   unfold argsOk at ha
   generalize Manifest.signature? "BaseException.__getattribute__" = sg at ha ⊢
   cases sg<;>exact ha) ?_
 unfold Builtin.«object.__getattribute__»
 refine W6 (wpAny_of_eq (a:=(Value.ref x,[Value.str name t])) rfl ?_)
 refine W6 (wpAny_of_eq (a:=name) rfl ?_)
 refine W6 (L0.at ?_)
 refine W6 (L3.at ?_)
 refine Xk ?_
 show wpAny _ _ (handedOut v) _ _ _
 rw[handedOut_of hh]
 exact Xk h
end
section
structure w9(fz:ad) (xa d:W3) (es:List XH) (n:Nat) (oe:Obj) (p:bE):Prop where
 x:(xa,oe)∈fz
 c:mZ d oe
 nc:notCls oe=true
 e:(d,Xc es n)∈fz
 p:jC fz es p
theorem nz(FO:aa w F) {own:aG}{xa d:W3}{oe:Obj} (R:RS w (JL w.params la tl gs) F m own fz s) (H:w9 fz xa d es n oe p) (hl:getL "loc" es=some (some v)) (hv:handedIn v=true) (h:Q v {s with toks:=s.toks+1}):wpAny (model ae w) A (getAttr (.ref xa) "loc" true) Q E s :=
 Bs (od:=some (Xc es n)) (FO.G.X.keeps R.fr.keep) ⟨R.get H.x,H.c.1,H.nc,by rw[H.c.2];exact R.get H.e⟩ (findObj_own (od:=Xc es n) (Lx _) (Qk _) rfl hl) hv h
theorem xz(FO:aa w F) (hS:F.sc=S0 572) {own:aG}{xa d:W3}{oe:Obj}{lo:W3}{sl:Array (Option WY)}{dl:W3} (R:RS w (JL w.params la tl gs) F m own fz s) (H:w9 fz xa d es n oe p) (herr:m "error" = some (.ref xa)) (hl:getL "loc" es=some (some (.ref lo)))
   (g1:(lo,aE 79 (some dl) sl)∈fz) (g0:(dl,Xc [] 0)∈fz) {a j:Nat}{v:Int} (hs:eN (KF w.params) 79 a j) (hv:(sl[j]?).join=some (Value.int v t)):sH w A F.env s (.Attribute (.Attribute (.Name "error" q1) "loc" q2) (AN a) q3) v:=fun Q E k hq=>by
 have hel:ak F.sc "error" = true:=hS▸nW
 have R2:=R.toks k
 exact Attribute_any_ (Attribute_any_ (ld R2.fr herr (nz FO R2 H hl rfl (b7 (od:=some _) FO (R2.toks (k+1)) hs (cz (R2.toks (k+1)) g1 g0) hv rfl (hq _ _))) FO.kind (eq_of_beq (af hel)) (dq (ai hel))) (by rw[X8,al rfl])) (by rw[X8,al rfl])
theorem Ck(FO:aa w F) (hS:F.sc=S0 572) {xa d:W3}{oe:Obj} (hlen:xs.length<=1000000) (R:RS w (JL w.params la tl gs) F m [(gt,xs)] fz s) (hgot:m "got" = some (.ref gt)) (herr:m "error" = some (.ref xa)) (H:w9 fz xa d es n oe p) {Q:Flow->W2->Prop}
   (h:∀fz' s',(∀p∈fz,p∈fz')->RS w (JL w.params la tl gs) F m [(gt,xs++[bL.V (jc p)])] fz' s'->Q .next s'):wpAny (model ae w) A (execs [jy] F.env) Q E s:=by
 have hel:ak F.sc "error" = true:=hS▸nW
 have R1:=R.toks (s.toks+1)
 have hp:=H.p
 rw[AV]
 refine Xa (wpAny_If (wpAny_isTrue_Compare1 (Attribute_any_ (ld R.fr herr ?_ FO.kind (eq_of_beq (af hel)) (dq (ai hel))) (by rw[X8,al rfl])) rfl))
 rcases p with qq|q
 ·
   refine nz FO R H hp rfl (wpAny_Constant_none (is_none_none (wpAny_truthy_bool ?_)))
   show wpAny _ _ (execs [Aj] F.env) _ _ _
   rw[I9]
   exact Xa (nU FO hS Ke (fun qq qq=>rfl) (fun qq qq=>rfl) hgot hlen R1 ku ku fun fz' s' hf R'=>Xw (Xw (h _ _ hf R')))
 ·
   obtain⟨lo,hl,qi⟩:=hp;refine qi _ ?_;rintro sl tr tk dl g1 g0 g2 g3
   refine nz FO R H hl rfl (wpAny_Constant_none (is_ref_none (wpAny_truthy_bool ?_)))
   show wpAny _ _ (execs [wo] F.env) _ _ _
   rw[Ig]
   exact Xa (nU FO hS Nb (fun qq qq=>rfl) (fun qq qq=>rfl) hgot hlen R1 (xz FO hS R1 H herr hl g1 g0 (DK _) g2) (xz FO hS R1 H herr hl g1 g0 (Ej _) g3) fun fz' s' hf R'=>Xw (Xw (h _ _ hf R')))
end
end
section
noncomputable def gD(p:bE) (fin:Int):Bool->bL
 |true=>⟨"end", "", "",false,fin,0⟩
 |false=>jc p
noncomputable def SW:Option W5×Pos:=(yh (lwS 15)).2.1.head?.elim (none,default) fun h=>match h with| .ExceptHandler t _ _ p=>(t,p)
theorem RZ:lwS 15= .Try [qA,ij] [.ExceptHandler (some (.Name "CompilerError" (aj (SW.1.getD default)))) (some "error") [jy] SW.2] [] [] (yh (lwS 15)).2.2.2.2:=by kernel_rfl
theorem Qd:bO (S0 572) "CompilerError" = true:=by kernel_rfl
theorem qB(h:∀p∈fz,p∈fz') (hp:jC fz es p):jC fz' es p:=by
 rcases p with qq|q
 . exact hp
 . exact Exists.elim hp fun l h2=>⟨l,h2.1,h2.2.mono h⟩
section
variable {Q:Flow->W2->Prop}{ln:W3}{es':List XH}{nn1 nn2:Nat}{l:List (Str×Tok)}{old:Bool}{all:List bL}
structure wX(w:Xj) (la:LA) (F:Fm) (m:Str->Option WY) (sf dsf gt ln op:W3) (es':List XH) (nn1 nn2:Nat) (ps:Array WY) (l:List (Str×Tok)) (old:Bool) (fz:ad) (s:W2):Prop where
 R:RS w (JL w.params la (am sf dsf es' nn1++[(225,tabObj ps)]) #[]) F m [(gt,[])] fz s
 hE:be es' 1
 hln:(ln,W0 (strValues l).toArray nn2)∈fz
 OI:dP w fz op old
 hps:hJ ps
 m1:m "options" = some (.ref op)
 m2:m "lines" = some (.ref ln)
 m3:m "source" = some (.ref sf)
 m4:m "got" = some (.ref gt)
 hok:∀p∈l,fT p.1
 hlen:(li l).length<=90000
theorem Fh(FO:aa w F) (LV:aU F.A 33) (hbase:F.base.objs.size<=F.L) (hS:F.sc=S0 572) (HE:PassesOwn (model ae w) F.A F.env E) (T:wX w la F m sf dsf gt ln op es' nn1 nn2 ps l old fz s) (hall:all.length<=50000) (hN:dR old "" true .none 373 ⟨[],[],li l⟩ res) (HA:gh old res all p b)
   (hq:b=true->∀G lo,G.sf=sf->G.dsf=dsf->G.fin=1+(l.length:Int)->jW w G F old op gt lo m fz all Q) (he:b=false->∀G lo,ni w G F old op gt lo m fz all p E):wpAny (model ae w) F.A (exec qA F.env) Q E s:=by
 rw[Gb]
 refine wpAny_For (BA FO (LV.le (by decide)) hbase hS T.R T.hE T.hln T.OI T.hps T.m1 T.m2 T.m3 T.hok T.hlen fun v s' ha=>?_) fun qq=>Ef▸rfl
 obtain⟨la',G,ga3,L3,oL3,m3',nn,fz',Z,hf,e1,e2,e3,i0,i1,R1,hgen,hNs,hs,hc,hg,hL3⟩:=ha
 exact wpAny_pyIter_gen (R1.isGen hgen) (xH (la:=la') FO LV hS HE hL3 T.m4 i0 i1 hall (fun hb=>hq hb G F.base.objs.size e1 e2 e3) (fun hb=>he hb G F.base.objs.size) Z R1 hgen hNs hs hc hg hN HA hf)
theorem l9{rows:List bL} (R:RS w (JL w.params la tl gs) F m' [(gt,rows.map bL.V)] fz' s) (ab:AllBare gs) (h1:(225,tabObj ps)∈tl) (h2:hJ ps) (h3:∀y:Str,y ≠ "t" -> y ≠ "error" -> m' y=m y) (h4:∀p∈fz,p∈fz'):iW w F m fz gt rows s:=by
 obtain rfl:=R.jl_gs
 exact(fun qq qk=>qk la tl ps m' fz' R ab h1 h2 h3 h4)
theorem SV(all:List bL) (r:bL):all.map bL.V++[r.V]=(all++[r]).map bL.V:=(XM (f:=bL.V) (l₁:=all) (l₂:=[r])).symm
theorem yv(FO:aa w F) (hS:F.sc=S0 572) (hz:all.length<=50000) (m3:m "source" = some (.ref sf)) (m4:m "got" = some (.ref gt)) (e1:G.sf=sf) (e2:G.dsf=dsf) (e3:G.fin=1+(l.length:Int)) {Q':Flow->W2->Prop}
   (h:∀s',iW w F m fz gt (all++[gD none (1+(l.length:Int)) true]) s'->wpAny (model ae w) A (execs [] F.env) Q' E s'):jW w G F old op gt lo m fz all fun f s'=>match f with| .next=>wpAny (model ae w) A (execs [ij] F.env) Q' E s'|f=>Q' f s':=fun V9 ng Vc UK Un vs nn EA R1=>by
 refine(Io R1 EA.r) _ ?_;rintro tl Wm WW WX R2 ab c0 VT c1 c2 WN
 obtain rfl:=e1;obtain rfl:=e2
 exact Xa (C8 FO hS ((EA.mm _ (by decide +kernel)).trans m4) ((EA.mm _ (by decide +kernel)).trans m3) (WZ (W9 (XR _)) (WZ hz (by decide))) R2 c1 c2 (e3▸WN) fun Uy Uq Uu R3=>h _ (l9 (SV all _▸R3) ab c0 VT (fun y h1 qq=>EA.mm y h1) (az EA.up Uu)))
end
end
section
section
variable {Q:Flow->W2->Prop}{ln:W3}{es':List XH}{nn1 nn2:Nat}{l:List (Str×Tok)}{old:Bool}{all:List bL}
theorem CA(FO:aa w F) (hS:F.sc=S0 572) (hb:F.base=F.Up) (hz:all.length<=50000) (m4:m "got" = some (.ref gt)) {c1 c2:Pos} (h:∀s',iW w F m fz gt (all++[jc p]) s'->Q .next s') :
   ni w G F old op gt lo m fz all p fun e Un=>wpAny (model ae w) F.A (noteFrame e F.env) (fun qq Uq=>wpAny (model ae w) F.A (setFlight e none) (fun qq Ut=>wpAny (model ae w) F.A (handleBy e F.env [.ExceptHandler (some (.Name "CompilerError" c1)) (some "error") [jy] c2]) Q E Ut) E Uq) E Un:=fun V9 ng Vc UK st x Un vs nn EA WO=>by
 refine zl FO.fr WO fun Uq Wa=>?_
 have hfr:=xA hb Wa
 have a2:=y5 hb Wa EA.r
 obtain⟨xa,d,es,n,oe,tl,Wm,la',hd,hp,hc,hn,R2,ab,c0,VT⟩:=a2
 refine wpAny_handleBy_cons (codeAny_handlers_test (bF FO (news:=[]) (s₀:=Uq) ⟨hfr,News.nil,rfl,rfl,rfl⟩ (hS▸Qd) (.inl (Qm _)) ?_)) (fun q=>Value.noConfusion q)
 have I:Xr Uq.heap xa oe 156 (some (Xc es n)):=⟨R2.get (.head _),hc.1,hn,by rw[hc.2];exact R2.get (.tail _ hd)⟩
 refine(exm_one (FO.G.X.keeps hfr.keep) I.type (Qp _)).here (codeAny_handlers_suite_as (r9 Wa fun Ut U8=>?_))
 have a3:=y5 hb U8 EA.r
 cases a3 with|mk _ d es n oe tl Wm la' hd hp hc hn R2 ab c0 VT =>
 refine aM FO R2 (hS▸nW) fun UB R4=>?_
 have hel:ak F.sc "error" = true:=hS▸nW
 refine Ck FO hS (WZ (W9 (XR _)) (WZ hz (by decide))) R4 ((if_neg (by decide +kernel)).trans ((EA.mm _ (by decide +kernel)).trans m4)) (if_pos rfl) ⟨.head _,hc,hn,.tail _ hd,qB (a5 _) hp⟩ fun VP UW VG R5=>?_
 refine wpAny_nameGoes_keeps (eq_of_beq (af hel)) R5.fr.ns (by show(F.sc.kind == .class || (F.sc.kind == .module&&_))=false;rw[FO.kind];rfl) fun VC v WP U9=>h _ ?_
 obtain⟨mu,hi,N,nd⟩:=R5.led
 have R6:RS w (JL w.params la' tl Ut.gens) F _ _ VP {UW with heap:=VC,toks:=UW.toks+1}:=⟨R5.fr.set WP U9,⟨mu,hi,N.set U9,nd⟩,R5.os,R5.dr,R5.lo⟩
 exact l9 (SV all _▸R6) ab c0 VT (fun y h1 h2=>(if_neg h2).trans ((if_neg h2).trans (EA.mm y h1))) fun q hq=>VG q (.tail _ (EA.up q hq))
theorem E9(FO:aa w F) (LV:aU F.A 33) (hbase:F.base.objs.size<=F.L) (hb:F.base=F.Up) (hS:F.sc=S0 572) (T:wX w la F m sf dsf gt ln op es' nn1 nn2 ps l old fz s) (hall:all.length<=50000) (hN:dR old "" true .none 373 ⟨[],[],li l⟩ res) (HA:gh old res all p b)
   (h:∀s',iW w F m fz gt (all++[gD p (1+(l.length:Int)) b]) s'->Q .next s'):wpAny (model ae w) F.A (exec (lwS 15) F.env) Q E s:=by
 rw[RZ]
 refine wpAny_Try_except (Xa (Fh FO LV hbase hS PassesOwn.looking T hall hN HA (fun hb G lo e1 e2 e3=>?_) fun hb' G lo=>?_))
 . subst hb
   exact yv FO hS hall T.m3 T.m4 e1 e2 e3 fun s' T=>Xw (Xw (h s' T))
 . subst hb'
   exact CA FO hS hb hall T.m4 fun s' T=>h s' T
end
end
section
section
variable {la':LA}
theorem Im{xs:List bL} (h:RV P la fz (.lst (xs.map bL.V)) v):RV P la' fz (.lst (xs.map bL.V)) v:=by
 obtain⟨a,nn,vs,rfl,hm,r⟩:=h.view
 exact hm.elim (fun hm=> .lst hm (nE r)) fun hm=> .lstK hm (nE r)
theorem ID{y:V} (hy:s9 y=true) {u:WY} (h1:RV P la fz y v) (h2:RV P la' fz y u):SeqAt.EqAt A s v u true:=by
 cases y with
 |str x =>
   obtain⟨t,rfl⟩:=h1.strO rfl
   obtain⟨t',rfl⟩:=h2.strO rfl
   exact(beq_self_eq_true x)▸SeqAt.EqAt.str_str x t x t'
 |bool b =>
   obtain rfl:=h1.view;obtain rfl:=h2.view
   exact(beq_self_eq_true b)▸SeqAt.EqAt.bool_bool b b
 |int i =>
   obtain⟨t,rfl⟩:=h1.intO rfl
   obtain⟨t',rfl⟩:=h2.intO rfl
   exact(beq_self_eq_true i)▸SeqAt.EqAt.int_int i t i t'
 |_=>exact ly hy
theorem zO{us:List WY} (hx:∀y∈xs,∀v u,RV P la fz y v->RV P la' fz y u->SeqAt.EqAt A s v u true) (r1:aL P la fz xs vs) (r2:aL P la' fz xs us) (j:Nat) (h1:j<vs.toArray.size) (h2:j<us.toArray.size):SeqAt.EqAt A s vs.toArray[j] us.toArray[j] true:=by
 have hj:j<xs.length:=r1.length▸h1
 have hy:=List.getElem?_eq_getElem hj
 obtain⟨v,hv,rv⟩:=r1.get hy
 obtain⟨u,hu,ru⟩:=r2.get hy
 have e1:vs.toArray[j]=v:=XE ((List.getElem?_eq_getElem (l:=vs) h1).symm.trans hv)
 have e2:us.toArray[j]=u:=XE ((List.getElem?_eq_getElem (l:=us) h2).symm.trans hu)
 rw[e1,e2]
 exact hx _ (List.getElem_mem hj) _ _ rv ru
theorem Hq{x:bL} (hg:∀p∈fz,s.heap.get? p.1=some p.2) {u:WY} (h1:RV P la fz x.V v) (h2:RV P la' fz x.V u) (hu:A.units<cLine):SeqAt.EqAt A s v u true:=by
 obtain⟨a,n,vs,rfl,e1,r1⟩:=h1.view
 obtain⟨b,n2,us,rfl,e2,r2⟩:=h2.view
 by_cases hab:a=b
 . subst hab;exact SeqAt.EqAt.same _
 . have e:(((List.range (min vs.toArray.size us.toArray.size)).all fun qq=>true)&&vs.toArray.size == us.toArray.size)=true:=Bool.and_eq_true_iff.mpr ⟨X7.mpr fun qq qq=>rfl,beq_iff_eq.mpr (r1.length.trans r2.length.symm)⟩
   exact SeqAt.EqAt.of_refs hab (e▸SeqAt.RcAt.tuples (e:=fun qq=>true) ⟨_,hg _ e1,rfl,n,rfl⟩ ⟨_,hg _ e2,rfl,n2,rfl⟩ hu (zO (fun y hy qq qq=>ID (X7.mp (show([.str x.ty,.str x.v,.str x.sp,.bool x.f,.int x.r,.int x.k]:List V).all s9=true from rfl) y hy)) r1 r2))
end
theorem PH:lwS 16= .Return (some (.Compare (.Name "got" (aj (ao (vX 16)))) [.Eq] [.Name "due" (aj (aN (vX 16)))] (aj (vX 16)))) (ci (lwS 16)):=by kernel_rfl
theorem JD:(ak (S0 572) "got" && ak (S0 572) "due")=true:=by kernel_rfl
section
theorem G8(FO:aa w F) (hS:F.sc=S0 572) (hu:A.units+1<cLine) {m0:Str->Option WY}{fz0:ad}{rows:List bL}{vd:WY} (T:iW w F m0 fz0 gt rows s) (h1:m0 "got" = some (.ref gt)) (h2:m0 "due" = some vd) (rv:RV w.params la fz0 (.lst (rows.map bL.V)) vd)
   {Q:Flow->W2->Prop} (h:Q (.ret (.bool true)) s):wpAny (model ae w) A (exec (lwS 16) F.env) Q E s:=by
 have k1:ak F.sc "got" = true:=hS▸af JD
 have k2:ak F.sc "due" = true:=hS▸ai JD
 refine T _ ?_;rintro V9 tl ps m fz R ab c0 hps hm hf
 rw[PH]
 refine wpAny_Return_some (wpAny_Compare1 (ld R.fr ((hm _ (by decide +kernel) (by decide +kernel)).trans h1) (ld R.fr ((hm _ (by decide +kernel) (by decide +kernel)).trans h2) ?_ FO.kind (eq_of_beq (af k2)) (dq (ai k2))) FO.kind (eq_of_beq (af k1)) (dq (ai k1))) rfl)
 refine R.jl_open _ ?_;rintro mo hc N nd
 obtain⟨m1,vs,nn,m2,r,qq,qq⟩:=fC.split (pre:=[]) hc
 obtain⟨l,us,rfl,r2,hl2⟩:=bQ FO R (Im (la':=V9) (rv.mono hf))
 have hl1:s.heap.IsList gt vs.toArray:=⟨_,(N (gt,W0 vs.toArray nn) (W7 _ (W7 _ aD))).1,rfl,nn,rfl⟩
 refine SeqAt.eq_listAt (e:=fun qq=>true) hl1 hl2 (r.length.trans r2.length.symm) (Nat.lt_of_succ_lt hu) (zO (fun y hy v u=>(Xp.mp hy).elim fun x hx=>hx.2▸fun a b=>Hq (A:=A.in1) (fun p hp=>R.get hp) a b hu) r r2) ?_
 rw[(X7.mpr fun qq qq=>rfl:((List.range vs.toArray.size).all fun qq=>true)=true)]
 exact h
end
end
section
noncomputable abbrev FU:List Stmt:=[lwS 0,lwS 1,lwS 2,lwS 3,lwS 4,lwS 5,lwS 6,lwS 7,lwS 8,lwS 9,lwS 10,lwS 11,lwS 12,lwS 13,lwS 14,lwS 15,lwS 16]
theorem RD(P:W1):ay (ah P 572)=FU:=by kernel_rfl
theorem PB(P:W1):(ah P 572).scope=S0 572:=by kernel_rfl
noncomputable def Bz(num:List Int):Prop:=∀qC:Prop,(∀(res:eD) (rows:List bL) (p:bE) (b:Bool),dR (dj num.sum) "" true .none 373 ⟨[],[],bc none (bu 1 (br (aY num)))⟩ res->gh (dj num.sum) res rows p b->rows++[gD p (1+((br (aY num)).length:Int)) b]=i8 num->rows.length<=50000->qC)->qC
structure fc(num:List Int):Prop where
 sz:dH num
 run:Bz num
 line:∀x∈br (aY num),fT x
 len:(bc none (bu 1 (br (aY num)))).length<=90000
section
noncomputable def qw(w:Xj) (F:Fm) (fl:Flow) (s:W2):Prop:=fl= .ret (.bool true)/\∃m0 fz0 gt rows,iW w F m0 fz0 gt rows s
theorem w8(FO:aa w F) (LV:aU F.A 33) (hb:F.base=F.Up) (hbase:F.base.objs.size<=F.L) (hS:F.sc=S0 572) (LG:fc num) (hps:hJ ps) {ln:W3}{vd:WY} (hf:∀p∈fz,p∈fz') (OI:dP w fz op (dj num.sum))
   (R:RS w (JL w.params la [(225,tabObj ps)] #[]) F m [(ln,sV (br (aY num)))] fz' s) (m1:m "options" = some (.ref op)) (m2:m "lines" = some (.ref ln)) (m3:m "due" = some vd) (rv:RV w.params la fz' (.lst ((i8 num).map bL.V)) vd) :
   wpAny (model ae w) F.A (execs [lwS 13,lwS 14,lwS 15,lwS 16] F.env) (qw w F) (fun qq qq=>False) s:=by
 refine R.own_still _ ?_;rintro vs1 nn1 r1 R2
 obtain⟨l,rfl,hl⟩:=r1.toStrs
 refine LG.run _ ?_;rintro res rows p b hrun hafter hdue hlen
 refine yk FO hS R2 (Xi (XB (by decide) _) (Xi LV.depth (by decide))) fun sf dsf es' nn gt s2 hE R3=>?_
 have nm:∀{y:Str},y ≠ "got" -> y ≠ "source" -> (if y=("got" : Str) then some (Value.ref gt) else if y=("source" : Str) then some (.ref sf) else m y)=m y:=fun h1 h2=>(if_neg h1).trans (if_neg h2)
 have T:wX w la F (fun y=>if y = "got" then some (.ref gt) else if y = "source" then some (.ref sf) else m y) sf dsf gt ln op es' nn nn1 ps l (dj num.sum) _ s2:=⟨R3,hE,.head _,OI.mono fun q hq=> .tail _ (hf q hq),hps,(nm (by decide +kernel) (by decide +kernel)).trans m1,(nm (by decide +kernel) (by decide +kernel)).trans m2,(if_neg (by decide +kernel)).trans (if_pos rfl),if_pos rfl,fun q hq=>LG.line _ (hl▸Xv hq),(show(bc none (bu 1 (l.map (·.1)))).length<=90000 from hl.symm▸LG.len)⟩
 refine Xa (E9 FO LV hbase hb hS T hlen (show dR _ _ _ _ _ ⟨[],[],bc none (bu 1 (l.map (·.1)))⟩ res from hl.symm▸hrun) hafter fun s3 T3=>?_)
 have hll:l.length=(br (aY num)).length:=(XR (·.1)).symm.trans (congrArg List.length hl)
 rw[hll,hdue] at T3
 exact Xa (G8 FO hS (Xi (XB (by decide) _) (Xi LV.units (by decide))) T3 (if_pos rfl) ((nm (by decide +kernel) (by decide +kernel)).trans m3) (rv.mono (a5 _)) ⟨rfl,_,_,gt,_,T3⟩)
theorem G2(FO:aa w F) (LV:aU F.A 33) (hb:F.base=F.Up) (hbase:F.base.objs.size<=F.L) (hS:F.sc=S0 572) {sa:W3}{ns:List Int} (hsa:F.Up.IsList sa vs.toArray) (hi:IntsAre vs ns) (hns:ns.length<=1000) (hm:m "script" = some (.ref sa)) (hps:hJ ps) (R:RS w (JL w.params la [(225,tabObj ps)] #[]) F m [] fz s) (LG:fc (b8 ns)) :
   wpAny (model ae w) F.A (execs FU F.env) (qw w F) (fun qq qq=>False) s :=
 vy (C:=⟨w,la,#[],F,gM⟩) (n:=32) ⟨FO,LV,fun qq=>Fv,Tz⟩ rfl hS (Xi (XB (by decide) _) (Xi LV.depth (by decide))) PassesOwn.never hsa hi hns hm LG.sz R fun op fz' OI ln vd m' fz'' s' hf R1 m1 m2 m3 rv=>w8 FO LV hb hbase hS LG hps hf OI R1 m1 m2 m3 rv
end
end
section
theorem KL(P:W1):(KF P).lookup 225=none:=by kernel_rfl
theorem LL(P:W1):nsIn (KF P) XI "law" = some (some (.ref 572)):=by kernel_rfl
theorem OL(P:W1):bl P 572:=⟨by kernel_rfl,by kernel_rfl,by kernel_rfl⟩
theorem Cw(P:W1) (a:WY):X1 (ah P 572) ⟨[a],[]⟩=(pure [(W8 "script",a)]:Sem (List (Str×WY))):=by kernel_rfl
theorem IX(P:W1):aA (ah P 572).scope ["script"]=true:=by kernel_rfl
theorem jT{b:W3} (n:h.Ns a m) (ne:a≠b):(hideAll h [b]).Ns a m :=
 n.elim fun o n=>n.elim fun es n=>n.elim fun ep n=>⟨o,es,ep,hideAll_get _ n.1 (fun q=>ne (Xe.mp q)),n.2⟩
theorem Hw(X:(KF w.params).In h):isCodeTable h 225:=by
 obtain⟨o,vs,qq,qq,qq,qq,qq,qq,qq,e1,e2,e3,e4,qq⟩:=codeHd_of_K X (zH w.params)
 exact⟨229,o,vs,e1,e2,e3,e4⟩
section
variable {mg:Str->Option WY}{bm:W3}{ob:Obj}{sa:W3}{ns:List Int}
theorem jV{b:W3} (e:Un.heap.get? b=some o) (ne:b≠225):(hideAll Un.heap [225]).get? b=some o:=hideAll_get _ e (fun q=>ne (Xe.mp q))
theorem zp(ht:Un.heap.get? 225=some (tabObj #[])) {b:W3} (e:Un.heap.get? b=some o) (hc:o.cls≠ .none):b≠225:=fun q=>hc ((congrArg Obj.cls (XE (e.symm.trans (q▸ht)))).trans rfl)
theorem CE(X:(KF w.params).In Un.heap) (ht:Un.heap.get? 225=some (tabObj #[])) (g1:Un.heap.Ns XI mg) (g2:Un.heap.Ns builtinsNs mb) (g3:∀x:Str,x ≠ "__name__" -> mb x=bootBuiltins x) (g4:Un.heap.NoLimit) (g5:BMod Un.heap XI mg bm ob):Ab w (hideAll Un.heap [225]) :=
 ⟨fun a o e=>jV (X a o e) (fun q=>bN ((KL w.params).symm.trans (q▸e))),⟨mg,jT g1 (by decide)⟩,⟨mb,jT g2 (by decide),g3⟩,g4.elim fun mc h=>⟨mc,jT h.1 (by decide),h.2⟩,
   ⟨mg,bm,ob,⟨jT g5.ns (by decide),g5.name,g5.ne,jV g5.obj (zp ht g5.obj (by rw[g5.cls];exact fun q=>Value.noConfusion q)),g5.cls,g5.dict,g5.data⟩⟩⟩
noncomputable def zW(w:Xj) (Un:W2) (f:W3):Fm:={A:=callerA.deeper (envOf (ah w.params f).qualname (ah w.params f).scope Un.heap.objs.size f (ah w.params f).code),UU:=callerA,base:=hideAll Un.heap [225],Up:=hideAll Un.heap [225],outer:=[],q:=(ah w.params f).qualname,sc:=(ah w.params f).scope,L:=Un.heap.objs.size,a:=f,cd:=(ah w.params f).code,os:=Un.os,dr:=Un.drawn}
noncomputable abbrev KD(Un:W2):LA:={lx:=0,dx:=0,tb:=0,pb:=0,ct:=0,co:=0,ga:=0,gn:=0,dn:=0,hs:=fun qq=>0,ts:=fun qq=>0,more:=fun qq=>none,lo:=(hideAll Un.heap [225]).objs.size}
theorem Dp(X:(KF w.params).In Un.heap) (ht:Un.heap.get? 225=some (tabObj #[])) {fl:Flow} (h:qw w (zW w Un f) fl s'):fl= .ret (.bool true)/\OldK Un.heap s'.heap/\s'.os=Un.os/\AllBare s'.gens:=by
 obtain⟨rfl,m0,fz0,gt,rows,qi⟩:=h;refine qi _ ?_;rintro la' tl ps m' fz R ab c0 hps qq qq
 refine R.jl_open _ ?_;rintro mo hc N nd
 have h225:s'.heap.get? 225=some (tabObj ps):=(N _ (W7 _ (W4 _ c0))).1
 have keep:∀{b o},Un.heap.get? b=some o->b≠225->s'.heap.get? b=some o:=fun e hb=>R.fr.keep _ _ (jV e hb)
 refine⟨rfl,⟨fun b o e=>?_,fun b o e=>?_⟩,R.os,ab⟩
 . by_cases hb:b=225
   . subst hb
     cases ht.symm.trans e
     exact .inr (.inl ⟨Hw X,rfl,#[],ps,rfl,by rw[h225];simp⟩)
   . exact .inl (keep e hb)
 . by_cases hb:b=225
   . exact⟨_,hb▸h225⟩
   . exact⟨_,keep e hb⟩
theorem yd(KO:bl w.params f) (hS:(ah w.params f).scope=S0 572) (hB:ay (ah w.params f)=FU) (hbind:lB Un (ah w.params f) ⟨[.ref sa],[]⟩ [("script",.ref sa)]) (hloc:[(("script" : Str),Value.ref sa)].all (fun y=>(ah w.params f).scope.names.lookup y.1 == some .local)=true) (X:(KF w.params).In Un.heap) (ht:Un.heap.get? 225=some (tabObj #[])) (g1:Un.heap.Ns XI mg) (g2:Un.heap.Ns builtinsNs mb) (g3:∀x:Str,x ≠ "__name__" -> mb x=bootBuiltins x) (g4:Un.heap.NoLimit) (g5:BMod Un.heap XI mg bm ob) (hg:Un.gens= #[])
   (hL:Un.heap.IsList sa vs.toArray) (hI:IntsAre vs ns) (hlen:ns.length<=1000) (LG:fc (b8 ns)) :
   wpAny (model ae w) callerA (call (.ref f) [.ref sa]) (fun v s'=>v= .bool true/\OldK Un.heap s'.heap/\s'.os=Un.os/\AllBare s'.gens) (fun qq qq=>False) Un:=by
 have G0:=CE (w:=w) X ht g1 g2 g3 g4 g5
 have S:=dp KO.scope
 have hb:BindsTo Un (Ng (ah w.params f)) ⟨[.ref sa],[]⟩ [("script",.ref sa)]:=KO.fd▸hbind.h
 refine wpAny_call (codeAny_call_def (fd:=Ng (ah w.params f)) (body:=ay (ah w.params f)) (binds:=[("script",.ref sa)]) (by decide) (X _ _ KO.shape) rfl g4 (codeRec_of X KO.code) rfl hb S.cell (fun y hy=>eq_of_beq (X7.mp hloc y hy)) (fun h₁ hns UY=>?_) S.co S.gen S.kind)
 have FO:aa w (zW w Un f):=⟨⟨rfl,fun qq qq e=>e,trivial⟩,Around.frames_deeper rfl,G0,S.kind,G0⟩
 have LV:aU (zW w Un f).A 33:=⟨rfl,by show 1+claimMargin+1+33<=900;decide,Xd rfl⟩
 have R0:RS w (JL w.params (KD Un) [(225,tabObj #[])] #[]) (zW w Un f) (fun y=>[(("script" : Str),Value.ref sa)].reverse.lookup y) [] [] {Un with heap:=h₁,toks:=Un.toks+1} :=
   ⟨⟨hns,fun b o q=>UY b o (of_hideAll _ q),W9 (hideAll_size _ _)⟩,⟨[(225,tabObj #[])],(fun qq qk=>qk [] hg rfl .nil),fun p hp=>(Xe.mp hp)▸⟨UY _ _ ht,X3 (XQ ht),hideAll_none _ (.head _)⟩,Iv⟩,rfl,rfl,Xl _⟩
 have hsa:(zW w Un f).Up.IsList sa vs.toArray:=hL.elim fun o h=>⟨o,jV h.1 (zp ht h.1 (by rw[h.2.1];exact fun q=>Value.noConfusion q)),h.2⟩
 rw[hB]
 refine Xq (G2 FO LV rfl (W9 (hideAll_size _ _)) hS hsa hI hlen (gu "script" (.ref sa) []) (ps:= #[]) trivial R0 LG) (fun fl s' hh=>?_) fun qq qq h=>h.elim
 obtain⟨rfl,h2⟩:=Dp X ht hh
 exact⟨rfl,h2⟩
end
theorem yx{mg:Str->Option WY}{sa:W3}{ns:List Int}{q:Program}{loose:List Str}{X:ExcName->Option WY} (LG:∀ns:List Int,ns.length<=63->fc (b8 ns)) (X0:(KF w.params).In Un.heap) (ht:Un.heap.get? 225=some (tabObj #[])) (T:PyProof.Rows.Top q loose X mg mb Un.heap) (hg:Un.gens= #[]) (hL:Un.heap.IsList sa vs.toArray) (hI:IntsAre vs ns) (hlen:¬(63:Int)<ns.length) :
   wpAny (model ae w) callerA (call (.ref 572) [.ref sa]) (fun v s'=>v= .bool true/\OldK Un.heap s'.heap/\s'.os=Un.os/\AllBare s'.gens) (fun qq qq=>False) Un:=by
 have hlen63:ns.length<=63:=Int.ofNat_le.mp (Int.not_lt.mp hlen)
 obtain⟨bm,ob,b1,b2,b3,b4,b5,b6⟩:=T.bmain
 exact yd (OL _) (PB _) (RD _) (.of_eq (Cw _ _)) (au (IX _) rfl) X0 ht T.g T.b T.builtins T.nolimit ⟨T.g,b1,b2,b3,b4,b5,b6⟩ hg hL hI (WZ hlen63 (by decide)) (LG ns hlen63)
theorem law_walk(LG:∀ns:List Int,ns.length<=63->fc (b8 ns)) {as:List W3}{e:∀P,as=(hk.heap_1 P).map (·.1)} (q:Program) (loose:List Str) (XP:(Str->Option WY)->Heap->Prop) (d:DefRec) (kwd:List (Str×W5)) (hn:d.name = "law") :
   WalkO q loose XP (kmHook hk.heap_1 as e [225]).says PySem.Challenge.rw_qt0005_01.row.toRowW d kwd fun f vs=>PySem.call f vs:=by
 intro w s₀ Un mg mb G Y fa o pm cd doc dV kV ho hd' hcd hD hmg hg args vals as hpre hlay hrd hwl hlo
 have X0:=OH (km_in_of Y)
 have ht:=km_tabs_of Y 225 (.head _)
 rw[hn] at hmg
 clear hd' hcd hD ho hn
 refine Ground.open G ?_
 intro T B D TE TW
 wrow_args hpre hlay hrd hwl hlo
 rename_i ns _ _ _ _ _ _ _ sa vs _ hL _ _ _ hI _ hlen _
 cases XE (hmg.symm.trans (mg_of X0 T.g (LL _)))
 refine Xq (yx LG X0 ht T hg hL hI hlen) (fun v s' h=>?_) fun qq qq h=>h.elim
 obtain⟨rfl,h1,h2,h3⟩:=h
 exact⟨.inl ⟨_,.bool true,[],rfl,fun qq=>rfl,.bool _,by kernel_rfl,fun qq=>⟨List.Pairwise.nil,fun qq h=>absurd h List.not_mem_nil⟩⟩,h1,h2,h3⟩
end
section
noncomputable def dY(p:Int×Nat) (c:Nat):Int×Nat:=if c=9 then(p.1,p.2+(8 - p.2 % 8)) else if c=10 then(p.1+1,0) else(p.1,p.2+1)
noncomputable def cg(p:Int×Nat) (l:List Nat):Int×Nat:=l.foldl dY p
noncomputable def fw(r:Int):Nat->Nat->List Ch
 |_,0=>[]
 |v,n+1=>⟨32,r,(v:Int)+1⟩::fw r (v+1) n
noncomputable def kZ(p:Int×Nat) (c:Nat):List Ch:=if c=9 then fw p.1 p.2 (8 - p.2 % 8) else [⟨c,p.1,(p.2:Int)+1⟩]
noncomputable def d8:Int×Nat->List Nat->List Ch
 |_,[]=>[]
 |p,c::l=>kZ p c++d8 (dY p c) l
theorem eE(p:Int×Nat) (a b:List Nat):cg p (a++b)=cg (cg p a) b:=List.foldl_append
theorem nT:∀(a b:List Nat) (p:Int×Nat),d8 p (a++b)=d8 p a++d8 (cg p a) b:=by intro l0;induction l0 with
 |nil=>intro qq qq;exact rfl
 |cons c a ih =>
   intro b p;show kZ p c++d8 (dY p c) (a++b)=(kZ p c++d8 (dY p c) a)++_
   rw[ih b,Xo]
   rfl
noncomputable def ie(c:Nat):List Nat->List (List Nat)
 |[]=>[[]]
 |a::l=>if a=c then []::ie c l else match ie c l with|p::ps=>(a::p)::ps|[]=>[[a]]
noncomputable def cb(c:Nat):List (List Nat)->List Nat
 |[]=>[]
 |[p]=>p
 |p::q::r=>p++c::cb c (q::r)
theorem oB(p:Int×Nat) (c:Nat) (l:List Nat):d8 p (c::l)=kZ p c++d8 (dY p c) l:=rfl
theorem kC{a:Nat}{l:List Nat} (h:a≠c):ie c (a::l)=match ie c l with|p::ps=>(a::p)::ps|[]=>[[a]]:=if_neg h
theorem nD{l:List Nat}:ie c (c::l)=[]::ie c l:=if_pos rfl
theorem zP:∀{p:List Nat},c∉p->ie c p=[p]:=by intro l0;induction l0 with
 |nil=>intro qq;exact rfl
 |cons a p ih =>
   intro h;have ne:a≠c:=fun e=>h (by rw[e];exact .head _)
   rw[kC ne,ih fun m=>h (.tail _ m)]
theorem xd:∀{p l:List Nat},c∉p->ie c (p++c::l)=p::ie c l:=by intro l0;induction l0 with
 |nil=>intro l qq;exact nD
 |cons a p ih =>
   intro l h;show ie c (a::(p++c::l))=_
   have ne:a≠c:=fun e=>h (by rw[e];exact .head _)
   rw[kC ne,ih fun m=>h (.tail _ m)]
theorem pB:∀{ps:List (List Nat)},ps≠[]->(∀p∈ps,c∉p)->ie c (cb c ps)=ps
 |[],h,_=>(h rfl).elim
 |[p],_,h=>zP (h p (.head _))
 |p::q::r,_,h=>by
   show ie c (p++c::cb c (q::r))=_
   rw[xd (h p (.head _)),pB (by simp) fun p hp=>h p (.tail _ hp)]
theorem pP(c:Nat):∀(l:List Str),(Str.join ⟨#[c]⟩ l).cps.toList=cb c (l.map (·.cps.toList))
 |[]=>rfl
 |[p]=>rfl
 |p::q::r=>by
   show(p++(⟨#[c]⟩:Str)++Str.join ⟨#[c]⟩ (q::r)).cps.toList=_
   have:=pP c (q::r)
   show((p.cps++ #[c])++(Str.join ⟨#[c]⟩ (q::r)).cps).toList=p.cps.toList++c::cb c ((q::r).map (·.cps.toList))
   rw[←this]
   simp
theorem ji(x:Str) (c:Nat):(XN x ⟨#[c]⟩).map (·.cps.toList)=ie c x.cps.toList:=by
 have h:=StrLaws.join_split x ⟨#[c]⟩
 have e:=pP c (XN x ⟨#[c]⟩)
 rw[h] at e
 rw[e]
 refine(pB (fun q=>bY x ⟨#[c]⟩ (List.map_eq_nil_iff.mp q)) fun p hp=>?_).symm
 obtain⟨y,hy,rfl⟩:=Xp.mp hp
 exact StrLaws.split_free x c y hy
theorem i9(c:Nat) (l:List Nat):ie c l≠[]:=by
 rcases l with qq|⟨a,l⟩
 . exact List.cons_ne_nil _ _
 . by_cases h:a=c
   . rw[h,nD];exact List.cons_ne_nil _ _
   . rw[kC h];rcases ie c l with qq|⟨p,ps⟩<;>exact List.cons_ne_nil _ _
theorem oW(r:Int):∀(n v:Nat) (l:List Nat),cN r ((v:Int)+1) (List.replicate n 32++l)=fw r v n++cN r (((v+n:Nat):Int)+1) l:=by intro l0;induction l0 with
 |zero=>intro v l;rfl
 |succ n ih =>
   intro v l;rw[List.replicate_succ,List.cons_append]
   show⟨32,r,(v:Int)+1⟩::cN r ((v:Int)+1+1) _=⟨32,r,(v:Int)+1⟩::(fw r (v+1) n++_)
   have:=ih (v+1) l
   rw[show(((v+1:Nat):Int)+1)=(v:Int)+1+1 from rfl] at this
   rw[this,show v+1+n=v+(n+1) from Nat.succ_add v n]
theorem zU(r:Int):∀(l:List Nat) (v:Nat),10∉l->13∉l->cN r ((v:Int)+1) (g6 l v)=d8 (r,v) l:=by intro l0;induction l0 with
 |nil=>intro qq qq qq;exact rfl
 |cons c l ih =>
   intro v h1 h2;have a1:c≠10:=fun e=>h1 (e▸ .head _)
   have a2:c≠13:=fun e=>h2 (e▸ .head _)
   have b1:10∉l:=fun m=>h1 (.tail _ m)
   have b2:13∉l:=fun m=>h2 (.tail _ m)
   rw[iF,oB];unfold kZ dY
   by_cases h:c=9
   . rw[if_pos h,if_pos h,if_pos h,oW,ih _ b1 b2]
   . rw[if_neg h,if_neg h,if_neg h,if_neg a1]
     have e:(if (c == 10 || c == 13)=true then 0 else v+1)=v+1:=by
       rw[if_neg]
       simp[a1,a2]
     rw[e]
     have:=ih (v+1) b1 b2
     rw[show(((v+1:Nat):Int)+1)=(v:Int)+1+1 from rfl] at this
     show⟨c,r,(v:Int)+1⟩::cN r ((v:Int)+1+1) _=_
     rw[this]
     rfl
theorem oQ(r:Int):∀(l:List Nat) (v:Nat),10∉l->13∉l->cN r ((v:Int)+1) (g6 (l++[10]) v)=d8 (r,v) (l++[10]):=by intro l0;induction l0 with
 |nil=>intro v qq qq;exact rfl
 |cons c l ih =>
   intro v h1 h2;have a1:c≠10:=fun e=>h1 (e▸ .head _)
   have a2:c≠13:=fun e=>h2 (e▸ .head _)
   have b1:10∉l:=fun m=>h1 (.tail _ m)
   have b2:13∉l:=fun m=>h2 (.tail _ m)
   show cN r ((v:Int)+1) (g6 (c::(l++[10])) v)=d8 (r,v) (c::(l++[10]))
   rw[iF,oB];unfold kZ dY
   by_cases h:c=9
   . rw[if_pos h,if_pos h,if_pos h,oW,ih _ b1 b2]
   . rw[if_neg h,if_neg h,if_neg h,if_neg a1]
     have e:(if (c == 10 || c == 13)=true then 0 else v+1)=v+1:=by
       rw[if_neg]
       simp[a1,a2]
     rw[e]
     have:=ih (v+1) b1 b2
     rw[show(((v+1:Nat):Int)+1)=(v:Int)+1+1 from rfl] at this
     show⟨c,r,(v:Int)+1⟩::cN r ((v:Int)+1+1) _=_
     rw[this]
     rfl
theorem kX(r:Int):∀(l:List Nat) (v:Nat),10∉l->(cg (r,v) l).1=r:=by intro l0;induction l0 with
 |nil=>intro qq qq;exact rfl
 |cons c l ih =>
   intro v h;have a1:c≠10:=fun e=>h (e▸ .head _)
   show(cg (dY (r,v) c) l).1=r
   have:dY (r,v) c=(r,(dY (r,v) c).2):=by unfold dY;by_cases q:c=9;rw[if_pos q];rw[if_neg q,if_neg a1]
   rw[this]
   exact ih _ fun m=>h (.tail _ m)
theorem zG(p:Int×Nat) (l:List Nat):cg p (l++[10])=((cg p l).1+1,0):=by rw[eE];rfl
noncomputable def qJ:List (List Nat)->List (List Nat)
 |[]=>[]
 |[p]=>if p=[] then [] else [p]
 |p::q::r=>(p++[10])::qJ (q::r)
theorem kT:∀(ps:List (List Nat)) (r:Int) (ls:List Str),(∀p∈ps,10∉p/\13∉p)->ls.map (·.cps.toList)=qJ ps->bu r ls=d8 (r,0) (cb 10 ps)
 |[],r,ls,_,e=>by
   obtain rfl:=List.map_eq_nil_iff.mp e
   rfl
 |[p],r,ls,h,e=>by
   change ls.map (·.cps.toList)=(if p=[] then [] else [p]) at e
   split at e
   . obtain rfl:=List.map_eq_nil_iff.mp e
     rename_i hp
     subst hp
     rfl
   . obtain⟨x,xs,rfl,hx,hxs⟩:=List.map_eq_cons_iff.mp e
     obtain rfl:=List.map_eq_nil_iff.mp hxs
     show cN r 1 (g6 x.cps.toList 0)++[]=d8 (r,0) p
     rw[XY]
     have:=zU r p 0 (h p (.head _)).1 (h p (.head _)).2
     rw[←this]
     rw[hx]
     rfl
 |p::q::t,r,ls,h,e=>by
   obtain⟨x,xs,rfl,hx,hxs⟩:=List.map_eq_cons_iff.mp e
   have ih:=kT (q::t) (r+1) xs (fun p hp=>h p (.tail _ hp)) hxs
   show cN r 1 (g6 x.cps.toList 0)++bu (r+1) xs=d8 (r,0) (p++10::cb 10 (q::t))
   rw[ih,show p++10::cb 10 (q::t)=(p++[10])++cb 10 (q::t) by simp,nT,zG,kX r p 0 (h p (.head _)).1]
   have:=oQ r p 0 (h p (.head _)).1 (h p (.head _)).2
   rw[←this,hx]
   rfl
theorem qu:("\n" : Str)=⟨#[10]⟩:=by decide +kernel
theorem Cv:("\t" : Str)=⟨#[9]⟩:=by decide +kernel
theorem kr:∀(ps:List Str),ps≠[]->(ps.dropLast.map (fun p=>aQ p "\n")++[a9 ps].filter (fun p=>!bU p "")).map (·.cps.toList)=qJ (ps.map (·.cps.toList))
 |[],h=>(h rfl).elim
 |[p],_=>by
   show([p].filter (fun p=>!bU p "")).map (·.cps.toList)=if p.cps.toList=[] then [] else [p.cps.toList]
   by_cases h:p.cps.toList=[]
   . rw[if_pos h,List.filter_cons_of_neg]
     . rfl
     . unfold bU;rw[h];decide
   . rw[if_neg h,List.filter_cons_of_pos]
     . rfl
     . unfold bU
       rw[Bool.not_eq_true']
       exact beq_eq_false_iff_ne.mpr h
 |p::q::r,_=>by
   have ih:=kr (q::r) (by simp)
   show(p.cps.toList++[10])::(((q::r).dropLast.map (fun p=>aQ p "\n")++[a9 (q::r)].filter (fun p=>!bU p "")).map (·.cps.toList))=_
   rw[ih]
   rfl
theorem jo{a:Nat}:∀{ps:List (List Nat)}{p:List Nat},p∈ps->a∈p->a∈cb c ps
 |[q],p,hp,ha=>by rw[Xe.mp hp] at ha;exact ha
 |q::t::r,p,hp,ha=>by
   show a∈q++c::cb c (t::r)
   rcases Xb.mp hp with rfl|hp
   . exact W7 _ ha
   . exact W4 _ (.tail _ (jo hp ha))
theorem iv(c:Nat):∀(l:List Nat),cb c (ie c l)=l:=by intro l0;induction l0 with
 |nil=>exact rfl
 |cons a l ih =>
   have ih:=ih
   by_cases h:a=c
   . rw[h,nD]
     rcases hs:ie c l with qq|⟨p,ps⟩
     . exact(i9 c l hs).elim
     . rw[hs] at ih;exact congrArg (c:: ·) ih
   . rw[kC h]
     rcases hs:ie c l with qq|⟨p,ps⟩
     . exact(i9 c l hs).elim
     ·
       rw[hs] at ih
       show cb c ((a::p)::ps)=_
       rcases ps with qq|⟨q,r⟩
       . show a::p=_;rw[←ih];rfl
       . show(a::p)++c::cb c (q::r)=_;rw[←ih];rfl
theorem iy:∀(l:List Nat),∀p∈ie c l,c∉p:=by intro l0;induction l0 with
 |nil =>
   intro p hp;have:p=[]:=Xe.mp hp
   subst this;simp
 |cons a l ih =>
   intro p hp;have ih:∀p∈ie c l,c∉p:=ih
   by_cases h:a=c
   . rw[h,nD] at hp
     rcases Xb.mp hp with rfl|hp
     . simp
     . exact ih p hp
   . rw[kC h] at hp
     rcases hs:ie c l with qq|⟨q,qs⟩
     . exact(i9 c l hs).elim
     ·
       rw[hs] at hp ih
       rcases Xb.mp hp with rfl|hp
       . exact fun m=>by
           rcases Xb.mp m with e|m
           . exact h e.symm
           . exact ih q (.head _) m
       . exact ih p (.tail _ hp)
theorem ml(h:13∉x.cps.toList):bu 1 (br x)=d8 (1,0) x.cps.toList:=by
 have e:=kr (XN x "\n") (bY _ _)
 rw[qu,ji] at e
 have hj:=iv 10 x.cps.toList
 have:=kT (ie 10 x.cps.toList) 1 (br x) (fun p hp=>⟨iy _ p hp,fun m=>h (by rw[←hj];exact jo hp m)⟩) (by unfold br;rw[qu];exact e)
 rw[this,hj]
end
section
theorem BT(r r':Int):∀(l:List Nat) (v:Nat),10∉l->(cg (r,v) l).2=(cg (r',v) l).2:=by intro l0;induction l0 with
 |nil=>intro qq qq;exact rfl
 |cons c l ih =>
   intro v h;have a1:c≠10:=fun e=>h (by rw[e];exact .head _)
   have e:∀r:Int,dY (r,v) c=(r,if c=9 then v+(8 - v % 8) else v+1):=fun r=>by
     unfold dY
     by_cases q:c=9
     . rw[if_pos q,if_pos q]
     . rw[if_neg q,if_neg q,if_neg a1]
   show(cg (dY (r,v) c) l).2=(cg (dY (r',v) c) l).2
   rw[e,e]
   exact ih _ fun m=>h (.tail _ m)
theorem mQ(r:Int):∀(l:List Nat) (v:Nat),10∉l->9∉l->cg (r,v) l=(r,v+l.length):=by intro l0;induction l0 with
 |nil=>intro qq qq qq;exact rfl
 |cons c l ih =>
   intro v h h';have a1:c≠10:=fun e=>h (by rw[e];exact .head _)
   have a2:c≠9:=fun e=>h' (by rw[e];exact .head _)
   show cg (dY (r,v) c) l=_
   unfold dY
   rw[if_neg a2,if_neg a1,ih _ (fun m=>h (.tail _ m)) fun m=>h' (.tail _ m),List.length_cons]
   exact congrArg (Prod.mk r) (Nat.succ_add v _)
theorem ow:∀(ps:List (List Nat)) (r:Int),ps≠[]->(∀p∈ps,10∉p)->cg (r,0) (cb 10 ps)=(r+(ps.length:Int) - 1,(cg (1,0) (ps.getLastD [])).2)
 |[],_,h,_=>(h rfl).elim
 |[p],r,_,h=>by
   show cg (r,0) p=(r+1 - 1,(cg (1,0) p).2)
   rw[BT 1 r p 0 (h p (.head _)),show r+1 - 1=(cg (r,0) p).1 by rw[kX r p 0 (h p (.head _)),Int.add_sub_cancel]]
 |p::q::t,r,_,h=>by
   have ih:=ow (q::t) (r+1) (by simp) fun p hp=>h p (.tail _ hp)
   show cg (r,0) (p++10::cb 10 (q::t))=_
   rw[show p++10::cb 10 (q::t)=(p++[10])++cb 10 (q::t) by simp,eE,zG,kX r p 0 (h p (.head _)),ih]
   show(r+1+((q::t).length:Int) - 1,_)=(r+((p::q::t).length:Int) - 1,_)
   exact congrArg (fun x:Int=>(x - 1,(cg (1,0) ((p::q::t).getLastD [])).2)) ((Int.add_assoc r 1 _).trans (congrArg (r+ ·) (Int.add_comm 1 _)))
noncomputable def vp(c:Int) (p:List Nat):Int:=c+(Int.fdiv (p.length:Int) 8*8+8)
theorem HB(j n:Nat):8*j+n+(8 - (8*j+n) % 8)=8*(j+n / 8+1):=by
 have h2:=Nat.div_add_mod n 8
 rw[Nat.mul_add_mod 8 j n,Nat.add_assoc,Nat.mul_succ,Nat.mul_add,Nat.add_assoc]
 refine congrArg (8*j+ ·) ?_
 calc n+(8 - n % 8)=8*(n / 8)+n % 8+(8 - n % 8):=by rw[h2]
   _=8*(n / 8)+8:=by rw[Nat.add_assoc,Nat.add_sub_cancel' (Nat.le_of_lt (Nat.mod_lt _ (by decide)))]
theorem CX(j n:Nat):8*(j:Int)+1+(Int.fdiv (n:Int) 8*8+8)=8*((j+n / 8+1:Nat):Int)+1:=by
 have h:Int.fdiv (n:Int) 8=((n / 8:Nat):Int):=by cases n<;>rfl
 rw[h,Int.natCast_add,Int.natCast_add,Int.mul_add,Int.mul_add,Int.mul_comm _ 8,Int.add_right_comm,Int.add_assoc (8*(j:Int))]
 rfl
theorem pS(r:Int):∀(qs:List (List Nat)) (j:Nat),qs≠[]->(∀p∈qs,9∉p/\10∉p)->((cg (r,8*j) (cb 9 qs)).2:Int)+1=qs.dropLast.foldl vp (8*(j:Int)+1)+((qs.getLastD []).length:Int)
 |[],_,h,_=>(h rfl).elim
 |[p],j,_,h=>by
   show((cg (r,8*j) p).2:Int)+1=8*(j:Int)+1+(p.length:Int)
   rw[mQ r p _ (h p (.head _)).2 (h p (.head _)).1]
   exact(congrArg (. +1) ((Int.natCast_add _ _).trans (congrArg (. +(p.length:Int)) (Int.natCast_mul 8 j)))).trans (Int.add_right_comm _ _ _)
 |p::q::t,j,_,h=>by
   have ih:=pS r (q::t) (j+p.length / 8+1) (by simp) fun p hp=>h p (.tail _ hp)
   show((cg (r,8*j) (p++9::cb 9 (q::t))).2:Int)+1=(q::t).dropLast.foldl vp (vp (8*(j:Int)+1) p)+(((q::t).getLastD []).length:Int)
   rw[show p++9::cb 9 (q::t)=p++([9]++cb 9 (q::t)) by simp,eE,eE,mQ r p _ (h p (.head _)).2 (h p (.head _)).1]
   have e1:cg (r,8*j+p.length) [9]=(r,8*(j+p.length / 8+1)):=by
     exact congrArg (Prod.mk r) (HB j p.length)
   have e2:vp (8*(j:Int)+1) p=8*((j+p.length / 8+1:Nat):Int)+1:=by
     exact CX j p.length
   rw[e1,ih,e2]
theorem kE:∀(l:List Str),l≠[]->(a9 l).cps.toList=(l.map (·.cps.toList)).getLastD []
 |[],h=>(h rfl).elim
 |[_],_=>rfl
 |_::q::r,_=>by
   have:=kE (q::r) (by simp)
   exact this
theorem zZ:∀(l:List Str) (c:Int),l.foldl f8 c=(l.map (·.cps.toList)).foldl vp c:=by intro l0;induction l0 with
 |nil=>intro qq;exact rfl
 |cons p l ih=>intro c;exact ih (f8 c p)
theorem mn(d:α):∀{l:List α},l≠[]->l.getLastD d∈l
 |[],h=>(h rfl).elim
 |[_],_=> .head _
 |_::q::r,_=> .tail _ (mn d (l:=q::r) (by simp))
theorem gH(x:Str):aJ x=((cg (1,0) x.cps.toList).1,((cg (1,0) x.cps.toList).2:Int)+1):=by
 have e1:=ji x 10
 have hr:=ow (ie 10 x.cps.toList) 1 (i9 _ _) (fun p hp=>iy _ p hp)
 rw[iv] at hr
 rw[hr]
 have hp:aJ x=(((XN x ⟨#[10]⟩).length:Int),(XN (a9 (XN x ⟨#[10]⟩)) ⟨#[9]⟩).dropLast.foldl f8 1+ar (a9 (XN (a9 (XN x ⟨#[10]⟩)) ⟨#[9]⟩))):=by unfold aJ;rw[qu,Cv]
 rw[hp]
 have hl:(a9 (XN x ⟨#[10]⟩)).cps.toList=(ie 10 x.cps.toList).getLastD []:=by rw[kE _ (bY _ _),e1]
 generalize hL:a9 (XN x ⟨#[10]⟩)=L at hl ⊢
 have h10:10∉L.cps.toList:=by
   rw[hl]
   exact iy _ _ (mn _ (i9 _ _))
 have e2:=ji L 9
 have hc:=pS 1 (ie 9 L.cps.toList) 0 (i9 _ _) (fun p hp=>⟨iy _ p hp,fun m=>h10 (by have:=jo (c:=9) hp m;rwa [iv] at this)⟩)
 rw[iv] at hc
 have hn:(XN x ⟨#[10]⟩).length=(ie 10 x.cps.toList).length:=by rw[←e1,XR]
 refine Prod.ext ?_ ?_
 . show((XN x ⟨#[10]⟩).length:Int)=1+((ie 10 x.cps.toList).length:Int) - 1
   rw[hn,Int.add_comm 1,Int.add_sub_cancel]
 . show(XN L ⟨#[9]⟩).dropLast.foldl f8 1+(ar (a9 (XN L ⟨#[9]⟩)):Int)=((cg (1,0) ((ie 10 x.cps.toList).getLastD [])).2:Int)+1
   rw[←hl]
   have hc':((cg (1,0) L.cps.toList).2:Int)+1=(ie 9 L.cps.toList).dropLast.foldl vp 1+(((ie 9 L.cps.toList).getLastD []).length:Int):=hc
   rw[hc',zZ]
   unfold ar
   rw[kE _ (bY _ _),e2,List.map_dropLast,e2]
end
section
noncomputable def Pj:Nat->Ts->Ts
 |0,t=>t
 |n+1,.cons _ r=>Pj n r
 |_+1,.nil=> .nil
noncomputable def Tt:Ts->X
 |.cons (.wh t _) _=>t
 |_=> .k .none
noncomputable def Ue:Ts->Ts
 |.cons (.wh _ b) _=>b
 |_=> .nil
noncomputable def LP(old:Bool) (f:W3) (j N:Nat) (ρ:List (Option V)) (st:LS) (K:V->LS->Prop) (X:bE->LS->Prop):Prop :=
 lX (fun ρ s K=>p6 (zS old Kj) ρ X (Tt (Pj j (vN f))) s K) (fun ρ s K=>i5 (zS old Kj) X (Ue (Pj j (vN f))) ρ s K)
   (fun fl ρ s=>match fl with
     |.next=>i5 (zS old Kj) X (Pj (j+1) (vN f)) ρ s (fun fl qq st'=>match fl with| .ret v=>K v st'| .next=>K .none st'|_=>False)
     |.brk=>False
     |.cont=>False
     |.ret v=>K v s) N ρ st
noncomputable abbrev slf:List (Option V):=[some .self,none,none]
noncomputable abbrev oJ(c:Ch):List (Option V):=[some .self,some (.chr c),none]
noncomputable def ei(R:List Ch):Prop:=R=[]\/∃c r k R',R=⟨c,r,k⟩::R'/\(c=32\/c=10\/c=47\/c=12\/c=34)
section
variable {old:Bool}{R r2:List Ch}{c2:List Ch}{t:V}{f2:W3}{res:jF}{K:V->LS->Prop}{X:bE->LS->Prop}{st:LS}{N:Nat}{c:Ch}
theorem dI(h:∀K X,dh old 373 ⟨[],[],r⟩ K X=K (.meth 373) ⟨[t],[],R⟩):bd old 373 ⟨[],[],r⟩ (.tok t 373 ⟨[],[],R⟩) :=
 .step (by decide) ((h _ _).mpr ⟨rfl,rfl⟩) .tok
theorem jB(hf:f2∈gV) (h:∀K X,dh old 373 ⟨[],[],r⟩ K X=K (.meth f2) ⟨[],c2,r2⟩) (hn:bd old f2 ⟨[],c2,r2⟩ res):bd old 373 ⟨[],[],r⟩ res :=
 .step (by decide) ((h _ _).mpr ⟨rfl,rfl⟩) hn
theorem t9(n:Nat) (hf:f2∈gV) (h:∀K X,dh old 373 ⟨[],[],r⟩ K X=K (.meth f2) ⟨[],(r.take n).reverse,r.drop n⟩) (h2:∀K X,dh old f2 ⟨[],(r.take n).reverse,r.drop n⟩ K X=K (.meth 373) ⟨[t],[],R⟩):bd old 373 ⟨[],[],r⟩ (.tok t 373 ⟨[],[],R⟩) :=
 jB hf h (.step hf ((h2 _ _).mpr ⟨rfl,rfl⟩) .tok)
theorem o0{p q:Prop} (hp:p) (hq:q) (n:Nat) (hf:f2∈gV) (h:∀K X,dh old 373 ⟨[],[],r⟩ K X=(p/\K (.meth f2) ⟨[],(r.take n).reverse,r.drop n⟩)) (h2:∀K X,dh old f2 ⟨[],(r.take n).reverse,r.drop n⟩ K X=(q/\K (.meth 373) ⟨[t],[],R⟩)):bd old 373 ⟨[],[],r⟩ (.tok t 373 ⟨[],[],R⟩) :=
 .step (by decide) ((h _ _).mpr ⟨hp,rfl,rfl⟩) (.step hf ((h2 _ _).mpr ⟨hq,rfl,rfl⟩) .tok)
theorem oK{p:Prop} (hp:p) (n:Nat) (hf:f2∈gV) (h:∀K X,dh old 373 ⟨[],[],r⟩ K X=K (.meth f2) ⟨[],(r.take n).reverse,r.drop n⟩) (h2:∀K X,dh old f2 ⟨[],(r.take n).reverse,r.drop n⟩ K X=(p/\K (.meth 373) ⟨[t],[],R⟩)):bd old 373 ⟨[],[],r⟩ (.tok t 373 ⟨[],[],R⟩) :=
 .step (by decide) ((h _ _).mpr ⟨rfl,rfl⟩) (.step hf ((h2 _ _).mpr ⟨hp,rfl,rfl⟩) .tok)
theorem zM{p q u:Prop} (hp:p) (hq:q) (hu:u) (h:∀K X,dh old 373 ⟨[],[],r⟩ K X=(p/\q/\u/\K (.meth 373) ⟨[t],[],R⟩)):bd old 373 ⟨[],[],r⟩ (.tok t 373 ⟨[],[],R⟩) :=
 .step (by decide) ((h _ _).mpr ⟨hp,hq,hu,rfl,rfl⟩) .tok
theorem H8(hf:f2∈gV) (h:∀K X,dh old f2 ⟨[],c2,r⟩ K X=X p st):bd old f2 ⟨[],c2,r⟩ (.err p):= .err hf ((h _ _).mpr ⟨rfl,rfl⟩)
theorem ym(h:∀K X,dh old 373 ⟨[],[],r⟩ K X=K (.meth 373) ⟨[],[],R⟩) (hn:bd old 373 ⟨[],[],R⟩ res):bd old 373 ⟨[],[],r⟩ res:= .step (by decide) ((h _ _).mpr ⟨rfl,rfl⟩) hn
theorem GE(h:LP old 415 0 N slf st K X):dh old 415 st K X:=by
 have e:dh old 415 st K X=∃n,LP old 415 0 n slf st K X:=by kernel_rfl
 rw[e];exact⟨N,h⟩
theorem KH(h:LP old 408 1 N (oJ c) ⟨[],c::c2,r⟩ K X):dh old 408 ⟨[],c2,c::r⟩ K X:=by
 have e:dh old 408 ⟨[],c2,c::r⟩ K X=∃n,LP old 408 1 n (oJ c) ⟨[],c::c2,r⟩ K X:=by kernel_rfl
 rw[e];exact⟨N,h⟩
theorem MW(h:LP old 422 1 N (oJ c) ⟨[],c::c2,r⟩ K X):dh old 422 ⟨[],c2,c::r⟩ K X:=by
 have e:dh old 422 ⟨[],c2,c::r⟩ K X=∃n,LP old 422 1 n (oJ c) ⟨[],c::c2,r⟩ K X:=by kernel_rfl
 rw[e];exact⟨N,h⟩
theorem me(N:Nat) {c0 c1:Ch} (h:∀K X,dh old 373 ⟨[],[],c0::c1::r⟩ K X=K (.meth 415) ⟨[],[c1,c0],r⟩) (h2:∀K X,LP old 415 0 N slf ⟨[],[c1,c0],r⟩ K X=K (.meth 373) ⟨[],[],R⟩) (hn:bd old 373 ⟨[],[],R⟩ res):bd old 373 ⟨[],[],c0::c1::r⟩ res :=
 jB (by decide) h (.step (by decide) (GE ((h2 _ _).mpr ⟨rfl,rfl⟩)) hn)
theorem xo{p:Prop} (hp:p) (N:Nat) {c0 c1 c3:Ch} (h:∀K X,dh false 373 ⟨[],[],c0::c1::c3::r⟩ K X=K (.meth 408) ⟨[],[c1,c0],c3::r⟩) (h2:∀K X,LP false 408 1 N (oJ c3) ⟨[],[c3,c1,c0],r⟩ K X=(p/\K (.meth 373) ⟨[],[],R⟩)) (hn:bd false 373 ⟨[],[],R⟩ res):bd false 373 ⟨[],[],c0::c1::c3::r⟩ res :=
 jB (by decide) h (.step (by decide) (KH ((h2 _ _).mpr ⟨hp,rfl,rfl⟩)) hn)
theorem zX(N:Nat) {c0 c1:Ch} (h:∀K X,dh old 373 ⟨[],[],c0::c1::r⟩ K X=K (.meth 422) ⟨[],[c0],c1::r⟩) (h2:∀K X,LP old 422 1 N (oJ c1) ⟨[],[c1,c0],r⟩ K X=K (.meth 373) ⟨[t],[],R⟩):bd old 373 ⟨[],[],c0::c1::r⟩ (.tok t 373 ⟨[],[],R⟩) :=
 jB (by decide) h (.step (by decide) (MW ((h2 _ _).mpr ⟨rfl,rfl⟩)) .tok)
variable {r0 k0 r1 k1 r3 k3 r4 k4 r5 k5 r6 k6 r7 k7 r8 k8:Int}
theorem F4(h:ei R):bd old 373 ⟨[],[],⟨97,r0,k0⟩::⟨98,r1,k1⟩::⟨99,r3,k3⟩::R⟩ (.tok (.tok "ID" "abc" r0 k0) 373 ⟨[],[],R⟩):=by
 rcases h with rfl|⟨c,r,k,R',rfl,rfl|rfl|rfl|rfl|rfl⟩<;>exact t9 1 (f2:=380) (by decide) (fun K X=>by kernel_rfl) fun K X=>by kernel_rfl
theorem M3(h:ei R):bd old 373 ⟨[],[],⟨76,r0,k0⟩::⟨49,r1,k1⟩::⟨95,r3,k3⟩::R⟩ (.tok (.tok "ID" "L1_" r0 k0) 373 ⟨[],[],R⟩):=by
 rcases h with rfl|⟨c,r,k,R',rfl,rfl|rfl|rfl|rfl|rfl⟩<;>exact t9 1 (f2:=380) (by decide) (fun K X=>by kernel_rfl) fun K X=>by kernel_rfl
theorem N4(h:ei R):bd old 373 ⟨[],[],⟨49,r0,k0⟩::⟨50,r1,k1⟩::R⟩ (.tok (.tok "NUMBER" "12" r0 k0) 373 ⟨[],[],R⟩):=by
 rcases h with rfl|⟨c,r,k,R',rfl,rfl|rfl|rfl|rfl|rfl⟩<;>exact o0 (p:=(⟨49,r0,k0⟩:Ch)=⟨49,r0,k0⟩) (q:=True) rfl trivial 0 (f2:=387) (by decide) (fun K X=>by kernel_rfl) fun K X=>(true_and _).symm▸(by kernel_rfl)
theorem Fa(h:ei R):bd old 373 ⟨[],[],⟨42,r0,k0⟩::R⟩ (.tok (.tok "*" "*" r0 k0) 373 ⟨[],[],R⟩):=by
 rcases h with rfl|⟨c,r,k,R',rfl,rfl|rfl|rfl|rfl|rfl⟩<;>exact dI fun K X=>by kernel_rfl
theorem Kp:bd old 373 ⟨[],[],⟨34,r0,k0⟩::⟨47,r1,k1⟩::⟨47,r3,k3⟩::⟨34,r4,k4⟩::R⟩ (.tok (.tok "STRING" "\"//\"" r0 k0) 373 ⟨[],[],R⟩):=zX 9 (fun K X=>by kernel_rfl) fun K X=>by kernel_rfl
theorem KG:bd old 373 ⟨[],[],⟨34,r0,k0⟩::⟨47,r1,k1⟩::⟨42,r3,k3⟩::⟨32,r4,k4⟩::⟨34,r5,k5⟩::R⟩ (.tok (.tok "STRING" "\"/* \"" r0 k0) 373 ⟨[],[],R⟩):=zX 9 (fun K X=>by kernel_rfl) fun K X=>by kernel_rfl
theorem L6:bd old 373 ⟨[],[],⟨39,r0,k0⟩::⟨47,r1,k1⟩::⟨39,r3,k3⟩::R⟩ (.tok (.tok "CHAR" "'/'" r0 k0) 373 ⟨[],[],R⟩):=oK (p:=true=true) rfl 1 (f2:=429) (by decide) (fun K X=>by kernel_rfl) fun K X=>by kernel_rfl
theorem JC(h:ei R):bd old 373 ⟨[],[],⟨48,r0,k0⟩::⟨120,r1,k1⟩::⟨49,r3,k3⟩::⟨70,r4,k4⟩::R⟩ (.tok (.tok "NUMBER" "0x1F" r0 k0) 373 ⟨[],[],R⟩):=by
 rcases h with rfl|⟨c,r,k,R',rfl,rfl|rfl|rfl|rfl|rfl⟩<;>exact o0 (p:=(⟨48,r0,k0⟩:Ch)=⟨48,r0,k0⟩) (q:=True) rfl trivial 0 (f2:=387) (by decide) (fun K X=>by kernel_rfl) fun K X=>(true_and _).symm▸(by kernel_rfl)
theorem Ls:bd old 373 ⟨[],[],⟨76,r0,k0⟩::⟨39,r1,k1⟩::⟨42,r3,k3⟩::⟨39,r4,k4⟩::R⟩ (.tok (.tok "CHAR" "L'*'" r0 k0) 373 ⟨[],[],R⟩):=oK (p:=true=true) rfl 2 (f2:=429) (by decide) (fun K X=>by kernel_rfl) fun K X=>by kernel_rfl
theorem Ni:bd old 373 ⟨[],[],⟨43,r0,k0⟩::⟨43,r1,k1⟩::R⟩ (.tok (.tok "++" "++" r0 k0) 373 ⟨[],[],R⟩):=dI fun K X=>by kernel_rfl
theorem Ma:bd old 373 ⟨[],[],⟨45,r0,k0⟩::⟨62,r1,k1⟩::R⟩ (.tok (.tok "->" "->" r0 k0) 373 ⟨[],[],R⟩):=dI fun K X=>by kernel_rfl
theorem Mk:bd old 373 ⟨[],[],⟨62,r0,k0⟩::⟨62,r1,k1⟩::⟨61,r3,k3⟩::R⟩ (.tok (.tok ">>=" ">>=" r0 k0) 373 ⟨[],[],R⟩):=dI fun K X=>by kernel_rfl
theorem Kc:bd old 373 ⟨[],[],⟨46,r0,k0⟩::⟨46,r1,k1⟩::⟨46,r3,k3⟩::R⟩ (.tok (.tok "..." "..." r0 k0) 373 ⟨[],[],R⟩):=zM (p:=2<=1000) (q:=true=true) (u:=true=true) (by decide) rfl rfl fun K X=>by kernel_rfl
theorem OB:bd old 373 ⟨[],[],⟨35,r0,k0⟩::⟨35,r1,k1⟩::R⟩ (.tok (.tok "##" "##" r0 k0) 373 ⟨[],[],R⟩):=dI fun K X=>by kernel_rfl
theorem N7:bd old 373 ⟨[],[],⟨47,r0,k0⟩::⟨61,r1,k1⟩::R⟩ (.tok (.tok "/=" "/=" r0 k0) 373 ⟨[],[],R⟩):=dI fun K X=>by kernel_rfl
theorem JU:bd old 373 ⟨[],[],⟨47,r0,k0⟩::⟨32,r1,k1⟩::R⟩ (.tok (.tok "/" "/" r0 k0) 373 ⟨[],[],⟨32,r1,k1⟩::R⟩):=dI fun K X=>by kernel_rfl
theorem Ed:bd old 373 ⟨[],[],⟨92,r0,k0⟩::R⟩ (.tok (.tok "\\" "\\" r0 k0) 373 ⟨[],[],R⟩):=dI fun K X=>by kernel_rfl
theorem Oo:bd old 373 ⟨[],[],⟨10,r0,k0⟩::R⟩ (.tok (.tok "BOL" "\n" r0 k0) 373 ⟨[],[],R⟩):=dI fun K X=>by kernel_rfl
theorem NV(hn:bd old 373 ⟨[],[],R⟩ res):bd old 373 ⟨[],[],⟨12,r0,k0⟩::R⟩ res:=ym (fun K X=>by kernel_rfl) hn
theorem Ok(hn:bd old 373 ⟨[],[],R⟩ res):bd old 373 ⟨[],[],⟨47,r0,k0⟩::⟨42,r1,k1⟩::⟨120,r3,k3⟩::⟨42,r4,k4⟩::⟨47,r5,k5⟩::R⟩ res:=me 9 (fun K X=>by kernel_rfl) (fun K X=>by kernel_rfl) hn
theorem Mb(hn:bd old 373 ⟨[],[],R⟩ res):bd old 373 ⟨[],[],⟨47,r0,k0⟩::⟨42,r1,k1⟩::⟨10,r3,k3⟩::⟨42,r4,k4⟩::⟨47,r5,k5⟩::R⟩ res:=me 9 (fun K X=>by kernel_rfl) (fun K X=>by kernel_rfl) hn
theorem Kv(hn:bd old 373 ⟨[],[],R⟩ res):bd old 373 ⟨[],[],⟨47,r0,k0⟩::⟨42,r1,k1⟩::⟨42,r3,k3⟩::⟨42,r4,k4⟩::⟨47,r5,k5⟩::R⟩ res:=me 9 (fun K X=>by kernel_rfl) (fun K X=>by kernel_rfl) hn
theorem MF(hn:bd old 373 ⟨[],[],R⟩ res):bd old 373 ⟨[],[],⟨47,r0,k0⟩::⟨42,r1,k1⟩::⟨47,r3,k3⟩::⟨42,r4,k4⟩::⟨47,r5,k5⟩::R⟩ res:=me 9 (fun K X=>by kernel_rfl) (fun K X=>by kernel_rfl) hn
theorem NJ(hn:bd old 373 ⟨[],[],R⟩ res):bd old 373 ⟨[],[],⟨47,r0,k0⟩::⟨42,r1,k1⟩::⟨47,r3,k3⟩::⟨47,r4,k4⟩::⟨10,r5,k5⟩::⟨34,r6,k6⟩::⟨42,r7,k7⟩::⟨47,r8,k8⟩::R⟩ res:=me 9 (fun K X=>by kernel_rfl) (fun K X=>by kernel_rfl) hn
theorem Lf(hn:bd old 373 ⟨[],[],R⟩ res):bd old 373 ⟨[],[],⟨47,r0,k0⟩::⟨42,r1,k1⟩::⟨42,r3,k3⟩::⟨47,r4,k4⟩::R⟩ res:=me 9 (fun K X=>by kernel_rfl) (fun K X=>by kernel_rfl) hn
theorem OD(hn:bd false 373 ⟨[],[],⟨10,r4,k4⟩::R⟩ res):bd false 373 ⟨[],[],⟨47,r0,k0⟩::⟨47,r1,k1⟩::⟨120,r3,k3⟩::⟨10,r4,k4⟩::R⟩ res:=xo (p:=(⟨10,r4,k4⟩:Ch)=⟨10,r4,k4⟩) rfl 12 (fun K X=>by kernel_rfl) (fun K X=>by kernel_rfl) hn
theorem KX(hn:bd false 373 ⟨[],[],⟨10,r3,k3⟩::R⟩ res):bd false 373 ⟨[],[],⟨47,r0,k0⟩::⟨47,r1,k1⟩::⟨10,r3,k3⟩::R⟩ res:=xo (p:=(⟨10,r3,k3⟩:Ch)=⟨10,r3,k3⟩) rfl 12 (fun K X=>by kernel_rfl) (fun K X=>by kernel_rfl) hn
theorem Ot(hn:bd false 373 ⟨[],[],⟨10,r8,k8⟩::R⟩ res):bd false 373 ⟨[],[],⟨47,r0,k0⟩::⟨47,r1,k1⟩::⟨32,r3,k3⟩::⟨42,r4,k4⟩::⟨47,r5,k5⟩::⟨32,r6,k6⟩::⟨121,r7,k7⟩::⟨10,r8,k8⟩::R⟩ res:=xo (p:=(⟨10,r8,k8⟩:Ch)=⟨10,r8,k8⟩) rfl 12 (fun K X=>by kernel_rfl) (fun K X=>by kernel_rfl) hn
theorem J7(hn:bd false 373 ⟨[],[],[]⟩ res):bd false 373 ⟨[],[],⟨47,r0,k0⟩::⟨47,r1,k1⟩::⟨120,r3,k3⟩::[]⟩ res:=jB (c2:=[⟨47,r1,k1⟩,⟨47,r0,k0⟩]) (f2:=408) (by decide) (fun K X=>by kernel_rfl) (.step (by decide) (KH (N:=9) ((show ∀K X,LP false 408 1 9 (oJ ⟨120,r3,k3⟩) ⟨[],[⟨120,r3,k3⟩,⟨47,r1,k1⟩,⟨47,r0,k0⟩],[]⟩ K X=K (.meth 373) ⟨[],[],[]⟩ from fun K X=>by kernel_rfl) _ _ |>.mpr ⟨rfl,rfl⟩)) hn)
theorem B5:bd true 373 ⟨[],[],⟨47,r0,k0⟩::⟨47,r1,k1⟩::c::R⟩ (.err (some (c.r,c.k))):=H8 (st:=⟨[],[c,⟨47,r1,k1⟩,⟨47,r0,k0⟩],R⟩) (by decide) fun K X=>by kernel_rfl
theorem K4:bd old 373 ⟨[],[],⟨47,r0,k0⟩::⟨42,r1,k1⟩::⟨120,r3,k3⟩::[]⟩ (.err none):=jB (c2:=[⟨42,r1,k1⟩,⟨47,r0,k0⟩]) (f2:=415) (by decide) (fun K X=>by kernel_rfl) (.err (st':=⟨[],[⟨120,r3,k3⟩,⟨42,r1,k1⟩,⟨47,r0,k0⟩],[]⟩) (by decide) (GE (N:=9) ((show ∀K X,LP old 415 0 9 slf ⟨[],[⟨42,r1,k1⟩,⟨47,r0,k0⟩],⟨120,r3,k3⟩::[]⟩ K X=X none ⟨[],[⟨120,r3,k3⟩,⟨42,r1,k1⟩,⟨47,r0,k0⟩],[]⟩ from fun K X=>by kernel_rfl) _ _ |>.mpr ⟨rfl,rfl⟩)))
theorem LB:bd old 373 ⟨[],[],⟨47,r0,k0⟩::⟨42,r1,k1⟩::⟨32,r3,k3⟩::⟨42,r4,k4⟩::⟨10,r5,k5⟩::[]⟩ (.err none):=jB (c2:=[⟨42,r1,k1⟩,⟨47,r0,k0⟩]) (f2:=415) (by decide) (fun K X=>by kernel_rfl) (.err (st':=⟨[],[⟨10,r5,k5⟩,⟨42,r4,k4⟩,⟨32,r3,k3⟩,⟨42,r1,k1⟩,⟨47,r0,k0⟩],[]⟩) (by decide) (GE (N:=9) ((show ∀K X,LP old 415 0 9 slf ⟨[],[⟨42,r1,k1⟩,⟨47,r0,k0⟩],⟨32,r3,k3⟩::⟨42,r4,k4⟩::⟨10,r5,k5⟩::[]⟩ K X=X none ⟨[],[⟨10,r5,k5⟩,⟨42,r4,k4⟩,⟨32,r3,k3⟩,⟨42,r1,k1⟩,⟨47,r0,k0⟩],[]⟩ from fun K X=>by kernel_rfl) _ _ |>.mpr ⟨rfl,rfl⟩)))
theorem MT:bd old 373 ⟨[],[],⟨34,r0,k0⟩::⟨120,r1,k1⟩::[]⟩ (.err none):=jB (c2:=[⟨34,r0,k0⟩]) (f2:=422) (by decide) (fun K X=>by kernel_rfl) (.err (st':=⟨[],[⟨120,r1,k1⟩,⟨34,r0,k0⟩],[]⟩) (by decide) (MW (N:=9) ((show ∀K X,LP old 422 1 9 (oJ ⟨120,r1,k1⟩) ⟨[],[⟨120,r1,k1⟩,⟨34,r0,k0⟩],[]⟩ K X=X none ⟨[],[⟨120,r1,k1⟩,⟨34,r0,k0⟩],[]⟩ from fun K X=>by kernel_rfl) _ _ |>.mpr ⟨rfl,rfl⟩)))
end
end
section
noncomputable def lM(l:List aH):List Nat:=(l.map (·.2.1.cps.toList)).flatten
noncomputable def strm(p:Int×Nat) (l:List aH):List Ch:=bc none (d8 p (lM l))
theorem je(p:Int×Nat) (a:aH) (l:List aH):strm p (a::l)=bc none (d8 p a.2.1.cps.toList++d8 (cg p a.2.1.cps.toList) (lM l)):=by
 show bc none (d8 p (a.2.1.cps.toList++lM l))=_
 rw[nT]
theorem dS:∀(l X:List Ch),(∀c∈l,c.c≠92)->bc none (l++X)=l++bc none X:=by intro l0;induction l0 with
 |nil=>intro qq qq;exact rfl
 |cons c l ih =>
   intro X h;show(if c.c=92 then bc (some c) (l++X) else c::bc none (l++X))=c::(l++bc none X)
   rw[if_neg (h c (.head _)),ih X fun c hc=>h c (.tail _ hc)]
noncomputable def fy:List Str:=["/*x*/", "/*\n*/", "/***/", "\x0c", "/\\\n*/*\\\n/", "/*//\n\"*/", "/**/"]
noncomputable def dZ:List Str:=["//x", "//", "/\\\n/ */ \\\ny"]
noncomputable def Pi(l:List aH):Prop:=∀p,ei (strm p l)
noncomputable def ja(l:List aH):Prop:=∃a∈l,a.1 ≠ ""
theorem dM:∀(l:List Nat) (p:Int×Nat),9∉l->(d8 p l).map (·.c)=l:=by intro l0;induction l0 with
 |nil=>intro qq qq;exact rfl
 |cons c l ih =>
   intro p h;have ne:c≠9:=fun e=>h (by rw[e];exact .head _)
   show(kZ p c++d8 (dY p c) l).map (·.c)=_
   unfold kZ
   rw[if_neg ne,XM,ih _ fun m=>h (.tail _ m)]
   rfl
theorem f7{l:List Nat} (p:Int×Nat) (h:c≠9):d8 p (c::l)=⟨c,p.1,(p.2:Int)+1⟩::d8 (dY p c) l:=by
 show kZ p c++_=_
 unfold kZ
 rw[if_neg h];rfl
theorem jM(r:Int):∀(n v:Nat),(∀c∈fw r v n,c.c=32)/\(fw r v n).length=n:=by intro l0;induction l0 with
 |zero=>intro qq;exact⟨fun qq h=>(nomatch h),rfl⟩
 |succ n ih=>intro v;exact⟨fun c h=>by
     rcases Xb.mp h with rfl|h
     . rfl
     . exact(ih (v+1)).1 c h,congrArg (. +1) (ih (v+1)).2⟩
theorem uE:∀t∈cS,∀cut∈([0,1,2,3]:List Int),9∉t.2.cps.toList/\10∉t.2.cps.toList/\(t.2 ≠ "\\" -> 92∉t.2.cps.toList)/\t.2.cps.toList≠[] /\
   ((aF cut t.2).cps.toList=t.2.cps.toList\/(t.2.cps.toList.take cut.toNat≠[]/\(aF cut t.2).cps.toList=t.2.cps.toList.take cut.toNat++92::10::t.2.cps.toList.drop cut.toNat)):=by decide +kernel
theorem zu{t:Str×Str}{cut:Int}{r:List aH} (ht:t∈cS) (hc:cut∈([0,1,2,3]:List Int)) (hb:t.2 ≠ "\\") (p:Int×Nat) :
   ∃cs:Nat×List Ch,strm p ((t.1,aF cut t.2,t.2)::r)=⟨cs.1,p.1,(p.2:Int)+1⟩::cs.2++strm (cg p (aF cut t.2).cps.toList) r/\cs.1::cs.2.map (·.c)=t.2.cps.toList:=by
 obtain⟨h9,h10,h92,hne,hw⟩:=uE t ht cut hc
 have h92:=h92 hb
 rw[je]
 show ∃cs:Nat×List Ch,bc none (d8 p (aF cut t.2).cps.toList++d8 (cg p (aF cut t.2).cps.toList) (lM r))=_/\_
 have no92:∀{l:List Nat}{q:Int×Nat},(∀x∈l,x∈t.2.cps.toList)->∀c∈d8 q l,c.c≠92:=fun {l q} hl c hc e=>by
   have:=Xv (f:=(·.c)) hc
   rw[dM l q fun m=>h9 (hl _ m)] at this
   exact h92 (by rw[←e];exact hl _ this)
 rcases hw with hw|⟨ha,hw⟩
 . rw[hw]
   generalize t.2.cps.toList=l at *
   rw[dS _ _ (no92 fun qq h=>h)]
   rcases l with qq|⟨c,l⟩
   . exact(hne rfl).elim
   ·
     have ne:c≠9:=fun e=>h9 (by rw[e];exact .head _)
     refine⟨(c,d8 (dY p c) l),?_,?_⟩
     . rw[f7 p ne];rfl
     . show c::(d8 _ l).map (·.c)=_
       rw[dM l _ fun m=>h9 (.tail _ m)]
 . rw[hw]
   have hsub1:∀x∈t.2.cps.toList.take cut.toNat,x∈t.2.cps.toList:=fun x h=>List.mem_of_mem_take h
   have hsub2:∀x∈t.2.cps.toList.drop cut.toNat,x∈t.2.cps.toList:=fun x h=>List.mem_of_mem_drop h
   have hcat:=List.take_append_drop cut.toNat t.2.cps.toList
   generalize hA:t.2.cps.toList.take cut.toNat=a at *
   generalize hB:t.2.cps.toList.drop cut.toNat=b at *
   have e1:d8 p (a++92::10::b)=d8 p a++⟨92,(cg p a).1,((cg p a).2:Int)+1⟩::⟨10,(cg p a).1,(((cg p a).2+1:Nat):Int)+1⟩::d8 ((cg p a).1+1,0) b:=by
     rw[nT,f7 _ (by decide),f7 _ (by decide)]
     rfl
   rw[e1,Xo,dS _ _ (no92 hsub1)]
   show ∃cs:Nat×List Ch,d8 p a++bc none (⟨92,_,_⟩::⟨10,_,_⟩::(d8 _ b++_))=_/\_
   have e2:∀(c1 c2:Ch) X,c1.c=92->c2.c=10->bc none (c1::c2::X)=bc none X:=fun c1 c2 X g1 g2=>by
     show(if c1.c=92 then bc (some c1) (c2::X) else _)=_
     rw[if_pos g1]
     show(if c2.c=13\/c2.c=10 then bc none X else _)=_
     rw[if_pos (.inr g2)]
   rw[e2 _ _ _ rfl rfl,dS _ _ (no92 hsub2)]
   rcases a with qq|⟨c,l⟩
   . exact(ha rfl).elim
   ·
     have ne:c≠9:=fun e=>h9 (hsub1 9 (by rw[e];exact .head _))
     refine⟨(c,d8 (dY p c) l++d8 ((cg p (c::l)).1+1,0) b),?_,?_⟩
     . rw[f7 p ne]
       show _=⟨c,_,_⟩::((d8 _ l++d8 _ b)++strm _ r)
       rw[Xo,eE]
       rfl
     . show c::(d8 _ l++d8 _ b).map (·.c)=_
       rw[XM,dM l _ (fun m=>h9 (hsub1 9 (.tail _ m))),dM b _ (fun m=>h9 (hsub2 9 m)),←hcat]
       rfl
theorem hH{a:Nat}{as:List Nat}{l:List Ch} (h:l.map (·.c)=a::as):∃r k l',l=⟨a,r,k⟩::l'/\l'.map (·.c)=as:=by
 obtain⟨⟨c,r,k⟩,l',rfl,h1,h2⟩:=List.map_eq_cons_iff.mp h
 obtain rfl:=h1
 exact⟨r,k,l',rfl,h2⟩
theorem J6{l:List Ch} (h:l.map (·.c)=[]):l=[]:=List.map_eq_nil_iff.mp h
theorem HV{a:Nat}{l:List Ch} (h:l.map (·.c)=[a]):∃r k,l=[⟨a,r,k⟩]:=let⟨r,k,_,e,h⟩:=hH h;⟨r,k,by rw[e,J6 h]⟩
theorem Ik{a b:Nat}{l:List Ch} (h:l.map (·.c)=[a,b]):∃r k r1 k1,l=[⟨a,r,k⟩,⟨b,r1,k1⟩]:=let⟨r,k,_,e,h⟩:=hH h;let⟨r1,k1,e1⟩:=HV h;⟨r,k,r1,k1,by rw[e,e1]⟩
theorem LO{a b d:Nat}{l:List Ch} (h:l.map (·.c)=[a,b,d]):∃r k r1 k1 r2 k2,l=[⟨a,r,k⟩,⟨b,r1,k1⟩,⟨d,r2,k2⟩]:=let⟨r,k,_,e,h⟩:=hH h;let⟨r1,k1,r2,k2,e1⟩:=Ik h;⟨r,k,r1,k1,r2,k2,by rw[e,e1]⟩
theorem Jb{a b d f:Nat}{l:List Ch} (h:l.map (·.c)=[a,b,d,f]):∃r k r1 k1 r2 k2 r3 k3,l=[⟨a,r,k⟩,⟨b,r1,k1⟩,⟨d,r2,k2⟩,⟨f,r3,k3⟩]:=let⟨r,k,_,e,h⟩:=hH h;let⟨r1,k1,r2,k2,r3,k3,e1⟩:=LO h;⟨r,k,r1,k1,r2,k2,r3,k3,by rw[e,e1]⟩
theorem IK{old:Bool}{t:Str×Str} (ht:t∈cS) {r k:Int}{cs R:List Ch} (h:c::cs.map (·.c)=t.2.cps.toList) (hR:ei R) (hs:t.2 = "/" -> ∃r k R',R=⟨32,r,k⟩::R') :
   bd old 373 ⟨[],[],⟨c,r,k⟩::cs++R⟩ (.tok (.tok t.1 t.2 r k) 373 ⟨[],[],R⟩):=by
 simp only[cS,Xb,List.not_mem_nil,or_false] at ht
 rcases ht with rfl|rfl|rfl|rfl|rfl|rfl|rfl|rfl|rfl|rfl|rfl|rfl|rfl|rfl|rfl|rfl|rfl
 . obtain⟨rfl,g⟩:=X9 (h.trans (by decide +kernel:_=[97,98,99]))
   obtain⟨qq,qq,qq,qq,rfl⟩:=Ik g
   exact F4 hR
 . obtain⟨rfl,g⟩:=X9 (h.trans (by decide +kernel:_=[76,49,95]))
   obtain⟨qq,qq,qq,qq,rfl⟩:=Ik g
   exact M3 hR
 . obtain⟨rfl,g⟩:=X9 (h.trans (by decide +kernel:_=[49,50]))
   obtain⟨qq,qq,rfl⟩:=HV g
   exact N4 hR
 . obtain⟨rfl,g⟩:=X9 (h.trans (by decide +kernel:_=[48,120,49,70]))
   obtain⟨qq,qq,qq,qq,qq,qq,rfl⟩:=LO g
   exact JC hR
 . obtain⟨rfl,g⟩:=X9 (h.trans (by decide +kernel:_=[34,47,47,34]))
   obtain⟨qq,qq,qq,qq,qq,qq,rfl⟩:=LO g
   exact Kp
 . obtain⟨rfl,g⟩:=X9 (h.trans (by decide +kernel:_=[34,47,42,32,34]))
   obtain⟨qq,qq,qq,qq,qq,qq,qq,qq,rfl⟩:=Jb g
   exact KG
 . obtain⟨rfl,g⟩:=X9 (h.trans (by decide +kernel:_=[39,47,39]))
   obtain⟨qq,qq,qq,qq,rfl⟩:=Ik g
   exact L6
 . obtain⟨rfl,g⟩:=X9 (h.trans (by decide +kernel:_=[76,39,42,39]))
   obtain⟨qq,qq,qq,qq,qq,qq,rfl⟩:=LO g
   exact Ls
 . obtain⟨rfl,g⟩:=X9 (h.trans (by decide +kernel:_=[43,43]))
   obtain⟨qq,qq,rfl⟩:=HV g
   exact Ni
 . obtain⟨rfl,g⟩:=X9 (h.trans (by decide +kernel:_=[45,62]))
   obtain⟨qq,qq,rfl⟩:=HV g
   exact Ma
 . obtain⟨rfl,g⟩:=X9 (h.trans (by decide +kernel:_=[62,62,61]))
   obtain⟨qq,qq,qq,qq,rfl⟩:=Ik g
   exact Mk
 . obtain⟨rfl,g⟩:=X9 (h.trans (by decide +kernel:_=[46,46,46]))
   obtain⟨qq,qq,qq,qq,rfl⟩:=Ik g
   exact Kc
 . obtain⟨rfl,g⟩:=X9 (h.trans (by decide +kernel:_=[35,35]))
   obtain⟨qq,qq,rfl⟩:=HV g
   exact OB
 . obtain⟨rfl,g⟩:=X9 (h.trans (by decide +kernel:_=[47]))
   obtain rfl:=J6 g
   obtain⟨qq,qq,qq,rfl⟩:=hs rfl
   exact JU
 . obtain⟨rfl,g⟩:=X9 (h.trans (by decide +kernel:_=[47,61]))
   obtain⟨qq,qq,rfl⟩:=HV g
   exact N7
 . obtain⟨rfl,g⟩:=X9 (h.trans (by decide +kernel:_=[42]))
   obtain rfl:=J6 g
   exact Fa hR
 . obtain⟨rfl,g⟩:=X9 (h.trans (by decide +kernel:_=[92]))
   obtain rfl:=J6 g
   exact Ed
end
section
section
variable {old first:Bool}{sp:Str}{tk:V}{f':W3}{st st':LS}{bs R R':List Ch}{due out:List bL}{fin r k:Int}{v:Str}
theorem BU(H:∀res,bd old f' st' res->bd old f st res) (h:dR old sp first tk f' st' res):dR old sp first tk f st res:=by
 cases h with
 |bol1 hn=>exact .bol1 (H _ hn)
 |bol0 hn h=>exact .bol0 (H _ hn) h
 |ws hn hl h=>exact .ws (H _ hn) hl h
 |oth hn a b=>exact .oth (H _ hn) a b
 |end1 hn=>exact .end1 (H _ hn)
 |end0 hn a b=>exact .end0 (H _ hn) a b
 |err hn=>exact .err (H _ hn)
theorem Hr:(" \t" : Str).cps.toList=[32,9]:=by decide +kernel
noncomputable def jn(R:List Ch):Prop:=∀c R',R=c::R'->c.c≠32/\c.c≠9
theorem Bb:∀(bs c:List Ch),(∀x∈bs,x.c=32)->jn R->fY " \t" c (bs++R)=(bs.reverse++c,R):=by intro l0;induction l0 with
 |nil =>
   intro c qq hR;rcases R with qq|⟨x,R⟩
   . rfl
   ·
     show(match ck x.c " \t" with|true=>fY " \t" (x::c) R|false=>(c,x::R))=_
     have:ck x.c " \t" = false:=by
       unfold ck
       rw[Hr]
       have:=hR x R rfl
       simp[this.1,this.2]
     rw[this];rfl
 |cons x bs ih =>
   intro c h hR;show(match ck x.c " \t" with|true=>fY " \t" (x::c) (bs++R)|false=>(c,x::(bs++R)))=_
   have:ck x.c " \t" = true:=by rw[h x (.head _)];decide +kernel
   rw[this]
   show fY " \t" (x::c) (bs++R)=_
   rw[ih (x::c) (fun y hy=>h y (.tail _ hy)) hR]
   simp
theorem HI{c l:List Ch}{K:V->LS->Prop}{X:bE->LS->Prop}:dh old 401 ⟨[],c,l⟩ K X=pn ⟨[],(fY " \t" c l).1,(fY " \t" c l).2⟩ "WS" (fun qq st=>K (.meth 373) st):=by kernel_rfl
theorem JY{r k:Int}{l:List Ch}{K:V->LS->Prop}{X:bE->LS->Prop}:dh old 373 ⟨[],[],⟨32,r,k⟩::l⟩ K X=K (.meth 401) ⟨[],[⟨32,r,k⟩],l⟩:=by kernel_rfl
theorem L5{b:Ch} (h:∀x∈b::bs,x.c=32) (hR:jn R):bd old 373 ⟨[],[],b::bs++R⟩ (.tok (.tok "WS" (iQ (b::bs)) b.r b.k) 373 ⟨[],[],R⟩):=by
 obtain⟨c,r,k⟩:=b
 obtain rfl:c=32:=h ⟨c,r,k⟩ (.head _)
 refine .step (by decide) (JY.mpr ⟨rfl,rfl⟩) (.step (by decide) ?_ .tok)
 rw[HI]
 show pn ⟨[],(fY " \t" [⟨32,r,k⟩] (bs++R)).1,(fY " \t" [⟨32,r,k⟩] (bs++R)).2⟩ "WS" _
 rw[Bb bs _ (fun x hx=>h x (.tail _ hx)) hR]
 unfold pn
 simp only[List.reverse_append,List.reverse_reverse,List.reverse_cons,List.reverse_nil,List.nil_append,List.singleton_append]
 exact⟨trivial,trivial⟩
theorem mX(x:Str):aQ x (iQ [])=x:=by
 unfold aQ iQ
 simp
theorem oj(x y:Str):ar (aQ x y)=ar x+ar y:=by unfold ar aQ;simp
noncomputable def BN(tk:V):List Ch->V
 |[]=>tk
 |b::bs=> .tok "WS" (iQ (b::bs)) b.r b.k
noncomputable def qg(old:Bool) (sp:Str) (first:Bool) (tk:V) (R:List Ch) (due:List bL) (fin:Int) (out:List bL):Prop :=
 ∃res rows p b,dR old sp first tk 373 ⟨[],[],R⟩ res/\gh old res rows p b/\due++rows++[gD p fin b]=out
theorem wu(H:∀res,bd old 373 ⟨[],[],R'⟩ res->bd old 373 ⟨[],[],R⟩ res) (h:qg old sp first tk R' due fin out):qg old sp first tk R due fin out:=by
 obtain⟨res,rows,p,b,h1,h2,h3⟩:=h
 exact⟨res,rows,p,b,BU H h1,h2,h3⟩
theorem uN(hb:∀x∈bs,x.c=32) (hR:jn R) (hl:ar (aQ sp (iQ bs))<=100000) (h:qg old (aQ sp (iQ bs)) first (BN tk bs) R due fin out):qg old sp first tk (bs++R) due fin out:=by
 rcases bs with qq|⟨b,bs⟩
 . rw[mX] at h;exact h
 ·
   obtain⟨res,rows,p,b',h1,h2,h3⟩:=h
   rw[oj] at hl
   exact⟨res,rows,p,b',.ws (L5 hb hR) hl h1,h2,h3⟩
theorem tj(a:List bL) (x:bL) (b c:List bL):a++(x::b)++c=a++[x]++b++c:=congrArg (. ++c) (List.append_cons a x b)
theorem Bt(hn:bd old 373 ⟨[],[],R⟩ (.tok (.tok ty v r k) 373 ⟨[],[],R'⟩)) (h1:bU ty "BOL" = false) (h2:bU ty "WS" = false) (h:qg old "" false (.tok ty v r k) R' (due++[⟨ty,v,sp,first,r,k⟩]) fin out):qg old sp first tk R due fin out:=by
 obtain⟨res,rows,p,b,g1,g2,g3⟩:=h
 exact⟨_,⟨ty,v,sp,first,r,k⟩::rows,p,b,.oth hn h1 h2,.tok (.oth g1) g2,(tj due _ rows _).trans g3⟩
theorem Fs(hn:bd old 373 ⟨[],[],R⟩ (.tok (.tok "BOL" v r k) 373 ⟨[],[],R'⟩)) (h:qg old "" true (.tok "BOL" v r k) R' (gz first (due++[⟨"BOL", "", "",true,r,k⟩]) due) fin out):qg old sp first tk R due fin out:=by
 obtain⟨res,rows,p,b,g1,g2,g3⟩:=h
 rcases first with qq|qq
 . exact⟨res,rows,p,b,.bol0 hn g1,g2,g3⟩
 . exact⟨_,⟨"BOL", "", "",true,r,k⟩::rows,p,b,.bol1 hn,.tok (.bol g1) g2,(tj due _ rows _).trans g3⟩
theorem AR(hn:bd old 373 ⟨[],[],R⟩ (.err p)) (h:due++[jc p]=out):qg old sp first tk R due fin out:=⟨_,[],p,false,.err hn,.err,by rw[←h];simp[gD]⟩
theorem BK(ht:tk= .none/\first=false\/∃ty v,tk= .tok ty v r k) (h:gz first (due++[⟨"BOL", "", "",true,r,k⟩]) due++[⟨"end", "", "",false,fin,0⟩]=out):qg old sp first tk [] due fin out:=by
 rcases first with qq|qq
 . exact⟨_,[],none,true,.end0 .fin (.inl rfl) (ht.elim (fun h=> .inl h.1) fun⟨ty,v,h⟩=> .inr ⟨ty,v,r,k,h⟩),.fin,(congrArg (. ++[(⟨"end", "", "",false,fin,0⟩:bL)]) (XY due)).trans h⟩
 ·
   obtain⟨qq,h0⟩|⟨ty,v,rfl⟩:=ht
   . cases h0
   . exact⟨_,[⟨"BOL", "", "",true,r,k⟩],none,true,.end1 .fin,.tok .done .fin,h⟩
end
noncomputable def bh(d:DS):Int×Nat:=cg (1,0) d.done.cps.toList
theorem jh(d:DS):aJ d.done=((bh d).1,((bh d).2:Int)+1):=gH _
theorem nF(x y:Str):(aQ x y).cps.toList=x.cps.toList++y.cps.toList:=by unfold aQ;simp
theorem AM{d d':DS}{a:aH} (h:d'.done=d.done):bh (iR d' a)=cg (bh d) a.2.1.cps.toList:=by
 unfold bh iR
 show cg (1,0) (aQ d'.done a.2.1).cps.toList=_
 rw[nF,eE,h]
theorem BJ{old:Bool}{d d':DS}{a:aH}{l:List aH} (e:aZ old d a=d') (h:d'.refused=false):gL old d (a::l)=gL old (iR d' a) l:=by
 subst e
 exact congrArg (fun b=>gz b (aZ old d a) (gL old (iR (aZ old d a) a) l)) h
theorem u7{old:Bool}{d d':DS}{a:aH}{l:List aH} (e:aZ old d a=d') (h:d'.refused=true):gL old d (a::l)=d':=by
 subst e
 exact congrArg (fun b=>gz b (aZ old d a) (gL old (iR (aZ old d a) a) l)) h
structure Sx(d:DS) (sp:Str) (bs:List Ch) (tk:V):Prop where
 ref:d.refused=false
 space:d.space=aQ sp (iQ bs)
 blank:∀c∈bs,c.c=32
 run:d.run=!bs.isEmpty
 last:BN tk bs= .none\/∃ty v,BN tk bs= .tok ty v d.last.1 d.last.2
 l1:∀b bs',bs=b::bs'->d.last=(b.r,b.k)
structure Bd(d:DS) (n:Nat):Prop where
 done:ar d.done+20*n<=40000
 space:ar d.space+8*n<=40000
 due:d.due.length+n<=40000
theorem zm{d:DS}{sp:Str}{bs:List Ch}{tk:V} (h:Sx d sp bs tk) {d':DS} (h1:d'.refused=false) (h2:d'.space=d.space) (h3:d'.run=false) (h4:d'.last=d.last):Sx d' d.space [] (BN tk bs) :=
 ⟨h1,by rw[h2,mX],fun qq h=>(nomatch h),h3,by rw[h4];exact h.last,fun qq qq e=>(nomatch e)⟩
end
section
theorem cR{x y:α} (h:b=false):gz b x y=y:=by subst h;rfl
theorem mf{x y:α} (h:b=true):gz b x y=x:=by subst h;rfl
theorem FL:∀w∈fy,bU w "\n" = false/\cj w=false/\bw.any (. == bx w)=false/\kj w=false/\(!bU (bx w) "")=true:=by decide +kernel
theorem w1:∀w∈dZ,bU w "\n" = false/\cj w=false/\bw.any (. == bx w)=false/\kj w=true/\(!bU (bx w) "")=true:=by decide +kernel
theorem RA:∀w∈bw,bU w "\n" = false/\cj w=false/\bw.any (. == bx w)=true:=by decide +kernel
theorem s6:(!bU "" "")=false:=by decide +kernel
theorem un{old:Bool}{d:DS}{w:Str} (hw:w∈fy):aZ old d (bg w)=Am d :=
 have h:=FL w hw
 (cR s6).trans ((cR h.1).trans ((cR h.2.1).trans ((cR h.2.2.1).trans ((cR (congrArg (. &&old) h.2.2.2.1)).trans (mf h.2.2.2.2)))))
theorem vV{old:Bool}{d:DS}:aZ old d (bg "\\\n")=d:=by kernel_rfl
theorem lW{d:DS}{w:Str} (hw:w∈dZ):aZ false d (bg w)=Am d :=
 have h:=w1 w hw
 (cR s6).trans ((cR h.1).trans ((cR h.2.1).trans ((cR h.2.2.1).trans ((cR (congrArg (. &&false) h.2.2.2.1)).trans (mf h.2.2.2.2)))))
theorem lu{d:DS}{w:Str} (hw:w∈dZ):aZ true d (bg w)=ER d (bg w) :=
 have h:=w1 w hw
 (cR s6).trans ((cR h.1).trans ((cR h.2.1).trans ((cR h.2.2.1).trans (mf (congrArg (. &&true) h.2.2.2.1)))))
theorem Dk{old:Bool}{d:DS}{w:Str} (hw:w∈bw):aZ old d (bg w)=KT d :=
 have h:=RA w hw
 (cR s6).trans ((cR h.1).trans ((cR h.2.1).trans (mf h.2.2)))
theorem BB{old:Bool}{d:DS}:aZ old d (bg "\n")=Of d:=by kernel_rfl
theorem qW{old:Bool}{d:DS}{w:Str} (hw:w = " " \/ w = "\t"):aZ old d (bg w)=Je d (bg w):=by
 rcases hw with rfl|rfl
 all_goals kernel_rfl
theorem zN{old:Bool}{d:DS}{a:aH} (h:bU a.1 "" = false):aZ old d a=Pb d a:=mf (congrArg (!·) h)
theorem fW{r k:Int}{R:List Ch} (h:c≠32/\c≠9):jn (⟨c,r,k⟩::R):=fun qq qq e=>by cases e;exact h
theorem yN:jn []:=fun qq qq e=>nomatch e
theorem bD{w:Str}{r:List aH}{l:List Nat} (e:w.cps.toList=c::l) (h9:9∉c::l) (h92:92∉c::l) (p:Int×Nat):∃cs:List Ch,strm p (bg w::r)=⟨c,p.1,(p.2:Int)+1⟩::cs++strm (cg p w.cps.toList) r/\cs.map (·.c)=l:=by
 rw[je]
 show ∃cs:List Ch,bc none (d8 p w.cps.toList++d8 (cg p w.cps.toList) (lM r))=_/\_
 have ne:c≠9:=fun e=>h9 (by rw[e];exact .head _)
 rw[e,dS _ _ fun x hx q=>by
   have:=Xv (f:=(·.c)) hx
   rw[dM _ p h9] at this
   exact h92 (by rw[←q];exact this)]
 refine⟨d8 (dY p c) l,?_,dM l _ fun m=>h9 (.tail _ m)⟩
 rw[f7 p ne]
 rfl
theorem hF{w:Str} (hw:w = " " \/ w = "\t") (p:Int×Nat):∃n,1<=n/\n<=8/\(∀r,strm p (bg w::r)=fw p.1 p.2 n++strm (cg p w.cps.toList) r)/\cg p w.cps.toList=(p.1,p.2+n):=by
 have key:∀(n:Nat) (X:List Ch),bc none (fw p.1 p.2 n++X)=fw p.1 p.2 n++bc none X:=fun n X=>dS _ _ fun c hc=>by rw[(jM p.1 n p.2).1 c hc];decide
 rcases hw with rfl|rfl
 . exact⟨1,Xl _,by decide,fun r=>key 1 _,rfl⟩
 . have e:("\t" : Str).cps.toList=[9]:=by decide +kernel
   refine⟨8 - p.2 % 8,Nat.le_sub_of_add_le (Nat.add_comm 1 _▸Nat.mod_lt _ (by decide:8 > 0)),Nat.sub_le _ _,fun r=>?_,by rw[e];rfl⟩
   rw[je]
   show bc none (d8 p ("\t" : Str).cps.toList++d8 (cg p ("\t" : Str).cps.toList) (lM r))=_
   rw[e]
   show bc none ((fw p.1 p.2 (8 - p.2 % 8)++[])++_)=_
   rw[XY,key]
   rfl
theorem iO(p:Int×Nat) (r:List aH):strm p (bg "\n" :: r)=⟨10,p.1,(p.2:Int)+1⟩::strm (cg p ("\n" : Str).cps.toList) r:=by kernel_rfl
theorem mP(p:Int×Nat) (r:List aH):strm p (bg "\\\n" :: r)=strm (cg p ("\\\n" : Str).cps.toList) r:=by kernel_rfl
theorem Tq{a b d f g j:Nat}{l:List Ch} (h:l.map (·.c)=[a,b,d,f,g,i,j]):∃r k r1 k1 r2 k2 r3 k3 r4 k4 r5 k5 r6 k6,l=[⟨a,r,k⟩,⟨b,r1,k1⟩,⟨d,r2,k2⟩,⟨f,r3,k3⟩,⟨g,r4,k4⟩,⟨i,r5,k5⟩,⟨j,r6,k6⟩]:=let⟨r,k,_,e,h⟩:=hH h;let⟨r1,k1,_,e1,h⟩:=hH h;let⟨r2,k2,_,e2,h⟩:=hH h;let⟨r3,k3,r4,k4,r5,k5,r6,k6,e3⟩:=Jb h;⟨r,k,r1,k1,r2,k2,r3,k3,r4,k4,r5,k5,r6,k6,by rw[e,e1,e2,e3]⟩
theorem lZ{old:Bool}{w:Str} (hw:w∈fy) (p:Int×Nat) (r:List aH):jn (strm p (bg w::r))/\ei (strm p (bg w::r))/\∀res,bd old 373 ⟨[],[],strm (cg p w.cps.toList) r⟩ res->bd old 373 ⟨[],[],strm p (bg w::r)⟩ res:=by
 have hd:∀{c:Nat}{k k2:Int}{R:List Ch},(c=32\/c=10\/c=47\/c=12\/c=34)->ei (⟨c,k,k2⟩::R):=fun h=> .inr ⟨_,_,_,_,rfl,h⟩
 simp only[fy,Xb,List.not_mem_nil,or_false] at hw
 rcases hw with rfl|rfl|rfl|rfl|rfl|rfl|rfl
 . obtain⟨cs,e,h⟩:=bD (r:=r) (by decide +kernel:("/*x*/" : Str).cps.toList=[47,42,120,42,47]) (by decide) (by decide) p
   obtain⟨qq,qq,qq,qq,qq,qq,qq,qq,rfl⟩:=Jb h
   rw[e];exact⟨fW (by decide),hd (by decide),fun qq hn=>Ok hn⟩
 . obtain⟨cs,e,h⟩:=bD (r:=r) (by decide +kernel:("/*\n*/" : Str).cps.toList=[47,42,10,42,47]) (by decide) (by decide) p
   obtain⟨qq,qq,qq,qq,qq,qq,qq,qq,rfl⟩:=Jb h
   rw[e];exact⟨fW (by decide),hd (by decide),fun qq hn=>Mb hn⟩
 . obtain⟨cs,e,h⟩:=bD (r:=r) (by decide +kernel:("/***/" : Str).cps.toList=[47,42,42,42,47]) (by decide) (by decide) p
   obtain⟨qq,qq,qq,qq,qq,qq,qq,qq,rfl⟩:=Jb h
   rw[e];exact⟨fW (by decide),hd (by decide),fun qq hn=>Kv hn⟩
 . obtain⟨cs,e,h⟩:=bD (r:=r) (by decide +kernel:("\x0c" : Str).cps.toList=[12]) (by decide) (by decide) p
   obtain rfl:=J6 h
   rw[e];exact⟨fW (by decide),hd (by decide),fun qq hn=>NV hn⟩
 . have e:strm p (bg "/\\\n*/*\\\n/" :: r)=⟨47,p.1,(p.2:Int)+1⟩::⟨42,p.1+1,1⟩::⟨47,p.1+1,2⟩::⟨42,p.1+1,3⟩::⟨47,p.1+1+1,1⟩::strm (cg p ("/\\\n*/*\\\n/" : Str).cps.toList) r:=by kernel_rfl
   rw[e];exact⟨fW (by decide),hd (by decide),fun qq hn=>MF hn⟩
 . obtain⟨cs,e,h⟩:=bD (r:=r) (by decide +kernel:("/*//\n\"*/" : Str).cps.toList=[47,42,47,47,10,34,42,47]) (by decide) (by decide) p
   obtain⟨qq,qq,qq,qq,qq,qq,qq,qq,qq,qq,qq,qq,qq,qq,rfl⟩:=Tq h
   rw[e];exact⟨fW (by decide),hd (by decide),fun qq hn=>NJ hn⟩
 . obtain⟨cs,e,h⟩:=bD (r:=r) (by decide +kernel:("/**/" : Str).cps.toList=[47,42,42,47]) (by decide) (by decide) p
   obtain⟨qq,qq,qq,qq,qq,qq,rfl⟩:=LO h
   rw[e];exact⟨fW (by decide),hd (by decide),fun qq hn=>Lf hn⟩
theorem mH{w:Str} (hw:w∈dZ) (p:Int×Nat) (r:List aH):jn (strm p (bg w::bg "\n" :: r))/\ei (strm p (bg w::bg "\n" :: r))/\(∀res,bd false 373 ⟨[],[],strm (cg p w.cps.toList) (bg "\n" :: r)⟩ res->bd false 373 ⟨[],[],strm p (bg w::bg "\n" :: r)⟩ res) /\
   bd true 373 ⟨[],[],strm p (bg w::bg "\n" :: r)⟩ (.err (some ((cg p (bG w).cps.toList).1,((cg p (bG w).cps.toList).2:Int)+1))):=by
 have hd:∀{k k2:Int}{R:List Ch},ei (⟨47,k,k2⟩::R):= .inr ⟨_,_,_,_,rfl,by decide⟩
 simp only[dZ,Xb,List.not_mem_nil,or_false] at hw
 rcases hw with rfl|rfl|rfl
 . have e:strm p (bg "//x" :: bg "\n" :: r)=⟨47,p.1,(p.2:Int)+1⟩::⟨47,p.1,((p.2+1:Nat):Int)+1⟩::⟨120,p.1,((p.2+1+1:Nat):Int)+1⟩::strm (cg p ("//x" : Str).cps.toList) (bg "\n" :: r):=by kernel_rfl
   have e2:bG "//x" = "//" := by decide +kernel
   rw[e,e2]
   refine⟨fW (by decide),hd,fun qq hn=>?_,B5⟩
   rw[iO] at hn ⊢
   exact OD hn
 . have e:strm p (bg "//" :: bg "\n" :: r)=⟨47,p.1,(p.2:Int)+1⟩::⟨47,p.1,((p.2+1:Nat):Int)+1⟩::strm (cg p ("//" : Str).cps.toList) (bg "\n" :: r):=by kernel_rfl
   have e2:bG "//" = "//" := by decide +kernel
   rw[e,e2]
   rw[iO]
   exact⟨fW (by decide),hd,fun qq hn=>KX hn,B5⟩
 . have e:strm p (bg "/\\\n/ */ \\\ny" :: bg "\n" :: r)=⟨47,p.1,(p.2:Int)+1⟩::⟨47,p.1+1,1⟩::⟨32,p.1+1,2⟩::⟨42,p.1+1,3⟩::⟨47,p.1+1,4⟩::⟨32,p.1+1,5⟩::⟨121,p.1+1+1,1⟩::strm (cg p ("/\\\n/ */ \\\ny" : Str).cps.toList) (bg "\n" :: r):=by kernel_rfl
   have e2:bG "/\\\n/ */ \\\ny" = "/\\\n/" := by decide +kernel
   rw[e,e2]
   refine⟨fW (by decide),hd,fun qq hn=>?_,B5⟩
   rw[iO] at hn ⊢
   exact Ot hn
theorem gA(p:Int×Nat):strm p [bg "//x"]=⟨47,p.1,(p.2:Int)+1⟩::⟨47,p.1,((p.2+1:Nat):Int)+1⟩::[⟨120,p.1,((p.2+1+1:Nat):Int)+1⟩]:=by kernel_rfl
theorem tm{old:Bool}{w:Str} (hw:w∈bw) (p:Int×Nat):jn (strm p [bg w])/\ei (strm p [bg w])/\bd old 373 ⟨[],[],strm p [bg w]⟩ (.err none):=by
 have hd:∀{c:Nat}{k k2:Int}{R:List Ch},(c=32\/c=10\/c=47\/c=12\/c=34)->ei (⟨c,k,k2⟩::R):=fun h=> .inr ⟨_,_,_,_,rfl,h⟩
 have nil:strm (cg p w.cps.toList) []=[]:=rfl
 simp only[bw,Xb,List.not_mem_nil,or_false] at hw
 rcases hw with rfl|rfl|rfl
 . obtain⟨cs,e,h⟩:=bD (r:=[]) (by decide +kernel:("/*x" : Str).cps.toList=[47,42,120]) (by decide) (by decide) p
   obtain⟨qq,qq,qq,qq,rfl⟩:=Ik h
   rw[e,nil];exact⟨fW (by decide),hd (by decide),K4⟩
 . obtain⟨cs,e,h⟩:=bD (r:=[]) (by decide +kernel:("\"x" : Str).cps.toList=[34,120]) (by decide) (by decide) p
   obtain⟨qq,qq,rfl⟩:=HV h
   rw[e,nil];exact⟨fW (by decide),hd (by decide),MT⟩
 . obtain⟨cs,e,h⟩:=bD (r:=[]) (by decide +kernel:("/* *\n" : Str).cps.toList=[47,42,32,42,10]) (by decide) (by decide) p
   obtain⟨qq,qq,qq,qq,qq,qq,qq,qq,rfl⟩:=Jb h
   rw[e,nil];exact⟨fW (by decide),hd (by decide),LB⟩
end
section
theorem nu:∀t∈cS,bU t.1 "" = false/\bU t.1 "BOL" = false/\bU t.1 "WS" = false/\t.1 ≠ "" /\ t.2.cps.toList.head?≠some 32/\t.2.cps.toList.head?≠some 9:=by decide +kernel
theorem uT:∀t∈cS,∀cut∈([0,1,2,3]:List Int),ar (aF cut t.2)<=20/\ar (bx (aF cut t.2))<=1000/\cj (aF cut t.2)=false/\13∉(aF cut t.2).cps.toList:=by decide +kernel
noncomputable def kA:List Str:=fy++dZ++bw++(["\n", "\\\n"]:List Str)
theorem xX:∀w∈kA,ar w<=20/\ar (bx w)<=1000/\cj w=false/\13∉w.cps.toList:=by decide +kernel
theorem yC:∀w∈([" ", "\t"]:List Str),ar w<=20/\ar (bx w)<=1000/\13∉w.cps.toList:=by decide +kernel
theorem Ad:∀n<9,Txt.mul " " ((n:Nat):Int)=⟨(List.replicate n 32).toArray⟩:=by decide +kernel
theorem zF{old:Bool}{t:Str×Str}{cut:Int}{r:List aH} (ht:t∈cS) (hc:cut∈([0,1,2,3]:List Int)) (hd:Pi r) (hx:t.2 = "/" \/ t.2 = "\\" -> ∃r',r=bg " " :: r') (p:Int×Nat) :
   jn (strm p ((t.1,aF cut t.2,t.2)::r))/\bd old 373 ⟨[],[],strm p ((t.1,aF cut t.2,t.2)::r)⟩ (.tok (.tok t.1 t.2 p.1 ((p.2:Int)+1)) 373 ⟨[],[],strm (cg p (aF cut t.2).cps.toList) r⟩):=by
 by_cases hb:t.2 = "\\"
 . obtain⟨r',rfl⟩:=hx (.inr hb)
   have e1:t.1 = "\\" /\ aF cut t.2 = "\\" := (by decide +kernel:∀t∈cS,∀cut∈([0,1,2,3]:List Int),t.2 = "\\" -> t.1 = "\\" /\ aF cut t.2 = "\\") t ht cut hc hb
   rw[e1.1,e1.2,hb]
   have e:strm p (("\\", "\\", "\\")::bg " " :: r')=⟨92,p.1,(p.2:Int)+1⟩::strm (cg p ("\\" : Str).cps.toList) (bg " " :: r'):=by kernel_rfl
   rw[e]
   exact⟨fW (by decide),Ed⟩
 . obtain⟨⟨c,cs⟩,e,hcs⟩:=zu (r:=r) ht hc hb p
   rw[e]
   have hty:=nu t ht
   rw[←hcs] at hty
   refine⟨fW ⟨fun q=>hty.2.2.2.2.1 (by rw[←q];rfl),fun q=>hty.2.2.2.2.2 (by rw[←q];rfl)⟩,IK ht hcs (hd _) fun q=>?_⟩
   obtain⟨r',rfl⟩:=hx (.inl q)
   obtain⟨n,h1,h2,h3,h4⟩:=hF (.inl rfl) (cg p (aF cut t.2).cps.toList)
   rw[h3 r']
   rcases n with qq|m
   . exact absurd h1 (by decide)
   exact⟨_,_,_,rfl⟩
theorem Bj{d:DS}{w:Str} (h:cg (bh d) w.cps.toList=((bh d).1,(bh d).2+n)):wide d.done w=(n:Int):=by
 unfold wide
 rw[gH,gH,nF,eE]
 show(((cg (bh d) w.cps.toList).2:Int)+1) - (((bh d).2:Int)+1)=n
 rw[h]
 exact(congrArg (. - (((bh d).2:Int)+1)) (Int.add_right_comm ((bh d).2:Int) n 1)).trans (by rw[Int.add_comm];exact Int.add_sub_cancel _ _)
theorem ko{d:DS}{w:Str} (hw:w = " " \/ w = "\t"):∃n,1<=n/\n<=8/\(∀r,strm (bh d) (bg w::r)=fw (bh d).1 (bh d).2 n++strm (cg (bh d) w.cps.toList) r)/\wide d.done w=(n:Int):=by
 obtain⟨n,h1,h2,h3,h4⟩:=hF hw (bh d)
 exact⟨n,h1,h2,h3,Bj h4⟩
theorem yg(h:n<=8):ar (Txt.mul " " (n:Int))=n:=by
 rw[Ad n (Nat.lt_succ_of_le h)]
 unfold ar
 simp
theorem eM{P:α->Prop}{x y:α} (h1:b=true->P x) (h2:P y):P (gz b x y):=by cases b;exact h2;exact h1 rfl
noncomputable def qO(d d':DS):Prop:=ar d'.space<=ar d.space+8/\d'.due.length<=d.due.length+1/\d'.done=d.done
theorem iN{l:List α}{x:α}:(l++[x]).length<=l.length+1:=W9 Xg
theorem tM:ar "" <= n:=WZ (W9 (by decide +kernel)) (Nat.zero_le n)
theorem mt{old:Bool}{d:DS}{a:aH} (h:cj a.2.1=true->∃n:Nat,n<=8/\wide d.done a.2.1=(n:Int)):qO d (aZ old d a) :=
 have h0:ar d.space<=ar d.space+8:=XL _ _
 have h1:d.due.length<=d.due.length+1:=Nat.le_succ _
 eM (P:=qO d) (fun qq=>⟨tM,iN,rfl⟩) (eM (P:=qO d) (fun qq=>⟨tM,eM (P:=fun l:List bL=>l.length<=d.due.length+1) (fun qq=>iN) h1,rfl⟩)
   (eM (P:=qO d) (fun hb=>by
       obtain⟨n,hn,hw⟩:=h hb
       refine⟨?_,h1,rfl⟩
       show ar (aQ d.space (Txt.mul " " (wide d.done a.2.1)))<=_
       rw[oj,hw,yg hn]
       exact XB hn _)
     (eM (P:=qO d) (fun qq=>⟨h0,iN,rfl⟩) (eM (P:=qO d) (fun qq=>⟨h0,iN,rfl⟩) (eM (P:=qO d) (fun qq=>⟨h0,h1,rfl⟩) ⟨h0,h1,rfl⟩)))))
theorem gr{x y N:Nat} (g:y<=x+c) (b:x+c*(n+1)<=N):y+c*n<=N :=
 WZ (WZ (XG g _) (W9 ((Nat.add_right_comm x c _).trans (Nat.add_assoc x (c*n) c)))) b
theorem TY{x y N:Nat} (g:y<=x+1) (b:x+(n+1)<=N):y+n<=N :=
 WZ (WZ (XG g _) (W9 (Nat.add_right_comm x 1 _))) b
theorem sY{old:Bool}{d:DS}{a:aH} (hB:Bd d (n+1)) (h1:ar a.2.1<=20) (h:cj a.2.1=true->∃n:Nat,n<=8/\wide d.done a.2.1=(n:Int)):Bd (iR (aZ old d a) a) n:=by
 obtain⟨g1,g2,g3⟩:=mt (old:=old) (d:=d) h
 obtain⟨b1,b2,b3⟩:=hB
 exact⟨gr (WZ (W9 ((oj _ _).trans (congrArg (fun x=>ar x+ar a.2.1) g3))) (XB h1 _)) b1,gr g1 b2,TY g2 b3⟩
noncomputable def cf(a:aH):Prop:=ar a.2.1<=20/\ar (bx a.2.1)<=1000/\(cj a.2.1=true->a.2.1 = " " \/ a.2.1 = "\t")/\13∉a.2.1.cps.toList
theorem cC{w:Str} (h:w∈kA):cf (bg w):=by
 obtain⟨h1,h2,h3,h4⟩:=xX w h
 exact⟨h1,h2,fun q=>(by rw[show cj (bg w).2.1=cj w from rfl,h3] at q;cases q),h4⟩
theorem gq{d:DS}{a:aH} (h:cf a) (hb:cj a.2.1=true):∃n:Nat,n<=8/\wide d.done a.2.1=(n:Int):=by
 obtain⟨n,qq,h2,qq,h4⟩:=ko (d:=d) (h.2.2.1 hb)
 exact⟨n,h2,h4⟩
theorem I2{old:Bool}:∀(l:List aH),(∀a∈l,cf a)->∀d,Bd d l.length->LE old d l:=by intro l0;induction l0 with
 |nil=>intro qq qq qq;exact trivial
 |cons a l ih =>
   intro h d hB;have ha:=h a (.head _)
   refine⟨⟨WZ (XB (WZ ha.1 (Nat.le_mul_of_pos_right 20 (Nat.succ_pos _))) _) hB.done,Nat.le_of_add_right_le hB.space,Nat.le_of_add_right_le hB.due,ha.2.1,fun hb=>?_⟩,fun qq=>ih (fun x hx=>h x (.tail _ hx)) _ (sY hB ha.1 (gq ha))⟩
   obtain⟨n,h1,h2⟩:=gq (d:=d) ha hb
   exact h2▸⟨Int.natCast_nonneg n,Int.ofNat_le.mpr (WZ h1 (by decide))⟩
theorem tT{old:Bool}:∀(l:List aH),(∀a∈l,cf a)->∀d,(gL old d l).due.length<=d.due.length+l.length
 |[],_,_=>Xl _
 |a::l,h,d=>by
   have ha:=h a (.head _)
   obtain⟨qq,g2,qq⟩:=mt (old:=old) (d:=d) (gq ha)
   exact eM (P:=fun d':DS=>d'.due.length<=d.due.length+(l.length+1)) (fun qq=>WZ g2 (XB (XX (Nat.zero_le _)) _))
     (WZ (tT (old:=old) l (fun x hx=>h x (.tail _ hx)) (iR (aZ old d a) a)) (WZ (XG g2 _) (W9 (Nat.add_right_comm _ 1 _))))
end
section
theorem fA{w:Str}{r:List aH} (h:ja (bg w::r)):ja r :=
 h.elim fun a h=>(Xb.mp h.1).elim (fun e=>absurd (congrArg Prod.fst e) h.2) fun m=>⟨a,m,h.2⟩
theorem u6(x y z:Str):aQ (aQ x y) z=aQ x (aQ y z):=by unfold aQ;simp
theorem Ao(a b:List Ch):iQ (a++b)=aQ (iQ a) (iQ b):=by unfold iQ aQ;simp
theorem yn(r:Int) (v n:Nat) (h:n<9):iQ (fw r v n)=Txt.mul " " (n:Int):=by
 rw[Ad n h]
 have:=jM r n v
 exact congrArg (fun l:List Nat=>(⟨l.toArray⟩:Str)) (List.eq_replicate_iff.mpr ⟨(XR _).trans this.2,fun x hx=>(Xp.mp hx).elim fun c h=>h.2▸this.1 c h.1⟩)
theorem mE:aQ "" (iQ []) = "" := mX _
section
variable {old:Bool}{nl:Nat}{d d':DS}{sp:Str}{bs:List Ch}{tk:V}{a:aH}{r:List aH}{w:Str}
theorem wN{v:Str} (h1:d.refused=false) (h2:d.space = "") (h3:d.run=false) (h4:tk= .tok ty v d.last.1 d.last.2):Sx d "" [] tk :=
 ⟨h1,h2.trans mE.symm,fun qq h=>(nomatch h),h3,.inr ⟨ty,v,h4⟩,fun qq qq e=>(nomatch e)⟩
theorem kM{R:List Ch}{due out:List bL}{fin:Int} (hS:Sx d sp bs tk) (hB:Bd d n) (hR:jn R) (h:qg old d.space d.first (BN tk bs) R due fin out):qg old sp d.first tk (bs++R) due fin out :=
 uN hS.blank hR (hS.space▸WZ (Nat.le_of_add_right_le hB.space) (by decide)) (hS.space▸h)
noncomputable def MR(old:Bool) (nl:Nat) (l:List aH):Prop :=
 ∀(d:DS) (sp:Str) (bs:List Ch) (tk:V),Sx d sp bs tk->(BN tk bs≠ .none\/ja l)->Bd d l.length->qg old sp d.first tk (bs++strm (bh d) l) d.due ((nl:Int)+1) (kS (gL old d l) nl)
theorem ky(ih:MR old nl r) (e:aZ old d a=d') (ha:cf a) (hB:Bd d (r.length+1)) (hd:d'.done=d.done) (hS:Sx d' sp bs tk) (hT:BN tk bs≠ .none\/ja r) :
   qg old sp d'.first tk (bs++strm (cg (bh d) a.2.1.cps.toList) r) d'.due ((nl:Int)+1) (kS (gL old d (a::r)) nl):=by
 rw[BJ e hS.ref,←AM hd]
 exact ih (iR d' a) sp bs tk ⟨hS.ref,hS.space,hS.blank,hS.run,hS.last,hS.l1⟩ hT (e▸sY hB ha.1 (gq ha))
theorem DD:MR old nl []:=fun d qq qq qq hS hT hB =>
 kM hS hB yN (BK (r:=d.last.1) (k:=d.last.2) (hS.last.elim (fun h=>hT.elim (fun h'=>absurd h h') fun h=>h.elim fun qq h=>nomatch h.1) .inr) (cR hS.ref).symm)
theorem yI(hS:Sx d sp bs tk) (n1:1<=n) (n8:n<=8) (hwd:wide d.done w=(n:Int)):Sx (Je d (bg w)) sp (bs++fw (bh d).1 (bh d).2 n) tk/\BN tk (bs++fw (bh d).1 (bh d).2 n)≠ .none:=by
 have h1:aQ d.space (Txt.mul " " (wide d.done w))=aQ sp (iQ (bs++fw (bh d).1 (bh d).2 n)):=by
   rw[hS.space,hwd,Ao,yn _ _ _ (Nat.lt_succ_of_le n8),u6]
 have h2:∀c∈bs++fw (bh d).1 (bh d).2 n,c.c=32:=fun c hc=>(Xt.mp hc).elim (hS.blank c) ((jM _ _ _).1 c)
 have h3:∃b bs',bs++fw (bh d).1 (bh d).2 n=b::bs'/\gz d.run d.last (aJ d.done)=(b.r,b.k):=by
   rw[hS.run]
   rcases bs with qq|⟨c,cs⟩
   ·
     rcases n with qq|n
     . exact absurd n1 (by decide)
     . exact⟨_,_,rfl,jh d⟩
   . exact⟨c,_,rfl,hS.l1 _ _ rfl⟩
 generalize bs++fw (bh d).1 (bh d).2 n=l at h1 h2 h3
 obtain⟨b,bs',rfl,hl⟩:=h3
 exact⟨⟨hS.ref,h1,h2,rfl,.inr ⟨"WS",iQ (b::bs'),congrArg (fun p:Int×Int=>V.tok "WS" (iQ (b::bs')) p.1 p.2) hl.symm⟩,fun qq qq q=>(X9 q).1▸hl⟩,fun q=>nomatch q⟩
theorem Bx(hw:w = " " \/ w = "\t") (ha:cf (bg w)) (h:MR old nl r):MR old nl (bg w::r):=fun d sp bs tk hS qq hB=>by
 obtain⟨n,n1,n8,hs,hwd⟩:=ko (d:=d) hw
 rw[hs r,←Xo]
 obtain⟨h1,h2⟩:=yI hS n1 n8 hwd
 exact ky (d':=Je d (bg w)) h (qW hw) ha hB rfl h1 (.inl h2)
theorem QA(h:MR old nl r):MR old nl (bg "\n" :: r):=fun d sp bs tk hS qq hB=>by
 rw[iO]
 exact kM hS hB (fW (by decide)) (Fs (v := "\n") (r:=(aJ d.done).1) (k:=(aJ d.done).2) (by rw[jh];exact Oo) (ky (bs:=[]) (d':=Of d) h BB (cC (by decide +kernel)) hB rfl (wN hS.ref rfl rfl rfl) (.inl fun q=>nomatch q)))
theorem Gj(h:MR old nl r):MR old nl (bg "\\\n" :: r):=fun d sp bs tk hS hT hB=>by
 rw[mP]
 exact ky (a:=bg "\\\n") h vV (cC (by decide +kernel)) hB rfl hS (hT.imp id fA)
theorem rP(hs:jn (strm (bh d) (a::r))) (sk:∀res,bd old 373 ⟨[],[],strm (cg (bh d) a.2.1.cps.toList) r⟩ res->bd old 373 ⟨[],[],strm (bh d) (a::r)⟩ res) (e:aZ old d a=Am d) (ha:cf a) (h:MR old nl r) (hS:Sx d sp bs tk) (hT:BN tk bs≠ .none\/ja r) (hB:Bd d (r.length+1)) :
   qg old sp d.first tk (bs++strm (bh d) (a::r)) d.due ((nl:Int)+1) (kS (gL old d (a::r)) nl) :=
 kM hS hB hs (wu sk (ky (bs:=[]) (d':=Am d) h e ha hB rfl (zm hS hS.ref rfl rfl rfl) hT))
theorem zv(hs:jn (strm (bh d) (a::r))) (er:bd old 373 ⟨[],[],strm (bh d) (a::r)⟩ (.err p)) (e:aZ old d a=d') (hr:d'.refused=true) (hd:d'.due=d.due++[jc p]) (hS:Sx d sp bs tk) (hB:Bd d (r.length+1)) :
   qg old sp d.first tk (bs++strm (bh d) (a::r)) d.due ((nl:Int)+1) (kS (gL old d (a::r)) nl) :=
 kM hS hB hs (AR er (hd.symm.trans ((mf hr).symm.trans (congrArg (kS . nl) (u7 e hr).symm))))
theorem t7(w:Str):(ER d (bg w)).due=d.due++[jc (some ((cg (bh d) (bG w).cps.toList).1,((cg (bh d) (bG w).cps.toList).2:Int)+1))]:=by
 show d.due++[⟨"refused", "", "",false,(aJ (aQ d.done (bG w))).1,(aJ (aQ d.done (bG w))).2⟩]=_
 rw[gH,nF,eE]
 rfl
theorem EY(hw:w∈fy) (ha:cf (bg w)) (h:MR old nl r):MR old nl (bg w::r):=fun d qq qq qq hS hT hB =>
 have q:=lZ (old:=old) hw (bh d) r
 rP q.1 q.2.2 (un hw) ha h hS (hT.imp id fA) hB
theorem E4(hw:w∈dZ) (ha:cf (bg w)) (h:MR old nl (bg "\n" :: r)):MR old nl (bg w::bg "\n" :: r):=fun d qq qq qq hS hT hB=>by
 have q:=mH hw (bh d) r
 rcases old with qq|qq
 . exact rP q.1 q.2.2.1 (lW hw) ha h hS (hT.imp id fA) hB
 . exact zv q.1 q.2.2.2 (lu hw) rfl (t7 w) hS hB
theorem vu(ha:cf (bg "//x")):MR old nl [bg "//x"]:=fun d qq qq qq hS hT hB=>by
 have hw:("//x" : Str)∈dZ:= .head _
 have hs:jn (strm (bh d) [bg "//x"]):=by rw[gA];exact fW (by decide)
 rcases old with qq|qq
 . exact rP hs (fun qq hn=>by rw[gA];exact J7 hn) (lW hw) ha DD hS (hT.imp id fA) hB
 . exact zv hs (by rw[gA];exact B5) (lu hw) rfl ((t7 "//x").trans (by rw[show bG "//x" = "//" by decide +kernel];rfl)) hS hB
theorem QL(hw:w∈bw):MR old nl [bg w]:=fun d qq qq qq hS qq hB =>
 have q:=tm (old:=old) hw (bh d)
 zv q.1 q.2.2 (Dk hw) rfl rfl hS hB
theorem OS{t:Str×Str}{cut:Int} (ht:t∈cS) (hc:cut∈([0,1,2,3]:List Int)) (hd:Pi r) (hx:t.2 = "/" \/ t.2 = "\\" -> ∃r',r=bg " " :: r') (ha:cf (t.1,aF cut t.2,t.2)) (h:MR old nl r):MR old nl ((t.1,aF cut t.2,t.2)::r):=fun d qq qq qq hS qq hB=>by
 have q:=nu t ht
 have hn:=zF (old:=old) ht hc hd hx (bh d)
 exact kM hS hB hn.1 (Bt (r:=(aJ d.done).1) (k:=(aJ d.done).2) (by rw[jh];exact hn.2) q.2.1 q.2.2.1 (ky (bs:=[]) (d':=Pb d (t.1,aF cut t.2,t.2)) h (zN q.1) ha hB rfl (wN hS.ref rfl rfl rfl) (.inl fun q=>nomatch q)))
end
end
section
noncomputable def Gd(b:Bool) (l:List aH):Prop:=(∀a∈l,cf a)/\(∀old nl,MR old nl l)/\(b=true->Pi l)
section
variable {b':Bool}{r Y X:List aH}{w:Str}{n:Int}
theorem eG{a:aH} (h:Gd b r) (ha:cf a) (hm:∀old nl,MR old nl (a::r)) (hh:b'=true->Pi (a::r)):Gd b' (a::r) :=
 ⟨fun x hx=>(Xb.mp hx).elim (fun e=>e▸ha) (h.1 x),hm,hh⟩
theorem su:Gd true []:=⟨fun qq h=>(nomatch h),fun qq qq=>DD,fun qq qq=> .inl rfl⟩
theorem zI{k k2:Int}{R:List Ch} (h:c=32\/c=10\/c=47\/c=12\/c=34):ei (⟨c,k,k2⟩::R):= .inr ⟨_,_,_,_,rfl,h⟩
theorem pa(hw:w = " " \/ w = "\t") (h:Gd b r):Gd b' (bg w::r) :=
 have q:=yC w (hw.elim (fun e=>e▸ .head _) fun e=>e▸ .tail _ (.head _))
 have ha:cf (bg w):=⟨q.1,q.2.1,fun qq=>hw,q.2.2⟩
 eG h ha (fun old nl=>Bx hw ha (h.2.1 old nl)) fun qq p=>by
   obtain⟨n,n1,qq,hs,qq⟩:=hF hw p
   rw[hs r]
   rcases n with qq|n
   . exact absurd n1 (by decide)
   . exact zI (.inl rfl)
theorem KM(h:Gd b r):Gd b' (bg "\n" :: r):=eG h (cC (by decide +kernel)) (fun old nl=>QA (h.2.1 old nl)) fun qq p=>iO p r▸zI (.inr (.inl rfl))
theorem C4(h:Gd b r):Gd b (bg "\\\n" :: r):=eG h (cC (by decide +kernel)) (fun old nl=>Gj (h.2.1 old nl)) fun e p=>mP p r▸h.2.2 e _
theorem gw:(∀w∈fy,w∈kA)/\(∀w∈dZ,w∈kA)/\∀w∈bw,w∈kA:=by decide +kernel
theorem CK(hw:w∈fy) (h:Gd b r):Gd b' (bg w::r) :=
 have ha:=cC (gw.1 w hw)
 eG h ha (fun old nl=>EY hw ha (h.2.1 old nl)) fun qq p=>(lZ (old:=true) hw p r).2.1
theorem An(hw:w∈dZ) (h:Gd b (bg "\n" :: r)):Gd b' (bg w::bg "\n" :: r) :=
 have ha:=cC (gw.2.1 w hw)
 eG h ha (fun old nl=>E4 hw ha (h.2.1 old nl)) fun qq p=>(mH hw p r).2.1
theorem qN:Gd b' [bg "//x"] :=
 have ha:=cC (gw.2.1 "//x" (.head _))
 eG su ha (fun old nl=>vu ha) fun qq p=>gA p▸zI (.inr (.inr (.inl rfl)))
theorem M5(hw:w∈bw):Gd b' [bg w]:=eG su (cC (gw.2.2 w hw)) (fun old nl=>QL hw) fun qq p=>(tm (old:=true) hw p).2.1
noncomputable def M4(fin:Bool) (e:List Str):Bool :=
 e.rec true fun w e ok=>decide ((w = " " \/ w = "\t")\/w = "\n" \/ w = "\\\n" \/ w∈fy\/(w∈dZ/\e.head?=some "\n")\/fin=true/\e=[]/\(w = "//x" \/ w∈bw))&&ok
noncomputable def Sf(e:List Str):Bool:=e.any fun w=>decide (w ≠ "\\\n")
theorem nr{fin:Bool}{e:List Str} (he:M4 fin e=true) (hY:fin=true->Y=[]) (h:Gd b Y):Gd (Sf e || b) (e.map bg++Y):=by
 induction e with
 |nil=>exact h
 |cons w e ih =>
   obtain⟨h1,h2⟩:=Bool.and_eq_true_iff.mp (he:(decide _&&M4 fin e)=true)
   have ih:=ih h2
   rcases of_decide_eq_true h1 with hw|rfl|rfl|hw|⟨hw,he⟩|⟨hf,rfl,hw⟩
   . exact pa hw ih
   . exact KM ih
   . exact C4 ih
   . exact CK hw ih
   . obtain⟨e,rfl⟩:=List.head?_eq_some_iff.mp he
     exact An hw ih
   . obtain rfl:=hY hf
     rcases hw with rfl|hw
     . exact qN
     . exact M5 hw
theorem zd:∀e∈fG,M4 false e=true:=by decide +kernel
theorem wZ:∀e∈e9,M4 false e=true/\Sf e=true:=by decide +kernel
theorem Ca:∀e∈lj,M4 true e=true:=by decide +kernel
theorem nY{l:List α}{a b:Int} (d:α) (hl:(l.length:Int)=b) (hb:0<b):l.getD (a.fmod b).toNat d∈l:=by
 have q:=jK a hb
 rw[List.getD_eq_getElem?_getD,List.getElem?_eq_getElem ((Int.toNat_lt q.1).mpr (hl▸q.2))]
 exact List.getElem_mem _
theorem H6:rH i n∈([0,1,2,3]:List Int):=by
 have q:=jK (n.fdiv 1666+i) (b:=4) (by decide)
 exact(congrArg (. ∈([0,1,2,3]:List Int)) (Int.toNat_of_nonneg q.1)).mp ((by decide:∀n<4,((n:Nat):Int)∈([0,1,2,3]:List Int)) _ ((Int.toNat_lt q.1).mpr q.2))
theorem xL{y:Str} (h:bU x y=false):x≠y:=fun e=>by subst e;unfold bU at h;simp at h
theorem Aw(hX:Gd true X):Gd true (dE i n++X):=by
 have ht:=kK i n
 have hc:=H6 (i:=i) (n:=n)
 have q:=uT _ ht _ hc
 have ha:cf ((iq i n).1,aF (rH i n) (iq i n).2,(iq i n).2):=⟨q.1,q.2.1,fun h=>XW (q.2.2.1.symm.trans h),q.2.2.2⟩
 have tok:∀{r},Gd true r->((iq i n).2 = "/" \/ (iq i n).2 = "\\" -> ∃r',r=bg " " :: r')->Gd false (((iq i n).1,aF (rH i n) (iq i n).2,(iq i n).2)::r):=fun h hx =>
   eG h ha (fun old nl=>OS ht hc (h.2.2 rfl) hx ha (h.2.1 old nl)) nofun
 have key:Gd false (((iq i n).1,aF (rH i n) (iq i n).2,(iq i n).2)::(fZ (iq i n).2++X)):=by
   unfold fZ
   rcases hb:(bU (iq i n).2 "/" || bU (iq i n).2 "\\") with qq|qq
   ·
     obtain⟨h1,h2⟩:=Bool.or_eq_false_iff.mp hb
     exact tok hX fun q=>q.elim (fun q=>absurd q (xL h1)) fun q=>absurd q (xL h2)
   . exact tok (pa (.inl rfl) hX) fun qq=>⟨X,rfl⟩
 have e1:fG.getD ((n.fdiv 238+i).fmod 7).toNat []∈fG:=nY [] rfl (by decide)
 have e2:e9.getD (n.fmod 14).toNat []∈e9:=nY [] rfl (by decide)
 have q2:=wZ _ e2
 have g2:=nr q2.1 nofun key
 rw[q2.2] at g2
 have g1:=nr (zd _ e1) nofun g2
 unfold dE um
 rw[XM,Xo,Xo]
 exact(Bool.or_true _)▸g1
theorem B9(hX:Gd true X) (num:List Int):∀i,Gd true (fE i num++X):=by
 induction num with
 |nil=>exact fun qq=>hX
 |cons n ns ih=>exact fun i=>(Xo (dE i n) _ X).symm▸Aw (ih (i+1))
theorem wY(num:List Int):Gd true (aS num):=by
 have he:xb num.sum∈lj:=nY [] rfl (by decide)
 have h:=nr (Ca _ he) (fun qq=>rfl) su
 rw[Bool.or_true,XY] at h
 exact B9 h num 0
end
theorem rV(h:num≠[]):ja (aS num):=by
 rcases num with qq|⟨n,ns⟩
 . exact(h rfl).elim
 . exact⟨_,W7 _ (W7 _ (W4 _ (.head _))),(nu _ (kK 0 n)).2.2.2.1⟩
theorem AD(l:List Nat):∀k,(g6 l k).length<=8*l.length:=by
 induction l with
 |nil=>exact fun qq=>Xl _
 |cons c l ih =>
   intro k
   show(if c=9 then List.replicate (8 - k % 8) 32++g6 l (k+(8 - k % 8)) else c::g6 l (if c == 10 || c == 13 then 0 else k+1)).length<=8*l.length+8
   by_cases h:c=9
   . rw[if_pos h]
     exact WZ (W9 (Xg.trans (congrArg (. +_) List.length_replicate))) (WZ (Nat.add_le_add (Nat.sub_le _ _) (ih _)) (W9 (Nat.add_comm _ _)))
   . rw[if_neg h]
     exact WZ (XX (ih _)) (XB (by decide:1<=8) _)
theorem A9(l:List Nat):∀p:Int×Nat,(d8 p l).length<=8*l.length:=by
 induction l with
 |nil=>exact fun qq=>Xl _
 |cons c l ih =>
   intro p
   have h1:(kZ p c).length<=8:=by
     show(if c=9 then fw p.1 p.2 (8 - p.2 % 8) else [⟨c,p.1,(p.2:Int)+1⟩]).length<=8
     by_cases h:c=9
     . rw[if_pos h];exact WZ (W9 (jM _ _ _).2) (Nat.sub_le _ _)
     . rw[if_neg h];exact(by decide:1<=8)
   exact WZ (W9 Xg) (WZ (Nat.add_le_add h1 (ih (dY p c))) (W9 (Nat.add_comm _ _)))
theorem xY(l:List Ch):(bc none l).length<=l.length/\∀b,(bc (some b) l).length<=l.length+1:=by
 induction l with
 |nil=>exact⟨Xl _,fun qq=>Nat.le_succ _⟩
 |cons c l ih =>
   obtain⟨h1,h2⟩:=ih
   refine⟨?_,fun b=>?_⟩
   . show(if c.c=92 then bc (some c) l else c::bc none l).length<=_
     split
     . exact h2 c
     . exact XX h1
   . show(if c.c=13\/c.c=10 then bc none l else b::c::bc none l).length<=_
     split
     . exact WZ h1 (XL _ 2)
     . exact XX (XX h1)
theorem pQ(num:List Int):(aY num).cps.toList=lM (aS num):=by
 unfold aY lM
 rw[ma,List.map_map]
 rfl
theorem xJ(l:List aH) (h:∀a∈l,cf a):(lM l).length<=20*l.length/\13∉lM l:=by
 induction l with
 |nil=>exact⟨Xl _,fun h=>nomatch h⟩
 |cons a l ih =>
   obtain⟨h1,h2⟩:=ih fun x hx=>h x (.tail _ hx)
   obtain⟨a1,qq,qq,a4⟩:=h a (.head _)
   refine⟨WZ (W9 Xg) (WZ (Nat.add_le_add a1 h1) (W9 (Nat.add_comm _ _))),fun m=>(Xt.mp m).elim a4 h2⟩
theorem rF{y:Str} (h:y∈br x):ar y<=ar x+1:=by
 have h:y∈(XN x "\n").dropLast.map (fun p=>aQ p "\n")++[a9 (XN x "\n")].filter (fun p=>!bU p ""):=h
 rcases Xt.mp h with h|h
 . obtain⟨p,hp,rfl⟩:=Xp.mp h
   rw[iI]
   exact XX (dm ((List.dropLast_sublist _).mem hp))
 . have:=Xe.mp (List.mem_filter.mp h).1
   subst this
   have:a9 (XN x "\n")∈XN x "\n" := by
     rw[cV (bY x "\n")]
     exact W4 _ (by rw[←cV (bY x "\n")];exact .head _)
   exact Nat.le_succ_of_le (dm this)
theorem oY(hne:num≠[]) (hlen:num.length<=10):fc num:=by
 obtain⟨ha,hm,qq⟩:=wY num
 have hal:=i4 hlen
 obtain⟨ht,h13⟩:=xJ _ ha
 rw[←pQ] at ht h13
 have hB:Bd IW (aS num).length:=⟨WZ (XB (Nat.mul_le_mul_left _ hal) _) (by decide +kernel),WZ (XB (Nat.mul_le_mul_left _ hal) _) (by decide +kernel),WZ (XB hal _) (by decide +kernel)⟩
 have hdue:(qx num).due.length<=310:=WZ (tT (old:=dj num.sum) (aS num) ha IW) (WZ (W9 (Nat.zero_add _)) hal)
 have hlx:(aY num).cps.toList.length<=6200:=WZ ht (Nat.mul_le_mul_left 20 hal)
 refine⟨⟨hlen,fun a h=>WZ (ha a h).1 (by decide),I2 _ ha IW hB,WZ hdue (by decide)⟩,?_,fun x hx=>?_,?_⟩
 . obtain⟨res,rows,p,b,h1,h2,h3⟩:=hm (dj num.sum) (br (aY num)).length IW "" [] .none ⟨rfl,mE.symm,fun qq h=>(nomatch h),rfl,.inl rfl,fun qq qq e=>nomatch e⟩ (.inr (rV hne)) hB
   have h1:dR (dj num.sum) "" true .none 373 ⟨[],[],strm (1,0) (aS num)⟩ res:=h1
   have hs:strm (1,0) (aS num)=bc none (bu 1 (br (aY num))):=by
     rw[ml h13,pQ]
     rfl
   rw[hs] at h1
   have h3:rows++[gD p (((br (aY num)).length:Int)+1) b]=i8 num:=h3
   refine(fun qq qk=>qk res rows p b h1 h2 (Int.add_comm _ _▸h3) (WZ (m:=312) ?_ (by decide)))
   have hl:(i8 num).length<=312 :=
     eM (P:=fun l:List bL=>l.length<=312) (fun qq=>WZ hdue (by decide)) (WZ (W9 Xg) (XX (eM (P:=fun l:List bL=>l.length<=311) (fun qq=>WZ iN (XX hdue)) (Nat.le_succ_of_le hdue))))
   exact WZ (XL _ _) (WZ (W9 (Xg.symm.trans (congrArg List.length h3))) hl)
 . exact WZ (AD x.cps.toList 0) (WZ (Nat.mul_le_mul_left 8 (WZ (rF hx) (XX hlx))) (by decide))
 . rw[ml h13]
   exact WZ (xY _).1 (WZ (A9 _ _) (WZ (Nat.mul_le_mul_left 8 hlx) (by decide)))
theorem good_law'(ns:List Int) (qq:ns.length<=63):fc (b8 ns):=by
 unfold b8
 split
 . exact oY (List.cons_ne_nil _ _) (by decide)
 . rename_i h
   exact oY h (WZ (W9 List.length_take) (Nat.min_le_left _ _))
end
end
noncomputable def kAs : List Addr := [2,3,15,17,18,20,21,29,30,32,33,35,36,37,39,40,42,43,44,46,47,48,49,50,60,61,62,64,65,67,68,69,71,72,74,75,76,78,79,80,81,82,83,84,87,90,95,96,98,99,101,102,103,105,106,108,109,110,112,113,115,116,117,118,120,121,123,124,125,126,127,128,129,132,139,140,142,143,145,146,147,149,150,152,153,154,155,156,157,167,169,170,172,173,174,176,177,179,180,181,182,183,184,185,195,197,198,200,201,202,204,205,207,208,209,210,212,213,215,216,217,219,220,222,223,224,226,227,229,230,231,233,234,236,237,238,240,241,243,244,245,247,248,250,251,252,254,255,257,258,259,261,262,264,265,266,268,269,271,272,273,274,275,276,277,287,289,290,292,293,294,296,297,299,300,301,302,303,304,305,308,310,311,313,314,315,317,318,320,321,322,324,325,327,328,329,332,337,338,340,341,343,344,345,347,348,350,351,352,354,355,357,358,359,360,362,363,365,366,367,369,370,372,373,374,376,377,379,380,381,383,384,386,387,388,390,391,393,394,395,397,398,400,401,402,404,405,407,408,409,411,412,414,415,416,418,419,421,422,423,425,426,428,429,430,432,433,435,436,437,438,439,449,451,452,454,455,456,458,459,461,462,463,465,466,468,469,470,472,473,475,476,477,479,480,482,483,484,486,487,489,490,491,493,494,496,497,498,500,501,503,504,505,506,507,508,509,512,514,515,517,518,519,520,521,522,523,524,525,526,527,528,529,530,531,532,533,534,535,536,537,538,539,540,541,542,543,544,545,546,547,548,549,550,551,552,553,554,556,557,559,560,561,563,564,566,567,568,571,572]
namespace head
theorem tw16894197260953374720:True:=⟨⟩
theorem tw7732209734871044160:True:=⟨⟩
theorem tw2554682012703037696:True:=⟨⟩
theorem tw18123143868385100064:True:=⟨⟩
theorem tw1985537357303476512:True:=⟨⟩
theorem tw4473611206160876864:True:=⟨⟩
theorem tw5944575059761466720:True:=⟨⟩
theorem tw13294958713779813728:True:=⟨⟩
theorem tw15037083628117588352:True:=⟨⟩
theorem tw6202090305015876224:True:=⟨⟩
theorem tw16172288393029767808:True:=⟨⟩
theorem tw9074772780463953568:True:=⟨⟩
theorem tw2096541523181747872:True:=⟨⟩
theorem tw12460202669355646752:True:=⟨⟩
theorem tw7417405269818204032:True:=⟨⟩
theorem tw10242447542790323104:True:=⟨⟩
theorem tw18332285231265401824:True:=⟨⟩
theorem tw1992862871153497056:True:=⟨⟩
theorem tw14527164170590304321:True:=⟨⟩
theorem tw9592777112578238593:True:=⟨⟩
theorem tw3615648651819825313:True:=⟨⟩
theorem tw9388430590476628193:True:=⟨⟩
theorem tw4160124254940468481:True:=⟨⟩
theorem tw10258521583956687137:True:=⟨⟩
theorem tw4764554697811233:True:=⟨⟩
theorem tw10356212845559719233:True:=⟨⟩
theorem tw12998212659555988865:True:=⟨⟩
theorem tw6240353410654795137:True:=⟨⟩
theorem tw3690969761935527329:True:=⟨⟩
theorem tw3088210815446039105:True:=⟨⟩
theorem tw9062998866958442273:True:=⟨⟩
theorem tw7277520189549225825:True:=⟨⟩
theorem tw6588589085864783938:True:=⟨⟩
theorem tw2525317073905713282:True:=⟨⟩
theorem tw14676189674455941282:True:=⟨⟩
theorem tw4965378191221513410:True:=⟨⟩
theorem tw11692735721529064706:True:=⟨⟩
theorem tw3696042808614700290:True:=⟨⟩
theorem tw8101760021730824546:True:=⟨⟩
theorem tw1134157569726261602:True:=⟨⟩
theorem tw16172356507618199906:True:=⟨⟩
theorem tw7658410731251134818:True:=⟨⟩
theorem tw17737275727222175138:True:=⟨⟩
theorem tw15253846138512369154:True:=⟨⟩
theorem tw5019597260055213698:True:=⟨⟩
theorem tw7802898811600756450:True:=⟨⟩
theorem tw3160712208675142370:True:=⟨⟩
theorem tw9820158181544301314:True:=⟨⟩
theorem tw7523532297153676066:True:=⟨⟩
theorem tw3754546422522225538:True:=⟨⟩
theorem tw5187041380464763778:True:=⟨⟩
theorem tw12478146576626367362:True:=⟨⟩
theorem tw3083302935323014018:True:=⟨⟩
theorem tw10533634037010066435:True:=⟨⟩
theorem tw5986637957666399235:True:=⟨⟩
theorem tw6521490308693473283:True:=⟨⟩
theorem tw2355103038987944067:True:=⟨⟩
theorem tw2728595385866086531:True:=⟨⟩
theorem tw17725469503822016867:True:=⟨⟩
theorem tw12763952150808568291:True:=⟨⟩
theorem tw14597329475937083939:True:=⟨⟩
theorem tw15894371620910866019:True:=⟨⟩
theorem tw6088685845774392931:True:=⟨⟩
theorem tw851385035628625539:True:=⟨⟩
theorem tw9658139154387788515:True:=⟨⟩
theorem tw4415685298772064003:True:=⟨⟩
theorem tw8541356943393881859:True:=⟨⟩
theorem tw17577399041416155939:True:=⟨⟩
theorem tw3665506230870052707:True:=⟨⟩
theorem tw17905491414393134947:True:=⟨⟩
theorem tw2393098407364606883:True:=⟨⟩
theorem tw2694075680205673411:True:=⟨⟩
theorem tw976808484645153763:True:=⟨⟩
theorem tw10900948863051656163:True:=⟨⟩
theorem tw15410735652082386980:True:=⟨⟩
theorem tw2138340339207913572:True:=⟨⟩
theorem tw4607607821588926596:True:=⟨⟩
theorem tw7498250532897285284:True:=⟨⟩
theorem tw14999265807660949796:True:=⟨⟩
theorem tw8414573866900348196:True:=⟨⟩
theorem tw3368030927266983236:True:=⟨⟩
theorem tw8219034294630437252:True:=⟨⟩
theorem tw11630664056906969636:True:=⟨⟩
theorem tw16922147877168347812:True:=⟨⟩
theorem tw17015032458148788900:True:=⟨⟩
theorem tw10059252607514160932:True:=⟨⟩
theorem tw15506723302920939300:True:=⟨⟩
theorem tw1503407388533364548:True:=⟨⟩
theorem tw13986843968525588388:True:=⟨⟩
theorem tw17850378814381688901:True:=⟨⟩
theorem tw7096138990903361605:True:=⟨⟩
theorem tw6161856959107265637:True:=⟨⟩
theorem tw10021064610941686981:True:=⟨⟩
theorem tw15796087645652482245:True:=⟨⟩
theorem tw4196546014268931301:True:=⟨⟩
theorem tw11923155195566972133:True:=⟨⟩
theorem tw16576625349610184965:True:=⟨⟩
theorem tw1522823579158628613:True:=⟨⟩
theorem tw1519320592345488741:True:=⟨⟩
theorem tw4839655697589452165:True:=⟨⟩
theorem tw3103639331685909893:True:=⟨⟩
theorem tw1211024037004892549:True:=⟨⟩
theorem tw13412022041919118725:True:=⟨⟩
theorem tw10265929125382437317:True:=⟨⟩
theorem tw7404141018258913797:True:=⟨⟩
theorem tw5593727005144783397:True:=⟨⟩
theorem tw4311042196063409733:True:=⟨⟩
theorem tw14149427978524627653:True:=⟨⟩
theorem tw7661765248129044261:True:=⟨⟩
theorem tw8187629637223713605:True:=⟨⟩
theorem tw10010264046613662565:True:=⟨⟩
theorem tw13906610036690215845:True:=⟨⟩
theorem tw12344544660321961925:True:=⟨⟩
theorem tw13508044439285423174:True:=⟨⟩
theorem tw1673358830478937286:True:=⟨⟩
theorem tw1748456618969930982:True:=⟨⟩
theorem tw5906749814970224870:True:=⟨⟩
theorem tw17988201657351507238:True:=⟨⟩
theorem tw2326617092838664518:True:=⟨⟩
theorem tw3700403586152167814:True:=⟨⟩
theorem tw6640010369347007910:True:=⟨⟩
theorem tw4017301010375394790:True:=⟨⟩
theorem tw16111715859725283846:True:=⟨⟩
theorem tw1909714482019496454:True:=⟨⟩
theorem tw1689142752476645926:True:=⟨⟩
theorem tw16874305072444578374:True:=⟨⟩
theorem tw14512941343882779238:True:=⟨⟩
theorem tw5764021196749891206:True:=⟨⟩
theorem tw13537664574400122534:True:=⟨⟩
theorem tw18384547517478447814:True:=⟨⟩
theorem tw13295082483830516422:True:=⟨⟩
theorem tw18364922244981856966:True:=⟨⟩
theorem tw13276723143375012678:True:=⟨⟩
theorem tw4053978428183960486:True:=⟨⟩
theorem tw9101448428047585222:True:=⟨⟩
theorem tw16984083398119652359:True:=⟨⟩
theorem tw15840312062823119879:True:=⟨⟩
theorem tw6212921109956642855:True:=⟨⟩
theorem tw2260579728952749127:True:=⟨⟩
theorem tw11105056867450500199:True:=⟨⟩
theorem tw5629256929840616583:True:=⟨⟩
theorem tw18007968972792079559:True:=⟨⟩
theorem tw2529948359932261575:True:=⟨⟩
theorem tw8185714761375850791:True:=⟨⟩
theorem tw4693820183103290663:True:=⟨⟩
theorem tw11582096051123008839:True:=⟨⟩
theorem tw7680146299302783591:True:=⟨⟩
theorem tw1319983325249436295:True:=⟨⟩
theorem tw17785726601085528743:True:=⟨⟩
theorem tw10988817232074504935:True:=⟨⟩
theorem tw7994106446794305319:True:=⟨⟩
theorem tw9510322318118753095:True:=⟨⟩
theorem tw5973763720392745831:True:=⟨⟩
theorem tw262713603470380999:True:=⟨⟩
theorem tw6265338273532641288:True:=⟨⟩
theorem tw14699756766385990792:True:=⟨⟩
theorem tw13353151263460963528:True:=⟨⟩
theorem tw2591067827882107080:True:=⟨⟩
theorem tw10366927770000222440:True:=⟨⟩
theorem tw12870424476946447624:True:=⟨⟩
theorem tw3264716943610762504:True:=⟨⟩
theorem tw2879759524354350568:True:=⟨⟩
theorem tw11308087075614649832:True:=⟨⟩
theorem tw3304075619188804072:True:=⟨⟩
theorem tw16441004959143088680:True:=⟨⟩
theorem tw2154566216772986472:True:=⟨⟩
theorem tw2437478716016495240:True:=⟨⟩
theorem tw1107278376722662056:True:=⟨⟩
theorem tw8169693465737517768:True:=⟨⟩
theorem tw1276956409769668328:True:=⟨⟩
theorem tw17674571679781333832:True:=⟨⟩
theorem tw17411354535832351560:True:=⟨⟩
theorem tw11097941207591946120:True:=⟨⟩
theorem tw13801937863458859944:True:=⟨⟩
theorem tw3581614266968435656:True:=⟨⟩
theorem tw2864405669816312776:True:=⟨⟩
theorem tw14637134836413734856:True:=⟨⟩
theorem tw2825341998796452840:True:=⟨⟩
theorem tw5788964047882338313:True:=⟨⟩
theorem tw9980544069675776137:True:=⟨⟩
theorem tw10018764681926925449:True:=⟨⟩
theorem tw4964814941381164201:True:=⟨⟩
theorem tw16803631020007951625:True:=⟨⟩
theorem tw7833285031277912329:True:=⟨⟩
theorem tw17539234302018041193:True:=⟨⟩
theorem tw14168692526580214153:True:=⟨⟩
theorem tw820421773197932041:True:=⟨⟩
theorem tw2340069552987342377:True:=⟨⟩
theorem tw5015311536963163689:True:=⟨⟩
theorem tw315434073420411817:True:=⟨⟩
theorem tw17486074103640542121:True:=⟨⟩
theorem tw17608190574486352970:True:=⟨⟩
theorem tw5096742575497195690:True:=⟨⟩
theorem tw9103479521544129834:True:=⟨⟩
theorem tw17113217626458354986:True:=⟨⟩
theorem tw17212568112599259466:True:=⟨⟩
theorem tw10706776884845955466:True:=⟨⟩
theorem tw8182079617134344778:True:=⟨⟩
theorem tw18080951475816111786:True:=⟨⟩
theorem tw15706118173409862346:True:=⟨⟩
theorem tw13896987355042952010:True:=⟨⟩
theorem tw17453365369857097546:True:=⟨⟩
theorem tw6684978435548883818:True:=⟨⟩
theorem tw17844492200522320778:True:=⟨⟩
theorem tw7928285938522686346:True:=⟨⟩
theorem tw5487235932777146282:True:=⟨⟩
theorem tw14843749296085226474:True:=⟨⟩
theorem tw2753283235347674219:True:=⟨⟩
theorem tw5927865893512547691:True:=⟨⟩
theorem tw15305915472762889579:True:=⟨⟩
theorem tw1139190951711559115:True:=⟨⟩
theorem tw13743032657059413451:True:=⟨⟩
theorem tw15468718075485040107:True:=⟨⟩
theorem tw14667470093908496907:True:=⟨⟩
theorem tw4212441520037735947:True:=⟨⟩
theorem tw8796753266530204203:True:=⟨⟩
theorem tw5506250874072839755:True:=⟨⟩
theorem tw6388477656530123435:True:=⟨⟩
theorem tw13630699296999500555:True:=⟨⟩
theorem tw17336824697803282187:True:=⟨⟩
theorem tw16769997242578385675:True:=⟨⟩
theorem tw5479459121986351116:True:=⟨⟩
theorem tw10270352894671993868:True:=⟨⟩
theorem tw7512725033676591148:True:=⟨⟩
theorem tw14969872817325187116:True:=⟨⟩
theorem tw9464831228461672588:True:=⟨⟩
theorem tw4708111749353345164:True:=⟨⟩
theorem tw12287978374625458572:True:=⟨⟩
theorem tw17854896373637125580:True:=⟨⟩
theorem tw14699528089545365996:True:=⟨⟩
theorem tw17789423225533864492:True:=⟨⟩
theorem tw14139502460874162764:True:=⟨⟩
theorem tw6187941463952242252:True:=⟨⟩
theorem tw48543519692965452:True:=⟨⟩
theorem tw3790771472595898956:True:=⟨⟩
theorem tw9082462177598256812:True:=⟨⟩
theorem tw11484358847640170188:True:=⟨⟩
theorem tw3547240966391284428:True:=⟨⟩
theorem tw6891450509433485068:True:=⟨⟩
theorem tw10405530465085936428:True:=⟨⟩
theorem tw6110071263904590700:True:=⟨⟩
theorem tw16847831306532103052:True:=⟨⟩
theorem tw3991279037241028524:True:=⟨⟩
theorem tw9325057278558614444:True:=⟨⟩
theorem tw1566460306257097708:True:=⟨⟩
theorem tw10205530081349824492:True:=⟨⟩
theorem tw14432977821161478157:True:=⟨⟩
theorem tw7805308653706644653:True:=⟨⟩
theorem tw8812732774380208333:True:=⟨⟩
theorem tw12330954535739239725:True:=⟨⟩
theorem tw9950410520057996621:True:=⟨⟩
theorem tw15436542981012472205:True:=⟨⟩
theorem tw5870146547769353613:True:=⟨⟩
theorem tw16817119741492734445:True:=⟨⟩
theorem tw8402214883040486957:True:=⟨⟩
theorem tw14139617269561922093:True:=⟨⟩
theorem tw16572314662081343053:True:=⟨⟩
theorem tw7599496313472250701:True:=⟨⟩
theorem tw12601080634535202701:True:=⟨⟩
theorem tw17332727794074296334:True:=⟨⟩
theorem tw16659920880120507502:True:=⟨⟩
theorem tw12328230846540189838:True:=⟨⟩
theorem tw11426403942048686318:True:=⟨⟩
theorem tw300626226527484142:True:=⟨⟩
theorem tw18416563613846182222:True:=⟨⟩
theorem tw768292572143277422:True:=⟨⟩
theorem tw12359489953124434286:True:=⟨⟩
theorem tw12865059321931465230:True:=⟨⟩
theorem tw16474958459275807246:True:=⟨⟩
theorem tw1495726902847802894:True:=⟨⟩
theorem tw12362083183470981646:True:=⟨⟩
theorem tw14547535633828118030:True:=⟨⟩
theorem tw17093656651364094606:True:=⟨⟩
theorem tw8866670633112419022:True:=⟨⟩
theorem tw16128420640991077102:True:=⟨⟩
theorem tw6053997905714604814:True:=⟨⟩
theorem tw709382114072422158:True:=⟨⟩
theorem tw9746458257258439470:True:=⟨⟩
theorem tw12773685731770592110:True:=⟨⟩
theorem tw13180129090757240718:True:=⟨⟩
theorem tw3089916443595474862:True:=⟨⟩
theorem tw15520248196984853422:True:=⟨⟩
theorem tw14234965402570480558:True:=⟨⟩
theorem tw739537129135343663:True:=⟨⟩
theorem tw16640130746408290383:True:=⟨⟩
theorem tw12820901002040952943:True:=⟨⟩
theorem tw8715499118904818895:True:=⟨⟩
theorem tw1620002657737552111:True:=⟨⟩
theorem tw3794523003379204399:True:=⟨⟩
theorem tw12310735299239354703:True:=⟨⟩
theorem tw14643560169476415855:True:=⟨⟩
theorem tw4975070653579243887:True:=⟨⟩
theorem tw17821319399108415887:True:=⟨⟩
theorem tw5515381820778694223:True:=⟨⟩
theorem tw14364637388885140079:True:=⟨⟩
theorem tw5617373736292572815:True:=⟨⟩
theorem tw13357441389134331599:True:=⟨⟩
theorem tw9196398404247428943:True:=⟨⟩
theorem tw12032222614953749359:True:=⟨⟩
theorem tw2962658645936970607:True:=⟨⟩
theorem tw4433315090154635215:True:=⟨⟩
theorem tw12740806245664736207:True:=⟨⟩
theorem tw807142644699662319:True:=⟨⟩
theorem tw12921858870386250864:True:=⟨⟩
theorem tw12741294794224977040:True:=⟨⟩
theorem tw12604462930493870256:True:=⟨⟩
theorem tw12695399030622205104:True:=⟨⟩
theorem tw14492117785962260688:True:=⟨⟩
theorem tw13337238644230332656:True:=⟨⟩
theorem tw14076760393399068976:True:=⟨⟩
theorem tw16782820856776367440:True:=⟨⟩
theorem tw1463646239528298992:True:=⟨⟩
theorem tw7313386461004707312:True:=⟨⟩
theorem tw3453547403478019728:True:=⟨⟩
theorem tw13246386896891170512:True:=⟨⟩
theorem tw14969385696402013904:True:=⟨⟩
theorem tw17646911460466567920:True:=⟨⟩
theorem tw17275705279478898512:True:=⟨⟩
theorem tw4691952243595246448:True:=⟨⟩
theorem tw1643771367246577777:True:=⟨⟩
theorem tw11770459041652445329:True:=⟨⟩
theorem tw17197444120159719569:True:=⟨⟩
theorem tw5319049981483164881:True:=⟨⟩
theorem tw9987851973559822609:True:=⟨⟩
theorem tw17173245716831642929:True:=⟨⟩
theorem tw11124748197601291601:True:=⟨⟩
theorem tw4063747431996464497:True:=⟨⟩
theorem tw5111174896325423537:True:=⟨⟩
theorem tw10527494648118441489:True:=⟨⟩
theorem tw12949380547846470161:True:=⟨⟩
theorem tw12095829319087573521:True:=⟨⟩
theorem tw5889021280877657681:True:=⟨⟩
theorem tw7789450098604059249:True:=⟨⟩
theorem tw14628233357713752721:True:=⟨⟩
theorem tw16966009324859112401:True:=⟨⟩
theorem tw11925700103697007601:True:=⟨⟩
theorem tw13478637309914159250:True:=⟨⟩
theorem tw2506711637615833298:True:=⟨⟩
theorem tw5047204514283635954:True:=⟨⟩
theorem tw14235796723476431154:True:=⟨⟩
theorem tw9202431907968578930:True:=⟨⟩
theorem tw14531177953140590962:True:=⟨⟩
theorem tw11485113708198979986:True:=⟨⟩
theorem tw1687793838685487538:True:=⟨⟩
theorem tw13585267454733459922:True:=⟨⟩
theorem tw8451290768687142514:True:=⟨⟩
theorem tw3821945547825155762:True:=⟨⟩
theorem tw10748227973586771634:True:=⟨⟩
theorem tw1714602735852981970:True:=⟨⟩
theorem tw2441957057352720082:True:=⟨⟩
theorem tw17152777061578665746:True:=⟨⟩
theorem tw15091486752826498866:True:=⟨⟩
theorem tw10730805705081004914:True:=⟨⟩
theorem tw467416434755642258:True:=⟨⟩
theorem tw3512634313551410195:True:=⟨⟩
theorem tw17265401458761052179:True:=⟨⟩
theorem tw9145527808636388435:True:=⟨⟩
theorem tw14909605222495392915:True:=⟨⟩
theorem tw11434997419882176723:True:=⟨⟩
theorem tw2518057956044344595:True:=⟨⟩
theorem tw12264792733140247891:True:=⟨⟩
theorem tw8671685427711848851:True:=⟨⟩
theorem tw14643959010103036307:True:=⟨⟩
theorem tw6737735255597943219:True:=⟨⟩
theorem tw16278871845796110771:True:=⟨⟩
theorem tw9702098958229961203:True:=⟨⟩
theorem tw6298033893332097587:True:=⟨⟩
theorem tw4857777746444614323:True:=⟨⟩
theorem tw8591847963789803379:True:=⟨⟩
theorem tw6880043348581005364:True:=⟨⟩
theorem tw15656768269340197940:True:=⟨⟩
theorem tw6402496994288996404:True:=⟨⟩
theorem tw5797013207949663412:True:=⟨⟩
theorem tw12398312691204496596:True:=⟨⟩
theorem tw6426539377367359892:True:=⟨⟩
theorem tw17958272820484234708:True:=⟨⟩
theorem tw13637325136056909300:True:=⟨⟩
theorem tw8569104457590258164:True:=⟨⟩
theorem tw4009957668330374740:True:=⟨⟩
theorem tw17002534310236347988:True:=⟨⟩
theorem tw1937370526825066196:True:=⟨⟩
theorem tw7394893122761556724:True:=⟨⟩
theorem tw2400818531096893172:True:=⟨⟩
theorem tw15895551434495452948:True:=⟨⟩
theorem tw1832916270232011604:True:=⟨⟩
theorem tw3986194592780655508:True:=⟨⟩
theorem tw2350586252961548244:True:=⟨⟩
theorem tw5638995163158488052:True:=⟨⟩
theorem tw6053349399257934933:True:=⟨⟩
theorem tw6684681932595197013:True:=⟨⟩
theorem tw6085824867444503733:True:=⟨⟩
theorem tw2994366008111725845:True:=⟨⟩
theorem tw4976181008148175253:True:=⟨⟩
theorem tw5141578139466067413:True:=⟨⟩
theorem tw12074249297620881909:True:=⟨⟩
theorem tw18433677622606106133:True:=⟨⟩
theorem tw1224924573807776437:True:=⟨⟩
theorem tw5438144065070405397:True:=⟨⟩
theorem tw12147184966966947637:True:=⟨⟩
theorem tw12043669396524033845:True:=⟨⟩
theorem tw17508272824862286709:True:=⟨⟩
theorem tw4972248218790579157:True:=⟨⟩
theorem tw5508695066786827253:True:=⟨⟩
theorem tw9716329373054682134:True:=⟨⟩
theorem tw10865165270600546614:True:=⟨⟩
theorem tw17552560543380974038:True:=⟨⟩
theorem tw12352672977532951062:True:=⟨⟩
theorem tw16065720564569863766:True:=⟨⟩
theorem tw11427066125472700054:True:=⟨⟩
theorem tw17014734716931888790:True:=⟨⟩
theorem tw532055438628499158:True:=⟨⟩
theorem tw14112051064653734678:True:=⟨⟩
theorem tw15785421084128741142:True:=⟨⟩
theorem tw9133290819911140118:True:=⟨⟩
theorem tw15539854500240908086:True:=⟨⟩
theorem tw14842460003800876886:True:=⟨⟩
theorem tw14982685227137828758:True:=⟨⟩
theorem tw12205659690895024086:True:=⟨⟩
theorem tw604627371996746742:True:=⟨⟩
theorem tw2298694737197419510:True:=⟨⟩
theorem tw2172669909848549399:True:=⟨⟩
theorem tw17188972718952451159:True:=⟨⟩
theorem tw17017319662998615:True:=⟨⟩
theorem tw6247268493268985975:True:=⟨⟩
theorem tw7287109101882759415:True:=⟨⟩
theorem tw13653928888864918839:True:=⟨⟩
theorem tw12858780395421280599:True:=⟨⟩
theorem tw9065935926736091543:True:=⟨⟩
theorem tw11338825007792423415:True:=⟨⟩
theorem tw6836605351468522007:True:=⟨⟩
theorem tw13379354915994877463:True:=⟨⟩
theorem tw497287684792784471:True:=⟨⟩
theorem tw11989263589944627863:True:=⟨⟩
theorem tw1939405473400901271:True:=⟨⟩
theorem tw9827913525700040407:True:=⟨⟩
theorem tw4307260679431091991:True:=⟨⟩
theorem tw15112835437128306455:True:=⟨⟩
theorem tw13137911371727378231:True:=⟨⟩
theorem tw8627200689577751383:True:=⟨⟩
theorem tw12816248389491904375:True:=⟨⟩
theorem tw15149402430504572791:True:=⟨⟩
theorem tw9984397402777080727:True:=⟨⟩
theorem tw15510365090734361527:True:=⟨⟩
theorem tw8534208459206503383:True:=⟨⟩
theorem tw7704315382344345624:True:=⟨⟩
theorem tw6507506987150044280:True:=⟨⟩
theorem tw5353729903917744248:True:=⟨⟩
theorem tw2876011056497122456:True:=⟨⟩
theorem tw13942192884097748152:True:=⟨⟩
theorem tw10668533816033670360:True:=⟨⟩
theorem tw14195316510222423288:True:=⟨⟩
theorem tw8035625575855466936:True:=⟨⟩
theorem tw7013799640231393816:True:=⟨⟩
theorem tw13064838133494606392:True:=⟨⟩
theorem tw1212124681294104184:True:=⟨⟩
theorem tw9353324838224930552:True:=⟨⟩
theorem tw15841401105113185080:True:=⟨⟩
theorem tw17464823870196871000:True:=⟨⟩
theorem tw14877080517539528568:True:=⟨⟩
theorem tw17362218986543327160:True:=⟨⟩
theorem tw649443455394278489:True:=⟨⟩
theorem tw7712916153251135833:True:=⟨⟩
theorem tw6079359036626576793:True:=⟨⟩
theorem tw13954853420313727417:True:=⟨⟩
theorem tw3746228215898030841:True:=⟨⟩
theorem tw9407594320385231609:True:=⟨⟩
theorem tw11821203517306503961:True:=⟨⟩
theorem tw5274623360512300857:True:=⟨⟩
theorem tw5599997604879368025:True:=⟨⟩
theorem tw15735840784391694233:True:=⟨⟩
theorem tw3556061257289618393:True:=⟨⟩
theorem tw14744981736328886265:True:=⟨⟩
theorem tw15204471325056678010:True:=⟨⟩
theorem tw18260194641540637818:True:=⟨⟩
theorem tw1489404036187247834:True:=⟨⟩
theorem tw11296743742662292762:True:=⟨⟩
theorem tw2237326684586592538:True:=⟨⟩
theorem tw4273228799998304602:True:=⟨⟩
theorem tw3688799982635324794:True:=⟨⟩
theorem tw12775505166333009402:True:=⟨⟩
theorem tw6327039764776113722:True:=⟨⟩
theorem tw9186546921256032858:True:=⟨⟩
theorem tw14061139507663348314:True:=⟨⟩
theorem tw13198292447841614426:True:=⟨⟩
theorem tw4023466491090337370:True:=⟨⟩
theorem tw8476099583838051002:True:=⟨⟩
theorem tw12207028300977255130:True:=⟨⟩
theorem tw7906546307943345882:True:=⟨⟩
theorem tw1852205218256702202:True:=⟨⟩
theorem tw3869590956505411354:True:=⟨⟩
theorem tw11988142204041823098:True:=⟨⟩
theorem tw12201952087667049370:True:=⟨⟩
theorem tw44622916816846810:True:=⟨⟩
theorem tw9777900189565919194:True:=⟨⟩
theorem tw742351954350328859:True:=⟨⟩
theorem tw779419810087314491:True:=⟨⟩
theorem tw7815847008606169339:True:=⟨⟩
theorem tw8912104118211102971:True:=⟨⟩
theorem tw8535708456716222715:True:=⟨⟩
theorem tw3973953319845086491:True:=⟨⟩
theorem tw13227620805987009915:True:=⟨⟩
theorem tw10840385229135970747:True:=⟨⟩
theorem tw4945251732147069371:True:=⟨⟩
theorem tw3715584954343283195:True:=⟨⟩
theorem tw12571670794047424027:True:=⟨⟩
theorem tw8382746154173761051:True:=⟨⟩
theorem tw10293878126165140123:True:=⟨⟩
theorem tw12987040726578829979:True:=⟨⟩
theorem tw930087139818521243:True:=⟨⟩
theorem tw1626232751844553403:True:=⟨⟩
theorem tw466721876749952763:True:=⟨⟩
theorem tw1618804561499322139:True:=⟨⟩
theorem tw1919001801439425371:True:=⟨⟩
theorem tw14655887587153932155:True:=⟨⟩
theorem tw10898857373019930491:True:=⟨⟩
theorem tw2203363585012173787:True:=⟨⟩
theorem tw9142320679590124636:True:=⟨⟩
theorem tw14882813523228863612:True:=⟨⟩
theorem tw573967197379146972:True:=⟨⟩
theorem tw7688317290187622652:True:=⟨⟩
theorem tw1082313596108445148:True:=⟨⟩
theorem tw693309671712327132:True:=⟨⟩
theorem tw9162278640276766204:True:=⟨⟩
theorem tw14646466228836335164:True:=⟨⟩
theorem tw10015159338476511836:True:=⟨⟩
theorem tw10467814448475477596:True:=⟨⟩
theorem tw6889739017440866108:True:=⟨⟩
theorem tw5346772772824661884:True:=⟨⟩
theorem tw7494366503370351645:True:=⟨⟩
theorem tw13988103294471073821:True:=⟨⟩
theorem tw5038994553942263901:True:=⟨⟩
theorem tw5363715690607933:True:=⟨⟩
theorem tw11714945338242495837:True:=⟨⟩
theorem tw17297054508065495485:True:=⟨⟩
theorem tw9280153536138602973:True:=⟨⟩
theorem tw7253898381062576733:True:=⟨⟩
theorem tw13510609219080548989:True:=⟨⟩
theorem tw7119846925741900413:True:=⟨⟩
theorem tw16800043278716471037:True:=⟨⟩
theorem tw10987702880554017565:True:=⟨⟩
theorem tw733406405333840765:True:=⟨⟩
theorem tw10812213935944405949:True:=⟨⟩
theorem tw16903022960794457021:True:=⟨⟩
theorem tw6772502638888315869:True:=⟨⟩
theorem tw140066278072042493:True:=⟨⟩
theorem tw13295774097974887486:True:=⟨⟩
theorem tw4528443807372415038:True:=⟨⟩
theorem tw2491421050496283774:True:=⟨⟩
theorem tw12475708393154427166:True:=⟨⟩
theorem tw17243387458012846398:True:=⟨⟩
theorem tw11439149762140341726:True:=⟨⟩
theorem tw7758381527925395934:True:=⟨⟩
theorem tw4543076655600059902:True:=⟨⟩
theorem tw16106133796442146334:True:=⟨⟩
theorem tw15604011560834605598:True:=⟨⟩
theorem tw3368474557548986910:True:=⟨⟩
theorem tw45052839361067614:True:=⟨⟩
theorem tw14205479233844494046:True:=⟨⟩
theorem tw17700853532424174462:True:=⟨⟩
theorem tw11063524718261073790:True:=⟨⟩
theorem tw3547030090768783262:True:=⟨⟩
theorem tw3062044705579621278:True:=⟨⟩
theorem tw10510622979536455646:True:=⟨⟩
theorem tw10504981510240967646:True:=⟨⟩
theorem tw6857060684267632606:True:=⟨⟩
theorem tw11194998557105285118:True:=⟨⟩
theorem tw13078646160514809887:True:=⟨⟩
theorem tw2869645488183595071:True:=⟨⟩
theorem tw17348764703882912863:True:=⟨⟩
theorem tw4381510469713062047:True:=⟨⟩
theorem tw14393718171448925343:True:=⟨⟩
theorem tw14417885227837004991:True:=⟨⟩
theorem tw8997269238129315039:True:=⟨⟩
theorem tw15035418422258542911:True:=⟨⟩
theorem tw8758324158161630591:True:=⟨⟩
theorem tw9114333099845857663:True:=⟨⟩
theorem tw16871623187472473471:True:=⟨⟩
theorem tw14399547728238965215:True:=⟨⟩
theorem tw4277651752456152607:True:=⟨⟩
theorem tw10261356005730403935:True:=⟨⟩
theorem tw10079960370226730655:True:=⟨⟩
theorem tw12024539317367501503:True:=⟨⟩
theorem tw3749026756887285471:True:=⟨⟩
theorem tw533756555076263647:True:=⟨⟩
theorem tw14720509044617813951:True:=⟨⟩
theorem tw9119898389439641535:True:=⟨⟩
theorem tw3501597964444990463:True:=⟨⟩
theorem tw4874933176625246143:True:=⟨⟩
theorem tw2013075094792191714:True:=⟨⟩
theorem tw17699125900338286826:True:=⟨⟩
theorem tw17201995712799881547:True:=⟨⟩
end head
set_option Elab.async true in
theorem head : PySem.Challenge.rw_qt0005_01.Holds := by
  refine holds_law (by kernel_rfl) fun said => ?_
  o_head (kmHook hk.heap_1 kAs (fun _ => by kernel_rfl) [225])
  case hw => w_witness2
  exact law_walk good_law' _ _ _ _ _ (by kernel_rfl)
end Mine

theorem PySem.Challenge.cw_qt0005_01_holds : PySem.Challenge.rw_qt0005_01.Holds :=
  Mine.head
