import Derived.Test.YtmbeaohkcogohaaGreatDoorS2
set_option maxRecDepth 100000
set_option maxHeartbeats 4000000
set_option linter.unusedVariables false
set_option linter.unusedSimpArgs false
namespace Go.Am
open Go.Proofs Go.Proofs.Tryz
structure Tok where
 k:Nat
 v:ak
 deriving DecidableEq
abbrev Pa (α:Type):=List Tok->Option (α×List Tok)
def Pa.andThen {α β:Type} (x:Pa α) (f:α->Pa β):Pa β:=λl=>match x l with
 |none=>none
 |some (a,r)=>f a r
def Pa.ret {α:Type} (a:α):Pa α:=λl=>some (a,l)
def Pa.on {α:Type} (x:Pa α) (o:Option (List Tok)):Option (α×List Tok):=match o with
 |none=>none
 |some l=>x l
def bC:List Tok->Nat
 |t::_=>t.k
 |[]=>0
def dN:List Tok->ak
 |t::_=>t.v
 |[]=>[]
def aE (k:Nat):Pa ak
 |t::r=>if t.k=k then some (t.v,r)else none
 |[]=>none
def bB (k:Nat):Pa Bool
 |t::r=>if t.k=k then some (true,r)else some (false,t::r)
 |[]=>some (false,[])
abbrev ar:Pa ak:=aE 16
def cF (w:ak):Pa Unit
 |t::r=>if t.k=16/\t.v=w then some ((),r)else none
 |[]=>none
abbrev dt:ak:=[115,99,97,108,97,114]
abbrev eN:ak:=[116,121,112,101]
abbrev bh:ak:=[105,110,116,101,114,102,97,99,101]
abbrev eO:ak:=[117,110,105,111,110]
abbrev fW:ak:=[101,110,117,109]
abbrev ff:ak:=[105,110,112,117,116]
abbrev da:ak:=[115,99,104,101,109,97]
abbrev bK:ak:=[100,105,114,101,99,116,105,118,101]
abbrev fM:ak:=[101,120,116,101,110,100]
abbrev br:ak:=[105,109,112,108,101,109,101,110,116,115]
abbrev du:ak:=[114,101,112,101,97,116,97,98,108,101]
abbrev rq:ak:=[111,110]
abbrev fJ:ak:=[113,117,101,114,121]
abbrev cQ:ak:=[109,117,116,97,116,105,111,110]
abbrev bz:ak:=[115,117,98,115,99,114,105,112,116,105,111,110]
abbrev Gx:ak:=[116,114,117,101]
abbrev B8:ak:=[102,97,108,115,101]
abbrev Gz:ak:=[110,117,108,108]
abbrev gS:ak:=[83,67,65,76,65,82]
abbrev eJ:ak:=[79,66,74,69,67,84]
abbrev cp:ak:=[73,78,84,69,82,70,65,67,69]
abbrev jw:ak:=[85,78,73,79,78]
abbrev lV:ak:=[69,78,85,77]
abbrev cG:ak:=[73,78,80,85,84,95,79,66,74,69,67,84]
abbrev qP:ak:=[81,85,69,82,89]
abbrev j2:ak:=[77,85,84,65,84,73,79,78]
abbrev fN:ak:=[83,85,66,83,67,82,73,80,84,73,79,78]
abbrev qQ:ak:=[70,73,69,76,68]
abbrev cR:ak:=[70,82,65,71,77,69,78,84,95,68,69,70,73,78,73,84,73,79,78]
abbrev eu:ak:=[70,82,65,71,77,69,78,84,95,83,80,82,69,65,68]
abbrev eA:ak:=[73,78,76,73,78,69,95,70,82,65,71,77,69,78,84]
abbrev cS:ak:=[86,65,82,73,65,66,76,69,95,68,69,70,73,78,73,84,73,79,78]
abbrev nR:ak:=[83,67,72,69,77,65]
abbrev dP:ak:=[70,73,69,76,68,95,68,69,70,73,78,73,84,73,79,78]
abbrev cT:ak:=[65,82,71,85,77,69,78,84,95,68,69,70,73,78,73,84,73,79,78]
abbrev ig:ak:=[69,78,85,77,95,86,65,76,85,69]
abbrev cl:ak:=[73,78,80,85,84,95,70,73,69,76,68,95,68,69,70,73,78,73,84,73,79,78]
abbrev bL:ak:=[68,73,82,69,67,84,73,86,69,95,68,69,70,73,78,73,84,73,79,78]
abbrev mJ:List ak:=[qP,j2,fN,qQ,cR,eu,eA,cS,nR,gS,eJ,dP,cT,cp,jw,lV,ig,cG,cl,bL]
def jx (s:ak):Int:=if s=Gx\/s=B8 then 5 else if s=Gz then 6 else 7
def dX:Nat:=8388608
theorem wM:dX=8388608:=rfl
def aQ {α:Type} (p:Pa α) (e:Nat):Nat->Pa (List α)
 |0,_=>none
 |n+1,l=>if bC l=e then some ([],l)else match p l with|none=>none|some (a,l1)=>match aQ p e n l1 with|none=>none|some (aa,l2)=>some (a::aa,l2)
def gC {α:Type} (s e:Nat) (p:Pa α):Pa (List α):=λl=>if bC l=s then(match aQ p e dX l.tail with
 |none=>none
 |some (aa,l1)=>some (aa,l1.tail))else some ([],l)
def ot (g:Pa dM):Pa (ak×dM):=ar.andThen λn=>(aE 8).andThen λ_=>g.andThen λv=> .ret (n,v)
def aU:Nat->Bool->Nat->Pa dM
 |0,_,_,_=>none
 |_+1,_,_,[]=>none
 |n+1,fx,d,t::r=>
  if t.k=11 then(if d <1000 then(match gC 11 12 (aU n fx (d+1)) (t::r)with|some (vs,r')=>some (.mk 8 [] (vs.map λv=>([],v)),r')|none=>none)else none)
  else if t.k=13 then(if d <1000 then(match gC 13 14 (ot (aU n fx (d+1))) (t::r)with|some (ks,r')=>some (.mk 9 [] ks,r')|none=>none)else none)
  else if t.k=3 then(match fx with|true=>none|false=>match ar r with|some (s,r')=>some (.mk 0 s [],r')|none=>none)
  else if t.k=17 then some (.mk 1 t.v [],r)
  else if t.k=18 then some (.mk 2 t.v [],r)
  else if t.k=19 then some (.mk 3 t.v [],r)
  else if t.k=20 then some (.mk 4 t.v [],r)
  else if t.k=16 then some (.mk (jx t.v) t.v [],r)
  else none
def cK:Nat->Nat->Pa gn
 |0,_,_=>none
 |n+1,d,l=>if bC l=11 then(if d <1000 then(match cK n (d+1) l.tail with
  |none=>none
  |some (t,l1)=>match aE 12 l1 with|none=>none|some (_,l2)=>match bB 2 l2 with|none=>none|some (b,l3)=>some (.mk [] [t] b,l3))else none)
  else match ar l with|none=>none|some (nm,l1)=>match bB 2 l1 with|none=>none|some (b,l2)=>some (.mk nm [] b,l2)
def ca {α:Type} (s e:Nat) (p:Pa α):Pa (List α):=λl=>if bC l=s then(match aQ p e dX l.tail with
 |none=>none
 |some (aa,l1)=>if aa.isEmpty then none else some (aa,l1.tail))else some ([],l)
def bE {α:Type} (p:Pa α) (k:Nat):Nat->Pa (List α)
 |0,_=>none
 |n+1,l=>if bC l=k then(match p l.tail with|none=>none|some (a,l1)=>match bE p k n l1 with|none=>none|some (aa,l2)=>some (a::aa,l2))else some ([],l)
def dv {α:Type} (p:Pa α) (k:Nat):Pa (List α):=(bB k).andThen λ_=>p.andThen λa=>Pa.andThen (bE p k dX) λaa=> .ret (a::aa)
abbrev gV (fx:Bool):Pa dM:=aU 1001 fx 0
abbrev gT:Pa gn:=cK 1001 0
def zH (fx:Bool):Pa gx:=ar.andThen λn=>(aE 8).andThen λ_=>(gV fx).andThen λv=> .ret ⟨n,v⟩
def pX (fx:Bool):Pa (List gx):=ca 5 6 (zH fx)
def sm (fx:Bool):Pa kl:=ar.andThen λn=>(pX fx).andThen λaa=> .ret ⟨n,aa⟩
def fI (fx:Bool):Pa (List kl):=bE (sm fx) 10 dX
def fv:Pa ak:=λl=>if bC l=19\/bC l=20 then some (dN l,l.tail)else some ([],l)
def pY (k:Nat):Pa (List dM):=(bB k).andThen λb=>match b with
 |true=>(gV true).andThen λv=> .ret [v]
 |false=> .ret []
def ij:Pa aW:=fv.andThen λdoc=>ar.andThen λn=>(aE 8).andThen λ_=>gT.andThen λt=>(pY 9).andThen λdf=>(fI true).andThen λds=> .ret ⟨doc,n,t,df,ds⟩
def lW:Pa (List aW):=ca 5 6 ij
def ou:Pa jV:=fv.andThen λdoc=>ar.andThen λn=>(aE 8).andThen λ_=>gT.andThen λt=>(pY 9).andThen λdf=>(fI true).andThen λds=> .ret ⟨doc,n,[],df,t,ds⟩
def tm:Pa (List jV):=ca 13 14 ou
def lX:Pa jV:=fv.andThen λdoc=>ar.andThen λn=>lW.andThen λaa=>(aE 8).andThen λ_=>gT.andThen λt=>(fI true).andThen λds=> .ret ⟨doc,n,aa,[],t,ds⟩
def B9:Pa (List jV):=ca 13 14 lX
def pZ:Pa cg:=fv.andThen λdoc=>ar.andThen λn=>(fI true).andThen λds=> .ret ⟨doc,n,ds⟩
def Ml:Pa (List cg):=ca 13 14 pZ
def cE:Pa (List ak):=λl=>if dN l=br then dv ar 4 l.tail else some ([],l)
def cj:Pa (List ak):=(bB 9).andThen λb=>match b with
 |true=>dv ar 15
 |false=> .ret []
def jd:Pa ak:=λl=>if dN l=fJ\/dN l=cQ\/dN l=bz then some (dN l,l.tail)else none
def tp:Pa fD:=jd.andThen λop=>(aE 8).andThen λ_=>ar.andThen λt=> .ret ⟨op,t⟩
def nc:Pa (List fD):=ca 13 14 tp
def eE:Pa ak:=ar.andThen λn=>if n∈mJ then .ret n else λ_=>none
def fX (doc:ak):Pa Def:=(cF dt).andThen λ_=>ar.andThen λn=>(fI true).andThen λds=> .ret ⟨gS,doc,n,ds,[],[],[],[]⟩
def fY (w kd doc:ak):Pa Def:=(cF w).andThen λ_=>ar.andThen λn=>cE.andThen λis=>(fI true).andThen λds=>B9.andThen λfs=> .ret ⟨kd,doc,n,ds,is,fs,[],[]⟩
def ik (doc:ak):Pa Def:=(cF eO).andThen λ_=>ar.andThen λn=>(fI true).andThen λds=>cj.andThen λms=> .ret ⟨jw,doc,n,ds,[],[],ms,[]⟩
def jy (doc:ak):Pa Def:=(cF fW).andThen λ_=>ar.andThen λn=>(fI true).andThen λds=>Ml.andThen λes=> .ret ⟨lV,doc,n,ds,[],[],[],es⟩
def iq (fx:Bool) (doc:ak):Pa Def:=(cF ff).andThen λ_=>ar.andThen λn=>(fI fx).andThen λds=>tm.andThen λfs=> .ret ⟨cG,doc,n,ds,[],fs,[],[]⟩
def bc (fx:Bool) (doc:ak):Pa Def:=λl=>
 if dN l=dt then fX doc l
 else if dN l=eN then fY eN eJ doc l
 else if dN l=bh then fY bh cp doc l
 else if dN l=eO then ik doc l
 else if dN l=fW then jy doc l
 else if dN l=ff then iq fx doc l
 else none
def dw (doc:ak):Pa av:=(cF da).andThen λ_=>(fI true).andThen λds=>nc.andThen λrs=> .ret ⟨doc,ds,rs⟩
def ov:Pa Bool:=λl=>if bC l=16/\dN l=du then some (true,l.tail)else some (false,l)
def mK (doc:ak):Pa dn:=(cF bK).andThen λ_=>(aE 10).andThen λ_=>ar.andThen λn=>lW.andThen λaa=>(fI true).andThen λ_=>ov.andThen λrep=>(cF rq).andThen λ_=>(dv eE 15).andThen λls=> .ret ⟨doc,n,aa,ls,rep⟩
inductive Item where
 |types (d:Def)
 |defs (d:av)
 |cJ (d:dn)
 |aK (d:Def)
 |exts (d:av)
 |none
def Item.add (s:bY):Item->bY
 | .types d=>{s with types:=s.types++[d]}
 | .defs d=>{s with defs:=s.defs++[d]}
 | .cJ d=>{s with cJ:=s.cJ++[d]}
 | .aK d=>{s with aK:=s.aK++[d]}
 | .exts d=>{s with exts:=s.exts++[d]}
 | .none=>s
def Def.bH (d:Def):Bool:=d.cJ.isEmpty&&d.ifaces.isEmpty&&d.fields.isEmpty&&d.types.isEmpty&&d.enums.isEmpty
def ux {α:Type} (em:α->Bool) (g:Pa α):Pa α:=g.andThen λd=>if em d then λ_=> .none else .ret d
def av.bH (d:av):Bool:=d.cJ.isEmpty&&d.roots.isEmpty
def j4:Pa av:=ux av.bH (dw [])
def gU:Pa Def:=ux Def.bH (bc false [])
def tq:Pa (List kl):=(cF bK).andThen λ_=>(aE 10).andThen λ_=>ar.andThen λ_=>(fI true).andThen λds=> .ret ds
def Ca:Pa (List kl):=ux List.isEmpty tq
def kQ:Pa Item:=λl=>
 if dN l=da then(j4.andThen λd=> .ret (.exts d)) l
 else if dN l=bK then(Ca.andThen λ_=> .ret .none) l
 else(gU.andThen λd=> .ret (.aK d)) l
def iL (doc:ak):Pa Item:=λl=>
 if bC l=16 then
  if dN l=da then((dw doc).andThen λd=> .ret (.defs d)) l
  else if dN l=bK then((mK doc).andThen λd=> .ret (.cJ d)) l
  else if dN l=fM then(if doc=[]then kQ l.tail else none)
  else((bc true doc).andThen λd=> .ret (.types d)) l
 else none
def fj:Pa Item:=fv.andThen iL
def db:Nat->bY->List Tok->Option bY
 |0,_,_=>none
 |n+1,s,l=>if bC l=1 then some s else match fj l with|none=>none|some (i,l1)=>db n (i.add s) l1
def Mm:List Tok->Prop
 |[]=>False
 |[t]=>t.k<=1/\t.v=[]
 |t::r=>2<=t.k/\Mm r
def KT (x y:AV):Prop:=∀(g:Gh) (w:World) (v:Value),VR g w x v->v.oneCell'=true->VR g w y v
theorem KT.refl (x:AV):KT x x:=λ_ _ _ h _=>h
theorem KT.one (x:AV):KT x (.one x):=λ_ _ _ h ho=> .one _ _ h ho
theorem KT.un (x:AV):KT (.one x) x:=λ_ _ _ h _=>by cases h;assumption
def fZ:List AV->List AV->Prop
 |[],[]=>True
 |x::xs,y::ys=>KT x y/\fZ xs ys
 |_,_=>False
theorem fZ.refl:∀(l:List AV),fZ l l
 |[]=>trivial
 |x::l=>⟨.refl x,fZ.refl l⟩
theorem fZ.get:∀{xs ys:List AV},fZ xs ys->ys.length=xs.length/\∀i (h1:i <xs.length) (h2:i <ys.length),KT xs[i] ys[i]
 |[],[],_=>⟨O,λi h=>by simp at h⟩
 |x::xs,y::ys,⟨h,hs⟩=>by
  obtain⟨k1,k2⟩:=fZ.get hs;refine⟨by simp[k1],λi h1 h2=>?_⟩
  cases i with|zero=>exact h|succ i=>exact k2 i (by simpa using h1) (by simpa using h2)
 |[],_::_,h=>h.elim
 |_::_,[],h=>h.elim
theorem Rel.ku {g:Gh} {w:World} {h:AH} (R:Rel g w h) {o:Nat} {cs dH:List AV} (hg:h.get o=some (.cells cs)) (hs:fZ cs dH):Rel g w (h.set o (.cells dH)):=by refine R.said hg (by simp) λb hb ⟨vs,T,hw,⟨hn,hv⟩,ho⟩=>?_;obtain⟨k1,k2⟩:=hs.get;exact⟨vs,T,hw,⟨hn.trans k1.symm,λi hi=>k2 i (by omega) hi g w _ (hv i (by omega)) (ho i (by omega))⟩,λi hi=>ho i (by omega)⟩
section
variable {P:Program} {lt:LT} {h h0 h1:AH} {ids:List Nat} {V V':View} {fr aB:ay} {ks:List Kt} {C:Exit->ay->AH->Prop} {f:FuncId} {args:List AV}
theorem AS.ku {o:Nat} {cs dH:List AV} (hg:h.get o=some (.cells cs)) (hs:fZ cs dH):∀g0 w0 a w,AS lt h fr g0 w0 a w->AS lt (h.set o (.cells dH)) fr g0 w0 a w:=by rintro g0 w0 a w ⟨g,lb,E,R,F⟩;exact⟨g,lb,E,R.ku hg hs,F⟩
theorem HI.ku {j o:Nat} {cs dH:List AV} (H:HI h0 ids h V) (hg:nK j V=some (o,cs)) (hs:BS j o dH V=some V'):HI h0 ids (h.set o (.cells dH)) V':=by
 have DW:=jq hg
 obtain⟨k1,k2,k3⟩:=uK hg hs;refine⟨H.hv.set hg hs,⟨H.kp.n,λk hk hi=>?_,H.kp.nt,H.kp.bV,H.kp.aV⟩,λe he=>?_⟩
 .simp only[AH.set];rw[if_neg]
  .exact H.kp.get k hk hi
  .rintro rfl;rcases H.new _ DW with h4|h4
   .exact hi h4
   .simp only at h4;omega
 .rcases k3 e he with h4|h4
  .subst h4;exact H.new (o,cs) DW
  .exact H.new e h4
theorem jK (j:Nat) {o:Nat} {cs:List AV} (dH:List AV) (H:HI h0 ids h V) (hg:nK j V=some (o,cs)) (hv:BS j o dH V=some V') (hs:fZ cs dH) {c:Code}
 (K:∀h',HI h0 ids h' V'->(h'.n=h.n/\h'.nt=h.nt/\h'.bV=h.bV)->XS P lt C (.code c) ks fr h'):XS P lt C (.code c) ks fr h:=
 I8 (AS.ku (H.hv.get (jq hg)).1 hs) (K _ (H.ku hg hv) ⟨O,O,O⟩)
theorem fm (j:Nat) {o:Nat} {cs:List AV} (dH:List AV) (H:HI h0 ids h V) (hg:nK j V=some (o,cs)) (hv:BS j o dH V=some V') (hs:fZ cs dH) {ops l:List Oper} {D:List Nat}
 (K:∀h',HI h0 ids h' V'->(h'.n=h.n/\h'.nt=h.nt/\h'.bV=h.bV)->XS P lt C (.ops ops l D) ks fr h'):XS P lt C (.ops ops l D) ks fr h:=
 yW (AS.ku (H.hv.get (jq hg)).1 hs) (K _ (H.ku hg hv) ⟨O,O,O⟩)
theorem AS.slot {t:Tmp} {x y:AV} (ht:fr.f t= .v x) (hs:∀g w v,VR g w x v->VR g w y v):∀g0 w0 a w,AS lt h fr g0 w0 a w->AS lt h (fr.bf t (.v y)) g0 w0 a w:=by
 rintro g0 w0 a w ⟨g,lb,E,R,F⟩;refine⟨g,lb,E,R,F.defers,F.size,λk hk=>?_,λk d' off e=>?_,F.OH,F.Jd⟩
 .simp only[ay.bf];split
  .rename_i Yw;have Yw:=Nat.eq_of_beq_eq_true Yw;subst Yw;have:=F.slot k hk;rw[ht]at this;exact hs _ _ _ this
  .exact F.slot k hk
 .simp only[ay.bf]at e;split at e
  .cases e
  .exact F.hold k d' off e
theorem qR {x:AV}:∀(g:Gh) (w:World) (v:Value),VR g w (.one x) v->VR g w x v:=λ_ _ _ h=>by cases h;assumption
theorem Ob (t:Tmp) {x:AV} (ht:fr.f t= .v (.one x)) {c:Code} (K:XS P lt C (.code c) ks (fr.bf t (.v x)) h):XS P lt C (.code c) ks fr h:=I8 (AS.slot ht qR) K
theorem ib (t:Tmp) {x:AV} (ht:fr.f t= .v (.one x)) {ops l:List Oper} {D:List Nat} (K:XS P lt C (.ops ops l D) ks (fr.bf t (.v x)) h):XS P lt C (.ops ops l D) ks fr h:=yW (AS.slot ht qR) K
theorem al.mono {Q Q':AV->AH->Prop} (H:al P f args h Q) (hq:∀v h',Q v h'->Q' v h'):al P f args h Q':=by obtain⟨v,h',q,r⟩:=H;exact⟨v,h',hq v h' q,r⟩
theorem al.one {Q Q':AV->AH->Prop} (H:al P f args h Q) (hc:∀v h',Q v h'->v.cells=some [v]) (hq:∀v h',Q v h'->Q' (.one v) h'):al P f args h Q':=by
 obtain⟨v,h',q,r⟩:=H;refine⟨.one v,h',hq v h' q,λg w vs R nC=>Calls.mono (r g w vs R nC) ?_⟩;rintro e w' ⟨u,g',rfl,E,R',V⟩;refine⟨u,g',O,E,R',.one _ _ V ?_⟩;have hv:=V.cells (hc v h' q);have h1:u.cells.size=1:=hv.1.1;have h2:=hv.2 0 (by simp)
 cases u<;>first|rfl|skip
 .rename_i cs;exfalso;have hx:=hc v h' q
  cases V with
  |agg dH=>simp only[AV.cells]at hx;injection hx with hx;have:=congrArg (λl:List AV=>SizeOf.sizeOf l) hx;simp at this;omega
  |one x' _ _ ho=>cases ho
 .rename_i cs;exfalso;have hx:=hc v h' q
  cases V with|cN dH=>simp[AV.cells]at hx|one x' _ _ ho=>cases ho
theorem al.ku {Q Q':AV->AH->Prop} (o:Nat) (H:al P f args h Q) (hq:∀v h',Q v h'->∃cs dH,h'.get o=some (.cells cs)/\fZ cs dH/\Q' v (h'.set o (.cells dH))):al P f args h Q':=by obtain⟨v,h',q,r⟩:=H;obtain⟨cs,dH,hg,hs,q'⟩:=hq v h' q;refine⟨v,_,q',λg w vs R nC=>Calls.mono (r g w vs R nC) ?_⟩;rintro e w' ⟨u,g',rfl,E,R',V⟩;exact⟨u,g',O,E,R'.ku hg hs,V⟩
theorem Kp.set {o:Nat} {x:mV} (k:Kp ids h h1) (ho:o∈ids):Kp ids h (h1.set o x):=⟨k.n,λi hi hn=>by simp only[AH.set];rw[if_neg (λ(e:i=o)=>hn (e▸ho))];exact k.get i hi hn,k.nt,k.bV,k.aV⟩
end
section
attribute [local irreducible] AC AL AW AD aP
structure cM (L:ak->Nat->Option (Int×ak×Nat)):Prop where
 run:∀{h:AH} {o:Nat} {s:ak} {st e:Nat} {rest:List AV},LO h o s st e rest->h.aV=bQ->al prog 99 [.ptr o 0] h (λx h'=>Kp [o] h h'/\si s o rest (L s e) x h')
 pos:∀{s:ak} {e:Nat} {k:Int} {v:ak} {e':Nat},L s e=some (k,v,e')->1<=k
 grow:∀{s:ak} {e:Nat} {k:Int} {v:ak} {e':Nat},L s e=some (k,v,e')->k≠1->e <e'/\e'<=s.length
 eof:∀{s:ak} {e:Nat} {v:ak} {e':Nat},L s e=some (1,v,e')->v=[]/\L s e'=some (1,[],e')
section
variable {L:ak->Nat->Option (Int×ak×Nat)}
def mL (L:ak->Nat->Option (Int×ak×Nat)) (s:ak):Nat->Nat->List Tok
 |0,_=>[⟨0,[]⟩]
 |n+1,e=>match L s e with|none=>[⟨0,[]⟩]|some (k,v,e')=>if k=1 then[⟨1,[]⟩]else if k=21 then mL L s n e' else⟨k.toNat,v⟩::mL L s n e'
def jz (L:ak->Nat->Option (Int×ak×Nat)) (s:ak) (e:Nat):List Tok:=mL L s (s.length -e+1) e
theorem Mn (R:cM L) (s:ak):∀(n m e:Nat),s.length -e <n->s.length -e <m->mL L s n e=mL L s m e:=by
 intro n
 induction n with
 |zero=>intro m e h;omega
 |succ n ih=>
  intro m e h1 h2;obtain⟨m,rfl⟩:∃m',m=m'+1:=⟨m -1,by omega⟩;simp only[mL]
  cases hl:L s e with
  |none=>rfl
  |some x=>
   obtain⟨k,v,e'⟩:=x;simp only
   by_cases hk:k=1
   .rw[if_pos hk,if_pos hk]
   .have:=R.grow hl hk
    rw[if_neg hk,if_neg hk,ih m e' (by omega) (by omega)]
theorem mM (R:cM L) (s:ak) (e:Nat):jz L s e=match L s e with
 |none=>[⟨0,[]⟩]
 |some (k,v,e')=>if k=1 then[⟨1,[]⟩]else if k=21 then jz L s e' else⟨k.toNat,v⟩::jz L s e':=by
 rw[jz,mL]
 cases hl:L s e with
 |none=>rfl
 |some x=>
  obtain⟨k,v,e'⟩:=x;simp only
  by_cases hk:k=1
  .rw[if_pos hk,if_pos hk]
  .have:=R.grow hl hk
   rw[if_neg hk,if_neg hk,jz,Mn R s _ (s.length -e'+1) e' (by omega) (by omega)]
theorem Mo (R:cM L) (s:ak) (e:Nat):(jz L s e).length<=s.length -e+1:=by
 suffices H:∀n e,(mL L s n e).length<=s.length -e+1 from H _ _
 intro n
 induction n with
 |zero=>intro e;simp[mL]
 |succ n ih=>
  intro e;simp only[mL]
  cases hl:L s e with
  |none=>simp
  |some x=>
   obtain⟨k,v,e'⟩:=x;simp only
   by_cases hk:k=1
   .rw[if_pos hk];simp
   .have:=R.grow hl hk
    have:=ih e'
    rw[if_neg hk];split
    .omega
    .simp;omega
theorem Mp (R:cM L) (s:ak) (e:Nat):Mm (jz L s e):=by
 suffices H:∀n e,Mm (mL L s n e) from H _ _
 intro n
 induction n with
 |zero=>intro e;simp[mL,Mm]
 |succ n ih=>
  intro e;simp only[mL]
  cases hl:L s e with
  |none=>simp[Mm]
  |some x=>
   obtain⟨k,v,e'⟩:=x;simp only
   by_cases hk:k=1
   .rw[if_pos hk];simp[Mm]
   .have h1:=R.pos hl
    rw[if_neg hk];split
    .exact ih e'
    .have:=ih e'
     cases hq:mL L s n e' with|nil=>rw[hq]at this;exact this.elim|cons x r=>rw[hq]at this;exact⟨by show 2<=k.toNat;omega,this⟩
end
abbrev Q4 (k:Int) (v:ak) (p q r t:Int) (sr:AV):List AV:=[.int .i64 k,.str v,.int .i64 p,.int .i64 q,.int .i64 r,.int .i64 t,sr]
structure PK where
 st:Nat
 a:Int
 e:Nat
 b:Int
 c:Int
 d:Int
 er:AV
 pk:Bool
 k:Int
 v:ak
 p:Int
 q:Int
 r:Int
 t:Int
 sr:AV
 pe:AV
 k2:Int
 v2:ak
 p2:Int
 q2:Int
 r2:Int
 t2:Int
 fK:AV
 cm:AV
 cc:Bool
 tc:Int
 dp:Int
abbrev PK.rest (K:PK):List AV:=[K.er,.bool K.pk,.int .i64 K.k,.str K.v,.int .i64 K.p,.int .i64 K.q,.int .i64 K.r,.int .i64 K.t,K.sr,K.pe,.int .i64 K.k2,.str K.v2,.int .i64 K.p2,.int .i64 K.q2,.int .i64 K.r2,.int .i64 K.t2,K.fK,K.cm,.bool K.cc,.int .i64 K.tc,.int .i64 0,.int .i64 K.dp]
abbrev PK.cells (s:ak) (K:PK):List AV:=na s K.st K.a K.e K.b K.c K.d K.rest
def Mq (s:ak) (o:Option (List Tok)) (x:AV):Prop:=∃k v p q r t sr,x= .agg (Q4 k v p q r t sr)/\∀l,o=some l->k=bC l/\v=dN l/\sr=dF s
section
variable (L:ak->Nat->Option (Int×ak×Nat))
def Si (s:ak) (K:PK) (l:List Tok):Prop:=K.sr=dF s/\((K.k=0/\K.v=[]/\l=[⟨0,[]⟩]/\∃y,K.pe= .iface 248 y)\/(K.pe= .bu/\K.k=1/\K.v=[]/\l=[⟨1,[]⟩]/\jz L s K.e=l)\/(K.pe= .bu/\2<=K.k/\K.k≠21/\l=⟨K.k.toNat,K.v⟩::jz L s K.e))
structure PR (s:ak) (K:PK) (o:Option (List Tok)) (d:Nat):Prop where
 sz:s.length<=1048576
 e:K.e<=s.length
 cm:∃x,K.cm= .one x
 cc:K.cc=false
 dp:K.dp=d
 dd:d<=1000
 no:o=none->∃y,K.er= .iface 248 y
 so:∀l,o=some l->K.er= .bu/\(K.pk=false->l=jz L s K.e)/\(K.pk=true->Si L s K l)
end
section
variable {L:ak->Nat->Option (Int×ak×Nat)} {s:ak} {K:PK} {o:Option (List Tok)} {d p:Nat} {h h0 h1:AH} {ids:List Nat} {V:View}
theorem PR.Xd (P:PR L s K o d):∃(K':PK) (x:AV),K={K' with cm:= .one x}:=let⟨x,e⟩:=P.cm;⟨K,x,by cases K;cases e;rfl⟩
theorem PK.D4 (s:ak) (K:PK):fZ (K.cells s) ({K with cm:= .one K.cm}.cells s):=⟨.refl _,.refl _,.refl _,.refl _,.refl _,.refl _,.refl _,.refl _,.refl _,.refl _,.refl _,.refl _,.refl _,.refl _,.refl _,.refl _,.refl _,.refl _,.refl _,.refl _,.refl _,.refl _,.refl _,.refl _,.one _,.refl _,.refl _,.refl _,.refl _,trivial⟩
theorem PR.len (R:cM L) (P:PR L s K o d) {l:List Tok} (e:o=some l):l.length<=1048578/\Mm l:=by
 obtain⟨h1,h2,h3⟩:=P.so l e;have sz:=P.sz;have q1:=Mo R s K.e;have q2:=Mp R s K.e
 cases hp:K.pk with
 |false=>rw[h2 hp];exact⟨by omega,q2⟩
 |true=>
  obtain⟨_,⟨_,_,rfl,_⟩|⟨_,_,_,rfl,_⟩|⟨_,h5,_,rfl⟩⟩:=h3 hp
  .simp[Mm]
  .simp[Mm]
  .refine⟨by simp;omega,?_⟩
   cases hq:jz L s K.e with|nil=>rw[hq]at q2;exact q2.elim|cons x r=>rw[hq]at q2;exact⟨by show 2<=K.k.toNat;omega,q2⟩
end
section
variable {L:ak->Nat->Option (Int×ak×Nat)} {s:ak} {K:PK} {o:Option (List Tok)} {d p:Nat} {h h0 h1:AH} {ids:List Nat} {V:View} {l:List Tok}
structure CR (L:ak->Nat->Option (Int×ak×Nat)) (s:ak) (K:PK) (l:List Tok) (d:Nat):Prop where
 sz:s.length<=1048576
 e:K.e<=s.length
 cm:∃x,K.cm= .one x
 cc:K.cc=true
 dp:K.dp=d
 dd:d<=1000
 er:K.er= .bu
 no:K.pk=false->l=jz L s K.e
 yes:K.pk=true->(K.k=21/\K.pe= .bu/\K.sr=dF s/\l=jz L s K.e)\/Si L s K l
abbrev PK.tk (K:PK):List AV:=Q4 K.k K.v K.p K.q K.r K.t K.sr
theorem GA (ho:p <h0.n) (he:K.er= .bu) (hc:K.cc=true) (hg:h0.get p=some (.cells (K.cells s))):
 al prog 100 [.ptr p 0] h0 (λv h'=>v= .cN []/\Kp [p] h0 h'/\h'.get p=some (.cells (K.cells s))):=by
 obtain⟨st,a,e,b,c,d',er,pk,k,v,p1,q1,r1,t1,sr,pe,k2,v2,p2,q2,r2,t2,fK,cm,cc,tc,dp⟩:=K;simp only at he hc;subst he hc;refine az (n:=37) (rs:=[]) [] ⟨func100,O,O,O⟩ O <| have H:=HI.one hg ho;an [0,90,0,91] H O λh H Y=>?_;exact ab [] H O ⟨O,H.kp,H.at_.1⟩
theorem Jz (R:cM L) (ho:p <h0.n) (hT:h0.aV=bQ) (hg:h0.get p=some (.cells (K.cells s))) (C:CR L s K l d):
 al prog 67 [.ptr p 0] h0 (λv h'=>∃K':PK,v= .agg K'.tk/\Kp [p] h0 h'/\h'.get p=some (.cells (K'.cells s))/\CR L s K' l d/\K'.pk=true/\(K'.k=21->2*(s.length -K'.e)+1<=2*(s.length -K.e)+b1 K.pk)/\K'.fK=K.fK):=by
 obtain⟨st,a,e,b,c,d',er,pk,k,v,p1,q1,r1,t1,sr,pe,k2,v2,p2,q2,r2,t2,fK,cm,cc,tc,dp⟩:=K;obtain⟨c1,c2,c3,c4,c5,c6,c7,c8,c9⟩:=C;simp only at c2 c3 c4 c5 c6 c7 c8 c9;subst c4 c7;refine az (n:=45) (rs:=[.cell 2 88]) [] ⟨func67,O,O,O⟩ O <| have H:=HI.one hg ho;an [0,90,0] H O λh H Y=>?_
 cases pk with
 |true=>refine cX O <| an [0,1] H O λh H Y=>ab [1] H O ?_;exact⟨⟨st,a,e,b,c,d',.bu,true,k,v,p1,q1,r1,t1,sr,pe,k2,v2,p2,q2,r2,t2,fK,cm,true,tc,dp⟩,O,H.kp,H.at_.1,⟨c1,c2,c3,O,c5,c6,O,c8,c9⟩,O,λ_=>by simp[b1],O⟩
 |false=>
  refine jI O <| ah H O λh H Y=>ae O call99 (R.run (LO.mk' H c1 c2) (H.kp.aV.trans hT)) ?_;rintro x h2 ⟨k3,LR⟩;have grow:= @R.grow s e;have Dk:=mM R s e;have pos:= @R.pos s e;have eof:= @R.eof s e
  cases hl:L s e with
  |none=>rw[hl]at LR Dk;obtain⟨t,y,uv,e',rfl,⟨cs,rfl⟩,⟨w1,w2,w3,w4,rfl⟩,iX,jZ,iA,a3,b3,KU,d3,bF⟩:=LR;replace H:=H.aA k3 bF;refine an [0,0,0,0,90,0,1] H O λh H Y=>ab [1] H O ?_;refine⟨⟨uv,a3,e',b3,KU,d3,.bu,true,0,[],w1,w2,w3,w4,dF s,_,k2,v2,p2,q2,r2,t2,fK,cm,true,tc,dp⟩,O,H.kp,H.at_.1,⟨c1,iA,c3,O,c5,c6,O,by simp,λ_=> .inr ⟨O,.inl ⟨O,O,?_,_,O⟩⟩⟩,O,(λe=>by cases e),O⟩;rw[c8 O,Dk]
  |some w=>
   obtain⟨k',v',e'⟩:=w;rw[hl]at LR Dk;have grow:=grow hl;have pos:=pos hl;obtain⟨t,uv,rfl,⟨w1,w2,w3,w4,rfl⟩,iX,jZ,iA,a3,b3,KU,d3,bF⟩:=LR;replace H:=H.aA k3 bF;refine an [0,0,0,0] H O λh H Y=>?_;have fin:∀{h4:AH} {V:View},HI h0 [p] h4 ((p,PK.cells s ⟨uv,a3,e',b3,KU,d3,.bu,true,k',v',w1,w2,w3,w4,dF s,.bu,k2,v2,p2,q2,r2,t2,fK,cm,true,tc,dp⟩)::V)->
    ∃K':PK,AV.agg (Q4 k' v' w1 w2 w3 w4 (dF s))= .agg K'.tk/\Kp [p] h0 h4/\h4.get p=some (.cells (K'.cells s))/\CR L s K' l d/\K'.pk=true/\(K'.k=21->2*(s.length -K'.e)+1<=2*(s.length -e)+b1 false)/\K'.fK=fK:=λ{h4 V} H4=>by
    refine⟨⟨uv,a3,e',b3,KU,d3,.bu,true,k',v',w1,w2,w3,w4,dF s,.bu,k2,v2,p2,q2,r2,t2,fK,cm,true,tc,dp⟩,O,H4.kp,H4.at_.1,⟨c1,iA,c3,O,c5,c6,O,by simp,λ_=>?_⟩,O,λSe=>?_,O⟩
    .have uB:=c8 O
     simp only at Dk|-;rw[uB,Dk]
     by_cases h1:k'=1
     .subst h1;obtain⟨rfl,q2⟩:=eof hl;refine .inr ⟨O,.inr (.inl ⟨O,O,O,by rw[if_pos O],?_⟩)⟩;show jz L s e'=_;rw[mM R,q2];simp
     .rw[if_neg h1]
      by_cases h2:k'=21
      .rw[if_pos h2];exact .inl ⟨h2,by trivial,by trivial,O⟩
      .rw[if_neg h2];exact .inr ⟨O,.inr (.inr ⟨by trivial,by show 2<=k';omega,h2,O⟩)⟩
    .have:=grow (by intro e;simp only at Se;omega)
     simp only[b1];omega
   refine af O (λhb=>?_) λhb=>?_
   .refine an [0] H O λh H Y=>ae O call100 (GA (K:=⟨uv,a3,e',b3,KU,d3,.bu,true,k',v',w1,w2,w3,w4,dF s,.bu,k2,v2,p2,q2,r2,t2,fK,cm,true,tc,dp⟩) H.at_.2 O O H.at_.1) ?_;rintro x h3 ⟨rfl,k4,jj⟩;replace H:=H.aA k4 jj;exact an [0,1] H O λh H Y=>ab [1] H O (fin H)
   .exact an [0,1] H O λh H Y=>ab [1] H O (fin H)
theorem JA (ho:p <h0.n) (hg:h0.get p=some (.cells (K.cells s))) (C:CR L s K l d) (hp:K.pk=true) (D0:K.k=21):
 al prog 101 [.ptr p 0] h0 (λv h'=>∃K':PK,v= .agg K.tk/\Kp [p] h0 h'/\h'.get p=some (.cells (K'.cells s))/\CR L s K' l d/\K'.pk=false/\K'.e=K.e/\K'.fK=dF s):=by
 obtain⟨st,a,e,b,c,d',er,pk,k,v,p1,q1,r1,t1,sr,pe,k2,v2,p2,q2,r2,t2,fK,cm,cc,tc,dp⟩:=K;obtain⟨c1,c2,c3,c4,c5,c6,c7,c8,c9⟩:=C;simp only at c2 c3 c4 c5 c6 c7 c8 c9 hp D0;subst c4 c7 hp D0;have Xe:pe= .bu/\l=jz L s e/\sr=dF s:=by
  rcases c9 rfl with⟨_,h1,h3,h2⟩|⟨_,⟨h1,_⟩|⟨_,h1,_⟩|⟨_,_,h1,_⟩⟩
  .exact⟨h1,h2,h3⟩
  .cases h1
  .cases h1
  .exact absurd O h1
 obtain⟨rfl,hl,rfl⟩:=Xe;refine al.ku p (Q:=λv' h'=>v'= .agg (Q4 21 v p1 q1 r1 t1 (dF s))/\Kp [p] h0 h'/\∃Yx:Int,h'.get p=some (.cells (PK.cells s ⟨st,a,e,b,c,d',.bu,false,21,v,p1,q1,r1,t1,dF s,.bu,21,v,p1,q1,r1,t1,dF s,.bq,true,Yx,dp⟩))) ?_ ?_
 .refine az (n:=93) (rs:=[.cell 2 88]) [] ⟨func101,O,O,O⟩ O <| have H:=HI.one hg ho;an [0,90,0,0,0] H O λh H Y=>?_;refine aR O (λhb=>?_) λhb=>?_
  .cases hb
  exact an [0,90,0,91,0,0,0,0,0,0,0,1] H O λh H Y=>ab [1] H O ⟨O,H.kp,_,H.at_.1⟩
 .rintro v' h' ⟨rfl,kp,Yx,JB⟩;exact⟨_,_,JB,PK.D4 s _,⟨st,a,e,b,c,d',.bu,false,21,v,p1,q1,r1,t1,dF s,.bu,21,v,p1,q1,r1,t1,dF s,.one .bq,true,Yx,dp⟩,O,kp.set (by simp),by simp[AH.set],⟨c1,c2,⟨_,O⟩,O,c5,c6,O,λ_=>hl,by simp⟩,O,O,O⟩
theorem sn (R:cM L) (ho:p <h0.n) (hT:h0.aV=bQ) (hg:h0.get p=some (.cells (K.cells s))) (C:CR L s K l d):
 al prog 148 [.ptr p 0] h0 (λv h'=>∃(K':PK) (x:AV) (b:Bool),v= .cN [x,.bool b]/\Kp [p] h0 h'/\h'.get p=some (.cells (K'.cells s))/\CR L s K' l d/\(b=true->2*(s.length -K'.e)+b1 K'.pk <2*(s.length -K.e)+b1 K.pk/\∃cs,x= .ref none cs)/\(b=false->K'.pk=true/\Si L s K' l/\x= .bq)/\(K.fK=dF s->K'.fK=dF s)):=by
 have Ov:=C.er
 obtain⟨st,a,e,b,c,d',er,pk,k,v,p1,q1,r1,t1,sr,pe,k2,v2,p2,q2,r2,t2,fK,cm,cc,tc,dp⟩:=K;simp only at Ov;subst Ov;refine az (n:=22) (rs:=[.tmp 2,.tmp 3]) [] ⟨func148,O,O,O⟩ O <| have H:=HI.one hg ho;an [0,90] H O λh H Y=>?_;refine ae O call67 (Jz R H.at_.2 (H.kp.aV.trans hT) H.at_.1 C) ?_;rintro x h2 ⟨K',rfl,k3,bF,C3,hp,hm,BQ⟩;replace H:=H.aA k3 bF;refine an [1,1] H O λh H Y=>af O (λhb=>?_) λhb=>?_
 .refine ah H O λh H Y=>?_;refine ab [] H O ⟨_,_,_,O,H.kp,H.at_.1,C3,by simp,λ_=>⟨hp,?_,O⟩,λe=>BQ.trans e⟩;rcases C3.yes hp with⟨q,_⟩|q
  .simp[q]at hb
  .exact q
 .refine ah H O λh H Y=>?_;have D0:K'.k=21:=by simpa using hb
  refine ae O call101 (JA H.at_.2 H.at_.1 C3 hp D0) ?_;rintro x h2 ⟨K2,rfl,k4,jj,C4,iy,Ii,jZ⟩;replace H:=H.aA k4 jj;refine aS [21] [1] H O λh H Y=>?_;refine ab [] H O ⟨_,_,_,O,H.kp,H.at_.1,C4,λ_=>⟨?_,_,O⟩,by simp,λ_=>jZ⟩;have:=hm D0;rw[Ii,iy];simp only[b1]at this|-;simp at this|-;omega
theorem JC (R:cM L) (ho:p <h0.n) (hT:h0.aV=bQ) (hg:h0.get p=some (.cells (K.cells s))) (hc:K.cc=false) (C:CR L s {K with cc:=true} l d):
 al prog 100 [.ptr p 0] h0 (λv h'=>∃K':PK,v= .cN []/\Kp [p] h0 h'/\h'.get p=some (.cells (K'.cells s))/\PR L s K' (some l) d/\K'.pk=true/\(K.fK=dF s->K'.fK=dF s)):=by
 have Ov:=C.er
 have gJ:=C.sz
 obtain⟨st,a,e,b,c,d',er,pk,k,v,p1,q1,r1,t1,sr,pe,k2,v2,p2,q2,r2,t2,fK,cm,cc,tc,dp⟩:=K;simp only at Ov hc;subst Ov hc;refine al.ku p (Q:=λv' h'=>v'= .cN []/\Kp [p] h0 h'/\∃K':PK,h'.get p=some (.cells (K'.cells s))/\PR L s {K' with cm:= .one K'.cm} (some l) d/\K'.pk=true/\(fK=dF s->K'.fK=dF s)) ?_ (by rintro v' h' ⟨rfl,kp,K',JB,P',h1,h2⟩;exact⟨_,_,JB,PK.D4 s K',{K' with cm:= .one K'.cm},O,kp.set (by simp),by simp[AH.set],P',h1,h2⟩)
 refine az (n:=37) (rs:=[]) [] ⟨func100,O,O,O⟩ O <| have H:=HI.one hg ho;an [0,90,0,90,0] H O λh H Y=>?_;refine aC 37 (λx:PK×AV×List (List AV)=>2*(s.length -x.1.e)+b1 x.1.pk) (λx=>[(0,.ptr p 0),(2,x.2.1)])
  (λx h'=>HI h0 [p] h' [(p,x.1.cells s)]/\CR L s x.1 l d/\aG h0 h' 1 x.2.1 x.2.2/\x.2.2.length+(2*(s.length -x.1.e)+b1 x.1.pk)<=2097153/\(fK=dF s->x.1.fK=dF s))
  (λx:PK×AV=>[(0,.ptr p 0),(2,x.2)]) (λx h'=>HI h0 [p] h' [(p,PK.cells s x.1)]/\CR L s x.1 l d/\x.1.pk=true/\Si L s x.1 l/\(x.2= .ao\/∃tk es,x.2= .vec tk 1 es)/\(fK=dF s->x.1.fK=dF s))
  (⟨st,a,e,b,c,d',.bu,pk,k,v,p1,q1,r1,t1,sr,pe,k2,v2,p2,q2,r2,t2,fK,cm,true,tc,dp⟩,.ao,[]) O ⟨H,C,.inl ⟨O,O⟩,?_,id⟩ ?_ ?_
 .simp only[List.length_nil];have:b1 pk<=1:=by unfold b1;split<;>omega
  omega
 .clear H;rintro⟨K1,x,es⟩ h ⟨H,C1,G,hb,Cb⟩ again done;replace hb:es.length+(2*(s.length -K1.e)+b1 K1.pk)<=2097153:=hb;refine ah H O λh H Y=>ae O call148 (sn R H.at_.2 (H.kp.aV.trans hT) H.at_.1 C1) ?_;rintro y h2 ⟨K2,y,b,rfl,k3,bF,C2,ht,hf,BQ⟩;replace H:=H.aA k3 bF;replace G:=(G.eq Y.2.1 Y.2.2).kp k3;refine aH H G O λh H G Y=>af O (λaT=>?_) λaT=>?_
  .refine ah H O λh H Y=>?_;obtain⟨q1,q2,q3⟩:=hf (by simpa using aT);exact done (K2,x) O ⟨H,C2,q1,q2,G.form.imp id λ⟨tk,e⟩=>⟨tk,es,e⟩,λe=>BQ (Cb e)⟩
  .obtain⟨q1,cs,rfl⟩:=ht (by simpa using aT);refine ah H O λh H Y=>eK H O O O O O O O (G.eq Y.2.1 Y.2.2) ?_ ?_
   .show(es.length+1)*(8+1)<=140737488355328;omega
   clear H;intro x' h H G n_;refine ah H O λh H Y=>?_;exact again (K2,x',es++[[.ref none cs]]) q1 O ⟨H,C2,G.eq Y.2.1 Y.2.2,by simp only[List.length_append,List.length_cons,List.length_nil];simp only at q1;omega,λe=>BQ (Cb e)⟩
 .clear H;rintro⟨K1,x⟩ h ⟨H,C1,hp,hk,hx,BQ⟩;have Ov:=C1.er;generalize fK=Yy at BQ|-;obtain⟨st,a,e,b,c,d',er,pk,k,v,p1,q1,r1,t1,sr,pe,k2,v2,p2,q2,r2,t2,fK,cm,cc,tc,dp⟩:=K1;obtain⟨c1,c2,c3,c4,c5,c6,c7,c8,c9⟩:=C1;simp only at c2 c3 c4 c5 c6 c7 hp;subst c7 hp;have fin:∀{h4:AH} {x:AV},HI h0 [p] h4 [(p,PK.cells s ⟨st,a,e,b,c,d',.bu,true,k,v,p1,q1,r1,t1,sr,pe,k2,v2,p2,q2,r2,t2,fK,.ref none [x],false,tc,dp⟩)]->
   AV.cN []= .cN []/\Kp [p] h0 h4/\∃K':PK,h4.get p=some (.cells (K'.cells s))/\PR L s {K' with cm:= .one K'.cm} (some l) d/\K'.pk=true/\(Yy=dF s->K'.fK=dF s):=λ{h4 x} H4=>by
   refine⟨O,H4.kp,⟨st,a,e,b,c,d',.bu,true,k,v,p1,q1,r1,t1,sr,pe,k2,v2,p2,q2,r2,t2,fK,.ref none [x],false,tc,dp⟩,H4.at_.1,⟨c1,c2,⟨_,O⟩,O,c5,c6,by simp,λl' e'=>?_⟩,O,BQ⟩;injection e' with e'
   subst e';exact⟨O,by simp,λ_=>hk⟩
  rcases hx with rfl|⟨tk,es,rfl⟩
  .exact aS [31] [0,0] H O λh H Y=>cy [] H O (fin H)
  .exact aS [31] [0,0] H O λh H Y=>cy [] H O (fin H)
end
section
variable {L:ak->Nat->Option (Int×ak×Nat)} {s:ak} {K:PK} {o:Option (List Tok)} {d p:Nat} {h h0 h1:AH} {ids:List Nat} {V:View} {l:List Tok}
theorem Si.tok (P:Si L s K l):K.k=bC l/\K.v=dN l/\K.sr=dF s:=by
 obtain⟨h1,⟨h2,h3,rfl,_⟩|⟨_,h2,h3,rfl,_⟩|⟨_,h2,_,rfl⟩⟩:=P
 .exact⟨h2,h3,h1⟩
 .exact⟨h2,h3,h1⟩
 .exact⟨by simp only[bC];omega,O,h1⟩
theorem uO (R:cM L) (ho:p <h0.n) (hT:h0.aV=bQ) (hg:h0.get p=some (.cells (K.cells s))) (P:PR L s K o d):
 al prog 67 [.ptr p 0] h0 (λv h'=>∃K':PK,Mq s o v/\Kp [p] h0 h'/\h'.get p=some (.cells (K'.cells s))/\PR L s K' o d/\(∀l,o=some l->K'.pk=true)/\(K.fK=dF s->K'.fK=dF s)):=by
 obtain⟨st,a,e,b,c,d',er,pk,k,v,p1,q1,r1,t1,sr,pe,k2,v2,p2,q2,r2,t2,fK,cm,cc,tc,dp⟩:=K;have P0:=P;obtain⟨c1,c2,c3,c4,c5,c6,c7,c8⟩:=P;simp only at c2 c3 c4 c5 c7 c8;subst c4;refine az (n:=45) (rs:=[.cell 2 88]) [] ⟨func67,O,O,O⟩ O ?_;have H:=HI.one hg ho
 cases o with
 |none=>obtain⟨y,rfl⟩:=c7 rfl;refine an [0,91,0,1] H O λh H Y=>?_;exact ab [1] H O ⟨_,⟨_,_,_,_,_,_,_,O,by simp⟩,H.kp,H.at_.1,P0,by simp,id⟩
 |some l=>
  obtain⟨rfl,n1,n2⟩:=c8 l O;refine an [0,90,0] H O λh H Y=>?_
  cases pk with
  |true=>refine cX O <| an [0,1] H O λh H Y=>?_;obtain⟨t1,t2,t3⟩:=(n2 O).tok;exact ab [1] H O ⟨_,⟨_,_,_,_,_,_,_,O,λl' e'=>by injection e' with e';subst e';exact⟨t1,t2,t3⟩⟩,H.kp,H.at_.1,P0,λ_ _=>rfl,id⟩
  |false=>
   refine jI O ?_;refine ah H O λh H Y=>have c8:=n1 O;ae O call99 (R.run (LO.mk' H c1 c2) (H.kp.aV.trans hT)) ?_;rintro x h2 ⟨k3,LR⟩;have grow:= @R.grow s e;have Dk:=mM R s e;have pos:= @R.pos s e;have eof:= @R.eof s e
   cases hl:L s e with
   |none=>
    rw[hl]at LR Dk;obtain⟨t,y,uv,e',rfl,⟨cs,rfl⟩,⟨w1,w2,w3,w4,rfl⟩,iX,jZ,iA,a3,b3,KU,d3,bF⟩:=LR;replace H:=H.aA k3 bF;refine an [0,0,0,0,90,0,1] H O λh H Y=>have zI:l=[⟨0,[]⟩]:=c8.trans Dk;ab [1] H O ?_;refine⟨⟨uv,a3,e',b3,KU,d3,.bu,true,0,[],w1,w2,w3,w4,dF s,.iface 248 (.ref none cs),k2,v2,p2,q2,r2,t2,fK,cm,false,tc,dp⟩,⟨_,_,_,_,_,_,_,O,λl' e'=>?_⟩,H.kp,H.at_.1,⟨c1,iA,c3,O,c5,c6,by simp,λl' e'=>?_⟩,λ_ _=>rfl,id⟩
    .injection e' with e'
     subst e';subst zI;exact⟨O,O,O⟩
    .injection e' with e'
     subst e';subst zI;exact⟨O,by simp,λ_=>⟨O,.inl ⟨O,O,O,_,O⟩⟩⟩
   |some w=>
    obtain⟨k',v',e'⟩:=w;rw[hl]at LR Dk;have grow:=grow hl;have pos:=pos hl;obtain⟨t,uv,rfl,⟨w1,w2,w3,w4,rfl⟩,iX,jZ,iA,a3,b3,KU,d3,bF⟩:=LR;replace H:=H.aA k3 bF;refine an [0,0,0,0] H O λh H Y=>?_;simp only at Dk;rw[<-c8]at Dk;have pkd:k'≠21->Si L s ⟨uv,a3,e',b3,KU,d3,.bu,true,k',v',w1,w2,w3,w4,dF s,.bu,k2,v2,p2,q2,r2,t2,fK,cm,false,tc,dp⟩ l:=λD0=>by
     rw[if_neg D0]at Dk
     by_cases h1:k'=1
     .rw[if_pos h1]at Dk;subst h1;obtain⟨rfl,q2⟩:=eof hl;refine⟨O,.inr (.inl ⟨O,O,O,Dk,?_⟩)⟩;show jz L s e'=l;rw[mM R,q2,Dk];simp
     .rw[if_neg h1]at Dk;exact⟨O,.inr (.inr ⟨O,by show 2<=k';omega,D0,Dk⟩)⟩
    refine af O (λhb=>?_) λhb=>?_
    .have D0:k'=21:=by simpa using hb
     subst D0;have C:CR L s {(⟨uv,a3,e',b3,KU,d3,.bu,true,21,v',w1,w2,w3,w4,dF s,.bu,k2,v2,p2,q2,r2,t2,fK,cm,false,tc,dp⟩:PK)with cc:=true} l d:=⟨c1,iA,c3,O,c5,c6,O,by simp,λ_=> .inl ⟨O,O,O,Dk⟩⟩;refine an [0] H O λh H Y=>ae O call100 (JC (K:=⟨uv,a3,e',b3,KU,d3,.bu,true,21,v',w1,w2,w3,w4,dF s,.bu,k2,v2,p2,q2,r2,t2,fK,cm,false,tc,dp⟩) R H.at_.2 (H.kp.aV.trans hT) H.at_.1 O C) ?_;rintro x h3 ⟨K',rfl,k4,jj,P',WS,Dn⟩;replace H:=H.aA k4 jj;refine an [0,1] H O λh H Y=>?_;obtain⟨er',n1',n2'⟩:=P'.so l O;obtain⟨t1,t2,t3⟩:=(n2' WS).tok;exact ab [1] H O ⟨K',⟨_,_,_,_,_,_,_,O,λl' e'=>by injection e' with e';subst e';exact⟨t1,t2,t3⟩⟩,H.kp,H.at_.1,P',λ_ _=>WS,Dn⟩
    .have D0:k'≠21:=by simpa using hb
     refine an [0,1] H O λh H Y=>?_;obtain⟨y1,y2,y3⟩:=(pkd D0).tok;refine ab [1] H O ⟨⟨uv,a3,e',b3,KU,d3,.bu,true,k',v',w1,w2,w3,w4,dF s,.bu,k2,v2,p2,q2,r2,t2,fK,cm,false,tc,dp⟩,⟨_,_,_,_,_,_,_,O,λl' e'=>by injection e' with e';subst e';exact⟨y1,y2,y3⟩⟩,H.kp,H.at_.1,⟨c1,iA,c3,O,c5,c6,by simp,λl' e'=>?_⟩,λ_ _=>rfl,id⟩;injection e' with e'
     subst e';exact⟨O,by simp,λ_=>pkd D0⟩
def la:Pa Tok
 |[]=>none
 |t::r=>if t.k=0 then none else if t.k=1 then some (t,t::r)else some (t,r)
theorem uP (R:cM L) (ho:p <h0.n) (hg:h0.get p=some (.cells (K.cells s))) (P:PR L s K o d) (hp:∀l,o=some l->K.pk=true):
 al prog 101 [.ptr p 0] h0 (λv h'=>∃K':PK,Mq s o v/\Kp [p] h0 h'/\h'.get p=some (.cells (K'.cells s))/\PR L s K' ((la.on o).map (·.2)) d/\(∀l,o=some l->K'.fK=dF s)):=by
 obtain⟨st,a,e,b,c,d',er,pk,k,v,p1,q1,r1,t1,sr,pe,k2,v2,p2,q2,r2,t2,fK,cm,cc,tc,dp⟩:=K;have P0:=P;obtain⟨c1,c2,c3,c4,c5,c6,c7,c8⟩:=P;simp only at c2 c3 c4 c5 c7 c8 hp;subst c4;obtain⟨cm,rfl⟩:=c3;refine al.ku p (Q:=λv' h'=>Mq s o v'/\Kp [p] h0 h'/\∃K':PK,h'.get p=some (.cells (K'.cells s))/\∃Xf,fZ (K'.cells s) ({K' with cm:=Xf}.cells s)/\PR L s {K' with cm:=Xf} ((la.on o).map (·.2)) d/\(∀l,o=some l->K'.fK=dF s)) ?_ (by rintro v' h' ⟨q1,kp,K',JB,Xf,hs,P',h2⟩;exact⟨_,_,JB,hs,{K' with cm:=Xf},q1,kp.set (by simp),by simp[AH.set],P',h2⟩)
 refine az (n:=93) (rs:=[.cell 2 88]) [] ⟨func101,O,O,O⟩ O ?_;have H:=HI.one hg ho
 cases o with
 |none=>obtain⟨y,rfl⟩:=c7 rfl;refine an [0,91,0,1] H O λh H Y=>?_;exact ab [1] H O ⟨⟨_,_,_,_,_,_,_,O,by simp⟩,H.kp,⟨st,a,e,b,c,d',.iface 248 y,pk,k,v,p1,q1,r1,t1,sr,pe,k2,v2,p2,q2,r2,t2,fK,.one cm,false,tc,dp⟩,H.at_.1,_,fZ.refl _,P0,by simp⟩
 |some l=>
  obtain⟨rfl,n1,n2⟩:=c8 l O;have hp:=hp l O;subst hp;have n2:=n2 O;have tk:=n2.tok;obtain⟨rfl,n2⟩:=n2;simp only at n2;rcases n2 with⟨rfl,rfl,rfl,y,rfl⟩|⟨rfl,rfl,rfl,rfl,n3⟩|⟨rfl,m1,m2,rfl⟩
  .refine an [0,90,0,0,0] H O λh H Y=>aR O (λhb=>?_) λhb=>?_
   .cases hb
   refine an [0,90,0,91,0,0,0,0,0,0,0,1] H O λh H Y=>?_;refine ab [1] H O ⟨⟨_,_,_,_,_,_,_,O,λl' e'=>by injection e' with e';subst e';exact tk⟩,H.kp,⟨st,a,e,b,c,d',.iface 248 y,false,0,[],p1,q1,r1,t1,dF s,.iface 248 y,0,[],p1,q1,r1,t1,dF s,.bq,false,_,dp⟩,H.at_.1,_,PK.D4 s _,⟨c1,c2,⟨_,O⟩,O,c5,c6,?_,?_⟩,λ_ _=>rfl⟩
   .exact λ_=>⟨y,O⟩
   .intro l' e';simp[Pa.on,la]at e'
  .refine an [0,90,0,0,0] H O λh H Y=>aR O (λhb=>?_) λhb=>?_
   .cases hb
   refine an [0,90,0,91,0,0,0,0,0,0,0,1] H O λh H Y=>?_;refine ab [1] H O ⟨⟨_,_,_,_,_,_,_,O,λl' e'=>by injection e' with e';subst e';exact tk⟩,H.kp,⟨st,a,e,b,c,d',.bu,false,1,[],p1,q1,r1,t1,dF s,.bu,1,[],p1,q1,r1,t1,dF s,.bq,false,_,dp⟩,H.at_.1,_,PK.D4 s _,⟨c1,c2,⟨_,O⟩,O,c5,c6,?_,?_⟩,λ_ _=>rfl⟩
   .intro e';simp[Pa.on,la]at e'
   .intro l' e';simp[Pa.on,la]at e';subst e';exact⟨O,λ_=>n3.symm,by simp⟩
  .refine an [0,90,0,0,0] H O λh H Y=>aR O (λhb=>?_) λhb=>?_
   .cases hb
   refine an [0,90,0,91,0,0,0,0,0,0,0,1] H O λh H Y=>?_;refine ab [1] H O ⟨⟨_,_,_,_,_,_,_,O,λl' e'=>by injection e' with e';subst e';exact tk⟩,H.kp,⟨st,a,e,b,c,d',.bu,false,k,v,p1,q1,r1,t1,dF s,.bu,k,v,p1,q1,r1,t1,dF s,.bq,false,_,dp⟩,H.at_.1,_,PK.D4 s _,⟨c1,c2,⟨_,O⟩,O,c5,c6,?_,?_⟩,λ_ _=>rfl⟩
   .intro e';simp[Pa.on,la,show ¬ k.toNat=0 by omega,show ¬ k.toNat=1 by omega]at e'
   .intro l' e';simp[Pa.on,la,show ¬ k.toNat=0 by omega,show ¬ k.toNat=1 by omega]at e';subst e';exact⟨O,λ_=>rfl,by simp⟩
end
def PB (L:ak->Nat->Option (Int×ak×Nat)) (b:Bool) (h:AH) (p:Nat) (s:ak) (o:Option (List Tok)) (d:Nat):Prop:=p <h.n/\h.aV=bQ/\∃K,h.get p=some (.cells (K.cells s))/\PR L s K o d/\(b=true->∀l,o=some l->K.pk=true)
section
variable {L:ak->Nat->Option (Int×ak×Nat)} {s:ak} {K:PK} {o:Option (List Tok)} {d p:Nat} {h h0 h1:AH} {ids:List Nat} {V:View} {l:List Tok} {b:Bool}
theorem PB.of (H:HI h0 ids h ((p,K.cells s)::V)) (hT:h0.aV=bQ) (P:PR L s K o d) (hp:b=true->∀l,o=some l->K.pk=true):PB L b h p s o d:=⟨H.at_.2,H.kp.aV.trans hT,K,H.at_.1,P,hp⟩
theorem PB.bU (H:HI h0 ids h ((p,K.cells s)::V)) (hT:h0.aV=bQ) (P:PR L s K o d):PB L false h p s o d:=⟨H.at_.2,H.kp.aV.trans hT,K,H.at_.1,P,by simp⟩
theorem cH (R:cM L) (S:PB L b h0 p s o d):al prog 67 [.ptr p 0] h0 (λv h'=>Kp [p] h0 h'/\PB L true h' p s o d/\Mq s o v):=by obtain⟨ho,hT,K,hg,P,_⟩:=S;refine(uO R ho hT hg P).mono ?_;rintro v h' ⟨K',q,kp,JB,P',hp,_⟩;exact⟨kp,⟨Nat.lt_of_lt_of_le ho kp.n,kp.aV.trans hT,K',JB,P',λ_=>hp⟩,q⟩
theorem fa (R:cM L) (S:PB L true h0 p s o d):al prog 101 [.ptr p 0] h0 (λv h'=>Kp [p] h0 h'/\PB L false h' p s ((la.on o).map (·.2)) d/\Mq s o v):=by obtain⟨ho,hT,K,hg,P,hp⟩:=S;refine(uP R ho hg P (hp O)).mono ?_;rintro v h' ⟨K',q,kp,JB,P',_⟩;exact⟨kp,⟨Nat.lt_of_lt_of_le ho kp.n,kp.aV.trans hT,K',JB,P',by simp⟩,q⟩
theorem jA (h:2<=bC l):(la.on (some l)).map (·.2)=some l.tail:=by cases l with|nil=>simp[bC]at h|cons t r=>simp only[bC]at h;simp[Pa.on,la,show ¬ t.k=0 by omega,show ¬ t.k=1 by omega]
theorem D5 {k:Nat} (hl:l≠[]) (h:bC l=k):aE k l=some (dN l,l.tail):=by cases l with|nil=>exact absurd O hl|cons t r=>simp only[bC]at h;simp[aE,h,dN]
theorem Mr {k:Nat} (h:bC l≠k):aE k l=none:=by cases l with|nil=>rfl|cons t r=>simp only[bC]at h;simp[aE,h]
theorem lG (S:PB L b h0 p s o d) {k:Int} {v m:ak} {q1 q2 q3 q4:Int} {sr:AV} (hs:∀l,o=some l->sr=dF s):
 al prog 118 [.ptr p 0,.agg (Q4 k v q1 q2 q3 q4 sr),.str m] h0 (λx h'=>Kp [p] h0 h'/\PB L true h' p s none d/\x= .cN []):=by
 obtain⟨ho,hT,K,hg,P,hp⟩:=S;have P0:=P;obtain⟨st,a,e,b_,c,d',er,pk,k0,v0,p1,pr,r1,t1,pt,pe,k2,v2,p2,pw,r2,t2,fK,cm,cc,tc,dp⟩:=K;obtain⟨c1,c2,c3,c4,c5,c6,c7,c8⟩:=P;simp only at c2 c3 c4 c5 c7 c8 hp;subst c4;refine az (n:=29) (rs:=[]) [] ⟨func118,O,O,O⟩ O ?_;have H:=HI.one hg ho
 cases o with|none=>obtain⟨y,rfl⟩:=c7 rfl;exact aS [4] [0] H rfl λh H Y=>jI rfl <| ah H rfl λh H Y=>ab [] H rfl ⟨H.kp,PB.of H hT P0 (by simp),rfl⟩|some l=>obtain⟨rfl,_⟩:=c8 l rfl;have hs:=hs l O;subst hs;refine aS [4] [0,90] H O λh H Y=>I9 O call160 (rN _ _ m) ?_;rintro x ⟨cs,rfl⟩;refine an [0] H O λh H Y=>?_;refine cy [] H O ⟨H.kp,PB.of (K:=⟨st,a,e,b_,c,d',.iface 248 (.ref none cs),pk,k0,v0,p1,pr,r1,t1,pt,pe,k2,v2,p2,pw,r2,t2,fK,cm,false,tc,dp⟩) H hT ⟨c1,c2,c3,O,c5,c6,λ_=>⟨_,O⟩,by simp⟩ (by simp),O⟩
theorem fL (S:PB L b h0 p s o d) {k:Int} {v:ak} {q1 q2 q3 q4:Int} {sr:AV} (hs:∀l,o=some l->sr=dF s):al prog 73 [.ptr p 0,.agg (Q4 k v q1 q2 q3 q4 sr)] h0 (λx h'=>Kp [p] h0 h'/\PB L true h' p s none d/\x= .cN []):=by obtain⟨ho,hT,K,hg,P,hp⟩:=S;refine az (n:=7) (rs:=[]) [] ⟨func73,O,O,O⟩ O <| have H:=HI.one hg ho;aS [3] [] H O λh H Y=>?_;refine ae O call118 (lG (PB.of H hT P hp) hs) ?_;rintro x h2 ⟨kp,⟨_,_,K2,bI,P2,iy⟩,rfl⟩;replace H:=H.aA kp bI;exact ah H O λh H Y=>cy [] H O ⟨H.kp,PB.of H hT P2 iy,O⟩
theorem aO (R:cM L) (S:PB L b h0 p s o d):al prog 69 [.ptr p 0] h0 (λx h'=>Kp [p] h0 h'/\PB L true h' p s none d/\x= .cN []):=by obtain⟨ho,hT,K,hg,P,hp⟩:=S;refine az (n:=6) (rs:=[]) [] ⟨func69,O,O,O⟩ O <| have H:=HI.one hg ho;ah H O λh H Y=>?_;refine ae O call67 (cH R (PB.of H hT P hp)) ?_;rintro x h2 ⟨kp,⟨_,_,K1,eM,P1,dJ⟩,_,_,_,_,_,_,_,rfl,hx⟩;replace H:=H.aA kp eM;refine ah H O λh H Y=>ae O call73 (fL (PB.of H hT P1 dJ) λl e=>(hx l e).2.2) ?_;rintro x h2 ⟨kp,⟨_,_,K2,bI,P2,iy⟩,rfl⟩;replace H:=H.aA kp bI;exact ah H O λh H Y=>cy [] H O ⟨H.kp,PB.of H hT P2 iy,O⟩
theorem aL (R:cM L) (S:PB L b h0 p s o d):al prog 66 [.ptr p 0] h0 (λv h'=>Kp [p] h0 h'/\PB L true h' p s o d/\∃x,v= .one x):=by
 obtain⟨ho,hT,K,hg,P,hp⟩:=S;have P0:=P;obtain⟨c1,c2,c3,c4,c5,c6,c7,c8⟩:=P;refine al.one (Q:=λv h'=>Kp [p] h0 h'/\PB L true h' p s o d/\v.cells=some [v]) ?_ (λ_ _ q=>q.2.2) (λv h' q=>⟨q.1,q.2.1,_,O⟩);refine az (n:=12) (rs:=[.tmp 2]) [] ⟨func66,O,O,O⟩ O ?_;have H:=HI.one hg ho;have Ov:(∃y,K.er= .iface 248 y/\o=none)\/(K.er= .bu/\∃l,o=some l):=by cases o with|none=>obtain⟨y,q⟩:=c7 rfl;exact .inl ⟨y,q,O⟩|some l=>exact .inr ⟨(c8 l O).1,l,O⟩
 obtain⟨st,a,e,b_,c,d',er,pk,k0,v0,p1,pr,r1,t1,pt,pe,k2,v2,p2,pw,r2,t2,fK,cm,cc,tc,dp⟩:=K;rcases Ov with⟨y,rfl,rfl⟩|⟨rfl,l,rfl⟩
 .exact an [0,91] H O λh H Y=>ab [] H O ⟨H.kp,PB.of H hT P0 (by simp),O⟩
 .refine an [0,90] H O λh H Y=>ae O call67 (cH R (PB.of H hT P0 hp)) ?_;rintro x h2 ⟨kp,⟨_,_,K1,eM,P1,dJ⟩,k,v,q1,q2,q3,q4,sr,rfl,hx⟩;replace H:=H.aA kp eM;exact an [1] H O λh H Y=>ab [] H O ⟨H.kp,PB.of H hT P1 dJ,O⟩
theorem xQ (R:cM L) (S:PB L b h0 p s o d) {k:Nat} (hk:2<=k):al prog 116 [.ptr p 0,.int .i64 k] h0 (λv h'=>Kp [p] h0 h'/\∃y,v= .bool y/\(y=true->∃l,o=some l/\bC l=k/\PB L false h' p s (some l.tail) d)/\(y=false->(∀l,o=some l->bC l≠k)/\PB L true h' p s o d)):=by
 obtain⟨ho,hT,K,hg,P,hp⟩:=S;have P0:=P;obtain⟨c1,c2,c3,c4,c5,c6,c7,c8⟩:=P;refine az (n:=19) (rs:=[.tmp 4]) [] ⟨func116,O,O,O⟩ O ?_;have H:=HI.one hg ho;have Ov:(∃y,K.er= .iface 248 y/\o=none)\/(K.er= .bu/\∃l,o=some l):=by cases o with|none=>obtain⟨y,q⟩:=c7 rfl;exact .inl ⟨y,q,O⟩|some l=>exact .inr ⟨(c8 l O).1,l,O⟩
 obtain⟨st,a,e,b_,c,d',er,pk,k0,v0,p1,pr,r1,t1,pt,pe,k2,v2,p2,pw,r2,t2,fK,cm,cc,tc,dp⟩:=K;rcases Ov with⟨y,rfl,rfl⟩|⟨rfl,l,rfl⟩
 .refine an [0,91] H O λh H Y=>?_;exact ab [] H O ⟨H.kp,false,O,by simp,λ_=>⟨by simp,PB.of H hT P0 (by simp)⟩⟩
 .refine an [0,90] H O λh H Y=>ae O call67 (cH R (PB.of H hT P0 hp)) ?_;rintro x h2 ⟨kp,⟨_,_,K1,eM,P1,dJ⟩,k',v,q1,q2,q3,q4,sr,rfl,hx⟩;replace H:=H.aA kp eM;obtain⟨rfl,rfl,_⟩:=hx l O;refine an [1,1] H O λh H Y=>af O (λhb=>?_) λhb=>?_
  .refine ah H O λh H Y=>?_;exact ab [] H O ⟨H.kp,false,O,by simp,λ_=>⟨λl' e'=>by injection e' with e';subst e';simp at hb;omega,PB.of H hT P1 dJ⟩⟩
  .refine ah H O λh H Y=>?_;have hb:bC l=k:=by simp at hb;omega
   refine ae O call101 (fa R (PB.of H hT P1 dJ)) ?_;rintro x h2 ⟨kp,⟨_,_,K2,bI,P2,iy⟩,_⟩;replace H:=H.aA kp bI;refine ah H O λh H Y=>?_;rw[jA (by omega)]at P2;exact ab [] H O ⟨H.kp,true,O,λ_=>⟨l,O,hb,PB.bU H hT P2⟩,by simp⟩
end
section
variable {L:ak->Nat->Option (Int×ak×Nat)} {s:ak} {K:PK} {o:Option (List Tok)} {d p:Nat} {h h0 h1:AH} {ids:List Nat} {V:View} {l:List Tok} {b:Bool} {k:Nat}
theorem JD (hk:2<=k) (h:∀l,o=some l->bC l=k):(la.on o).map (·.2)=((aE k).on o).map (·.2):=by
 cases o with
 |none=>rfl
 |some l=>
  have h:=h l O
  rw[jA (by omega)];rw[show(aE k).on (some l)=aE k l from rfl,D5 (by rintro rfl;simp[bC]at h;omega) h];rfl
theorem It (h:∀l,o=some l->bC l≠k):((aE k).on o).map (·.2)=none:=by cases o with|none=>rfl|some l=>rw[show(aE k).on (some l)=aE k l from O,Mr (h l O)];rfl
theorem D6 {a:ak} {l':List Tok} (h:(aE k).on o=some (a,l')):∃l,o=some l/\a=dN l/\bC l=k/\l'=l.tail:=by
 cases o with
 |none=>simp[Pa.on]at h
 |some l=>
  cases l with
  |nil=>simp[Pa.on,aE]at h
  |cons t r=>
   simp only[Pa.on,aE]at h;split at h
   .rename_i hk;injection h with h;injection h with h1 h2;exact⟨_,O,h1.symm,hk,h2.symm⟩
   .cases h
def dO {α:Type} (x:Option (α×List Tok)) (P:α->Prop):Prop:=∀a l,x=some (a,l)->P a
theorem dQ (R:cM L) (S:PB L b h0 p s o d) (hk:2<=k):al prog 113 [.ptr p 0,.int .i64 k] h0 (λv h'=>Kp [p] h0 h'/\PB L false h' p s (((aE k).on o).map (·.2)) d/\
 ∃k' v' q1 q2 q3 q4 sr x,v= .cN [.agg (Q4 k' v' q1 q2 q3 q4 sr),.one x]/\dO ((aE k).on o) (λa=>v'=a)/\∀l,((aE k).on o).map (·.2)=some l->sr=dF s):=by
 obtain⟨ho,hT,K,hg,P,hp⟩:=S;refine az (n:=26) (rs:=[.cell 4 88,.tmp 5]) [] ⟨func113,O,O,O⟩ O <| have H:=HI.one hg ho;ah H O λh H Y=>?_;refine ae O call67 (cH R (PB.of H hT P hp)) ?_;rintro x h2 ⟨kp,⟨_,_,K1,eM,P1,dJ⟩,k',v,q1,q2,q3,q4,sr,rfl,hx⟩;replace H:=H.aA kp eM;obtain⟨cm,lf⟩:=P1.cm;obtain⟨st,a,e,b_,c,d',er,pk,k0,v0,p1,pr,r1,t1,pt,pe,k2,v2,p2,pw,r2,t2,fK,rr,cc,tc,dp⟩:=K1;simp only at lf;subst lf;refine an [2,0,2] H O λh H Y=>af O (λhb=>?_) λhb=>?_
 .refine ah H O λh H Y=>?_;have hb:k'=k:=by simpa using hb
  have hh:∀l,o=some l->bC l=k:=λl e=>by have:=(hx l e).1;omega
  refine ae O call101 (fa R (PB.of H hT P1 dJ)) ?_;rintro x h2 ⟨kp,⟨_,_,K2,bI,P2,iy⟩,_,_,_,_,_,_,_,rfl,pC⟩;replace H:=H.aA kp bI;refine an [1] H O λh H Y=>?_;rw[JD hk hh]at P2;refine ab [1] H O ⟨H.kp,PB.bU H hT P2,_,_,_,_,_,_,_,_,O,λa l' e=>?_,λl' e=>?_⟩
  .obtain⟨l,e1,rfl,_⟩:=D6 e;exact(pC l e1).2.1
  .cases o with|none=>simp[Pa.on]at e|some l=>exact(pC l O).2.2
 .refine an [2] H O λh H Y=>?_;have hb:k'≠k:=by simpa using hb
  have hh:∀l,o=some l->bC l≠k:=λl e=>by have:=(hx l e).1;omega
  refine ae O call118 (lG (PB.of H hT P1 dJ) λl e=>(hx l e).2.2) ?_;rintro x h2 ⟨kp,⟨_,_,K2,bI,P2,iy⟩,rfl⟩;replace H:=H.aA kp bI;refine an [2,1] H O λh H Y=>ab [1] H O ⟨H.kp,?_,_,_,_,_,_,_,_,_,O,λa l' e=>?_,λl' e=>?_⟩
  .rw[It hh];exact PB.bU H hT P2
  .obtain⟨l,e1,_,h3,_⟩:=D6 e;exact absurd h3 (hh l e1)
  .rw[It hh]at e
   cases e
theorem aI (R:cM L) (S:PB L b h0 p s o d):al prog 114 [.ptr p 0] h0 (λv h'=>Kp [p] h0 h'/\PB L false h' p s ((ar.on o).map (·.2)) d/\∃n,v= .str n/\dO (ar.on o) (λa=>n=a)):=by obtain⟨ho,hT,K,hg,P,hp⟩:=S;refine az (n:=12) (rs:=[.tmp 2]) [] ⟨func114,O,O,O⟩ O <| have H:=HI.one hg ho;ah H O λh H Y=>?_;refine ae O call113 (dQ (k:=16) R (PB.of H hT P hp) (by omega)) ?_;rintro x h2 ⟨kp,⟨_,_,K1,eM,P1,dJ⟩,k',v,q1,q2,q3,q4,sr,cm,rfl,hx,_⟩;replace H:=H.aA kp eM;exact an [1,1] H O λh H Y=>ab [] H O ⟨H.kp,PB.of H hT P1 dJ,_,O,hx⟩
theorem JE {w:ak} (h:∀l,o=some l->bC l=16/\dN l=w):(la.on o).map (·.2)=((cF w).on o).map (·.2):=by
 cases o with
 |none=>rfl
 |some l=>
  have h:=h l O
  rw[jA (by omega)]
  cases l with|nil=>simp[bC]at h|cons t r=>simp only[bC,dN]at h;simp[Pa.on,cF,h]
theorem Iu {w:ak} (h:∀l,o=some l->¬ (bC l=16/\dN l=w)):((cF w).on o).map (·.2)=none:=by cases o with|none=>rfl|some l=>cases l with|nil=>rfl|cons t r=>have h:=h _ O;simp only[bC,dN]at h;simp[Pa.on,cF,h]
theorem aJ (R:cM L) (S:PB L b h0 p s o d) (w:ak):al prog 108 [.ptr p 0,.str w] h0 (λv h'=>Kp [p] h0 h'/\PB L false h' p s (((cF w).on o).map (·.2)) d/\
 ∃k' v' q1 q2 q3 q4 sr x,v= .cN [.agg (Q4 k' v' q1 q2 q3 q4 sr),.one x]):=by
 obtain⟨ho,hT,K,hg,P,hp⟩:=S;refine az (n:=31) (rs:=[.cell 4 88,.tmp 5]) [] ⟨func108,O,O,O⟩ O <| have H:=HI.one hg ho;ah H O λh H Y=>?_;refine ae O call67 (cH R (PB.of H hT P hp)) ?_;rintro x h2 ⟨kp,⟨_,_,K1,eM,P1,dJ⟩,k',v,q1,q2,q3,q4,sr,rfl,hx⟩;replace H:=H.aA kp eM;obtain⟨cm,lf⟩:=P1.cm;obtain⟨st,a,e,b_,c,d',er,pk,k0,v0,p1,pr,r1,t1,pt,pe,k2,v2,p2,pw,r2,t2,fK,rr,cc,tc,dp⟩:=K1;simp only at lf;subst lf;have bad:(¬ (k'=16/\v=w))->∀l,o=some l->¬ (bC l=16/\dN l=w):=λq l e r=>q ⟨by have:=(hx l e).1;omega,(hx l e).2.1.trans r.2⟩
 refine an [2,0,2] H O λh H Y=>aj O (λhb=>?_) λhb=>?_
 .refine an [2] H O λh H Y=>af O (λaT=>?_) λaT=>?_
  .refine ah H O λh H Y=>?_;have hh:∀l,o=some l->bC l=16/\dN l=w:=λl e=>by have:=(hx l e).1;have:=(hx l e).2.1;simp at hb aT;exact⟨by omega,by rw[<-this];exact aT⟩
   refine ae O call101 (fa R (PB.of H hT P1 dJ)) ?_;rintro x h2 ⟨kp,⟨_,_,K2,bI,P2,iy⟩,_,_,_,_,_,_,_,rfl,pC⟩;replace H:=H.aA kp bI;refine an [1] H O λh H Y=>?_;rw[JE hh]at P2;exact ab [1] H O ⟨H.kp,PB.bU H hT P2,_,_,_,_,_,_,_,_,O⟩
  .have kZ:=bad λe=>by simp at aT;exact aT e.2
   refine an [2] H O λh H Y=>ae O call118 (lG (PB.of H hT P1 dJ) λl e=>(hx l e).2.2) ?_;rintro x h2 ⟨kp,⟨_,_,K2,bI,P2,iy⟩,rfl⟩;replace H:=H.aA kp bI;refine an [2,1] H O λh H Y=>ab [1] H O ⟨H.kp,?_,_,_,_,_,_,_,_,_,O⟩;rw[Iu kZ];exact PB.bU H hT P2
 .have kZ:=bad λe=>by simp at hb;exact hb e.1
  refine an [90,2] H O λh H Y=>ae O call118 (lG (PB.of H hT P1 dJ) λl e=>(hx l e).2.2) ?_;rintro x h2 ⟨kp,⟨_,_,K2,bI,P2,iy⟩,rfl⟩;replace H:=H.aA kp bI;refine an [2,1] H O λh H Y=>ab [1] H O ⟨H.kp,?_,_,_,_,_,_,_,_,_,O⟩;rw[Iu kZ];exact PB.bU H hT P2
theorem GC (h:∀l,o=some l->¬ (bC l=19\/bC l=20)):(fv.on o).map (·.2)=o:=by cases o with|none=>rfl|some l=>simp[Pa.on,fv,h l O]
theorem vC (h:∀l,o=some l->(bC l=19\/bC l=20)):(la.on o).map (·.2)=(fv.on o).map (·.2):=by
 cases o with
 |none=>rfl
 |some l=>
  have h:=h l O
  rw[jA (by omega)];simp[Pa.on,fv,h]
theorem xR {a:ak} {l':List Tok} (h:fv.on o=some (a,l')):∃l,o=some l/\fv l=some (a,l'):=by cases o with|none=>simp[Pa.on]at h|some l=>exact⟨l,O,h⟩
theorem de (R:cM L) (S:PB L b h0 p s o d):al prog 68 [.ptr p 0] h0 (λv h'=>∃t c y K',v= .agg [.str t,.one c,.bool y]/\Kp [p] h0 h'/\h'.get p=some (.cells (K'.cells s))/\PR L s K' ((fv.on o).map (·.2)) d/\
 dO (fv.on o) (λa=>t=a)/\(t≠[]->∀l,o=some l->K'.fK=dF s)):=by
 obtain⟨ho,hT,K,hg,P,hp⟩:=S;refine az (n:=27) (rs:=[.cell 2 169]) [] ⟨func68,O,O,O⟩ O <| have H:=HI.one hg ho;ah H O λh H Y=>?_;refine ae O call67 (cH R (PB.of H hT P hp)) ?_;rintro x h2 ⟨kp,⟨_,_,K1,eM,P1,dJ⟩,k',v,q1,q2,q3,q4,sr,rfl,hx⟩;replace H:=H.aA kp eM;obtain⟨cm,lf⟩:=P1.cm;obtain⟨st,a,e,b_,c,d',er,pk,k0,v0,p1,pr,r1,t1,pt,pe,k2,v2,p2,pw,r2,t2,fK,rr,cc,tc,dp⟩:=K1;simp only at lf;subst lf;refine an [2,2] H O λh H Y=>?_;refine fm 3 [.str [],.one .bq,.bool false] H O O ⟨.refl _,.one _,.refl _,trivial⟩ λh H Y=>aj O (λhb=>?_) λhb=>?_
 .refine an [2] H O λh H Y=>af O (λaT=>?_) λaT=>?_
  .have hn:∀l,o=some l->¬ (bC l=19\/bC l=20):=λl e=>by have:=(hx l e).1;simp at hb aT;omega
   refine an [3,1] H O λh H Y=>?_;refine ab [1] H O ⟨_,_,_,_,O,H.kp,H.at_.1,by rw[GC hn];exact P1,λa l' e=>?_,by simp⟩;obtain⟨l,rfl,e3⟩:=xR e;rw[show fv l=_ from if_neg (hn l O)]at e3;injection e3 with e3
   injection e3 with e1 e2
  .have hy:∀l,o=some l->(bC l=19\/bC l=20):=λl e=>by have:=(hx l e).1;simp at hb aT;omega
   refine an [3,0,3] H O λh H Y=>ae O call101 (uP R H.at_.2 H.at_.1 P1 (dJ O)) ?_;rintro x h2 ⟨K2,⟨_,v',_,_,_,_,_,rfl,pC⟩,kp,bI,P2,BQ⟩;replace H:=H.aA kp bI;refine an [3,3,1] H O λh H Y=>?_;rw[vC hy]at P2;refine ab [1] H O ⟨_,_,_,K2,O,H.kp,H.at_.1,P2,λa l' e=>?_,λ_=>BQ⟩;obtain⟨l,rfl,e3⟩:=xR e;rw[show fv l=_ from if_pos (hy l O)]at e3;injection e3 with e3
   injection e3 with e1 e2
   exact(pC l O).2.1.trans e1
 .have hy:∀l,o=some l->(bC l=19\/bC l=20):=λl e=>by have:=(hx l e).1;simp at hb;omega
  refine an [90,3,0,3] H O λh H Y=>ae O call101 (uP R H.at_.2 H.at_.1 P1 (dJ O)) ?_;rintro x h2 ⟨K2,⟨_,v',_,_,_,_,_,rfl,pC⟩,kp,bI,P2,BQ⟩;replace H:=H.aA kp bI;refine an [3,3,1] H O λh H Y=>?_;rw[vC hy]at P2;refine ab [1] H O ⟨_,_,_,K2,O,H.kp,H.at_.1,P2,λa l' e=>?_,λ_=>BQ⟩;obtain⟨l,rfl,e3⟩:=xR e;rw[show fv l=_ from if_pos (hy l O)]at e3;injection e3 with e3
  injection e3 with e1 e2
  exact(pC l O).2.1.trans e1
theorem kR (R:cM L) (S:PB L b h0 p s o d):al prog 199 [.ptr p 0] h0 (λv h'=>Kp [p] h0 h'/\∃y,v= .bool y/\(y=true->d <1000/\PB L b h' p s o (d+1))/\(y=false->1000<=d/\PB L true h' p s none d)):=by
 obtain⟨ho,hT,K,hg,P,hp⟩:=S;have P0:=P;obtain⟨st,a,e,b_,c,d',er,pk,k0,v0,p1,pr,r1,t1,pt,pe,k2,v2,p2,pw,r2,t2,fK,rr,cc,tc,dp⟩:=K;obtain⟨c1,c2,c3,c4,c5,c6,c7,c8⟩:=P;simp only at c2 c3 c4 c5 c7 c8 hp;subst c5;refine az (n:=19) (rs:=[.tmp 2]) [] ⟨func199,O,O,O⟩ O <| have H:=HI.one hg ho;an [0] H O λh H Y=>?_;refine af O (λhb=>?_) λhb=>?_
 .refine ah H O λh H Y=>ae O call67 (cH R (PB.of H hT P0 hp)) ?_;rintro x h2 ⟨kp,⟨_,_,K1,eM,P1,dJ⟩,k',v,q1,q2,q3,q4,sr,rfl,hx⟩;replace H:=H.aA kp eM;refine ah H O λh H Y=>ae O call118 (lG (PB.of H hT P1 dJ) λl e=>(hx l e).2.2) ?_;rintro x h2 ⟨kp,⟨_,_,K2,bI,P2,iy⟩,rfl⟩;replace H:=H.aA kp bI;refine ah H O λh H Y=>?_;exact ab [] H O ⟨H.kp,false,O,by simp,λ_=>⟨by simp at hb;omega,PB.of H hT P2 iy⟩⟩
 .refine an [0,0] H O λh H Y=>?_;have hb:d <1000:=by simp at hb;omega
  rw[wrap_i64 (n:=(d:Int)+1) (by omega) (by omega)]at H;refine ab [] H O ⟨H.kp,true,O,λ_=>⟨hb,PB.of (K:=⟨st,a,e,b_,c,d',er,pk,k0,v0,p1,pr,r1,t1,pt,pe,k2,v2,p2,pw,r2,t2,fK,rr,cc,tc,(d:Int)+1⟩) H hT ⟨c1,c2,c3,c4,by simp,by omega,c7,c8⟩ hp⟩,by simp⟩
theorem tu (R:cM L) (S:PB L b h0 p s o d):al prog 203 [.ptr p 0] h0 (λv h'=>Kp [p] h0 h'/\PB L false h' p s ((((aE 3).andThen λ_=>ar).on o).map (·.2)) d/\∃n,v= .str n/\dO (((aE 3).andThen λ_=>ar).on o) (λa=>n=a)):=by
 obtain⟨ho,hT,K,hg,P,hp⟩:=S;refine az (n:=7) (rs:=[.tmp 2]) [] ⟨func203,O,O,O⟩ O <| have H:=HI.one hg ho;ah H O λh H Y=>?_;refine ae O call113 (dQ (k:=3) R (PB.of H hT P hp) (by omega)) ?_;rintro x h2 ⟨kp,⟨_,_,K1,eM,P1,dJ⟩,k',v,q1,q2,q3,q4,sr,cm,rfl,hx,_⟩;replace H:=H.aA kp eM;refine ah H O λh H Y=>ae O call114 (aI R (PB.of H hT P1 dJ)) ?_;rintro x h2 ⟨kp,⟨_,_,K2,bI,P2,iy⟩,n,rfl,hn⟩;replace H:=H.aA kp bI;refine ah H O λh H Y=>?_;have e:((aE 3).andThen λ_=>ar).on o=ar.on (((aE 3).on o).map (·.2)):=by cases o with|none=>rfl|some l=>show(aE 3).andThen (λ_=>ar) l=ar.on ((aE 3 l).map (·.2));simp only[Pa.andThen];cases aE 3 l<;>rfl
 rw[<-e]at P2 hn;exact ab [] H O ⟨H.kp,PB.bU H hT P2,_,O,hn⟩
end
end
def j6 {α:Type} (g:Pa α):Prop:=∀l a l',g l=some (a,l')->l'.length <l.length
def ru {α:Type} (g:Pa α):Prop:=∀l a l',g l=some (a,l')->l'.length<=l.length
section
variable {α β:Type}
theorem j6.dR {g:Pa α} (h:j6 g):ru g:=λl a l' e=>Nat.le_of_lt (h l a l' e)
theorem j6.then {x:Pa α} {f:α->Pa β} (h:j6 x) (hf:∀a,ru (f a)):j6 (x.andThen f):=by
 intro l a l' e;simp only[Pa.andThen]at e
 cases hx:x l with|none=>rw[hx]at e;cases e|some y=>rw[hx]at e;have:=h _ _ _ hx;have:=hf _ _ _ _ e;omega
theorem ru.then {x:Pa α} {f:α->Pa β} (h:ru x) (hf:∀a,ru (f a)):ru (x.andThen f):=by
 intro l a l' e;simp only[Pa.andThen]at e
 cases hx:x l with|none=>rw[hx]at e;cases e|some y=>rw[hx]at e;have:=h _ _ _ hx;have:=hf _ _ _ _ e;omega
theorem ru.dec {x:Pa α} {f:α->Pa β} (h:ru x) (hf:∀a,j6 (f a)):j6 (x.andThen f):=by
 intro l a l' e;simp only[Pa.andThen]at e
 cases hx:x l with|none=>rw[hx]at e;cases e|some y=>rw[hx]at e;have:=h _ _ _ hx;have:=hf _ _ _ _ e;omega
theorem ru.ret (a:α):ru (Pa.ret a):=λl b l' e=>by injection e with e;injection e with e1 e2;subst e2;exact Nat.le_refl _
theorem ru.fail:ru (λ_=>none:Pa α):=λl b l' e=>by cases e
theorem fw (l:List Tok):l.tail.length<=l.length:=by simp
theorem Po {l:List Tok} (h:bC l≠0):l.tail.length <l.length:=by cases l with|nil=>simp[bC]at h|cons t r=>simp
theorem aq (k:Nat):j6 (aE k):=by
 intro l a l' e
 cases l with
 |nil=>cases e
 |cons t r=>
  simp only[aE]at e;split at e
  .injection e with e
   injection e with e1 e2
   subst e2;simp
  .cases e
theorem lY (k:Nat):ru (bB k):=by
 intro l a l' e
 cases l with
 |nil=>injection e with e;injection e with e1 e2;subst e2;simp
 |cons t r=>
  simp only[bB]at e;split at e
  .injection e with e
   injection e with e1 e2
   subst e2;simp
  .injection e with e
   injection e with e1 e2
   subst e2;simp
theorem gq (w:ak):j6 (cF w):=by
 intro l a l' e
 cases l with
 |nil=>cases e
 |cons t r=>
  simp only[cF]at e;split at e
  .injection e with e
   injection e with e1 e2
   subst e2;simp
  .cases e
theorem AE {g:Pa α} (h:ru g) (e:Nat):∀n,ru (aQ g e n):=by
 intro n
 induction n with
 |zero=>intro l a l' q;cases q
 |succ n ih=>
  intro l a l' q;simp only[aQ]at q;split at q
  .injection q with q
   injection q with q1 q2
   subst q2;exact Nat.le_refl _
  .cases hg:g l with
   |none=>rw[hg]at q;cases q
   |some y=>
    rw[hg]at q;simp only at q
    cases hl:aQ g e n y.2 with
    |none=>rw[hl]at q;cases q
    |some z=>
     rw[hl]at q;injection q with q
     injection q with q1 q2
     subst q2;have:=h _ _ _ hg;have:=ih _ _ _ hl;omega
theorem D7 {g:Pa α} (h:ru g) (k:Nat):∀n,ru (bE g k n):=by
 intro n
 induction n with
 |zero=>intro l a l' q;cases q
 |succ n ih=>
  intro l a l' q;simp only[bE]at q;split at q
  .cases hg:g l.tail with
   |none=>rw[hg]at q;cases q
   |some y=>
    rw[hg]at q;simp only at q
    cases hl:bE g k n y.2 with
    |none=>rw[hl]at q;cases q
    |some z=>
     rw[hl]at q;injection q with q
     injection q with q1 q2
     subst q2;have:=h _ _ _ hg;have:=ih _ _ _ hl;have:=fw l;omega
  .injection q with q
   injection q with q1 q2
   subst q2;exact Nat.le_refl _
theorem lH {g:Pa α} (h:ru g) (s e:Nat):ru (ca s e g):=by
 intro l a l' q;simp only[ca]at q;split at q
 .cases hl:aQ g e dX l.tail with
  |none=>rw[hl]at q;cases q
  |some z=>
   rw[hl]at q;simp only at q;split at q
   .cases q
   .injection q with q
    injection q with q1 q2
    subst q2;have:=AE h e dX _ _ _ hl;have:=fw l;have:=fw z.2;omega
 .injection q with q
  injection q with q1 q2
  subst q2;exact Nat.le_refl _
theorem D8 {g:Pa α} (h:ru g) {s e:Nat} {l l':List Tok} {a:List α} (hs:bC l=s) (h0:s≠0) (q:gC s e g l=some (a,l')):l'.length <l.length:=by
 simp only[gC,if_pos hs]at q
 cases hl:aQ g e dX l.tail with
 |none=>rw[hl]at q;cases q
 |some z=>
  rw[hl]at q;injection q with q
  injection q with q1 q2
  subst q2;have:=AE h e dX _ _ _ hl;have:=Po (l:=l) (by omega);have:=fw z.2;omega
theorem AF {g:Pa α} (h:j6 g) (e:Nat):∀n l a l',aQ g e n l=some (a,l')->a.length+l'.length<=l.length:=by
 intro n
 induction n with
 |zero=>intro l a l' q;cases q
 |succ n ih=>
  intro l a l' q;simp only[aQ]at q;split at q
  .injection q with q
   injection q with q1 q2
   subst q1 q2;simp
  .cases hg:g l with
   |none=>rw[hg]at q;cases q
   |some y=>
    rw[hg]at q;simp only at q
    cases hl:aQ g e n y.2 with
    |none=>rw[hl]at q;cases q
    |some z=>
     rw[hl]at q;injection q with q
     injection q with q1 q2
     subst q1 q2;have:=h _ _ _ hg;have:=ih _ _ _ hl;simp only[List.length_cons];omega
theorem AG {g:Pa α} (h:j6 g) {s e:Nat} {l l':List Tok} {a:List α} (q:gC s e g l=some (a,l')):a.length<=l.length:=by
 simp only[gC]at q;split at q
 .cases hl:aQ g e dX l.tail with
  |none=>rw[hl]at q;cases q
  |some z=>
   rw[hl]at q;injection q with q
   injection q with q1 q2
   subst q1;have:=AF h e dX _ _ _ hl;have:=fw l;omega
 .injection q with q
  injection q with q1 q2
  subst q1;simp
theorem lI {g:Pa α} (h:j6 g) {s e:Nat} {l l':List Tok} {a:List α} (q:ca s e g l=some (a,l')):a.length<=l.length:=by
 simp only[ca]at q;split at q
 .cases hl:aQ g e dX l.tail with
  |none=>rw[hl]at q;cases q
  |some z=>
   rw[hl]at q;simp only at q;split at q
   .cases q
   .injection q with q
    injection q with q1 q2
    subst q1;have:=AF h e dX _ _ _ hl;have:=fw l;omega
 .injection q with q
  injection q with q1 q2
  subst q1;simp
theorem tv {g:Pa α} (h:j6 g) (k:Nat):∀n l a l',bE g k n l=some (a,l')->a.length+l'.length<=l.length:=by
 intro n
 induction n with
 |zero=>intro l a l' q;cases q
 |succ n ih=>
  intro l a l' q;simp only[bE]at q;split at q
  .cases hg:g l.tail with
   |none=>rw[hg]at q;cases q
   |some y=>
    rw[hg]at q;simp only at q
    cases hl:bE g k n y.2 with
    |none=>rw[hl]at q;cases q
    |some z=>
     rw[hl]at q;injection q with q
     injection q with q1 q2
     subst q1 q2;have:=h _ _ _ hg;have:=ih _ _ _ hl;have:=fw l;simp only[List.length_cons];omega
  .injection q with q
   injection q with q1 q2
   subst q1 q2;simp
theorem tw {g:Pa dM} (h:ru g):j6 (ot g):=(aq 16).then λn=>(aq 8).dR.then λ_=>h.then λv=> .ret _
theorem kI:∀n fx d,j6 (aU n fx d):=by
 intro n
 induction n with
 |zero=>intro fx d l a l' e;cases e
 |succ n ih=>
  intro fx d l a l' e
  cases l with
  |nil=>cases e
  |cons t r=>
   simp only[aU]at e;have leaf:∀{x:dM},some (x,r)=some (a,l')->l'.length <(t::r).length:=λe=>by injection e with e;injection e with e1 e2;subst e2;simp
   split at e
   .rename_i hk;split at e
    .cases hm:gC 11 12 (aU n fx (d+1)) (t::r)with
     |none=>rw[hm]at e;cases e
     |some y=>
      rw[hm]at e;injection e with e
      injection e with e1 e2
      subst e2;exact D8 (ih fx (d+1)).dR hk (by omega) hm
    .cases e
   split at e
   .rename_i hk;split at e
    .cases hm:gC 13 14 (ot (aU n fx (d+1))) (t::r)with
     |none=>rw[hm]at e;cases e
     |some y=>
      rw[hm]at e;injection e with e
      injection e with e1 e2
      subst e2;exact D8 (tw (ih fx (d+1)).dR).dR hk (by omega) hm
    .cases e
   split at e
   .cases fx with
    |true=>cases e
    |false=>
     simp only at e
     cases hn:ar r with
     |none=>rw[hn]at e;cases e
     |some y=>
      rw[hn]at e;injection e with e
      injection e with e1 e2
      subst e2;have:=aq 16 _ _ _ hn;simp only[List.length_cons];omega
   iterate 5 (split at e;exact leaf e)
   cases e
theorem p5:∀n d,j6 (cK n d):=by
 intro n
 induction n with
 |zero=>intro d l a l' e;cases e
 |succ n ih=>
  intro d l a l' e
  by_cases hl:bC l=11
  .have:cK (n+1) d l=if d <1000 then((cK n (d+1)).andThen λt=>(aE 12).andThen λ_=>(bB 2).andThen λb=> .ret (.mk [] [t] b)) l.tail else none:=by
    simp only[cK,if_pos hl,Pa.andThen,Pa.ret];split
    .cases cK n (d+1) l.tail with
     |none=>rfl
     |some x=>
      simp only
      cases aE 12 x.2 with|none=>rfl|some y=>simp only;cases bB 2 y.2<;>rfl
    .rfl
   rw[this]at e;split at e
   .have:=((ih (d+1)).then λt=>(aq 12).dR.then λ_=>(lY 2).then λb=>ru.ret (gn.mk [] [t] b)) _ _ _ e
    have:=fw l
    omega
   .cases e
  .have:cK (n+1) d l=(ar.andThen λnm=>(bB 2).andThen λb=> .ret (.mk nm [] b)) l:=by
    simp only[cK,if_neg hl,Pa.andThen,Pa.ret]
    cases ar l with|none=>rfl|some x=>simp only;cases bB 2 x.2<;>rfl
   rw[this]at e;exact((aq 16).then λnm=>(lY 2).then λb=>ru.ret (gn.mk nm [] b)) _ _ _ e
theorem tx (fx:Bool):j6 (zH fx):=(aq 16).then λn=>(aq 8).dR.then λ_=>(kI _ _ _).dR.then λv=> .ret _
theorem JF (fx:Bool):ru (pX fx):=lH (tx fx).dR _ _
theorem p7 (fx:Bool):j6 (sm fx):=(aq 16).then λn=>(JF fx).then λv=> .ret _
theorem fp (fx:Bool):ru (fI fx):=D7 (p7 fx).dR _ _
theorem iM:ru fv:=by
 intro l a l' e;unfold fv at e;split at e
 .injection e with e
  injection e with e1 e2
  subst e2;simp
 .injection e with e
  injection e with e1 e2
  subst e2;exact Nat.le_refl _
theorem D9 (k:Nat):ru (pY k):=(lY k).then λb=>by cases b with|true=>exact(kI _ _ _).dR.then λv=> .ret _|false=>exact .ret _
theorem mN:j6 ij:=iM.dec λdoc=>(aq 16).then λn=>(aq 8).dR.then λ_=>(p5 _ _).dR.then λt=>(D9 9).then λdf=>(fp true).then λds=> .ret _
theorem tA:ru lW:=lH mN.dR _ _
theorem ss:j6 ou:=iM.dec λdoc=>(aq 16).then λn=>(aq 8).dR.then λ_=>(p5 _ _).dR.then λt=>(D9 9).then λdf=>(fp true).then λds=> .ret _
theorem ow:j6 lX:=iM.dec λdoc=>(aq 16).then λn=>tA.then λ_=>(aq 8).dR.then λ_=>(p5 _ _).dR.then λt=>(fp true).then λds=> .ret _
theorem qS:j6 pZ:=iM.dec λdoc=>(aq 16).then λn=>(fp true).then λds=> .ret _
theorem p8:j6 eE:=(aq 16).then λn=>by
 split
 .exact .ret _
 .exact .fail
theorem Ms:ru jd:=by
 intro l a l' e;unfold jd at e;split at e
 .injection e with e
  injection e with e1 e2
  subst e2;simp
 .cases e
theorem lJ:j6 tp:=Ms.dec λop=>(aq 8).then λ_=>(aq 16).dR.then λt=> .ret _
theorem ox {g:Pa α} (h:j6 g) (k:Nat):j6 (dv g k):=(lY k).dec λ_=>h.then λa=>(D7 h.dR k dX).then λ_=> .ret _
theorem Ea:ru cE:=by
 intro l a l' e;unfold cE at e;split at e
 .have:=(ox (aq 16) 4) _ _ _ e
  have:=fw l
  omega
 .injection e with e
  injection e with e1 e2
  subst e2;exact Nat.le_refl _
theorem tB:ru cj:=(lY 9).then λb=>by cases b with|true=>exact(ox (aq 16) 15).dR|false=>exact .ret _
theorem xS (doc:ak):j6 (fX doc):=(gq _).then λ_=>(aq 16).dR.then λn=>(fp true).then λds=> .ret _
theorem vD (w kd doc:ak):j6 (fY w kd doc):=(gq _).then λ_=>(aq 16).dR.then λn=>Ea.then λ_=>(fp true).then λds=>(lH ow.dR _ _).then λ_=> .ret _
theorem zJ (doc:ak):j6 (ik doc):=(gq _).then λ_=>(aq 16).dR.then λn=>(fp true).then λds=>tB.then λ_=> .ret _
theorem Cc (doc:ak):j6 (jy doc):=(gq _).then λ_=>(aq 16).dR.then λn=>(fp true).then λds=>(lH qS.dR _ _).then λ_=> .ret _
theorem zK (fx:Bool) (doc:ak):j6 (iq fx doc):=(gq _).then λ_=>(aq 16).dR.then λn=>(fp fx).then λds=>(lH ss.dR _ _).then λ_=> .ret _
theorem tC (fx:Bool) (doc:ak):j6 (bc fx doc):=by
 intro l a l' e;unfold bc at e;split at e;exact xS _ _ _ _ e;split at e;exact vD _ _ _ _ _ _ e;split at e;exact vD _ _ _ _ _ _ e;split at e;exact zJ _ _ _ _ e;split at e;exact Cc _ _ _ _ e;split at e;exact zK _ _ _ _ _ e
 cases e
theorem p9 (doc:ak):j6 (dw doc):=(gq _).then λ_=>(fp true).then λds=>(lH lJ.dR _ _).then λ_=> .ret _
theorem Mt:ru ov:=by
 intro l a l' e;unfold ov at e;split at e
 .injection e with e
  injection e with e1 e2
  subst e2;simp
 .injection e with e
  injection e with e1 e2
  subst e2;exact Nat.le_refl _
theorem Eb (doc:ak):j6 (mK doc):=(gq _).then λ_=>(aq 10).dR.then λ_=>(aq 16).dR.then λ_=>tA.then λ_=>(fp true).then λ_=>Mt.then λ_=>(gq _).dR.then λ_=>(ox p8 15).dR.then λ_=> .ret _
theorem Cd {em:α->Bool} {g:Pa α} (h:j6 g):j6 (ux em g):=h.then λd=>by
 split
 .exact .fail
 .exact .ret _
theorem Ce:j6 tq:=(gq _).then λ_=>(aq 10).dR.then λ_=>(aq 16).dR.then λ_=>(fp true).then λ_=> .ret _
theorem Mu:j6 kQ:=by intro l a l' e;unfold kQ at e;split at e;exact((Cd (p9 [])).then λd=> .ret _) _ _ _ e;split at e;exact((Cd Ce).then λd=> .ret _) _ _ _ e;exact((Cd (tC false [])).then λd=> .ret _) _ _ _ e
theorem JG (doc:ak):j6 (iL doc):=by
 intro l a l' e;unfold iL at e;split at e
 .split at e;exact((p9 doc).then λd=> .ret _) _ _ _ e;split at e;exact((Eb doc).then λd=> .ret _) _ _ _ e;split at e
  .split at e
   .have:=Mu _ _ _ e
    have:=fw l
    omega
   .cases e
  .exact((tC true doc).then λd=> .ret _) _ _ _ e
 .cases e
theorem uQ:j6 fj:=iM.dec JG
end
section
attribute [local irreducible] AC AL AW AD aP
section
variable {L:ak->Nat->Option (Int×ak×Nat)} {s:ak} {K:PK} {o:Option (List Tok)} {d p:Nat} {h h0 h1:AH} {ids:List Nat} {V:View} {l:List Tok} {b:Bool} {k:Nat}
def zg {α:Type} (g:Pa α) (e:Nat) (l1:List Tok) (o:Option (List Tok)) (acc:Option (List α)):Prop:=
 match o with
 |none=>aQ g e dX l1=none/\acc=none
 |some l=>∃n bs,acc=some bs/\l.length <n/\bs.length+l.length<=1048578/\aQ g e dX l1=match aQ g e n l with|none=>none|some (cs,r)=>some (bs++cs,r)
theorem zg.start {α:Type} {g:Pa α} {e:Nat} {l:List Tok} (hl:l.length<=1048578):zg g e l (some l) (some []):=by
 refine⟨dX,[],O,by rw[wM];omega,by simpa using hl,?_⟩
 cases aQ g e dX l with|none=>rfl|some x=>rfl
theorem zg.step {α:Type} {g:Pa α} (hd:j6 g) {e:Nat} {l1 l:List Tok} {acc:Option (List α)} (h:zg g e l1 (some l) acc) (hk:bC l≠e):zg g e l1 ((g l).map (·.2)) ((g l).bind λx=>acc.map λbs=>bs++[x.1]):=by
 obtain⟨n,bs,rfl,hn,hb,he⟩:=h;obtain⟨n,rfl⟩:∃m,n=m+1:=⟨n -1,by omega⟩;simp only[aQ,if_neg hk]at he
 cases hg:g l with
 |none=>rw[hg]at he;exact⟨he,O⟩
 |some x=>
  obtain⟨a,l'⟩:=x;rw[hg]at he;have:=hd _ _ _ hg;refine⟨n,bs++[a],O,by simp only at this|-;omega,by simp;omega,he.trans ?_⟩;simp only
  cases aQ g e n l' with|none=>rfl|some y=>simp
theorem zg.stop {α:Type} {g:Pa α} {e:Nat} {l1 l:List Tok} {acc:Option (List α)} (h:zg g e l1 (some l) acc) (hk:bC l=e):∃bs,acc=some bs/\aQ g e dX l1=some (bs,l):=by obtain⟨n,bs,rfl,hn,hb,he⟩:=h;obtain⟨n,rfl⟩:∃m,n=m+1:=⟨n -1,by omega⟩;refine⟨bs,O,?_⟩;rw[he];simp[aQ,hk]
def AH.aw (h:AH) (m:Nat):AH:={h with nt:=m}
theorem Kp.aw {m:Nat} (a:Kp ids (h0.aw m) h) (b:Kp ids (h.aw m) h1):Kp ids (h0.aw m) h1:=⟨Nat.le_trans a.n b.n,λk hk hi=>(b.get k (Nat.lt_of_lt_of_le hk a.n) hi).trans (a.get k hk hi),b.nt,λl hl=>(b.bV l hl).trans (a.bV l hl),b.aV.trans a.aV⟩
theorem Kp.nS {m:Nat} (a:Kp ids h0 h) (hm:m<=h0.nt):Kp ids (h0.aw m) h:=⟨a.n,a.get,Nat.le_trans hm a.nt,λl hl=>a.bV l (Nat.lt_of_lt_of_le hl hm),a.aV⟩
theorem HI.GD {o m:Nat} {cs dH:List AV} (H:HI (h0.aw m) ids h [(o,cs)]) (k:Kp ids (h.aw m) h1) (hg:h1.get o=some (.cells dH)):HI (h0.aw m) ids h1 [(o,dH)]:=⟨⟨⟨hg,Nat.lt_of_lt_of_le H.at_.2 k.n,by simp⟩,trivial⟩,H.kp.aw k,λe he=>by rw[List.mem_singleton]at he;subst he;exact H.new (o,cs) (by simp)⟩
theorem lZ (R:cM L) {α:Type} (g:Pa α) (dec:j6 g) {m:Nat} {f:FuncId} {eV:List AV} (hf:eF prog f) (hp:p∈ids) (J:Option (List α)->AH->Prop) (hJ:∀a h h',J a h->Kp [p] h h'->J a h') (Uq:∀a h,J a h->J none h)
 (Ur:∀b l bs h,PB L b h p s (some l) d->J (some bs) h->bs.length<=1048578->m<=h.nt->al prog f eV h (λv h'=>Kp ids (h.aw m) h'/\v= .cN []/\PB L false h' p s ((g l).map (·.2)) d/\J ((g l).map λx=>bs++[x.1]) h'))
 (S:PB L b h0 p s o d) {sk ek:Nat} (hs:2<=sk) (he:2<=ek) (j0:J (some []) h0) (hm:m<=h0.nt):
 al prog 110 [.ptr p 0,.int .i64 sk,.int .i64 ek,.pG f eV] h0 (λv h'=>Kp ids (h0.aw m) h'/\PB L false h' p s (((ca sk ek g).on o).map (·.2)) d/\J (((ca sk ek g).on o).map (·.1)) h'/\∃x,v= .one x):=by
 refine al.one (Q:=λv h'=>Kp ids (h0.aw m) h'/\PB L false h' p s (((ca sk ek g).on o).map (·.2)) d/\J (((ca sk ek g).on o).map (·.1)) h'/\v.cells=some [v]) ?_ (λ_ _ q=>q.2.2.2) (λv h' q=>⟨q.1,q.2.1,q.2.2.1,_,O⟩);obtain⟨ho,hT,K,hg,P,Yz⟩:=S;have hlen:∀l,o=some l->l.length<=1048578:=λl e=>(P.len R e).1
 refine az (n:=44) (rs:=[.tmp 8]) [] ⟨func110,O,O,O⟩ O ?_;have H:HI (h0.aw m) ids h0 [(p,K.cells s)]:=⟨⟨⟨hg,ho,by simp⟩,trivial⟩,⟨Nat.le_refl _,λ_ _ _=>rfl,hm,λ_ _=>rfl,O⟩,λe he=>by rw[List.mem_singleton]at he;subst he;exact .inl hp⟩;replace hT:(h0.aw m).aV=bQ:=hT;have kp0:Kp [p] h0 h0:= .refl;refine dZ H O λh H Y kq=>ae O call116 (xQ (k:=sk) R (PB.of H hT P Yz) hs) ?_;rintro x h2 ⟨kp,y,rfl,Om,BF⟩;have VF:=kq.trans kp
 cases y with
 |false=>
  obtain⟨kZ,_,_,K2,bI,P2,iy⟩:=BF O;replace H:=H.aA kp bI;refine dZ H O λh H Y Mv=>jI O <| dZ H O λh H Y kq=>?_;have e:(ca sk ek g).on o=o.map λl=>([],l):=by cases o with|none=>rfl|some l=>show(if bC l=sk then _ else _)=_;rw[if_neg (kZ l O)];rfl
  refine ab [] H O ⟨H.kp,?_,?_,O⟩
  .rw[e,show(o.map λl=>(([]:List α),l)).map (·.2)=o by cases o<;>rfl];exact PB.bU H hT P2
  .rw[e];have:=hJ _ _ _ j0 (VF.trans (Mv.trans kq))
   cases o with|none=>exact Uq _ _ this|some l=>exact this
 |true=>
  obtain⟨l,rfl,hl,_,_,K2,bI,P2,iy⟩:=Om O;replace H:=H.aA kp bI;refine dZ H O λh H Y Mv=>cX O <| dZ H O λh H Y kq=>?_;have e:(ca sk ek g).on (some l)=match aQ g ek dX l.tail with|none=>none|some (acc,l1)=>if acc.isEmpty then none else some (acc,l1.tail):=if_pos hl
  refine aC 44 (λx:Option (List Tok)×Option (List α)×Bool=>match x.1 with|none=>0|some l=>l.length+1)
   (λx=>[(0,.ptr p 0),(2,.int .i64 ek),(3,.pG f eV),(8,.bq),(10,.bool x.2.2)])
   (λx h'=>∃K,HI (h0.aw m) ids h' [(p,K.cells s)]/\PR L s K x.1 d/\J x.2.1 h'/\zg g ek l.tail x.1 x.2.1/\∀bs,x.2.1=some bs->x.2.2= !bs.isEmpty)
   (λx:Option (List Tok)×Option (List α)×Bool=>[(0,.ptr p 0),(2,.int .i64 ek),(3,.pG f eV),(8,.bq),(10,.bool x.2.2)])
   (λx h'=>∃K,HI (h0.aw m) ids h' [(p,K.cells s)]/\PR L s K x.1 d/\(∀l,x.1=some l->K.pk=true)/\J x.2.1 h'/\((x.1=none/\aQ g ek dX l.tail=none)\/∃l' bs,x.1=some l'/\bC l'=ek/\aQ g ek dX l.tail=some (bs,l')/\x.2.1=some bs/\x.2.2= !bs.isEmpty))
   (some l.tail,some [],false) O ⟨_,H,P2,hJ _ _ _ j0 (VF.trans (Mv.trans kq)),zg.start (by have:=hlen l O;simp;omega),by simp⟩ ?_ ?_
  .clear H Mv kq;rintro⟨o1,acc,called⟩ h ⟨K,H,P,j,lp,hc⟩ again done;simp only at P j lp hc;refine dZ H O λh H Y kq=>have j:=hJ _ _ _ j kq;ae O call67 (cH R (PB.bU H hT P)) ?_;rintro x h2 ⟨kp,⟨_,_,K1,eM,P1,dJ⟩,k',v,q1,q2,q3,q4,sr,rfl,hx⟩;replace H:=H.aA kp eM;replace j:=hJ _ _ _ j kp;refine dZ H O λh H Y kq=>?_;replace j:=hJ _ _ _ j kq;have dJ:=dJ O
   cases o1 with
   |none=>
    obtain⟨y,hy⟩:=P1.no O;obtain⟨st,a,e,b_,c,d',er,pk,k0,v0,p1,pr,r1,t1,pt,pe,k2,v2,p2,pw,r2,t2,fK,rr,cc,tc,dp⟩:=K1;simp only at hy;subst hy;refine aj O (λhb=>?_) λhb=>?_
    .refine yX [0] H O λh H Y kq=>have j:=hJ _ _ _ j kq;cX O ?_;exact dZ H O λh H Y kq=>done (none,acc,called) O ⟨_,H,P1,dJ,hJ _ _ _ j kq,.inl ⟨O,lp.1⟩⟩
    .refine dZ H O λh H Y kq=>have j:=hJ _ _ _ j kq;cX O ?_;exact dZ H O λh H Y kq=>done (none,acc,called) O ⟨_,H,P1,dJ,hJ _ _ _ j kq,.inl ⟨O,lp.1⟩⟩
   |some l1=>
    have hy:=(P1.so _ O).1
    have hk:=(hx _ O).1
    have P0:=P1
    obtain⟨st,a,e,b_,c,d',er,pk,k0,v0,p1,pr,r1,t1,pt,pe,k2,v2,p2,pw,r2,t2,fK,rr,cc,tc,dp⟩:=K1;simp only at hy;subst hy;refine aj O (λhb=>?_) λhb=>?_
    .have cv:bC l1≠ek:=by simp at hb;omega
     refine yX [0,91] H O λh H Y kq=>?_;replace j:=hJ _ _ _ j kq;have zL:=lp;obtain⟨n,Ow,rfl,_,h3,_⟩:=lp;refine wZ O O O hf O (Ur _ _ _ _ (PB.bU H hT P1) j (by omega) H.kp.nt) ?_;rintro x h3 ⟨kp,rfl,⟨_,_,K3,bF,P3,kO⟩,j⟩;replace H:=H.GD kp bF;refine dZ H O λh H Y kq=>?_;refine again (((g l1).map (·.2)),((g l1).map λx=>Ow++[x.1]),true) ?_ O ⟨_,H,P3,hJ _ _ _ j kq,by have:=zL.step dec cv;cases hg:g l1 with|none=>rw[hg]at this;exact this|some y=>rw[hg]at this;exact this,?_⟩
     .show(match(g l1).map (·.2)with|none=>0|some l=>l.length+1) <l1.length+1
      cases hg:g l1 with
      |none=>simp
      |some y=>
       have:=dec _ _ _ hg
       simp;omega
     .intro bs e2;show true=_
      cases hg:g l1 with|none=>simp only[hg]at e2;cases e2|some y=>simp only[hg]at e2;injection e2 with e2;subst e2;simp
    .have heq:bC l1=ek:=by simp at hb;omega
     refine dZ H O λh H Y kq=>have j:=hJ _ _ _ j kq;cX O ?_;refine dZ H O λh H Y kq=>?_;obtain⟨bs,e1,e2⟩:=lp.stop heq;exact done (some l1,acc,called) O ⟨_,H,P1,dJ,hJ _ _ _ j kq,.inr ⟨l1,bs,O,heq,e2,e1,hc bs e1⟩⟩
  .clear H Mv kq;rintro⟨o1,acc,called⟩ h ⟨K,H,P,dJ,j,gW⟩;simp only at P j gW dJ;refine dZ H O λh H Y kq=>?_;replace j:=hJ _ _ _ j kq
   cases called with
   |false=>
    refine jI O ?_;refine dZ H O λh H Y kq=>have j:=hJ _ _ _ j kq;ae O call67 (cH R (PB.bU H hT P)) ?_;rintro x h2 ⟨kp,⟨_,_,K1,eM,P1,dJ⟩,k',v,q1,q2,q3,q4,sr,rfl,hx⟩;replace H:=H.aA kp eM;replace j:=hJ _ _ _ j kp;refine dZ H O λh H Y kq=>have j:=hJ _ _ _ j kq;ae O call118 (lG (PB.bU H hT P1) λl e=>(hx l e).2.2) ?_;rintro x h2 ⟨kp,⟨_,_,K2,bI,P2,iy⟩,rfl⟩;replace H:=H.aA kp bI;replace j:=hJ _ _ _ j kp;refine dZ H O λh H Y kq=>?_;replace j:=hJ _ _ _ j kq;have e2:(ca sk ek g).on (some l)=none:=by
     rw[e];rcases gW with⟨_,q⟩|⟨l',bs,_,_,q,_,q2⟩
     .rw[q]
     .rw[q];simp only;rw[if_pos (by simpa using q2)]
    refine ab [] H O ⟨H.kp,?_,?_,O⟩
    .rw[e2];exact PB.bU H hT P2
    .rw[e2];exact Uq _ _ j
   |true=>
    refine cX O ?_;obtain⟨cm,lf⟩:=P.cm;have P0:=P;obtain⟨st,a,e_,b_,c,d',er,pk,k0,v0,p1,pr,r1,t1,pt,pe,k2,v2,p2,pw,r2,t2,fK,rr,cc,tc,dp⟩:=K;simp only at lf;subst lf;refine yX [0] H O λh H Y kq=>have j:=hJ _ _ _ j kq;ae O call101 (fa R (PB.of H hT P λ_=>dJ)) ?_;rintro x h2 ⟨kp,⟨_,_,K2,bI,P2,iy⟩,_⟩;replace H:=H.aA kp bI;replace j:=hJ _ _ _ j kp;refine dZ H O λh H Y kq=>have j:=hJ _ _ _ j kq;ab [] H O ⟨H.kp,?_,?_,O⟩
    .refine PB.bU H hT ?_;rw[e];rcases gW with⟨rfl,q⟩|⟨l',bs,rfl,q1,q,_,q2⟩
     .rw[q];exact P2
     .rw[q];simp only;rw[if_neg (by simpa using q2)];rw[jA (by omega)]at P2;exact P2
    .rw[e];rcases gW with⟨rfl,q⟩|⟨l',bs,rfl,q1,q,q3,q2⟩
     .rw[q];exact Uq _ _ j
     .rw[q];simp only;rw[if_neg (by simpa using q2)];subst q3;exact j
theorem Ec (R:cM L) {α:Type} (g:Pa α) (dec:j6 g) {m:Nat} {f:FuncId} {eV:List AV} (hf:eF prog f) (hp:p∈ids) (J:Option (List α)->AH->Prop) (hJ:∀a h h',J a h->Kp [p] h h'->J a h') (Uq:∀a h,J a h->J none h)
 (Ur:∀b l bs h,PB L b h p s (some l) d->J (some bs) h->bs.length<=1048578->m<=h.nt->al prog f eV h (λv h'=>Kp ids (h.aw m) h'/\v= .cN []/\PB L false h' p s ((g l).map (·.2)) d/\J ((g l).map λx=>bs++[x.1]) h'))
 (S:PB L b h0 p s o d) {sk ek:Nat} (hs:2<=sk) (he:2<=ek) (j0:J (some []) h0) (hm:m<=h0.nt):
 al prog 213 [.ptr p 0,.int .i64 sk,.int .i64 ek,.pG f eV] h0 (λv h'=>Kp ids (h0.aw m) h'/\PB L false h' p s (((gC sk ek g).on o).map (·.2)) d/\J (((gC sk ek g).on o).map (·.1)) h'/\v= .cN []):=by
 obtain⟨ho,hT,K,hg,P,Yz⟩:=S;have hlen:∀l,o=some l->l.length<=1048578:=λl e=>(P.len R e).1
 refine az (n:=30) (rs:=[]) [] ⟨func213,O,O,O⟩ O ?_;have H:HI (h0.aw m) ids h0 [(p,K.cells s)]:=⟨⟨⟨hg,ho,by simp⟩,trivial⟩,⟨Nat.le_refl _,λ_ _ _=>rfl,hm,λ_ _=>rfl,O⟩,λe he=>by rw[List.mem_singleton]at he;subst he;exact .inl hp⟩;replace hT:(h0.aw m).aV=bQ:=hT;have kp0:Kp [p] h0 h0:= .refl;refine dZ H O λh H Y kq=>ae O call116 (xQ (k:=sk) R (PB.of H hT P Yz) hs) ?_;rintro x h2 ⟨kp,y,rfl,Om,BF⟩;have VF:=kq.trans kp
 cases y with
 |false=>
  obtain⟨kZ,_,_,K2,bI,P2,iy⟩:=BF O;replace H:=H.aA kp bI;refine dZ H O λh H Y Mv=>jI O <| dZ H O λh H Y kq=>?_;have e:(gC sk ek g).on o=o.map λl=>([],l):=by cases o with|none=>rfl|some l=>show(if bC l=sk then _ else _)=_;rw[if_neg (kZ l O)];rfl
  refine ab [] H O ⟨H.kp,?_,?_,O⟩
  .rw[e,show(o.map λl=>(([]:List α),l)).map (·.2)=o by cases o<;>rfl];exact PB.bU H hT P2
  .rw[e];have:=hJ _ _ _ j0 (VF.trans (Mv.trans kq))
   cases o with|none=>exact Uq _ _ this|some l=>exact this
 |true=>
  obtain⟨l,rfl,hl,_,_,K2,bI,P2,iy⟩:=Om O;replace H:=H.aA kp bI;refine dZ H O λh H Y Mv=>cX O <| dZ H O λh H Y kq=>?_;have e:(gC sk ek g).on (some l)=match aQ g ek dX l.tail with|none=>none|some (acc,l1)=>some (acc,l1.tail):=if_pos hl
  refine aC 30 (λx:Option (List Tok)×Option (List α)×Bool=>match x.1 with|none=>0|some l=>l.length+1)
   (λx=>[(0,.ptr p 0),(2,.int .i64 ek),(3,.pG f eV)])
   (λx h'=>∃K,HI (h0.aw m) ids h' [(p,K.cells s)]/\PR L s K x.1 d/\J x.2.1 h'/\zg g ek l.tail x.1 x.2.1/\∀bs,x.2.1=some bs->x.2.2= !bs.isEmpty)
   (λx:Option (List Tok)×Option (List α)×Bool=>[(0,.ptr p 0),(2,.int .i64 ek),(3,.pG f eV)])
   (λx h'=>∃K,HI (h0.aw m) ids h' [(p,K.cells s)]/\PR L s K x.1 d/\(∀l,x.1=some l->K.pk=true)/\J x.2.1 h'/\((x.1=none/\aQ g ek dX l.tail=none)\/∃l' bs,x.1=some l'/\bC l'=ek/\aQ g ek dX l.tail=some (bs,l')/\x.2.1=some bs/\x.2.2= !bs.isEmpty))
   (some l.tail,some [],false) O ⟨_,H,P2,hJ _ _ _ j0 (VF.trans (Mv.trans kq)),zg.start (by have:=hlen l O;simp;omega),by simp⟩ ?_ ?_
  .clear H Mv kq;rintro⟨o1,acc,called⟩ h ⟨K,H,P,j,lp,hc⟩ again done;simp only at P j lp hc;refine dZ H O λh H Y kq=>have j:=hJ _ _ _ j kq;ae O call67 (cH R (PB.bU H hT P)) ?_;rintro x h2 ⟨kp,⟨_,_,K1,eM,P1,dJ⟩,k',v,q1,q2,q3,q4,sr,rfl,hx⟩;replace H:=H.aA kp eM;replace j:=hJ _ _ _ j kp;refine dZ H O λh H Y kq=>?_;replace j:=hJ _ _ _ j kq;have dJ:=dJ O
   cases o1 with
   |none=>
    obtain⟨y,hy⟩:=P1.no O;obtain⟨st,a,e,b_,c,d',er,pk,k0,v0,p1,pr,r1,t1,pt,pe,k2,v2,p2,pw,r2,t2,fK,rr,cc,tc,dp⟩:=K1;simp only at hy;subst hy;refine aj O (λhb=>?_) λhb=>?_
    .refine yX [0] H O λh H Y kq=>have j:=hJ _ _ _ j kq;cX O ?_;exact dZ H O λh H Y kq=>done (none,acc,called) O ⟨_,H,P1,dJ,hJ _ _ _ j kq,.inl ⟨O,lp.1⟩⟩
    .refine dZ H O λh H Y kq=>have j:=hJ _ _ _ j kq;cX O ?_;exact dZ H O λh H Y kq=>done (none,acc,called) O ⟨_,H,P1,dJ,hJ _ _ _ j kq,.inl ⟨O,lp.1⟩⟩
   |some l1=>
    have hy:=(P1.so _ O).1
    have hk:=(hx _ O).1
    have P0:=P1
    obtain⟨st,a,e,b_,c,d',er,pk,k0,v0,p1,pr,r1,t1,pt,pe,k2,v2,p2,pw,r2,t2,fK,rr,cc,tc,dp⟩:=K1;simp only at hy;subst hy;refine aj O (λhb=>?_) λhb=>?_
    .have cv:bC l1≠ek:=by simp at hb;omega
     refine yX [0,91] H O λh H Y kq=>?_;replace j:=hJ _ _ _ j kq;have zL:=lp;obtain⟨n,Ow,rfl,_,h3,_⟩:=lp;refine wZ O O O hf O (Ur _ _ _ _ (PB.bU H hT P1) j (by omega) H.kp.nt) ?_;rintro x h3 ⟨kp,rfl,⟨_,_,K3,bF,P3,kO⟩,j⟩;replace H:=H.GD kp bF;refine dZ H O λh H Y kq=>?_;refine again (((g l1).map (·.2)),((g l1).map λx=>Ow++[x.1]),true) ?_ O ⟨_,H,P3,hJ _ _ _ j kq,by have:=zL.step dec cv;cases hg:g l1 with|none=>rw[hg]at this;exact this|some y=>rw[hg]at this;exact this,?_⟩
     .show(match(g l1).map (·.2)with|none=>0|some l=>l.length+1) <l1.length+1
      cases hg:g l1 with
      |none=>simp
      |some y=>
       have:=dec _ _ _ hg
       simp;omega
     .intro bs e2;show true=_
      cases hg:g l1 with|none=>simp only[hg]at e2;cases e2|some y=>simp only[hg]at e2;injection e2 with e2;subst e2;simp
    .have heq:bC l1=ek:=by simp at hb;omega
     refine dZ H O λh H Y kq=>have j:=hJ _ _ _ j kq;cX O ?_;refine dZ H O λh H Y kq=>?_;obtain⟨bs,e1,e2⟩:=lp.stop heq;exact done (some l1,acc,called) O ⟨_,H,P1,dJ,hJ _ _ _ j kq,.inr ⟨l1,bs,O,heq,e2,e1,hc bs e1⟩⟩
  .clear H Mv kq;rintro⟨o1,acc,called⟩ h ⟨K,H,P,dJ,j,gW⟩;simp only at P j gW dJ;refine dZ H O λh H Y kq=>have j:=hJ _ _ _ j kq;ae O call101 (fa R (PB.of H hT P λ_=>dJ)) ?_;rintro x h2 ⟨kp,⟨_,_,K2,bI,P2,iy⟩,_⟩;replace H:=H.aA kp bI;replace j:=hJ _ _ _ j kp;refine dZ H O λh H Y kq=>have j:=hJ _ _ _ j kq;cy [] H O ⟨H.kp,?_,?_,O⟩
   .refine PB.bU H hT ?_;rw[e];rcases gW with⟨rfl,q⟩|⟨l',bs,rfl,q1,q,_,q2⟩
    .rw[q];exact P2
    .rw[q];rw[jA (by omega)]at P2;exact P2
   .rw[e];rcases gW with⟨rfl,q⟩|⟨l',bs,rfl,q1,q,q3,q2⟩
    .rw[q];exact Uq _ _ j
    .rw[q];subst q3;exact j
end
end
section
variable {P:Program} {lt:LT} {h h0 h1:AH} {ids:List Nat} {V V':View} {fr aB:ay} {ks:List Kt} {C:Exit->ay->AH->Prop} {f:FuncId} {args:List AV}
def ee (x y:AV):Prop:=∀(g:Gh) (w:World) (v:Value),VR g w x v->VR g w y v
theorem ee.bq:ee .bq (.one .bq):=λ_ _ _ h=> .one _ _ h (by cases h;rfl)
theorem ee.refs {id:Option (Nat×Nat)} {cs dH:List AV} (hs:fZ cs dH):ee (.ref id cs) (.ref id dH):=λg w v h=>by
 obtain⟨k1,k2⟩:=hs.get
 cases h with|ref _ _ ad vs hc hv ho hm hr hz=>exact .ref id dH ad vs (λi hi=>hc i (by omega)) (λi hi=>k2 i (by omega) hi g w _ (hv i (by omega)) (ho i (by omega))) (λi hi=>ho i (by omega)) (λi hi=>hm i (by omega)) hr hz
theorem ee.ref {id:Option (Nat×Nat)} {cs dH:List AV} (hs:fZ cs dH):ee (.ref id cs) (.one (.ref id dH)):=λg w v h=>by
 have:=ee.refs hs g w v h
 refine .one _ _ this ?_
 cases h;rfl
theorem GF {g:Gh} {w:World} {h:AH} (R:Rel g w h) {d:Nat} {cs:List AV} (hg:h.get d=some (.cells cs)):∃g',Ev g w g' w/\Rel g' w (h.set d .KM)/\∀u,VR g w (.ptr d 0) u->VR g' w (.ref none cs) u:=by
 obtain⟨b,hb,vs,T,hw,hv⟩:=R.obj _ _ hg;have hx:=(R.uC _ _ hb).2.1 (by rw[hg];simp) (by rw[hg];simp);obtain⟨E',R'⟩:=Je R hb hw hx (by rw[hg];simp);refine⟨_,E',R',λu hu=>?_⟩
 cases hu with
 |ptr _ _ b' dk=>
  have:b'=b:=by rw[hb]at dk;injection dk with dk;exact dk.symm
  subst this;have Xa:=hv.mono E'.toEvc;refine .ref none cs _ (λi=>vs.getD i undef) (λi hi=>?_) (λi hi=>Xa.1.2 i hi) (λi hi=>Xa.2 i hi) (λi hi=>?_) trivial ⟨_,_,hw⟩
  .have:=hv.1.1
   rw[cL];simp only[World.cell?,hw];simp[Array.getD_eq_getD_getElem?,Array.getElem?_eq_getElem (show i <vs.size by omega)]
  .have:=hv.1.1
   rw[cL];simp only[Gh.xt,if_true];omega
theorem al.obj {Q Q':AV->AH->Prop} (H:al P f args h Q) (hq:∀v h',Q v h'->(∃v',ee v v'/\Q' v' h')\/∃d cs dH,v= .ptr d 0/\h'.get d=some (.cells cs)/\fZ cs dH/\Q' (.one (.ref none dH)) (h'.set d .KM)):al P f args h Q':=by
 obtain⟨v,h',q,r⟩:=H;rcases hq v h' q with⟨v',hs,q'⟩|⟨d,cs,dH,rfl,hg,hs,q'⟩
 .refine⟨v',h',q',λg w vs R nC=>Calls.mono (r g w vs R nC) ?_⟩;rintro e w' ⟨u,g',rfl,E,R',V⟩;exact⟨u,g',O,E,R',hs _ _ _ V⟩
 .refine⟨_,_,q',λg w vs R nC=>Calls.mono (r g w vs R nC) ?_⟩;rintro e w' ⟨u,g',rfl,E,R',V⟩;obtain⟨g2,E2,R2,V2⟩:=GF R' hg;exact⟨u,g2,O,E.trans E2,R2,ee.ref hs _ _ _ (V2 u V)⟩
theorem Kp.GH {o:Nat} {x:mV} (k:Kp ids h h1) (ho:h.n<=o):Kp ids h (h1.set o x):=⟨k.n,λi hi hn=>by simp only[AH.set];rw[if_neg (by omega)];exact k.get i hi hn,k.nt,k.bV,k.aV⟩
theorem uk {rs:List ResultVar} {Q:AV->AH->Prop} {xs:List AV} (hd:fr.df=[]) (hx:wa P fr [] [] rs=some (xs,[])) (q:Q (iY xs) h):XS P lt (Mh P rs Q) (.ext .ret) [] fr h:=by refine⟨iY xs,h,by rw[hd];rfl,?_,q⟩;have:=kF hd (oi (V:=[]) (h:=h) trivial hx O);exact(mD this).2
theorem Mw {fr aB:ay} (hf:aB.f=fr.f) (hl:aB.loc=fr.loc) (hn:aB.n=fr.n) {rs:List ResultVar}:oV P aB h rs=oV P fr h rs:=by
 have he:∀x,aB.ev x=fr.ev x:=λx=>by cases x<;>simp only[ay.ev,hf,hn]
 induction rs with
 |nil=>rfl
 |cons r rs ih=>
  have:sR P aB h r=sR P fr h r:=by cases r with|tmp t=>simp only[sR,he]|cell a t=>simp only[sR,rG,he,hl]
  simp only[oV,this,ih]
theorem um {rs:List ResultVar} {Q:AV->AH->Prop} {f:FuncId} {args:List AV} {xs:List AV} (hd:fr.df=[(f,args)]) (hc:eF P f) (D:∃h2,Q (iY xs) h2/\oW P f args h h2)
 (hx:wa P {fr with df:=[]} [] [] rs=some (xs,[])):XS P lt (Mh P rs Q) (.ext .ret) [] fr h:=by
 obtain⟨h2,q,D⟩:=D;refine⟨iY xs,h2,by rw[hd];exact⟨hc,h2,D,O⟩,?_,q⟩;have h3:=kF (P:=P) (fr:={fr with df:=[]}) (h:=h2) O (oi (V:=[]) trivial hx O);have h4:=(mD h3).2;have e:=Mw (P:=P) (h:=h2) (fr:={fr with df:=[]}) (aB:=fr) O O O (rs:=rs);unfold gk at h4|-;rw[e];exact h4
theorem JH (fr:ay) (d:Tmp) (s t:Slot):(fr.bf d s).bf d t=fr.bf d t:=by
 simp only[ay.bf]
 congr 1
 funext k
 split<;>rfl
theorem ag.ku {ops:List Oper} {o:Oper} {d:Tmp} {x y:AV} {h':AH} (hd:o.dst=some d) (hs:ee x y) (st:ag P lt ops o fr h (.v x) h'):ag P lt ops o fr h (.v y) h':=by
 intro aB e1 e2 e3 g0 w0 a w Q K S hK;refine st aB e1 e2 e3 g0 w0 a w Q K S λa' w' S'=>hK a' w' ?_;rw[hd]at S'|-;have:=AS.slot (t:=d) (x:=x) (y:=y) (by simp[ay.put,ay.bf]) hs g0 w0 a' w' S';simp only[ay.put]at this|-
 rwa [JH]at this
end
section
attribute [local irreducible] AC AL AW AD aP
inductive GI:gn->AV->Prop where
 |name (n:ak) (b:Bool) (rest:List AV):GI (.mk n [] b) (.one (.ref none (.str n:: .one .bq:: .bool b::rest)))
 |list (t:gn) (z:AV) (b:Bool) (rest:List AV) (h:GI t (.one z)):GI (.mk [] [t] b) (.one (.ref none (.str []:: .one z:: .bool b::rest)))
mutual
def iB:dM->AV->Prop
 | .mk k r ks,y=>∃x rest,y= .one (.ref none (.str r:: .one x:: .int .i64 k::rest))/\RU 1 (xT ks) x
def xT:List (ak×dM)->List (List AV)->Prop
 |[],[]=>True
 |(n,v)::ks,c::cs=>(∃z rest,c=[.one (.ref none (.str n:: .one z::rest))]/\iB v (.one z))/\xT ks cs
 |_,_=>False
end
def Ef (a:ak×dM) (c:List AV):Prop:=∃z rest,c=[.one (.ref none (.str a.1:: .one z::rest))]/\iB a.2 (.one z)
theorem Eg (l:List (ak×dM)) (es:List (List AV)):xT l es=bx Ef l es:=by induction l generalizing es with|nil=>cases es<;>simp[xT,bx]|cons t l ih=>obtain⟨n,v⟩:=t;cases es<;>simp[xT,bx,ih,Ef]
theorem iB.out {t:dM} {y:AV} (h:iB t y):∃k r ks x rest,t= .mk k r ks/\y= .one (.ref none (.str r:: .one x:: .int .i64 k::rest))/\RU 1 (bx Ef ks) x:=by cases t with|mk k r ks=>simp only[iB]at h;obtain⟨x,rest,h1,h2⟩:=h;exact⟨k,r,ks,x,rest,O,h1,by rwa [show xT ks=bx Ef ks from funext λes=>Eg ks es]at h2⟩
theorem iB.mk' {k:Int} {r:ak} {ks:List (ak×dM)} {x:AV} {rest:List AV} (h:RU 1 (bx Ef ks) x):iB (.mk k r ks) (.one (.ref none (.str r:: .one x:: .int .i64 k::rest))):=by simp only[iB];exact⟨x,rest,O,by rwa [show xT ks=bx Ef ks from funext λes=>Eg ks es]⟩
section
variable {L:ak->Nat->Option (Int×ak×Nat)} {s:ak} {K:PK} {o o':Option (List Tok)} {d p:Nat} {h h0 h1:AH} {ids:List Nat} {V:View} {l:List Tok} {b:Bool} {k:Nat}
theorem PB.set {j:Nat} {x:mV} (S:PB L b h p s o d) (hj:j≠p):PB L b (h.set j x) p s o d:=by obtain⟨ho,hT,K,hg,P⟩:=S;exact⟨ho,hT,K,by simp only[AH.set];rw[if_neg (Ne.symm hj)];exact hg,P⟩
def bR (L:ak->Nat->Option (Int×ak×Nat)) (h0:AH) (p:Nat) (s:ak) (o':Option (List Tok)) (d:Nat) (C:AV->Prop) (v:AV) (h':AH):Prop:=Kp [p] h0 h'/\PB L false h' p s o' d/\((v= .bq/\o'=none)\/∃dd cs dH,v= .ptr dd 0/\h0.n<=dd/\dd≠p/\h'.get dd=some (.cells cs)/\fZ cs dH/\C (.one (.ref none dH)))
theorem bR.done {α:Type} {x:Option (α×List Tok)} {R:α->AV->Prop} {f:FuncId} {args:List AV} (H:al prog f args h0 (bR L h0 p s (x.map (·.2)) d λv=>dO x λa=>R a v)):
 al prog f args h0 (λv h'=>Kp [p] h0 h'/\PB L false h' p s (x.map (·.2)) d/\∃y,v= .one y/\dO x λa=>R a v):=by
 refine al.obj H ?_;rintro v h' ⟨kp,S,⟨rfl,hn⟩|⟨dd,cs,dH,rfl,hd,hp,hg,hs,hC⟩⟩
 .exact .inl ⟨_,ee.bq,kp,S,_,O,λa l e=>by rw[e]at hn;cases hn⟩
 .exact .inr ⟨dd,cs,dH,O,hg,hs,kp.GH hd,S.set hp,_,O,hC⟩
theorem bR.mk' {C:AV->Prop} {j dd:Nat} {cs dH:List AV} (H:HI h0 [p] h ((p,K.cells s)::V)) (hT:h0.aV=bQ) (P:PR L s K o' d) (ho:p <h0.n) (hg:nK j V=some (dd,cs)) (hs:fZ cs dH) (hC:C (.one (.ref none dH))):
 bR L h0 p s o' d C (.ptr dd 0) h:=by
 have hm:=jq hg
 have h1:=H.hv.2.get hm
 have h2:=H.hv.1.2.2 _ hm
 have h3:=H.new (dd,cs) (List.mem_cons_of_mem _ hm)
 simp only at h1 h2 h3;refine⟨H.kp,PB.bU H hT P,.inr ⟨dd,cs,dH,O,?_,h2,h1.1,hs,hC⟩⟩;rcases h3 with h3|h3
 .exact absurd (by simpa using h3) h2
 .exact h3
theorem eB {α:Type} (g:Pa α) (l:List Tok):g.on (some l)=g l:=rfl
theorem GJ {k:Nat} (h:∀l,o=some l->bC l≠k):(bB k).on o=o.map λl=>(false,l):=by cases o with|none=>rfl|some l=>cases l with|nil=>rfl|cons t r=>have:=h _ O;simp only[bC]at this;simp[Pa.on,bB,this]
theorem Cf {k:Nat} (hk:2<=k) (h:bC l=k):bB k l=some (true,l.tail):=by cases l with|nil=>simp[bC]at h;omega|cons t r=>simp only[bC]at h;simp[bB,h]
theorem kx (S:PB L b h0 p s o (d+1)):∃h',(Kp [p] h0 h'/\PB L b h' p s o d)/\oW prog 200 [.ptr p 0] h0 h':=by obtain⟨ho,hT,K,hg,P,hp⟩:=S;obtain⟨st,a,e,b_,c,d',er,pk,k0,v0,p1,pr,r1,t1,pt,pe,k2,v2,p2,pw,r2,t2,fK,rr,cc,tc,dp⟩:=K;obtain⟨c1,c2,c3,c4,c5,c6,c7,c8⟩:=P;simp only at c2 c3 c4 c5 c7 c8 hp;subst c5;refine oW.of (Q:=λh'=>Kp [p] h0 h'/\PB L b h' p s o d) (n:=9) (rs:=[]) ⟨func200,O,O,O⟩ [] O <| have H:=HI.one hg ho;an [0,0] H O λh H Y=>?_;rw[wrap_i64 (n:=((d+1:Nat):Int) -1) (by omega) (by omega)]at H;exact cy [] H O ⟨H.kp,PB.of (K:=⟨st,a,e,b_,c,d',er,pk,k0,v0,p1,pr,r1,t1,pt,pe,k2,v2,p2,pw,r2,t2,fK,rr,cc,tc,((d+1:Nat):Int) -1⟩) H hT ⟨c1,c2,c3,c4,by simp,by omega,c7,c8⟩ hp⟩
end
section
variable {L:ak->Nat->Option (Int×ak×Nat)} {s:ak} {K:PK} {o o':Option (List Tok)} {d p:Nat} {h h0 h1:AH} {ids:List Nat} {V:View} {l:List Tok} {b:Bool} {k:Nat}
theorem JI {n:Nat} (hl:bC l=11) (hd:d <1000):cK (n+1) d l=((cK n (d+1)).andThen λt=>(aE 12).andThen λ_=>(bB 2).andThen λb=> .ret (.mk [] [t] b)) l.tail:=by
 simp only[cK,if_pos hl,if_pos hd,Pa.andThen,Pa.ret]
 cases cK n (d+1) l.tail with
 |none=>rfl
 |some x=>
  simp only
  cases aE 12 x.2 with
  |none=>rfl
  |some y=>
   simp only
   cases bB 2 y.2<;>rfl
theorem AI {n:Nat} (hl:bC l=11) (hd:1000<=d):cK (n+1) d l=none:=by simp only[cK,if_pos hl];rw[if_neg (by omega)]
theorem JJ {n:Nat} (hl:bC l≠11):cK (n+1) d l=(ar.andThen λnm=>(bB 2).andThen λb=> .ret (.mk nm [] b)) l:=by
 simp only[cK,if_neg hl,Pa.andThen,Pa.ret]
 cases ar l with
 |none=>rfl
 |some x=>
  simp only
  cases bB 2 x.2<;>rfl
theorem mO {α β:Type} {x:Pa α} {f:α->Pa β}:(x.andThen f).on o=match x.on o with|none=>none|some (a,r)=>f a r:=by cases o<;>rfl
def rv (L:ak->Nat->Option (Int×ak×Nat)) (k:Nat) (o:Option (List Tok)) (y:Bool) (o':Option (List Tok)):Prop:=(y=true->∃l,o=some l/\bC l=k/\o'=some l.tail)/\(y=false->(∀l,o=some l->bC l≠k)/\o'=o)
theorem eX (R:cM L) (S:PB L b h0 p s o d) {k:Nat} (hk:2<=k):al prog 116 [.ptr p 0,.int .i64 k] h0 (λv h'=>Kp [p] h0 h'/\∃y o',v= .bool y/\rv L k o y o'/\PB L false h' p s o' d):=by
 refine(xQ R S hk).mono ?_;rintro v h' ⟨kp,y,rfl,h1,h2⟩
 cases y with|true=>obtain⟨l,e,q,S'⟩:=h1 rfl;exact⟨kp,true,some l.tail,rfl,⟨λ_=>⟨l,e,q,rfl⟩,by simp⟩,S'⟩|false=>obtain⟨q,ho,hT,K,hg,P,_⟩:=h2 rfl;exact⟨kp,false,o,O,⟨by simp,λ_=>⟨q,O⟩⟩,ho,hT,K,hg,P,by simp⟩
theorem rv.eq {y:Bool} (hk:2<=k) (hh:rv L k o y o'):(bB k).on o=o'.map λl=>(y,l):=by cases y with|true=>obtain⟨l,rfl,q,rfl⟩:=hh.1 rfl;exact Cf hk q|false=>obtain⟨q,rfl⟩:=hh.2 rfl;exact GJ q
theorem Mx {n:Nat} {y:Bool} {o6:Option (List Tok)} (hl:bC l=11) (hd:d <1000) (hh:rv L 2 (((aE 12).on (((cK n (d+1)).on (some l.tail)).map (·.2))).map (·.2)) y o6):
 (cK (n+1) d).on (some l)=(((cK n (d+1)).on (some l.tail)).bind λt=>o6.map λr=>(.mk [] [t.1] y,r))/\((cK n (d+1)).on (some l.tail)=none->o6=none):=by
 have e:=hh.eq (by omega)
 rw[eB,JI hl hd,eB]at*;simp only[Pa.andThen]
 cases hx:cK n (d+1) l.tail with
 |none=>
  rw[hx]at e;refine⟨O,λ_=>?_⟩
  cases o6 with|none=>rfl|some r=>cases e
 |some x=>
  rw[hx]at e;refine⟨?_,by simp⟩;simp only[Option.map_some,eB,Option.bind_some]at e|-
  cases hy:aE 12 x.2 with
  |none=>
   rw[hy]at e
   cases o6 with|none=>rfl|some r=>cases e
  |some z=>
   rw[hy]at e;simp only[Option.map_some,eB]at e|-;rw[e]
   cases o6<;>rfl
theorem JK {n:Nat} {y:Bool} {o6:Option (List Tok)} (hl:∀l,o=some l->bC l≠11) (hh:rv L 2 ((ar.on o).map (·.2)) y o6):
 (cK (n+1) d).on o=((ar.on o).bind λt=>o6.map λr=>(.mk t.1 [] y,r))/\(ar.on o=none->o6=none):=by
 have e:=hh.eq (by omega)
 cases o with
 |none=>
  refine⟨O,λ_=>?_⟩
  cases o6 with|none=>rfl|some r=>cases e
 |some l=>
  rw[eB,JJ (hl l O),eB]at*;simp only[Pa.andThen]
  cases hx:ar l with
  |none=>
   rw[hx]at e;refine⟨O,λ_=>?_⟩
   cases o6 with|none=>rfl|some r=>cases e
  |some x=>
   rw[hx]at e;refine⟨?_,by simp⟩;simp only[Option.map_some,eB,Option.bind_some]at e|-;rw[e]
   cases o6<;>rfl
theorem bR.leave {C:AV->Prop} {j dd:Nat} {Xc cs dH:List AV} (H:HI h0 [p] h ((p,Xc)::V)) (kp:Kp [p] h h1) (S:PB L false h1 p s o' d) (hg:nK j V=some (dd,cs)) (hs:fZ cs dH) (hC:C (.one (.ref none dH))):
 bR L h0 p s o' d C (.ptr dd 0) h1:=by
 have hm:=jq hg
 have h1:=H.hv.2.get hm
 have h2:=H.hv.1.2.2 _ hm
 have h3:=H.new (dd,cs) (List.mem_cons_of_mem _ hm)
 simp only at h1 h2 h3;refine⟨H.kp.trans kp,S,.inr ⟨dd,cs,dH,O,?_,h2,(kp.get dd h1.2 (by simpa using h2)).trans h1.1,hs,hC⟩⟩;rcases h3 with h3|h3
 .exact absurd (by simpa using h3) h2
 .exact h3
theorem tD {α β:Type} {X:Option (α×List Tok)} {o6:Option (List Tok)} {f:α×List Tok->β} (hn:X=none->o6=none):(X.bind λt=>o6.map λr=>(f t,r)).map (·.2)=o6:=by cases X with|none=>rw[hn O];rfl|some x=>cases o6<;>rfl
theorem dO.wN {α β:Type} {X:Option (α×List Tok)} {o6:Option (List Tok)} {f:α×List Tok->β} {A:β->Prop} (hn:∀x,X=some x->A (f x)):dO (X.bind λt=>o6.map λr=>(f t,r)) A:=by
 intro a l e
 cases X with|none=>cases e|some x=>cases o6 with|none=>cases e|some r=>injection e with e;injection e with e1 e2;rw[<-e1];exact hn x O
theorem Cg (R:cM L):∀(n d:Nat),n+d=1001->∀{b:Bool} {h0:AH} {o:Option (List Tok)},PB L b h0 p s o d->
 al prog 185 [.ptr p 0] h0 (λv h'=>Kp [p] h0 h'/\PB L false h' p s (((cK n d).on o).map (·.2)) d/\∃y,v= .one y/\dO ((cK n d).on o) λa=>GI a v):=by
 intro n
 induction n with
 |zero=>rintro d hd b h0 o ⟨_,_,K,_,P,_⟩;have:=P.dd;omega
 |succ n ih=>
  intro d hd b h0 o S;refine bR.done ?_;obtain⟨ho,hT,K,hg,P,hp⟩:=S;refine Fz (n:=27) (rs:=[.tmp 2]) [] ⟨func185,O,O,O⟩ O <| have H:=HI.one hg ho;ah H O λh H Y=>?_;refine ae O call116 (eX (k:=11) R (PB.of H hT P hp) (by omega)) ?_;rintro x h2 ⟨kp,y,o1,rfl,hh,⟨_,_,K1,eM,P1,dJ⟩⟩;replace H:=H.aA kp eM;refine ah H O λh H Y=>af O (λhb=>?_) λhb=>?_
  .subst hb;obtain⟨l,rfl,hl,rfl⟩:=hh.1 O;refine ah H O λh H Y=>ae O call199 (kR R (PB.of H hT P1 dJ)) ?_;rintro x h2 ⟨kp,y,rfl,Om,BF⟩
   cases y with
   |false=>
    obtain⟨GK,_,_,K2,bI,P2,iy⟩:=BF O;replace H:=H.aA kp bI;refine an [91] H O λh H Y=>uk O O ⟨H.kp,?_,.inl ⟨O,?_⟩⟩
    .rw[eB,AI hl GK];exact PB.bU H hT P2
    .rw[eB,AI hl GK];rfl
   |true=>
    obtain⟨GK,_,_,K2,bI,P2,iy⟩:=Om O;replace H:=H.aA kp bI;refine an [90] H O λh H Y=>uj O O O <| ah H O λh H Y=>ae O call66 (aL R (PB.of H hT P2 iy)) ?_;rintro x h2 ⟨kp,⟨_,_,K3,bF,P3,kO⟩,q,rfl⟩;replace H:=H.aA kp bF;refine an [1] H O λh H Y=>ae O call185 (ih (d+1) (by omega) (PB.of H hT P3 kO)) ?_;rintro x h2 ⟨kp,⟨_,_,K4,jj,P4,AJ⟩,z,rfl,hz⟩;replace H:=H.aA kp jj;refine an [1] H O λh H Y=>ae O call113 (dQ (k:=12) R (PB.of H hT P4 AJ) (by omega)) ?_;rintro x h2 ⟨kp,⟨_,_,K5,mw,P5,Us⟩,_,_,_,_,_,_,_,_,rfl,_,_⟩;replace H:=H.aA kp mw;refine ah H O λh H Y=>ae O call116 (eX (k:=2) R (PB.of H hT P5 Us) (by omega)) ?_;rintro x h2 ⟨kp,y,o6,rfl,YA,⟨_,_,K6,su,P6,hp6⟩⟩;replace H:=H.aA kp su;obtain⟨k1,k2⟩:=Mx (d:=d) hl GK YA;have GL:=tD (f:=λt=>gn.mk [] [t.1] y) k2;rw[<-k1]at GL;refine ah H O λh H Y=>af O (λfS=>?_) λfS=>?_
    .refine an [1] H O λh H Y=>?_;obtain⟨h7,⟨KV,S7⟩,D⟩:=kx (PB.bU H hT P6);refine um O call200 ⟨h7,bR.leave (j:=0) H KV ?_ O (fZ.refl _) ?_,D⟩ O
     .rw[GL];exact S7
     .rw[k1];refine dO.wN ?_;rintro⟨t,r⟩ e;have:=hz t r e;subst fS;exact .list _ _ _ _ this
    .refine ah H O λh H Y=>?_;obtain⟨h7,⟨KV,S7⟩,D⟩:=kx (PB.bU H hT P6);refine um O call200 ⟨h7,bR.leave (j:=0) H KV ?_ O (fZ.refl _) ?_,D⟩ O
     .rw[GL];exact S7
     .rw[k1];refine dO.wN ?_;rintro⟨t,r⟩ e;have:=hz t r e;subst fS;exact .list _ _ _ _ this
  .subst hb;obtain⟨hl,rfl⟩:=hh.2 O;refine ah H O λh H Y=>ae O call66 (aL R (PB.of H hT P1 dJ)) ?_;rintro x h2 ⟨kp,⟨_,_,K3,bF,P3,kO⟩,q,rfl⟩;replace H:=H.aA kp bF;refine an [1] H O λh H Y=>ae O call114 (aI R (PB.of H hT P3 kO)) ?_;rintro x h2 ⟨kp,⟨_,_,K4,jj,P4,AJ⟩,nm,rfl,hz⟩;replace H:=H.aA kp jj;refine an [1] H O λh H Y=>ae O call116 (eX (k:=2) R (PB.of H hT P4 AJ) (by omega)) ?_;rintro x h2 ⟨kp,y,o6,rfl,YA,⟨_,_,K6,su,P6,hp6⟩⟩;replace H:=H.aA kp su;obtain⟨k1,k2⟩:=JK (d:=d) (n:=n) hl YA;have GL:=tD (f:=λt=>gn.mk t.1 [] y) k2;rw[<-k1]at GL;refine ah H O λh H Y=>af O (λfS=>?_) λfS=>?_
   .refine an [1] H O λh H Y=>uk O O (bR.mk' (j:=0) H hT ?_ ho O (dH:=[_,.one .bq,_,_]) ⟨.refl _,.one _,.refl _,.refl _,trivial⟩ ?_)
    .rw[GL];exact P6
    .rw[k1];refine dO.wN ?_;rintro⟨t,r⟩ e;have:=hz t r e;subst this fS;exact .name _ _ _
   .refine ah H O λh H Y=>uk O O (bR.mk' (j:=0) H hT ?_ ho O (dH:=[_,.one .bq,_,_]) ⟨.refl _,.one _,.refl _,.refl _,trivial⟩ ?_)
    .rw[GL];exact P6
    .rw[k1];refine dO.wN ?_;rintro⟨t,r⟩ e;have:=hz t r e;subst this fS;exact .name _ _ _
end
def rz {α:Type} (E:α->List AV->Prop) (hb:AH) (B:Nat) (F:AV->List AV) (acc:Option (List α)) (h:AH):Prop:=B <h.n/\hb.nt<=h.nt/\∃x es,h.get B=some (.cells (F x))/\aG hb h 1 x es/\∀bs,acc=some bs->bx E bs es
theorem bx.len {α:Type} {R:α->List AV->Prop}:∀{l:List α} {es:List (List AV)},bx R l es->es.length=l.length
 |[],[],_=>rfl
 |_::_,_::_,⟨_,h⟩=>by simp[bx.len h]
 |[],_::_,h=>h.elim
 |_::_,[],h=>h.elim
section
variable {P:Program} {lt:LT} {h hb:AH} {fr:ay} {ops l:List Oper} {o:Oper}
theorem Iv {s x:Operand} {t:TypeId} {sz gl:Nat} {xs y:AV} {es ys:List (List AV)} (wC:hb.nt<=h.nt) (ha:cD o.op=some (s,x,t)) (hw:au ops fr o.guard=some true) (hi:cC P t=some (sz,gl))
 (kN:fr.ev s= .v xs) (ex:fr.ev x= .v y) (hy:aY sz y=some ys) (cv:ys≠[]) (hG:aG hb h sz xs es) (dK:(es.length+ys.length)*(gl+1)<=140737488355328):
 ∃aw v h',ag P lt ops o fr h (.v (.vec (.own aw v) sz (es++ys))) h'/\h'.n=h.n/\h'.get=h.get/\h'.aV=h.aV/\h.nt<=h'.nt/\(∀l,l <hb.nt->h'.bV l=h.bV l)/\aG hb h' sz (.vec (.own aw v) sz (es++ys)) (es++ys):=by
 rcases hG with⟨rfl,rfl⟩|⟨aw,fk,hx,q1,q2,q3⟩
 .refine⟨h.nt,0,h.cu,ag.app ha hw hi kN ex (.inl ⟨O,O,O,O,O⟩) hy cv dK,O,O,O,Nat.le_succ _,λl hl=>?_,.inr ⟨h.nt,0,.inl O,wC,Nat.lt_succ_self _,?_⟩⟩
  .simp only[AH.cu];rw[beq_false_of_ne (by omega)]
  .simp only[AH.cu];rw[cU]
 .refine⟨aw,fk+1,h.bump aw,ag.app ha hw hi kN ex (.inr (.inr ⟨fk,hx,q3,O,O⟩)) hy cv dK,O,O,O,Nat.le_refl _,λl hl=>?_,.inr ⟨aw,fk+1,.inl O,q1,q2,?_⟩⟩
  .simp only[AH.bump];rw[beq_false_of_ne (by omega)]
  .simp only[AH.bump];rw[cU,q3]
theorem AD.Pp {s x:Operand} {t:TypeId} {sz gl k:Nat} {xs y:AV} {es ys:List (List AV)} {K:List po->List AH->ay->AH->Prop} (wC:hb.nt<=h.nt) (ha:cD o.op=some (s,x,t)) (hw:au ops fr o.guard=some true) (hi:cC P t=some (sz,gl))
 (kN:fr.ev s= .v xs) (ex:fr.ev x= .v y) (hy:aY sz y=some ys) (cv:ys≠[]) (hG:aG hb h sz xs es) {d:Tmp} (hd:o.dst=some d) (dK:(es.length+ys.length)*(gl+1)<=140737488355328)
 (T:∀aw v h',h'.n=h.n->h'.get=h.get->h'.aV=h.aV->h.nt<=h'.nt->(∀l,l <hb.nt->h'.bV l=h.bV l)->aG hb h' sz (.vec (.own aw v) sz (es++ys)) (es++ys)->AD P lt ops l (fr.bf d (.v (.vec (.own aw v) sz (es++ys)))) h' (k+1) λaD hs aB h2=>K (⟨o,fr,.v (.vec (.own aw v) sz (es++ys)),2,k⟩::aD) (h'::hs) aB h2):AD P lt ops (o::l) fr h k K:=by
 obtain⟨aw,v,h',st,k1,k2,k3,k4,k5,k6⟩:=Iv (lt:=lt) wC ha hw hi kN ex hy cv hG dK;exact AD.LA st hd (T aw v h' k1 k2 k3 k4 k5 k6)
end
section
variable {L:ak->Nat->Option (Int×ak×Nat)} {s:ak} {K:PK} {o o':Option (List Tok)} {d p B:Nat} {h h0 h1 hb:AH} {ids:List Nat} {V:View} {l:List Tok} {b:Bool} {k:Nat}
abbrev PE {α:Type} (Rl:α->AV->Prop):α->List AV->Prop:=λa c=>∃v,c=[v]/\Rl a v
theorem Ch {α:Type} {E:α->List AV->Prop} {F:AV->List AV} {x':AV} {cA:List (List AV)} {acc:Option (List α)} {h2 h3:AH} (kp:Kp [p] h h2) (S:PB L b h2 p s o d) (gX:B≠p) (hB:B <h.n) (hn:hb.nt<=h.nt)
 (e1:h3.n=h2.n) (e2:h3.get=h2.get) (e3:h3.aV=h2.aV) (e4:h2.nt<=h3.nt) (e5:∀l,l <hb.nt->h3.bV l=h2.bV l) (G:aG hb h3 1 x' cA) (hl:∀bs,acc=some bs->bx E bs cA):
 Kp [p,B] (h.aw hb.nt) (h3.set B (.cells (F x')))/\AV.cN []= .cN []/\PB L b (h3.set B (.cells (F x'))) p s o d/\rz E hb B F acc (h3.set B (.cells (F x'))):=by
 have Ru:=kp.n
 have aan:=kp.nt
 have c1:h3.n=(h3.set B (.cells (F x'))).n:=rfl
 refine⟨⟨?_,λk hk hi=>?_,?_,λl hl=>?_,?_⟩,O,?_,⟨?_,?_,x',cA,by simp[AH.set],G,hl⟩⟩
 .show h.n<=h3.n;omega
 .simp only[AH.set];simp only[List.mem_cons,List.not_mem_nil,or_false,not_or]at hi;rw[if_neg hi.2,e2];exact kp.get k hk (by simpa using hi.1)
 .show hb.nt<=h3.nt;omega
 .show h3.bV l=h.bV l
  have uB:l <hb.nt:=hl
  rw[e5 l uB];exact kp.bV l (by omega)
 .show h3.aV=h.aV;rw[e3];exact kp.aV
 .refine PB.set ?_ gX;obtain⟨ho,hT,K,hg,P⟩:=S;exact⟨by rw[e1];exact ho,by rw[e3];exact hT,K,by rw[e2];exact hg,P⟩
 .show B <h3.n;omega
 .show hb.nt<=h3.nt;omega
theorem oy {α:Type} {Rl:α->AV->Prop} {x:Option (α×List Tok)} {bs:List α} {es:List (List AV)} {y:AV} (h:bx (PE Rl) bs es) (hy:dO x λa=>Rl a (.one y)):∀cs,(x.map λz=>bs++[z.1])=some cs->bx (PE Rl) cs (es++[[.one y]]):=by
 intro cs e
 cases x with|none=>cases e|some z=>injection e with e;subst e;exact h.append ⟨⟨_,O,hy _ _ O⟩,trivial⟩
theorem My {n:Nat} (h:n<=1048578):(n+1)*(8+1)<=140737488355328:=by omega
abbrev BX (b:Bool) (L:ak->Nat->Option (Int×ak×Nat)) (s:ak) (d p B:Nat) (h hb:AH) (l:List Tok) {α:Type} (g:Pa α) (Rl:α->AV->Prop) (E:α->List AV->Prop) (W:AV->List AV) (F f:Nat) (a r:List AV):Prop:=
 (∀{b:Bool} {h0:AH} {o:Option (List Tok)},PB L b h0 p s o d->al prog f (.ptr p 0::a) h0 (λv h'=>Kp [p] h0 h'/\PB L false h' p s ((g.on o).map (·.2)) d/\∃y,v= .one y/\dO (g.on o) λa=>Rl a v))->
  B≠p->∀{bs:List α},PB L b h p s (some l) d->rz E hb B W (some bs) h->bs.length<=1048578->
  al prog F (.ptr B 0:: .ref none [.ptr p 0]::r) h (λv h'=>Kp [p,B] (h.aw hb.nt) h'/\v= .cN []/\PB L false h' p s ((g l).map (·.2)) d/\rz E hb B W ((g l).map λx=>bs++[x.1]) h')
theorem Xg {α:Type} {g:Pa α} {Rl:α->AV->Prop}:BX b L s d p B h hb l g Rl (PE Rl) (λx=>[x]) 157 158 [] []/\
 BX b L s d p B h hb l g Rl (PE Rl) (λx=>[x]) 178 179 [] []/\
 BX b L s d p B h hb l g Rl (PE Rl) (λx=>[x]) 180 181 [] []/\
 BX b L s d p B h hb l g Rl (PE Rl) (λx=>[x]) 182 183 [] []:=by
 refine⟨?_,?_,?_,?_⟩<;>(
  intro xU gX bs S ⟨hB,hn,x,es,hg,G,hl⟩ jN;have hl:=hl bs O;have hlen:=hl.len;refine az (n:=7) (rs:=[]) [] ⟨by first|exact func157|exact func178|exact func180|exact func182,O,O,O⟩ O (AC.drawn mx ?_);refine AD.eP O O O O O hg O O (AD.run 1 O (AD.gP O O (by first|exact call158|exact call179|exact call181|exact call183) (xU S) O ?_));rintro v h2 ⟨kp,S2,y,rfl,hy⟩;refine AD.run 1 O (AD.Pp (hb:=hb) (Nat.le_trans hn kp.nt) O O O O O O (by simp) (G.kp kp) O (My (by omega)) ?_);intro aw v h3 e1 e2 e3 e4 e5 G3;have bI:h2.get B=some (.cells [x]):=(kp.get B hB (by simpa using gX)).trans hg;refine AD.v8 (ag.j1 O O O O O O (by rw[e2];exact bI) O O) O (AD.nil ⟨[1,0,2,0,2,2],[(0,1)],O,by decide+kernel,by decide+kernel,⟨?_,trivial⟩,.cN [],O,Ch (F:=λx=>[x]) kp S2 gX hB hn e1 e2 e3 e4 e5 G3 (oy hl hy)⟩);rintro e hk q1 q2;injection q1 with q1
  injection q2 with q2
  subst q1 q2;exact ag.eP O O O O O bI O)
theorem bxB {α:Type} {g:Pa α} {Rl:α->AV->Prop} {c:Bool}:BX b L s d p B h hb l g Rl (PE Rl) (λx=>[x]) 197 198 [.bool c] [.ref none [.bool c]]/\
 BX b L s d p B h hb l g Rl (PE Rl) (λx=>[x]) 215 216 [.bool c] [.ref none [.bool c]]:=by
 refine⟨?_,?_⟩<;>(
  intro xU gX bs S ⟨hB,hn,x,es,hg,G,hl⟩ jN;have hl:=hl bs O;have hlen:=hl.len;refine az (n:=9) (rs:=[]) [] ⟨by first|exact func197|exact func215,O,O,O⟩ O (AC.drawn mx ?_);refine AD.eP O O O O O hg O O (AD.run 2 O (AD.gP O O (by first|exact call198|exact call216) (xU S) O ?_));rintro v h2 ⟨kp,S2,y,rfl,hy⟩;refine AD.run 1 O (AD.Pp (hb:=hb) (Nat.le_trans hn kp.nt) O O O O O O (by simp) (G.kp kp) O (My (by omega)) ?_);intro aw v h3 e1 e2 e3 e4 e5 G3;have bI:h2.get B=some (.cells [x]):=(kp.get B hB (by simpa using gX)).trans hg;refine AD.v8 (ag.j1 O O O O O O (by rw[e2];exact bI) O O) O (AD.nil ⟨[1,0,0,2,0,2,2],[(0,1)],O,by decide+kernel,by decide+kernel,⟨?_,trivial⟩,.cN [],O,Ch (F:=λx=>[x]) kp S2 gX hB hn e1 e2 e3 e4 e5 G3 (oy hl hy)⟩);rintro e hk q1 q2;injection q1 with q1
  injection q2 with q2
  subst q1 q2;exact ag.eP O O O O O bI O)
abbrev LE {α:Type} (Rl:α->AV->Prop):α->List AV->Prop:=λa c=>∃z rest,c=[.one (.ref none (.str []:: .one z::rest))]/\Rl a (.one z)
theorem Eh {α:Type} {Rl:α->AV->Prop} {x:Option (α×List Tok)} {bs:List α} {es:List (List AV)} {y:AV} {rest:List AV} (h:bx (LE Rl) bs es) (hy:dO x λa=>Rl a (.one y)):∀cs,(x.map λz=>bs++[z.1])=some cs->bx (LE Rl) cs (es++[[.one (.ref none (.str []:: .one y::rest))]]):=by
 intro cs e
 cases x with|none=>cases e|some z=>injection e with e;subst e;exact h.append ⟨⟨_,_,O,hy _ _ O⟩,trivial⟩
theorem bxL {α:Type} {g:Pa α} {Rl:α->AV->Prop} {c:Bool}:BX b L s d p B h hb l g Rl (LE Rl) (λx=>[x]) 214 186 [.bool c] [.ref none [.bool c]]:=by
 (
  intro xU gX bs S ⟨hB,hn,x,es,hg,G,hl⟩ jN;have hl:=hl bs O;have hlen:=hl.len;refine az (n:=11) (rs:=[]) [] ⟨by first|exact func214,O,O,O⟩ O (AC.drawn mx ?_);refine AD.eP O O O O O hg O O (AD.run 2 O (AD.gP O O (by first|exact call186) (xU S) O ?_));rintro v h2 ⟨kp,S2,y,rfl,hy⟩;refine AD.run 1 O (AD.free (λh=>ag.ku O (ee.ref (dH:=[.str [],.one y,.bq,.bq]) (fZ.refl _)) (ag.LL O O O O h)) O <| AD.run 1 O (AD.Pp (hb:=hb) (Nat.le_trans hn kp.nt) O O O O O O (by simp) (G.kp kp) O (My (by omega)) ?_));intro aw v h3 e1 e2 e3 e4 e5 G3;have bI:h2.get B=some (.cells [x]):=(kp.get B hB (by simpa using gX)).trans hg;refine AD.v8 (ag.j1 O O O O O O (by rw[e2];exact bI) O O) O (AD.nil ⟨[1,0,0,2,0,0,0,2,2],[(0,1)],O,by decide+kernel,by decide+kernel,⟨?_,trivial⟩,.cN [],O,Ch (F:=λx=>[x]) kp S2 gX hB hn e1 e2 e3 e4 e5 G3 (Eh hl hy)⟩);rintro e hk q1 q2;injection q1 with q1
  injection q2 with q2
  subst q1 q2;exact ag.eP O O O O O bI O)
abbrev AK (c0 c1 c3 c4 c5 c6:AV) (x:AV):List AV:=[c0,c1,x,c3,c4,c5,c6]
theorem bxR {α:Type} {g:Pa α} {Rl:α->AV->Prop} {c0 c1 c3 c4 c5 c6:AV}:BX b L s d p B h hb l g Rl (PE Rl) (AK c0 c1 c3 c4 c5 c6) 111 112 [] []/\
 BX b L s d p B h hb l g Rl (PE Rl) (AK c0 c1 c3 c4 c5 c6) 161 112 [] []:=by
 refine⟨?_,?_⟩<;>(
  intro xU gX bs S ⟨hB,hn,x,es,hg,G,hl⟩ jN;have hl:=hl bs O;have hlen:=hl.len;refine az (n:=9) (rs:=[]) [] ⟨by first|exact func111|exact func161,O,O,O⟩ O (AC.drawn mx ?_);refine AD.run 1 O (AD.eP O O O O O hg O O (AD.run 1 O (AD.gP O O (by first|exact call112) (xU S) O ?_)));rintro v h2 ⟨kp,S2,y,rfl,hy⟩;refine AD.run 1 O (AD.Pp (hb:=hb) (Nat.le_trans hn kp.nt) O O O O O O (by simp) (G.kp kp) O (My (by omega)) ?_);intro aw v h3 e1 e2 e3 e4 e5 G3;have bI:h2.get B=some (.cells (AK c0 c1 c3 c4 c5 c6 x)):=(kp.get B hB (by simpa using gX)).trans hg;refine AD.run 1 O <| AD.v8 (ag.j1 O O O O O O (by rw[e2];exact bI) O O) O (AD.nil ⟨[0,1,0,2,0,2,0,2],[(1,1)],O,by decide+kernel,by decide+kernel,⟨?_,trivial⟩,.cN [],O,Ch (F:=AK c0 c1 c3 c4 c5 c6) kp S2 gX hB hn e1 e2 e3 e4 e5 G3 (oy hl hy)⟩);rintro e hk q1 q2;injection q1 with q1
  injection q2 with q2
  subst q1 q2;exact ag.eP O O O O O bI O)
end
theorem cx {α β:Type} {x:Pa α} {f:α->Pa β} {o:Option (List Tok)} {b:β} {r:List Tok} (h:(x.andThen f).on o=some (b,r)):∃a r1,x.on o=some (a,r1)/\(f a).on (some r1)=some (b,r):=by
 rw[mO]at h
 cases hx:x.on o with|none=>rw[hx]at h;cases h|some y=>rw[hx]at h;exact⟨y.1,y.2,O,h⟩
theorem Mz {α β:Type} (x:Pa α) (f:α->Pa β) (o:Option (List Tok)):((x.andThen f).on o).map (·.2)=(x.on o).bind λy=>((f y.1).on (some y.2)).map (·.2):=by
 rw[mO]
 cases x.on o<;>rfl
theorem Sj {α:Type} (a:α) (l:List Tok):(Pa.ret a).on (some l)=some (a,l):=rfl
theorem Ci {α β:Type} {x:Pa α} {f:α->Pa β} {o:Option (List Tok)} (F:Option (List Tok)->Option (List Tok)) (h0:F none=none) (h:∀a r,((f a).on (some r)).map (·.2)=F (some r)):((x.andThen f).on o).map (·.2)=F ((x.on o).map (·.2)):=by
 rw[Mz]
 cases x.on o with|none=>exact h0.symm|some y=>exact h y.1 y.2
theorem mP {α β:Type} {x:Pa α} {f:α->β} {o:Option (List Tok)}:((x.andThen λa=> .ret (f a)).on o).map (·.2)=(x.on o).map (·.2):=Ci (λo=>o) O λa r=>rfl
section
variable {L:ak->Nat->Option (Int×ak×Nat)} {s:ak} {K:PK} {o o':Option (List Tok)} {d p B:Nat} {h h0 h1 hb:AH} {ids:List Nat} {V:View} {l:List Tok} {b c:Bool} {k:Nat}
abbrev iN {α:Type} (L:ak->Nat->Option (Int×ak×Nat)) (p:Nat) (s:ak) (d:Nat) (h0:AH) (X:Option (α×List Tok)) (Rl:α->AV->Prop):AV->AH->Prop:=λv h'=>Kp [p] h0 h'/\PB L false h' p s (X.map (·.2)) d/\∃y,v= .one y/\dO X λa=>Rl a v
def MA (a:ak×dM) (v:AV):Prop:=∃z rest,v= .one (.ref none (.str a.1:: .one z::rest))/\iB a.2 (.one z)
theorem Pq (R:cM L) {gv:Pa dM} (rj:∀{b:Bool} {h0:AH} {o:Option (List Tok)},PB L b h0 p s o d->al prog 186 [.ptr p 0,.bool c] h0 (iN L p s d h0 (gv.on o) iB)) (S:PB L b h0 p s o d):
 al prog 216 [.ptr p 0,.bool c] h0 (iN L p s d h0 ((ot gv).on o) MA):=by
 refine bR.done ?_;obtain⟨ho,hT,K,hg,P,hp⟩:=S;refine az (n:=24) (rs:=[.tmp 4]) [] ⟨func216,O,O,O⟩ O <| have H:=HI.one hg ho;an [1] H O λh H Y=>?_;refine ae O call66 (aL R (PB.of H hT P hp)) ?_;rintro x h2 ⟨kp,⟨_,_,K1,eM,P1,dJ⟩,q1,rfl⟩;replace H:=H.aA kp eM;obtain⟨Iw,lf⟩:=P1.cm;obtain⟨st,a,e,b_,c_,d',er,pk,k0,v0,p1,pr,r1,t1,pt,pe,k2,v2,p2,pw,r2,t2,fK,rr,cc,tc,dp⟩:=K1;simp only at lf;subst lf;refine an [1,0,1] H O λh H Y=>ae O call114 (aI R (PB.of H hT P1 dJ)) ?_;rintro x h2 ⟨kp,⟨_,_,K2,bI,P2,iy⟩,nm,rfl,VG⟩;replace H:=H.aA kp bI;refine an [1] H O λh H Y=>ae O call113 (dQ (k:=8) R (PB.of H hT P2 iy) (by omega)) ?_;rintro x h2 ⟨kp,⟨_,_,K3,bF,P3,kO⟩,_,_,_,_,_,_,_,_,rfl,_,_⟩;replace H:=H.aA kp bF;refine ah H O λh H Y=>ae O call186 (rj (PB.of H hT P3 kO)) ?_;rintro x h2 ⟨kp,⟨_,_,K4,jj,P4,AJ⟩,z4,rfl,iC⟩;replace H:=H.aA kp jj;refine an [1] H O λh H Y=>ab [] H O (bR.mk' (j:=0) H hT ?p1 ho O (fZ.refl _) ?p2)
 case p1=>
  have e:((ot gv).on o).map (·.2)=(gv.on (((aE 8).on ((ar.on o).map (·.2))).map (·.2))).map (·.2):=Ci (λo=>(gv.on (((aE 8).on o).map (·.2))).map (·.2)) O λa r=>Ci (λo=>(gv.on o).map (·.2)) O λa r=>Ci (λo=>o) O λa r=>rfl
  rw[e];exact P4
 case p2=>
  intro a l' e;obtain⟨a1,r1,e1,e⟩:=cx e;obtain⟨a2,r2,e2,e⟩:=cx e;obtain⟨a3,r3,e3,e⟩:=cx e;injection e with e
  injection e with e4 e5
  subst e4;have w2:=VG _ _ e1;rw[e1]at iC;simp only[Option.map_some]at iC;rw[e2]at iC;have w4:=iC _ _ e3;subst w2;exact⟨_,_,O,w4⟩
theorem lq {α:Type} {E:α->List AV->Prop} {F:AV->List AV} {acc:Option (List α)} (gX:B≠p):∀h h',rz E hb B F acc h->Kp [p] h h'->rz E hb B F acc h':=by rintro h h' ⟨hB,hn,x,es,hg,G,hl⟩ k;exact⟨Nat.lt_of_lt_of_le hB k.n,Nat.le_trans hn k.nt,x,es,(k.get B hB (by simpa using gX)).trans hg,G.kp k,hl⟩
theorem ir {α:Type} {E:α->List AV->Prop} {F:AV->List AV} {acc:Option (List α)}:∀h,rz E hb B F acc h->rz E hb B F none h:=by rintro h ⟨hB,hn,x,es,hg,G,hl⟩;exact⟨hB,hn,x,es,hg,G,by simp⟩
theorem HI.oz {o o2:Nat} {cs dH Pr VH:List AV} {V:View} (H:HI h0 ids h ((o,cs)::(o2,Pr)::V)) (k:Kp [o,o2] (h.aw h0.nt) h1) (hg:h1.get o=some (.cells dH)) (bI:h1.get o2=some (.cells VH)):HI h0 ids h1 ((o,dH)::(o2,VH)::V):=by
 have KQ:=H.hv.nodup
 have n1:=k.n
 refine⟨HV.of (λe he=>?_) KQ,⟨Nat.le_trans H.kp.n k.n,λi hi F4=>?_,k.nt,λl hl=>(k.bV l hl).trans (H.kp.bV l hl),k.aV.trans H.kp.aV⟩,λe he=>?_⟩
 .have uu:=H.at_
  have Ue:=H.jM
  rcases List.mem_cons.1 he with rfl|he
  .exact⟨hg,Nat.lt_of_lt_of_le uu.2 n1⟩
  rcases List.mem_cons.1 he with rfl|he
  .exact⟨bI,Nat.lt_of_lt_of_le Ue.2 n1⟩
  .obtain⟨q1,q2⟩:=H.hv.2.2.get he;have d1:=H.hv.1.2.2 e (List.mem_cons_of_mem _ he);have d2:=H.hv.2.1.2.2 e he;exact⟨(k.get _ q2 (by simp[d1,d2])).trans q1,Nat.lt_of_lt_of_le q2 n1⟩
 .have c1:=H.new (o,cs) (by simp)
  have c2:=H.new (o2,Pr) (by simp)
  simp only at c1 c2;refine(k.get i (Nat.lt_of_lt_of_le hi H.kp.n) ?_).trans (H.kp.get i hi F4);simp only[List.mem_cons,List.not_mem_nil,or_false,not_or];exact⟨λe=>by subst e;rcases c1 with c1|c1;exact F4 c1;omega,λe=>by subst e;rcases c2 with c2|c2;exact F4 c2;omega⟩
 .rcases List.mem_cons.1 he with rfl|he
  .exact H.new (o,cs) (by simp)
  rcases List.mem_cons.1 he with rfl|he
  .exact H.new (o2,Pr) (by simp)
  .exact H.new e (by simp[he])
def GM {α:Type} (L:ak->Nat->Option (Int×ak×Nat)) (p:Nat) (s:ak) (d:Nat) (h0:AH) (X:Option (α×List Tok)) (Rl:α->AV->Prop):AV->AH->Prop:=λv h'=>Kp [p] h0 h'/\PB L false h' p s (X.map (·.2)) d/\((v= .bq/\X=none)\/(∃cs dH,v= .ref none cs/\fZ cs dH/\dO X λa=>Rl a (.one (.ref none dH)))\/∃y,v= .one y/\dO X λa=>Rl a v)
theorem GM.done {α:Type} {X:Option (α×List Tok)} {Rl:α->AV->Prop} {f:FuncId} {args:List AV} (H:al prog f args h0 (GM L p s d h0 X Rl)):al prog f args h0 (iN L p s d h0 X Rl):=by
 refine al.obj H ?_;rintro v h' ⟨kp,S,⟨rfl,hn⟩|⟨cs,dH,rfl,hs,hC⟩|⟨y,rfl,hC⟩⟩
 .exact .inl ⟨_,ee.bq,kp,S,_,O,λa l e=>by rw[e]at hn;cases hn⟩
 .exact .inl ⟨_,ee.ref hs,kp,S,_,O,hC⟩
 .exact .inl ⟨.one y,λ_ _ _ h=>h,kp,S,_,O,hC⟩
theorem oR {P:Program} {lt:LT} {fr:ay} {rs:List ResultVar} {Q:AV->AH->Prop} {f:FuncId} {args:List AV} {xs:List AV} (hd:fr.df=[(f,args)]) (hc:eF P f) (D:∃h2,Q (iY xs) h2/\oW P f args h h2) (hx:wa P {fr with df:=[]} [] [] rs=some (xs,[])):XS P lt (Mh P rs Q) (.ext .normal) [] fr h:=um (lt:=lt) hd hc D hx
theorem JL {n:Nat} {fx:Bool} (hl:bC l=11) (hd:d <1000):aU (n+1) fx d l=((gC 11 12 (aU n fx (d+1))).andThen λvs=> .ret (.mk 8 [] (vs.map λv=>([],v)))) l:=by
 cases l with
 |nil=>simp[bC]at hl
 |cons t r=>
  simp only[bC]at hl;simp only[aU,if_pos hl,if_pos hd,Pa.andThen,Pa.ret]
  cases gC 11 12 (aU n fx (d+1)) (t::r)<;>rfl
theorem MB {n:Nat} {fx:Bool} (hl:bC l=13) (hd:d <1000):aU (n+1) fx d l=((gC 13 14 (ot (aU n fx (d+1)))).andThen λvs=> .ret (.mk 9 [] vs)) l:=by
 cases l with
 |nil=>simp[bC]at hl
 |cons t r=>
  simp only[bC]at hl;simp only[aU,Pa.andThen,Pa.ret];rw[if_neg (by omega),if_pos hl,if_pos hd]
  cases gC 13 14 (ot (aU n fx (d+1))) (t::r)<;>rfl
theorem AM {n:Nat} {fx:Bool} (hl:bC l=11\/bC l=13) (hd:1000<=d):aU (n+1) fx d l=none:=by
 cases l with
 |nil=>simp[bC]at hl
 |cons t r=>
  simp only[bC]at hl;simp only[aU];rcases hl with hl|hl
  .rw[if_pos hl,if_neg (by omega)]
  .rw[if_neg (by omega),if_pos hl,if_neg (by omega)]
theorem xW:∀{l:List dM} {es:List (List AV)},bx (LE iB) l es->bx Ef (l.map λv=>(([]:ak),v)) es
 |[],[],_=>trivial
 |v::l,c::es,⟨h1,h2⟩=>⟨h1,xW h2⟩
 |[],_::_,h=>h.elim
 |_::_,[],h=>h.elim
theorem vE:∀{l:List (ak×dM)} {es:List (List AV)},bx (PE MA) l es->bx Ef l es
 |[],[],_=>trivial
 |v::l,c::es,⟨⟨w,h1,z,rest,h3,h4⟩,h2⟩=>⟨⟨z,rest,by rw[h1,h3],h4⟩,vE h2⟩
 |[],_::_,h=>h.elim
 |_::_,[],h=>h.elim
theorem MC (R:cM L) {n:Nat} (rj:∀{b:Bool} {h0:AH} {o:Option (List Tok)},PB L b h0 p s o (d+1)->al prog 186 [.ptr p 0,.bool c] h0 (iN L p s (d+1) h0 ((aU n c (d+1)).on o) iB)) (S:PB L b h0 p s o d) (hh:∀l,o=some l->bC l=11):
 al prog 201 [.ptr p 0,.bool c] h0 (iN L p s d h0 ((aU (n+1) c d).on o) iB):=by
 refine GM.done ?_;obtain⟨ho,hT,K,hg,P,hp⟩:=S;have sw:∀l,o=some l->l.length<=1048578:=λl e=>(P.len R e).1
 refine Fz (n:=26) (rs:=[.tmp 4]) [] ⟨func201,O,O,O⟩ O <| have H:=HI.one hg ho;aS [2,3] [] H O λh H Y=>?_;refine ae O call199 (kR R (PB.of H hT P hp)) ?_;rintro x h2 ⟨kp,y,rfl,Om,BF⟩
 cases y with
 |false=>
  obtain⟨GK,_,_,K2,bI,P2,iy⟩:=BF O;replace H:=H.aA kp bI;refine aS [2,3] [91] H O λh H Y=>?_;have e:(aU (n+1) c d).on o=none:=by cases o with|none=>rfl|some l=>exact AM (.inl (hh l O)) GK
  refine uk O O ⟨H.kp,?_,.inl ⟨O,e⟩⟩;rw[e];exact PB.bU H hT P2
 |true=>
  obtain⟨GK,_,_,K2,bI,P2,iy⟩:=Om O;replace H:=H.aA kp bI;refine aS [2,3] [90] H O λh H Y=>uj O O O <| aS [2,3] [] H O λh H Y=>ae O call66 (aL R (PB.of H hT P2 iy)) ?_;rintro x h2 ⟨kp,⟨_,_,K3,bF,P3,kO⟩,q,rfl⟩;replace H:=H.aA kp bF;obtain⟨Iw,lf⟩:=P3.cm;have YB:=P3;obtain⟨st,a,e,b_,c_,d',er,pk,k0,v0,p1,pr,r1,t1,pt,pe,k2,v2,p2,pw,r2,t2,fK,rr,cc,tc,dp⟩:=K3;simp only at lf;subst lf;refine aS [2,3] [0] H O λh H Y=>?_;have hB:=H.jM;have gX:=H.hv.1.2.2 _ (List.mem_cons_self ..);simp only at gX;refine ae O call213 (Ec (sk:=11) (ek:=12) (m:=h0.nt) (ids:=[p,_]) R (aU n c (d+1)) (kI _ _ _) call214 (by simp) (rz (LE iB) h0 _ (λx=>[x])) (λ_=>lq gX) (λ_=>ir) (λb l bs h S j jN hm=>bxL rj gX S j jN) (PB.of H hT YB kO) (by omega) (by omega) ⟨hB.2,H.kp.nt,.ao,[],hB.1,.inl ⟨O,O⟩,λbs e=>by injection e with e;subst e;trivial⟩ H.kp.nt) ?_
  rintro x h2 ⟨kp,⟨_,_,K4,jj,P4,AJ⟩,⟨_,_,x,es,pD,G,hl⟩,rfl⟩;replace H:=H.oz kp jj pD;refine fm 1 [.one x] H O O ⟨.one _,trivial⟩ λh H Y=>aS [2,3,25] [1] H O λh H Y=>?_;obtain⟨h7,⟨KV,S7⟩,D⟩:=kx (PB.bU H hT P4);have e:(aU (n+1) c d).on o=((gC 11 12 (aU n c (d+1))).andThen λvs=> .ret (.mk 8 [] (vs.map λv=>([],v)))).on o:=by cases o with|none=>rfl|some l=>exact JL (hh l O) GK
  refine um O call200 ⟨h7,⟨H.kp.trans KV,?_,.inr (.inl ⟨_,_,O,fZ.refl _,?_⟩)⟩,D⟩ O
  .rw[e,mP];exact S7
  .rw[e];intro a l' e1;obtain⟨a1,r1,e2,e3⟩:=cx e1;injection e3 with e3
   injection e3 with e4 e5
   subst e4;have hl:=hl a1 (by rw[e2];rfl);have hlen:es.length<=4294967296:=by
    rw[hl.len]
    cases o with|none=>cases e2|some l=>have:=AG (kI _ _ _) e2;have:=sw l O;omega
   exact iB.mk' (G.sl (xW hl) hlen)
theorem GN (R:cM L) {n:Nat} (rj:∀{b:Bool} {h0:AH} {o:Option (List Tok)},PB L b h0 p s o (d+1)->al prog 186 [.ptr p 0,.bool c] h0 (iN L p s (d+1) h0 ((aU n c (d+1)).on o) iB)) (S:PB L b h0 p s o d) (hh:∀l,o=some l->bC l=13):
 al prog 202 [.ptr p 0,.bool c] h0 (iN L p s d h0 ((aU (n+1) c d).on o) iB):=by
 refine GM.done ?_;obtain⟨ho,hT,K,hg,P,hp⟩:=S;have sw:∀l,o=some l->l.length<=1048578:=λl e=>(P.len R e).1
 refine Fz (n:=26) (rs:=[.tmp 4]) [] ⟨func202,O,O,O⟩ O <| have H:=HI.one hg ho;aS [2,3] [] H O λh H Y=>?_;refine ae O call199 (kR R (PB.of H hT P hp)) ?_;rintro x h2 ⟨kp,y,rfl,Om,BF⟩
 cases y with
 |false=>
  obtain⟨GK,_,_,K2,bI,P2,iy⟩:=BF O;replace H:=H.aA kp bI;refine aS [2,3] [91] H O λh H Y=>?_;have e:(aU (n+1) c d).on o=none:=by cases o with|none=>rfl|some l=>exact AM (.inr (hh l O)) GK
  refine uk O O ⟨H.kp,?_,.inl ⟨O,e⟩⟩;rw[e];exact PB.bU H hT P2
 |true=>
  obtain⟨GK,_,_,K2,bI,P2,iy⟩:=Om O;replace H:=H.aA kp bI;refine aS [2,3] [90] H O λh H Y=>uj O O O <| aS [2,3] [] H O λh H Y=>ae O call66 (aL R (PB.of H hT P2 iy)) ?_;rintro x h2 ⟨kp,⟨_,_,K3,bF,P3,kO⟩,q,rfl⟩;replace H:=H.aA kp bF;obtain⟨Iw,lf⟩:=P3.cm;have YB:=P3;obtain⟨st,a,e,b_,c_,d',er,pk,k0,v0,p1,pr,r1,t1,pt,pe,k2,v2,p2,pw,r2,t2,fK,rr,cc,tc,dp⟩:=K3;simp only at lf;subst lf;refine aS [2,3] [0] H O λh H Y=>?_;have hB:=H.jM;have gX:=H.hv.1.2.2 _ (List.mem_cons_self ..);simp only at gX;refine ae O call213 (Ec (sk:=13) (ek:=14) (m:=h0.nt) (ids:=[p,_]) R (ot (aU n c (d+1))) (tw (kI _ _ _).dR) call215 (by simp) (rz (PE MA) h0 _ (λx=>[x])) (λ_=>lq gX) (λ_=>ir) (λb l bs h S j jN hm=>bxB.2 (Pq R rj) gX S j jN) (PB.of H hT YB kO) (by omega) (by omega) ⟨hB.2,H.kp.nt,.ao,[],hB.1,.inl ⟨O,O⟩,λbs e=>by injection e with e;subst e;trivial⟩ H.kp.nt) ?_
  rintro x h2 ⟨kp,⟨_,_,K4,jj,P4,AJ⟩,⟨_,_,x,es,pD,G,hl⟩,rfl⟩;replace H:=H.oz kp jj pD;refine fm 1 [.one x] H O O ⟨.one _,trivial⟩ λh H Y=>aS [2,3,25] [1] H O λh H Y=>?_;obtain⟨h7,⟨KV,S7⟩,D⟩:=kx (PB.bU H hT P4);have e:(aU (n+1) c d).on o=((gC 13 14 (ot (aU n c (d+1)))).andThen λvs=> .ret (.mk 9 [] vs)).on o:=by cases o with|none=>rfl|some l=>exact MB (hh l O) GK
  refine um O call200 ⟨h7,⟨H.kp.trans KV,?_,.inr (.inl ⟨_,_,O,fZ.refl _,?_⟩)⟩,D⟩ O
  .rw[e,mP];exact S7
  .rw[e];intro a l' e1;obtain⟨a1,r1,e2,e3⟩:=cx e1;injection e3 with e3
   injection e3 with e4 e5
   subst e4;have hl:=hl a1 (by rw[e2];rfl);have hlen:es.length<=4294967296:=by
    rw[hl.len]
    cases o with|none=>cases e2|some l=>have:=AG (tw (kI _ _ _).dR) e2;have:=sw l O;omega
   exact iB.mk' (G.sl (vE hl) hlen)
end
section
variable {L:ak->Nat->Option (Int×ak×Nat)} {s:ak} {K:PK} {o o':Option (List Tok)} {d p B:Nat} {h h0 h1 hb:AH} {ids:List Nat} {V:View} {l:List Tok} {b c:Bool} {k:Nat}
def nT (l:List Tok) (kd:Int):Prop:=(bC l=17/\kd=1)\/(bC l=18/\kd=2)\/(bC l=19/\kd=3)\/(bC l=20/\kd=4)\/(bC l=16/\kd=jx (dN l))
theorem AN {n:Nat} {fx:Bool} {kd:Int} (h:nT l kd):aU (n+1) fx d l=some (.mk kd (dN l) [],l.tail):=by cases l with|nil=>simp[nT,bC]at h|cons t r=>simp only[nT,bC,dN]at h;simp only[aU,dN,List.tail_cons];rcases h with⟨h,rfl⟩|⟨h,rfl⟩|⟨h,rfl⟩|⟨h,rfl⟩|⟨h,rfl⟩<;>simp[h]
theorem eQ {n:Nat} {fx:Bool} {kd:Int} (h:∀l,o=some l->nT l kd):((aU (n+1) fx d).on o).map (·.2)=(la.on o).map (·.2):=by
 cases o with
 |none=>rfl
 |some l=>
  have h:=h l O
  rw[eB,AN h,jA (by rcases h with⟨h,_⟩|⟨h,_⟩|⟨h,_⟩|⟨h,_⟩|⟨h,_⟩<;>omega)];rfl
theorem eR {n:Nat} {fx:Bool} {kd:Int} {a:dM} {l':List Tok} (h:∀l,o=some l->nT l kd) (e:(aU (n+1) fx d).on o=some (a,l')):∃l,o=some l/\a= .mk kd (dN l) []:=by
 cases o with
 |none=>cases e
 |some l=>
  rw[eB,AN (h l O)]at e;injection e with e
  injection e with e1 e2
  exact⟨l,O,e1.symm⟩
theorem MD {n:Nat} (h:bC l=3):aU (n+1) false d l=(((aE 3).andThen λ_=>ar).andThen λnm=> .ret (.mk 0 nm [])) l:=by
 cases l with
 |nil=>simp[bC]at h
 |cons t r=>
  simp only[bC]at h;simp only[aU,Pa.andThen,Pa.ret,aE,h];simp
  cases ar r<;>rfl
theorem JM {n:Nat} (h:bC l=3):aU (n+1) true d l=none:=by cases l with|nil=>rfl|cons t r=>simp only[bC]at h;simp[aU,h]
theorem ME {n:Nat} {fx:Bool} (h:bC l≠11/\bC l≠13/\bC l≠3/\bC l≠17/\bC l≠18/\bC l≠19/\bC l≠20/\bC l≠16):aU (n+1) fx d l=none:=by cases l with|nil=>rfl|cons t r=>simp only[bC]at h;simp[aU,h]
theorem Cj (R:cM L):∀(n d:Nat),n+d=1001->∀{c b:Bool} {h0:AH} {o:Option (List Tok)},PB L b h0 p s o d->
 al prog 186 [.ptr p 0,.bool c] h0 (iN L p s d h0 ((aU n c d).on o) iB):=by
 intro n
 induction n with
 |zero=>rintro d hd c b h0 o ⟨_,_,K,_,P,_⟩;have:=P.dd;omega
 |succ n ih=>
  intro d hd c b h0 o S;refine GM.done ?_;obtain⟨ho,hT,K,hg,P,hp⟩:=S;refine az (n:=68) (rs:=[.tmp 4]) [] ⟨func186,O,O,O⟩ O <| have H:=HI.one hg ho;ah H O λh H Y=>?_;refine ae O call67 (cH R (PB.of H hT P hp)) ?_;rintro x h2 ⟨kp,⟨_,_,K1,eM,P1,dJ⟩,k',v,w1,w2,w3,w4,sr,rfl,hx⟩;replace H:=H.aA kp eM;refine an [1,1] H O λh H Y=>af O (λGO=>?_) λGO=>?_
  .refine ah H O λh H Y=>ae O call201 (MC (n:=n) R (ih (d+1) (by omega)) (PB.of H hT P1 dJ) λl e=>by have:=(hx l e).1;simp at GO;omega) ?_;rintro x h2 ⟨kp,⟨_,_,K2,bI,P2,iy⟩,y,rfl,hy⟩;replace H:=H.aA kp bI;exact ah H O λh H Y=>ab [] H O ⟨H.kp,PB.bU H hT P2,.inr (.inr ⟨y,O,hy⟩)⟩
  simp at GO;refine ah H O λh H Y=>af O (λGP=>?_) λGP=>?_
  .refine ah H O λh H Y=>ae O call202 (GN (n:=n) R (ih (d+1) (by omega)) (PB.of H hT P1 dJ) λl e=>by have:=(hx l e).1;simp at GP;omega) ?_;rintro x h2 ⟨kp,⟨_,_,K2,bI,P2,iy⟩,y,rfl,hy⟩;replace H:=H.aA kp bI;exact ah H O λh H Y=>ab [] H O ⟨H.kp,PB.bU H hT P2,.inr (.inr ⟨y,O,hy⟩)⟩
  simp at GP;refine ah H O λh H Y=>af O (λbZ=>?_) λbZ=>?_
  .simp at bZ;refine ah H O λh H Y=>?_
   cases c with
   |true=>
    refine jI O <| ah H O λh H Y=>ae O call69 (aO R (PB.of H hT P1 dJ)) ?_;rintro x h2 ⟨kp,⟨_,_,K2,bI,P2,iy⟩,rfl⟩;replace H:=H.aA kp bI;refine ah H O λh H Y=>?_;have e:(aU (n+1) true d).on o=none:=by cases o with|none=>rfl|some l=>exact JM (by have:=(hx l O).1;omega)
    exact ab [] H O ⟨H.kp,by rw[e];exact PB.bU H hT P2,.inl ⟨O,e⟩⟩
   |false=>
    refine cX O <| ah H O λh H Y=>ae O call203 (tu R (PB.of H hT P1 dJ)) ?_;rintro x h2 ⟨kp,⟨_,_,K2,bI,P2,iy⟩,nm,rfl,hy⟩;replace H:=H.aA kp bI;obtain⟨Iw,lf⟩:=P2.cm;have P2':=P2;obtain⟨st,a,e,b_,c_,d',er,pk,k0,v0,p1,pr,r1,t1,pt,pe,k2,v2,p2,pw,r2,t2,fK,rr,cc,tc,dp⟩:=K2;simp only at lf;subst lf;refine aS [38] [0] H O λh H Y=>?_;have e:(aU (n+1) false d).on o=(((aE 3).andThen λ_=>ar).andThen λnm=> .ret (.mk 0 nm [])).on o:=by cases o with|none=>rfl|some l=>exact MD (by have:=(hx l O).1;omega)
    refine ab [] H O ⟨H.kp,?_,.inr (.inl ⟨_,[_,.one .ao,_,_,_,_,_,_,_],O,⟨.refl _,.one _,.refl _,.refl _,.refl _,.refl _,.refl _,.refl _,.refl _,trivial⟩,?_⟩)⟩
    .rw[e,mP];exact PB.bU H hT P2'
    .rw[e];intro a' l' e';obtain⟨a1,r1,e1,e2⟩:=cx e';injection e2 with e2
     injection e2 with e3 e4
     subst e3;rw[hy _ _ e1];exact iB.mk' (.inl ⟨O,trivial⟩)
  simp at bZ;refine ah H O λh H Y=>af O (λGQ=>?_) λGQ=>?_
  .simp at GQ;refine ah H O λh H Y=>?_;have gY:∀l,o=some l->nT l 1:=λl e=>by have q1:=(hx l e).1;exact .inl ⟨by omega,O⟩
   refine ah H O λh H Y=>ae O call101 (fa R (PB.of H hT P1 dJ)) ?_;rintro x h2 ⟨kp,⟨_,_,K2,bI,P2,iy⟩,_⟩;replace H:=H.aA kp bI;obtain⟨Iw,lf⟩:=P2.cm;obtain⟨st,a,e,b_,c_,d',er,pk,k0,v0,p1,pr,r1,t1,pt,pe,k2,v2,p2,pw,r2,t2,fK,rr,cc,tc,dp⟩:=K2;simp only at lf;subst lf;refine aS [67] [0,1] H O λh H Y=>ab [] H O ⟨H.kp,?_,.inr (.inl ⟨_,[_,.one .ao,_,_,_,_,_,_,_],O,⟨.refl _,.one _,.refl _,.refl _,.refl _,.refl _,.refl _,.refl _,.refl _,trivial⟩,?_⟩)⟩
   .rw[eQ gY];exact PB.bU H hT P2
   .intro a' l' e';obtain⟨l,e1,e2⟩:=eR gY e';rw[e2,(hx l e1).2.1];exact iB.mk' (.inl ⟨O,trivial⟩)
  simp at GQ;refine ah H O λh H Y=>af O (λGR=>?_) λGR=>?_
  .simp at GR;refine ah H O λh H Y=>?_;have gY:∀l,o=some l->nT l 2:=λl e=>by have q1:=(hx l e).1;exact .inr (.inl ⟨by omega,O⟩)
   refine ah H O λh H Y=>ae O call101 (fa R (PB.of H hT P1 dJ)) ?_;rintro x h2 ⟨kp,⟨_,_,K2,bI,P2,iy⟩,_⟩;replace H:=H.aA kp bI;obtain⟨Iw,lf⟩:=P2.cm;obtain⟨st,a,e,b_,c_,d',er,pk,k0,v0,p1,pr,r1,t1,pt,pe,k2,v2,p2,pw,r2,t2,fK,rr,cc,tc,dp⟩:=K2;simp only at lf;subst lf;refine aS [67] [0,1] H O λh H Y=>ab [] H O ⟨H.kp,?_,.inr (.inl ⟨_,[_,.one .ao,_,_,_,_,_,_,_],O,⟨.refl _,.one _,.refl _,.refl _,.refl _,.refl _,.refl _,.refl _,.refl _,trivial⟩,?_⟩)⟩
   .rw[eQ gY];exact PB.bU H hT P2
   .intro a' l' e';obtain⟨l,e1,e2⟩:=eR gY e';rw[e2,(hx l e1).2.1];exact iB.mk' (.inl ⟨O,trivial⟩)
  simp at GR;refine ah H O λh H Y=>af O (λzM=>?_) λzM=>?_
  .simp at zM;refine ah H O λh H Y=>?_;have gY:∀l,o=some l->nT l 3:=λl e=>by have q1:=(hx l e).1;exact .inr (.inr (.inl ⟨by omega,O⟩))
   refine ah H O λh H Y=>ae O call101 (fa R (PB.of H hT P1 dJ)) ?_;rintro x h2 ⟨kp,⟨_,_,K2,bI,P2,iy⟩,_⟩;replace H:=H.aA kp bI;obtain⟨Iw,lf⟩:=P2.cm;obtain⟨st,a,e,b_,c_,d',er,pk,k0,v0,p1,pr,r1,t1,pt,pe,k2,v2,p2,pw,r2,t2,fK,rr,cc,tc,dp⟩:=K2;simp only at lf;subst lf;refine aS [67] [0,1] H O λh H Y=>ab [] H O ⟨H.kp,?_,.inr (.inl ⟨_,[_,.one .ao,_,_,_,_,_,_,_],O,⟨.refl _,.one _,.refl _,.refl _,.refl _,.refl _,.refl _,.refl _,.refl _,trivial⟩,?_⟩)⟩
   .rw[eQ gY];exact PB.bU H hT P2
   .intro a' l' e';obtain⟨l,e1,e2⟩:=eR gY e';rw[e2,(hx l e1).2.1];exact iB.mk' (.inl ⟨O,trivial⟩)
  simp at zM;refine ah H O λh H Y=>af O (λJN=>?_) λJN=>?_
  .simp at JN;refine ah H O λh H Y=>?_;have gY:∀l,o=some l->nT l 4:=λl e=>by have q1:=(hx l e).1;exact .inr (.inr (.inr (.inl ⟨by omega,O⟩)))
   refine ah H O λh H Y=>ae O call101 (fa R (PB.of H hT P1 dJ)) ?_;rintro x h2 ⟨kp,⟨_,_,K2,bI,P2,iy⟩,_⟩;replace H:=H.aA kp bI;obtain⟨Iw,lf⟩:=P2.cm;obtain⟨st,a,e,b_,c_,d',er,pk,k0,v0,p1,pr,r1,t1,pt,pe,k2,v2,p2,pw,r2,t2,fK,rr,cc,tc,dp⟩:=K2;simp only at lf;subst lf;refine aS [67] [0,1] H O λh H Y=>ab [] H O ⟨H.kp,?_,.inr (.inl ⟨_,[_,.one .ao,_,_,_,_,_,_,_],O,⟨.refl _,.one _,.refl _,.refl _,.refl _,.refl _,.refl _,.refl _,.refl _,trivial⟩,?_⟩)⟩
   .rw[eQ gY];exact PB.bU H hT P2
   .intro a' l' e';obtain⟨l,e1,e2⟩:=eR gY e';rw[e2,(hx l e1).2.1];exact iB.mk' (.inl ⟨O,trivial⟩)
  simp at JN;refine ah H O λh H Y=>af O (λxX=>?_) λxX=>?_
  .simp at xX;refine an [1] H O λh H Y=>af O (λQ5=>?_) λQ5=>?_
   .have ht:=Q5
    simp at ht;refine ah H O λh H Y=>ug O Q5 <| ah H O λh H Y=>?_;have gY:∀l,o=some l->nT l 5:=λl e=>by have q1:=(hx l e).1;have q2:=(hx l e).2.1;refine .inr (.inr (.inr (.inr ⟨by omega,?_⟩)));rw[<-q2,jx,if_pos (.inl ht)]
    refine ah H O λh H Y=>ae O call101 (fa R (PB.of H hT P1 dJ)) ?_;rintro x h2 ⟨kp,⟨_,_,K2,bI,P2,iy⟩,_⟩;replace H:=H.aA kp bI;obtain⟨Iw,lf⟩:=P2.cm;obtain⟨st,a,e,b_,c_,d',er,pk,k0,v0,p1,pr,r1,t1,pt,pe,k2,v2,p2,pw,r2,t2,fK,rr,cc,tc,dp⟩:=K2;simp only at lf;subst lf;refine aS [67] [0,1] H O λh H Y=>ab [] H O ⟨H.kp,?_,.inr (.inl ⟨_,[_,.one .ao,_,_,_,_,_,_,_],O,⟨.refl _,.one _,.refl _,.refl _,.refl _,.refl _,.refl _,.refl _,.refl _,trivial⟩,?_⟩)⟩
    .rw[eQ gY];exact PB.bU H hT P2
    .intro a' l' e';obtain⟨l,e1,e2⟩:=eR gY e';rw[e2,(hx l e1).2.1];exact iB.mk' (.inl ⟨O,trivial⟩)
   .have ht:=Q5
    simp at ht;refine ah H O λh H Y=>af O (λhf=>?_) λhf=>?_
    .simp at hf;refine ah H O λh H Y=>?_;have gY:∀l,o=some l->nT l 5:=λl e=>by have q1:=(hx l e).1;have q2:=(hx l e).2.1;refine .inr (.inr (.inr (.inr ⟨by omega,?_⟩)));rw[<-q2,jx,if_pos (.inr hf)]
     refine ah H O λh H Y=>ae O call101 (fa R (PB.of H hT P1 dJ)) ?_;rintro x h2 ⟨kp,⟨_,_,K2,bI,P2,iy⟩,_⟩;replace H:=H.aA kp bI;obtain⟨Iw,lf⟩:=P2.cm;obtain⟨st,a,e,b_,c_,d',er,pk,k0,v0,p1,pr,r1,t1,pt,pe,k2,v2,p2,pw,r2,t2,fK,rr,cc,tc,dp⟩:=K2;simp only at lf;subst lf;refine aS [67] [0,1] H O λh H Y=>ab [] H O ⟨H.kp,?_,.inr (.inl ⟨_,[_,.one .ao,_,_,_,_,_,_,_],O,⟨.refl _,.one _,.refl _,.refl _,.refl _,.refl _,.refl _,.refl _,.refl _,trivial⟩,?_⟩)⟩
     .rw[eQ gY];exact PB.bU H hT P2
     .intro a' l' e';obtain⟨l,e1,e2⟩:=eR gY e';rw[e2,(hx l e1).2.1];exact iB.mk' (.inl ⟨O,trivial⟩)
    .simp at hf;refine ah H O λh H Y=>af O (λhn=>?_) λhn=>?_
     .simp at hn;refine ah H O λh H Y=>?_;have gY:∀l,o=some l->nT l 6:=λl e=>by have q1:=(hx l e).1;have q2:=(hx l e).2.1;refine .inr (.inr (.inr (.inr ⟨by omega,?_⟩)));rw[<-q2,jx,if_neg (by rintro(q|q);exact ht q;exact hf q),if_pos hn]
      refine ah H O λh H Y=>ae O call101 (fa R (PB.of H hT P1 dJ)) ?_;rintro x h2 ⟨kp,⟨_,_,K2,bI,P2,iy⟩,_⟩;replace H:=H.aA kp bI;obtain⟨Iw,lf⟩:=P2.cm;obtain⟨st,a,e,b_,c_,d',er,pk,k0,v0,p1,pr,r1,t1,pt,pe,k2,v2,p2,pw,r2,t2,fK,rr,cc,tc,dp⟩:=K2;simp only at lf;subst lf;refine aS [67] [0,1] H O λh H Y=>ab [] H O ⟨H.kp,?_,.inr (.inl ⟨_,[_,.one .ao,_,_,_,_,_,_,_],O,⟨.refl _,.one _,.refl _,.refl _,.refl _,.refl _,.refl _,.refl _,.refl _,trivial⟩,?_⟩)⟩
      .rw[eQ gY];exact PB.bU H hT P2
      .intro a' l' e';obtain⟨l,e1,e2⟩:=eR gY e';rw[e2,(hx l e1).2.1];exact iB.mk' (.inl ⟨O,trivial⟩)
     .simp at hn;refine ah H O λh H Y=>?_;have gY:∀l,o=some l->nT l 7:=λl e=>by have q1:=(hx l e).1;have q2:=(hx l e).2.1;refine .inr (.inr (.inr (.inr ⟨by omega,?_⟩)));rw[<-q2,jx,if_neg (by rintro(q|q);exact ht q;exact hf q),if_neg hn]
      refine ah H O λh H Y=>ae O call101 (fa R (PB.of H hT P1 dJ)) ?_;rintro x h2 ⟨kp,⟨_,_,K2,bI,P2,iy⟩,_⟩;replace H:=H.aA kp bI;obtain⟨Iw,lf⟩:=P2.cm;obtain⟨st,a,e,b_,c_,d',er,pk,k0,v0,p1,pr,r1,t1,pt,pe,k2,v2,p2,pw,r2,t2,fK,rr,cc,tc,dp⟩:=K2;simp only at lf;subst lf;refine aS [67] [0,1] H O λh H Y=>ab [] H O ⟨H.kp,?_,.inr (.inl ⟨_,[_,.one .ao,_,_,_,_,_,_,_],O,⟨.refl _,.one _,.refl _,.refl _,.refl _,.refl _,.refl _,.refl _,.refl _,trivial⟩,?_⟩)⟩
      .rw[eQ gY];exact PB.bU H hT P2
      .intro a' l' e';obtain⟨l,e1,e2⟩:=eR gY e';rw[e2,(hx l e1).2.1];exact iB.mk' (.inl ⟨O,trivial⟩)
  .simp at xX;refine ah H O λh H Y=>ae O call69 (aO R (PB.of H hT P1 dJ)) ?_;rintro x h2 ⟨kp,⟨_,_,K2,bI,P2,iy⟩,rfl⟩;replace H:=H.aA kp bI;refine ah H O λh H Y=>?_;have e:(aU (n+1) c d).on o=none:=by
    cases o with|none=>rfl|some l=>exact ME (by have:=(hx l O).1;omega)
   exact ab [] H O ⟨H.kp,by rw[e];exact PB.bU H hT P2,.inl ⟨O,e⟩⟩
end
section
attribute [local irreducible] aU cK bE aQ
section
variable {L:ak->Nat->Option (Int×ak×Nat)} {s:ak} {K:PK} {o o':Option (List Tok)} {d p B:Nat} {h h0 h1 hb:AH} {ids:List Nat} {V:View} {l:List Tok} {b c:Bool} {k:Nat}
def my {α:Type} (Rl:α->AV->Prop) (l:List α) (x:AV):Prop:=RU 1 (bx (PE Rl) l) x
def FH (x:AV):Prop:=∃es,aY 1 x=some es
theorem my.nil {α:Type} {Rl:α->AV->Prop}:my Rl [] .ao:= .inl ⟨O,trivial⟩
def MF (a:gx) (v:AV):Prop:=∃z rest,v= .one (.ref none (.str a.name:: .one z::rest))/\iB a.v (.one z)
def xY (a:kl) (v:AV):Prop:=∃x rest,v= .one (.ref none (.str a.name:: .one x::rest))/\my MF a.args x
def MG (l:List dM) (z:AV):Prop:=(l=[]/\z= .bq)\/∃w,l=[w]/\iB w (.one z)
def qT (a:aW) (v:AV):Prop:=∃df ty ds rest,v= .one (.ref none (.str a.doc:: .str a.name:: .one df:: .one ty:: .one ds::rest))/\MG a.vY df/\GI a.t (.one ty)/\my xY a.cJ ds
def GS (a:jV) (v:AV):Prop:=∃xs df ty ds rest,v= .one (.ref none (.str a.doc:: .str a.name:: .one xs:: .one df:: .one ty:: .one ds::rest))/\my qT a.args xs/\MG a.vY df/\GI a.t (.one ty)/\my xY a.cJ ds
def Ix (a:cg) (v:AV):Prop:=∃ds rest,v= .one (.ref none (.str a.doc:: .str a.name:: .one ds::rest))/\my xY a.cJ ds
def Iy (a:fD) (v:AV):Prop:=∃rest,v= .one (.ref none (.str a.op:: .str a.t::rest))
def rA (a:ak) (v:AV):Prop:=v= .str a
def ja (a:Def) (v:AV):Prop:=∃ds xs fs ts es c1 c2 rest,v= .one (.ref none (.str a.kind:: .str a.doc:: .str a.name:: .one ds:: .one xs:: .one fs:: .one ts:: .one es::c1::c2:: .bool false::rest))/\my xY a.cJ ds/\my rA a.ifaces xs/\my GS a.fields fs/\my rA a.types ts/\my Ix a.enums es
def wO (a:dn) (v:AV):Prop:=∃xs c ls rest,v= .one (.ref none (.str a.doc:: .str a.name:: .one xs::c:: .one ls:: .bool a.rep::rest))/\my qT a.args xs/\my rA a.sf ls
def tE (a:av) (v:AV):Prop:=∃ds rs rest,v= .one (.ref none (.str a.doc:: .one ds:: .one rs::rest))/\my xY a.cJ ds/\my Iy a.roots rs
section
attribute [local irreducible] ca fv pY bB aE cF ov dv cE cj jd
theorem GU:((zH c).on o).map (·.2)=(((gV c).on (((aE 8).on ((ar.on o).map (·.2))).map (·.2))).map (·.2)):=Ci (x:=ar) (λo=>(((gV c).on (((aE 8).on o).map (·.2))).map (·.2))) O λa r=>Ci (x:=(aE 8)) (λo=>(((gV c).on o).map (·.2))) O λa r=>Ci (x:=(gV c)) (λo=>o) O λa r=>rfl
end
theorem Ps (R:cM L) (S:PB L b h0 p s o 0):al prog 198 [.ptr p 0,.bool c] h0 (iN L p s 0 h0 ((zH c).on o) MF):=by
 refine bR.done ?_;obtain⟨ho,hT,K,hg,P,hp⟩:=S;refine az (n:=24) (rs:=[.tmp 4]) [] ⟨func198,O,O,O⟩ O <| have H:=HI.one hg ho;an [1] H O λh H Y=>?_;refine ae O call66 (aL R (PB.bU H hT P)) ?_;rintro x h2 ⟨kp,⟨_,_,K1,eM,P1,dJ⟩,q1,rfl⟩;replace H:=H.aA kp eM;obtain⟨Iw,MH⟩:=P1.cm;obtain⟨st1,a1_,e1_,b1_,c1_,d1_,er1,pk1,k01,v01,p11,YC,r11,t11,YD,pe1,k21,v21,p21,YE,r21,t21,YF,YG,cc1,tc1,dp1⟩:=K1;simp only at MH;subst MH;refine an [1,0,1] H O λh H Y=>ae O call114 (aI R (PB.bU H hT P1)) ?_;rintro x h2 ⟨kp,⟨_,_,K2,bI,P2,iy⟩,nm2,rfl,VG⟩;replace H:=H.aA kp bI;refine an [1] H O λh H Y=>ae O call113 (dQ (k:=8) R (PB.bU H hT P2) (by omega)) ?_;rintro x h2 ⟨kp,⟨_,_,K3,bF,P3,kO⟩,_,_,_,_,_,_,_,_,rfl,_,_⟩;replace H:=H.aA kp bF;refine ah H O λh H Y=>ae O call186 (Cj R 1001 0 O (PB.bU H hT P3)) ?_;rintro x h2 ⟨kp,⟨_,_,K4,jj,P4,AJ⟩,z4,rfl,iC⟩;replace H:=H.aA kp jj;refine an [1] H O λh H Y=>ab [] H O (bR.mk' (j:=0) H hT ?p1 ho O (dH:=[_,_,_,_]) ⟨.refl _,.refl _,.refl _,.refl _,trivial⟩ ?p2)
 case p1=>rw[GU];exact P4
 case p2=>
  intro a l' e;obtain⟨a2,r2,e2,e⟩:=cx (x:=ar) e;have s2:((ar.on o).map (·.2))=some r2:=by rw[e2];rfl
  have w2:=VG _ _ e2;obtain⟨a3,r3,e3,e⟩:=cx (x:=(aE 8)) e;rw[<-s2]at e3;have s3:(((aE 8).on ((ar.on o).map (·.2))).map (·.2))=some r3:=by rw[e3];rfl
  obtain⟨a4,r4,e4,e⟩:=cx (x:=(gV c)) e;rw[<-s3]at e4;have s4:(((gV c).on (((aE 8).on ((ar.on o).map (·.2))).map (·.2))).map (·.2))=some r4:=by rw[e4];rfl
  have w4:=iC _ _ e4;injection e with e
  injection e with Sk YH
  subst Sk;subst w2;exact⟨_,_,O,w4⟩
theorem MI (R:cM L) (S:PB L b h0 p s o 0):al prog 184 [.ptr p 0,.bool c] h0 (λv h'=>Kp [p] h0 h'/\PB L false h' p s (((ca 5 6 (zH c)).on o).map (·.2)) 0/\∃z,v= .one z/\FH z/\dO ((ca 5 6 (zH c)).on o) λa=>my MF a z):=by
 obtain⟨ho,hT,K,hg,P,hp⟩:=S;have sw:∀l,o=some l->l.length<=1048578:=λl e=>(P.len R e).1
 refine az (n:=10) (rs:=[.tmp 4]) [] ⟨func184,O,O,O⟩ O <| have H:=HI.one hg ho;aS [2,3] [] H O λh H Y=>?_;have hB:=H.jM;have gX:=H.hv.1.2.2 _ (List.mem_cons_self ..);simp only at gX;refine ae O call110 (lZ (sk:=5) (ek:=6) (m:=h0.nt) (ids:=[p,_]) R (zH c) (tx c) call197 (by simp) (rz (PE MF) h0 _ (λx=>[x])) (λ_=>lq gX) (λ_=>ir) (λb l bs h S j jN hm=>bxB.1 (Ps R) gX S j jN) (PB.of H hT P hp) (by omega) (by omega) ⟨hB.2,H.kp.nt,.ao,[],hB.1,.inl ⟨O,O⟩,λbs e=>by injection e with e;subst e;trivial⟩ H.kp.nt) ?_
 rintro x h2 ⟨kp,⟨_,_,K4,jj,P4,AJ⟩,⟨_,_,x,es,pD,G,hl⟩,q,rfl⟩;replace H:=H.oz kp jj pD;refine fm 1 [.one x] H O O ⟨.one _,trivial⟩ λh H Y=>aS [2,3] [1] H O λh H Y=>ab [] H O ⟨H.kp,PB.bU H hT P4,x,O,⟨_,G.elems⟩,λa l' e=>?_⟩;have hl:=hl a (by rw[e];rfl);refine G.sl hl ?_;rw[hl.len]
 cases o with|none=>cases e|some l=>have:=lI (tx c) e;have:=sw l O;omega
end
end
section
attribute [local irreducible] aU cK bE aQ
section
variable {L:ak->Nat->Option (Int×ak×Nat)} {s:ak} {K:PK} {o o':Option (List Tok)} {d p B:Nat} {h h0 h1 hb:AH} {ids:List Nat} {V:View} {l:List Tok} {b c:Bool} {k:Nat}
section
attribute [local irreducible] ca fv pY bB aE cF ov dv cE cj jd
theorem je:((((aE 10).andThen λ_=>sm c)).on o).map (·.2)=(((pX c).on ((ar.on (((aE 10).on o).map (·.2))).map (·.2))).map (·.2)):=Ci (x:=(aE 10)) (λo=>(((pX c).on ((ar.on o).map (·.2))).map (·.2))) O λa r=>Ci (x:=ar) (λo=>(((pX c).on o).map (·.2))) O λa r=>Ci (x:=(pX c)) (λo=>o) O λa r=>rfl
end
theorem Pt (R:cM L) (S:PB L b h0 p s o 0):al prog 155 [.ptr p 0,.bool c] h0 (iN L p s 0 h0 (((aE 10).andThen λ_=>sm c).on o) xY):=by
 refine GM.done ?_;obtain⟨ho,hT,K,hg,P,hp⟩:=S;refine az (n:=16) (rs:=[.tmp 4]) [] ⟨func155,O,O,O⟩ O <| have H:=HI.one hg ho;aS [15] [] H O λh H Y=>?_;refine ae O call113 (dQ (k:=10) R (PB.bU H hT P) (by omega)) ?_;rintro x h2 ⟨kp,⟨_,_,K1,eM,P1,dJ⟩,_,_,_,_,_,_,_,_,rfl,_,_⟩;replace H:=H.aA kp eM;refine aS [15] [] H O λh H Y=>ae O call66 (aL R (PB.bU H hT P1)) ?_;rintro x h2 ⟨kp,⟨_,_,K2,bI,P2,iy⟩,q2,rfl⟩;replace H:=H.aA kp bI;refine aS [15] [] H O λh H Y=>ae O call114 (aI R (PB.bU H hT P2)) ?_;rintro x h2 ⟨kp,⟨_,_,K3,bF,P3,kO⟩,KW,rfl,kJ⟩;replace H:=H.aA kp bF;refine aS [15] [] H O λh H Y=>ae O call184 (MI R (PB.bU H hT P3)) ?_;rintro x h2 ⟨kp,⟨_,_,K4,jj,P4,AJ⟩,z4,rfl,jB,iC⟩;replace H:=H.aA kp jj;refine aS [15] [] H O λh H Y=>ab [] H O ⟨H.kp,?p1,.inr (.inl ⟨_,_,O,fZ.refl _,?p2⟩)⟩
 case p1=>rw[je];exact PB.bU H hT P4
 case p2=>
  intro a l' e;obtain⟨a1,r1,e1,e⟩:=cx (x:=(aE 10)) e;have s1:(((aE 10).on o).map (·.2))=some r1:=by rw[e1];rfl
  obtain⟨a3,r3,e3,e⟩:=cx (x:=ar) e;rw[<-s1]at e3;have s3:((ar.on (((aE 10).on o).map (·.2))).map (·.2))=some r3:=by rw[e3];rfl
  have w3:=kJ _ _ e3;obtain⟨a4,r4,e4,e⟩:=cx (x:=(pX c)) e;rw[<-s3]at e4;have s4:(((pX c).on ((ar.on (((aE 10).on o).map (·.2))).map (·.2))).map (·.2))=some r4:=by rw[e4];rfl
  have w4:=iC _ _ e4;injection e with e
  injection e with Sk YH
  subst Sk;subst w3;exact⟨_,_,O,w4⟩
def tF {α:Type} (g:Pa α) (k:Nat) (l0:List Tok) (o:Option (List Tok)) (acc:Option (List α)):Prop:=
 match o with
 |none=>bE g k dX l0=none/\acc=none
 |some l=>∃n bs,acc=some bs/\l.length <n/\bs.length+l.length<=1048578/\bE g k dX l0=match bE g k n l with|none=>none|some (cs,r)=>some (bs++cs,r)
theorem tF.start {α:Type} {g:Pa α} {k:Nat} {l:List Tok} (hl:l.length<=1048578):tF g k l (some l) (some []):=by
 refine⟨dX,[],O,by rw[wM];omega,by simpa using hl,?_⟩
 cases bE g k dX l with|none=>rfl|some x=>rfl
theorem tF.step {α:Type} {g:Pa α} (hd:j6 g) {k:Nat} {l1 l:List Tok} {acc:Option (List α)} (h:tF g k l1 (some l) acc) (hk:bC l=k):tF g k l1 ((g l.tail).map (·.2)) ((g l.tail).bind λx=>acc.map λbs=>bs++[x.1]):=by
 obtain⟨n,bs,rfl,hn,hb,he⟩:=h;obtain⟨n,rfl⟩:∃m,n=m+1:=⟨n -1,by omega⟩;have e2:bE g k (n+1) l=match g l.tail with
  |none=>none
  |some (a,l1)=>match bE g k n l1 with
   |none=>none
   |some (cs,l2)=>some (a::cs,l2):=by
  conv=>lhs;unfold bE
  refine(if_pos hk).trans ?_
  cases g l.tail with|none=>rfl|some x=>obtain⟨a,r⟩:=x;cases h9:bE g k n r<;>simp[h9]
 rw[e2]at he
 cases hg:g l.tail with
 |none=>rw[hg]at he;exact⟨he,O⟩
 |some x=>
  obtain⟨a,l'⟩:=x;rw[hg]at he;have:=hd _ _ _ hg;have:=fw l;refine⟨n,bs++[a],O,by simp only at this|-;omega,by simp;omega,he.trans ?_⟩;simp only
  cases bE g k n l' with|none=>rfl|some y=>simp
theorem tF.stop {α:Type} {g:Pa α} {k:Nat} {l1 l:List Tok} {acc:Option (List α)} (h:tF g k l1 (some l) acc) (hk:bC l≠k):∃bs,acc=some bs/\bE g k dX l1=some (bs,l):=by obtain⟨n,bs,rfl,hn,hb,he⟩:=h;obtain⟨n,rfl⟩:∃m,n=m+1:=⟨n -1,by omega⟩;refine⟨bs,O,?_⟩;rw[he];simp[bE,hk]
theorem JO {α:Type} {g:Pa α} {k:Nat} (h0:k≠0) (h:bC l=k):((aE k).andThen λ_=>g) l=g l.tail:=by
 have:l≠[]:=by rintro rfl;simp[bC]at h;omega
 simp only[Pa.andThen,D5 this h]
theorem cP (R:cM L) (S:PB L b h0 p s o 0):al prog 109 [.ptr p 0,.bool c] h0 (λv h'=>Kp [p] h0 h'/\PB L false h' p s (((fI c).on o).map (·.2)) 0/\∃z,v= .one z/\FH z/\dO ((fI c).on o) λa=>my xY a z):=by
 refine al.one (Q:=λv h'=>(v.cells=some [v]/\FH v)/\Kp [p] h0 h'/\PB L false h' p s (((fI c).on o).map (·.2)) 0/\dO ((fI c).on o) λa=>my xY a v) ?_ (λv h' q=>q.1.1) (λv h' q=>⟨q.2.1,q.2.2.1,v,O,q.1.2,q.2.2.2⟩);obtain⟨ho,hT,K,hg,P,hp⟩:=S;have sw:∀l,o=some l->l.length<=1048578:=λl e=>(P.len R e).1
 refine az (n:=22) (rs:=[.tmp 4]) [] ⟨func109,O,O,O⟩ O <| have H:=HI.one hg ho;ah H O λh H Y=>?_;refine aC 22 (λx:Option (List Tok)×Option (List kl)×AV×List (List AV)=>match x.1 with|none=>0|some l=>l.length+1)
  (λx=>[(0,.ptr p 0),(1,.bool c),(5,x.2.2.1)])
  (λx h'=>∃K,HI h0 [p] h' [(p,K.cells s)]/\PR L s K x.1 0/\aG h0 h' 1 x.2.2.1 x.2.2.2/\(∀bs,x.2.1=some bs->bx (PE xY) bs x.2.2.2)/\((x.1=none/\(fI c).on o=none)\/∃l0,o=some l0/\tF (sm c) 10 l0 x.1 x.2.1))
  (λx:Option (List Tok)×Option (List kl)×AV×List (List AV)=>[(0,.ptr p 0),(1,.bool c),(5,x.2.2.1)])
  (λx h'=>∃K,HI h0 [p] h' [(p,K.cells s)]/\PR L s K x.1 0/\aG h0 h' 1 x.2.2.1 x.2.2.2/\(∀bs,x.2.1=some bs->bx (PE xY) bs x.2.2.2)/\((x.1=none/\(fI c).on o=none)\/∃l' bs,x.1=some l'/\(fI c).on o=some (bs,l')/\x.2.1=some bs))
  (o,some [],.ao,[]) O ⟨K,H,P,.inl ⟨O,O⟩,λbs e=>by injection e with e;subst e;trivial,?_⟩ ?_ ?_
 .cases o with|none=>exact .inl ⟨O,O⟩|some l=>exact .inr ⟨l,O,tF.start (sw l O)⟩
 .clear H;rintro⟨o1,acc,x,es⟩ h ⟨K,H,P,G,hl,lp⟩ again done;simp only at P G hl lp;refine aH H G O λh H G Y=>ae O call67 (cH R (PB.bU H hT P)) ?_;rintro y h2 ⟨kp,⟨_,_,K1,eM,P1,dJ⟩,k',v,q1,q2,q3,q4,sr,rfl,hx⟩;replace H:=H.aA kp eM;replace G:=G.kp kp;refine aH H G O λh H G Y=>?_;have hlp:(o1=none/\(fI c).on o=none)\/∃l0 l1,o=some l0/\o1=some l1/\tF (sm c) 10 l0 (some l1) acc:=by
   rcases lp with⟨e1,e2⟩|⟨l0,e1,e2⟩
   .exact .inl ⟨e1,e2⟩
   .cases o1 with|none=>exact .inl ⟨O,by rw[e1];exact e2.1⟩|some l1=>exact .inr ⟨l0,l1,e1,O,e2⟩
  refine af O (λhb=>?_) λhb=>?_
  .have dk:k'=10:=by simpa using hb
   clear lp;rcases hlp with⟨rfl,e2⟩|⟨l0,l1,rfl,rfl,lp⟩
   .obtain⟨y,hy⟩:=P1.no rfl;obtain⟨st,a,e,b_,c_,d',er,pk,k0,v0,p1,pr,r1,t1,pt,pe,k2,v2,p2,pw,r2,t2,fK,rr,cc,tc,dp⟩:=K1;simp only at hy;subst hy;exact bm [0,91] H G O λh H G Y=>done (none,acc,x,es) O ⟨_,H,P1,G,hl,.inl ⟨O,e2⟩⟩
   .have zI:bC l1=10:=by have:=(hx l1 O).1;omega
    have hy:=(P1.so l1 O).1
    obtain⟨st,a,e,b_,c_,d',er,pk,k0,v0,p1,pr,r1,t1,pt,pe,k2,v2,p2,pw,r2,t2,fK,rr,cc,tc,dp⟩:=K1;simp only at hy;subst hy;refine bm [0,90] H G O λh H G Y=>ae O call155 (Pt R (PB.bU H hT P1)) ?_;rintro y h3 ⟨kp,⟨_,_,K3,bF,P3,kO⟩,z,rfl,hz⟩;replace H:=H.aA kp bF;replace G:=G.kp kp;rw[eB,JO (by omega) zI]at P3 hz;refine aH H G O λh H G Y=>?_;have zL:=lp;obtain⟨n,bs,jN,_,jP,_⟩:=lp;subst jN;have hl:=hl bs O;have vF:=hl.len;refine eK H O O O O O O O G ?_ ?_
    .show(es.length+1)*(8+1)<=140737488355328;omega
    clear H;intro x' h H G n_;refine aH H G O λh H G Y=>have tG:=zL.step (p7 c) zI;again ((sm c l1.tail).map (·.2),(sm c l1.tail).map (λz=>bs++[z.1]),x',es++[[.one z]]) ?_ O ⟨_,H,P3,G,oy hl hz,.inr ⟨l0,O,?_⟩⟩
    .show(match(sm c l1.tail).map (·.2)with|none=>0|some l=>l.length+1) <l1.length+1
     cases hg:sm c l1.tail with
     |none=>simp
     |some y=>
      have:=p7 c _ _ _ hg
      have:=fw l1
      simp;omega
    .cases hg:sm c l1.tail with|none=>rw[hg]at tG;exact tG|some y=>rw[hg]at tG;exact tG
  .have dk:k'≠10:=by simpa using hb
   refine aH H G O λh H G Y=>?_;clear lp;rcases hlp with⟨rfl,e2⟩|⟨l0,l1,rfl,rfl,lp⟩
   .exact done (none,acc,x,es) O ⟨_,H,P1,G,hl,.inl ⟨O,e2⟩⟩
   .have zI:bC l1≠10:=by have:=(hx l1 O).1;omega
    obtain⟨bs,e1,e2⟩:=lp.stop zI;exact done (some l1,acc,x,es) O ⟨_,H,P1,G,hl,.inr ⟨l1,bs,O,e2,e1⟩⟩
 .clear H;rintro⟨o1,acc,x,es⟩ h ⟨K,H,P,G,hl,gW⟩;simp only at P G hl gW;have G0:=G;refine aH H G O λh H G Y=>ab [] H O ⟨?_,H.kp,?_,?_⟩
  .exact⟨by rcases G.form with rfl|⟨tk,rfl⟩<;>rfl,_,G.elems⟩
  .rcases gW with⟨rfl,e2⟩|⟨l',bs,rfl,e2,_⟩
   .rw[e2];exact PB.bU H hT P
   .rw[e2];exact PB.bU H hT P
  .rcases gW with⟨rfl,e2⟩|⟨l',bs,rfl,e2,e3⟩
   .rw[e2];intro a l e
    cases e
   .rw[e2];intro a l e;injection e with e
    injection e with e4 e5
    subst e4;have hl:=hl bs e3;refine G.sl hl ?_;rw[hl.len]
    cases o with|none=>cases e2|some l0=>have:=tv (p7 c) 10 _ _ _ _ e2;have:=sw l0 O;omega
end
end
section
variable {L:ak->Nat->Option (Int×ak×Nat)} {s:ak} {K:PK} {o o':Option (List Tok)} {d p B:Nat} {h h0 h1 hb:AH} {ids:List Nat} {V:View} {l:List Tok} {b c:Bool} {k:Nat}
section
variable {α β:Type} {x:Pa α} {f:α->Pa β} {Q:α->Prop} {R:β->Prop}
theorem dO.tS (hS:(x.on o).map (·.2)=o') (hz:dO (x.on o) Q) (k:∀a,Q a->dO ((f a).on o') R):dO ((x.andThen f).on o) R:=λb l e=>by obtain⟨a,r,e1,e2⟩:=cx e;exact k a (hz _ _ e1) b l (by rw[<-hS,e1];exact e2)
theorem dO.th (hz:dO (x.on o) Q) (k:∀a,Q a->dO ((f a).on ((x.on o).map (·.2))) R):dO ((x.andThen f).on o) R:=dO.tS O hz k
theorem dO.te {t:α} (hz:dO (x.on o) λa=>t=a) (k:dO ((f t).on ((x.on o).map (·.2))) R):dO ((x.andThen f).on o) R:=hz.th λa e=>e▸k
theorem dO.tn (k:∀a,dO ((f a).on ((x.on o).map (·.2))) R):dO ((x.andThen f).on o) R:=dO.th (Q:=λ_=>True) (λ_ _ _=>trivial) λa _=>k a
theorem dO.tr {d:β} (h:R d):dO ((Pa.ret d).on o) R:=λa l e=>by cases o with|none=>cases e|some l=>injection e with e;injection e with e;subst e;exact h
theorem nx {F:Option (List Tok)->Option (List Tok)} (h:∀a o,((f a).on o).map (·.2)=F o) (h0:F none=none:=by rfl):((x.andThen f).on o).map (·.2)=F ((x.on o).map (·.2)):=Ci F h0 λa r=>h a (some r)
theorem nz {a:α}:((Pa.ret a).on o).map (·.2)=o:=by cases o<;>rfl
end
def Sl:Nat->List AV->List AV
 |_,[]=>[]
 |0,x::r=> .one x::r
 |n+1,x::r=>x::Sl n r
def Pu:List Nat->List AV->List AV
 |[],cs=>cs
 |n::r,cs=>Sl n (Pu r cs)
theorem fZ.trans:∀{a b c:List AV},fZ a b->fZ b c->fZ a c
 |[],[],[],_,_=>trivial
 |_::_,_::_,_::_,h,k=>⟨λg w v r o=>k.1 g w v (h.1 g w v r o) o,h.2.trans k.2⟩
theorem qa:∀(n:Nat) (cs:List AV),fZ cs (Sl n cs)
 |_,[]=>by cases‹Nat›<;>trivial
 |0,x::r=>⟨.one _,.refl _⟩
 |n+1,x::r=>⟨.refl _,qa n r⟩
theorem GV:∀(m:List Nat) (cs:List AV),fZ cs (Pu m cs)
 |[],cs=> .refl _
 |n::r,cs=>(GV r cs).trans (qa n _)
theorem bR.mm {α:Type} {g:Pa α} {R:α->AV->Prop} {dd:Nat} {cs:List AV} (j:Nat) (m:List Nat) (H:HI h0 [p] h ((p,K.cells s)::V)) (hT:h0.aV=bQ) (P:PR L s K o' d) (ho:p <h0.n) (hg:nK j V=some (dd,cs)) (e:(g.on o).map (·.2)=o') (hC:dO (g.on o) λa=>R a (.one (.ref none (Pu m cs)))): bR L h0 p s ((g.on o).map (·.2)) d (λv=>dO (g.on o) λa=>R a v) (.ptr dd 0) h:=bR.mk' H hT (e▸P) ho hg (GV m cs) hC
theorem Pv {α:Type} {em:α->Bool} {g:Pa α} (key:dO (g.on o) λd=>em d=true):(ux em g).on o=none:=by
 unfold ux;rw[mO]
 cases hx:g.on o with|none=>rfl|some y=>simp only[key _ _ hx];rfl
theorem Sm {α:Type} {em:α->Bool} {g:Pa α} {Q:α->Prop} (key:dO (g.on o) λd=>em d=false/\Q d):(ux em g).on o=g.on o:=by
 unfold ux;rw[mO]
 cases hx:g.on o with|none=>rfl|some y=>simp only[(key _ _ hx).1];rfl
theorem bR.mt {α:Type} {em:α->Bool} {g:Pa α} {R:α->AV->Prop} {dd:Nat} {cs:List AV} (j:Nat) (H:HI h0 [p] h ((p,K.cells s)::V)) (hT:h0.aV=bQ) (P:PR L s K none d) (ho:p <h0.n) (hg:nK j V=some (dd,cs)) (hC:dO (g.on o) λa=>em a=true):
 bR L h0 p s (((ux em g).on o).map (·.2)) d (λv=>dO ((ux em g).on o) λa=>R a v) (.ptr dd 0) h:=by
 rw[Pv hC];exact bR.mk' H hT P ho hg (.refl _) λa l e=>by cases e
theorem bR.mn {α:Type} {em:α->Bool} {g:Pa α} {R:α->AV->Prop} {dd:Nat} {cs:List AV} (j:Nat) (m:List Nat) (H:HI h0 [p] h ((p,K.cells s)::V)) (hT:h0.aV=bQ) (P:PR L s K o' d) (ho:p <h0.n) (hg:nK j V=some (dd,cs)) (e:(g.on o).map (·.2)=o') (hC:dO (g.on o) λa=>em a=false/\R a (.one (.ref none (Pu m cs)))):
 bR L h0 p s (((ux em g).on o).map (·.2)) d (λv=>dO ((ux em g).on o) λa=>R a v) (.ptr dd 0) h:=by
 rw[Sm hC];exact bR.mk' H hT (e▸P) ho hg (GV m cs) λa l e=>(hC a l e).2
theorem aX {lt:LT} {C:Exit->ay->AH->Prop} {fr aB:ay} {cur:Dj} {ks ji:List Kt} {n' d' f:Nat} {tr:List (Nat×Nat)} {dr:List (List Oper×List Nat)} {op:Oper} {ops l:List Oper} {D:List Nat} {V0:View} {args:List AV} {Q:AV->Prop} {t:Tmp} (im hs:List Nat) (H:HI h0 [p] h V0) (hT:h0.aV=bQ) (P:PR L s K o d)
 (hx:ZR lt im 3000 cur ks fr V0 h.n hs (.ops ops (op::l) D) ji aB ((p,K.cells s)::V) n' tr [] dr) (hc:eh aB op.op=some (f,args)) (hf:eF prog f) (c:∀h1,PB L false h1 p s o d->al prog f args h1 λv h'=>Kp [p] h1 h'/\PB L b h' p s o' d'/\Q v)
 (k:∀v h' K',HI h0 [p] h' ((p,PK.cells s K')::V)->PR L s K' o' d'->Q v->XS prog lt C (.ops ops l D) ji (aB.bf t (.v v)) h') (hg:au ops aB op.guard=some true:=by rfl) (hd:op.dst=some t:=by rfl) (ht:ZT tr:=by rfl) (hr:ZD dr:=by first|rfl|decide+kernel):XS prog lt C cur ks fr h:=
 aS im hs H hx (λh1 H1 _=>ae (by rw[hc,hg,hd]) hf (c h1 (PB.bU H1 hT P)) λv h2 ⟨kp,⟨_,_,K',JB,P',_⟩,q⟩=>k v h2 K' (H1.aA kp JB) P' q) ht hr
end
section
attribute [local irreducible] aU cK bE aQ
section
variable {L:ak->Nat->Option (Int×ak×Nat)} {s:ak} {K:PK} {o o':Option (List Tok)} {d p B:Nat} {h h0 h1 hb:AH} {ids:List Nat} {V:View} {l:List Tok} {b c:Bool} {k:Nat}
theorem Ei {q:Option (List Tok)} (hh:rv L 9 o true q):(pY 9).on o=((gV true).on q).map λx=>([x.1],x.2):=by
 obtain⟨l,rfl,hl,rfl⟩:=hh.1 O;show((bB 9).andThen _) l=_;simp only[Pa.andThen,Cf (by omega) hl,eB]
 cases gV true l.tail<;>rfl
theorem Iz {q:Option (List Tok)} (hh:rv L 9 o false q):(pY 9).on o=q.map λl=>([],l):=by
 obtain⟨hl,rfl⟩:=hh.2 O
 cases q with
 |none=>rfl
 |some l=>
  have:=GJ (o:=some l) hl
  show((bB 9).andThen _) l=_
  simp only[Pa.andThen,show bB 9 l=some (false,l) from this];rfl
theorem lu {q:Option (List Tok)} (hh:rv L 9 o true q):((pY 9).on o).map (·.2)=(((gV true).on q).map (·.2)):=by rw[Ei hh];cases(gV true).on q<;>rfl
theorem mQ {q:Option (List Tok)} (hh:rv L 9 o false q):((pY 9).on o).map (·.2)=q:=by rw[Iz hh];cases q<;>rfl
theorem tH {q:Option (List Tok)} {z:AV} (hh:rv L 9 o true q) (hz:dO ((gV true).on q) λa=>iB a (.one z)):dO ((pY 9).on o) λa=>MG a z:=by
 rw[Ei hh];intro a l e
 cases hq:(gV true).on q with|none=>rw[hq]at e;cases e|some x=>rw[hq]at e;injection e with e;injection e with e1 e2;subst e1;exact .inr ⟨_,O,hz _ _ hq⟩
theorem vG {q:Option (List Tok)} (hh:rv L 9 o false q):dO ((pY 9).on o) λa=>MG a .bq:=by
 rw[Iz hh];intro a l e
 cases q with|none=>cases e|some x=>injection e with e;injection e with e1 e2;subst e1;exact .inl ⟨O,O⟩
theorem GW (R:cM L) (S:PB L b h0 p s o 0):al prog 158 [.ptr p 0] h0 (iN L p s 0 h0 ((ij).on o) qT):=by
 refine bR.done ?_;obtain⟨ho,hT,K,hg,P,hp⟩:=S;refine az (n:=42) (rs:=[.tmp 2]) [] ⟨func158,O,O,O⟩ O <| have H:=HI.one hg ho;ah H O λh H _=>ae O call68 (de R (PB.bU H hT P)) ?_;rintro _ _ ⟨t1,_,_,K,rfl,kp,hg,P,Gd,_⟩;replace H:=H.aA kp hg;refine an [2,2] H O λh H _=>lC 42 (λ_:Unit=>[(0,.ptr p 0),(3,.ptr h0.n 0)]) (λ_ h=>∃w,HI h0 [p] h [(p,PK.cells s K),(h0.n,[.str t1,.str [],.bq,.bq,.ao,.bq,.one w,.bq])]) O (λ_ J=>?_) (λhb J=>?_) ?_
 .exact an [2,1,2,1] H O λh H _=>J () O ⟨_,H.take (k:=2)⟩
 .obtain rfl:t1=[]:=by simpa using hb
  exact jK 1 [.str [],.str [],.bq,.bq,.ao,.bq,.one .bq,.bq] H O O (qa 6 _) λh H _=>ah H O λh H _=>J () O ⟨_,H.take (k:=2)⟩
 clear H;rintro⟨⟩ h ⟨_,H⟩;refine aX [] [] H hT P O O call67 (λ_=>cH R) ?_;rintro _ h K H P ⟨k3,v3,_,_,_,_,_,rfl,AO⟩;obtain⟨K,_,rfl⟩:=P.Xd;refine aX [] [0,1] H hT P O O call66 (λ_=>aL R) ?_;rintro _ h K H P ⟨q4,rfl⟩;refine aX [] [1] H hT P O O call114 (λ_=>aI R) ?_;rintro _ h K H P ⟨YI,rfl,lK⟩;refine aX [] [1] H hT P O O call113 (λ_ S=>dQ (k:=8) R S (by omega)) ?_;rintro _ h K H P ⟨_,_,_,_,_,_,_,_,rfl,_,_⟩;refine aX [] [] H hT P O O call185 (λ_=>Cg R 1001 0 O) ?_;rintro _ h K H P ⟨z7,rfl,VI⟩;refine an [1] H O λh H _=>ae O call116 (eX (k:=9) R (PB.bU H hT P) (by omega)) ?_;rintro _ _ ⟨kp,y8,o8,rfl,JP,⟨_,_,K,hg,P,_⟩⟩;replace H:=H.aA kp hg;refine ah H O λh H _=>af O (λlv=>?_) λlv=>?_
 .subst lv;refine aX [] [] H hT P O O call186 (λ_=>Cj R 1001 0 O) ?_;rintro _ h K H P ⟨z10,rfl,Sn⟩;refine aX [] [1] H hT P O O call109 (λ_=>cP R) ?_;rintro _ h K H P ⟨z11,rfl,YJ,So⟩;exact an [1] H O λh H _=>ab [] H O (bR.mm 0 [] H hT P ho O ((nx λ_ _=>nx λ_ _=>nx λ_ _=>nx λ_ _=>nx λ_ _=>nx λ_ _=>nz).trans (by rw[(lu JP)])) (Gd.te <| lK.te <| .tn λ_=>VI.th λ_ w7=> .tS (lu JP) (tH JP Sn) λ_ w8=>So.th λ_ YK=> .tr ⟨_,_,_,_,O,w8,w7,YK⟩))
 .subst lv;refine aX [] [] H hT P O O call109 (λ_=>cP R) ?_;rintro _ h K H P ⟨z12,rfl,VJ,MJ⟩;exact an [1] H O λh H _=>ab [] H O (bR.mm 0 [2] H hT P ho O ((nx λ_ _=>nx λ_ _=>nx λ_ _=>nx λ_ _=>nx λ_ _=>nx λ_ _=>nz).trans (by rw[(mQ JP)])) (Gd.te <| lK.te <| .tn λ_=>VI.th λ_ w7=> .tS (mQ JP) (vG JP) λ_ w8=>MJ.th λ_ KX=> .tr ⟨_,_,_,_,O,w8,w7,KX⟩))
theorem JQ (R:cM L) (S:PB L b h0 p s o 0):al prog 183 [.ptr p 0] h0 (iN L p s 0 h0 ((ou).on o) GS):=by
 refine bR.done ?_;obtain⟨ho,hT,K,hg,P,hp⟩:=S;refine az (n:=42) (rs:=[.tmp 2]) [] ⟨func183,O,O,O⟩ O <| have H:=HI.one hg ho;ah H O λh H _=>ae O call68 (de R (PB.bU H hT P)) ?_;rintro _ _ ⟨t1,_,_,K,rfl,kp,hg,P,Gd,_⟩;replace H:=H.aA kp hg;refine an [2,2] H O λh H _=>lC 42 (λ_:Unit=>[(0,.ptr p 0),(3,.ptr h0.n 0)]) (λ_ h=>∃w,HI h0 [p] h [(p,PK.cells s K),(h0.n,[.str t1,.str [],.ao,.bq,.bq,.ao,.bq,.one w,.bq])]) O (λ_ J=>?_) (λhb J=>?_) ?_
 .exact an [2,1,2,1] H O λh H _=>J () O ⟨_,H.take (k:=2)⟩
 .obtain rfl:t1=[]:=by simpa using hb
  exact jK 1 [.str [],.str [],.ao,.bq,.bq,.ao,.bq,.one .bq,.bq] H O O (qa 7 _) λh H _=>ah H O λh H _=>J () O ⟨_,H.take (k:=2)⟩
 clear H;rintro⟨⟩ h ⟨_,H⟩;refine aX [] [] H hT P O O call67 (λ_=>cH R) ?_;rintro _ h K H P ⟨k3,v3,_,_,_,_,_,rfl,AO⟩;obtain⟨K,_,rfl⟩:=P.Xd;refine aX [] [0,1] H hT P O O call66 (λ_=>aL R) ?_;rintro _ h K H P ⟨q4,rfl⟩;refine aX [] [1] H hT P O O call114 (λ_=>aI R) ?_;rintro _ h K H P ⟨YI,rfl,lK⟩;refine aX [] [1] H hT P O O call113 (λ_ S=>dQ (k:=8) R S (by omega)) ?_;rintro _ h K H P ⟨_,_,_,_,_,_,_,_,rfl,_,_⟩;refine aX [] [] H hT P O O call185 (λ_=>Cg R 1001 0 O) ?_;rintro _ h K H P ⟨z7,rfl,VI⟩;refine an [1] H O λh H _=>ae O call116 (eX (k:=9) R (PB.bU H hT P) (by omega)) ?_;rintro _ _ ⟨kp,y8,o8,rfl,JP,⟨_,_,K,hg,P,_⟩⟩;replace H:=H.aA kp hg;refine ah H O λh H _=>af O (λlv=>?_) λlv=>?_
 .subst lv;refine aX [] [] H hT P O O call186 (λ_=>Cj R 1001 0 O) ?_;rintro _ h K H P ⟨z10,rfl,Sn⟩;refine aX [] [1] H hT P O O call109 (λ_=>cP R) ?_;rintro _ h K H P ⟨z11,rfl,YJ,So⟩;exact an [1] H O λh H _=>ab [] H O (bR.mm 0 [2] H hT P ho O ((nx λ_ _=>nx λ_ _=>nx λ_ _=>nx λ_ _=>nx λ_ _=>nx λ_ _=>nz).trans (by rw[(lu JP)])) (Gd.te <| lK.te <| .tn λ_=>VI.th λ_ w7=> .tS (lu JP) (tH JP Sn) λ_ w8=>So.th λ_ YK=> .tr ⟨_,_,_,_,_,O,.nil,w8,w7,YK⟩))
 .subst lv;refine aX [] [] H hT P O O call109 (λ_=>cP R) ?_;rintro _ h K H P ⟨z12,rfl,VJ,MJ⟩;exact an [1] H O λh H _=>ab [] H O (bR.mm 0 [2,3] H hT P ho O ((nx λ_ _=>nx λ_ _=>nx λ_ _=>nx λ_ _=>nx λ_ _=>nx λ_ _=>nz).trans (by rw[(mQ JP)])) (Gd.te <| lK.te <| .tn λ_=>VI.th λ_ w7=> .tS (mQ JP) (vG JP) λ_ w8=>MJ.th λ_ KX=> .tr ⟨_,_,_,_,_,O,.nil,w8,w7,KX⟩))
theorem vH (R:cM L) (S:PB L b h0 p s o 0):al prog 115 [.ptr p 0] h0 (λv h'=>Kp [p] h0 h'/\PB L false h' p s (((ca 5 6 ij).on o).map (·.2)) 0/\∃z,v= .one z/\FH z/\dO ((ca 5 6 ij).on o) λa=>my qT a z):=by
 obtain⟨ho,hT,K,hg,P,hp⟩:=S;have sw:∀l,o=some l->l.length<=1048578:=λl e=>(P.len R e).1
 refine az (n:=8) (rs:=[.tmp 2]) [] ⟨func115,O,O,O⟩ O <| have H:=HI.one hg ho;aS [1] [] H O λh H Y=>?_;have hB:=H.jM;have gX:=H.hv.1.2.2 _ (List.mem_cons_self ..);simp only at gX;refine ae O call110 (lZ (sk:=5) (ek:=6) (m:=h0.nt) (ids:=[p,_]) R ij mN call157 (by simp) (rz (PE qT) h0 _ (λx=>[x])) (λ_=>lq gX) (λ_=>ir) (λb l bs h S j jN hm=>Xg.1 (GW R) gX S j jN) (PB.of H hT P hp) (by omega) (by omega) ⟨hB.2,H.kp.nt,.ao,[],hB.1,.inl ⟨O,O⟩,λbs e=>by injection e with e;subst e;trivial⟩ H.kp.nt) ?_
 rintro x h2 ⟨kp,⟨_,_,K4,jj,P4,AJ⟩,⟨_,_,x,es,pD,G,hl⟩,q,rfl⟩;replace H:=H.oz kp jj pD;refine fm 1 [.one x] H O O ⟨.one _,trivial⟩ λh H Y=>aS [1] [1] H O λh H Y=>ab [] H O ⟨H.kp,PB.bU H hT P4,x,O,⟨_,G.elems⟩,λa l' e=>?_⟩;have hl:=hl a (by rw[e];rfl);refine G.sl hl ?_;rw[hl.len]
 cases o with|none=>cases e|some l=>have:=lI mN e;have:=sw l O;omega
theorem JR (R:cM L) (S:PB L b h0 p s o 0):al prog 179 [.ptr p 0] h0 (iN L p s 0 h0 ((lX).on o) GS):=by
 refine bR.done ?_;obtain⟨ho,hT,K,hg,P,hp⟩:=S;refine az (n:=40) (rs:=[.tmp 2]) [] ⟨func179,O,O,O⟩ O <| have H:=HI.one hg ho;ah H O λh H _=>ae O call68 (de R (PB.bU H hT P)) ?_;rintro _ _ ⟨t1,_,_,K,rfl,kp,hg,P,Gd,_⟩;replace H:=H.aA kp hg;refine an [2,2] H O λh H _=>lC 40 (λ_:Unit=>[(0,.ptr p 0),(3,.ptr h0.n 0)]) (λ_ h=>∃w,HI h0 [p] h [(p,PK.cells s K),(h0.n,[.str t1,.str [],.ao,.bq,.bq,.ao,.bq,.one w,.bq])]) O (λ_ J=>?_) (λhb J=>?_) ?_
 .exact an [2,1,2,1] H O λh H _=>J () O ⟨_,H.take (k:=2)⟩
 .obtain rfl:t1=[]:=by simpa using hb
  exact jK 1 [.str [],.str [],.ao,.bq,.bq,.ao,.bq,.one .bq,.bq] H O O (qa 7 _) λh H _=>ah H O λh H _=>J () O ⟨_,H.take (k:=2)⟩
 clear H;rintro⟨⟩ h ⟨_,H⟩;refine aX [] [] H hT P O O call67 (λ_=>cH R) ?_;rintro _ h K H P ⟨k3,v3,_,_,_,_,_,rfl,AO⟩;obtain⟨K,_,rfl⟩:=P.Xd;refine aX [] [0,1] H hT P O O call66 (λ_=>aL R) ?_;rintro _ h K H P ⟨q4,rfl⟩;refine aX [] [1] H hT P O O call114 (λ_=>aI R) ?_;rintro _ h K H P ⟨YI,rfl,lK⟩;refine aX [] [1] H hT P O O call115 (λ_=>vH R) ?_;rintro _ h K H P ⟨z6,rfl,FI,zN⟩;refine aX [] [1] H hT P O O call113 (λ_ S=>dQ (k:=8) R S (by omega)) ?_;rintro _ h K H P ⟨_,_,_,_,_,_,_,_,rfl,_,_⟩;refine aX [] [] H hT P O O call185 (λ_=>Cg R 1001 0 O) ?_;rintro _ h K H P ⟨z8,rfl,hz8⟩;refine aX [] [1] H hT P O O call109 (λ_=>cP R) ?_;rintro _ h K H P ⟨z9,rfl,hE9,hz9⟩;exact an [1] H O λh H _=>ab [] H O (bR.mm 0 [3] H hT P ho O (nx λ_ _=>nx λ_ _=>nx λ_ _=>nx λ_ _=>nx λ_ _=>nx λ_ _=>nz) (Gd.te <| lK.te <| zN.th λ_ w6=> .tn λ_=>hz8.th λ_ w8=>hz9.th λ_ w9=> .tr ⟨_,_,_,_,_,O,w6,.inl ⟨O,O⟩,w8,w9⟩))
theorem oB (R:cM L) (S:PB L b h0 p s o 0):al prog 151 [.ptr p 0] h0 (λv h'=>Kp [p] h0 h'/\PB L false h' p s (((ca 13 14 lX).on o).map (·.2)) 0/\∃z q,v= .cN [.one z,.one q]/\FH z/\dO ((ca 13 14 lX).on o) λa=>my GS a z):=by
 obtain⟨ho,hT,K,hg,P,hp⟩:=S;have sw:∀l,o=some l->l.length<=1048578:=λl e=>(P.len R e).1
 refine az (n:=11) (rs:=[.tmp 2,.tmp 3]) [] ⟨func151,O,O,O⟩ O <| have H:=HI.one hg ho;aS [1] [] H O λh H Y=>?_;have hB:=H.jM;have gX:=H.hv.1.2.2 _ (List.mem_cons_self ..);simp only at gX;refine ae O call110 (lZ (sk:=13) (ek:=14) (m:=h0.nt) (ids:=[p,_]) R lX ow call178 (by simp) (rz (PE GS) h0 _ (λx=>[x])) (λ_=>lq gX) (λ_=>ir) (λb l bs h S j jN hm=>Xg.2.1 (JR R) gX S j jN) (PB.of H hT P hp) (by omega) (by omega) ⟨hB.2,H.kp.nt,.ao,[],hB.1,.inl ⟨O,O⟩,λbs e=>by injection e with e;subst e;trivial⟩ H.kp.nt) ?_
 rintro x h2 ⟨kp,⟨_,_,K4,jj,P4,AJ⟩,⟨_,_,x,es,pD,G,hl⟩,q,rfl⟩;replace H:=H.oz kp jj pD;refine fm 1 [.one x] H O O ⟨.one _,trivial⟩ λh H Y=>aS [1] [1] H O λh H Y=>ab [] H O ⟨H.kp,PB.bU H hT P4,x,q,O,⟨_,G.elems⟩,λa l' e=>?_⟩;have hl:=hl a (by rw[e];rfl);refine G.sl hl ?_;rw[hl.len]
 cases o with|none=>cases e|some l=>have:=lI ow e;have:=sw l O;omega
theorem MK (R:cM L) (S:PB L b h0 p s o 0):al prog 181 [.ptr p 0] h0 (iN L p s 0 h0 ((pZ).on o) Ix):=by
 refine bR.done ?_;obtain⟨ho,hT,K,hg,P,hp⟩:=S;refine az (n:=32) (rs:=[.tmp 2]) [] ⟨func181,O,O,O⟩ O <| have H:=HI.one hg ho;ah H O λh H _=>ae O call68 (de R (PB.bU H hT P)) ?_;rintro _ _ ⟨t1,_,_,K,rfl,kp,hg,P,Gd,_⟩;replace H:=H.aA kp hg;refine an [2,2] H O λh H _=>lC 32 (λ_:Unit=>[(0,.ptr p 0),(3,.ptr h0.n 0)]) (λ_ h=>∃w,HI h0 [p] h [(p,PK.cells s K),(h0.n,[.str t1,.str [],.ao,.bq,.one w,.bq])]) O (λ_ J=>?_) (λhb J=>?_) ?_
 .exact an [2,1,2,1] H O λh H _=>J () O ⟨_,H.take (k:=2)⟩
 .obtain rfl:t1=[]:=by simpa using hb
  exact jK 1 [.str [],.str [],.ao,.bq,.one .bq,.bq] H O O (qa 4 _) λh H _=>ah H O λh H _=>J () O ⟨_,H.take (k:=2)⟩
 clear H;rintro⟨⟩ h ⟨_,H⟩;refine aX [] [] H hT P O O call67 (λ_=>cH R) ?_;rintro _ h K H P ⟨k3,v3,_,_,_,_,_,rfl,AO⟩;obtain⟨K,_,rfl⟩:=P.Xd;refine aX [] [0,1] H hT P O O call66 (λ_=>aL R) ?_;rintro _ h K H P ⟨q4,rfl⟩;refine aX [] [1] H hT P O O call114 (λ_=>aI R) ?_;rintro _ h K H P ⟨YI,rfl,lK⟩;refine aX [] [1] H hT P O O call109 (λ_=>cP R) ?_;rintro _ h K H P ⟨z6,rfl,FI,zN⟩;exact an [1] H O λh H _=>ab [] H O (bR.mm 0 [] H hT P ho O (nx λ_ _=>nx λ_ _=>nx λ_ _=>nz) (Gd.te <| lK.te <| zN.th λ_ w6=> .tr ⟨_,_,O,w6⟩))
theorem AP (R:cM L) (S:PB L b h0 p s o 0):al prog 153 [.ptr p 0] h0 (λv h'=>Kp [p] h0 h'/\PB L false h' p s (((ca 13 14 pZ).on o).map (·.2)) 0/\∃z q,v= .cN [.one z,.one q]/\FH z/\dO ((ca 13 14 pZ).on o) λa=>my Ix a z):=by
 obtain⟨ho,hT,K,hg,P,hp⟩:=S;have sw:∀l,o=some l->l.length<=1048578:=λl e=>(P.len R e).1
 refine az (n:=11) (rs:=[.tmp 2,.tmp 3]) [] ⟨func153,O,O,O⟩ O <| have H:=HI.one hg ho;aS [1] [] H O λh H Y=>?_;have hB:=H.jM;have gX:=H.hv.1.2.2 _ (List.mem_cons_self ..);simp only at gX;refine ae O call110 (lZ (sk:=13) (ek:=14) (m:=h0.nt) (ids:=[p,_]) R pZ qS call180 (by simp) (rz (PE Ix) h0 _ (λx=>[x])) (λ_=>lq gX) (λ_=>ir) (λb l bs h S j jN hm=>Xg.2.2.1 (MK R) gX S j jN) (PB.of H hT P hp) (by omega) (by omega) ⟨hB.2,H.kp.nt,.ao,[],hB.1,.inl ⟨O,O⟩,λbs e=>by injection e with e;subst e;trivial⟩ H.kp.nt) ?_
 rintro x h2 ⟨kp,⟨_,_,K4,jj,P4,AJ⟩,⟨_,_,x,es,pD,G,hl⟩,q,rfl⟩;replace H:=H.oz kp jj pD;refine fm 1 [.one x] H O O ⟨.one _,trivial⟩ λh H Y=>aS [1] [1] H O λh H Y=>ab [] H O ⟨H.kp,PB.bU H hT P4,x,q,O,⟨_,G.elems⟩,λa l' e=>?_⟩;have hl:=hl a (by rw[e];rfl);refine G.sl hl ?_;rw[hl.len]
 cases o with|none=>cases e|some l=>have:=lI qS e;have:=sw l O;omega
theorem xZ (R:cM L) (S:PB L b h0 p s o 0):al prog 154 [.ptr p 0] h0 (λv h'=>Kp [p] h0 h'/\PB L false h' p s (((ca 13 14 ou).on o).map (·.2)) 0/\∃z q,v= .cN [.one z,.one q]/\FH z/\dO ((ca 13 14 ou).on o) λa=>my GS a z):=by
 obtain⟨ho,hT,K,hg,P,hp⟩:=S;have sw:∀l,o=some l->l.length<=1048578:=λl e=>(P.len R e).1
 refine az (n:=11) (rs:=[.tmp 2,.tmp 3]) [] ⟨func154,O,O,O⟩ O <| have H:=HI.one hg ho;aS [1] [] H O λh H Y=>?_;have hB:=H.jM;have gX:=H.hv.1.2.2 _ (List.mem_cons_self ..);simp only at gX;refine ae O call110 (lZ (sk:=13) (ek:=14) (m:=h0.nt) (ids:=[p,_]) R ou ss call182 (by simp) (rz (PE GS) h0 _ (λx=>[x])) (λ_=>lq gX) (λ_=>ir) (λb l bs h S j jN hm=>Xg.2.2.2 (JQ R) gX S j jN) (PB.of H hT P hp) (by omega) (by omega) ⟨hB.2,H.kp.nt,.ao,[],hB.1,.inl ⟨O,O⟩,λbs e=>by injection e with e;subst e;trivial⟩ H.kp.nt) ?_
 rintro x h2 ⟨kp,⟨_,_,K4,jj,P4,AJ⟩,⟨_,_,x,es,pD,G,hl⟩,q,rfl⟩;replace H:=H.oz kp jj pD;refine fm 1 [.one x] H O O ⟨.one _,trivial⟩ λh H Y=>aS [1] [1] H O λh H Y=>ab [] H O ⟨H.kp,PB.bU H hT P4,x,q,O,⟨_,G.elems⟩,λa l' e=>?_⟩;have hl:=hl a (by rw[e];rfl);refine G.sl hl ?_;rw[hl.len]
 cases o with|none=>cases e|some l=>have:=lI ss e;have:=sw l O;omega
end
end
section
attribute [local irreducible] aU cK bE aQ
section
variable {L:ak->Nat->Option (Int×ak×Nat)} {s:ak} {K:PK} {o o':Option (List Tok)} {d p B:Nat} {h h0 h1 hb:AH} {ids:List Nat} {V:View} {l:List Tok} {b c:Bool} {k:Nat}
def vI (h0 h:AH) (x:AV) (es:List (List AV)):Prop:=aG h0 h 1 x es\/x= .vec .full 1 es
theorem vI.kp {x:AV} {es:List (List AV)} (g:vI hb h x es) (k:Kp ids h h1):vI hb h1 x es:=g.imp (λg=>g.kp k) id
theorem vI.eq {x:AV} {es:List (List AV)} (g:vI hb h x es) (e1:h1.nt=h.nt) (e2:h1.bV=h.bV):vI hb h1 x es:=g.imp (λg=>g.eq e1 e2) id
instance {h h':AH} {hb:AH} {x:AV} {es:List (List AV)}:Nx h h' (vI hb h x es) (vI hb h' x es):=⟨λg=>g.eq⟩
instance {h h':AH} {hb:AH} {x:AV} {es:List (List AV)}:Nx h h' (vI hb h x es) (vI hb h' x es):=⟨λg=>g.eq⟩
theorem vI.form {x:AV} {es:List (List AV)} (g:vI hb h x es):x= .ao\/∃tk,x= .vec tk 1 es:=g.elim (λg=>g.form) λe=> .inr ⟨_,e⟩
theorem vI.cells {x:AV} {es:List (List AV)} (g:vI hb h x es):x.cells=some [x]:=by rcases g.form with rfl|⟨tk,rfl⟩<;>rfl
theorem vI.ele {x:AV} {es:List (List AV)} (g:vI hb h x es):FH x:=by
 rcases g with g|rfl
 .exact⟨_,g.elems⟩
 .exact⟨_,O⟩
theorem vI.sl {α:Type} {Rl:α->List AV->Prop} {x:AV} {es:List (List AV)} {l:List α} (g:vI hb h x es) (hR:bx Rl l es) (hB:es.length<=4294967296):RU 1 (bx Rl l) x:=by
 rcases g with g|rfl
 .exact g.sl hR hB
 .exact .inr ⟨_,es,O,hB,hR⟩
theorem HK {P:Program} {lt:LT} {C:Exit->ay->AH->Prop} {fr:ay} {ks:List Kt} {o:Oper} {ops l:List Oper} {D:List Nat} {s x:Operand} {t:TypeId} {gl:Nat} {xs y:AV} {es ys:List (List AV)} {d:Tmp} (H:HI h0 ids h V) (ha:cD o.op=some (s,x,t)) (hw:au ops fr o.guard=some true) (hi:cC P t=some (1,gl))
 (kN:fr.ev s= .v xs) (ex:fr.ev x= .v y) (hy:aY 1 y=some ys) (cv:ys≠[]) (hd:o.dst=some d) (hG:vI h0 h xs es) (dK:(es.length+ys.length)*(gl+1)<=140737488355328)
 (T:∀x' h',HI h0 ids h' V->vI h0 h' x' (es++ys)->h'.n=h.n->h'.nt≥h.nt->(∀b x2 lT,aG h0 h 1 x2 lT->b=true->True)->XS P lt C (.ops ops l D) ks (fr.bf d (.v x')) h'):XS P lt C (.ops ops (o::l) D) ks fr h:=by
 rcases hG with hG|rfl
 .obtain⟨aw,v,h',st,k1,k2,k3,k4,k5,k6⟩:=Iv (lt:=lt) H.kp.nt ha hw hi kN ex hy cv hG dK;refine AL.jr st ?_;rw[hd];refine T _ h' ⟨HV.of (λe he=>?_) H.hv.nodup,⟨by rw[k1];exact H.kp.n,λk hk hi=>by rw[k2];exact H.kp.get k hk hi,Nat.le_trans H.kp.nt k4,λl hl=>(k5 l hl).trans (H.kp.bV l hl),k3.trans H.kp.aV⟩,H.new⟩ (.inl k6) k1 k4 (λ_ _ _ _ _=>trivial);obtain⟨q1,q2⟩:=H.hv.get he;exact⟨by rw[k2];exact q1,by rw[k1];exact q2⟩
 .have wC:=H.kp.nt
  refine AL.jr (ag.app ha hw hi kN ex (.inr (.inl ⟨O,O,O,O⟩)) hy cv dK) ?_;rw[hd];refine T _ h.cu ⟨HV.of (λe he=>?_) H.hv.nodup,⟨H.kp.n,λk hk hi=>H.kp.get k hk hi,Nat.le_trans H.kp.nt (Nat.le_succ _),λl hl=>?_,H.kp.aV⟩,H.new⟩ (.inl (.inr ⟨h.nt,0,.inl O,wC,Nat.lt_succ_self _,?_⟩)) O (Nat.le_succ _) (λ_ _ _ _ _=>trivial)
  .exact H.hv.get he
  .have uB:l <h.nt:=Nat.lt_of_lt_of_le hl wC
   simp only[AH.cu];rw[beq_false_of_ne (by omega)];exact H.kp.bV l hl
  .simp only[AH.cu];rw[cU]
theorem eC {nm:ak} (hz:dO (ar.on o) λa=>nm=a) (hm:nm∈mJ):eE.on o=ar.on o:=by
 unfold eE;rw[mO]
 cases hx:ar.on o with
 |none=>rfl
 |some y=>
  have:=hz _ _ hx
  subst this;simp only[if_pos hm,Sj];rfl
theorem Sq {nm:ak} (hz:dO (ar.on o) λa=>nm=a) (hm:¬ nm∈mJ):eE.on o=none:=by
 unfold eE;rw[mO]
 cases hx:ar.on o with
 |none=>rfl
 |some y=>
  have:=hz _ _ hx
  subst this;simp only[if_neg hm]
  try rfl
theorem IA (R:cM L) (S:PB L b h0 p s o 0):al prog 159 [.ptr p 0] h0 (λv h'=>Kp [p] h0 h'/\PB L false h' p s ((eE.on o).map (·.2)) 0/\∃n,v= .str n/\dO (eE.on o) λa=>n=a):=by
 obtain⟨ho,hT,K,hg,P,hp⟩:=S;refine az (n:=55) (rs:=[.tmp 2]) [] ⟨func159,O,O,O⟩ O <| have H:=HI.one hg ho;ah H O λh H Y=>?_;refine ae O call113 (dQ (k:=16) R (PB.bU H hT P) (by omega)) ?_;rintro x h2 ⟨kp,⟨_,_,K1,eM,P1,dJ⟩,k1,nm,q1,q2,q3,q4,sr,q,rfl,hz,Cb⟩;replace H:=H.aA kp eM;have yes:∀w,w∈mJ->nm=w->PB L false h0 p s o 0->True:=λ_ _ _ _=>trivial
 clear yes;refine an [1,1] H O λh H Y=>af O (λwk=>?_) λwk=>?_
 .refine ah H O λh H Y=>?_;have hm:nm=qP:=by simpa using wk
  have e:=eC hz (by rw[hm];decide);refine ab [] H O ⟨H.kp,by rw[e];exact PB.bU H hT P1,qP,O,?_⟩;rw[e,<-hm];exact hz
 refine ah H O λh H Y=>af O (λej=>?_) λej=>?_
 .refine ah H O λh H Y=>?_;have hm:nm=j2:=by simpa using ej
  have e:=eC hz (by rw[hm];decide);refine ab [] H O ⟨H.kp,by rw[e];exact PB.bU H hT P1,j2,O,?_⟩;rw[e,<-hm];exact hz
 refine ah H O λh H Y=>af O (λaT=>?_) λaT=>?_
 .refine ah H O λh H Y=>?_;have hm:nm=fN:=by simpa using aT
  have e:=eC hz (by rw[hm];decide);refine ab [] H O ⟨H.kp,by rw[e];exact PB.bU H hT P1,fN,O,?_⟩;rw[e,<-hm];exact hz
 refine ah H O λh H Y=>af O (λbZ=>?_) λbZ=>?_
 .refine ah H O λh H Y=>?_;have hm:nm=qQ:=by simpa using bZ
  have e:=eC hz (by rw[hm];decide);refine ab [] H O ⟨H.kp,by rw[e];exact PB.bU H hT P1,qQ,O,?_⟩;rw[e,<-hm];exact hz
 refine ah H O λh H Y=>af O (λgp=>?_) λgp=>?_
 .refine ah H O λh H Y=>?_;have hm:nm=cR:=by simpa using gp
  have e:=eC hz (by rw[hm];decide);refine ab [] H O ⟨H.kp,by rw[e];exact PB.bU H hT P1,cR,O,?_⟩;rw[e,<-hm];exact hz
 refine ah H O λh H Y=>af O (λkH=>?_) λkH=>?_
 .refine ah H O λh H Y=>?_;have hm:nm=eu:=by simpa using kH
  have e:=eC hz (by rw[hm];decide);refine ab [] H O ⟨H.kp,by rw[e];exact PB.bU H hT P1,eu,O,?_⟩;rw[e,<-hm];exact hz
 refine ah H O λh H Y=>af O (λfS=>?_) λfS=>?_
 .refine ah H O λh H Y=>?_;have hm:nm=eA:=by simpa using fS
  have e:=eC hz (by rw[hm];decide);refine ab [] H O ⟨H.kp,by rw[e];exact PB.bU H hT P1,eA,O,?_⟩;rw[e,<-hm];exact hz
 refine ah H O λh H Y=>af O (λfU=>?_) λfU=>?_
 .refine ah H O λh H Y=>?_;have hm:nm=cS:=by simpa using fU
  have e:=eC hz (by rw[hm];decide);refine ab [] H O ⟨H.kp,by rw[e];exact PB.bU H hT P1,cS,O,?_⟩;rw[e,<-hm];exact hz
 refine ah H O λh H Y=>af O (λoY=>?_) λoY=>?_
 .refine ah H O λh H Y=>?_;have hm:nm=nR:=by simpa using oY
  have e:=eC hz (by rw[hm];decide);refine ab [] H O ⟨H.kp,by rw[e];exact PB.bU H hT P1,nR,O,?_⟩;rw[e,<-hm];exact hz
 refine ah H O λh H Y=>af O (λlv=>?_) λlv=>?_
 .refine ah H O λh H Y=>?_;have hm:nm=gS:=by simpa using lv
  have e:=eC hz (by rw[hm];decide);refine ab [] H O ⟨H.kp,by rw[e];exact PB.bU H hT P1,gS,O,?_⟩;rw[e,<-hm];exact hz
 refine ah H O λh H Y=>af O (λCk=>?_) λCk=>?_
 .refine ah H O λh H Y=>?_;have hm:nm=eJ:=by simpa using Ck
  have e:=eC hz (by rw[hm];decide);refine ab [] H O ⟨H.kp,by rw[e];exact PB.bU H hT P1,eJ,O,?_⟩;rw[e,<-hm];exact hz
 refine ah H O λh H Y=>af O (λGO=>?_) λGO=>?_
 .refine ah H O λh H Y=>?_;have hm:nm=dP:=by simpa using GO
  have e:=eC hz (by rw[hm];decide);refine ab [] H O ⟨H.kp,by rw[e];exact PB.bU H hT P1,dP,O,?_⟩;rw[e,<-hm];exact hz
 refine ah H O λh H Y=>af O (λSr=>?_) λSr=>?_
 .refine ah H O λh H Y=>?_;have hm:nm=cT:=by simpa using Sr
  have e:=eC hz (by rw[hm];decide);refine ab [] H O ⟨H.kp,by rw[e];exact PB.bU H hT P1,cT,O,?_⟩;rw[e,<-hm];exact hz
 refine ah H O λh H Y=>af O (λGP=>?_) λGP=>?_
 .refine ah H O λh H Y=>?_;have hm:nm=cp:=by simpa using GP
  have e:=eC hz (by rw[hm];decide);refine ab [] H O ⟨H.kp,by rw[e];exact PB.bU H hT P1,cp,O,?_⟩;rw[e,<-hm];exact hz
 refine ah H O λh H Y=>af O (λSs=>?_) λSs=>?_
 .refine ah H O λh H Y=>?_;have hm:nm=jw:=by simpa using Ss
  have e:=eC hz (by rw[hm];decide);refine ab [] H O ⟨H.kp,by rw[e];exact PB.bU H hT P1,jw,O,?_⟩;rw[e,<-hm];exact hz
 refine ah H O λh H Y=>af O (λSu=>?_) λSu=>?_
 .refine ah H O λh H Y=>?_;have hm:nm=lV:=by simpa using Su
  have e:=eC hz (by rw[hm];decide);refine ab [] H O ⟨H.kp,by rw[e];exact PB.bU H hT P1,lV,O,?_⟩;rw[e,<-hm];exact hz
 refine ah H O λh H Y=>af O (λxX=>?_) λxX=>?_
 .refine ah H O λh H Y=>?_;have hm:nm=ig:=by simpa using xX
  have e:=eC hz (by rw[hm];decide);refine ab [] H O ⟨H.kp,by rw[e];exact PB.bU H hT P1,ig,O,?_⟩;rw[e,<-hm];exact hz
 refine ah H O λh H Y=>af O (λGQ=>?_) λGQ=>?_
 .refine ah H O λh H Y=>?_;have hm:nm=cG:=by simpa using GQ
  have e:=eC hz (by rw[hm];decide);refine ab [] H O ⟨H.kp,by rw[e];exact PB.bU H hT P1,cG,O,?_⟩;rw[e,<-hm];exact hz
 refine ah H O λh H Y=>af O (λGR=>?_) λGR=>?_
 .refine ah H O λh H Y=>?_;have hm:nm=cl:=by simpa using GR
  have e:=eC hz (by rw[hm];decide);refine ab [] H O ⟨H.kp,by rw[e];exact PB.bU H hT P1,cl,O,?_⟩;rw[e,<-hm];exact hz
 refine ah H O λh H Y=>af O (λzM=>?_) λzM=>?_
 .refine ah H O λh H Y=>?_;have hm:nm=bL:=by simpa using zM
  have e:=eC hz (by rw[hm];decide);refine ab [] H O ⟨H.kp,by rw[e];exact PB.bU H hT P1,bL,O,?_⟩;rw[e,<-hm];exact hz
 refine an [1] H O λh H Y=>?_;have hm:¬ nm∈mJ:=by simp only[mJ,List.mem_cons,List.not_mem_nil,or_false,not_or];refine⟨by simpa using wk,by simpa using ej,by simpa using aT,by simpa using bZ,by simpa using gp,by simpa using kH,by simpa using fS,by simpa using fU,by simpa using oY,by simpa using lv,by simpa using Ck,by simpa using GO,by simpa using Sr,by simpa using GP,by simpa using Ss,by simpa using Su,by simpa using xX,by simpa using GQ,by simpa using GR,by simpa using zM⟩
 have e:=Sq hz hm;refine ae O call73 (fL (PB.bU H hT P1) Cb) ?_;rintro x h2 ⟨kp,⟨_,_,K2,bI,P2,iy⟩,rfl⟩;replace H:=H.aA kp bI;refine ah H O λh H Y=>?_;exact ab [] H O ⟨H.kp,by rw[e];exact PB.bU H hT P2,_,O,by rw[e];intro a l q;cases q⟩
theorem uR {α:Type} {g:Pa α} {k:Nat} {q:Option (List Tok)} (hk:((bB k).on o).map (·.2)=q):((dv g k).on o).map (·.2)=((bE g k dX).on ((g.on q).map (·.2))).map (·.2):=by subst hk;unfold dv;exact Ci (x:=bB k) (λo=>((bE g k dX).on ((g.on o).map (·.2))).map (·.2)) O λa r=>Ci (x:=g) (λo=>((bE g k dX).on o).map (·.2)) O λa r=>mP
theorem uS {α:Type} {g:Pa α} {k:Nat} {q:Option (List Tok)} {a:List α} {l:List Tok} (hk:((bB k).on o).map (·.2)=q) (h:(dv g k).on o=some (a,l)):∃a1 r1 cs,g.on q=some (a1,r1)/\a=a1::cs/\(bE g k dX).on ((g.on q).map (·.2))=some (cs,l):=by
 obtain⟨a0,r0,e0,e⟩:=cx (x:=bB k) h;have s0:q=some r0:=by rw[<-hk,e0];rfl
 obtain⟨a1,r1,e1,e⟩:=cx (x:=g) e;rw[<-s0]at e1;obtain⟨a2,r2,e2,e⟩:=cx (x:=bE g k dX) e;injection e with e
 injection e with e3 e4
 subst e3 e4;exact⟨a1,r1,a2,e1,O,by rw[e1];exact e2⟩
theorem rv.snd {y:Bool} {q:Option (List Tok)} (hk:2<=k) (hh:rv L k o y q):((bB k).on o).map (·.2)=q:=by rw[hh.eq hk];cases q<;>rfl
theorem x6 (R:cM L) (S:PB L b h0 p s o 0):al prog 117 [.ptr p 0] h0 (λv h'=>Kp [p] h0 h'/\PB L false h' p s (((dv eE 15).on o).map (·.2)) 0/\∃z,v= .one z/\FH z/\dO ((dv eE 15).on o) λa=>my rA a z):=by
 refine al.one (Q:=λv h'=>(v.cells=some [v]/\FH v)/\Kp [p] h0 h'/\PB L false h' p s (((dv eE 15).on o).map (·.2)) 0/\dO ((dv eE 15).on o) λa=>my rA a v) ?_ (λv h' q=>q.1.1) (λv h' q=>⟨q.2.1,q.2.2.1,v,O,q.1.2,q.2.2.2⟩);obtain⟨ho,hT,K,hg,P,hp⟩:=S;refine az (n:=24) (rs:=[.tmp 2]) [] ⟨func117,O,O,O⟩ O <| have H:=HI.one hg ho;ah H O λh H Y=>?_;refine ae O call116 (eX (k:=15) R (PB.bU H hT P) (by omega)) ?_;rintro x h2 ⟨kp,y,q,rfl,hh,⟨_,_,K1,eM,P1,dJ⟩⟩;replace H:=H.aA kp eM;have Q6:((dv eE 15).on o).map (·.2)=((bE eE 15 dX).on ((eE.on q).map (·.2))).map (·.2):=uR (hh.snd (by omega));have Q7:∀{a l},(dv eE 15).on o=some (a,l)->∃a1 r1 cs,eE.on q=some (a1,r1)/\a=a1::cs/\(bE eE 15 dX).on ((eE.on q).map (·.2))=some (cs,l):=λe=>uS (hh.snd (by omega)) e
 refine ah H O λh H Y=>ae O call159 (IA R (PB.bU H hT P1)) ?_;rintro x h2 ⟨kp,⟨_,_,K2,bI,PX,iy⟩,n0,rfl,zf⟩;replace H:=H.aA kp bI;generalize zj:(eE.on q).map (·.2)=oX at PX Q6 Q7;refine ah H O λh H Y=>have G:vI h0 h (.vec .full 1 [[.str n0]]) [[.str n0]]:= .inr O;aC 24 (λx:Option (List Tok)×Option (List ak)×AV×List (List AV)=>match x.1 with|none=>0|some l=>l.length+1)
  (λx=>[(0,.ptr p 0),(3,x.2.2.1)])
  (λx h'=>∃K,HI h0 [p] h' [(p,K.cells s)]/\PR L s K x.1 0/\vI h0 h' x.2.2.1 x.2.2.2/\(∀bs,x.2.1=some bs->bx (PE rA) bs x.2.2.2)/\((x.1=none/\(bE eE 15 dX).on oX=none)\/∃l0 bs,oX=some l0/\tF eE 15 l0 x.1 bs/\x.2.1=bs.map λbs=>n0::bs))
  (λx:Option (List Tok)×Option (List ak)×AV×List (List AV)=>[(0,.ptr p 0),(3,x.2.2.1)])
  (λx h'=>∃K,HI h0 [p] h' [(p,K.cells s)]/\PR L s K x.1 0/\vI h0 h' x.2.2.1 x.2.2.2/\(∀bs,x.2.1=some bs->bx (PE rA) bs x.2.2.2)/\((x.1=none/\(bE eE 15 dX).on oX=none)\/∃l' bs,x.1=some l'/\(bE eE 15 dX).on oX=some (bs,l')/\x.2.1=some (n0::bs)))
  (oX,some [n0],.vec .full 1 [[.str n0]],[[.str n0]]) O ⟨_,H,PX,G,λbs e=>by injection e with e;subst e;exact⟨⟨_,O,O⟩,trivial⟩,?_⟩ ?_ ?_
 .cases zj:oX with|none=>exact .inl ⟨O,O⟩|some l=>exact .inr ⟨l,some [],O,tF.start (PX.len R zj).1,O⟩
 .clear H G;rintro⟨o1,acc,x,es⟩ h ⟨K,H,P,G,hl,lp⟩ again done;simp only at P G hl lp;refine aH H G O λh H G Y=>ae O call116 (eX (k:=15) R (PB.bU H hT P) (by omega)) ?_;rintro y h2 ⟨kp,y,o2,rfl,hh,⟨_,_,K1,eM,P1,dJ⟩⟩;replace H:=H.aA kp eM;replace G:=G.kp kp;refine aH H G O λh H G Y=>?_
  cases y with
  |true=>
   obtain⟨l1,rfl,zI,rfl⟩:=hh.1 O;have hy:=(P1.so _ O).1;obtain⟨st,a,e,b_,c_,d',er,pk,k0,v0,p1,pr,r1,t1,pt,pe,k2,v2,p2,pw,r2,t2,fK,rr,cc,tc,dp⟩:=K1;simp only at hy;subst hy;refine aj O (λhb=>?_) (λhb=>by cases hb);refine bm [0,91] H G O λh H G Y=>ae O call159 (IA R (PB.bU H hT P1)) ?_;rintro y h3 ⟨kp,⟨_,_,K3,bF,P3,kO⟩,nm,rfl,hz⟩;replace H:=H.aA kp bF;replace G:=G.kp kp;rw[eB]at P3 hz;rcases lp with⟨e1,_⟩|⟨l0,VK,e1,lp,x8⟩
   .cases e1
   have zL:=lp;obtain⟨n,bs,jN,_,jP,_⟩:=lp;subst jN;subst x8;have hl:=hl _ O;have vF:=hl.len;simp only[List.length_cons]at vF;refine aH H G O λh H G Y=>HK H O O O O O O (by simp) O G ?_ ?_
   .show(es.length+1)*(16+1)<=140737488355328;omega
   clear H;intro x' h H G n_ _ _;refine aH H G O λh H G Y=>have tG:=zL.step p8 zI;again ((eE l1.tail).map (·.2),(eE l1.tail).map (λz=>(n0::bs)++[z.1]),x',es++[[.str nm]]) ?_ O ⟨_,H,P3,G,?_,.inr ⟨l0,(eE l1.tail).map (λz=>bs++[z.1]),e1,?_,?_⟩⟩
   .show(match(eE l1.tail).map (·.2)with|none=>0|some l=>l.length+1) <l1.length+1
    cases hg:eE l1.tail with
    |none=>simp
    |some y=>
     have:=p8 _ _ _ hg
     have:=fw l1
     simp;omega
   .intro cs e;simp only at e
    cases hg:eE l1.tail with
    |none=>rw[hg]at e;cases e
    |some y=>
     rw[hg]at e hz;injection e with e
     subst e;exact hl.append ⟨⟨_,O,by rw[hz _ _ O];rfl⟩,trivial⟩
   .cases hg:eE l1.tail with|none=>rw[hg]at tG;exact tG|some y=>rw[hg]at tG;exact tG
   .cases hg:eE l1.tail<;>rfl
  |false=>
   obtain⟨zI,rfl⟩:=hh.2 O;refine aj O (λhb=>by cases hb) (λhb=>?_);refine bm [90] H G O λh H G Y=>?_;rcases lp with⟨rfl,e2⟩|⟨l0,VK,e1,lp,x8⟩
   .exact done (none,acc,x,es) O ⟨_,H,P1,G,hl,.inl ⟨O,e2⟩⟩
   .cases vZ:o2 with|none=>subst vZ;have e2:=lp.1;exact done (none,acc,x,es) O ⟨_,H,P1,G,hl,.inl ⟨O,by rw[e1];exact e2⟩⟩|some l1=>subst vZ;obtain⟨bs,e2,e3⟩:=lp.stop (zI l1 O);exact done (some l1,acc,x,es) O ⟨_,H,P1,G,hl,.inr ⟨l1,bs,O,by rw[e1];exact e3,by rw[x8,e2];rfl⟩⟩
 .clear H G;rintro⟨o1,acc,x,es⟩ h ⟨K,H,P,G,hl,gW⟩;simp only at P G hl gW;refine aH H G O λh H G Y=>ab [] H O ⟨⟨G.cells,G.ele⟩,H.kp,?p1,?p2⟩
  case p1=>
   rw[Q6];rcases gW with⟨rfl,e2⟩|⟨l',bs,rfl,e2,_⟩
   .rw[e2];exact PB.bU H hT P
   .rw[e2];exact PB.bU H hT P
  case p2=>
   intro a l e;obtain⟨a1,r1,cs,e1,rfl,e5⟩:=Q7 e;rcases gW with⟨rfl,e2⟩|⟨l',bs,rfl,e2,e3⟩
   .rw[e2]at e5
    cases e5
   .rw[e2]at e5;injection e5 with e5
    injection e5 with e6 e7
    subst e6;rw[zf _ _ e1]at e3;have hl:=hl _ e3;refine G.sl hl ?_;rw[hl.len]
    cases zj:oX with|none=>rw[zj]at e2;cases e2|some l0=>rw[zj]at e2;have:=tv p8 15 _ _ _ _ e2;have:=(PX.len R zj).1;simp only[List.length_cons];omega
end
end
section
attribute [local irreducible] aU cK bE aQ
section
variable {L:ak->Nat->Option (Int×ak×Nat)} {s:ak} {K:PK} {o o':Option (List Tok)} {d p B:Nat} {h h0 h1 hb:AH} {ids:List Nat} {V:View} {l:List Tok} {b c:Bool} {k:Nat}
theorem Mm.hd:∀{l:List Tok},Mm l->dN l≠[]->2<=bC l
 |[],h,_=>h.elim
 |[t],h,hv=>absurd h.2 hv
 |t::_::_,h,_=>h.1
theorem ya (h:∀l,o=some l->dN l=br/\2<=bC l):cE.on o=(dv ar 4).on ((la.on o).map (·.2)):=by cases o with|none=>rfl|some l=>obtain⟨h1,h2⟩:=h l rfl;rw[jA h2,eB,eB];exact if_pos h1
theorem JS (h:∀l,o=some l->dN l≠br):cE.on o=o.map λl=>([],l):=by cases o with|none=>rfl|some l=>exact if_neg (h l O)
theorem oC (R:cM L) (S:PB L b h0 p s o 0):al prog 150 [.ptr p 0] h0 (λv h'=>Kp [p] h0 h'/\PB L false h' p s ((cE.on o).map (·.2)) 0/\∃z,v= .one z/\FH z/\dO (cE.on o) λa=>my rA a z):=by
 refine al.one (Q:=λv h'=>(v.cells=some [v]/\FH v)/\Kp [p] h0 h'/\PB L false h' p s ((cE.on o).map (·.2)) 0/\dO (cE.on o) λa=>my rA a v) ?_ (λv h' q=>q.1.1) (λv h' q=>⟨q.2.1,q.2.2.1,v,O,q.1.2,q.2.2.2⟩);obtain⟨ho,hT,K,hg,P,hp⟩:=S;refine az (n:=32) (rs:=[.tmp 2]) [] ⟨func150,O,O,O⟩ O <| have H:=HI.one hg ho;ah H O λh H Y=>?_;refine ae O call67 (cH R (PB.bU H hT P)) ?_;rintro x h2 ⟨kp,⟨_,_,K1,eM,P1,dJ⟩,k',v,_,_,_,_,sr,rfl,hx⟩;replace H:=H.aA kp eM;refine ah H O λh H Y=>af O (λhb=>?_) λhb=>?_
 .have hv:v=br:=by simpa using hb
  have hh0:∀l,o=some l->dN l=br/\2<=bC l:=λl e=>by
   have h1:dN l=br:=by rw[<-(hx l e).2.1];exact hv
   exact⟨h1,(P1.len R e).2.hd (by rw[h1];simp)⟩
  refine ah H O λh H Y=>ae O call101 (fa R (PB.of H hT P1 dJ)) ?_;rintro x h2 ⟨kp,⟨_,_,K2,bI,P2,iy⟩,_⟩;replace H:=H.aA kp bI;refine ah H O λh H Y=>ae O call116 (eX (k:=4) R (PB.bU H hT P2) (by omega)) ?_;rintro x h2 ⟨kp,y,q,rfl,hh,⟨_,_,K3,bF,P3,kO⟩⟩;replace H:=H.aA kp bF;have Q6:(cE.on o).map (·.2)=((bE ar 4 dX).on ((ar.on q).map (·.2))).map (·.2):=by rw[ya hh0];exact uR (hh.snd (by omega))
  have Q7:∀{a l},cE.on o=some (a,l)->∃a1 r1 cs,ar.on q=some (a1,r1)/\a=a1::cs/\(bE ar 4 dX).on ((ar.on q).map (·.2))=some (cs,l):=λe=>uS (hh.snd (by omega)) (by rw[ya hh0]at e;exact e)
  refine ah H O λh H Y=>ae O call114 (aI R (PB.bU H hT P3)) ?_;rintro x h2 ⟨kp,⟨_,_,K4,jj,PX,AJ⟩,n0,rfl,zf⟩;replace H:=H.aA kp jj;generalize zj:(ar.on q).map (·.2)=oX at PX Q6 Q7;refine ah H O λh H Y=>have G:vI h0 h .ao []:= .inl (.inl ⟨O,O⟩);HK H O O O O O O (by simp) O G (by show(0+1)*(16+1)<=140737488355328;omega) ?_;clear H G;intro x0 h H G _ _ _;simp only[List.nil_append]at G;refine aH H G O λh H G Y=>aC 32 (λx:Option (List Tok)×Option (List ak)×AV×List (List AV)=>match x.1 with|none=>0|some l=>l.length+1)
   (λx=>[(0,.ptr p 0),(3,x.2.2.1)])
   (λx h'=>∃K,HI h0 [p] h' [(p,K.cells s)]/\PR L s K x.1 0/\vI h0 h' x.2.2.1 x.2.2.2/\(∀bs,x.2.1=some bs->bx (PE rA) bs x.2.2.2)/\((x.1=none/\(bE ar 4 dX).on oX=none)\/∃l0 bs,oX=some l0/\tF ar 4 l0 x.1 bs/\x.2.1=bs.map λbs=>n0::bs))
   (λx:Option (List Tok)×Option (List ak)×AV×List (List AV)=>[(0,.ptr p 0),(3,x.2.2.1)])
   (λx h'=>∃K,HI h0 [p] h' [(p,K.cells s)]/\PR L s K x.1 0/\vI h0 h' x.2.2.1 x.2.2.2/\(∀bs,x.2.1=some bs->bx (PE rA) bs x.2.2.2)/\((x.1=none/\(bE ar 4 dX).on oX=none)\/∃l' bs,x.1=some l'/\(bE ar 4 dX).on oX=some (bs,l')/\x.2.1=some (n0::bs)))
   (oX,some [n0],x0,[[.str n0]]) O ⟨_,H,PX,G,λbs e=>by injection e with e;subst e;exact⟨⟨_,O,O⟩,trivial⟩,?_⟩ ?_ ?_
  .cases zj:oX with|none=>exact .inl ⟨O,O⟩|some l=>exact .inr ⟨l,some [],O,tF.start (PX.len R zj).1,O⟩
  .clear H G;rintro⟨o1,acc,x,es⟩ h ⟨K,H,P,G,hl,lp⟩ again done;simp only at P G hl lp;refine aH H G O λh H G Y=>ae O call116 (eX (k:=4) R (PB.bU H hT P) (by omega)) ?_;rintro y h2 ⟨kp,y,o2,rfl,hh,⟨_,_,K1,eM,P1,dJ⟩⟩;replace H:=H.aA kp eM;replace G:=G.kp kp;refine aH H G O λh H G Y=>?_
   cases y with
   |true=>
    obtain⟨l1,rfl,zI,rfl⟩:=hh.1 O;have hy:=(P1.so _ O).1;obtain⟨st,a,e,b_,c_,d',er,pk,k0,v0,p1,pr,r1,t1,pt,pe,k2,v2,p2,pw,r2,t2,fK,rr,cc,tc,dp⟩:=K1;simp only at hy;subst hy;refine aj O (λhb=>?_) (λhb=>by cases hb);refine bm [0,91] H G O λh H G Y=>ae O call114 (aI R (PB.bU H hT P1)) ?_;rintro y h3 ⟨kp,⟨_,_,K3,bF,P3,kO⟩,nm,rfl,hz⟩;replace H:=H.aA kp bF;replace G:=G.kp kp;rw[eB]at P3 hz;rcases lp with⟨e1,_⟩|⟨l0,VK,e1,lp,x8⟩
    .cases e1
    have zL:=lp;obtain⟨n,bs,jN,_,jP,_⟩:=lp;subst jN;subst x8;have hl:=hl _ O;have vF:=hl.len;simp only[List.length_cons]at vF;refine aH H G O λh H G Y=>HK H O O O O O O (by simp) O G ?_ ?_
    .show(es.length+1)*(16+1)<=140737488355328;omega
    clear H;intro x' h H G n_ _ _;refine aH H G O λh H G Y=>have tG:=zL.step (show j6 ar from aq 16) zI;again ((ar l1.tail).map (·.2),(ar l1.tail).map (λz=>(n0::bs)++[z.1]),x',es++[[.str nm]]) ?_ O ⟨_,H,P3,G,?_,.inr ⟨l0,(ar l1.tail).map (λz=>bs++[z.1]),e1,?_,?_⟩⟩
    .show(match(ar l1.tail).map (·.2)with|none=>0|some l=>l.length+1) <l1.length+1
     cases hg:ar l1.tail with
     |none=>simp
     |some y=>
      have:=(show j6 ar from aq 16) _ _ _ hg
      have:=fw l1
      simp;omega
    .intro cs e;simp only at e
     cases hg:ar l1.tail with
     |none=>rw[hg]at e;cases e
     |some y=>
      rw[hg]at e hz;injection e with e
      subst e;exact hl.append ⟨⟨_,O,by rw[hz _ _ O];rfl⟩,trivial⟩
    .cases hg:ar l1.tail with|none=>rw[hg]at tG;exact tG|some y=>rw[hg]at tG;exact tG
    .cases hg:ar l1.tail<;>rfl
   |false=>
    obtain⟨zI,rfl⟩:=hh.2 O;refine aj O (λhb=>by cases hb) (λhb=>?_);refine bm [90] H G O λh H G Y=>?_;rcases lp with⟨rfl,e2⟩|⟨l0,VK,e1,lp,x8⟩
    .exact done (none,acc,x,es) O ⟨_,H,P1,G,hl,.inl ⟨O,e2⟩⟩
    .cases vZ:o2 with|none=>subst vZ;have e2:=lp.1;exact done (none,acc,x,es) O ⟨_,H,P1,G,hl,.inl ⟨O,by rw[e1];exact e2⟩⟩|some l1=>subst vZ;obtain⟨bs,e2,e3⟩:=lp.stop (zI l1 O);exact done (some l1,acc,x,es) O ⟨_,H,P1,G,hl,.inr ⟨l1,bs,O,by rw[e1];exact e3,by rw[x8,e2];rfl⟩⟩
  .clear H G;rintro⟨o1,acc,x,es⟩ h ⟨K,H,P,G,hl,gW⟩;simp only at P G hl gW;refine aH H G O λh H G Y=>ab [] H O ⟨⟨G.cells,G.ele⟩,H.kp,?p1,?p2⟩
   case p1=>
    rw[Q6];rcases gW with⟨rfl,e2⟩|⟨l',bs,rfl,e2,_⟩
    .rw[e2];exact PB.bU H hT P
    .rw[e2];exact PB.bU H hT P
   case p2=>
    intro a l e;obtain⟨a1,r1,cs,e1,rfl,e5⟩:=Q7 e;rcases gW with⟨rfl,e2⟩|⟨l',bs,rfl,e2,e3⟩
    .rw[e2]at e5
     cases e5
    .rw[e2]at e5;injection e5 with e5
     injection e5 with e6 e7
     subst e6;rw[zf _ _ e1]at e3;have hl:=hl _ e3;refine G.sl hl ?_;rw[hl.len]
     cases zj:oX with|none=>rw[zj]at e2;cases e2|some l0=>rw[zj]at e2;have:=tv (show j6 ar from aq 16) 4 _ _ _ _ e2;have:=(PX.len R zj).1;simp only[List.length_cons];omega
 .have hv:v≠br:=by simpa using hb
  have e:=JS (o:=o) λl e q=>hv (by rw[(hx l e).2.1];exact q)
  refine ah H O λh H Y=>ab [] H O ⟨⟨O,_,O⟩,H.kp,?_,?_⟩
  .rw[e,show(o.map λl=>(([]:List ak),l)).map (·.2)=o by cases o<;>rfl];exact PB.bU H hT P1
  .rw[e];intro a l q
   cases o with|none=>cases q|some l0=>injection q with q;injection q with q1 q2;subst q1;exact .nil
theorem Pw {v:ak} (hv:v=fJ\/v=cQ\/v=bz) (h:∀l,o=some l->dN l=v/\2<=bC l):jd.on o=o.map λl=>(v,l.tail):=by cases o with|none=>rfl|some l=>obtain⟨h1,h2⟩:=h l rfl;subst h1;exact if_pos hv
theorem Sv {v:ak} (hv:¬ (v=fJ\/v=cQ\/v=bz)) (h:∀l,o=some l->dN l=v):jd.on o=none:=by cases o with|none=>rfl|some l=>exact if_neg (by rw[h l O];exact hv)
theorem Px (R:cM L) (S:PB L true h0 p s o 0):al prog 156 [.ptr p 0] h0 (λv h'=>Kp [p] h0 h'/\PB L false h' p s ((jd.on o).map (·.2)) 0/\∃n,v= .str n/\dO (jd.on o) λa=>n=a):=by
 obtain⟨ho,hT,K,hg,P,hp⟩:=S;refine az (n:=17) (rs:=[.tmp 2]) [] ⟨func156,O,O,O⟩ O <| have H:=HI.one hg ho;ah H O λh H Y=>?_;refine ae O call101 (fa R (PB.of H hT P hp)) ?_;rintro x h2 ⟨kp,⟨_,_,K1,eM,P1,dJ⟩,k',v,_,_,_,_,sr,rfl,hx⟩;replace H:=H.aA kp eM;have yes:v=fJ\/v=cQ\/v=bz->jd.on o=o.map (λl=>(v,l.tail))/\(la.on o).map (·.2)=(jd.on o).map (·.2):=λhv=>by
  have hh:∀l,o=some l->dN l=v/\2<=bC l:=λl e=>⟨(hx l e).2.1.symm,(P.len R e).2.hd (by rw[<-(hx l e).2.1];rcases hv with rfl|rfl|rfl<;>simp)⟩
  have e:=Pw hv hh
  refine⟨e,?_⟩;rw[e]
  cases o with|none=>rfl|some l=>rw[jA (hh l O).2];rfl
 have val:v=fJ\/v=cQ\/v=bz->dO (jd.on o) λa=>v=a:=λhv=>by
  rw[(yes hv).1];intro a l e
  cases o with|none=>cases e|some l0=>injection e with e;injection e with e1 e2
 refine an [1,1] H O λh H Y=>af O (λwk=>?_) λwk=>?_
 .have hm:v=fJ:=by simpa using wk
  refine ah H O λh H Y=>?_;refine ab [] H O ⟨H.kp,by rw[<-(yes (.inl hm)).2];exact PB.bU H hT P1,fJ,O,?_⟩;have:=val (.inl hm);rw[hm]at this;exact this
 refine ah H O λh H Y=>af O (λej=>?_) λej=>?_
 .have hm:v=cQ:=by simpa using ej
  refine ah H O λh H Y=>?_;refine ab [] H O ⟨H.kp,by rw[<-(yes (.inr (.inl hm))).2];exact PB.bU H hT P1,cQ,O,?_⟩;have:=val (.inr (.inl hm));rw[hm]at this;exact this
 refine ah H O λh H Y=>af O (λaT=>?_) λaT=>?_
 .have hm:v=bz:=by simpa using aT
  refine ah H O λh H Y=>?_;refine ab [] H O ⟨H.kp,by rw[<-(yes (.inr (.inr hm))).2];exact PB.bU H hT P1,bz,O,?_⟩;have:=val (.inr (.inr hm));rw[hm]at this;exact this
 refine an [1] H O λh H Y=>?_;have hm:¬ (v=fJ\/v=cQ\/v=bz):=by
  rintro(q|q|q)
  .exact(show ¬ v=fJ by simpa using wk) q
  .exact(show ¬ v=cQ by simpa using ej) q
  .exact(show ¬ v=bz by simpa using aT) q
 have e:=Sv (o:=o) hm λl e=>(hx l e).2.1.symm
 refine ae O call73 (fL (PB.bU H hT P1) λl e=>by cases o with|none=>cases e|some l0=>exact(hx l0 O).2.2) ?_
 rintro x h2 ⟨kp,⟨_,_,K2,bI,P2,iy⟩,rfl⟩;replace H:=H.aA kp bI;refine ah H O λh H Y=>?_;exact ab [] H O ⟨H.kp,by rw[e];exact PB.bU H hT P2,_,O,by rw[e];intro a l q;cases q⟩
section
attribute [local irreducible] ca fv pY bB aE cF ov dv cE cj jd
theorem JT:((tp).on o).map (·.2)=((ar.on (((aE 8).on ((jd.on o).map (·.2))).map (·.2))).map (·.2)):=Ci (x:=jd) (λo=>((ar.on (((aE 8).on o).map (·.2))).map (·.2))) O λa r=>Ci (x:=(aE 8)) (λo=>((ar.on o).map (·.2))) O λa r=>Ci (x:=ar) (λo=>o) O λa r=>rfl
end
theorem Ej (R:cM L) (S:PB L b h0 p s o 0):al prog 112 [.ptr p 0] h0 (iN L p s 0 h0 ((tp).on o) Iy):=by
 refine bR.done ?_;obtain⟨ho,hT,K,hg,P,hp⟩:=S;refine az (n:=20) (rs:=[.tmp 2]) [] ⟨func112,O,O,O⟩ O <| have H:=HI.one hg ho;ah H O λh H Y=>?_;refine ae O call66 (aL R (PB.bU H hT P)) ?_;rintro x h2 ⟨kp,⟨_,_,K1,eM,P1,dJ⟩,q1,rfl⟩;replace H:=H.aA kp eM;obtain⟨Iw,MH⟩:=P1.cm;obtain⟨st1,a1_,e1_,b1_,c1_,d1_,er1,pk1,k01,v01,p11,YC,r11,t11,YD,pe1,k21,v21,p21,YE,r21,t21,YF,YG,cc1,tc1,dp1⟩:=K1;simp only at MH;subst MH;refine an [1,0,1] H O λh H Y=>ae O call156 (Px R (PB.of H hT P1 (λ_=>dJ O))) ?_;rintro x h2 ⟨kp,⟨_,_,K2,bI,P2,iy⟩,nm2,rfl,VG⟩;replace H:=H.aA kp bI;refine an [1] H O λh H Y=>ae O call113 (dQ (k:=8) R (PB.bU H hT P2) (by omega)) ?_;rintro x h2 ⟨kp,⟨_,_,K3,bF,P3,kO⟩,_,_,_,_,_,_,_,_,rfl,_,_⟩;replace H:=H.aA kp bF;refine ah H O λh H Y=>ae O call114 (aI R (PB.bU H hT P3)) ?_;rintro x h2 ⟨kp,⟨_,_,K4,jj,P4,AJ⟩,nm4,rfl,iC⟩;replace H:=H.aA kp jj;refine an [1] H O λh H Y=>ab [] H O (bR.mk' (j:=0) H hT ?p1 ho O (dH:=[_,_,_,_]) ⟨.refl _,.refl _,.refl _,.refl _,trivial⟩ ?p2)
 case p1=>rw[JT];exact P4
 case p2=>
  intro a l' e;obtain⟨a2,r2,e2,e⟩:=cx (x:=jd) e;have s2:((jd.on o).map (·.2))=some r2:=by rw[e2];rfl
  have w2:=VG _ _ e2;obtain⟨a3,r3,e3,e⟩:=cx (x:=(aE 8)) e;rw[<-s2]at e3;have s3:(((aE 8).on ((jd.on o).map (·.2))).map (·.2))=some r3:=by rw[e3];rfl
  obtain⟨a4,r4,e4,e⟩:=cx (x:=ar) e;rw[<-s3]at e4;have s4:((ar.on (((aE 8).on ((jd.on o).map (·.2))).map (·.2))).map (·.2))=some r4:=by rw[e4];rfl
  have w4:=iC _ _ e4;injection e with e
  injection e with Sk YH
  subst Sk;subst w2 w4;exact⟨_,O⟩
end
end
section
attribute [local irreducible] aU cK bE aQ
section
variable {L:ak->Nat->Option (Int×ak×Nat)} {s:ak} {K:PK} {o o':Option (List Tok)} {d p B:Nat} {h h0 h1 hb:AH} {ids:List Nat} {V:View} {l:List Tok} {b c:Bool} {k:Nat}
def px (h:AH) (aw fk:Nat):Prop:=aw <h.nt/\h.bV aw=fk
theorem px.kp {aw fk:Nat} (g:px h aw fk) (k:Kp ids h h1):px h1 aw fk:=⟨Nat.lt_of_lt_of_le g.1 k.nt,(k.bV aw g.1).trans g.2⟩
theorem px.eq {aw fk:Nat} (g:px h aw fk) (e1:h1.nt=h.nt) (e2:h1.bV=h.bV):px h1 aw fk:=⟨by rw[e1];exact g.1,by rw[e2];exact g.2⟩
instance {h h':AH} {aw fk:Nat}:Nx h h' (px h aw fk) (px h' aw fk):=⟨λg=>g.eq⟩
section
variable {P:Program} {lt:LT} {C:Exit->ay->AH->Prop} {fr:ay} {ks:List Kt} {o:Oper} {ops l:List Oper} {D:List Nat} {s x:Operand} {t:TypeId} {gl:Nat} {xs y:AV} {es ys:List (List AV)} {d:Tmp}
theorem Oc {aw fk:Nat} (H:HI h0 ids h V) (ha:cD o.op=some (s,x,t)) (hw:au ops fr o.guard=some true) (hi:cC P t=some (1,gl))
 (kN:fr.ev s= .v (.vec (.own aw fk) 1 es)) (ex:fr.ev x= .v y) (hy:aY 1 y=some ys) (cv:ys≠[]) (hd:o.dst=some d) (hl:h0.nt<=aw) (hG:px h aw fk) (dK:(es.length+ys.length)*(gl+1)<=140737488355328)
 (T:∀h',HI h0 ids h' V->px h' aw (fk+1)->(∀l v,l≠aw->px h l v->px h' l v)->XS P lt C (.ops ops l D) ks (fr.bf d (.v (.vec (.own aw (fk+1)) 1 (es++ys)))) h'):XS P lt C (.ops ops (o::l) D) ks fr h:=by
 refine AL.jr (ag.app ha hw hi kN ex (.inr (.inr ⟨fk,.inl O,hG.2,O,O⟩)) hy cv dK) ?_;rw[hd];refine T (h.bump aw) ⟨HV.of (λe he=>H.hv.get he) H.hv.nodup,⟨H.kp.n,λk hk hi=>H.kp.get k hk hi,H.kp.nt,λl uB=>?_,H.kp.aV⟩,H.new⟩ ⟨hG.1,?_⟩ λl v cv uB=>⟨uB.1,?_⟩
 .simp only[AH.bump];rw[beq_false_of_ne (by omega)];exact H.kp.bV l uB
 .simp only[AH.bump];rw[cU,hG.2]
 .simp only[AH.bump];rw[beq_false_of_ne cv];exact uB.2
theorem Od (H:HI h0 ids h V) (ha:cD o.op=some (s,x,t)) (hw:au ops fr o.guard=some true) (hi:cC P t=some (1,gl))
 (kN:fr.ev s= .v .ao) (ex:fr.ev x= .v y) (hy:aY 1 y=some ys) (cv:ys≠[]) (hd:o.dst=some d) (dK:(0+ys.length)*(gl+1)<=140737488355328)
 (T:∀h' aw,HI h0 ids h' V->h0.nt<=aw->px h' aw 0->(∀l v,px h l v->l≠aw/\px h' l v)->XS P lt C (.ops ops l D) ks (fr.bf d (.v (.vec (.own aw 0) 1 ys))) h'):XS P lt C (.ops ops (o::l) D) ks fr h:=by
 refine AL.jr (ag.app (es:=[]) ha hw hi kN ex (.inl ⟨O,O,O,O,O⟩) hy cv dK) ?_;rw[hd];have wC:=H.kp.nt;refine T h.cu h.nt ⟨HV.of (λe he=>H.hv.get he) H.hv.nodup,⟨H.kp.n,λk hk hi=>H.kp.get k hk hi,Nat.le_trans H.kp.nt (Nat.le_succ _),λl uB=>?_,H.kp.aV⟩,H.new⟩ wC ⟨Nat.lt_succ_self _,?_⟩ λl v uB=>⟨by have:=uB.1;omega,Nat.lt_succ_of_lt uB.1,?_⟩
 .simp only[AH.cu];rw[beq_false_of_ne (by omega)];exact H.kp.bV l uB
 .simp only[AH.cu];rw[cU]
 .simp only[AH.cu];rw[beq_false_of_ne (by have:=uB.1;omega)];exact uB.2
end
theorem Ek {q:Option (List Tok)} (hh:rv L 9 o true q):cj.on o=(dv ar 15).on q:=by obtain⟨l,rfl,hl,rfl⟩:=hh.1 rfl;show((bB 9).andThen _) l=_;simp only[Pa.andThen,Cf (by omega) hl,eB]
theorem GX {q:Option (List Tok)} (hh:rv L 9 o false q):cj.on o=q.map λl=>([],l):=by
 obtain⟨hl,rfl⟩:=hh.2 O
 cases q with
 |none=>rfl
 |some l=>
  have:=GJ (o:=some l) hl
  show((bB 9).andThen _) l=_
  simp only[Pa.andThen,show bB 9 l=some (false,l) from this];rfl
theorem ee.F3 {x y:AV} (hx:x.cells=some [x]) (hy:y.cells=some [y]):ee (.cN [x,y]) (.cN [.one x,.one y]):=by
 have one:∀(z:AV) (g:Gh) (w:World) (u:Value),z.cells=some [z]->VR g w z u->VR g w (.one z) u:=λz g w u hz V=>by
  refine .one _ _ V ?_;have hv:=V.cells hz;have h1:u.cells.size=1:=hv.1.1
  cases u<;>first|rfl|skip
  .exfalso
   cases V with
   |agg dH=>simp only[AV.cells]at hz;injection hz with hz;have:=congrArg (λl:List AV=>SizeOf.sizeOf l) hz;simp at this;omega
   |one x' _ _ ho=>cases ho
  .exfalso
   cases V with|cN dH=>simp[AV.cells]at hz|one x' _ _ ho=>cases ho
 intro g w v h
 cases h with
 |cN _ vs hn hv=>
  refine .cN _ vs hn λi hi=>?_
  match i,hi with
  |0,_=>exact one _ _ _ _ hx (hv 0 (by simp))
  |1,_=>exact one _ _ _ _ hy (hv 1 (by simp))
theorem vJ (R:cM L) (S:PB L b h0 p s o 0):al prog 152 [.ptr p 0] h0 (λv h'=>Kp [p] h0 h'/\PB L false h' p s ((cj.on o).map (·.2)) 0/\∃z q,v= .cN [.one z,.one q]/\FH z/\dO (cj.on o) λa=>my rA a z):=by
 refine al.obj (Q:=λv h'=>∃x y,v= .cN [x,y]/\(x.cells=some [x]/\FH x)/\y.cells=some [y]/\Kp [p] h0 h'/\PB L false h' p s ((cj.on o).map (·.2)) 0/\dO (cj.on o) λa=>my rA a x) ?_ (λv h' ⟨x,y,e,hx,hy,q1,q2,q3⟩=> .inl ⟨.cN [.one x,.one y],e▸ee.F3 hx.1 hy,q1,q2,x,y,O,hx.2,q3⟩);obtain⟨ho,hT,K,hg,P,hp⟩:=S;refine az (n:=39) (rs:=[.tmp 2,.tmp 3]) [] ⟨func152,O,O,O⟩ O <| have H:=HI.one hg ho;ah H O λh H Y=>?_;refine ae O call116 (eX (k:=9) R (PB.bU H hT P) (by omega)) ?_;rintro x h2 ⟨kp,y,o9,rfl,hh9,⟨_,_,K2,bI,P2,iy⟩⟩;replace H:=H.aA kp bI;refine ah H O λh H Y=>af O (λhb=>?_) λhb=>?_
 .subst hb;have hm:=Ek hh9;refine ah H O λh H Y=>ae O call116 (eX (k:=15) R (PB.bU H hT P2) (by omega)) ?_;rintro x h2 ⟨kp,y,q,rfl,hh,⟨_,_,K3,bF,P3,kO⟩⟩;replace H:=H.aA kp bF;have Q6:(cj.on o).map (·.2)=((bE ar 15 dX).on ((ar.on q).map (·.2))).map (·.2):=by rw[hm];exact uR (hh.snd (by omega))
  have Q7:∀{a l},cj.on o=some (a,l)->∃a1 r1 cs,ar.on q=some (a1,r1)/\a=a1::cs/\(bE ar 15 dX).on ((ar.on q).map (·.2))=some (cs,l):=λe=>uS (hh.snd (by omega)) (by rw[hm]at e;exact e)
  refine ah H O λh H Y=>ae O call66 (aL R (PB.bU H hT P3)) ?_;rintro x h2 ⟨kp,⟨_,_,K5,mw,P5,Us⟩,q5,rfl⟩;replace H:=H.aA kp mw;refine ah H O λh H Y=>Od H O O O O O O (by simp) O (by show(0+1)*(8+1)<=140737488355328;omega) ?_;clear H;intro h JU H aT G2 _;have G1:True:=trivial;refine aH H G2 O λh H G2 Y=>ae O call114 (aI R (PB.bU H hT P5)) ?_;rintro x h2 ⟨kp,⟨_,_,K4,jj,PX,AJ⟩,n0,rfl,zf⟩;replace H:=H.aA kp jj;replace G2:=G2.kp kp;generalize zj:(ar.on q).map (·.2)=oX at PX Q6 Q7;refine aH H G2 O λh H G2 Y=>Od H O O O O O O (by simp) O (by show(0+1)*(16+1)<=140737488355328;omega) ?_;clear H G1;intro h Sw H ej G1 G12;obtain⟨cv,G2⟩:=G12 _ _ G2;refine aH H G1 O λh H G1 Y=>?_;replace G2:=G2.eq Y.2.1 Y.2.2;refine aC 39 (λx:Option (List Tok)×Option (List ak)×Nat×List (List AV)×Nat×List (List AV)=>match x.1 with|none=>0|some l=>l.length+1)
   (λx=>[(0,.ptr p 0),(2,.vec (.own Sw x.2.2.1) 1 x.2.2.2.1),(3,.vec (.own JU x.2.2.2.2.1) 1 x.2.2.2.2.2)])
   (λx h'=>∃K,HI h0 [p] h' [(p,K.cells s)]/\PR L s K x.1 0/\px h' Sw x.2.2.1/\px h' JU x.2.2.2.2.1/\x.2.2.2.2.2.length<=x.2.2.2.1.length/\(∀bs,x.2.1=some bs->bx (PE rA) bs x.2.2.2.1)/\((x.1=none/\(bE ar 15 dX).on oX=none)\/∃l0 bs,oX=some l0/\tF ar 15 l0 x.1 bs/\x.2.1=bs.map λbs=>n0::bs))
   (λx:Option (List Tok)×Option (List ak)×Nat×List (List AV)×Nat×List (List AV)=>[(0,.ptr p 0),(2,.vec (.own Sw x.2.2.1) 1 x.2.2.2.1),(3,.vec (.own JU x.2.2.2.2.1) 1 x.2.2.2.2.2)])
   (λx h'=>∃K,HI h0 [p] h' [(p,K.cells s)]/\PR L s K x.1 0/\(∀bs,x.2.1=some bs->bx (PE rA) bs x.2.2.2.1)/\((x.1=none/\(bE ar 15 dX).on oX=none)\/∃l' bs,x.1=some l'/\(bE ar 15 dX).on oX=some (bs,l')/\x.2.1=some (n0::bs)))
   (oX,some [n0],0,[[.str n0]],0,[[.one q5]]) O ⟨_,H,PX,G1,G2,by simp,λbs e=>by injection e with e;subst e;exact⟨⟨_,O,O⟩,trivial⟩,?_⟩ ?_ ?_
  .cases zj:oX with|none=>exact .inl ⟨O,O⟩|some l=>exact .inr ⟨l,some [],O,tF.start (PX.len R zj).1,O⟩
  .clear H G1 G2;rintro⟨o1,acc,v1,es,v2,lT⟩ h ⟨K,H,P,G1,G2,Q8,hl,lp⟩ again done;simp only at P G1 G2 Q8 hl lp;refine aH H G1 O λh H G1 Y=>?_;replace G2:=G2.eq Y.2.1 Y.2.2;refine ae O call116 (eX (k:=15) R (PB.bU H hT P) (by omega)) ?_;rintro y h2 ⟨kp,y,o2,rfl,hh,⟨_,_,K1,eM,P1,dJ⟩⟩;replace H:=H.aA kp eM;replace G1:=G1.kp kp;replace G2:=G2.kp kp;refine aH H G1 O λh H G1 Y=>?_;replace G2:=G2.eq Y.2.1 Y.2.2
   cases y with
   |true=>
    obtain⟨l1,rfl,zI,rfl⟩:=hh.1 O;have hy:=(P1.so _ O).1;obtain⟨st,a,e,b_,c_,d',er,pk,k0,v0,p1,pr,r1,t1,pt,pe,k2,v2_,p2,pw,r2,t2,fK,rr,cc,tc,dp⟩:=K1;simp only at hy;subst hy;refine aj O (λhb=>?_) (λhb=>by cases hb);refine bm [0,91] H G1 O λh H G1 Y=>?_;replace G2:=G2.eq Y.2.1 Y.2.2;rcases lp with⟨e1,_⟩|⟨l0,VK,e1,lp,x8⟩
    .cases e1
    have zL:=lp;obtain⟨n,bs,jN,_,jP,_⟩:=lp;subst jN;subst x8;have hl:=hl _ O;have vF:=hl.len;simp only[List.length_cons]at vF;refine ae O call66 (aL R (PB.bU H hT P1)) ?_;rintro x h2 ⟨kp,⟨_,_,K5,mw,P5,Us⟩,q6,rfl⟩;replace H:=H.aA kp mw;replace G1:=G1.kp kp;replace G2:=G2.kp kp;refine aH H G1 O λh H G1 Y=>?_;replace G2:=G2.eq Y.2.1 Y.2.2;refine Oc H O O O O O O (by simp) O aT G2 (by show(lT.length+1)*(8+1)<=140737488355328;omega) ?_;clear H;intro h H G2 Go;replace G1:=Go _ _ cv.symm G1;refine aH H G1 O λh H G1 Y=>?_;replace G2:=G2.eq Y.2.1 Y.2.2;refine ae O call114 (aI R (PB.bU H hT P5)) ?_;rintro y h3 ⟨kp,⟨_,_,K3,bF,P3,kO⟩,nm,rfl,hz⟩;replace H:=H.aA kp bF;replace G1:=G1.kp kp;replace G2:=G2.kp kp;rw[eB]at P3 hz;refine aH H G1 O λh H G1 Y=>?_;replace G2:=G2.eq Y.2.1 Y.2.2;refine Oc H O O O O O O (by simp) O ej G1 (by show(es.length+1)*(16+1)<=140737488355328;omega) ?_;clear H Go;intro h H G1 Go;replace G2:=Go _ _ cv G2;refine aH H G1 O λh H G1 Y=>?_;replace G2:=G2.eq Y.2.1 Y.2.2;have tG:=zL.step (show j6 ar from aq 16) zI;refine again ((ar l1.tail).map (·.2),(ar l1.tail).map (λz=>(n0::bs)++[z.1]),v1+1,es++[[.str nm]],v2+1,lT++[[.one q6]]) ?_ O ⟨_,H,P3,G1,G2,by simp;exact Q8,?_,.inr ⟨l0,(ar l1.tail).map (λz=>bs++[z.1]),e1,?_,?_⟩⟩
    .show(match(ar l1.tail).map (·.2)with|none=>0|some l=>l.length+1) <l1.length+1
     cases hg:ar l1.tail with
     |none=>simp
     |some y=>
      have:=aq 16 _ _ _ hg
      have:=fw l1
      simp;omega
    .intro cs e;simp only at e
     cases hg:ar l1.tail with
     |none=>rw[hg]at e;cases e
     |some y=>
      rw[hg]at e hz;injection e with e
      subst e;exact hl.append ⟨⟨_,O,by rw[hz _ _ O];rfl⟩,trivial⟩
    .cases hg:ar l1.tail with|none=>rw[hg]at tG;exact tG|some y=>rw[hg]at tG;exact tG
    .cases hg:ar l1.tail<;>rfl
   |false=>
    obtain⟨zI,rfl⟩:=hh.2 O;refine aj O (λhb=>by cases hb) (λhb=>?_);refine bm [90] H G1 O λh H G1 Y=>?_;replace G2:=G2.eq Y.2.1 Y.2.2;rcases lp with⟨rfl,e2⟩|⟨l0,VK,e1,lp,x8⟩
    .exact done (none,acc,v1,es,v2,lT) O ⟨_,H,P1,hl,.inl ⟨O,e2⟩⟩
    .cases vZ:o2 with|none=>subst vZ;have e2:=lp.1;exact done (none,acc,v1,es,v2,lT) O ⟨_,H,P1,hl,.inl ⟨O,by rw[e1];exact e2⟩⟩|some l1=>subst vZ;obtain⟨bs,e2,e3⟩:=lp.stop (zI l1 O);exact done (some l1,acc,v1,es,v2,lT) O ⟨_,H,P1,hl,.inr ⟨l1,bs,O,by rw[e1];exact e3,by rw[x8,e2];rfl⟩⟩
  .clear H G1 G2;rintro⟨o1,acc,v1,es,v2,lT⟩ h ⟨K,H,P,hl,gW⟩;simp only at P hl gW;refine ah H O λh H Y=>ab [] H O ⟨_,_,O,⟨O,_,O⟩,O,H.kp,?p1,?p2⟩
   case p1=>
    rw[Q6];rcases gW with⟨rfl,e2⟩|⟨l',bs,rfl,e2,_⟩
    .rw[e2];exact PB.bU H hT P
    .rw[e2];exact PB.bU H hT P
   case p2=>
    intro a l e;obtain⟨a1,r1,cs,e1,rfl,e5⟩:=Q7 e;rcases gW with⟨rfl,e2⟩|⟨l',bs,rfl,e2,e3⟩
    .rw[e2]at e5
     cases e5
    .rw[e2]at e5;injection e5 with e5
     injection e5 with e6 e7
     subst e6;rw[zf _ _ e1]at e3;have hl:=hl _ e3;refine .inr ⟨_,es,O,?_,hl⟩;rw[hl.len]
     cases zj:oX with|none=>rw[zj]at e2;cases e2|some l0=>rw[zj]at e2;have:=tv (show j6 ar from aq 16) 15 _ _ _ _ e2;have:=(PX.len R zj).1;simp only[List.length_cons];omega
 .subst hb;have e:=GX hh9;refine ah H O λh H Y=>ab [] H O ⟨_,_,O,⟨O,_,O⟩,O,H.kp,?_,?_⟩
  .rw[e,show(o9.map λl=>(([]:List ak),l)).map (·.2)=o9 by cases o9<;>rfl];exact PB.bU H hT P2
  .rw[e];intro a l q
   cases o9 with|none=>cases q|some l0=>injection q with q;injection q with q1 q2;subst q1;exact .nil
end
end
end
def mR (op:Op):Option (Operand×TypeId):=
 match op with
 | .call c=>match c.callee with
  | .builtin .len=>match c.args.toList,c.argTypes.toList with|[x],[t]=>some (x,t)|_,_=>none
  |_=>none
 |_=>none
section
variable {P:Program} {lt:LT} {h h0 h1:AH} {ids:List Nat} {V V':View} {fr aB:ay} {ks:List Kt} {C:Exit->ay->AH->Prop}
theorem uT {op:Op} {x:Operand} {t:TypeId} (ha:mR op=some (x,t)):fi P fr h op=BA P fr h t x:=by
 unfold mR at ha;split at ha
 case h_2=>cases ha
 rename_i c;split at ha
 case h_2=>cases ha
 rename_i hc;split at ha
 case h_2=>cases ha
 rename_i x' t' h1 h2;injection ha with ha
 injection ha with q1 q2
 subst q1 q2;simp only[fi,DB,hc,h1,h2]
theorem uU {op:Op} {dst:Option Tmp} {x:Operand} {t:TypeId} (ha:mR op=some (x,t)):gL P lt fr h dst op=iz P fr h op:=by
 unfold mR at ha;split at ha
 case h_2=>cases ha
 rename_i c;split at ha
 case h_2=>cases ha
 rename_i hc;split at ha
 case h_2=>cases ha
 simp only[gL,hc]
theorem AQ {z:AV} {es:List (List AV)} {sz:Nat} (hz:aY sz z=some es):ee z (.one z):=by
 intro g w v V;refine .one _ _ V ?_
 cases z with|ao=>cases V;rfl|vec tk s e=>cases V;rfl|_=>cases hz
theorem dz {o:Oper} {ops l:List Oper} {D:List Nat} {t d:Tmp} {tt:TypeId} {z:AV} {es:List (List AV)} {k:Nat} (ha:mR o.op=some (.tmp t,tt)) (hk:Am.pn P tt=some k) (jh:Nat.beq k (AV.ao).pn=true) (hw:au ops (fr.bf t (.v z)) o.guard=some true) (ex:fr.f t= .v (.one z)) (hz:aY 1 z=some es) (hd:o.dst=some d) (Py:Nat.beq d t=false) (hn:Nat.blt t fr.n=true)
 (K:XS P lt C (.ops ops l D) ks (fr.bf d (.v (.int .i64 es.length))) h):XS P lt C (.ops ops (o::l) D) ks fr h:=by
 refine AL.any (jc:=fr.bf d (.v (.int .i64 es.length))) (h1:=h) (λg0 w0 a w Q K S hK=>?_) K;have S':=AS.slot ex qR _ _ _ _ S;have ev:(fr.bf t (.v z)).ev (.tmp t)= .v z:=by simp only[ay.ev,ay.bf,Nat.beq_refl];rw[if_pos (Nat.blt_eq.mp hn)]
 have st:ag P lt ops o (fr.bf t (.v z)) h (.v (.int .i64 es.length)) h:=by
  refine ag.pure hw (λh=>?_) (by rw[hd];rfl) (λh=>uU ha) h;rw[uT ha];unfold BA;rw[ev]
  cases z with
  |ao=>
   injection hz with hz
   subst hz;simp only[hk,jh];rfl
  |vec tk s e=>
   simp only[aY]at hz;split at hz
   .injection hz with hz
    subst hz;simp only[hk,show Nat.beq k (AV.vec tk s e).pn=true from jh];rfl
   .cases hz
  |_=>cases hz
 refine st (fr.bf t (.v z)) O O (λ_ _=>rfl) g0 w0 a w Q K S' (λa' w' S2=>hK a' w' ?_);rw[hd]at S2;have S3:=AS.slot (t:=t) (x:=z) (y:= .one z) (by
  simp only[ay.put,ay.bf];have:Nat.beq t d=false:=by cases q:Nat.beq t d with|false=>rfl|true=>have:=Nat.eq_of_beq_eq_true q;subst this;rw[Nat.beq_refl]at Py;cases Py
  rw[this,Nat.beq_refl]) (AQ hz) _ _ _ _ S2
 have e:((fr.bf t (.v z)).put (some d) (.v (.int .i64 es.length))).bf t (.v (.one z))=fr.bf d (.v (.int .i64 es.length)):=by
  simp only[ay.put,ay.bf]
  congr 1
  funext j
  cases q:Nat.beq j t with
  |true=>
   have:=Nat.eq_of_beq_eq_true q
   subst this;have:Nat.beq j d=false:=by cases q:Nat.beq j d with|false=>rfl|true=>have:=Nat.eq_of_beq_eq_true q;subst this;rw[Nat.beq_refl]at Py;cases Py
   rw[this];exact ex.symm
  |false=>rfl
 rw[e]at S3;exact S3
end
section
attribute [local irreducible] AC AL AW AD aP
section
attribute [local irreducible] aU cK bE aQ
section
variable {L:ak->Nat->Option (Int×ak×Nat)} {s:ak} {K:PK} {o o':Option (List Tok)} {d p B:Nat} {h h0 h1 hb:AH} {ids:List Nat} {V:View} {l:List Tok} {b c:Bool} {k:Nat}
theorem zO (R:cM L) {t:ak} {c0:AV} {y0:Bool} (S:PB L b h0 p s o 0):al prog 102 [.ptr p 0,.agg [.str t,.one c0,.bool y0]] h0 (iN L p s 0 h0 ((fX t).on o) ja):=by refine bR.done ?_;obtain⟨ho,hT,K,hg,P,hp⟩:=S;refine az (n:=31) (rs:=[.tmp 4]) [] ⟨func102,O,O,O⟩ O <| have H:=HI.one hg ho;aX [3] [] H hT P O O call108 (λ_ S=>aJ R S dt) ?_;rintro _ h K H P ⟨_,_,_,_,_,_,_,_,rfl⟩;refine aX [3] [1] H hT P O O call66 (λ_=>aL R) ?_;rintro _ h K H P ⟨q2,rfl⟩;refine aX [3] [2,2,2,2,2] H hT P O O call114 (λ_=>aI R) ?_;rintro _ h K H P ⟨KW,rfl,kJ⟩;refine aX [3] [2] H hT P O O call109 (λ_=>cP R) ?_;rintro _ h K H P ⟨z4,rfl,jB,iC⟩;exact aS [3] [2] H O λh H _=>ab [] H O (bR.mm 1 [4,5,6,7,9,13] H hT P ho O (nx λ_ _=>nx λ_ _=>nx λ_ _=>nz) (.tn λ_=>kJ.te <| iC.th λ_ w4=> .tr ⟨_,_,_,_,_,_,_,_,O,w4,.nil,.nil,.nil,.nil⟩))
theorem El (R:cM L) {t:ak} {c0:AV} {y0:Bool} (S:PB L b h0 p s o 0):al prog 103 [.ptr p 0,.agg [.str t,.one c0,.bool y0]] h0 (iN L p s 0 h0 ((fY eN eJ t).on o) ja):=by refine bR.done ?_;obtain⟨ho,hT,K,hg,P,hp⟩:=S;refine az (n:=41) (rs:=[.tmp 4]) [] ⟨func103,O,O,O⟩ O <| have H:=HI.one hg ho;aX [3] [] H hT P O O call108 (λ_ S=>aJ R S eN) ?_;rintro _ h K H P ⟨_,_,_,_,_,_,_,_,rfl⟩;refine aX [3] [1] H hT P O O call66 (λ_=>aL R) ?_;rintro _ h K H P ⟨q2,rfl⟩;refine aX [3] [2,2,2,2,2] H hT P O O call114 (λ_=>aI R) ?_;rintro _ h K H P ⟨KW,rfl,kJ⟩;refine aX [3] [2] H hT P O O call150 (λ_=>oC R) ?_;rintro _ h K H P ⟨z4,rfl,jB,iC⟩;refine aX [3] [2] H hT P O O call109 (λ_=>cP R) ?_;rintro _ h K H P ⟨z5,rfl,mq,lK⟩;refine aX [3] [2] H hT P O O call151 (λ_=>oB R) ?_;rintro _ h K H P ⟨z6,q6,rfl,FI,zN⟩;exact aS [3] [2,2] H O λh H _=>ab [] H O (bR.mm 1 [6,7,9] H hT P ho O (nx λ_ _=>nx λ_ _=>nx λ_ _=>nx λ_ _=>nx λ_ _=>nz) (.tn λ_=>kJ.te <| iC.th λ_ w4=>lK.th λ_ w5=>zN.th λ_ w6=> .tr ⟨_,_,_,_,_,_,_,_,O,w5,w4,w6,.nil,.nil⟩))
theorem uV (R:cM L) {t:ak} {c0:AV} {y0:Bool} (S:PB L b h0 p s o 0):al prog 104 [.ptr p 0,.agg [.str t,.one c0,.bool y0]] h0 (iN L p s 0 h0 ((fY bh cp t).on o) ja):=by refine bR.done ?_;obtain⟨ho,hT,K,hg,P,hp⟩:=S;refine az (n:=41) (rs:=[.tmp 4]) [] ⟨func104,O,O,O⟩ O <| have H:=HI.one hg ho;aX [3] [] H hT P O O call108 (λ_ S=>aJ R S bh) ?_;rintro _ h K H P ⟨_,_,_,_,_,_,_,_,rfl⟩;refine aX [3] [1] H hT P O O call66 (λ_=>aL R) ?_;rintro _ h K H P ⟨q2,rfl⟩;refine aX [3] [2,2,2,2,2] H hT P O O call114 (λ_=>aI R) ?_;rintro _ h K H P ⟨KW,rfl,kJ⟩;refine aX [3] [2] H hT P O O call150 (λ_=>oC R) ?_;rintro _ h K H P ⟨z4,rfl,jB,iC⟩;refine aX [3] [2] H hT P O O call109 (λ_=>cP R) ?_;rintro _ h K H P ⟨z5,rfl,mq,lK⟩;refine aX [3] [2] H hT P O O call151 (λ_=>oB R) ?_;rintro _ h K H P ⟨z6,q6,rfl,FI,zN⟩;exact aS [3] [2,2] H O λh H _=>ab [] H O (bR.mm 1 [6,7,9] H hT P ho O (nx λ_ _=>nx λ_ _=>nx λ_ _=>nx λ_ _=>nx λ_ _=>nz) (.tn λ_=>kJ.te <| iC.th λ_ w4=>lK.th λ_ w5=>zN.th λ_ w6=> .tr ⟨_,_,_,_,_,_,_,_,O,w5,w4,w6,.nil,.nil⟩))
theorem Cl (R:cM L) {t:ak} {c0:AV} {y0:Bool} (S:PB L b h0 p s o 0):al prog 105 [.ptr p 0,.agg [.str t,.one c0,.bool y0]] h0 (iN L p s 0 h0 ((ik t).on o) ja):=by refine bR.done ?_;obtain⟨ho,hT,K,hg,P,hp⟩:=S;refine az (n:=38) (rs:=[.tmp 4]) [] ⟨func105,O,O,O⟩ O <| have H:=HI.one hg ho;aX [3] [] H hT P O O call108 (λ_ S=>aJ R S eO) ?_;rintro _ h K H P ⟨_,_,_,_,_,_,_,_,rfl⟩;refine aX [3] [1] H hT P O O call66 (λ_=>aL R) ?_;rintro _ h K H P ⟨q2,rfl⟩;refine aX [3] [2,2,2,2,2] H hT P O O call114 (λ_=>aI R) ?_;rintro _ h K H P ⟨KW,rfl,kJ⟩;refine aX [3] [2] H hT P O O call109 (λ_=>cP R) ?_;rintro _ h K H P ⟨z4,rfl,jB,iC⟩;refine aX [3] [2] H hT P O O call152 (λ_=>vJ R) ?_;rintro _ h K H P ⟨z5,q5,rfl,mq,lK⟩;exact aS [3] [2,2] H O λh H _=>ab [] H O (bR.mm 1 [4,5,7,13] H hT P ho O (nx λ_ _=>nx λ_ _=>nx λ_ _=>nx λ_ _=>nz) (.tn λ_=>kJ.te <| iC.th λ_ w4=>lK.th λ_ w5=> .tr ⟨_,_,_,_,_,_,_,_,O,w4,.nil,.nil,w5,.nil⟩))
theorem Em (R:cM L) {t:ak} {c0:AV} {y0:Bool} (S:PB L b h0 p s o 0):al prog 106 [.ptr p 0,.agg [.str t,.one c0,.bool y0]] h0 (iN L p s 0 h0 ((jy t).on o) ja):=by refine bR.done ?_;obtain⟨ho,hT,K,hg,P,hp⟩:=S;refine az (n:=38) (rs:=[.tmp 4]) [] ⟨func106,O,O,O⟩ O <| have H:=HI.one hg ho;aX [3] [] H hT P O O call108 (λ_ S=>aJ R S fW) ?_;rintro _ h K H P ⟨_,_,_,_,_,_,_,_,rfl⟩;refine aX [3] [1] H hT P O O call66 (λ_=>aL R) ?_;rintro _ h K H P ⟨q2,rfl⟩;refine aX [3] [2,2,2,2,2] H hT P O O call114 (λ_=>aI R) ?_;rintro _ h K H P ⟨KW,rfl,kJ⟩;refine aX [3] [2] H hT P O O call109 (λ_=>cP R) ?_;rintro _ h K H P ⟨z4,rfl,jB,iC⟩;refine aX [3] [2] H hT P O O call153 (λ_=>AP R) ?_;rintro _ h K H P ⟨z5,q5,rfl,mq,lK⟩;exact aS [3] [2,2] H O λh H _=>ab [] H O (bR.mm 1 [4,5,6,9] H hT P ho O (nx λ_ _=>nx λ_ _=>nx λ_ _=>nx λ_ _=>nz) (.tn λ_=>kJ.te <| iC.th λ_ w4=>lK.th λ_ w5=> .tr ⟨_,_,_,_,_,_,_,_,O,w4,.nil,.nil,.nil,w5⟩))
theorem Cm (R:cM L) {t:ak} {c0:AV} {y0:Bool} (S:PB L b h0 p s o 0):al prog 107 [.ptr p 0,.agg [.str t,.one c0,.bool y0]] h0 (iN L p s 0 h0 ((iq true t).on o) ja):=by refine bR.done ?_;obtain⟨ho,hT,K,hg,P,hp⟩:=S;refine az (n:=38) (rs:=[.tmp 4]) [] ⟨func107,O,O,O⟩ O <| have H:=HI.one hg ho;aX [3] [] H hT P O O call108 (λ_ S=>aJ R S ff) ?_;rintro _ h K H P ⟨_,_,_,_,_,_,_,_,rfl⟩;refine aX [3] [1] H hT P O O call66 (λ_=>aL R) ?_;rintro _ h K H P ⟨q2,rfl⟩;refine aX [3] [2,2,2,2,2] H hT P O O call114 (λ_=>aI R) ?_;rintro _ h K H P ⟨KW,rfl,kJ⟩;refine aX [3] [2] H hT P O O call109 (λ_=>cP R) ?_;rintro _ h K H P ⟨z4,rfl,jB,iC⟩;refine aX [3] [2] H hT P O O call154 (λ_=>xZ R) ?_;rintro _ h K H P ⟨z5,q5,rfl,mq,lK⟩;exact aS [3] [2,2] H O λh H _=>ab [] H O (bR.mm 1 [4,6,7,9] H hT P ho O (nx λ_ _=>nx λ_ _=>nx λ_ _=>nx λ_ _=>nz) (.tn λ_=>kJ.te <| iC.th λ_ w4=>lK.th λ_ w5=> .tr ⟨_,_,_,_,_,_,_,_,O,w4,.nil,w5,.nil,.nil⟩))
end
end
section
attribute [local irreducible] aU cK bE aQ
section
variable {L:ak->Nat->Option (Int×ak×Nat)} {s:ak} {K:PK} {o o':Option (List Tok)} {d p B:Nat} {h h0 h1 hb:AH} {ids:List Nat} {V:View} {l:List Tok} {b c:Bool} {k:Nat}
theorem my.len {α:Type} {Rl:α->AV->Prop} {l:List α} {x:AV} {es:List (List AV)} (h:my Rl l x) (he:aY 1 x=some es):es.length=l.length:=by
 rcases h with⟨rfl,h⟩|⟨tk,cA,rfl,_,h⟩
 .injection he with he
  subst he;exact h.len
 .have:some cA=some es:=by simpa[aY]using he
  injection this with this
  subst this;exact h.len
theorem ny {α:Type} {l:List α} {n:Nat} (h:n=l.length):l.isEmpty=decide ((n:Int)=0):=by
 subst h
 cases l with|nil=>rfl|cons x r=>simp;omega
theorem zP (R:cM L) {c0:AV} (S:PB L b h0 p s o 0):al prog 120 [.ptr p 0,.one c0] h0 (iN L p s 0 h0 ((ux Def.bH (fX [])).on o) ja):=by
 refine bR.done ?_;obtain⟨ho,hT,K,hg,P,hp⟩:=S;refine az (n:=26) (rs:=[.tmp 4]) [] ⟨func120,O,O,O⟩ O <| have H:=HI.one hg ho;aX [] [] H hT P O O call108 (λ_ S=>aJ R S dt) ?_;rintro _ h K H P ⟨_,_,_,_,_,_,_,_,rfl⟩;refine aX [] [] H hT P O O call66 (λ_=>aL R) ?_;rintro _ h K H P ⟨q2,rfl⟩;refine aX [] [1,1,1] H hT P O O call114 (λ_=>aI R) ?_;rintro _ h K H P ⟨KW,rfl,kJ⟩;refine aX [] [1] H hT P O O call109 (λ_=>cP R) ?_;rintro _ h K H P ⟨z4,rfl,jB,iC⟩;obtain⟨mr,jB⟩:=jB;refine an [1,1] H O λh H _=>dz O O O O O jB O O O <| ah H O λh H _=>af O (λkH=>?_) λkH=>?_
 .refine aX [] [] H hT P O O call69 (λ_=>aO R) ?_;rintro _ h K H P rfl;simp at kH;exact ah H O λh H _=>ab [] H O (bR.mt 0 H hT P ho O (.tn λ_=>kJ.te <| iC.th λ_ w4=> .tr (by simp[Def.bH,ny (w4.len jB),kH])))
 .simp at kH;exact ah H O λh H _=>ab [] H O (bR.mn 0 [4,5,6,7,9,11,13] H hT P ho O (nx λ_ _=>nx λ_ _=>nx λ_ _=>nz) (.tn λ_=>kJ.te <| iC.th λ_ w4=> .tr ⟨by simp[Def.bH,ny (w4.len jB),kH],⟨_,_,_,_,_,_,_,_,O,w4,.nil,.nil,.nil,.nil⟩⟩))
theorem En (R:cM L) {c0:AV} (S:PB L b h0 p s o 0):al prog 121 [.ptr p 0,.one c0] h0 (iN L p s 0 h0 ((ux Def.bH (fY eN eJ [])).on o) ja):=by
 refine bR.done ?_;obtain⟨ho,hT,K,hg,P,hp⟩:=S;refine az (n:=48) (rs:=[.tmp 4]) [] ⟨func121,O,O,O⟩ O <| have H:=HI.one hg ho;aX [] [] H hT P O O call108 (λ_ S=>aJ R S eN) ?_;rintro _ h K H P ⟨_,_,_,_,_,_,_,_,rfl⟩;refine aX [] [] H hT P O O call66 (λ_=>aL R) ?_;rintro _ h K H P ⟨q2,rfl⟩;refine aX [] [1,1,1] H hT P O O call114 (λ_=>aI R) ?_;rintro _ h K H P ⟨KW,rfl,kJ⟩;refine aX [] [1] H hT P O O call150 (λ_=>oC R) ?_;rintro _ h K H P ⟨z4,rfl,jB,iC⟩;refine aX [] [1] H hT P O O call109 (λ_=>cP R) ?_;rintro _ h K H P ⟨z5,rfl,mq,lK⟩;refine aX [] [1] H hT P O O call151 (λ_=>oB R) ?_;rintro _ h K H P ⟨z6,q6,rfl,FI,zN⟩;obtain⟨mr,jB⟩:=jB;refine an [1,1,1] H O λh H _=>dz O O O O O jB O O O <| ah H O λh H _=>aj O (λfU=>?_) λfU=>?_
 .obtain⟨rB,mq⟩:=mq;refine an [1] H O λh H _=>dz O O O O O mq O O O <| ah H O λh H _=>aj O (λoY=>?_) λoY=>?_
  .obtain⟨FJ,FI⟩:=FI;refine an [1] H O λh H _=>dz O O O O O FI O O O <| ah H O λh H _=>af O (λlv=>?_) λlv=>?_
   .refine aX [] [] H hT P O O call69 (λ_=>aO R) ?_;rintro _ h K H P rfl;simp at fU;simp at oY;simp at lv;exact ah H O λh H _=>ab [] H O (bR.mt 0 H hT P ho O (.tn λ_=>kJ.te <| iC.th λ_ w4=>lK.th λ_ w5=>zN.th λ_ w6=> .tr (by simp[Def.bH,ny (w4.len jB),fU,ny (w5.len mq),oY,ny (w6.len FI),lv])))
   .simp at fU;simp at oY;simp at lv;exact ah H O λh H _=>ab [] H O (bR.mn 0 [6,7,9,11] H hT P ho O (nx λ_ _=>nx λ_ _=>nx λ_ _=>nx λ_ _=>nx λ_ _=>nz) (.tn λ_=>kJ.te <| iC.th λ_ w4=>lK.th λ_ w5=>zN.th λ_ w6=> .tr ⟨by simp[Def.bH,ny (w4.len jB),fU,ny (w5.len mq),oY,ny (w6.len FI),lv],⟨_,_,_,_,_,_,_,_,O,w5,w4,w6,.nil,.nil⟩⟩))
  .refine ah H O λh H _=>cX O ?_;simp at fU;simp at oY;exact ah H O λh H _=>ab [] H O (bR.mn 0 [6,7,9,11] H hT P ho O (nx λ_ _=>nx λ_ _=>nx λ_ _=>nx λ_ _=>nx λ_ _=>nz) (.tn λ_=>kJ.te <| iC.th λ_ w4=>lK.th λ_ w5=>zN.th λ_ w6=> .tr ⟨by simp[Def.bH,ny (w4.len jB),fU,ny (w5.len mq),oY],⟨_,_,_,_,_,_,_,_,O,w5,w4,w6,.nil,.nil⟩⟩))
 .refine ah H O λh H _=>aj O (λhb=>nomatch hb) λhb=>ah H O λh H _=>cX O ?_;simp at fU;exact ah H O λh H _=>ab [] H O (bR.mn 0 [6,7,9,11] H hT P ho O (nx λ_ _=>nx λ_ _=>nx λ_ _=>nx λ_ _=>nx λ_ _=>nz) (.tn λ_=>kJ.te <| iC.th λ_ w4=>lK.th λ_ w5=>zN.th λ_ w6=> .tr ⟨by simp[Def.bH,ny (w4.len jB),fU],⟨_,_,_,_,_,_,_,_,O,w5,w4,w6,.nil,.nil⟩⟩))
theorem uW (R:cM L) {c0:AV} (S:PB L b h0 p s o 0):al prog 122 [.ptr p 0,.one c0] h0 (iN L p s 0 h0 ((ux Def.bH (fY bh cp [])).on o) ja):=by
 refine bR.done ?_;obtain⟨ho,hT,K,hg,P,hp⟩:=S;refine az (n:=48) (rs:=[.tmp 4]) [] ⟨func122,O,O,O⟩ O <| have H:=HI.one hg ho;aX [] [] H hT P O O call108 (λ_ S=>aJ R S bh) ?_;rintro _ h K H P ⟨_,_,_,_,_,_,_,_,rfl⟩;refine aX [] [] H hT P O O call66 (λ_=>aL R) ?_;rintro _ h K H P ⟨q2,rfl⟩;refine aX [] [1,1,1] H hT P O O call114 (λ_=>aI R) ?_;rintro _ h K H P ⟨KW,rfl,kJ⟩;refine aX [] [1] H hT P O O call150 (λ_=>oC R) ?_;rintro _ h K H P ⟨z4,rfl,jB,iC⟩;refine aX [] [1] H hT P O O call109 (λ_=>cP R) ?_;rintro _ h K H P ⟨z5,rfl,mq,lK⟩;refine aX [] [1] H hT P O O call151 (λ_=>oB R) ?_;rintro _ h K H P ⟨z6,q6,rfl,FI,zN⟩;obtain⟨mr,jB⟩:=jB;refine an [1,1,1] H O λh H _=>dz O O O O O jB O O O <| ah H O λh H _=>aj O (λfU=>?_) λfU=>?_
 .obtain⟨rB,mq⟩:=mq;refine an [1] H O λh H _=>dz O O O O O mq O O O <| ah H O λh H _=>aj O (λoY=>?_) λoY=>?_
  .obtain⟨FJ,FI⟩:=FI;refine an [1] H O λh H _=>dz O O O O O FI O O O <| ah H O λh H _=>af O (λlv=>?_) λlv=>?_
   .refine aX [] [] H hT P O O call69 (λ_=>aO R) ?_;rintro _ h K H P rfl;simp at fU;simp at oY;simp at lv;exact ah H O λh H _=>ab [] H O (bR.mt 0 H hT P ho O (.tn λ_=>kJ.te <| iC.th λ_ w4=>lK.th λ_ w5=>zN.th λ_ w6=> .tr (by simp[Def.bH,ny (w4.len jB),fU,ny (w5.len mq),oY,ny (w6.len FI),lv])))
   .simp at fU;simp at oY;simp at lv;exact ah H O λh H _=>ab [] H O (bR.mn 0 [6,7,9,11] H hT P ho O (nx λ_ _=>nx λ_ _=>nx λ_ _=>nx λ_ _=>nx λ_ _=>nz) (.tn λ_=>kJ.te <| iC.th λ_ w4=>lK.th λ_ w5=>zN.th λ_ w6=> .tr ⟨by simp[Def.bH,ny (w4.len jB),fU,ny (w5.len mq),oY,ny (w6.len FI),lv],⟨_,_,_,_,_,_,_,_,O,w5,w4,w6,.nil,.nil⟩⟩))
  .refine ah H O λh H _=>cX O ?_;simp at fU;simp at oY;exact ah H O λh H _=>ab [] H O (bR.mn 0 [6,7,9,11] H hT P ho O (nx λ_ _=>nx λ_ _=>nx λ_ _=>nx λ_ _=>nx λ_ _=>nz) (.tn λ_=>kJ.te <| iC.th λ_ w4=>lK.th λ_ w5=>zN.th λ_ w6=> .tr ⟨by simp[Def.bH,ny (w4.len jB),fU,ny (w5.len mq),oY],⟨_,_,_,_,_,_,_,_,O,w5,w4,w6,.nil,.nil⟩⟩))
 .refine ah H O λh H _=>aj O (λhb=>nomatch hb) λhb=>ah H O λh H _=>cX O ?_;simp at fU;exact ah H O λh H _=>ab [] H O (bR.mn 0 [6,7,9,11] H hT P ho O (nx λ_ _=>nx λ_ _=>nx λ_ _=>nx λ_ _=>nx λ_ _=>nz) (.tn λ_=>kJ.te <| iC.th λ_ w4=>lK.th λ_ w5=>zN.th λ_ w6=> .tr ⟨by simp[Def.bH,ny (w4.len jB),fU],⟨_,_,_,_,_,_,_,_,O,w5,w4,w6,.nil,.nil⟩⟩))
theorem Cn (R:cM L) {c0:AV} (S:PB L b h0 p s o 0):al prog 123 [.ptr p 0,.one c0] h0 (iN L p s 0 h0 ((ux Def.bH (ik [])).on o) ja):=by
 refine bR.done ?_;obtain⟨ho,hT,K,hg,P,hp⟩:=S;refine az (n:=39) (rs:=[.tmp 4]) [] ⟨func123,O,O,O⟩ O <| have H:=HI.one hg ho;aX [] [] H hT P O O call108 (λ_ S=>aJ R S eO) ?_;rintro _ h K H P ⟨_,_,_,_,_,_,_,_,rfl⟩;refine aX [] [] H hT P O O call66 (λ_=>aL R) ?_;rintro _ h K H P ⟨q2,rfl⟩;refine aX [] [1,1,1] H hT P O O call114 (λ_=>aI R) ?_;rintro _ h K H P ⟨KW,rfl,kJ⟩;refine aX [] [1] H hT P O O call109 (λ_=>cP R) ?_;rintro _ h K H P ⟨z4,rfl,jB,iC⟩;refine aX [] [1] H hT P O O call152 (λ_=>vJ R) ?_;rintro _ h K H P ⟨z5,q5,rfl,mq,lK⟩;obtain⟨mr,jB⟩:=jB;refine an [1,1,1] H O λh H _=>dz O O O O O jB O O O <| ah H O λh H _=>aj O (λfS=>?_) λfS=>?_
 .obtain⟨rB,mq⟩:=mq;refine an [1] H O λh H _=>dz O O O O O mq O O O <| ah H O λh H _=>af O (λfU=>?_) λfU=>?_
  .refine aX [] [] H hT P O O call69 (λ_=>aO R) ?_;rintro _ h K H P rfl;simp at fS;simp at fU;exact ah H O λh H _=>ab [] H O (bR.mt 0 H hT P ho O (.tn λ_=>kJ.te <| iC.th λ_ w4=>lK.th λ_ w5=> .tr (by simp[Def.bH,ny (w4.len jB),fS,ny (w5.len mq),fU])))
  .simp at fS;simp at fU;exact ah H O λh H _=>ab [] H O (bR.mn 0 [4,5,7,11,13] H hT P ho O (nx λ_ _=>nx λ_ _=>nx λ_ _=>nx λ_ _=>nz) (.tn λ_=>kJ.te <| iC.th λ_ w4=>lK.th λ_ w5=> .tr ⟨by simp[Def.bH,ny (w4.len jB),fS,ny (w5.len mq),fU],⟨_,_,_,_,_,_,_,_,O,w4,.nil,.nil,w5,.nil⟩⟩))
 .refine ah H O λh H _=>cX O ?_;simp at fS;exact ah H O λh H _=>ab [] H O (bR.mn 0 [4,5,7,11,13] H hT P ho O (nx λ_ _=>nx λ_ _=>nx λ_ _=>nx λ_ _=>nz) (.tn λ_=>kJ.te <| iC.th λ_ w4=>lK.th λ_ w5=> .tr ⟨by simp[Def.bH,ny (w4.len jB),fS],⟨_,_,_,_,_,_,_,_,O,w4,.nil,.nil,w5,.nil⟩⟩))
theorem Eo (R:cM L) {c0:AV} (S:PB L b h0 p s o 0):al prog 124 [.ptr p 0,.one c0] h0 (iN L p s 0 h0 ((ux Def.bH (jy [])).on o) ja):=by
 refine bR.done ?_;obtain⟨ho,hT,K,hg,P,hp⟩:=S;refine az (n:=39) (rs:=[.tmp 4]) [] ⟨func124,O,O,O⟩ O <| have H:=HI.one hg ho;aX [] [] H hT P O O call108 (λ_ S=>aJ R S fW) ?_;rintro _ h K H P ⟨_,_,_,_,_,_,_,_,rfl⟩;refine aX [] [] H hT P O O call66 (λ_=>aL R) ?_;rintro _ h K H P ⟨q2,rfl⟩;refine aX [] [1,1,1] H hT P O O call114 (λ_=>aI R) ?_;rintro _ h K H P ⟨KW,rfl,kJ⟩;refine aX [] [1] H hT P O O call109 (λ_=>cP R) ?_;rintro _ h K H P ⟨z4,rfl,jB,iC⟩;refine aX [] [1] H hT P O O call153 (λ_=>AP R) ?_;rintro _ h K H P ⟨z5,q5,rfl,mq,lK⟩;obtain⟨mr,jB⟩:=jB;refine an [1,1,1] H O λh H _=>dz O O O O O jB O O O <| ah H O λh H _=>aj O (λfS=>?_) λfS=>?_
 .obtain⟨rB,mq⟩:=mq;refine an [1] H O λh H _=>dz O O O O O mq O O O <| ah H O λh H _=>af O (λfU=>?_) λfU=>?_
  .refine aX [] [] H hT P O O call69 (λ_=>aO R) ?_;rintro _ h K H P rfl;simp at fS;simp at fU;exact ah H O λh H _=>ab [] H O (bR.mt 0 H hT P ho O (.tn λ_=>kJ.te <| iC.th λ_ w4=>lK.th λ_ w5=> .tr (by simp[Def.bH,ny (w4.len jB),fS,ny (w5.len mq),fU])))
  .simp at fS;simp at fU;exact ah H O λh H _=>ab [] H O (bR.mn 0 [4,5,6,9,11] H hT P ho O (nx λ_ _=>nx λ_ _=>nx λ_ _=>nx λ_ _=>nz) (.tn λ_=>kJ.te <| iC.th λ_ w4=>lK.th λ_ w5=> .tr ⟨by simp[Def.bH,ny (w4.len jB),fS,ny (w5.len mq),fU],⟨_,_,_,_,_,_,_,_,O,w4,.nil,.nil,.nil,w5⟩⟩))
 .refine ah H O λh H _=>cX O ?_;simp at fS;exact ah H O λh H _=>ab [] H O (bR.mn 0 [4,5,6,9,11] H hT P ho O (nx λ_ _=>nx λ_ _=>nx λ_ _=>nx λ_ _=>nz) (.tn λ_=>kJ.te <| iC.th λ_ w4=>lK.th λ_ w5=> .tr ⟨by simp[Def.bH,ny (w4.len jB),fS],⟨_,_,_,_,_,_,_,_,O,w4,.nil,.nil,.nil,w5⟩⟩))
theorem Co (R:cM L) {c0:AV} (S:PB L b h0 p s o 0):al prog 125 [.ptr p 0,.one c0] h0 (iN L p s 0 h0 ((ux Def.bH (iq false [])).on o) ja):=by
 refine bR.done ?_;obtain⟨ho,hT,K,hg,P,hp⟩:=S;refine az (n:=39) (rs:=[.tmp 4]) [] ⟨func125,O,O,O⟩ O <| have H:=HI.one hg ho;aX [] [] H hT P O O call108 (λ_ S=>aJ R S ff) ?_;rintro _ h K H P ⟨_,_,_,_,_,_,_,_,rfl⟩;refine aX [] [] H hT P O O call66 (λ_=>aL R) ?_;rintro _ h K H P ⟨q2,rfl⟩;refine aX [] [1,1,1] H hT P O O call114 (λ_=>aI R) ?_;rintro _ h K H P ⟨KW,rfl,kJ⟩;refine aX [] [1] H hT P O O call109 (λ_=>cP R) ?_;rintro _ h K H P ⟨z4,rfl,jB,iC⟩;refine aX [] [1] H hT P O O call154 (λ_=>xZ R) ?_;rintro _ h K H P ⟨z5,q5,rfl,mq,lK⟩;obtain⟨mr,jB⟩:=jB;refine an [1,1,1] H O λh H _=>dz O O O O O jB O O O <| ah H O λh H _=>aj O (λfS=>?_) λfS=>?_
 .obtain⟨rB,mq⟩:=mq;refine an [1] H O λh H _=>dz O O O O O mq O O O <| ah H O λh H _=>af O (λfU=>?_) λfU=>?_
  .refine aX [] [] H hT P O O call69 (λ_=>aO R) ?_;rintro _ h K H P rfl;simp at fS;simp at fU;exact ah H O λh H _=>ab [] H O (bR.mt 0 H hT P ho O (.tn λ_=>kJ.te <| iC.th λ_ w4=>lK.th λ_ w5=> .tr (by simp[Def.bH,ny (w4.len jB),fS,ny (w5.len mq),fU])))
  .simp at fS;simp at fU;exact ah H O λh H _=>ab [] H O (bR.mn 0 [4,6,7,9,11] H hT P ho O (nx λ_ _=>nx λ_ _=>nx λ_ _=>nx λ_ _=>nz) (.tn λ_=>kJ.te <| iC.th λ_ w4=>lK.th λ_ w5=> .tr ⟨by simp[Def.bH,ny (w4.len jB),fS,ny (w5.len mq),fU],⟨_,_,_,_,_,_,_,_,O,w4,.nil,w5,.nil,.nil⟩⟩))
 .refine ah H O λh H _=>cX O ?_;simp at fS;exact ah H O λh H _=>ab [] H O (bR.mn 0 [4,6,7,9,11] H hT P ho O (nx λ_ _=>nx λ_ _=>nx λ_ _=>nx λ_ _=>nz) (.tn λ_=>kJ.te <| iC.th λ_ w4=>lK.th λ_ w5=> .tr ⟨by simp[Def.bH,ny (w4.len jB),fS],⟨_,_,_,_,_,_,_,_,O,w4,.nil,w5,.nil,.nil⟩⟩))
end
end
section
attribute [local irreducible] aU cK bE aQ
section
variable {L:ak->Nat->Option (Int×ak×Nat)} {s:ak} {K:PK} {o o':Option (List Tok)} {d p B:Nat} {h h0 h1 hb:AH} {ids:List Nat} {V:View} {l:List Tok} {b c:Bool} {k:Nat}
theorem Ep {α:Type} {g:Pa α} {Rl:α->AV->Prop} {sk ek:Nat} {x:AV} {es:List (List AV)} (hl:∀bs,((ca sk ek g).on o).map (·.1)=some bs->bx (PE Rl) bs es) (G:aG hb h 1 x es) (dec:j6 g) (sw:∀l,o=some l->l.length<=1048578):dO ((ca sk ek g).on o) λa=>my Rl a x:=by
 intro a l' e;have hl:=hl a (by rw[e];rfl);refine G.sl hl ?_;rw[hl.len]
 cases o with|none=>cases e|some l=>have:=lI dec e;have:=sw l O;omega
theorem HI.VN {e0 e1:Nat×List AV} {V:View} (H:HI h0 ids h (e0::e1::V)):HI h0 ids h (e0::V):=by
 refine⟨HV.of (λe he=>?_) ?_,H.kp,λe he=>?_⟩
 .rcases List.mem_cons.1 he with rfl|he
  .exact H.hv.get (by simp)
  .exact H.hv.get (by simp[he])
 .have:=H.hv.nodup
  simp only[List.map_cons,List.nodup_cons,List.mem_cons,not_or]at this|-;exact⟨this.1.2,this.2.2⟩
 .rcases List.mem_cons.1 he with rfl|he
  .exact H.new _ (by simp)
  .exact H.new e (by simp[he])
theorem Pz {y:Bool} {q:Option (List Tok)} (h:∀l,o=some l->bC l=16/\dN l=du) (hh:rv L 16 o y q):ov.on o=q.map λl=>(true,l):=by
 cases o with
 |none=>cases y with|true=>obtain⟨l,e,_⟩:=hh.1 rfl;cases e|false=>rw[(hh.2 O).2];rfl
 |some l=>
  cases y with
  |true=>obtain⟨l',e,_,rfl⟩:=hh.1 rfl;injection e with e;subst e;exact if_pos (h l O)
  |false=>exact absurd (h l O).1 ((hh.2 O).1 l O)
theorem ML (h:∀l,o=some l->¬ (bC l=16/\dN l=du)):ov.on o=o.map λl=>(false,l):=by cases o with|none=>rfl|some l=>exact if_neg (h l O)
theorem qU {v:Bool} {q:Option (List Tok)} (h:ov.on o=q.map λl=>(v,l)):(ov.on o).map (·.2)=q:=by rw[h];cases q<;>rfl
theorem Cp {v:Bool} {q:Option (List Tok)} (h:ov.on o=q.map λl=>(v,l)):dO (ov.on o) λa=>v=a:=by
 rw[h];intro a l e
 cases q with|none=>cases e|some x=>injection e with e;injection e with e1 e2
theorem GY (R:cM L) {t:ak} {c0:AV} {y0:Bool} (S:PB L b h0 p s o 0):al prog 72 [.ptr p 0,.agg [.str t,.one c0,.bool y0]] h0 (iN L p s 0 h0 ((mK t).on o) wO):=by
 refine bR.done ?_;obtain⟨ho,hT,K,hg,P,hp⟩:=S;refine az (n:=54) (rs:=[.tmp 4]) [] ⟨func72,O,O,O⟩ O <| have H:=HI.one hg ho;aX [3] [] H hT P O O call108 (λ_ S=>aJ R S bK) ?_;rintro _ h K H P ⟨_,_,_,_,_,_,_,_,rfl⟩;refine aX [3] [1] H hT P O O call113 (λ_ S=>dQ (k:=10) R S (by omega)) ?_;rintro _ h K H P ⟨_,_,_,_,_,_,_,_,rfl,_,_⟩;refine aX [3] [] H hT P O O call66 (λ_=>aL R) ?_;rintro _ h K H P ⟨q3,rfl⟩;refine aX [3] [2,2,2,2] H hT P O O call114 (λ_=>aI R) ?_;rintro _ h K H P ⟨nm4,rfl,iC⟩;refine aX [3] [2] H hT P O O call115 (λ_=>vH R) ?_;rintro _ h K H P ⟨z5,rfl,mq,lK⟩;refine aX [3] [2] H hT P O O call109 (λ_=>cP R) ?_;rintro _ h K H P ⟨z6,rfl,FI,zN⟩;refine aX [3] [2] H hT P O O call67 (λ_=>cH R) ?_;rintro _ h K H P ⟨k7,v7,_,_,_,_,_,rfl,KY⟩;refine aS [3] [3,3] H O λh H _=>aj O (λoY=>?_) λoY=>?_
 .refine aS [3] [3] H O λh H _=>af O (λlv=>?_) λlv=>?_
  .refine aS [3] [2] H O λh H _=>ae O call116 (eX (k:=16) R (PB.bU H hT P) (by omega)) ?_;rintro _ _ ⟨kp,y10,o10,rfl,YL,⟨_,_,K,hg,P,_⟩⟩;replace H:=H.aA kp hg;have Sx:=Pz (λl e=>by have q1:=(KY l e).1;have q2:=(KY l e).2.1;simp at oY lv;exact⟨by omega,by rw[<-q2];exact lv⟩) YL;refine aX [3] [] H hT P O O call108 (λ_ S=>aJ R S rq) ?_;rintro _ h K H P ⟨_,_,_,_,_,_,_,_,rfl⟩;refine aX [3] [] H hT P O O call117 (λ_=>x6 R) ?_;rintro _ h K H P ⟨z12,rfl,VJ,MJ⟩;exact aS [3] [2] H O λh H _=>ab [] H O (bR.mm 1 [] H hT P ho O ((nx λ_ _=>nx λ_ _=>nx λ_ _=>nx λ_ _=>nx λ_ _=>nx λ_ _=>nx λ_ _=>nx λ_ _=>nz).trans (by erw[(qU Sx)])) (.tn λ_=> .tn λ_=>iC.te <| lK.th λ_ w5=>zN.th λ_ w6=> .tS (qU Sx) (Cp Sx) λ_ w10=> .tn λ_=>MJ.th λ_ KX=> .tr (w10▸⟨_,_,_,_,O,w5,KX⟩)))
  .have Sy:=ML λl e q=>by have q1:=(KY l e).1;have q2:=(KY l e).2.1;simp at lv;exact lv (q2.trans q.2)
   refine aX [3] [] H hT P O O call108 (λ_ S=>aJ R S rq) ?_;rintro _ h K H P ⟨_,_,_,_,_,_,_,_,rfl⟩;refine aX [3] [] H hT P O O call117 (λ_=>x6 R) ?_;rintro _ h K H P ⟨z15,rfl,aao,YM⟩;exact aS [3] [2] H O λh H _=>ab [] H O (bR.mm 1 [] H hT P ho O ((nx λ_ _=>nx λ_ _=>nx λ_ _=>nx λ_ _=>nx λ_ _=>nx λ_ _=>nx λ_ _=>nx λ_ _=>nz).trans (by erw[(qU Sy)])) (.tn λ_=> .tn λ_=>iC.te <| lK.th λ_ w5=>zN.th λ_ w6=> .tS (qU Sy) (Cp Sy) λ_ w13=> .tn λ_=>YM.th λ_ w15=> .tr (w13▸⟨_,_,_,_,O,w5,w15⟩)))
 .refine aS [3] [] H O λh H _=>cX O ?_;have Sz:=ML λl e q=>by have q1:=(KY l e).1;have q2:=(KY l e).2.1;simp at oY;omega
  refine aX [3] [] H hT P O O call108 (λ_ S=>aJ R S rq) ?_;rintro _ h K H P ⟨_,_,_,_,_,_,_,_,rfl⟩;refine aX [3] [] H hT P O O call117 (λ_=>x6 R) ?_;rintro _ h K H P ⟨z18,rfl,aap,YN⟩;exact aS [3] [2] H O λh H _=>ab [] H O (bR.mm 1 [] H hT P ho O ((nx λ_ _=>nx λ_ _=>nx λ_ _=>nx λ_ _=>nx λ_ _=>nx λ_ _=>nx λ_ _=>nx λ_ _=>nz).trans (by erw[(qU Sz)])) (.tn λ_=> .tn λ_=>iC.te <| lK.th λ_ w5=>zN.th λ_ w6=> .tS (qU Sz) (Cp Sz) λ_ w16=> .tn λ_=>YN.th λ_ w18=> .tr (w16▸⟨_,_,_,_,O,w5,w18⟩)))
theorem GZ (R:cM L) {c0:AV} (S:PB L b h0 p s o 0):al prog 126 [.ptr p 0,.one c0] h0 (iN L p s 0 h0 ((ux List.isEmpty tq).on o) λ_ _=>True):=by
 refine bR.done ?_;obtain⟨ho,hT,K,hg,P,hp⟩:=S;refine az (n:=27) (rs:=[.tmp 4]) [] ⟨func126,O,O,O⟩ O <| have H:=HI.one hg ho;aX [] [] H hT P O O call108 (λ_ S=>aJ R S bK) ?_;rintro _ h K H P ⟨_,_,_,_,_,_,_,_,rfl⟩;refine aX [] [] H hT P O O call113 (λ_ S=>dQ (k:=10) R S (by omega)) ?_;rintro _ h K H P ⟨_,_,_,_,_,_,_,_,rfl,_,_⟩;refine aX [] [] H hT P O O call66 (λ_=>aL R) ?_;rintro _ h K H P ⟨q3,rfl⟩;refine aX [] [1,1] H hT P O O call114 (λ_=>aI R) ?_;rintro _ h K H P ⟨nm4,rfl,iC⟩;refine aX [] [1] H hT P O O call109 (λ_=>cP R) ?_;rintro _ h K H P ⟨z5,rfl,mq,lK⟩;obtain⟨rB,mq⟩:=mq;refine an [1,1] H O λh H _=>dz O O O O O mq O O O <| ah H O λh H _=>af O (λfS=>?_) λfS=>?_
 .refine aX [] [] H hT P O O call69 (λ_=>aO R) ?_;rintro _ h K H P rfl;simp at fS;exact ah H O λh H _=>ab [] H O (bR.mt 0 H hT P ho O (.tn λ_=> .tn λ_=>iC.te <| lK.th λ_ w5=> .tr (by simp[ny (w5.len mq),fS])))
 .simp at fS;exact ah H O λh H _=>ab [] H O (bR.mn 0 [2,4,7] H hT P ho O (nx λ_ _=>nx λ_ _=>nx λ_ _=>nx λ_ _=>nz) (.tn λ_=> .tn λ_=>iC.te <| lK.th λ_ w5=> .tr ⟨by simp[ny (w5.len mq),fS],trivial⟩))
theorem zQ (R:cM L) {t:ak} {c0:AV} {y0:Bool} (S:PB L b h0 p s o 0):al prog 71 [.ptr p 0,.agg [.str t,.one c0,.bool y0]] h0 (iN L p s 0 h0 ((dw t).on o) tE):=by
 refine bR.done ?_;obtain⟨ho,hT,K,hg,P,hp⟩:=S;refine az (n:=32) (rs:=[.tmp 4]) [] ⟨func71,O,O,O⟩ O <| have H:=HI.one hg ho;aX [2,3] [] H hT P O O call108 (λ_ S=>aJ R S da) ?_;rintro _ h K H P ⟨_,_,_,_,_,_,_,_,rfl⟩;refine aX [2,3] [1,2] H hT P O O call66 (λ_=>aL R) ?_;rintro _ h K H P ⟨q2,rfl⟩;refine aX [2,3] [2,2,2,2] H hT P O O call109 (λ_=>cP R) ?_;rintro _ h K H P ⟨z3,rfl,SA,kJ⟩;refine aS [2,3] [2] H O λh H _=>?_;replace H:=H.VN;have hB:=H.jM;have gX:=H.hv.1.2.2 _ (List.mem_cons_self ..);simp only at gX;have sw:=λl e=>(P.len R (l:=l) e).1
 refine ae O call110 (lZ (sk:=13) (ek:=14) (m:=h0.nt) (ids:=[p,_]) R tp lJ call111 (by simp) (rz (PE Iy) h0 _ (AK _ _ _ _ _ _)) (λ_=>lq gX) (λ_=>ir) (λb l bs h S j jN hm=>bxR.1 (Ej R) gX S j jN) (PB.bU H hT P) (by omega) (by omega) ⟨hB.2,H.kp.nt,.ao,[],hB.1,.inl ⟨O,O⟩,λbs e=>by injection e with e;subst e;trivial⟩ H.kp.nt) ?_;rintro _ _ ⟨kp,⟨_,_,K,hg,P,_⟩,⟨_,_,z4,mr,pD,G,hl⟩,q4,rfl⟩;have jB:FH z4:=⟨_,G.elems⟩;have iC:=Ep hl G lJ sw;exact fm 1 [_,_,.one z4,_,_,_,_] (H.oz kp hg pD) O O (qa 2 _) λh H _=>aS [2,3] [1] H O λh H _=>ab [] H O (bR.mm 0 [] H hT P ho O (nx λ_ _=>nx λ_ _=>nx λ_ _=>nz) (.tn λ_=>kJ.th λ_ w3=>iC.th λ_ w4=> .tr ⟨_,_,_,O,w3,w4⟩))
theorem zR (R:cM L) {c0:AV} (S:PB L b h0 p s o 0):al prog 119 [.ptr p 0,.one c0] h0 (iN L p s 0 h0 ((ux av.bH (dw [])).on o) tE):=by
 refine bR.done ?_;obtain⟨ho,hT,K,hg,P,hp⟩:=S;refine az (n:=32) (rs:=[.tmp 4]) [] ⟨func119,O,O,O⟩ O <| have H:=HI.one hg ho;aX [2] [] H hT P O O call108 (λ_ S=>aJ R S da) ?_;rintro _ h K H P ⟨_,_,_,_,_,_,_,_,rfl⟩;refine aX [2] [] H hT P O O call66 (λ_=>aL R) ?_;rintro _ h K H P ⟨q2,rfl⟩;refine aX [2] [1,1] H hT P O O call109 (λ_=>cP R) ?_;rintro _ h K H P ⟨z3,rfl,SA,kJ⟩;refine aS [2] [1] H O λh H _=>?_;have hB:=H.jM;have gX:=H.hv.1.2.2 _ (List.mem_cons_self ..);simp only at gX;have sw:=λl e=>(P.len R (l:=l) e).1
 refine ae O call110 (lZ (sk:=13) (ek:=14) (m:=h0.nt) (ids:=[p,_]) R tp lJ call161 (by simp) (rz (PE Iy) h0 _ (AK _ _ _ _ _ _)) (λ_=>lq gX) (λ_=>ir) (λb l bs h S j jN hm=>bxR.2 (Ej R) gX S j jN) (PB.bU H hT P) (by omega) (by omega) ⟨hB.2,H.kp.nt,.ao,[],hB.1,.inl ⟨O,O⟩,λbs e=>by injection e with e;subst e;trivial⟩ H.kp.nt) ?_;rintro _ _ ⟨kp,⟨_,_,K,hg,P,_⟩,⟨_,_,z4,mr,pD,G,hl⟩,q4,rfl⟩;have jB:FH z4:=⟨_,G.elems⟩;have iC:=Ep hl G lJ sw;refine fm 1 [_,_,.one z4,_,_,_,_] (H.oz kp hg pD) O O (qa 2 _) λh H _=>?_;obtain⟨wo,SA⟩:=SA;refine aS [2] [1,1] H O λh H _=>dz O O O O O SA O O O <| aS [2] [] H O λh H _=>aj O (λkH=>?_) λkH=>?_
 .obtain⟨mr,jB⟩:=jB;refine aS [2] [1] H O λh H _=>dz O O O O O jB O O O <| aS [2] [] H O λh H _=>af O (λfS=>?_) λfS=>?_
  .refine aX [2] [] H hT P O O call69 (λ_=>aO R) ?_;rintro _ h K H P rfl;simp at kH;simp at fS;exact aS [2] [] H O λh H _=>ab [] H O (bR.mt 0 H hT P ho O (.tn λ_=>kJ.th λ_ w3=>iC.th λ_ w4=> .tr (by simp[av.bH,ny (w3.len SA),kH,ny (w4.len jB),fS])))
  .simp at kH;simp at fS;exact aS [2] [] H O λh H _=>ab [] H O (bR.mn 0 [4] H hT P ho O (nx λ_ _=>nx λ_ _=>nx λ_ _=>nz) (.tn λ_=>kJ.th λ_ w3=>iC.th λ_ w4=> .tr ⟨by simp[av.bH,ny (w3.len SA),kH,ny (w4.len jB),fS],⟨_,_,_,O,w3,w4⟩⟩))
 .refine aS [2] [] H O λh H _=>cX O ?_;simp at kH;exact aS [2] [] H O λh H _=>ab [] H O (bR.mn 0 [4] H hT P ho O (nx λ_ _=>nx λ_ _=>nx λ_ _=>nz) (.tn λ_=>kJ.th λ_ w3=>iC.th λ_ w4=> .tr ⟨by simp[av.bH,ny (w3.len SA),kH],⟨_,_,_,O,w3,w4⟩⟩))
end
end
end
end Go.Am
