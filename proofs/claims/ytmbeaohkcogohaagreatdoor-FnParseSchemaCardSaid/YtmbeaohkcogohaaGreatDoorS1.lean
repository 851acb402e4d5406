import Derived.Calls
import Derived.Defers
import Derived.Laws.AppendOwn
import Derived.Laws.BytesArg
import Derived.Laws.Cover4
import Derived.Laws.IdiomStrings
import Derived.Laws.MakeOwn
import Derived.Laws.Sem
import Derived.Laws.Strings
import Derived.Laws.Strings2
import Derived.Laws.StructEq
import Derived.Laws.Tables
import Derived.Laws.World
import Derived.Lib.AppendZeros
import Derived.Lib.Buffer
import Derived.Lib.BufferWrite
import Derived.Lib.ByteType
import Derived.Lib.MapLaws
import Derived.Lib.RuneBytes
import Derived.Lib.UnsafeStr
import Derived.Orders
import Derived.Recover
import Derived.Shelf.Strings.OnBuilder
import Derived.Shelf.Unicode.DecodeAny
import Derived.Tactics
import Derived.Tactics2
import Derived.Test.YtmbeaohkcogohaaGreatDoorProg
set_option maxRecDepth 100000
set_option maxHeartbeats 4000000
set_option linter.unusedVariables false
set_option linter.unusedSimpArgs false
namespace Go.Am
open Go.Proofs Go.Proofs.Tryz
theorem O {α:Sort _} {a:α}:a=a:=rfl
inductive Tk where
 |none|full
 |own (aw fk:Nat)
 |Ld (aw fk:Nat)
inductive AV where
 |bool (b:Bool)
 |int (k:IntKind) (n:Int)
 |OG (k:FloatKind) (bits:Nat)
 |str (s:List UInt8)
 |bq
 |ptr (o off:Nat)
 |ref (id:Option (Nat×Nat)) (cells:List AV)
 |ao
 |vec (tk:Tk) (sz:Nat) (elems:List (List AV))
 |sl (o off n cap:Nat) (ex:Bool)
 |ph
 |map (o:Nat)
 |vW
 |pG (f:FuncId) (eV:List AV)
 |bu
 |iface (t:TypeId) (v:AV)
 |agg (cs:List AV)
 |cN (vs:List AV)
 |one (x:AV)
 deriving Inhabited
inductive mV where
 |cells (cs:List AV)
 |map (es:List (AV×AV))
 |KM
 |iter (s:List UInt8) (pos:Nat)
 |row (cap:Nat) (cs:List AV)
 |gone
structure AH where
 n:Nat
 get:Nat->Option mV
 nt:Nat
 bV:Nat->Nat
 aV:Addr->Option Value
structure Gh where
 ob:Nat->Option Nat
 bl:Nat->Option Nat
 va:Nat->Nat->Option Addr
 ext:Nat->Nat
 nl:Nat
 cur:Nat->Nat
 tb:Nat->Nat
 pv:Nat->Option Nat
def vX (g:Gh) (w:World) (aw:Nat) (ad:Addr) (n cap sz:Nat):Prop:=ad.spot=none/\ad.block=g.tb aw/\g.ext ad.block=ad.off+n*sz/\∃c T,w.heap[ad.block]? =some (.cells c T (0,0))/\ad.off+cap*sz<=c.size
def uA (g:Gh) (w:World) (tk:Tk) (ad:Addr) (n cap sz:Nat):Prop:=
 match tk with
 | .none=>True
 | .full=>cap=n
 | .own aw fk=>aw <g.nl/\fk<=g.cur aw/\(g.cur aw=fk->n <cap->vX g w aw ad n cap sz)/\g.va aw fk=some ad/\g.bl ad.block=some aw
 | .Ld aw fk=>aw <g.nl/\fk<=g.cur aw/\(g.cur aw=fk->n <cap->vX g w aw ad n cap sz)
def HL (g:Gh) (id:Option (Nat×Nat)) (ad:Addr):Prop:=
 match id with
 |none=>True
 |some (aw,fk)=>g.va aw fk=some ad/\g.bl ad.block=some aw
def Le (w:World) (b:Nat):Prop:=∃c T,w.heap[b]? =some (.cells c T (0,0))
inductive VR (g:Gh) (w:World):AV->Value->Prop where
 |bool (b:Bool):VR g w (.bool b) (.bool b)
 |int (k:IntKind) (n:Int):VR g w (.int k n) (.int k n)
 |OG (k:FloatKind) (n:Nat):VR g w (.OG k n) (.float k n)
 |str (s:ByteArray):VR g w (.str s.data.toList) (.string s)
 |bq:VR g w .bq (.pointer none)
 |ptr (o off b:Nat) (hb:g.ob o=some b):VR g w (.ptr o off) (.pointer (some ⟨b,off,none⟩))
 |ref (id:Option (Nat×Nat)) (cells:List AV) (ad:Addr) (vs:Nat->Value) (hc:∀i,i <cells.length->w.cell? (ad.add i)=some (vs i))
  (hv:∀i (hi:i <cells.length),VR g w cells[i] (vs i)) (ho:∀i,i <cells.length->(vs i).oneCell'=true)
  (hm:∀i,i <cells.length->(ad.add i).off <g.ext (ad.add i).block) (hr:HL g id ad) (hz:Le w ad.block):
  VR g w (.ref id cells) (.pointer (some ad))
 |ao:VR g w .ao (.slice none 0 0)
 |vec (tk:Tk) (sz:Nat) (elems:List (List AV)) (ad:Addr) (cap:Nat) (vs:Nat->Nat->Value)
  (hs:∀i (hi:i <elems.length),elems[i].length=sz)
  (hc:∀i j,i <elems.length->j <sz->w.cell? (ad.add (i*sz+j))=some (vs i j))
  (hv:∀i j (hi:i <elems.length) (hj:j <elems[i].length),VR g w elems[i][j] (vs i j))
  (ho:∀i j,i <elems.length->j <sz->(vs i j).oneCell'=true)
  (hm:∀i j,i <elems.length->j <sz->(ad.add (i*sz+j)).off <g.ext (ad.add (i*sz+j)).block)
  (hn:elems.length<=cap) (dY:cap <2^63) (ht:uA g w tk ad elems.length cap sz) (hz:elems≠[]->Le w ad.block):
  VR g w (.vec tk sz elems) (.slice (some ad) elems.length cap)
 |sl (o off n cap:Nat) (ex:Bool) (b rc:Nat) (hb:g.ob o=some b) (hs:∃c T fz,w.heap[b]? =some (.cells c T fz)/\off+rc<=c.size) (hn:n<=cap) (xb:cap<=rc) (hex:ex=true->rc=cap) (dY:rc <2^63):VR g w (.sl o off n cap ex) (.slice (some ⟨b,off,none⟩) n rc)
 |ph:VR g w .ph (.map none)
 |map (o b:Nat) (hb:g.ob o=some b):VR g w (.map o) (.map (some b))
 |vW:VR g w .vW .nilFunc
 |pG (f:FuncId) (eV:List AV) (vs:Array Value) (hn:vs.size=eV.length) (hv:∀i (hi:i <eV.length),VR g w eV[i] (vs.getD i undef)): VR g w (.pG f eV) (.func (.func f) #[] vs)
 |bu:VR g w .bu .nilIface
 |iface (t:TypeId) (x:AV) (v:Value) (h:VR g w x v):VR g w (.iface t x) (.iface t v)
 |agg (cs:List AV) (vs:Array Value) (hn:vs.size=cs.length) (hv:∀i (hi:i <cs.length),VR g w cs[i] (vs.getD i undef)) (ho:∀i,i <cs.length->(vs.getD i undef).oneCell'=true):VR g w (.agg cs) (.agg vs)
 |cN (cs:List AV) (vs:Array Value) (hn:vs.size=cs.length) (hv:∀i (hi:i <cs.length),VR g w cs[i] (vs.getD i undef)): VR g w (.cN cs) (.tuple vs)
 |one (x:AV) (v:Value) (h:VR g w x v) (ho:v.oneCell'=true):VR g w (.one x) v
structure Evc (g:Gh) (w:World) (g':Gh) (w':World):Prop where
 os:w'.os=w.os
 tape:w'.tape=w.tape
 output:w'.output=w.output
 size:w.heap.size<=w'.heap.size
 ob:∀o b,g.ob o=some b->g'.ob o=some b
 FB:∀o b,g'.ob o=some b->(∃o',g.ob o'=some b)\/w.heap.size<=b
 bl:∀b l,g.bl b=some l->g'.bl b=some l
 Rr:∀b l,g'.bl b=some l->g.bl b=some l\/w.heap.size<=b
 va:∀l v a,g.va l v=some a->g'.va l v=some a
 Lf:∀a:Addr,a.off <g.ext a.block->a.off <g'.ext a.block/\w'.cell? a=w.cell? a
 nl:g.nl<=g'.nl
 cur:∀l,l <g.nl->g.cur l<=g'.cur l
 bV:∀l,l <g.nl->g'.cur l=g.cur l->g'.tb l=g.tb l/\g'.ext (g.tb l)=g.ext (g.tb l)
 shape:∀(b:Nat) c T fz,w.heap[b]? =some (.cells c T fz)->∃c',w'.heap[b]? =some (.cells c' T fz)/\c'.size=c.size
 pv:∀k b,g.pv k=some b->g'.pv k=some b
 QH:∀k b,g'.pv k=some b->g.pv k=some b\/w.heap.size<=k
structure Ev (g:Gh) (w:World) (g':Gh) (w':World):Prop extends Evc g w g' w' where
 rest:∀b:Nat,b <w.heap.size->(∀o,g.ob o≠some b)->g.bl b=none->g.pv b=none->w'.heap[b]? =w.heap[b]? /\g'.ext b=g.ext b
theorem Evc.refl (g:Gh) (w:World):Evc g w g w where
 os:=rfl
 tape:=rfl
 output:=rfl
 size:=Nat.le_refl _
 ob _ _ h:=h
 FB _ _ h:= .inl ⟨_,h⟩
 bl _ _ h:=h
 Rr _ _ h:= .inl h
 va _ _ _ h:=h
 Lf _ h:=⟨h,O⟩
 nl:=Nat.le_refl _
 cur _ _:=Nat.le_refl _
 bV _ _ _:=⟨O,O⟩
 shape _ c _ _ h:=⟨c,h,O⟩
 pv _ _ e:=e
 QH _ _ e:= .inl e
theorem Ev.refl (g:Gh) (w:World):Ev g w g w:=⟨.refl g w,λ_ _ _ _ _=>⟨O,O⟩⟩
theorem Evc.trans {g g' UI:Gh} {w w' UJ:World} (h:Evc g w g' w') (k:Evc g' w' UI UJ):Evc g w UI UJ where
 os:=k.os.trans h.os
 tape:=k.tape.trans h.tape
 output:=k.output.trans h.output
 size:=Nat.le_trans h.size k.size
 ob o b e:=k.ob o b (h.ob o b e)
 FB o b e:=by
  rcases k.FB o b e with⟨o',e⟩|e
  .exact h.FB o' b e
  .exact .inr (Nat.le_trans h.size e)
 bl b l e:=k.bl b l (h.bl b l e)
 Rr b l e:=by
  rcases k.Rr b l e with e|e
  .exact h.Rr b l e
  .exact .inr (Nat.le_trans h.size e)
 va l v a e:=k.va l v a (h.va l v a e)
 Lf a e:=by obtain⟨e1,c1⟩:=h.Lf a e;obtain⟨e2,c2⟩:=k.Lf a e1;exact⟨e2,c2.trans c1⟩
 nl:=Nat.le_trans h.nl k.nl
 cur l e:=Nat.le_trans (h.cur l e) (k.cur l (Nat.lt_of_lt_of_le e h.nl))
 bV l e c:=by
  have h1:=h.cur l e
  have h2:=k.cur l (Nat.lt_of_lt_of_le e h.nl)
  obtain⟨t1,x1⟩:=h.bV l e (by omega);obtain⟨t2,x2⟩:=k.bV l (Nat.lt_of_lt_of_le e h.nl) (by omega);refine⟨t2.trans t1,?_⟩;rw[<-t1,x2,t1,x1]
 shape b c T fz e:=by obtain⟨c1,e1,s1⟩:=h.shape b c T fz e;obtain⟨c2,e2,s2⟩:=k.shape b c1 T fz e1;exact⟨c2,e2,s2.trans s1⟩
 pv _ _ e:=k.pv _ _ (h.pv _ _ e)
 QH j b e:=by
  rcases k.QH j b e with e|e
  .exact h.QH j b e
  .exact .inr (Nat.le_trans h.size e)
theorem Ev.trans {g g' UI:Gh} {w w' UJ:World} (h:Ev g w g' w') (k:Ev g' w' UI UJ):Ev g w UI UJ where
 toEvc:=h.toEvc.trans k.toEvc
 rest b hb ho hl hp:=by
  obtain⟨e1,x1⟩:=h.rest b hb ho hl hp;have WS:g'.pv b=none:=by
   cases e:g'.pv b with
   |none=>rfl
   |some l=>
    rcases h.QH b l e with e|e
    .rw[hp]at e
     cases e
    .omega
  have FQ:∀o,g'.ob o≠some b:=λo e=>by
   rcases h.FB o b e with⟨o',e⟩|e
   .exact ho o' e
   .omega
  have uB:g'.bl b=none:=by
   cases e:g'.bl b with
   |none=>rfl
   |some l=>
    rcases h.Rr b l e with e|e
    .rw[hl]at e
     cases e
    .omega
  obtain⟨e2,x2⟩:=k.rest b (Nat.lt_of_lt_of_le hb h.size) FQ uB WS;exact⟨e2.trans e1,x2.trans x1⟩
theorem vX.mono {g g':Gh} {w w':World} {aw:Nat} {ad:Addr} {n cap sz:Nat} (h:Evc g w g' w') (hl:aw <g.nl) (hc:g'.cur aw=g.cur aw) (t:vX g w aw ad n cap sz):
 vX g' w' aw ad n cap sz:=by
 obtain⟨hs,hb,he,c,T,hh,hz⟩:=t;obtain⟨t1,x1⟩:=h.bV aw hl hc;obtain⟨c',hh',HM⟩:=h.shape _ c T _ hh;exact⟨hs,by rw[t1];exact hb,by rw[hb,x1,<-hb];exact he,c',T,hh',by omega⟩
theorem uA.mono {g g':Gh} {w w':World} {tk:Tk} {ad:Addr} {n cap sz:Nat} (h:Evc g w g' w') (t:uA g w tk ad n cap sz):uA g' w' tk ad n cap sz:=by cases tk with|none=>exact t|full=>exact t|own aw fk=>obtain⟨hl,hv,ht,ha,hb⟩:=t;have hm:=h.cur aw hl;exact⟨Nat.lt_of_lt_of_le hl h.nl,by omega,λe hn=>(ht (by omega) hn).mono h hl (by omega),h.va _ _ _ ha,h.bl _ _ hb⟩|Ld aw fk=>obtain⟨hl,hv,ht⟩:=t;have hm:=h.cur aw hl;exact⟨Nat.lt_of_lt_of_le hl h.nl,by omega,λe hn=>(ht (by omega) hn).mono h hl (by omega)⟩
theorem HL.mono {g g':Gh} {w w':World} {id:Option (Nat×Nat)} {ad:Addr} (h:Evc g w g' w') (t:HL g id ad):HL g' id ad:=by cases id with|none=>exact t|some p=>exact⟨h.va _ _ _ t.1,h.bl _ _ t.2⟩
theorem Le.mono {g g':Gh} {w w':World} (h:Evc g w g' w') {b:Nat} (z:Le w b):Le w' b:=by obtain⟨c,T,e⟩:=z;obtain⟨c',e',_⟩:=h.shape _ _ _ _ e;exact⟨c',T,e'⟩
theorem VR.mono {g g':Gh} {w w':World} (h:Evc g w g' w') {x:AV} {v:Value} (r:VR g w x v):VR g' w' x v:=by induction r with|bool b=>exact .bool b|int k n=>exact .int k n|OG k n=>exact .OG k n|str s=>exact .str s|bq=>exact .bq|ptr o off b hb=>exact .ptr o off b (h.ob _ _ hb)|ref id cells ad vs hc hv ho hm hr hz ih=>exact .ref id cells ad vs (λi hi=>(h.Lf _ (hm i hi)).2.trans (hc i hi)) ih ho (λi hi=>(h.Lf _ (hm i hi)).1) (hr.mono h) (hz.mono h)|ao=>exact .ao|vec tk sz elems ad cap vs hs hc hv ho hm hn dY ht hz ih=>exact .vec tk sz elems ad cap vs hs (λi j hi hj=>(h.Lf _ (hm i j hi hj)).2.trans (hc i j hi hj)) ih ho (λi j hi hj=>(h.Lf _ (hm i j hi hj)).1) hn dY (ht.mono h) (λe=>(hz e).mono h)|sl o off n cap ex b rc hb hs hn xb hex dY=>obtain⟨c,T,fz,hs,hz⟩:=hs;obtain⟨c',Dn,HM⟩:=h.shape _ _ _ _ hs;exact .sl o off n cap ex b rc (h.ob _ _ hb) ⟨c',T,fz,Dn,by omega⟩ hn xb hex dY|ph=>exact .ph|map o b hb=>exact .map o b (h.ob _ _ hb)|vW=>exact .vW|pG f eV vs hn hv ih=>exact .pG f eV vs hn ih|bu=>exact .bu|iface t x v h ih=>exact .iface t x v ih|agg cs vs hn hv ho ih=>exact .agg cs vs hn ih ho|cN cs vs hn hv ih=>exact .cN cs vs hn ih|one x v h ho ih=>exact .one x v ih ho
def Df (g:Gh) (w:World) (xs:List AV) (vs:Array Value):Prop:=vs.size=xs.length/\∀i (hi:i <xs.length),VR g w xs[i] (vs.getD i undef)
theorem Df.mono {g g':Gh} {w w':World} (h:Evc g w g' w') {xs:List AV} {vs:Array Value} (r:Df g w xs vs):Df g' w' xs vs:=⟨r.1,λi hi=>(r.2 i hi).mono h⟩
def sJ (g:Gh) (w:World) (xs:List AV) (vs:Array Value):Prop:=Df g w xs vs/\∀i,i <xs.length->(vs.getD i undef).oneCell'=true
theorem sJ.mono {g g':Gh} {w w':World} (h:Evc g w g' w') {xs:List AV} {vs:Array Value} (r:sJ g w xs vs):sJ g' w' xs vs:=⟨r.1.mono h,r.2⟩
def OR (g:Gh) (w:World) (x:mV) (b:Nat):Prop:=
 match x with
 | .cells cs=>∃vs T,w.heap[b]? =some (.cells vs T (0,0))/\sJ g w cs vs
 | .map es=>∃(ms:Array MapEntry) (Dg:Nat),w.heap[b]? =some (.map ms Dg)/\ms.size=es.length/\∀i (hi:i <es.length),∃m,ms[i]? =some m/\VR g w es[i].1 m.key/\VR g w es[i].2 m.val
 | .KM=>∃vs T,w.heap[b]? =some (.cells vs T (0,0))
 | .row cap cs=>∃vs T fz,w.heap[b]? =some (.cells vs T fz)/\(fz=(0,0)\/vs.size<=fz.1)/\(cs.length<=cap/\cap<=vs.size)/\∀i (hi:i <cs.length),VR g w cs[i] (vs.getD i undef)/\(vs.getD i undef).oneCell'=true
 | .gone=>∃c T fz,w.heap[b]? =some (.cells c T fz)
 | .iter s pos=>w.heap[b]? =some (.stringIter ⟨s.toArray⟩ pos)
theorem OR.mono {g g':Gh} {w w':World} (h:Evc g w g' w') {x:mV} {b:Nat} (e:w'.heap[b]? =w.heap[b]?) (ep:∀k,g.pv k=some b->w'.heap[k]? =w.heap[k]?) (r:OR g w x b):OR g' w' x b:=by cases x with|cells cs=>obtain⟨vs,T,hh,hv⟩:=r;exact⟨vs,T,e.trans hh,hv.mono h⟩|map es=>obtain⟨ms,Dg,hh,hs,hv⟩:=r;refine⟨ms,Dg,e.trans hh,hs,λi hi=>?_⟩;obtain⟨m,hm,h1,h2⟩:=hv i hi;exact⟨m,hm,h1.mono h,h2.mono h⟩|KM=>obtain⟨vs,T,hh⟩:=r;exact⟨vs,T,e.trans hh⟩|row cap cs=>obtain⟨vs,T,fz,hh,hf,hz,hv⟩:=r;exact⟨vs,T,fz,e.trans hh,hf,hz,λi hi=>⟨(hv i hi).1.mono h,(hv i hi).2⟩⟩|gone=>obtain⟨c,T,fz,hh⟩:=r;exact⟨c,T,fz,e.trans hh⟩|iter s pos=>exact e.trans r
structure Rel (g:Gh) (w:World) (h:AH):Prop where
 uC:∀o b,g.ob o=some b->b <w.heap.size/\(h.get o≠some .KM->h.get o≠some .gone->g.ext b=0)/\g.bl b=none
 Bm:∀o o' b,g.ob o=some b->g.ob o'=some b->o=o'\/h.get o=some .gone\/h.get o'=some .gone
 Ag:∀o b,g.ob o=some b->o <h.n
 obj:∀o x,h.get o=some x->∃b,g.ob o=some b/\OR g w x b
 KN:∀o b,g.ob o=some b->∃x,h.get o=some x
 nt:g.nl=h.nt
 cur:∀l,l <h.nt->g.cur l=h.bV l
 FT:∀b l,g.bl b=some l->l <g.nl/\b <w.heap.size
 Dh:∀l,l <g.nl->g.bl (g.tb l)=some l
 HN:∀l v a,g.va l v=some a->l <g.nl/\v<=g.cur l
 ext:∀b:Nat,0 <g.ext b->∃c T fz,w.heap[b]? =some (.cells c T fz)/\g.ext b<=c.size
 FC:∀k b,g.pv k=some b->k <w.heap.size/\g.ext k=0/\g.bl k=none/\∀o,g.ob o≠some k
 HO:∀a v,h.aV a=some v->w.cell? a=some v/\a.off <g.ext a.block
inductive Slot where
 |v (x:AV)
 |lp (d off:Nat)
 |gI
structure ay where
 n:Nat
 f:Nat->Slot
 loc:Nat->List AV
 df:List (FuncId×List AV)
def VS (g:Gh) (w:World) (lb:Nat->Option Nat):Slot->Value->Prop
 | .v x,v=>VR g w x v
 | .lp d off,v=>∃b,lb d=some b/\v= .pointer (some ⟨b,off,none⟩)
 | .gI,_=>True
theorem VS.mono {g g':Gh} {w w':World} {lb:Nat->Option Nat} (h:Evc g w g' w') {s:Slot} {v:Value} (r:VS g w lb s v):VS g' w' lb s v:=by cases s with|v x=>exact VR.mono h r|lp d off=>exact r|gI=>trivial
abbrev LT:=List (Nat×List Nat)
def LT.ki (lt:LT) (d e:Nat):Bool:=
 match lt with
 |[]=>false
 |(d',l)::r=>if d'=d then(e==d||l.contains e)else LT.ki r d e
def LT.has (lt:LT) (d:Nat):Option (List Nat):=
 match lt with
 |[]=>none
 |(d',l)::r=>if d'=d then some l else LT.has r d
def DR (g:Gh) (w:World):List (FuncId×List AV)->List Deferred->Prop
 |[],ds=>ds=[]
 |(f,args)::r,ds=>∃(us cs aa:Array Value) (QI:List Deferred),ds=⟨.fn (.func f) cs,us⟩::QI/\Df g w args aa/\aa=us++cs/\DR g w r QI
theorem DR.mono {g g':Gh} {w w':World} (h:Evc g w g' w'):∀{l:List (FuncId×List AV)} {ds:List Deferred},DR g w l ds->DR g' w' l ds
 |[],_,r=>r
 |(_,_)::_,_,⟨us,cs,aa,QI,h1,h2,h3,h4⟩=>⟨us,cs,aa,QI,h1,h2.mono h,h3,h4.mono h⟩
structure FR (lt:LT) (g:Gh) (w:World) (base:Nat) (lb:Nat->Option Nat) (fr:ay) (a:Act):Prop where
 defers:DR g w fr.df a.defers
 size:a.tmps.size=fr.n
 slot:∀k,k <fr.n->VS g w lb (fr.f k) (a.tmps.getD k undef)
 hold:∀k d off,fr.f k= .lp d off->lt.ki d k=true
 OH:∀d d' b,lb d=some b->lb d'=some b->d=d'
 Jd:∀d b,lb d=some b->base<=b/\b <w.heap.size/\(∀o,g.ob o≠some b)/\g.bl b=none/\g.ext b=0/\g.pv b=none/\∃vs T,w.heap[b]? =some (.cells vs T (0,0))/\sJ g w (fr.loc d) vs
theorem FR.mono {lt:LT} {g g':Gh} {w w':World} {base:Nat} {lb:Nat->Option Nat} {fr:ay} {a:Act} (h:Ev g w g' w') (r:FR lt g w base lb fr a):FR lt g' w' base lb fr a where
 defers:=r.defers.mono h.toEvc
 size:=r.size
 slot k hk:=(r.slot k hk).mono h.toEvc
 hold:=r.hold
 OH:=r.OH
 Jd d b e:=by
  obtain⟨h1,h2,h3,h4,h5,h8,vs,T,h6,h7⟩:=r.Jd d b e;obtain⟨e1,x1⟩:=h.rest b h2 h3 h4 h8;refine⟨h1,Nat.lt_of_lt_of_le h2 h.size,λo eo=>?_,?_,by rw[x1];exact h5,?_,vs,T,e1.trans h6,h7.mono h.toEvc⟩
  .rcases h.FB o b eo with⟨o,e⟩|e
   .exact h3 o e
   .omega
  .cases e:g'.bl b with
   |none=>rfl
   |some l=>
    rcases h.Rr b l e with e|e
    .rw[h4]at e
     cases e
    .omega
  .cases e:g'.pv b with
   |none=>rfl
   |some l=>
    rcases h.QH b l e with e|e
    .rw[h8]at e
     cases e
    .omega
def Gh.xt (g:Gh) (b n:Nat):Gh:={g with ext:=λk=>if k=b then n else g.ext k}
def Gh.oT (g:Gh) (o b:Nat):Gh:={g with ob:=λk=>if k=o then some b else g.ob k}
def AH.push (h:AH) (x:mV):AH:={h with n:=h.n+1,get:=λk=>if k=h.n then some x else h.get k}
def AH.set (h:AH) (o:Nat) (x:mV):AH:={h with get:=λk=>if k=o then some x else h.get k}
theorem heap_alloc (w:World) (o:Obj) (b:Nat):(w.alloc o).heap[b]? =if b=w.heap.size then some o else w.heap[b]? :=by simp only[World.alloc,Array.getElem?_push]
theorem jl {w:World} {b:Nat} {o:Obj} (h:w.heap[b]? =some o):b <w.heap.size:=by
 rcases Nat.lt_or_ge b w.heap.size with h'|h'
 .exact h'
 .simp[Array.getElem?_eq_none h']at h
theorem jW {w w':World} {a:Addr} (h:w'.heap[a.block]? =w.heap[a.block]?):w'.cell? a=w.cell? a:=by simp[World.cell?,h]
theorem Rel.xd {g:Gh} {w:World} {h:AH} (R:Rel g w h) {b:Nat} (e:0 <g.ext b):b <w.heap.size:=by obtain⟨c,T,fz,hh,_⟩:=R.ext b e;exact jl hh
theorem Rel.Lg {g:Gh} {w:World} {h:AH} (R:Rel g w h) {l:Nat} (e:l <g.nl):g.tb l <w.heap.size:=(R.FT _ _ (R.Dh l e)).2
theorem Rel.iH {g g':Gh} {w w':World} {h h':AH} (R:Rel g w h) (E:Evc g w g' w') (ht:h'.aV=h.aV):∀a v,h'.aV a=some v->w'.cell? a=some v/\a.off <g'.ext a.block:=λa v e=>by rw[ht]at e;obtain⟨h1,h2⟩:=R.HO a v e;obtain⟨k1,k2⟩:=E.Lf a h2;exact⟨k2.trans h1,k1⟩
theorem Rel.HP {g:Gh} {w:World} {h:AH} (R:Rel g w h) {o b:Nat} (e:g.ob o=some b):g.pv b=none:=by cases k:g.pv b with|none=>rfl|some c=>exact absurd e ((R.FC _ _ k).2.2.2 o)
theorem Rel.UK {g:Gh} {w:World} {h:AH} (R:Rel g w h) {b l:Nat} (e:g.bl b=some l):g.pv b=none:=by cases k:g.pv b with|none=>rfl|some c=>have:=(R.FC _ _ k).2.2.1;rw[e]at this;cases this
theorem Rel.Rs {g:Gh} {w:World} {h:AH} (R:Rel g w h):g.pv w.heap.size=none:=by cases k:g.pv w.heap.size with|none=>rfl|some c=>have:=(R.FC _ _ k).1;omega
theorem Rel.Bn {g:Gh} {w:World} {h:AH} (R:Rel g w h) {w':World} (ho:∀b,b <w.heap.size->w'.heap[b]? =w.heap[b]?) (b:Nat):∀k,g.pv k=some b->w'.heap[k]? =w.heap[k]? :=λk e=>ho k (R.FC _ _ e).1
theorem qB {g:Gh} {w:World} {h:AH} (R:Rel g w h) (o:Obj) (n:Nat) (hn:0 <n->∃c T fz,o= .cells c T fz/\n<=c.size):
 Ev g w (g.xt w.heap.size n) (w.alloc o)/\Rel (g.xt w.heap.size n) (w.alloc o) h:=by
 have hh:=heap_alloc w o
 have jL:∀b,b <w.heap.size->(w.alloc o).heap[b]? =w.heap[b]? :=λb hb=>by rw[hh,if_neg (by omega)]
 have E:Ev g w (g.xt w.heap.size n) (w.alloc o):=by
  refine⟨⟨O,O,O,by simp,λ_ _ e=>e,λ_ _ e=> .inl ⟨_,e⟩,λ_ _ e=>e,λ_ _ e=> .inl e,λ_ _ _ e=>e,λa e=>?_,Nat.le_refl _,λ_ _=>Nat.le_refl _,λl hl _=>⟨O,?_⟩,λb c T fz e=>⟨c,?_,O⟩,λ_ _ e=>e,λ_ _ e=> .inl e⟩,λb hb _ _ _=>⟨jL b hb,?_⟩⟩
  .have:=R.xd (b:=a.block) (by omega)
   exact⟨by simp only[Gh.xt];rw[if_neg (by omega)];exact e,jW (jL _ this)⟩
  .have:=R.Lg hl
   simp only[Gh.xt];rw[if_neg (by omega)]
  .rw[jL _ (jl e)];exact e
  .simp only[Gh.xt];rw[if_neg (by omega)]
 refine⟨E,λo' b e=>?_,R.Bm,R.Ag,λo' x e=>?_,R.KN,R.nt,R.cur,λb l e=>?_,R.Dh,R.HN,λb e=>?_,λk b e=>?_,R.iH E.toEvc O⟩
 .obtain⟨h1,h2,h3⟩:=R.uC o' b e;exact⟨by simp;omega,λhf FU=>by simp only[Gh.xt];rw[if_neg (by omega)];exact h2 hf FU,h3⟩
 .obtain⟨b,hb,ho⟩:=R.obj o' x e;exact⟨b,hb,ho.mono E.toEvc (jL b (R.uC _ _ hb).1) (R.Bn jL b)⟩
 .obtain⟨h1,h2⟩:=R.FT b l e;exact⟨h1,by simp;omega⟩
 .by_cases hb:b=w.heap.size
  .subst hb;simp only[Gh.xt,if_true]at e|-;obtain⟨c,T,fz,h1,h2⟩:=hn e;exact⟨c,T,fz,by rw[hh,if_pos O,h1],h2⟩
  .simp only[Gh.xt]at e|-;rw[if_neg hb]at e|-;obtain⟨c,T,fz,h1,h2⟩:=R.ext b e;exact⟨c,T,fz,by rw[hh,if_neg hb];exact h1,h2⟩
 .obtain⟨h1,h2,h3,h4⟩:=R.FC k b e;exact⟨by simp;omega,by simp only[Gh.xt];rw[if_neg (by omega)];exact h2,h3,h4⟩
theorem Rel.Bo {g:Gh} {w:World} {h:AH} (R:Rel g w h):g.ext w.heap.size=0:=by
 rcases Nat.eq_zero_or_pos (g.ext w.heap.size)with e|e
 .exact e
 .have:=R.xd e
  omega
theorem Rel.Lh {g:Gh} {w:World} {h:AH} (R:Rel g w h):g.bl w.heap.size=none:=by cases e:g.bl w.heap.size with|none=>rfl|some l=>have:=(R.FT _ _ e).2;omega
theorem Rel.FV {g:Gh} {w:World} {h:AH} (R:Rel g w h) (o:Nat):g.ob o≠some w.heap.size:=λe=>by
 have:=(R.uC _ _ e).1
 omega
theorem Gh.OI {g:Gh} {w:World} {h:AH} (R:Rel g w h):g.xt w.heap.size 0=g:=by
 have:(λk=>if k=w.heap.size then 0 else g.ext k)=g.ext:=by
  funext k
  by_cases hk:k=w.heap.size
  .simp[hk,R.Bo]
  .simp[hk]
 simp[Gh.xt,this]
theorem FW {g:Gh} {w:World} {h:AH} (R:Rel g w h) (o:Obj):Ev g w g (w.alloc o)/\Rel g (w.alloc o) h:=by
 have:=qB R o 0 (λh=>absurd h (by omega))
 rwa [Gh.OI R]at this
theorem jm {g:Gh} {w:World} {h:AH} (R:Rel g w h) (o:Obj) (x:mV) (hx:∀g',Evc g w g' (w.alloc o)->OR g' (w.alloc o) x w.heap.size):
 Ev g w (g.oT h.n w.heap.size) (w.alloc o)/\Rel (g.oT h.n w.heap.size) (w.alloc o) (h.push x):=by
 have hh:=heap_alloc w o
 have jL:∀b,b <w.heap.size->(w.alloc o).heap[b]? =w.heap[b]? :=λb hb=>by rw[hh,if_neg (by omega)]
 have Z8:∀o' b,g.ob o'=some b->(g.oT h.n w.heap.size).ob o'=some b:=λo' b e=>by
  have:=R.Ag o' b e
  simp only[Gh.oT];rw[if_neg (by omega)];exact e
 have FB:∀o' b,(g.oT h.n w.heap.size).ob o'=some b->(o'=h.n/\b=w.heap.size)\/g.ob o'=some b:=λo' b e=>by
  simp only[Gh.oT]at e;split at e
  .rename_i h1;injection e with e;exact .inl ⟨h1,e.symm⟩
  .exact .inr e
 have E:Ev g w (g.oT h.n w.heap.size) (w.alloc o):=by
  refine⟨⟨O,O,O,by simp,Z8,λo' b e=>?_,λ_ _ e=>e,λ_ _ e=> .inl e,λ_ _ _ e=>e,λa e=>⟨e,jW (jL _ (R.xd (b:=a.block) (by omega)))⟩,Nat.le_refl _,λ_ _=>Nat.le_refl _,λl hl _=>⟨O,O⟩,λb c T fz e=>⟨c,?_,O⟩,λ_ _ e=>e,λ_ _ e=> .inl e⟩,λb hb _ _ _=>⟨jL b hb,O⟩⟩
  .rcases FB o' b e with⟨_,rfl⟩|e
   .exact .inr (Nat.le_refl _)
   .exact .inl ⟨_,e⟩
  .rw[jL _ (jl e)];exact e
 refine⟨E,λo' b e=>?_,λo1 o2 b e1 e2=>?_,λo' b e=>?_,λo' y e=>?_,λo' b e=>?_,R.nt,R.cur,λb l e=>?_,R.Dh,R.HN,λb e=>?_,λk b e=>?_,R.iH E.toEvc O⟩
 .rcases FB o' b e with⟨_,rfl⟩|e
  .exact⟨by simp,λ_ _=>R.Bo,R.Lh⟩
  .obtain⟨h1,h2,h3⟩:=R.uC o' b e;have hd:=R.Ag o' b e;exact⟨by simp;omega,λhf FU=>h2 (by simp only[AH.push]at hf;rwa [if_neg (by omega)]at hf) (by simp only[AH.push]at FU;rwa [if_neg (by omega)]at FU),h3⟩
 .rcases FB o1 b e1 with⟨rfl,rfl⟩|e1
  .rcases FB o2 _ e2 with⟨rfl,_⟩|e2
   .exact .inl O
   .exact absurd e2 (R.FV _)
  .rcases FB o2 _ e2 with⟨rfl,rfl⟩|e2
   .exact absurd e1 (R.FV _)
   .have q1:=R.Ag _ _ e1
    have q2:=R.Ag _ _ e2
    simp only[AH.push];rw[if_neg (by omega),if_neg (by omega)];exact R.Bm _ _ _ e1 e2
 .rcases FB o' b e with⟨rfl,_⟩|e
  .simp[AH.push]
  .have:=R.Ag _ _ e
   simp only[AH.push];omega
 .simp only[AH.push]at e;split at e
  .rename_i h1;injection e with e
   subst e;exact⟨w.heap.size,by simp[Gh.oT,h1],hx _ E.toEvc⟩
  .obtain⟨b,hb,ho⟩:=R.obj o' y e;exact⟨b,Z8 _ _ hb,ho.mono E.toEvc (jL b (R.uC _ _ hb).1) (R.Bn jL b)⟩
 .rcases FB o' b e with⟨rfl,_⟩|e
  .exact⟨x,by simp[AH.push]⟩
  .obtain⟨y,hy⟩:=R.KN o' b e;have:=R.Ag _ _ e;exact⟨y,by simp only[AH.push];rw[if_neg (by omega)];exact hy⟩
 .obtain⟨h1,h2⟩:=R.FT b l e;exact⟨h1,by simp;omega⟩
 .obtain⟨c,T,fz,h1,h2⟩:=R.ext b e;exact⟨c,T,fz,by rw[jL _ (jl h1)];exact h1,h2⟩
 .obtain⟨h1,h2,h3,h4⟩:=R.FC k b e;refine⟨by simp;omega,h2,h3,λo' e'=>?_⟩;rcases FB o' k e' with⟨_,rfl⟩|e'
  .omega
  .exact h4 o' e'
structure nA (w w':World) (b:Nat) (x:Obj):Prop where
 os:w'.os=w.os
 tape:w'.tape=w.tape
 output:w'.output=w.output
 size:w'.heap.size=w.heap.size
 at_:w'.heap[b]? =some x
 other:∀k,k≠b->w'.heap[k]? =w.heap[k]?
theorem nA.UL {g:Gh} {w w':World} {b:Nat} {x:Obj} (p:nA w w' b x) (hx:g.ext b=0) (hs:∀c T fz,w.heap[b]? =some (.cells c T fz)->∃c',x= .cells c' T fz/\c'.size=c.size):Evc g w g w':=by
 refine⟨p.os,p.tape,p.output,by rw[p.size];exact Nat.le_refl _,λ_ _ e=>e,λ_ _ e=> .inl ⟨_,e⟩,λ_ _ e=>e,λ_ _ e=> .inl e,λ_ _ _ e=>e,λa e=>⟨e,jW (p.other _ λh=>?_)⟩,Nat.le_refl _,λ_ _=>Nat.le_refl _,λl hl _=>⟨O,O⟩,λk c T fz e=>?_,λ_ _ e=>e,λ_ _ e=> .inl e⟩
 .rw[h,hx]at e;omega
 .by_cases hk:k=b
  .subst hk;obtain⟨c',h1,h2⟩:=hs c T fz e;exact⟨c',p.at_.trans (by rw[h1]),h2⟩
  .exact⟨c,by rw[p.other k hk];exact e,O⟩
theorem nA.rel {g:Gh} {w w':World} {h:AH} {b:Nat} {x:Obj} (R:Rel g w h) (p:nA w w' b x) (hx:g.ext b=0) (Xt:g.pv b=none) (E:Evc g w g w') (h':AH) (hn:h'.n=h.n) (wC:h'.nt=h.nt) (UM:h'.bV=h.bV) (htb:h'.aV=h.aV) (Z9:∀o y,h.get o=some y->∃y',h'.get o=some y') (TY:∀o,h.get o=some .gone->h'.get o=some .gone)
 (hg:∀o y,h'.get o=some y->(g.ob o=some b/\OR g w' y b)\/(h.get o=some y/\g.ob o≠some b)):Rel g w' h':=by
 refine⟨λo k e=>?_,λo1 o2 k e1 e2=>(R.Bm o1 o2 k e1 e2).imp id λq=>q.imp (TY _) (TY _),λo k e=>hn▸R.Ag o k e,λo y e=>?_,λo k e=>(R.KN o k e).elim λy hy=>Z9 o y hy,wC▸R.nt,λl hl=>by rw[UM];exact R.cur l (wC▸hl),λk l e=>?_,R.Dh,R.HN,λk e=>?_,λk c e=>?_,R.iH E htb⟩
 .obtain⟨h1,h2,h3⟩:=R.uC o k e;refine⟨by rw[p.size];exact h1,λhf FU=>?_,h3⟩
  by_cases hk:k=b
  .rw[hk];exact hx
  .refine h2 (λhz=>hf ?_) λhz=>FU (TY _ hz);obtain⟨y',hy'⟩:=Z9 o _ hz;rcases hg o y' hy' with⟨q1,_⟩|⟨q1,_⟩
   .rw[e]at q1;injection q1 with q1
    exact absurd q1 hk
   .rw[hy',<-q1,hz]
 .rcases hg o y e with⟨h1,h2⟩|⟨h1,h2⟩
  .exact⟨b,h1,h2⟩
  .obtain⟨k,hk,ho⟩:=R.obj o y h1;exact⟨k,hk,ho.mono E (p.other k λh=>h2 (h▸hk)) λj hj=>p.other j λe=>by rw[e,Xt]at hj;cases hj⟩
 .obtain⟨h1,h2⟩:=R.FT k l e;exact⟨h1,by rw[p.size];exact h2⟩
 .obtain⟨c,T,fz,h1,h2⟩:=R.ext k e;exact⟨c,T,fz,by rw[p.other k λh=>by rw[h,hx]at e;omega];exact h1,h2⟩
 .obtain⟨h1,h2⟩:=R.FC k c e;exact⟨by rw[p.size];exact h1,h2⟩
theorem AH.kC {h:AH} {o o':Nat} {x:mV} (hn:h.get o≠some .gone) (e:h.get o'=some .gone):(h.set o x).get o'=some .gone:=by
 simp only[AH.set]
 by_cases q:o'=o
 .rw[q]at e;exact absurd e hn
 .rw[if_neg q];exact e
theorem Li {g:Gh} {w w':World} {h:AH} {o b:Nat} {vs qC:Array Value} {T:TypeId} {dH:List AV} (R:Rel g w h) (hb:g.ob o=some b) (Dp:h.get o≠some .KM/\h.get o≠some .gone) (hw:w.heap[b]? =some (.cells vs T (0,0)))
 (p:nA w w' b (.cells qC T (0,0))) (hs:qC.size=vs.size) (hv:sJ g w dH qC):Ev g w g w'/\Rel g w' (h.set o (.cells dH)):=by
 obtain⟨h1,h2,h3⟩:=R.uC o b hb;have h2:=h2 Dp.1 Dp.2;have E:Evc g w g w':=p.UL h2 λc T' fz e=>by
  rw[hw]at e;injection e with e
  injection e with e1 e2 e3
  subst e1 e2 e3;exact⟨qC,O,hs⟩
 refine⟨⟨E,λk _ hk _ _=>⟨p.other k λe=>hk o (e▸hb),O⟩⟩,nA.rel R p h2 (R.HP hb) E _ O O O O (λo' y e=>by simp only[AH.set];split<;>exact⟨_,by first|rfl|exact e⟩) (λo' e=>AH.kC Dp.2 e) λo' y e=>?_⟩;simp only[AH.set]at e;split at e
 .rename_i h4;subst h4;injection e with e
  subst e;exact .inl ⟨hb,qC,T,p.at_,hv.mono E⟩
 .rename_i h4
  by_cases e':g.ob o'=some b
  .rcases R.Bm _ _ _ e' hb with q|q|q
   .exact absurd q h4
   .rw[e]at q;injection q with q
    subst q;exact .inl ⟨e',qC,T,_,p.at_⟩
   .exact absurd q Dp.2
  .exact .inr ⟨e,e'⟩
theorem HR {g:Gh} {w w':World} {h:AH} {o b:Nat} {ms QJ:Array MapEntry} {k k':Nat} {cA:List (AV×AV)} (R:Rel g w h) (hb:g.ob o=some b) (Dp:h.get o≠some .KM/\h.get o≠some .gone) (hw:w.heap[b]? =some (.map ms k))
 (p:nA w w' b (.map QJ k')) (hs:QJ.size=cA.length) (hv:∀i (hi:i <cA.length),∃m,QJ[i]? =some m/\VR g w cA[i].1 m.key/\VR g w cA[i].2 m.val):Ev g w g w'/\Rel g w' (h.set o (.map cA)):=by
 obtain⟨h1,h2,h3⟩:=R.uC o b hb;have h2:=h2 Dp.1 Dp.2;have E:Evc g w g w':=p.UL h2 λc T' fz e=>by rw[hw]at e;cases e
 refine⟨⟨E,λk _ hk _ _=>⟨p.other k λe=>hk o (e▸hb),O⟩⟩,nA.rel R p h2 (R.HP hb) E _ O O O O (λo' y e=>by simp only[AH.set];split<;>exact⟨_,by first|rfl|exact e⟩) (λo' e=>AH.kC Dp.2 e) λo' y e=>?_⟩;simp only[AH.set]at e;split at e
 .rename_i h4;subst h4;injection e with e
  subst e;refine .inl ⟨hb,QJ,k',p.at_,hs,λi hi=>?_⟩;obtain⟨m,hm,v1,v2⟩:=hv i hi;exact⟨m,hm,v1.mono E,v2.mono E⟩
 .rename_i h4
  by_cases e':g.ob o'=some b
  .rcases R.Bm _ _ _ e' hb with q|q|q
   .exact absurd q h4
   .obtain⟨b2,aT,c,T,fz,hc⟩:=R.obj _ _ q;rw[e']at aT;injection aT with aT
    subst aT;rw[hw]at hc
    cases hc
   .exact absurd q Dp.2
  .exact .inr ⟨e,e'⟩
theorem Lj {g:Gh} {w w':World} {h:AH} {b:Nat} {vs qC:Array Value} {T:TypeId} (R:Rel g w h) (ho:∀o,g.ob o≠some b) (hx:g.ext b=0) (Xt:g.pv b=none) (hw:w.heap[b]? =some (.cells vs T (0,0)))
 (p:nA w w' b (.cells qC T (0,0))) (hs:qC.size=vs.size):Evc g w g w'/\Rel g w' h:=by
 have E:Evc g w g w':=p.UL hx λc T' fz e=>by
  rw[hw]at e;injection e with e
  injection e with e1 e2 e3
  subst e1 e2 e3;exact⟨qC,O,hs⟩
 exact⟨E,nA.rel R p hx Xt E h O O O O (λo' y e=>⟨y,e⟩) (λ_ e=>e) λo' y e=> .inr ⟨e,ho o'⟩⟩
theorem Ev.free {g0 g:Gh} {w0 w w':World} {b:Nat} {x:Obj} (E0:Ev g0 w0 g w) (hb:w0.heap.size<=b) (p:nA w w' b x) (E:Evc g w g w'):Ev g0 w0 g w':=⟨E0.toEvc.trans E,λk hk ho hl hp=>by obtain⟨h1,h2⟩:=E0.rest k hk ho hl hp;exact⟨(p.other k (by omega)).trans h1,h2⟩⟩
theorem Je {g:Gh} {w:World} {h:AH} {o b:Nat} {vs:Array Value} {T:TypeId} (R:Rel g w h) (hb:g.ob o=some b) (hw:w.heap[b]? =some (.cells vs T (0,0))) (hx:g.ext b=0) (QK:h.get o≠some .gone):
 Ev g w (g.xt b vs.size) w/\Rel (g.xt b vs.size) w (h.set o .KM):=by
 obtain⟨h1,h2,h3⟩:=R.uC o b hb;have E:Ev g w (g.xt b vs.size) w:=by
  refine⟨⟨O,O,O,Nat.le_refl _,λ_ _ e=>e,λ_ _ e=> .inl ⟨_,e⟩,λ_ _ e=>e,λ_ _ e=> .inl e,λ_ _ _ e=>e,λa e=>⟨?_,O⟩,Nat.le_refl _,λ_ _=>Nat.le_refl _,λl hl _=>⟨O,?_⟩,λb c T fz e=>⟨c,e,O⟩,λ_ _ e=>e,λ_ _ e=> .inl e⟩,λk _ hk _ _=>⟨O,?_⟩⟩
  .simp only[Gh.xt];split
   .rename_i h4;rw[h4,hx]at e;omega
   .exact e
  .have:=R.Dh l hl
   simp only[Gh.xt];rw[if_neg (λe=>by rw[e,h3]at this;cases this)]
  .simp only[Gh.xt];rw[if_neg (λ(e:k=b)=>hk o (e▸hb))]
 refine⟨E,λo' k e=>?_,λo1 o2 k e1 e2=>(R.Bm o1 o2 k e1 e2).imp id λq=>q.imp (AH.kC QK) (AH.kC QK),R.Ag,λo' y e=>?_,λo' k e=>?_,R.nt,R.cur,R.FT,R.Dh,R.HN,λk e=>?_,λk c e=>?_,R.iH E.toEvc O⟩
 .obtain⟨k1,k2,k3⟩:=R.uC o' k e;refine⟨k1,λhf FU=>?_,k3⟩;simp only[AH.set]at hf FU;split at hf
  .exact absurd O hf
  .rename_i h4;rw[if_neg h4]at FU;simp only[Gh.xt];rw[if_neg (λ(e':k=b)=>by
    rcases R.Bm _ _ _ e (e'▸hb)with q|q|q
    .exact h4 q
    .exact FU q
    .exact QK q)]
   exact k2 hf FU
 .simp only[AH.set]at e;split at e
  .rename_i h4;injection e with e
   subst h4 e;exact⟨b,hb,vs,T,hw⟩
  .obtain⟨k,hk,ho⟩:=R.obj o' y e;exact⟨k,hk,ho.mono E.toEvc O λ_ _=>rfl⟩
 .obtain⟨y,hy⟩:=R.KN o' k e;simp only[AH.set];split<;>exact⟨_,by first|rfl|exact hy⟩
 .simp only[Gh.xt]at e|-;split at e
  .rename_i h4;rw[if_pos h4];exact⟨vs,T,_,h4▸hw,Nat.le_refl _⟩
  .rename_i h4;rw[if_neg h4];exact R.ext k e
 .obtain⟨k1,k2,k3,k4⟩:=R.FC k c e;refine⟨k1,?_,k3,k4⟩;simp only[Gh.xt];rw[if_neg (λ(e':k=b)=>k4 o (e'▸hb))];exact k2
def xe (P:Program) (t:TypeId):Option Bool:=
 match P.underlying t with
 |some (.struct _)=>some true
 |some (.array _ _)=>some true
 |some _=>some false
 |none=>none
def kW (P:Program) (t:TypeId):Option Nat:=
 match P.info? t with
 |some i=>some i.size
 |none=>none
section
variable {P:Program} {w:World}
theorem qD {t:TypeId} {b:Bool} (h:xe P t=some b):(isAgg t).run P w= .ok b w:=by
 unfold xe at h
 cases hu:P.underlying t with
 |none=>rw[hu]at h;cases h
 |some d=>
  rw[hu]at h;have:(underlying t).run P w= .ok d w:=by simp[underlying,hu]
  simp only[isAgg,Sem.run_bind,this,Result.andThen_ok]
  cases d<;>simp_all
theorem run_sizeOf {t:TypeId} {n:Nat} (h:kW P t=some n):(sizeOf t).run P w= .ok n w:=by
 unfold kW at h
 cases hu:P.info? t with
 |none=>rw[hu]at h;cases h
 |some i=>
  rw[hu]at h;injection h with h
  simp[sizeOf,typeInfo,hu,h]
theorem run_underlying {t:TypeId} {d:TypeDesc} (h:P.underlying t=some d):(underlying t).run P w= .ok d w:=by simp[underlying,h]
theorem run_typeInfo {t:TypeId} {i:TypeInfo} (h:P.info? t=some i):(typeInfo t).run P w= .ok i w:=by simp[typeInfo,h]
end
theorem add_add (a:Addr) (m n:Nat):(a.add m).add n=a.add (m+n):=by
 unfold Addr.add
 by_cases hm:m=0
 .subst hm;simp
 .by_cases hn:n=0
  .subst hn;simp[hm]
  .simp[hm,hn,show m+n≠0 by omega];omega
theorem add_zero (a:Addr):a.add 0=a:=by simp[Addr.add]
theorem lD (a:Addr) (n:Nat):(a.add n).block=a.block:=by unfold Addr.add;split<;>rfl
theorem cL (b o n:Nat):(⟨b,o,none⟩:Addr).add n=⟨b,o+n,none⟩:=by unfold Addr.add;split<;>simp_all
def Dq:Value->Option AV
 | .bool b=>some (.bool b)
 | .int k n=>some (.int k n)
 | .float k b=>some (.OG k b)
 | .string s=>some (.str s.data.toList)
 | .pointer none=>some .bq
 | .slice none 0 0=>some .ao
 | .map none=>some .ph
 | .nilFunc=>some .vW
 | .nilIface=>some .bu
 |_=>none
def rX:List Value->Option (List AV)
 |[]=>some []
 |v::r=>match Dq v with
  |some x=>match rX r with|some l=>some (x::l)|none=>none
  |none=>none
def WT (v:Value):Option AV:=
 match v with
 | .agg cs=>match rX cs.toList with|some l=>some (.agg l)|none=>none
 | .tuple vs=>if vs.size=0 then some (.cN [])else none
 |v=>Dq v
section
variable {g:Gh} {w:World}
theorem vk {v:Value} {x:AV} (h:Dq v=some x):VR g w x v/\v.oneCell'=true:=by unfold Dq at h;split at h<;>(try cases h)<;>(constructor<;>first|constructor|rfl)
theorem Bp {l:List Value} {xs:List AV} (h:rX l=some xs):l.length=xs.length/\∀i (hi:i <xs.length),VR g w xs[i] (l.getD i undef)/\(l.getD i undef).oneCell'=true:=by
 induction l generalizing xs with
 |nil=>simp only[rX]at h;injection h with h;subst h;simp
 |cons v r ih=>
  simp only[rX]at h
  cases h1:Dq v with
  |none=>rw[h1]at h;cases h
  |some x=>
   rw[h1]at h
   cases h2:rX r with
   |none=>rw[h2]at h;cases h
   |some l=>
    rw[h2]at h;injection h with h
    subst h;obtain⟨k1,k2⟩:=ih h2;refine⟨by simp[k1],λi hi=>?_⟩
    cases i with|zero=>simpa using vk h1|succ i=>simpa using k2 i (by simpa using hi)
theorem FX {a:Array Value} {xs:List AV} (h:rX a.toList=some xs):sJ g w xs a:=by
 obtain⟨h1,h2⟩:=Bp (g:=g) (w:=w) h;have e:∀i,a.toList.getD i undef=a.getD i undef:=λi=>by simp[List.getD_eq_getElem?_getD,Array.getD_eq_getD_getElem?]
 exact⟨⟨by simpa using h1,λi hi=>e i▸(h2 i hi).1⟩,λi hi=>e i▸(h2 i hi).2⟩
theorem uD {v:Value} {x:AV} (h:WT v=some x):VR g w x v:=by
 unfold WT at h;split at h
 .split at h
  .rename_i l hl;injection h with h
   subst h;obtain⟨⟨h1,h2⟩,h3⟩:=FX (g:=g) (w:=w) hl;exact .agg _ _ h1 h2 h3
  .cases h
 .split at h
  .rename_i h1;injection h with h
   subst h;exact .cN _ _ (by simpa using h1) (λi hi=>by simp at hi)
  .cases h
 .exact(vk h).1
end
def ay.ev (fr:ay) (x:Operand):Slot:=
 match x with
 | .tmp t=>if t <fr.n then fr.f t else .gI
 | .const v=>match WT v with|some x=> .v x|none=> .gI
 | .global _=> .gI
 | .func f=> .v (.pG f [])
section
variable {lt:LT} {g:Gh} {w:World} {base:Nat} {lb:Nat->Option Nat} {fr:ay} {a:Act}
theorem FR.ev (F:FR lt g w base lb fr a) (x:Operand):VS g w lb (fr.ev x) (a.eval x):=by
 cases x with
 |tmp t=>
  simp only[ay.ev,Act.eval];split
  .rename_i h;exact F.slot t h
  .trivial
 |const v=>
  simp only[ay.ev,Act.eval];split
  .rename_i x h;exact uD h
  .trivial
 |global g'=>trivial
 |func f=>exact .pG f [] #[] O (λi hi=>by simp at hi)
theorem FR.cq (F:FR lt g w base lb fr a) {x:Operand} {y:AV} (h:fr.ev x= .v y):VR g w y (a.eval x):=by
 have:=F.ev x
 rw[h]at this;exact this
theorem FR.HS (F:FR lt g w base lb fr a) {x:Operand} {d off:Nat} (h:fr.ev x= .lp d off):∃b,lb d=some b/\a.eval x= .pointer (some ⟨b,off,none⟩):=by
 have:=F.ev x
 rw[h]at this;exact this
end
def AV.cells (x:AV):Option (List AV):=
 match x with
 | .agg cs=>some cs
 | .cN _=>none
 |x=>some [x]
section
variable {g:Gh} {w:World}
theorem VR.cells {x:AV} {v:Value} {cs:List AV} (r:VR g w x v) (h:x.cells=some cs):sJ g w cs v.cells:=by
 cases r<;>simp only[AV.cells]at h<;>(try cases h)<;>first
  |(refine⟨⟨O,λi hi=>?_⟩,λi hi=>?_⟩
    .have:i=0:=by simpa using hi
     subst this
     first|constructor|skip
     all_goals assumption
    .have:i=0:=by simpa using hi
     subst this;rfl)
  |(rename_i x0 h1 ho
    have hc:v.cells=#[v]:=by cases v<;>first|rfl|cases ho
    rw[hc];refine⟨⟨O,λi hi=>?_⟩,λi hi=>?_⟩
    .have:i=0:=by simpa using hi
     subst this;exact .one _ _ h1 ho
    .have:i=0:=by simpa using hi
     subst this;exact ho)
  |(rename_i hn hv ho;exact⟨⟨hn,hv⟩,ho⟩)
end
def takeN:Nat->List AV->Option (List AV)
 |0,_=>some []
 |_+1,[]=>none
 |n+1,x::l=>match takeN n l with|some r=>some (x::r)|none=>none
theorem Dr {n:Nat} {l r:List AV} (h:takeN n l=some r):n<=l.length/\r=l.take n:=by
 induction n generalizing l r with
 |zero=>simp only[takeN]at h;injection h with h;subst h;simp
 |succ n ih=>
  cases l with
  |nil=>simp[takeN]at h
  |cons x l=>
   simp only[takeN]at h;split at h
   case h_2=>cases h
   rename_i r' hr;injection h with h
   subst h;obtain⟨h1,h2⟩:=ih hr;exact⟨by simp;omega,by rw[h2];rfl⟩
def AV.ld (agg:Bool) (sz:Nat) (cells:List AV) (off:Nat):Option AV:=
 match agg with
 |true=>match takeN sz (cells.drop off)with|some l=>some (.agg l)|none=>none
 |false=>cells[off]?
section
variable {P:Program} {g:Gh} {w:World}
theorem run_loadCellsFrom (a:Addr) (vs:Nat->Value):∀(n i:Nat) (acc:Array Value),(∀j,i<=j->j <i+n->w.cell? (a.add j)=some (vs j))->
 ∃arr:Array Value,(loadCellsFrom a i n acc).run P w= .ok arr w/\arr.size=acc.size+n/\(∀j,j <acc.size->arr.getD j undef=acc.getD j undef)/\∀j,j <n->arr.getD (acc.size+j) undef=vs (i+j)
 |0,i,acc,_=>⟨acc,O,O,λ_ _=>rfl,λj hj=>by omega⟩
 |n+1,i,acc,h=>by
  obtain⟨arr,h1,h2,h3,h4⟩:=run_loadCellsFrom a vs n (i+1) (acc.push (vs i)) (λj hj rF=>h j (by omega) (by omega));refine⟨arr,?_,by simp at h2;omega,λj hj=>?_,λj hj=>?_⟩
  .simp only[loadCellsFrom,Sem.run_bind,run_load,h i (Nat.le_refl _) (by omega),Result.andThen_ok];exact h1
  .rw[h3 j (by simp;omega)];simp[Array.getD_eq_getD_getElem?,Array.getElem?_push,show j≠acc.size by omega]
  .cases j with
   |zero=>rw[show acc.size+0=acc.size from O,h3 acc.size (by simp)];simp[Array.getD_eq_getD_getElem?]
   |succ j=>
    have:=h4 j (by omega)
    rw[show acc.size+(j+1)=(acc.push (vs i)).size+j by simp;omega,this]
    congr 1;omega
theorem run_loadCells (a:Addr) (n:Nat) (vs:Nat->Value) (h:∀j,j <n->w.cell? (a.add j)=some (vs j)):
 ∃arr:Array Value,(loadCells a n).run P w= .ok arr w/\arr.size=n/\∀j,j <n->arr.getD j undef=vs j:=by
 obtain⟨arr,h1,h2,_,h4⟩:=run_loadCellsFrom (P:=P) (w:=w) a vs n 0 #[] (λj _ hj=>h j (by omega));exact⟨arr,h1,by simpa using h2,λj hj=>by simpa using h4 j hj⟩
theorem Bq {t:TypeId} {b:Bool} {n off:Nat} {cells:List AV} {x:AV} (ha:xe P t=some b) (hz:kW P t=some n) (hx:AV.ld b n cells off=some x) (ad:Addr) (vs:Nat->Value)
 (hc:∀i,i <cells.length->w.cell? (ad.add i)=some (vs i)) (hv:∀i (hi:i <cells.length),VR g w cells[i] (vs i)) (ho:∀i,i <cells.length->(vs i).oneCell'=true):
 ∃v,(loadVar t (ad.add off)).run P w= .ok v w/\VR g w x v:=by
 cases b with
 |true=>
  simp only[AV.ld]at hx;split at hx
  .rename_i l KO;obtain⟨hle,hl⟩:=Dr KO;subst hl;simp only[List.length_drop]at hle;injection hx with hx
   obtain⟨arr,h1,h2,h3⟩:=run_loadCells (P:=P) (w:=w) (ad.add off) n (λj=>vs (off+j)) (λj hj=>by rw[add_add];exact hc _ (by omega));refine⟨.agg arr,by simp only[loadVar,Sem.run_bind,qD ha,run_sizeOf hz,Result.andThen_ok,if_true,h1,Sem.run_pure],?_⟩;subst hx;have hl:((cells.drop off).take n).length=n:=by simp;omega
   refine .agg _ _ (by rw[h2,hl]) (λi hi=>?_) (λi hi=>?_)
   .rw[h3 i (by omega)];have:=hv (off+i) (by omega);simpa using this
   .rw[h3 i (by omega)];exact ho _ (by omega)
  .cases hx
 |false=>simp only[AV.ld]at hx;obtain⟨hi,hx⟩:=List.getElem?_eq_some_iff.1 hx;refine⟨vs off,by simp[loadVar,qD ha,hc off hi],hx▸hv off hi⟩
end
def rG (P:Program) (fr:ay) (h:AH) (t:TypeId) (x:Operand):Option Slot:=
 match xe P t,kW P t with
 |some b,some n=>
  match fr.ev x with
  | .v (.ptr o off)=>
   match h.get o with
   |some (.cells cs)=>match AV.ld b n cs off with|some y=>some (.v y)|none=>none
   |_=>none
  | .v (.ref _ cs)=>match AV.ld b n cs 0 with|some y=>some (.v y)|none=>none
  | .lp d off=>match AV.ld b n (fr.loc d) off with|some y=>some (.v y)|none=>none
  |_=>none
 |_,_=>none
section
variable {P:Program} {lt:LT} {g:Gh} {w:World} {h:AH} {base:Nat} {lb:Nat->Option Nat} {fr:ay} {a:Act}
theorem sJ.at_ {cs:List AV} {vs:Array Value} {b:Nat} {T:TypeId} {fz:Nat×Nat} (r:sJ g w cs vs) (hw:w.heap[b]? =some (.cells vs T fz)):
 (∀i,i <cs.length->w.cell? ((⟨b,0,none⟩:Addr).add i)=some (vs.getD i undef))/\(∀i (hi:i <cs.length),VR g w cs[i] (vs.getD i undef))/\∀i,i <cs.length->(vs.getD i undef).oneCell'=true:=by
 refine⟨λi hi=>?_,r.1.2,r.2⟩;have:=r.1.1;rw[cL];simp only[World.cell?,hw,Option.isSome_none,Bool.false_eq_true,if_false,Nat.zero_add];simp[Array.getD_eq_getD_getElem?,Array.getElem?_eq_getElem (show i <vs.size by omega)]
theorem vm {t:TypeId} {x:Operand} {s:Slot} (R:Rel g w h) (F:FR lt g w base lb fr a) (hx:rG P fr h t x=some s):
 ∃v,(Instr.loadAt t (a.eval x)).run P w= .ok v w/\VS g w lb s v:=by
 unfold rG at hx;split at hx
 case h_2=>cases hx
 rename_i b n ha hz;split at hx
 .rename_i o off e;have hv:=F.cq e
  cases hq:a.eval x with
  |pointer p=>
   rw[hq]at hv
   cases hv with
   |ptr _ _ bk hb=>
    split at hx
    .rename_i cs hg;split at hx
     .rename_i y hy;injection hx with hx
      subst hx;obtain⟨b',dk,vs,T,hw,hc⟩:=R.obj o _ hg;rw[hb]at dk;injection dk with dk
      subst dk;obtain⟨c1,c2,c3⟩:=hc.at_ hw;obtain⟨v,h1,h2⟩:=Bq (P:=P) ha hz hy ⟨bk,0,none⟩ (λi=>vs.getD i undef) c1 c2 c3;rw[cL]at h1;exact⟨v,by simpa[Instr.loadAt,Instr.sureAddr]using h1,h2⟩
     .cases hx
    .cases hx
  |_=>rw[hq]at hv;cases hv
 .rename_i id cs e;have hv:=F.cq e
  cases hq:a.eval x with
  |pointer p=>
   rw[hq]at hv
   cases hv with
   |ref _ _ ad vs c1 c2 c3 c4 c5=>
    split at hx
    .rename_i y hy;injection hx with hx
     subst hx;obtain⟨v,h1,h2⟩:=Bq (P:=P) ha hz hy ad vs c1 c2 c3;rw[add_zero]at h1;exact⟨v,by simpa[Instr.loadAt,Instr.sureAddr]using h1,h2⟩
    .cases hx
  |_=>rw[hq]at hv;cases hv
 .rename_i d off e;obtain⟨bk,hb,hq⟩:=F.HS e;split at hx
  .rename_i y hy;injection hx with hx
   subst hx;obtain⟨_,_,_,_,_,_,vs,T,hw,hc⟩:=F.Jd d bk hb;obtain⟨c1,c2,c3⟩:=hc.at_ hw;obtain⟨v,h1,h2⟩:=Bq (P:=P) ha hz hy ⟨bk,0,none⟩ (λi=>vs.getD i undef) c1 c2 c3;rw[cL]at h1;exact⟨v,by rw[hq];simpa[Instr.loadAt,Instr.sureAddr]using h1,h2⟩
  .cases hx
 .cases hx
def OJ (fr:ay) (x:Operand):Option Slot:=
 match fr.ev x with
 | .v (.ptr o off)=>some (.v (.ptr o off))
 | .v (.ref id cs)=>some (.v (.ref id cs))
 | .v (.pG f cs)=>some (.v (.pG f cs))
 | .v (.iface t y)=>some (.v (.iface t y))
 | .lp d off=>some (.lp d off)
 |_=>none
def xf (P:Program) (s:TypeId) (f:Nat):Option Field:=
 match P.underlying s with
 |some (.struct fs)=>fs[f]?
 |_=>none
def oe (P:Program) (fr:ay) (s:TypeId) (x:Operand) (f:Nat):Option Slot:=
 match xf P s f with
 |some fd=>
  match kW P fd.type with
  |some (_+1)=>
   match fr.ev x with
   | .v (.ptr o off)=>some (.v (.ptr o (off+fd.offset)))
   | .v (.ref _ cs)=>some (.v (.ref none (cs.drop fd.offset)))
   | .lp d off=>some (.lp d (off+fd.offset))
   |_=>none
  |_=>none
 |none=>none
theorem pH {s f n:Nat} {fd:Field} (hf:xf P s f=some fd) (hz:kW P fd.type=some (n+1)) (ad:Addr):
 (Instr.fieldAt s (.pointer (some ad)) f).run P w= .ok (.pointer (some (ad.add fd.offset))) w:=by
 unfold xf at hf;split at hf
 .rename_i fs hu;simp only[Instr.fieldAt,Sem.run_bind,run_underlying hu,Result.andThen_ok,hf,Instr.sureAddr,Sem.run_pure,fieldPlace,run_sizeOf hz];simp
 .cases hf
theorem uE {s f:Nat} {x:Operand} {r:Slot} (R:Rel g w h) (F:FR lt g w base lb fr a) (hx:oe P fr s x f=some r):
 ∃v,(Instr.fieldAt s (a.eval x) f).run P w= .ok v w/\VS g w lb r v:=by
 unfold oe at hx;split at hx
 case h_2=>cases hx
 rename_i fd hf;split at hx
 case h_2=>cases hx
 rename_i n hz;split at hx
 .rename_i o off e;injection hx with hx
  subst hx;have hv:=F.cq e
  cases hq:a.eval x with
  |pointer p=>
   rw[hq]at hv
   cases hv with|ptr _ _ bk hb=>exact⟨_,pH hf hz _,by rw[cL];exact .ptr _ _ _ hb⟩
  |_=>rw[hq]at hv;cases hv
 .rename_i id cs e;injection hx with hx
  subst hx;have hv:=F.cq e
  cases hq:a.eval x with
  |pointer p=>
   rw[hq]at hv
   cases hv with
   |ref _ _ ad vs c1 c2 c3 c4 c5 cz=>
    refine⟨_,pH hf hz _,?_⟩;refine .ref none _ _ (λi=>vs (fd.offset+i)) (λi hi=>?_) (λi hi=>?_) (λi hi=>c3 _ ?_) (λi hi=>?_) trivial (by rw[lD];exact cz)
    .rw[add_add];exact c1 _ (by simp at hi;omega)
    .simpa using c2 (fd.offset+i) (by simp at hi;omega)
    .simp at hi;omega
    .rw[add_add];exact c4 _ (by simp at hi;omega)
  |_=>rw[hq]at hv;cases hv
 .rename_i d off e;injection hx with hx
  subst hx;obtain⟨bk,hb,hq⟩:=F.HS e;exact⟨_,hq▸pH hf hz _,bk,hb,by rw[cL]⟩
 .cases hx
def Lk (tk:Tk) (i:Nat):Option (Nat×Nat):=
 match tk,i with
 | .own l v,0=>some (l,v)
 |_,_=>none
def rY (P:Program) (t:TypeId):Option TypeId:=
 match P.underlying t with
 |some (.slice e)=>some e
 |_=>none
def jX (P:Program) (fr:ay) (t:TypeId) (x i:Operand):Option Slot:=
 match rY P t with
 |some e=>
  match fr.ev x,fr.ev i with
  | .v (.vec tk sz elems),.v (.int _ n)=>
   if kW P e=some sz/\0<=n then
    match elems[n.toNat]? with
    |some cs=>some (.v (.ref (Lk tk n.toNat) cs))
    |none=>none
   else none
  | .v (.sl o off len _ _),.v (.int _ n)=>if kW P e=some 1/\0<=n/\n <(len:Int)then some (.v (.ptr o (off+n.toNat)))else none
  |_,_=>none
 |none=>none
theorem uF {t:TypeId} {x i:Operand} {r:Slot} (R:Rel g w h) (F:FR lt g w base lb fr a) (hx:jX P fr t x i=some r):
 ∃v,(Instr.indexAt t (a.eval x) (a.eval i)).run P w= .ok v w/\VS g w lb r v:=by
 unfold jX at hx;split at hx
 case h_2=>cases hx
 rename_i e he;split at hx
 case h_3=>cases hx
 case h_2 o off len cap y9 k n ex ei=>
  split at hx
  case isFalse=>cases hx
  rename_i hc;obtain⟨hz,h0,ax⟩:=hc;injection hx with hx
  subst hx;have HT:=F.cq ex;have bO:=F.cq ei;unfold rY at he;split at he
  case h_2=>cases he
  rename_i e' hu;injection he with he
  subst he;generalize a.eval x=p at HT;generalize a.eval i=q at bO
  cases bO
  cases HT with|sl _ _ _ _ _ b rc hb hs hn xb hex dY=>refine⟨.pointer (some ⟨b,off+n.toNat,none⟩),?_,.ptr _ _ _ hb⟩;simp only[Instr.indexAt,asIntOf,Sem.run_bind,Sem.run_pure,Result.andThen_ok,run_underlying hu];simp only[h0,ax,and_self,if_true,Sem.run_bind,run_sizeOf hz,Result.andThen_ok,Sem.run_pure,Nat.mul_one,cL]
 rename_i tk sz elems k n ex ei;split at hx
 case isFalse=>cases hx
 rename_i hc;obtain⟨hz,h0⟩:=hc;split at hx
 case h_2=>cases hx
 rename_i cs uq;injection hx with hx
 subst hx;have HT:=F.cq ex;have bO:=F.cq ei;obtain⟨ax,uq⟩:=List.getElem?_eq_some_iff.1 uq;unfold rY at he;split at he
 case h_2=>cases he
 rename_i e' hu;injection he with he
 subst he
 cases hi:a.eval i with
 |int k' n'=>
  rw[hi]at bO
  cases bO with
  |int=>
   cases hq:a.eval x with
   |slice p len cap=>
    rw[hq]at HT
    cases HT with
    |vec _ _ _ ad _ vs c0 c1 c2 c3 c4 c5 c6 c7 cz=>
     have OK:n <(elems.length:Int):=by omega
     refine⟨.pointer (some (ad.add (n.toNat*sz))),?_,?_⟩
     .simp only[Instr.indexAt,asIntOf,Sem.run_bind,Sem.run_pure,Result.andThen_ok,run_underlying hu];simp only[h0,OK,and_self,if_true,Sem.run_bind,run_sizeOf hz,Result.andThen_ok,Sem.run_pure]
     .have hl:cs.length=sz:=uq▸c0 _ ax
      refine .ref _ _ _ (λj=>vs n.toNat j) (λj hj=>?_) (λj hj=>?_) (λj hj=>c3 _ _ ax (by omega)) (λj hj=>?_) ?_ (by rw[lD];exact cz (by rintro rfl;simp at ax))
      .rw[add_add];exact c1 _ _ ax (by omega)
      .have:=c2 n.toNat j ax (by rw[uq];exact hj)
       simpa[uq]using this
      .rw[add_add];exact c4 _ _ ax (by omega)
      .unfold Lk;split
       .rename_i l v h1;obtain⟨_,_,_,h5,h6⟩:=c7;rw[h1,Nat.zero_mul,add_zero];exact⟨h5,h6⟩
       .trivial
   |_=>rw[hq]at HT;cases HT
 |_=>rw[hi]at bO;cases bO
def xg (P:Program) (fr:ay) (t:TypeId) (x i:Operand):Option Slot:=
 match P.underlying t with
 |some .string=>
  match fr.ev x,fr.ev i with
  | .v (.str s),.v (.int _ n)=>if 0<=n then match s[n.toNat]? with
   |some c=>some (.v (.int .u8 c.toNat))
   |none=>none
   else none
  |_,_=>none
 |_=>none
theorem Br {t:TypeId} {x i:Operand} {r:Slot} (F:FR lt g w base lb fr a) (hx:xg P fr t x i=some r):
 ∃v,(Instr.index t (a.eval x) (a.eval i)).run P w= .ok v w/\VS g w lb r v:=by
 unfold xg at hx;split at hx
 case h_2=>cases hx
 rename_i hu;split at hx
 case h_2=>cases hx
 rename_i s k n ex ei;split at hx
 case isFalse=>cases hx
 rename_i h0;split at hx
 case h_2=>cases hx
 rename_i c hc;injection hx with hx
 subst hx;have HT:=F.cq ex;have bO:=F.cq ei
 cases hi:a.eval i with
 |int k' n'=>
  rw[hi]at bO
  cases bO with
  |int=>
   cases hq:a.eval x with
   |string s'=>
    rw[hq]at HT
    cases HT with
    |str=>
     have Rt:s'[n.toNat]? =some c:=by
      obtain⟨h1,h2⟩:=List.getElem?_eq_some_iff.1 hc;have h3:n.toNat <s'.size:=by simpa using h1
      rw[ByteArray.getElem?_lt' _ _ h3];rw[<-h2];rfl
     refine⟨.int .u8 c.toNat,?_,.int _ _⟩;simp only[Instr.index,asIntOf,Sem.run_bind,Sem.run_pure,Result.andThen_ok,run_underlying hu,h0,if_true,Rt]
   |_=>rw[hq]at HT;cases HT
 |_=>rw[hi]at bO;cases bO
def Bs (P:Program) (fr:ay) (s:TypeId) (x:Operand) (f:Nat):Option Slot:=
 match xf P s f with
 |some fd=>
  match xe P fd.type,kW P fd.type,fr.ev x with
  |some b,some n,.v (.agg cs)=>match AV.ld b n cs fd.offset with|some y=>some (.v y)|none=>none
  |_,_,_=>none
 |none=>none
theorem Ll {t:TypeId} {b:Bool} {n off:Nat} {cs:List AV} {y:AV} {vs:Array Value} (ha:xe P t=some b) (hz:kW P t=some n) (hy:AV.ld b n cs off=some y) (r:sJ g w cs vs):
 ∃v,(part t vs off).run P w= .ok v w/\VR g w y v:=by
 obtain⟨⟨r1,r2⟩,r3⟩:=r
 cases b with
 |true=>
  simp only[AV.ld]at hy;split at hy
  .rename_i l KO;obtain⟨hle,hl⟩:=Dr KO;subst hl;simp only[List.length_drop]at hle;injection hy with hy
   subst hy;refine⟨.agg (vs.extract off (off+n)),by simp[part,qD ha,run_sizeOf hz],?_⟩;have hl:((cs.drop off).take n).length=n:=by simp;omega
   have hg:∀i,i <n->(vs.extract off (off+n)).getD i undef=vs.getD (off+i) undef:=λi hi=>by simp[Array.getD_eq_getD_getElem?,Array.getElem?_extract,show off+i <vs.size by omega];rw[if_pos (by omega)];rfl
   refine .agg _ _ (by simp[hl];omega) (λi hi=>?_) (λi hi=>?_)
   .rw[hg i (by omega)];simpa using r2 (off+i) (by omega)
   .rw[hg i (by omega)];exact r3 _ (by omega)
  .cases hy
 |false=>
  simp only[AV.ld]at hy;obtain⟨hi,hy⟩:=List.getElem?_eq_some_iff.1 hy;have:vs[off]? =some (vs.getD off undef):=by simp[Array.getD_eq_getD_getElem?,Array.getElem?_eq_getElem (show off <vs.size by omega)]
  exact⟨vs.getD off undef,by simp only[part,Sem.run_bind,qD ha,Result.andThen_ok,Bool.false_eq_true,if_false];rw[this];rfl,hy▸r2 off hi⟩
theorem Bt {s f:Nat} {x:Operand} {r:Slot} (F:FR lt g w base lb fr a) (hx:Bs P fr s x f=some r):
 ∃v,(Instr.field s (a.eval x) f).run P w= .ok v w/\VS g w lb r v:=by
 unfold Bs at hx;split at hx
 case h_2=>cases hx
 rename_i fd hf;split at hx
 case h_2=>cases hx
 rename_i b n cs ha hz e;split at hx
 case h_2=>cases hx
 rename_i y hy;injection hx with hx
 subst hx;have hv:=F.cq e
 cases hq:a.eval x with
 |agg vs=>
  rw[hq]at hv
  cases hv with
  |agg _ _ h1 h2 h3=>
   obtain⟨v,h4,h5⟩:=Ll (P:=P) ha hz hy ⟨⟨h1,h2⟩,h3⟩;unfold xf at hf;split at hf
   case h_2=>cases hf
   rename_i fs hu;exact⟨v,by simp only[Instr.field,Sem.run_bind,run_underlying hu,Result.andThen_ok,hf,asAgg,Sem.run_pure,h4],h5⟩
 |_=>rw[hq]at hv;cases hv
def sK (fr:ay) (x:Operand) (i:Nat):Option Slot:=
 match fr.ev x with
 | .v (.cN vs)=>match vs[i]? with|some y=>some (.v y)|none=>none
 |_=>none
theorem xh {i:Nat} {x:Operand} {r:Slot} (F:FR lt g w base lb fr a) (hx:sK fr x i=some r):
 ∃v,(Instr.extract (a.eval x) i).run P w= .ok v w/\VS g w lb r v:=by
 unfold sK at hx;split at hx
 case h_2=>cases hx
 rename_i vs e;split at hx
 case h_2=>cases hx
 rename_i y hy;injection hx with hx
 subst hx;have hv:=F.cq e;obtain⟨hi,hy⟩:=List.getElem?_eq_some_iff.1 hy
 cases hq:a.eval x with
 |tuple us=>
  rw[hq]at hv
  cases hv with
  |cN _ _ h1 h2=>
   have:us[i]? =some (us.getD i undef):=by simp[Array.getD_eq_getD_getElem?,Array.getElem?_eq_getElem (show i <us.size by omega)]
   exact⟨us.getD i undef,by simp only[Instr.extract];rw[this];rfl,hy▸h2 i hi⟩
 |_=>rw[hq]at hv;cases hv
end
def OL (x:Operand):Bool:=
 match x with
 | .const _=>true
 |_=>false
def Bu (op:BinOp) (k:IntKind) (a b:Int):Option AV:=
 match op with
 | .add=>some (.int k (k.wrap (a+b)))
 | .sub=>some (.int k (k.wrap (a -b)))
 | .mul=>some (.int k (k.wrap (a*b)))
 | .eql=>some (.bool (decide (a=b)))
 | .neq=>some (.bool (!decide (a=b)))
 | .lss=>some (.bool (decide (a <b)))
 | .leq=>some (.bool (decide (a<=b)))
 | .gtr=>some (.bool (decide (a >b)))
 | .geq=>some (.bool (decide (a≥b)))
 | .quo=>if b=0 then none else some (.int k (k.wrap (a.tdiv b)))
 | .and=>some (.int k (k.wrap ((BitVec.ofInt k.bits a &&&BitVec.ofInt k.bits b).toNat:Int)))
 | .or=>some (.int k (k.wrap ((BitVec.ofInt k.bits a |||BitVec.ofInt k.bits b).toNat:Int)))
 |_=>none
def FY (op:BinOp) (k:IntKind) (a b:Int):Option AV:=
 match op with
 | .shl=>if b <0 then none else some (.int k (k.wrap (a*2^(min b.toNat k.bits))))
 | .shr=>if b <0 then none else some (.int k (a.fdiv (2^(min b.toNat k.bits))))
 |_=>none
def wD (op:BinOp) (a b:List UInt8):Option AV:=
 match op with
 | .add=>if a.length+b.length <9223372036854775808 then some (.str (a++b))else none
 | .eql=>some (.bool (decide (a=b)))
 | .neq=>some (.bool (!decide (a=b)))
 | .lss=>some (.bool (Op.bytesLess a b))
 | .leq=>some (.bool (Op.bytesLess a b||decide (a=b)))
 | .gtr=>some (.bool (!(Op.bytesLess a b||decide (a=b))))
 | .geq=>some (.bool (!Op.bytesLess a b))
 |_=>none
def FZ (P:Program) (t:TypeId):Bool:=
 match P.underlying t with
 |some (.pointer e)=>match kW P e with|some (_+1)=>true|_=>false
 |_=>false
def TZ (P:Program) (t:TypeId) (xc yc:Bool) (x y:AV):Option Bool:=
 match x,y with
 | .bool a,.bool b=>match P.underlying t with|some .bool=>some (decide (a=b))|_=>none
 | .bq,.bq=>if FZ P t then some true else none
 | .bq,.ptr _ _=>if FZ P t then some false else none
 | .ptr _ _,.bq=>if FZ P t then some false else none
 | .bq,.ref _ _=>if FZ P t then some false else none
 | .ref _ _,.bq=>if FZ P t then some false else none
 | .ao,.ao=>match P.underlying t with|some (.slice _)=>some true|_=>none
 | .vec _ _ _,.ao=>match P.underlying t with|some (.slice _)=>some false|_=>none
 | .ph,.ph=>match P.underlying t with|some (.map _ _)=>some true|_=>none
 | .map _,.ph=>match P.underlying t with|some (.map _ _)=>some false|_=>none
 | .vW,.vW=>match P.underlying t with|some (.func _ _ _)=>some true|_=>none
 | .pG _ _,.vW=>match P.underlying t with|some (.func _ _ _)=>some false|_=>none
 | .bu,.bu=>match P.underlying t with|some (.interface _)=>if xc||yc then some true else none|_=>none
 | .iface _ _,.bu=>match P.underlying t with|some (.interface _)=>some false|_=>none
 | .bu,.iface _ _=>match P.underlying t with|some (.interface _)=>some false|_=>none
 | .sl _ _ _ _ _,.ao=>match P.underlying t with|some (.slice _)=>some false|_=>none
 |_,_=>none
def Lm (P:Program) (fr:ay) (op:BinOp) (t:TypeId) (xo yo:Operand):Option Slot:=
 match fr.ev xo,fr.ev yo with
 | .v (.int k a),.v (.int k' b)=>match FY op k a b with
  |some r=>some (.v r)
  |none=>if k=k' then match Bu op k a b with
   |some r=>some (.v r)
   |none=>none
   else none
 | .v (.str a),.v (.str b)=>match wD op a b with|some r=>some (.v r)|none=>none
 | .v x,.v y=>match op with
  | .eql=>match TZ P t (OL xo) (OL yo) x y with|some b=>some (.v (.bool b))|none=>none
  | .neq=>match TZ P t (OL xo) (OL yo) x y with|some b=>some (.v (.bool (!b)))|none=>none
  |_=>none
 |_,_=>none
section
variable {P:Program} {lt:LT} {g:Gh} {w:World} {h:AH} {base:Nat} {lb:Nat->Option Nat} {fr:ay} {a:Act}
theorem zm {op:BinOp} {k:IntKind} {x y:Int} {r:AV} (hr:Bu op k x y=some r) (t:TypeId):
 ∃v,(binOp op t (.int k x) (.int k y)).run P w= .ok v w/\VR g w r v:=by
 unfold Bu at hr;split at hr
 case h_10=>
  split at hr
  .cases hr
  .rename_i hy;injection hr with hr
   subst hr;exact⟨_,by simp only[binOp,ne_eq,not_true_eq_false,if_false,Op.intDiv,if_neg hy,Sem.run_pure],.int _ _⟩
 case h_11=>injection hr with hr;subst hr;exact⟨_,by simp only[binOp,ne_eq,not_true_eq_false,if_false,Op.intBits,Sem.run_pure],.int _ _⟩
 case h_12=>injection hr with hr;subst hr;exact⟨_,by simp only[binOp,ne_eq,not_true_eq_false,if_false,Op.intBits,Sem.run_pure],.int _ _⟩
 all_goals (try cases hr)<;>simp only[binOp,ne_eq,not_true_eq_false,if_false,Op.intArith,Op.intCmp,Sem.run_pure]
 all_goals first
  |exact⟨_,O,.int _ _⟩
  |exact⟨_,O,.bool _⟩
theorem Bv {op:BinOp} {k k':IntKind} {x y:Int} {r:AV} (hr:FY op k x y=some r) (t:TypeId):
 ∃v,(binOp op t (.int k x) (.int k' y)).run P w= .ok v w/\VR g w r v:=by
 unfold FY at hr;split at hr
 .split at hr
  .cases hr
  .rename_i hy;injection hr with hr
   subst hr;exact⟨_,by simp only[binOp,Op.shift,if_neg hy,Sem.run_pure],.int _ _⟩
 .split at hr
  .cases hr
  .rename_i hy;injection hr with hr
   subst hr;exact⟨_,by simp only[binOp,Op.shift,if_neg hy,Sem.run_pure],.int _ _⟩
 .cases hr
theorem xi (a b:ByteArray):(a.toList==b.toList)=decide (a.data.toList=b.data.toList):=by rw[ByteArray.toList_eq,ByteArray.toList_eq,Bool.eq_iff_iff,beq_iff_eq,decide_eq_true_eq]
theorem zo {op:BinOp} {x y:ByteArray} {r:AV} (hr:wD op x.data.toList y.data.toList=some r) (t:TypeId):
 ∃v,(binOp op t (.string x) (.string y)).run P w= .ok v w/\VR g w r v:=by
 unfold wD at hr;split at hr<;>(try cases hr)
 .split at hr
  .rename_i ax;injection hr with hr
   subst hr;have h1:¬ ((x.size+y.size:Nat):Int) >IntKind.i64.max:=by
    have e1:x.data.toList.length=x.size:=by simp
    have e2:y.data.toList.length=y.size:=by simp
    simp[IntKind.max,IntKind.signed,IntKind.bits];omega
   refine⟨.string (x++y),by simp only[binOp,Op.stringOp,Sem.run_ite,Sem.run_pure];rw[if_neg h1],?_⟩;have:x.data.toList++y.data.toList=(x++y).data.toList:=by simp[ByteArray.data_append]
   rw[this];exact .str _
  .cases hr
 all_goals(simp only[binOp,Op.stringOp,Sem.run_pure];(try simp only[xi]);(try simp only[ByteArray.toList_eq]);exact⟨_,O,.bool _⟩)
theorem Bw (t:TypeId) (x y:Value):∃d,Op.equal t x y=Op.equalIn (d+1) t x y:=⟨9999,O⟩
theorem lP {t:TypeId} (h:FZ P t=true):∃e n,P.underlying t=some (.pointer e)/\kW P e=some (n+1):=by
 unfold FZ at h;split at h
 .rename_i e he;split at h
  .rename_i n hn;exact⟨e,n,he,hn⟩
  .cases h
 .cases h
theorem cb {op:BinOp} {t:TypeId} {xo yo:Operand} {v u:Value} (h:∀a b,v= .agg a->u= .agg b->False) (h2:v= .nilIface->u= .nilIface->(OL xo||OL yo)=true):
 (eqGuard op t xo yo v u).run P w= .ok () w:=by
 have core:∀op,op= .eql\/op= .neq->(eqGuard op t xo yo v u).run P w= .ok () w:=by
  intro op Oi
  cases v<;>cases u<;>first
   |exact absurd trivial (λ_=>h _ _ O O)
   |(rcases Oi with rfl|rfl<;>rfl)
   |(have h3:=h2 O O
     rcases Oi with rfl|rfl<;>cases xo<;>cases yo<;>first|rfl|(simp[OL]at h3))
 cases op
 case eql=>exact core _ (.inl O)
 case neq=>exact core _ (.inr O)
 all_goals rfl
theorem Jf {t:TypeId} {xo yo:Operand} {x y:AV} {v u:Value} {b:Bool} (R:Rel g w h) (hr:TZ P t (OL xo) (OL yo) x y=some b) (rx:VR g w x v) (ry:VR g w y u):
 (Op.equal t v u).run P w= .ok b w/\(∀op,(eqGuard op t xo yo v u).run P w= .ok () w):=by
 unfold TZ at hr;obtain⟨d,hd⟩:=Bw t v u;rw[hd];clear hd;split at hr
 case h_1=>
  split at hr
  case h_2=>cases hr
  rename_i hu;injection hr with hr
  subst hr
  cases rx
  cases ry;refine⟨?_,λop=>cb (λa b h1 h2=>by cases h1) (λh1 h2=>by first|(cases h1;done)|(cases h2;done))⟩;simp only[Op.equalIn,Sem.run_bind,run_underlying hu,Result.andThen_ok,Sem.run_pure]
  try rfl
 case h_2=>
  split at hr
  case isFalse=>cases hr
  rename_i hp;obtain⟨e,n,dJ,iy⟩:=lP hp;injection hr with hr
  subst hr
  cases rx
  cases ry;refine⟨?_,λop=>cb (λa b h1 h2=>by cases h1) (λh1 h2=>by cases h1)⟩;simp only[Op.equalIn,Sem.run_bind,run_underlying dJ,Result.andThen_ok,Sem.run_pure]
  try rfl
 case h_3=>
  split at hr
  case isFalse=>cases hr
  rename_i hp;obtain⟨e,n,dJ,iy⟩:=lP hp;injection hr with hr
  subst hr
  cases rx
  cases ry;refine⟨?_,λop=>cb (λa b h1 h2=>by cases h1) (λh1 h2=>by cases h1)⟩;simp only[Op.equalIn,Sem.run_bind,run_underlying dJ,Result.andThen_ok,Sem.run_pure]
  try rfl
 case h_4=>
  split at hr
  case isFalse=>cases hr
  rename_i hp;obtain⟨e,n,dJ,iy⟩:=lP hp;injection hr with hr
  subst hr
  cases rx
  cases ry;refine⟨?_,λop=>cb (λa b h1 h2=>by cases h1) (λh1 h2=>by cases h1)⟩;simp only[Op.equalIn,Sem.run_bind,run_underlying dJ,Result.andThen_ok,Sem.run_pure]
  try rfl
 case h_5=>
  split at hr
  case isFalse=>cases hr
  rename_i hp;obtain⟨e,n,dJ,iy⟩:=lP hp;injection hr with hr
  subst hr
  cases rx
  cases ry;refine⟨?_,λop=>cb (λa b h1 h2=>by cases h1) (λh1 h2=>by cases h1)⟩;simp only[Op.equalIn,Sem.run_bind,run_underlying dJ,Result.andThen_ok,Sem.run_pure]
  try rfl
 case h_6=>
  split at hr
  case isFalse=>cases hr
  rename_i hp;obtain⟨e,n,dJ,iy⟩:=lP hp;injection hr with hr
  subst hr
  cases rx
  cases ry;refine⟨?_,λop=>cb (λa b h1 h2=>by cases h1) (λh1 h2=>by cases h1)⟩;simp only[Op.equalIn,Sem.run_bind,run_underlying dJ,Result.andThen_ok,Sem.run_pure]
  try rfl
 case h_7=>
  split at hr
  case h_2=>cases hr
  rename_i hu;injection hr with hr
  subst hr
  cases rx
  cases ry;refine⟨?_,λop=>cb (λa b h1 h2=>by cases h1) (λh1 h2=>by first|(cases h1;done)|(cases h2;done))⟩;simp only[Op.equalIn,Sem.run_bind,run_underlying hu,Result.andThen_ok,Sem.run_pure]
  try rfl
 case h_8=>
  split at hr
  case h_2=>cases hr
  rename_i hu;injection hr with hr
  subst hr
  cases rx
  cases ry;refine⟨?_,λop=>cb (λa b h1 h2=>by cases h1) (λh1 h2=>by first|(cases h1;done)|(cases h2;done))⟩;simp only[Op.equalIn,Sem.run_bind,run_underlying hu,Result.andThen_ok,Sem.run_pure]
  try rfl
 case h_9=>
  split at hr
  case h_2=>cases hr
  rename_i hu;injection hr with hr
  subst hr
  cases rx
  cases ry;refine⟨?_,λop=>cb (λa b h1 h2=>by cases h1) (λh1 h2=>by first|(cases h1;done)|(cases h2;done))⟩;simp only[Op.equalIn,Sem.run_bind,run_underlying hu,Result.andThen_ok,Sem.run_pure]
  try rfl
 case h_10=>
  split at hr
  case h_2=>cases hr
  rename_i hu;injection hr with hr
  subst hr
  cases rx
  cases ry;refine⟨?_,λop=>cb (λa b h1 h2=>by cases h1) (λh1 h2=>by first|(cases h1;done)|(cases h2;done))⟩;simp only[Op.equalIn,Sem.run_bind,run_underlying hu,Result.andThen_ok,Sem.run_pure]
  try rfl
 case h_11=>
  split at hr
  case h_2=>cases hr
  rename_i hu;injection hr with hr
  subst hr
  cases rx
  cases ry;refine⟨?_,λop=>cb (λa b h1 h2=>by cases h1) (λh1 h2=>by first|(cases h1;done)|(cases h2;done))⟩;simp only[Op.equalIn,Sem.run_bind,run_underlying hu,Result.andThen_ok,Sem.run_pure]
  try rfl
 case h_12=>
  split at hr
  case h_2=>cases hr
  rename_i hu;injection hr with hr
  subst hr
  cases rx
  cases ry;refine⟨?_,λop=>cb (λa b h1 h2=>by cases h1) (λh1 h2=>by first|(cases h1;done)|(cases h2;done))⟩;simp only[Op.equalIn,Sem.run_bind,run_underlying hu,Result.andThen_ok,Sem.run_pure]
  try rfl
 case h_13=>
  split at hr
  case h_2=>cases hr
  rename_i hu;split at hr
  case isFalse=>cases hr
  rename_i zp;injection hr with hr
  subst hr
  cases rx
  cases ry;refine⟨?_,λop=>cb (λa b h1 h2=>by cases h1) (λh1 h2=>zp)⟩;simp only[Op.equalIn,Sem.run_bind,run_underlying hu,Result.andThen_ok,Sem.run_pure]
 case h_14=>
  split at hr
  case h_2=>cases hr
  rename_i hu;injection hr with hr
  subst hr
  cases rx
  cases ry;refine⟨?_,λop=>cb (λa b h1 h2=>by cases h1) (λh1 h2=>by first|(cases h1;done)|(cases h2;done))⟩;simp only[Op.equalIn,Sem.run_bind,run_underlying hu,Result.andThen_ok,Sem.run_pure]
  try rfl
 case h_15=>
  split at hr
  case h_2=>cases hr
  rename_i hu;injection hr with hr
  subst hr
  cases rx
  cases ry;refine⟨?_,λop=>cb (λa b h1 h2=>by cases h1) (λh1 h2=>by first|(cases h1;done)|(cases h2;done))⟩;simp only[Op.equalIn,Sem.run_bind,run_underlying hu,Result.andThen_ok,Sem.run_pure]
  try rfl
 case h_16=>
  split at hr
  case h_2=>cases hr
  rename_i hu;injection hr with hr
  subst hr
  cases rx
  cases ry;refine⟨?_,λop=>cb (λa b h1 h2=>by cases h1) (λh1 h2=>by first|(cases h1;done)|(cases h2;done))⟩;simp only[Op.equalIn,Sem.run_bind,run_underlying hu,Result.andThen_ok,Sem.run_pure]
  try rfl
 case h_17=>cases hr
theorem F0 {op:BinOp} {t:TypeId} {xo yo:Operand} {s:Slot} (R:Rel g w h) (F:FR lt g w base lb fr a) (hx:Lm P fr op t xo yo=some s):
 ∃v,(do eqGuard op t xo yo (a.eval xo) (a.eval yo);binOp op t (a.eval xo) (a.eval yo):Sem Value).run P w= .ok v w/\VS g w lb s v:=by
 unfold Lm at hx;split at hx
 case h_1 k x k' y e1 e2=>
  split at hx
  case h_1=>
   rename_i r hr;injection hx with hx
   subst hx;have v1:=F.cq e1;have v2:=F.cq e2;generalize a.eval xo=p at v1;generalize a.eval yo=q at v2
   cases v1
   cases v2;obtain⟨v,h1,h2⟩:=Bv (P:=P) (g:=g) (w:=w) (k':=k') hr t;exact⟨v,by rw[Sem.run_bind,cb (λ_ _ h _=>by cases h) (λh _=>by cases h)];exact h1,h2⟩
  split at hx
  case isFalse=>cases hx
  rename_i hk;subst hk;split at hx
  case h_2=>cases hx
  rename_i r hr;injection hx with hx
  subst hx;have v1:=F.cq e1;have v2:=F.cq e2;generalize a.eval xo=p at v1;generalize a.eval yo=q at v2
  cases v1
  cases v2;obtain⟨v,h1,h2⟩:=zm (P:=P) (g:=g) (w:=w) hr t;exact⟨v,by rw[Sem.run_bind,cb (λ_ _ h _=>by cases h) (λh _=>by cases h)];exact h1,h2⟩
 case h_2 x y e1 e2=>
  split at hx
  case h_2=>cases hx
  rename_i r hr;injection hx with hx
  subst hx;have v1:=F.cq e1;have v2:=F.cq e2;generalize a.eval xo=p at v1;generalize a.eval yo=q at v2
  cases v1
  cases v2;obtain⟨v,h1,h2⟩:=zo (P:=P) (g:=g) (w:=w) hr t;exact⟨v,by rw[Sem.run_bind,cb (λ_ _ h _=>by cases h) (λh _=>by cases h)];exact h1,h2⟩
 case h_3 x y Ah Ru e1 e2=>
  have v1:=F.cq e1
  have v2:=F.cq e2
  generalize a.eval xo=p at v1;generalize a.eval yo=q at v2;split at hx
  case h_3=>cases hx
  all_goals
   split at hx
   case h_2=>cases hx
   rename_i b hb;injection hx with hx
   subst hx;obtain⟨h1,h2⟩:=Jf (P:=P) R hb v1 v2;refine⟨_,?_,.bool _⟩;rw[Sem.run_bind,h2,Result.andThen_ok]
  .have:binOp .eql t p q=(do pure (.bool (<-Op.equal t p q)):Sem Value):=by
    cases v1<;>cases v2<;>first|rfl|exact(Ah _ _ _ _ rfl rfl).elim|exact(Ru _ _ rfl rfl).elim|(simp[TZ]at hb)
   rw[this,Sem.run_bind,h1];rfl
  .have:binOp .neq t p q=(do pure (.bool (!(<-Op.equal t p q))):Sem Value):=by
    cases v1<;>cases v2<;>first|rfl|exact(Ah _ _ _ _ rfl rfl).elim|exact(Ru _ _ rfl rfl).elim|(simp[TZ]at hb)
   rw[this,Sem.run_bind,h1];rfl
 case h_4=>cases hx
def WU (fr:ay) (op:UnOp) (x:Operand):Option Slot:=
 match op,fr.ev x with
 | .not,.v (.bool b)=>some (.v (.bool (!b)))
 | .neg,.v (.int k n)=>some (.v (.int k (k.wrap (0 -n))))
 |_,_=>none
theorem Jg {op:UnOp} {x:Operand} {s:Slot} (F:FR lt g w base lb fr a) (hx:WU fr op x=some s):∃v,(Op.unary op (a.eval x)).run P w= .ok v w/\VS g w lb s v:=by
 unfold WU at hx;split at hx
 case h_1 b e=>
  injection hx with hx
  subst hx;have v1:=F.cq e;generalize a.eval x=p at v1
  cases v1;exact⟨_,O,.bool _⟩
 case h_2 k n e=>
  injection hx with hx
  subst hx;have v1:=F.cq e;generalize a.eval x=p at v1
  cases v1;exact⟨_,O,.int _ _⟩
 case h_3=>cases hx
def HU (P:Program) (fr:ay) (s d:TypeId) (x:Operand):Option Slot:=
 match P.underlying s,P.underlying d,fr.ev x with
 |some _,some (.int k),.v (.int _ n)=>some (.v (.int k (k.wrap n)))
 |some .string,some .string,.v (.str b)=>some (.v (.str b))
 |_,_,_=>none
theorem Ds {s d:TypeId} {x:Operand} {r:Slot} (F:FR lt g w base lb fr a) (hx:HU P fr s d x=some r):∃v,(convert s d (a.eval x)).run P w= .ok v w/\VS g w lb r v:=by
 unfold HU at hx;split at hx
 case h_1 td k kk n h1 h2 e=>
  injection hx with hx
  subst hx;have v1:=F.cq e;generalize a.eval x=p at v1
  cases v1;refine⟨.int k (k.wrap n),?_,.int _ _⟩;simp only[convert,Sem.run_bind,run_underlying h1,run_underlying h2,Result.andThen_ok]
  cases td<;>rfl
 case h_2 b h1 h2 e=>
  injection hx with hx
  subst hx;have v1:=F.cq e;generalize a.eval x=p at v1
  cases v1;refine⟨_,?_,.str _⟩;simp only[convert,Sem.run_bind,run_underlying h1,run_underlying h2,Result.andThen_ok];rfl
 case h_3=>cases hx
def sL (P:Program) (fr:ay) (t:TypeId) (x:Operand):Option Slot:=
 match P.underlying t with
 |some (.interface _)=>none
 |some _=>match fr.ev x with| .v y=>some (.v (.iface t y))|_=>none
 |none=>none
theorem xj {t:TypeId} {x:Operand} {r:Slot} (F:FR lt g w base lb fr a) (hx:sL P fr t x=some r):∃v,(Instr.makeInterface t (a.eval x)).run P w= .ok v w/\VS g w lb r v:=by
 unfold sL at hx;split at hx
 case h_1=>cases hx
 case h_3=>cases hx
 rename_i td hn hu;split at hx
 case h_2=>cases hx
 rename_i y e;injection hx with hx
 subst hx;refine⟨.iface t (a.eval x),?_,.iface _ _ _ (F.cq e)⟩;simp only[Instr.makeInterface,Sem.run_bind,run_underlying hu,Result.andThen_ok]
 cases td<;>first|rfl|exact absurd rfl (hn _)
def ay.FD (fr:ay):List Operand->Option (List AV)
 |[]=>some []
 |x::r=>match fr.ev x with
  | .v y=>match fr.FD r with|some l=>some (y::l)|none=>none
  |_=>none
theorem Jh {xs:List Operand} {l:List AV} (F:FR lt g w base lb fr a) (hx:fr.FD xs=some l):xs.length=l.length/\∀i (hi:i <l.length),VR g w l[i] ((xs.map a.eval).getD i undef):=by
 induction xs generalizing l with
 |nil=>simp only[ay.FD]at hx;injection hx with hx;subst hx;simp
 |cons x r ih=>
  simp only[ay.FD]at hx;split at hx
  case h_2=>cases hx
  rename_i y e;split at hx
  case h_2=>cases hx
  rename_i l' hl;injection hx with hx
  subst hx;obtain⟨h1,h2⟩:=ih hl;refine⟨by simp[h1],λi hi=>?_⟩
  cases i with|zero=>simpa using F.cq e|succ i=>simpa using h2 i (by simpa using hi)
theorem By {xs:Array Operand} {l:List AV} (F:FR lt g w base lb fr a) (hx:fr.FD xs.toList=some l):Df g w l (xs.map a.eval):=by obtain⟨h1,h2⟩:=Jh F hx;refine⟨by simpa using h1,λi hi=>?_⟩;have:=h2 i hi;simpa[List.getD_eq_getElem?_getD,Array.getD_eq_getD_getElem?]using this
def wE (fr:ay) (fn:Fn) (first eV:Array Operand):Option Slot:=
 match fn,first.toList,fr.FD eV.toList with
 | .func f,[],some l=>some (.v (.pG f l))
 |_,_,_=>none
theorem zq {fn:Fn} {first eV:Array Operand} {r:Slot} (F:FR lt g w base lb fr a) (hx:wE fr fn first eV=some r):
 ∃v,(Instr.makeFunc fn (first.map a.eval) (eV.map a.eval)).run P w= .ok v w/\VS g w lb r v:=by
 unfold wE at hx;split at hx
 case h_2=>cases hx
 rename_i f l h1 h2;injection hx with hx
 subst hx;obtain⟨h3,h4⟩:=By F h2;have:first=#[]:=by cases first;simp_all
 subst this;exact⟨_,O,by simpa[VS]using VR.pG f l _ h3 h4⟩
def eL (fr:ay) (x:Option Operand) (vY:Nat):Option Nat:=
 match x with
 |none=>some vY
 |some x=>match fr.ev x with| .v (.int _ n)=>if 0<=n then some n.toNat else none|_=>none
def og (P:Program) (fr:ay) (t:TypeId) (x:Operand) (lo hi mx:Option Operand):Option Slot:=
 match P.underlying t,fr.ev x with
 |some .string,.v (.str s)=>
  match mx,eL fr lo 0,eL fr hi s.length with
  |none,some l,some h=>if l<=h/\h<=s.length then some (.v (.str ((s.take h).drop l)))else none
  |_,_,_=>none
 |some (.slice e),.v (.vec tk sz elems)=>
  match eL fr lo 0,eL fr hi elems.length with
  |some l,some h=>
   if kW P e=some sz/\l<=h/\h<=elems.length then
    match hi,mx with
    |none,none=>some (.v (.vec (match tk with| .own l v=> .Ld l v|tk=>tk) sz (elems.drop l)))
    |some _,none=>some (.v (.vec .none sz ((elems.take h).drop l)))
    |some _,some m=>match eL fr (some m) 0 with|some m=>if h=m then some (.v (.vec .full sz ((elems.take h).drop l)))else none|none=>none
    |none,some _=>none
   else none
  |_,_=>none
 |some (.slice e),.v .ao=>
  match kW P e,eL fr lo 0,eL fr hi 0,mx with
  |some _,some 0,some 0,none=>some (.v .ao)
  |_,_,_,_=>none
 |some (.slice e),.v (.sl o off n cap ex)=>
  match mx,eL fr lo 0,eL fr hi n with
  |none,some l,some h=>if kW P e=some 1/\l<=h/\h<=cap/\(l <cap\/l=0)then some (.v (.sl o (off+l) (h -l) (cap -l) ex))else none
  |_,_,_=>none
 |_,_=>none
theorem lE {x:Operand} {d n:Nat} (F:FR lt g w base lb fr a) (hx:eL fr (some x) d=some n):∃k i,a.eval x= .int k i/\0<=i/\i.toNat=n:=by
 simp only[eL]at hx;split at hx
 case h_2=>cases hx
 rename_i k i e;split at hx
 case isFalse=>cases hx
 rename_i h0;injection hx with hx
 have v1:=F.cq e;generalize a.eval x=p at v1
 cases v1;exact⟨_,_,O,h0,hx⟩
theorem run_sliceBound {k:IntKind} {i:Int} {y:Nat} {c:BoundsCode} (h0:0<=i) (h1:i.toNat<=y):(Instr.sliceBound (.int k i) y c).run P w= .ok i.toNat w:=by simp only[Instr.sliceBound,asIntOf,Sem.run_bind,Sem.run_pure,Result.andThen_ok];rw[if_pos ⟨h0,by omega⟩];rfl
theorem iP {lo hi mx:Option Operand} {UN:Bool} {len cap l h m:Nat} (F:FR lt g w base lb fr a) (h1:eL fr lo 0=some l) (h2:eL fr hi len=some h) (h3:eL fr mx cap=some m)
 (FE:l<=h) (Ua:h<=m) (Xu:m<=cap) (Xv:hi=none->mx=none):
 (Instr.sliceBounds UN len cap (lo.map a.eval) (hi.map a.eval) (mx.map a.eval)).run P w= .ok (l,h,m) w:=by
 cases mx with
 |none=>
  simp only[eL]at h3;injection h3 with h3
  subst h3
  cases hi with
  |none=>
   simp only[eL]at h2;injection h2 with h2
   subst h2;simp only[Instr.sliceBounds,Option.map_none,Sem.run_bind,Sem.run_pure,Result.andThen_ok]
   cases lo with
   |none=>simp only[eL]at h1;injection h1 with h1;subst h1;rfl
   |some x=>obtain⟨k0,i0,UO,UP,UQ⟩:=lE F h1;subst UQ;simp only[Option.map_some,UO,Sem.run_bind,run_sliceBound UP FE,Result.andThen_ok,Sem.run_pure]
  |some y=>
   obtain⟨k,i,e1,e2,e3⟩:=lE F h2;subst e3;simp only[Instr.sliceBounds,Option.map_none,Option.map_some,e1,Sem.run_bind,Sem.run_pure,Result.andThen_ok,run_sliceBound e2 Ua]
   cases lo with
   |none=>simp only[eL]at h1;injection h1 with h1;subst h1;rfl
   |some x=>obtain⟨k0,i0,UO,UP,UQ⟩:=lE F h1;subst UQ;simp only[Option.map_some,UO,Sem.run_bind,run_sliceBound UP FE,Result.andThen_ok,Sem.run_pure]
 |some z=>
  cases hi with
  |none=>cases Xv O
  |some y=>
   obtain⟨k,i,e1,e2,e3⟩:=lE F h2;obtain⟨k',i',f1,f2,f3⟩:=lE F h3;subst e3 f3;simp only[Instr.sliceBounds,Option.map_some,e1,f1,Sem.run_bind,Sem.run_pure,Result.andThen_ok,run_sliceBound e2 Ua,run_sliceBound f2 Xu]
   cases lo with
   |none=>simp only[eL]at h1;injection h1 with h1;subst h1;rfl
   |some x=>obtain⟨k0,i0,UO,UP,UQ⟩:=lE F h1;subst UQ;simp only[Option.map_some,UO,Sem.run_bind,run_sliceBound UP FE,Result.andThen_ok,Sem.run_pure]
theorem extract_data (s:ByteArray) (l h:Nat) (FE:l<=h) (hh:h<=s.size):(s.extract l h).data.toList=(s.data.toList.take h).drop l:=by rw[ByteArray.data_extract,Array.toList_extract];simp[List.extract_eq_take_drop,List.drop_take]
theorem VR.part {tk pz:Tk} {sz l h fB:Nat} {elems:List (List AV)} {ad:Addr} {n cap:Nat} (r:VR g w (.vec tk sz elems) (.slice (some ad) n cap)) (hl:l<=h) (hh:h<=elems.length)
 (hc:h -l<=fB) (Rt:fB<=cap -l) (wF:Addr) (Xw:l <h->wF=ad.add (l*sz)) (ht:uA g w pz wF (h -l) fB sz):
 VR g w (.vec pz sz ((elems.take h).drop l)) (.slice (some wF) (h -l) fB):=by
 cases r with
 |vec _ _ _ _ _ vs c0 c1 c2 c3 c4 c5 c6 c7 cz=>
  have hlen:((elems.take h).drop l).length=h -l:=by simp;omega
  have key:VR g w (.vec pz sz ((elems.take h).drop l)) (.slice (some wF) ((elems.take h).drop l).length fB):=by
   refine .vec _ _ _ _ _ (λi j=>vs (l+i) j) (λi hi=>?_) (λi j hi hj=>?_) (λi j hi hj=>?_) (λi j hi hj=>c3 _ _ (by omega) hj) (λi j hi hj=>?_) (by omega) (by omega) (by rw[hlen];exact ht) (λcv=>by
    have FE:l <h:=by
     rcases Nat.lt_or_ge l h with q|q
     .exact q
     .exact absurd (List.length_eq_zero_iff.1 (by rw[hlen];omega)) cv
    rw[Xw FE,lD];exact cz (by rintro rfl;simp at*))
   .have:=c0 (l+i) (by omega)
    simpa using this
   .rw[Xw (by omega),add_add,<-Nat.add_assoc,<-Nat.add_mul];exact c1 (l+i) j (by omega) hj
   .have:=c2 (l+i) j (by omega) (by simpa using hj)
    simpa using this
   .rw[Xw (by omega),add_add,<-Nat.add_assoc,<-Nat.add_mul];exact c4 (l+i) j (by omega) hj
  rwa [hlen]at key
theorem Bz {t:TypeId} {x:Operand} {lo hi mx:Option Operand} {r:Slot} (F:FR lt g w base lb fr a) (hx:og P fr t x lo hi mx=some r):
 ∃v,(Instr.sliceAt t (a.eval x) (lo.map a.eval) (hi.map a.eval) (mx.map a.eval)).run P w= .ok v w/\VS g w lb r v:=by
 unfold og at hx;split at hx
 case h_1 s hu e=>
  split at hx
  case h_2=>cases hx
  rename_i l h h1 h2;split at hx
  case isFalse=>cases hx
  rename_i hc;injection hx with hx
  subst hx;have v1:=F.cq e;generalize a.eval x=p at v1
  cases v1 with
  |str s=>
   have hb:=iP (P:=P) (UN:=false) (len:=s.size) (cap:=s.size) (mx:=none) F h1 (by simpa using h2) O hc.1 (by simpa using hc.2) (Nat.le_refl _) (λ_=>rfl)
   refine⟨.string (s.extract l h),?_,?_⟩
   .simp only[Option.map_none]at hb;simp only[Instr.sliceAt,Instr.slice,Sem.run_bind,run_underlying hu,Result.andThen_ok,Option.map_none,Option.isSome_none,Bool.false_eq_true,if_false,hb,Sem.run_pure]
   .rw[<-extract_data s l h hc.1 (by simpa using hc.2)];exact .str _
 case h_2 e tk sz elems hu ex=>
  split at hx
  case h_2=>cases hx
  rename_i l h h1 h2;split at hx
  case isFalse=>cases hx
  rename_i hc;obtain⟨hz,FE,UR⟩:=hc;have v1:=F.cq ex;generalize a.eval x=p at v1;have v0:=v1
  cases v1 with
  |vec _ _ _ ad cap vs c0 c1 c2 c3 c4 c5 c6 c7=>
   have run:∀m,eL fr mx cap=some m->h<=m->m<=cap->(hi=none->mx=none)->
    (Instr.sliceAt t (.slice (some ad) elems.length cap) (lo.map a.eval) (hi.map a.eval) (mx.map a.eval)).run P w= .ok (.slice (if m=l then some ad else some (ad.add (l*sz))) (h -l) (m -l)) w:=by
    intro m hm Ua Xu Xv;have hb:=iP (P:=P) (UN:=true) (len:=elems.length) (cap:=cap) F h1 h2 hm FE Ua Xu Xv;simp only[Instr.sliceAt,Instr.slice,Sem.run_bind,run_underlying hu,Result.andThen_ok,hb,run_sizeOf hz,Sem.run_pure,Option.map_some]
   split at hx
   case h_1=>
    injection hx with hx
    subst hx;simp only[eL]at h2;injection h2 with h2
    subst h2;refine⟨_,run cap O c5 (Nat.le_refl _) (λ_=>rfl),?_⟩;have ek:elems.drop l=(elems.take elems.length).drop l:=by simp
    by_cases Ji:cap=l
    .rw[if_pos Ji];simp only[VS];rw[ek];refine VR.part v0 FE (Nat.le_refl _) (by omega) (Nat.le_refl _) ad (λhh=>by omega) ?_;have h0:elems.length -l=0:=by omega
     have h1:cap -l=0:=by omega
     rw[h0,h1]
     cases tk with|none=>trivial|full=>rfl|own a b=>exact⟨c7.1,c7.2.1,λ_ h=>absurd h (by omega)⟩|Ld a b=>exact⟨c7.1,c7.2.1,λ_ h=>absurd h (by omega)⟩
    .rw[if_neg Ji];simp only[VS];rw[ek];refine VR.part v0 FE (Nat.le_refl _) (by omega) (Nat.le_refl _) _ (λhh=>rfl) ?_;have bV:∀aw,vX g w aw ad elems.length cap sz->vX g w aw (ad.add (l*sz)) (elems.length -l) (cap -l) sz:=by
      intro aw ⟨t1,t2,t3,c,T,t4,t5⟩;have e1:l*sz+(elems.length -l)*sz=elems.length*sz:=by rw[<-Nat.add_mul];congr 1;omega
      have e2:l*sz+(cap -l)*sz=cap*sz:=by rw[<-Nat.add_mul];congr 1;omega
      have US:(ad.add (l*sz)).off=ad.off+l*sz:=by unfold Addr.add;split<;>simp_all
      refine⟨?_,by rw[lD];exact t2,by rw[lD,US,t3];omega,c,T,by rw[lD];exact t4,by rw[US];omega⟩;unfold Addr.add;split<;>simp_all
     cases tk with|none=>trivial|full=>simp only[uA]at c7|-;omega|own a b=>exact⟨c7.1,c7.2.1,λe hn=>bV _ (c7.2.2.1 e (by omega))⟩|Ld a b=>exact⟨c7.1,c7.2.1,λe hn=>bV _ (c7.2.2 e (by omega))⟩
   case h_2 y=>
    injection hx with hx
    subst hx;refine⟨_,run cap O (by omega) (Nat.le_refl _) (λ_=>rfl),?_⟩;simp only[VS];split
    .exact VR.part v0 FE UR (by omega) (Nat.le_refl _) ad (λhh=>by omega) trivial
    .exact VR.part v0 FE UR (by omega) (Nat.le_refl _) _ (λhh=>rfl) trivial
   case h_4=>cases hx
   case h_3 y m=>
    split at hx
    case h_2=>cases hx
    rename_i m' hm;split at hx
    case isFalse=>cases hx
    rename_i Ua;subst Ua;injection hx with hx
    subst hx;have Oj:eL fr (some m) cap=some h:=by simpa[eL]using hm
    refine⟨_,run h Oj (Nat.le_refl _) (by omega) (λh=>by cases h),?_⟩;simp only[VS];split
    .exact VR.part v0 FE UR (Nat.le_refl _) (by omega) ad (λhh=>by omega) O
    .exact VR.part v0 FE UR (Nat.le_refl _) (by omega) _ (λhh=>rfl) O
 case h_3 e hu ex=>
  split at hx
  case h_2=>cases hx
  rename_i n hz h1 h2;injection hx with hx
  subst hx;have v1:=F.cq ex;generalize a.eval x=p at v1
  cases v1 with
  |ao=>
   have hb:=iP (P:=P) (w:=w) (UN:=true) (len:=0) (cap:=0) (mx:=none) F h1 h2 O (Nat.le_refl _) (Nat.le_refl _) (Nat.le_refl _) (λ_=>rfl)
   refine⟨.slice none 0 0,?_,.ao⟩;simp only[Option.map_none]at hb;simp only[Instr.sliceAt,Instr.slice,Sem.run_bind,run_underlying hu,Result.andThen_ok,Option.map_none,hb,run_sizeOf hz,Sem.run_pure];rfl
 case h_4 e o off n cap y9 hu ex=>
  split at hx
  case h_2=>cases hx
  rename_i l h h1 h2;split at hx
  case isFalse=>cases hx
  rename_i hc;obtain⟨hz,FE,UR,Xx⟩:=hc;injection hx with hx
  subst hx;have v1:=F.cq ex;generalize a.eval x=p at v1
  cases v1 with
  |sl _ _ _ _ _ b rc hb hs hn xb hex dY=>
   have dk:=iP (P:=P) (w:=w) (UN:=true) (len:=n) (cap:=rc) (mx:=none) F h1 h2 O FE (by omega) (Nat.le_refl _) (λ_=>rfl)
   refine⟨.slice (some ⟨b,off+l,none⟩) (h -l) (rc -l),?_,?_⟩
   .simp only[Option.map_none]at dk;simp only[Instr.sliceAt,Instr.slice,Sem.run_bind,run_underlying hu,Result.andThen_ok,Option.map_none,dk,run_sizeOf hz,Sem.run_pure,Nat.mul_one,Option.map_some]
    by_cases Ji:rc=l
    .have:l=0:=by omega
     rw[if_pos Ji,this];rfl
    .rw[if_neg Ji,cL]
   .obtain⟨c,T,fz,q1,q2⟩:=hs;exact .sl _ _ _ _ _ b _ hb ⟨c,T,fz,q1,by omega⟩ (by omega) (by omega) (λe=>by rw[hex e]) (by omega)
 case h_5=>cases hx
end
section
variable {P:Program} {lt:LT} {g:Gh} {w:World} {h:AH} {base:Nat} {lb:Nat->Option Nat} {fr:ay} {a:Act}
theorem F2 {x:Operand} {s:Slot} (F:FR lt g w base lb fr a) (hx:OJ fr x=some s) (o:Oper) (ho:o.op= .nilCheck x):
 ∃v,(execOp a.eval o).run P w= .ok (.value v) w/\VS g w lb s v:=by
 unfold OJ at hx;split at hx
 case h_1 o' off e=>
  injection hx with hx
  subst hx;have v1:=F.cq e;refine⟨a.eval x,?_,v1⟩;simp only[execOp,ho];generalize a.eval x=p at v1
  cases v1;rfl
 case h_2 id cs e=>
  injection hx with hx
  subst hx;have v1:=F.cq e;refine⟨a.eval x,?_,v1⟩;simp only[execOp,ho];generalize a.eval x=p at v1
  cases v1;rfl
 case h_3 f cs e=>
  injection hx with hx
  subst hx;have v1:=F.cq e;refine⟨a.eval x,?_,v1⟩;simp only[execOp,ho];generalize a.eval x=p at v1
  cases v1;rfl
 case h_4 t y e=>
  injection hx with hx
  subst hx;have v1:=F.cq e;refine⟨a.eval x,?_,v1⟩;simp only[execOp,ho];generalize a.eval x=p at v1
  cases v1;rfl
 case h_5 d off e=>
  injection hx with hx
  subst hx;obtain⟨b,hb,hq⟩:=F.HS e;refine⟨a.eval x,?_,b,hb,hq⟩;simp only[execOp,ho,hq];rfl
 case h_6=>cases hx
def oU (P:Program) (t:TypeId):Option AV:=
 match P.info? t with
 |some i=>match i.zero with|some z=>WT z|none=>none
 |none=>none
theorem nB {t:TypeId} {x:AV} (hx:oU P t=some x):∃z,(zeroValue t).run P w= .ok z w/\∀g w',VR g w' x z:=by
 unfold oU at hx;split at hx
 case h_2=>cases hx
 rename_i i hi;split at hx
 case h_2=>cases hx
 rename_i z hz;exact⟨z,by simp[zeroValue,run_typeInfo hi,hz],λg w'=>uD hx⟩
def wG (P:Program) (fr:ay) (x:Operand) (t:TypeId) (ok:Bool):Option Slot:=
 match P.underlying t with
 |some (.interface _)=>none
 |none=>none
 |some _=>
  match fr.ev x with
  | .v (.iface t' y)=>
   match Nat.beq t' t,ok with
   |true,true=>some (.v (.cN [y,.bool true]))
   |true,false=>some (.v y)
   |false,true=>match oU P t with|some z=>some (.v (.cN [z,.bool false]))|none=>none
   |false,false=>none
  | .v .bu=>
   match ok with
   |true=>match oU P t with|some z=>some (.v (.cN [z,.bool false]))|none=>none
   |false=>none
  |_=>none
theorem VR.F3 {x y:AV} {v u:Value} (h1:VR g w x v) (h2:VR g w y u):VR g w (.cN [x,y]) (.tuple #[v,u]):=
 .cN _ _ O λi hi=>by
  match i,hi with
  |0,_=>exact h1
  |1,_=>exact h2
theorem zr {x:Operand} {xt t:TypeId} {ok:Bool} {s:Slot} (F:FR lt g w base lb fr a) (hx:wG P fr x t ok=some s):
 ∃v,(Instr.typeAssert (a.eval x) xt t ok).run P w= .ok v w/\VS g w lb s v:=by
 unfold wG at hx;split at hx
 case h_1=>cases hx
 case h_2=>cases hx
 rename_i td F4 hu;split at hx
 case h_1 t' y e=>
  have v1:=F.cq e
  generalize a.eval x=p at v1
  cases v1 with
  |iface _ _ v hv=>
   split at hx
   case h_1 hb=>
    injection hx with hx
    subst hx;have hb:=Nat.eq_of_beq_eq_true hb;subst hb;refine⟨.tuple #[v,.bool true],?_,VR.F3 hv (.bool true)⟩;simp only[Instr.typeAssert,Sem.run_bind,run_underlying hu,Result.andThen_ok]
    cases td<;>first|exact absurd O (F4 _)|simp
   case h_2 hb=>
    injection hx with hx
    subst hx;have hb:=Nat.eq_of_beq_eq_true hb;subst hb;refine⟨v,?_,hv⟩;simp only[Instr.typeAssert,Sem.run_bind,run_underlying hu,Result.andThen_ok]
    cases td<;>first|exact absurd O (F4 _)|simp
   case h_3 hb=>
    split at hx
    case h_2=>cases hx
    rename_i z hz;injection hx with hx
    subst hx;have hb:t'≠t:=Nat.ne_of_beq_eq_false hb;obtain⟨z',h1,h2⟩:=nB (w:=w) hz;refine⟨.tuple #[z',.bool false],?_,VR.F3 (h2 g w) (.bool false)⟩;simp only[Instr.typeAssert,Sem.run_bind,run_underlying hu,Result.andThen_ok]
    cases td<;>first|exact absurd O (F4 _)|simp[hb,h1]
   case h_4=>cases hx
 case h_2 e=>
  have v1:=F.cq e
  generalize a.eval x=p at v1
  cases v1;split at hx
  case h_2=>cases hx
  split at hx
  case h_2=>cases hx
  rename_i z hz;injection hx with hx
  subst hx;obtain⟨z',h1,h2⟩:=nB (w:=w) hz;refine⟨.tuple #[z',.bool false],?_,VR.F3 (h2 g w) (.bool false)⟩;simp only[Instr.typeAssert,Sem.run_bind,run_underlying hu,Result.andThen_ok]
  cases td<;>first|exact absurd O (F4 _)|simp[h1]
 case h_3=>cases hx
def pI (k:List UInt8):List (AV×AV)->Option (Option AV)
 |[]=>some none
 |(.str k',v)::r=>bif k==k' then some (some v)else pI k r
 |_=>none
def F5 (k:List UInt8):List (AV×AV)->Nat
 |[]=>0
 |(.str k',_)::r=>bif k==k' then 0 else F5 k r+1
 |_=>0
def Ln (P:Program) (t:TypeId):Option (TypeId×TypeId):=
 match P.underlying t with
 |some (.map k e)=>match P.underlying k with|some .string=>some (k,e)|_=>none
 |_=>none
def sM (fr:ay) (h:AH) (x:Operand):Option (List (AV×AV)):=
 match fr.ev x with
 | .v .ph=>some []
 | .v (.map o)=>match h.get o with|some (.map es)=>some es|_=>none
 |_=>none
def HW (P:Program) (e:TypeId) (ok:Bool) (r:Option AV):Option Slot:=
 match r,ok with
 |some v,true=>some (.v (.cN [v,.bool true]))
 |some v,false=>some (.v v)
 |none,true=>match oU P e with|some z=>some (.v (.cN [z,.bool false]))|none=>none
 |none,false=>match oU P e with|some z=>some (.v z)|none=>none
def wH (P:Program) (fr:ay) (h:AH) (t:TypeId) (x i:Operand) (ok:Bool):Option Slot:=
 match Ln P t,sM fr h x,fr.ev i with
 |some (_,e),some es,.v (.str k)=>match pI k es with|some r=>HW P e ok r|none=>none
 |_,_,_=>none
theorem HX (a b:ByteArray):(a==b)=(a.data.toList==b.data.toList):=by
 have h:(a==b)=(a.data==b.data):=by cases a;cases b;rfl
 rw[h]
 by_cases Rv:a.data=b.data
 .simp[Rv]
 .have:¬ a.data.toList=b.data.toList:=λe=>Rv (Array.ext' e)
  rw[beq_eq_false_iff_ne.2 this,beq_eq_false_iff_ne.2 Rv]
theorem rH {k:ByteArray} {es:List (AV×AV)} {ms:List MapEntry} {r:Option AV} (hl:ms.length=es.length)
 (hv:∀i (hi:i <es.length),∃m,ms[i]? =some m/\VR g w es[i].1 m.key/\VR g w es[i].2 m.val) (hr:pI k.data.toList es=some r):
 ∀n,∃q,Instr.findNow .string (.string k) ms n=some q/\(match r with
  |some x=>∃j v,q=some (n+j,v)/\VR g w x v/\j=F5 k.data.toList es/\∃hj:j <es.length,es[j].1=AV.str k.data.toList/\es[j].2=x/\∀m,ms[j]? =some m->m.key=Value.string k
  |none=>q=none):=by
 induction es generalizing ms with
 |nil=>
  intro n;simp only[pI]at hr;injection hr with hr
  subst hr;have:ms=[]:=List.eq_nil_of_length_eq_zero (by simpa using hl);subst this;exact⟨none,O,O⟩
 |cons e es ih=>
  intro n;obtain⟨m,ms,rfl⟩:∃m QJ,ms=m::QJ:=by cases ms with|nil=>simp at hl|cons m QJ=>exact⟨m,QJ,O⟩
  obtain⟨m0,WV,v1,v2⟩:=hv 0 (by simp);have WV:m=m0:=by simpa using WV
  subst WV;obtain⟨ke,ve⟩:=e;simp only[List.getElem_cons_zero]at v1 v2;unfold pI at hr;split at hr
  case h_1 heq=>cases heq
  case h_3=>cases hr
  rename_i k' v' r' heq;injection heq with h1 h2
  injection h1 with h1 h3
  subst h1 h2 h3;generalize Ub:m.key=mk at v1
  cases v1 with
  |str s=>
   simp only[Instr.findNow,Ub,Instr.sameNow,HX]
   cases hb:(k.data.toList==s.data.toList)with
   |true=>
    rw[hb]at hr;simp only[cond_true]at hr;injection hr with hr
    subst hr;have e1:k.data.toList=s.data.toList:=by simpa using hb
    have hks:k=s:=by
     have h1:k.data=s.data:=Array.ext' e1
     cases k;cases s;simp_all
    exact⟨some (n,m.val),O,0,m.val,by simp,v2,by simp[F5,hb],by simp,by simp[hks],by simp,λm' Oj=>by
     have:m=m':=by simpa using Oj
     rw[<-this,Ub,hks]⟩
   |false=>
    rw[hb]at hr;simp only[cond_false]at hr;obtain⟨q,hq,pj⟩:=ih (ms:=ms) (by simpa using hl) (λi hi=>by have:=hv (i+1) (by simpa using hi);simpa only[List.getElem?_cons_succ,List.getElem_cons_succ]using this) hr (n+1);refine⟨q,hq,?_⟩
    cases r with|none=>exact pj|some x=>obtain⟨j,v,h1,h2,h7,h3,h4,h5,h6⟩:=pj;exact⟨j+1,v,by rw[h1];congr 2;omega,h2,by simp[F5,hb,h7],by simpa using h3,by simpa using h4,by simpa using h5,λm' Oj=>h6 m' (by simpa using Oj)⟩
theorem lg {em:Bool} {kt:TypeId} {s:ByteArray} (hk:P.underlying kt=some .string):(Instr.checkKey em 10000 kt (.string s)).run P w= .ok () w:=by
 have:∃d,Instr.checkKey em 10000 kt (.string s)=Instr.checkKey em (d+1) kt (.string s):=⟨9999,O⟩
 obtain⟨d,hd⟩:=this;rw[hd];simp[Instr.checkKey,run_underlying hk]
theorem xk {x:Operand} {es:List (AV×AV)} (R:Rel g w h) (F:FR lt g w base lb fr a) (hx:sM fr h x=some es):
 ∃ms:Array MapEntry,ms.size=es.length/\(∀i (hi:i <es.length),∃m,ms[i]? =some m/\VR g w es[i].1 m.key/\VR g w es[i].2 m.val)/\(a.eval x= .map none/\ms=#[]\/∃b Dg,a.eval x= .map (some b)/\w.heap[b]? =some (.map ms Dg)):=by
 unfold sM at hx;split at hx
 case h_1 e=>
  injection hx with hx
  subst hx;have v1:=F.cq e;generalize a.eval x=p at v1
  cases v1;exact⟨#[],O,λi hi=>by simp at hi,.inl ⟨O,O⟩⟩
 case h_2 o e=>
  split at hx
  case h_2=>cases hx
  rename_i cA hg;injection hx with hx
  subst hx;have v1:=F.cq e;generalize a.eval x=p at v1
  cases v1 with
  |map _ b hb=>
   obtain⟨b',dk,ms,Dg,hw,hs,hv⟩:=R.obj _ _ hg;rw[hb]at dk;injection dk with dk
   subst dk;exact⟨ms,hs,hv,.inr ⟨b,Dg,O,hw⟩⟩
 case h_3=>cases hx
theorem xl {t k e:TypeId} (hx:Ln P t=some (k,e)):P.underlying t=some (.map k e)/\P.underlying k=some .string:=by
 unfold Ln at hx;split at hx
 case h_2=>cases hx
 rename_i h1;split at hx
 case h_2=>cases hx
 rename_i h2;injection hx with hx
 injection hx with hx hy
 subst hx hy;exact⟨h1,h2⟩
theorem zt {t:TypeId} {x i:Operand} {ok:Bool} {s:Slot} (R:Rel g w h) (F:FR lt g w base lb fr a) (hx:wH P fr h t x i ok=some s):
 ∃v,(Instr.lookup t (a.eval x) (a.eval i) ok).run P w= .ok v w/\VS g w lb s v:=by
 unfold wH at hx;split at hx
 case h_2=>cases hx
 rename_i kt et es k ht he ei;split at hx
 case h_2=>cases hx
 rename_i r hr;obtain⟨hu,hk⟩:=xl ht;obtain⟨ms,hl,hv,hm⟩:=xk R F he;have vi:=F.cq ei;generalize a.eval i=pi at vi
 cases vi with
 |str kb=>
  obtain⟨q,hq,pj⟩:=rH (ms:=ms.toList) (by simpa using hl) (λi hi=>by simpa using hv i hi) hr 0;have hf:(Instr.findKey kt (.string kb) ms.toList).run P w= .ok q w:=by simp only[Instr.findKey,Sem.run_bind,run_underlying hk,Result.andThen_ok,hq,Sem.run_pure]
  have TY:∀(v:Value) (o:Bool),(match q with
   |some (_,v)=>(pure (v,true):Sem (Value×Bool))
   |none=>do pure (<-zeroValue et,false)).run P w= .ok (v,o) w->
   (Instr.lookup t (a.eval x) (.string kb) ok).run P w= .ok (if ok then .tuple #[v,.bool o]else v) w:=by
   intro v o OM;rcases hm with⟨h1,h2⟩|⟨b,Dg,h1,h2⟩
   .subst h2;simp only[Instr.lookup,Sem.run_bind,run_underlying hu,Result.andThen_ok,h1,Sem.run_pure,lg hk];rw[hf]
    cases q with
    |none=>simp only[Sem.run_bind,Sem.run_pure]at OM;simp only[Result.andThen_ok,Sem.run_bind,Sem.run_pure];revert OM;cases(zeroValue et).run P w with
     |ok z w'=>simp;rintro rfl rfl rfl;simp
     |halt=>simp
    |some q=>obtain⟨q1,q2⟩:=q;simp only[Sem.run_pure]at OM;injection OM with h3 h4;injection h3 with h3 h5;subst h3 h5;simp
   .simp only[Instr.lookup,Sem.run_bind,run_underlying hu,Result.andThen_ok,h1,getObj,Sem.run,h2,Sem.run_pure,lg hk];rw[hf]
    cases q with
    |none=>simp only[Sem.run_bind,Sem.run_pure]at OM;simp only[Result.andThen_ok,Sem.run_bind,Sem.run_pure];revert OM;cases(zeroValue et).run P w with
     |ok z w'=>simp;rintro rfl rfl rfl;simp
     |halt=>simp
    |some q=>obtain⟨q1,q2⟩:=q;simp only[Sem.run_pure]at OM;injection OM with h3 h4;injection h3 with h3 h5;subst h3 h5;simp
  cases r with
  |some y=>
   obtain⟨j,v,h1,h2,_⟩:=pj;subst h1;refine⟨_,TY v true O,?_⟩;simp only[HW]at hx
   cases ok<;>simp only[]at hx<;>injection hx with hx<;>subst hx
   .exact h2
   .exact VR.F3 h2 (.bool true)
  |none=>
   simp only[]at pj;subst pj
   cases hz:oU P et with
   |none=>simp only[HW,hz]at hx;cases ok<;>cases hx
   |some z=>
    obtain⟨z',h1,h2⟩:=nB (w:=w) hz;refine⟨_,TY z' false (by simp[h1]),?_⟩;simp only[HW,hz]at hx
    cases ok<;>simp only[]at hx<;>injection hx with hx<;>subst hx
    .exact h2 g w
    .exact VR.F3 (h2 g w) (.bool false)
def AV.len (h:AH):AV->Option Nat
 | .str s=>some s.length
 | .vec _ _ es=>some es.length
 | .sl _ _ n _ _=>some n
 | .ao=>some 0
 | .ph=>some 0
 | .map o=>match h.get o with|some (.map es)=>some es.length|_=>none
 |_=>none
def pn (P:Program) (t:TypeId):Option Nat:=
 match P.underlying t with
 |some .string=>some 0
 |some (.slice _)=>some 1
 |some (.map _ _)=>some 2
 |_=>none
def AV.pn:AV->Nat
 | .str _=>0
 | .vec _ _ _=>1
 | .sl _ _ _ _ _=>1
 | .ao=>1
 | .ph=>2
 | .map _=>2
 |_=>3
def BA (P:Program) (fr:ay) (h:AH) (t:TypeId) (x:Operand):Option Slot:=
 match fr.ev x with
 | .v y=>match Am.pn P t with
  |some k=>match Nat.beq k y.pn with
   |true=>match y.len h with|some n=>some (.v (.int .i64 (n:Int)))|none=>none
   |false=>none
  |none=>none
 |_=>none
theorem F6 {t ty:TypeId} {x:Operand} {s:Slot} (R:Rel g w h) (F:FR lt g w base lb fr a) (hx:BA P fr h t x=some s):
 ∃v,(Builtin.len_ #[t] ty #[a.eval x]).run P w= .ok v w/\VS g w lb s v:=by
 unfold BA at hx;split at hx
 case h_2=>cases hx
 rename_i y e;split at hx
 case h_2=>cases hx
 rename_i k hk;split at hx
 case h_2=>cases hx
 rename_i hb;split at hx
 case h_2=>cases hx
 rename_i n hn;injection hx with hx
 subst hx;have hb:=Nat.eq_of_beq_eq_true hb;subst hb;have v1:=F.cq e;refine⟨.int .i64 n,?_,.int _ _⟩;generalize a.eval x=p at v1;have hm:∀k,Am.pn P t=some k->(k=0/\P.underlying t=some .string)\/(k=1/\∃e,P.underlying t=some (.slice e))\/(k=2/\∃e f,P.underlying t=some (.map e f)):=by
  intro k hk;unfold Am.pn at hk;split at hk<;>(try cases hk)
  .rename_i hu;exact .inl ⟨O,hu⟩
  .rename_i e hu;exact .inr (.inl ⟨O,e,hu⟩)
  .rename_i e f hu;exact .inr (.inr ⟨O,e,f,hu⟩)
 have hm:=hm _ hk
 cases v1<;>simp only[AV.len]at hn<;>(try cases hn)<;>simp only[AV.pn]at hm
 case h_1.str.refl s=>
  rcases hm with⟨_,hu⟩|⟨h1,_⟩|⟨h1,_⟩
  .simp[Builtin.len_,run_underlying hu,goInt]
  .cases h1
  .cases h1
 case h_1.ao.refl=>
  rcases hm with⟨h1,_⟩|⟨_,e,hu⟩|⟨h1,_⟩
  .cases h1
  .simp[Builtin.len_,run_underlying hu,goInt]
  .cases h1
 case h_1.vec.refl=>
  rcases hm with⟨h1,_⟩|⟨_,e,hu⟩|⟨h1,_⟩
  .cases h1
  .simp[Builtin.len_,run_underlying hu,goInt]
  .cases h1
 case h_1.sl.refl=>
  rcases hm with⟨h1,_⟩|⟨_,e,hu⟩|⟨h1,_⟩
  .cases h1
  .simp[Builtin.len_,run_underlying hu,goInt]
  .cases h1
 case h_1.ph.refl=>
  rcases hm with⟨h1,_⟩|⟨h1,_⟩|⟨_,e,f,hu⟩
  .cases h1
  .cases h1
  .simp[Builtin.len_,run_underlying hu,goInt]
 case h_1.map o b Lo=>
  rcases hm with⟨h1,_⟩|⟨h1,_⟩|⟨_,e,f,hu⟩
  .cases h1
  .cases h1
  .split at hn
   case h_2=>cases hn
   rename_i es hg;injection hn with hn
   subst hn;obtain⟨b',dk,ms,Dg,hw,hs,hv⟩:=R.obj _ _ hg;rw[Lo]at dk;injection dk with dk
   subst dk;simp[Builtin.len_,run_underlying hu,goInt,getObj,Sem.run,hw,hs]
def ON (P:Program) (fr:ay) (t:TypeId) (x:Operand):Option Slot:=
 match P.underlying t with
 |some (.slice _)=>match fr.ev x with| .v (.sl _ _ _ c true)=>some (.v (.int .i64 (c:Int)))| .v .ao=>some (.v (.int .i64 0))|_=>none
 |_=>none
theorem F7 {t ty:TypeId} {x:Operand} {s:Slot} (F:FR lt g w base lb fr a) (hx:ON P fr t x=some s):
 ∃v,(Builtin.cap_ #[t] ty #[a.eval x]).run P w= .ok v w/\VS g w lb s v:=by
 unfold ON at hx;split at hx
 case h_2=>cases hx
 rename_i e hu;split at hx
 case h_3=>cases hx
 case h_1 o off n c he=>
  injection hx with hx
  subst hx;have v1:=F.cq he;generalize a.eval x=p at v1
  cases v1 with
  |sl _ _ _ _ _ b rc hb hs hn xb hex dY=>
   have:=hex O
   subst this;exact⟨.int .i64 rc,by simp[Builtin.cap_,run_underlying hu,goInt],.int _ _⟩
 case h_2 he=>
  injection hx with hx
  subst hx;have v1:=F.cq he;generalize a.eval x=p at v1
  cases v1;exact⟨.int .i64 0,by simp[Builtin.cap_,run_underlying hu,goInt],.int _ _⟩
def OO (fr:ay) (x y:Operand):Option Slot:=
 match fr.ev x,fr.ev y with
 | .v (.int k m),.v (.int _ n)=>some (.v (.int k (if n <m then n else m)))
 |_,_=>none
theorem Ga {ty:TypeId} {ts:Array TypeId} {x y:Operand} {s:Slot} (F:FR lt g w base lb fr a) (hx:OO fr x y=some s):
 ∃v,(Builtin.min_ ts ty #[a.eval x,a.eval y]).run P w= .ok v w/\VS g w lb s v:=by
 unfold OO at hx;split at hx
 case h_2=>cases hx
 rename_i k m k' n e1 e2;injection hx with hx
 subst hx;have v1:=F.cq e1;have v2:=F.cq e2;generalize a.eval x=p at v1;generalize a.eval y=q at v2
 cases v1
 cases v2;exact⟨_,by simp[Builtin.min_,Builtin.min2],.int _ _⟩
def Slot.nf:Slot->Option Slot
 | .v x=>some (.v x)
 | .lp d off=>some (.lp d off)
 | .gI=>some .gI
theorem Slot.Lp {s r:Slot} (h:s.nf=some r):r=s:=by cases s<;>simp only[Slot.nf]at h<;>injection h with h<;>exact h.symm
def HY (fr:ay) (c x y:Operand):Option Slot:=
 match fr.ev c with
 | .v (.bool b)=>
  match fr.ev x,fr.ev y with
  | .v (.bool p),.v (.bool q)=>some (.v (.bool (bif b then p else q)))
  |s,s'=>match b with|true=>s.nf|false=>s'.nf
 |_=>none
theorem Dt {c x y:Operand} {s:Slot} (F:FR lt g w base lb fr a) (hx:HY fr c x y=some s):
 ∃v,(do pure (Next.value (if<-asBool (a.eval c)then a.eval x else a.eval y)):Sem Next).run P w= .ok (.value v) w/\VS g w lb s v:=by
 unfold HY at hx;split at hx
 case h_2=>cases hx
 rename_i b e;have v1:=F.cq e;generalize a.eval c=p0 at v1
 cases v1;split at hx
 case h_1 p q e1 e2=>
  injection hx with hx
  subst hx;have v2:=F.cq e1;have v3:=F.cq e2;generalize a.eval x=p1 at v2;generalize a.eval y=p2 at v3
  cases v2
  cases v3;exact⟨_,O,by cases b<;>exact .bool _⟩
 case h_2=>
  have h1:=F.ev x
  have h2:=F.ev y
  cases b<;>simp only[]at hx<;>have hx:=Slot.Lp hx<;>subst hx
  .exact⟨_,O,h2⟩
  .exact⟨_,O,h1⟩
end
def setAt:Nat->List AV->List AV->List AV
 |_,[],l=>l
 |_,_,[]=>[]
 |0,c::cs,_::l=>c::setAt 0 cs l
 |n+1,cs,x::l=>x::setAt n cs l
def jn:Nat->List AV->List AV->Option (List AV)
 |_,[],l=>some l
 |_,_::_,[]=>none
 |0,[c],_::l=>some (c::l)
 |0,c::d::cs,_::l=>match jn 0 (d::cs) l with|some r=>some (c::r)|none=>none
 |n+1,c::cs,x::l=>match jn n (c::cs) l with|some r=>some (x::r)|none=>none
theorem Ai {n:Nat} {cs l r:List AV} (h:jn n cs l=some r):r=setAt n cs l:=by
 induction l generalizing n cs r with
 |nil=>cases cs<;>cases n<;>simp[jn]at h<;>simp[setAt,h]
 |cons x l ih=>
  cases cs with
  |nil=>cases n<;>(simp only[jn]at h;injection h with h;subst h;rfl)
  |cons c cs=>
   cases n with
   |zero=>
    cases cs with
    |nil=>simp only[jn]at h;injection h with h;subst h;cases l<;>rfl
    |cons d cs=>
     simp only[jn]at h;split at h
     case h_2=>cases h
     rename_i r' hr;injection h with h
     subst h;rw[ih hr];rfl
   |succ n=>
    simp only[jn]at h;split at h
    case h_2=>cases h
    rename_i r' hr;injection h with h
    subst h;rw[ih hr];rfl
theorem sN (n:Nat) (cs l:List AV):(setAt n cs l).length=l.length:=by induction l generalizing n cs with|nil=>cases cs<;>cases n<;>rfl|cons x l ih=>cases cs<;>cases n<;>simp[setAt,ih]
theorem Jj (n:Nat) (cs l:List AV) (i:Nat) (hi:i <l.length):
 (setAt n cs l)[i]'(by rw[sN];exact hi)=if h:n<=i/\i <n+cs.length then cs[i -n]'(by omega)else l[i]:=by
 induction l generalizing n cs i with
 |nil=>simp at hi
 |cons x l ih=>
  cases cs with
  |nil=>rw[dif_neg (by simp;try omega)];simp[setAt]
  |cons c cs=>
   cases n with
   |zero=>
    cases i with
    |zero=>simp[setAt]
    |succ i=>
     simp only[setAt,List.getElem_cons_succ];rw[ih 0 cs i (by simpa using hi)]
     by_cases h:i <cs.length
     .simp[h]
     .simp[h]
   |succ n=>
    cases i with
    |zero=>simp[setAt]
    |succ i=>
     simp only[setAt,List.getElem_cons_succ];rw[ih n (c::cs) i (by simpa using hi)]
     by_cases h:n<=i/\i <n+(c::cs).length
     .rw[dif_pos h,dif_pos (by constructor<;>omega)]
      congr 1;omega
     .rw[dif_neg h,dif_neg (by rintro⟨h1,h2⟩;exact h ⟨by omega,by omega⟩)]
section
variable {g:Gh} {w:World}
theorem sJ.Xy {cs:List AV} {vs:Array Value} (r:sJ g w cs vs) {i:Nat} (hi:i <cs.length):VR g w cs[i] (vs.getD i undef)/\(vs.getD i undef).oneCell'=true:=⟨r.1.2 i hi,r.2 i hi⟩
theorem sJ.setAt {cs ds:List AV} {vs us ws:Array Value} {n:Nat} (r:sJ g w cs vs) (s:sJ g w ds us) (hn:n+ds.length<=cs.length) (hz:ws.size=vs.size)
 (hw:∀i,i <vs.size->ws.getD i undef=if n<=i/\i <n+us.size then us.getD (i -n) undef else vs.getD i undef):sJ g w (setAt n ds cs) ws:=by
 have hl:=sN n ds cs
 have hd:=s.1.1
 have hc:=r.1.1
 refine⟨⟨by rw[hz,hc,hl],λi hi=>?_⟩,λi hi=>?_⟩
 .rw[hl]at hi;rw[Jj n ds cs i hi,hw i (by omega)]
  by_cases h:n<=i/\i <n+ds.length
  .rw[dif_pos h,if_pos (by omega)];exact s.1.2 _ (by omega)
  .rw[dif_neg h,if_neg (by omega)];exact r.1.2 i hi
 .rw[hl]at hi;rw[hw i (by omega)]
  by_cases h:n<=i/\i <n+ds.length
  .rw[if_pos (by omega)];exact s.2 _ (by omega)
  .rw[if_neg (by omega)];exact r.2 i hi
end
theorem Du (off:Nat) (vs:List Value):∀(k:Nat) (arr:Array Value),let ws:=((vs.zipIdx k).foldl (λ(cs:Array Value) (p:Value×Nat)=>cs.setIfInBounds (off+p.2) p.1) arr);
 ws.size=arr.size/\∀i,i <arr.size->ws.getD i undef=if off+k<=i/\i <off+k+vs.length then vs.getD (i -(off+k)) undef else arr.getD i undef:=by
 induction vs with
 |nil=>intro k arr;exact⟨O,λi hi=>by rw[if_neg (by simp only[List.length_nil];omega)];rfl⟩
 |cons v vs ih=>
  intro k arr;obtain⟨h1,h2⟩:=ih (k+1) (arr.setIfInBounds (off+k) v);refine⟨by simpa using h1,λi hi=>?_⟩;have:=h2 i (by simpa using hi);simp only[List.zipIdx_cons,List.foldl_cons];rw[this]
  by_cases h:off+k<=i/\i <off+k+(v::vs).length
  .rw[if_pos h]
   by_cases h':i=off+k
   .subst h';rw[if_neg (by omega)];simp[Array.getD_eq_getD_getElem?,Array.getElem?_setIfInBounds,hi]
   .rw[if_pos (by simp at h;constructor<;>omega)];rw[show i -(off+k)=(i -(off+(k+1)))+1 by omega];simp
  .rw[if_neg h,if_neg (by simp at h;rintro⟨h3,h4⟩;exact absurd (h (by omega)) (by omega))];have:off+k≠i:=by simp at h;intro e;exact absurd (h (by omega)) (by omega)
   simp[Array.getD_eq_getD_getElem?,Array.getElem?_setIfInBounds,this]
def rJ (fr:ay) (pl:Nat->Option (Nat×Nat)) (cells:List AV):List (Nat×Operand)->Option (List AV)
 |[]=>some cells
 |(i,x)::r=>
  match pl i,fr.ev x with
  |some (off,size),.v y=>match y.cells with
   |some cs=>match Nat.beq cs.length size,Nat.ble (off+cs.length) cells.length with|true,true=>rJ fr pl (setAt off cs cells) r|_,_=>none
   |none=>none
  |_,_=>none
section
variable {P:Program} {lt:LT} {g:Gh} {w:World} {h:AH} {base:Nat} {lb:Nat->Option Nat} {fr:ay} {a:Act}
theorem Dv {pl:Nat->Option (Nat×Nat)} {parts:List (Nat×Operand)} {cells r:List AV} (F:FR lt g w base lb fr a) (hx:rJ fr pl cells parts=some r) {arr:Array Value} (ha:sJ g w cells arr):
 ∃zu,Instr.fill pl arr (parts.map λp=>(p.1,a.eval p.2))=some zu/\sJ g w r zu:=by
 induction parts generalizing cells arr with
 |nil=>simp only[rJ]at hx;injection hx with hx;subst hx;exact⟨arr,O,ha⟩
 |cons p parts ih=>
  obtain⟨i,x⟩:=p;simp only[rJ]at hx;split at hx
  case h_2=>cases hx
  rename_i off size y hp e;split at hx
  case h_2=>cases hx
  rename_i cs uq;split at hx
  case h_2=>cases hx
  rename_i h1 h2;have h1:=Nat.eq_of_beq_eq_true h1;have h2:=Nat.le_of_ble_eq_true h2;have hv:=(F.cq e).cells uq;have gJ:(a.eval x).cells.size=size:=by rw[hv.1.1,h1]
  simp only[List.map_cons,Instr.fill,hp];rw[if_neg (by rw[gJ,ha.1.1];simp;omega)];have Lq:((a.eval x).cells.zipIdx.foldl (λcs x=>match x with|(c,j)=>cs.setIfInBounds (off+j) c) arr)=
   (((a.eval x).cells.toList.zipIdx 0).foldl (λ(cs:Array Value) (p:Value×Nat)=>cs.setIfInBounds (off+p.2) p.1) arr):=by
   rw[<-Array.foldl_toList,Array.toList_zipIdx]
  rw[Lq];obtain⟨h3,h4⟩:=Du off (a.eval x).cells.toList 0 arr;refine ih hx (ha.setAt hv h2 h3 λi hi=>?_);have:=h4 i hi;rw[this];simp[Array.getD_eq_getD_getElem?]
def sO (P:Program):List Field->Option (List (Nat×Nat))
 |[]=>some []
 |f::r=>match P.info? f.type with
  |some i=>match sO P r with|some l=>some ((f.offset,i.size)::l)|none=>none
  |none=>none
theorem zw {fs:List Field} {l:List (Nat×Nat)} (hx:sO P fs=some l):fs.mapM (λf=>(P.info? f.type).map λi=>(f.offset,i.size))=some l:=by
 induction fs generalizing l with
 |nil=>simp only[sO]at hx;injection hx with hx;subst hx;rfl
 |cons f r ih=>
  simp only[sO]at hx;split at hx
  case h_2=>cases hx
  rename_i i hi;split at hx
  case h_2=>cases hx
  rename_i l' hl;injection hx with hx
  subst hx;simp[List.mapM_cons,hi,ih hl]
def BB (P:Program) (fr:ay) (t:TypeId) (parts:Array (Nat×Operand)):Option Slot:=
 match oU P t,P.underlying t with
 |some (.agg zs),some (.struct fields)=>match sO P fields.toList with
  |some pl=>match rJ fr (λi=>pl[i]?) zs parts.toList with|some r=>some (.v (.agg r))|none=>none
  |none=>none
 |_,_=>none
theorem Lr {t:TypeId} {x:AV} (hx:oU P t=some x):∃i z,P.info? t=some i/\i.zero=some z/\∀g w,VR g w x z:=by
 unfold oU at hx;split at hx
 case h_2=>cases hx
 rename_i i hi;split at hx
 case h_2=>cases hx
 rename_i z hz;exact⟨i,z,hi,hz,λg w=>uD hx⟩
theorem BC {t:TypeId} {parts:Array (Nat×Operand)} {s:Slot} (F:FR lt g w base lb fr a) (hx:BB P fr t parts=some s):
 ∃v,(Instr.build t (parts.map λ(i,x)=>(i,a.eval x))).run P w= .ok v w/\VS g w lb s v:=by
 unfold BB at hx;split at hx
 case h_2=>cases hx
 rename_i zs fields hz hu;split at hx
 case h_2=>cases hx
 rename_i pl qE;split at hx
 case h_2=>cases hx
 rename_i r hr;injection hx with hx
 subst hx;obtain⟨i,z,hi,hz,hv⟩:=Lr hz;have hc:=(hv g w).cells (cs:=zs) O;obtain⟨arr,h1,h2⟩:=Dv F hr hc;refine⟨.agg arr,run_build w t _ arr ?_,.agg _ _ h2.1.1 h2.1.2 h2.2⟩;unfold Program.built;simp only[hi,hu,hz,zw qE];rw[<-h1]
 congr 1
 .funext k;simp
 .simp
def mW (fr:ay) (size:Nat):Nat->List (Nat×Operand)->Option (List (List AV))
 |_,[]=>some []
 |k,(i,x)::r=>
  match Nat.beq i k,fr.ev x with
  |true,.v y=>match y.cells with
   |some cs=>match Nat.beq cs.length size,mW fr size (k+1) r with|true,some l=>some (cs::l)|_,_=>none
   |none=>none
  |_,_=>none
theorem BD {size:Nat} {parts:List (Nat×Operand)} {k:Nat} {l:List (List AV)} (F:FR lt g w base lb fr a) (hx:mW fr size k parts=some l) (arr:Array Value) (hz:(k+parts.length)*size<=arr.size):
 l.length=parts.length/\(∀i (hi:i <l.length),l[i].length=size)/\
 ∃zu,Instr.fill (λi=>some (i*size,size)) arr (parts.map λp=>(p.1,a.eval p.2))=some zu/\zu.size=arr.size/\
  (∀i,i <k*size->zu.getD i undef=arr.getD i undef)/\
  ∀i (hi:i <l.length) j (hj:j <l[i].length),VR g w l[i][j] (zu.getD ((k+i)*size+j) undef)/\(zu.getD ((k+i)*size+j) undef).oneCell'=true:=by
 induction parts generalizing k l arr with
 |nil=>simp only[mW]at hx;injection hx with hx;subst hx;exact⟨O,λi hi=>by simp at hi,arr,O,O,λ_ _=>rfl,λi hi=>by simp at hi⟩
 |cons p parts ih=>
  obtain⟨i,x⟩:=p;simp only[mW]at hx;split at hx
  case h_2=>cases hx
  rename_i y Gb e;split at hx
  case h_2=>cases hx
  rename_i cs uq;split at hx
  case h_2=>cases hx
  rename_i l' h1 hl;injection hx with hx
  subst hx;have Gb:=Nat.eq_of_beq_eq_true Gb;subst Gb;have h1:=Nat.eq_of_beq_eq_true h1;have hv:=(F.cq e).cells uq;have gJ:(a.eval x).cells.size=size:=by rw[hv.1.1,h1]
  have hmul:(i+1+parts.length)*size<=arr.size:=by simpa[Nat.add_assoc,Nat.add_comm 1]using hz
  have aaa:(i+1)*size<=arr.size:=Nat.le_trans (Nat.mul_le_mul_right _ (by omega)) hmul;have aab:(i+1)*size=i*size+size:=Nat.succ_mul i size;simp only[List.map_cons,Instr.fill];rw[if_neg (by rw[gJ];simp;omega)];have Lq:((a.eval x).cells.zipIdx.foldl (λcs x=>match x with|(c,j)=>cs.setIfInBounds (i*size+j) c) arr)=
   (((a.eval x).cells.toList.zipIdx 0).foldl (λ(cs:Array Value) (p:Value×Nat)=>cs.setIfInBounds (i*size+p.2) p.1) arr):=by
   rw[<-Array.foldl_toList,Array.toList_zipIdx]
  rw[Lq];obtain⟨h3,h4⟩:=Du (i*size) (a.eval x).cells.toList 0 arr;generalize(((a.eval x).cells.toList.zipIdx 0).foldl (λ(cs:Array Value) (p:Value×Nat)=>cs.setIfInBounds (i*size+p.2) p.1) arr)=Xz at h3 h4;obtain⟨q1,q2,zu,q3,q4,q5,q6⟩:=ih hl Xz (by rw[h3];exact hmul);refine⟨by simp[q1],λj hj=>?_,zu,q3,q4.trans h3,λj hj=>?_,λj hj m hm=>?_⟩
  .cases j with|zero=>exact h1|succ j=>simpa using q2 j (by simpa using hj)
  .rw[q5 j (by omega),h4 j (by omega),if_neg (by omega)]
  .cases j with
   |zero=>
    have Oj:m <cs.length:=hm
    simp only[Nat.add_zero,List.getElem_cons_zero];rw[q5 _ (by omega),h4 _ (by omega),if_pos (by simp[gJ];omega)];have:=hv.Xy Oj;simpa[Array.getD_eq_getD_getElem?]using this
   |succ j=>
    have rF:j <l'.length:=by simpa using hj
    have:=q6 j rF m (by simpa using hm)
    rw[show i+(j+1)=i+1+j by omega];simpa using this
end
theorem beq_false_of_ne {m n:Nat} (h:m≠n):Nat.beq m n=false:=by cases hq:Nat.beq m n with|false=>rfl|true=>exact absurd (Nat.eq_of_beq_eq_true hq) h
def ay.bf (fr:ay) (d:Tmp) (s:Slot):ay:={fr with f:=λk=>match Nat.beq k d with
 |true=>s
 |false=>fr.f k}
def ay.put (fr:ay) (dst:Option Tmp) (s:Slot):ay:=
 match dst with
 |none=>fr
 |some d=>fr.bf d s
def ay.gI (fr:ay) (l:List Nat):ay:=
 match l with
 |[]=>fr
 |_=>{fr with f:=λk=>match l.contains k with|true=> .gI|false=>fr.f k}
def ay.mX (fr:ay) (d:Nat) (cs:List AV):ay:={fr with loc:=λk=>match Nat.beq k d with
 |true=>cs
 |false=>fr.loc k}
def jY (lt:LT) (dst:Option Tmp) (s:Slot):Bool:=
 match s with
 | .lp d _=>match dst with|some k=>lt.ki d k|none=>true
 |_=>true
section
variable {P:Program} {lt:LT} {g:Gh} {w:World} {h:AH} {base:Nat} {lb:Nat->Option Nat} {fr:ay} {a:Act}
theorem FR.put (F:FR lt g w base lb fr a) {dst:Option Tmp} {s:Slot} {v:Value} (hv:VS g w lb s v) (hs:jY lt dst s=true):FR lt g w base lb (fr.put dst s) (a.put dst v):=by
 cases dst with
 |none=>exact F
 |some d=>
  refine⟨F.defers,by simp only[Act.put,ay.put,ay.bf,Array.size_setIfInBounds];exact F.size,λk hk=>?_,λk d' off e=>?_,F.OH,F.Jd⟩
  .simp only[ay.put,ay.bf]at hk|-;split
   .rename_i hb;have hb:=Nat.eq_of_beq_eq_true hb;subst hb;have:k <a.tmps.size:=by rw[F.size];exact hk
    have e:(a.put (some k) v).tmps.getD k undef=v:=by simp[Act.put,Array.getD_eq_getD_getElem?,Array.getElem?_setIfInBounds,this]
    rw[e];exact hv
   .rename_i hb;have hb:k≠d:=Nat.ne_of_beq_eq_false hb;have e:(a.put (some d) v).tmps.getD k undef=a.tmps.getD k undef:=by simp[Act.put,Array.getD_eq_getD_getElem?,Array.getElem?_setIfInBounds,Ne.symm hb]
    rw[e];exact F.slot k hk
  .simp only[ay.put,ay.bf]at e;split at e
   .rename_i hb;have hb:=Nat.eq_of_beq_eq_true hb;subst hb;subst e;exact hs
   .exact F.hold k d' off e
theorem Rw {cs:List AV} {vs:Array Value} {T:TypeId} (R:Rel g w h) (hv:sJ g w cs vs):
 ∃g',Ev g w g' (w.alloc (.cells vs T (0,0)))/\Rel g' (w.alloc (.cells vs T (0,0))) (h.push (.cells cs))/\VR g' (w.alloc (.cells vs T (0,0))) (.ptr h.n 0) (.pointer (some ⟨w.heap.size,0,none⟩)):=by
 obtain⟨E,R'⟩:=jm R (.cells vs T (0,0)) (.cells cs) λg' e=>⟨vs,T,by rw[heap_alloc];simp,hv.mono e⟩
 exact⟨_,E,R',.ptr _ _ _ (by simp[Gh.oT])⟩
def ay.uG (fr:ay) (d:Nat) (l:List Nat) (cs:List AV):ay:=((fr.gI (d::l)).mX d cs)
theorem LT.Dw {d k:Nat} {l:List Nat} (hl:lt.has d=some l) (hm:lt.ki d k=true):(d::l).contains k=true:=by
 induction lt with
 |nil=>cases hl
 |cons p r ih=>
  obtain⟨d',l'⟩:=p;simp only[LT.has]at hl;simp only[LT.ki]at hm
  by_cases hd:d'=d
  .rw[if_pos hd]at hl hm;injection hl with hl
   subst hl;simpa[List.contains_cons]using hm
  .rw[if_neg hd]at hl hm;exact ih hl hm
theorem OP {cs:List AV} {vs:Array Value} {T:TypeId} {d:Nat} {l:List Nat} (hl:lt.has d=some l) (hb:base<=w.heap.size) (R:Rel g w h) (F:FR lt g w base lb fr a) (hv:sJ g w cs vs):
 ∃HZ,Ev g w g (w.alloc (.cells vs T (0,0)))/\Rel g (w.alloc (.cells vs T (0,0))) h/\FR lt g (w.alloc (.cells vs T (0,0))) base HZ (fr.uG d l cs) a/\VS g (w.alloc (.cells vs T (0,0))) HZ (.lp d 0) (.pointer (some ⟨w.heap.size,0,none⟩)):=by
 obtain⟨E,R'⟩:=FW R (.cells vs T (0,0));have F1:=F.mono E;refine⟨λk=>if k=d then some w.heap.size else lb k,E,R',⟨F1.defers,F1.size,λk hk=>?_,λk d' off e=>?_,λd1 d2 b e1 e2=>?_,λd' b e=>?_⟩,w.heap.size,by simp,O⟩
 .simp only[ay.uG,ay.mX,ay.gI];split
  .trivial
  .rename_i hc;have:=F1.slot k hk;generalize OS:fr.f k=sl at this
   cases sl with
   |v x=>exact this
   |gI=>trivial
   |lp d' off=>
    obtain⟨b,h1,h2⟩:=this;refine⟨b,?_,h2⟩;show(if d'=d then some w.heap.size else lb d')=some b;rw[if_neg,h1];rintro rfl;have:=LT.Dw hl (F.hold k d' off OS);rw[this]at hc
    cases hc
 .simp only[ay.uG,ay.mX,ay.gI]at e;split at e
  .cases e
  .exact F.hold k d' off e
 .split at e1
  .rename_i h1;injection e1 with e1
   subst e1;split at e2
   .rename_i h2;rw[h1,h2]
   .have:=(F.Jd _ _ e2).2.1
    omega
  .split at e2
   .injection e2 with e2
    subst e2;have:=(F.Jd _ _ e1).2.1;omega
   .exact F.OH _ _ _ e1 e2
 .simp only[ay.uG,ay.mX,ay.gI];split at e
  .rename_i h1;injection e with e
   subst e;refine⟨hb,by simp,R.FV,R.Lh,R.Bo,R.Rs,vs,T,by rw[heap_alloc];simp,?_⟩;rw[h1,show Nat.beq d d=true from Nat.beq_refl d];exact hv.mono E.toEvc
  .rename_i h1;have:=F1.Jd d' b e;rw[beq_false_of_ne h1];exact this
def pJ (P:Program) (lt:LT) (fr:ay) (h:AH) (dst:Option Tmp) (cs:Option (List AV)):Option (Slot×ay×AH):=
 match dst,cs with
 |some d,some cs=>match lt.has d with|some l=>some (.lp d 0,fr.uG d l cs,h)|none=>some (.v (.ptr h.n 0),fr,h.push (.cells cs))
 |_,_=>none
def xm (P:Program) (t:TypeId):Option (List AV):=
 match oU P t with
 |some x=>x.cells
 |none=>none
def mY (fr:ay) (x:Operand):Option (List AV):=
 match fr.ev x with
 | .v y=>y.cells
 |_=>none
def mC (P:Program) (lt:LT) (run:Act->Sem Next) (fr:ay) (h:AH) (r:Slot×ay×AH):Prop:=∀(g0:Gh) (w0:World) (g:Gh) (w:World) (lb:Nat->Option Nat) (a:Act),Ev g0 w0 g w->Rel g w h->FR lt g w w0.heap.size lb fr a->∃n v g' w' HZ,(run a).run P w= .ok n w'/\(n= .value v\/(n= .skip/\v=undef))/\Ev g0 w0 g' w'/\Rel g' w' r.2.2/\FR lt g' w' w0.heap.size HZ r.2.1 a/\VS g' w' HZ r.1 v
theorem sP {dst:Option Tmp} {cs:Option (List AV)} {r:Slot×ay×AH} (hx:pJ P lt fr h dst cs=some r) (run:Act->Sem Next)
 (hr:∀dH,cs=some dH->∀(g:Gh) (w:World) lb base a,FR lt g w base lb fr a->∃vs T,sJ g w dH vs/\(run a).run P w= .ok (.value (.pointer (some ⟨w.heap.size,0,none⟩))) (w.alloc (.cells vs T (0,0)))):
 mC P lt run fr h r:=by
 intro g0 w0 g w lb a E0 R F;unfold pJ at hx;split at hx
 case h_2=>cases hx
 rename_i d dH;obtain⟨vs,T,h1,h2⟩:=hr _ O g w lb _ a F;split at hx
 .rename_i l hl;injection hx with hx
  subst hx;obtain⟨HZ,q1,q2,q3,q4⟩:=OP (T:=T) hl E0.size R F h1;exact⟨_,_,g,_,HZ,h2,.inl O,E0.trans q1,q2,q3,q4⟩
 .injection hx with hx
  subst hx;obtain⟨g',q1,q2,q3⟩:=Rw (T:=T) R h1;exact⟨_,_,g',_,lb,h2,.inl O,E0.trans q1,q2,F.mono q1,q3⟩
theorem Gc {t:TypeId} {cs:List AV} (hx:xm P t=some cs) (g:Gh) (w:World):∃z,(zeroValue t).run P w= .ok z w/\sJ g w cs z.cells:=by
 unfold xm at hx;split at hx
 case h_2=>cases hx
 rename_i x hz;obtain⟨z,h1,h2⟩:=nB (w:=w) hz;exact⟨z,h1,(h2 g w).cells hx⟩
theorem zx (o:Oper) (t:TypeId) (ho:o.op= .alloc t) (ρ:Operand->Value) (z:Value) (w:World) (hz:(zeroValue t).run P w= .ok z w):
 (execOp ρ o).run P w= .ok (.value (.pointer (some ⟨w.heap.size,0,none⟩))) (w.alloc (.cells z.cells t (0,0))):=by
 simp only[execOp,ho,Instr.alloc,Sem.run_bind,hz,Result.andThen_ok,newVar,newRow,run_newObj,Sem.run_pure];rfl
theorem vn (o:Oper) (t:TypeId) (x:Operand) (ho:o.op= .box t x) (ρ:Operand->Value) (w:World):
 (execOp ρ o).run P w= .ok (.value (.pointer (some ⟨w.heap.size,0,none⟩))) (w.alloc (.cells (ρ x).cells t (0,0))):=by
 simp only[execOp,ho,Instr.box,Sem.run_bind,Result.andThen_ok,newVar,newRow,run_newObj,Sem.run_pure];rfl
def pK (P:Program) (fr:ay) (h:AH) (t:TypeId) (x v:Operand):Option (Slot×ay×AH):=
 match kW P t,mY fr v with
 |some n,some cs=>match Nat.beq cs.length n with
  |true=>match fr.ev x with
   | .v (.ptr o off)=>match h.get o with
    |some (.cells jL)=>match Nat.ble (off+cs.length) jL.length,jn off cs jL with|true,some r=>some (.gI,fr,h.set o (.cells r))|_,_=>none
    |_=>none
   | .lp d off=>match Nat.ble (off+cs.length) (fr.loc d).length,jn off cs (fr.loc d)with|true,some r=>some (.gI,fr.mX d r,h)|_,_=>none
   |_=>none
  |false=>none
 |_,_=>none
theorem iV {b:Nat} {vs us:Array Value} {T:TypeId} (hw:w.heap[b]? =some (.cells vs T (0,0))):nA w (w.setRow b us) b (.cells us T (0,0)):=⟨O,O,O,by simp,setRow_heap w b vs us T (0,0) hw,λk hk=>by simp only[World.setRow,Array.getElem?_modify];rw[if_neg (λe=>hk e.symm)]⟩
theorem oh {t:TypeId} {n b off:Nat} {cs ds:List AV} {vs:Array Value} {T:TypeId} {v:Value} (hz:kW P t=some n) (hn:ds.length=n) (hw:w.heap[b]? =some (.cells vs T (0,0)))
 (hc:sJ g w cs vs) (hv:sJ g w ds v.cells) (xn:off+ds.length<=cs.length):
 ∃us,(storeVar t ⟨b,off,none⟩ v).run P w= .ok () (w.setRow b us)/\us.size=vs.size/\sJ g w (setAt off ds cs) us:=by
 have nC:=hc.1.1
 have Rx:=hv.1.1
 have hs:=run_storeCells_at (P:=P) b off T v.cells.toList 0 vs w hw (by simp;omega) (λu hu=>by
  obtain⟨i,hi,rfl⟩:=List.getElem_of_mem hu;have vo:i <v.cells.size:=by simpa using hi
  have:=hv.2 i (by omega);simpa[Array.getD_eq_getD_getElem?,vo]using this)
 simp only[Nat.add_zero,Array.length_toList]at hs;refine⟨_,by simp only[storeVar,Sem.run_bind,run_sizeOf hz,Result.andThen_ok];rw[if_neg (by rw[Rx,hn];simp)];exact hs,?_,?_⟩
 .simp;omega
 .have HM:(vs.toList.take off++v.cells.toList++vs.toList.drop (off+v.cells.size)).toArray.size=vs.size:=by simp;omega
  refine hc.setAt hv xn HM λi hi=>?_;simp only[Array.getD_eq_getD_getElem?,List.getElem?_toArray,List.getElem?_append,List.length_append,List.length_take,Array.length_toList,List.getElem?_take,List.getElem?_drop,Array.getElem?_toList];have hm:min off vs.size=off:=by omega
  rw[hm]
  by_cases h1:i <off
  .rw[if_pos (by omega),if_pos h1,if_pos h1,if_neg (by omega)]
  .by_cases h2:i <off+v.cells.size
   .rw[if_pos h2,if_neg h1,if_pos (by omega)]
   .rw[if_neg h2,if_neg (by omega)]
    congr 2
    omega
theorem FR.mX (F:FR lt g w base lb fr a) {w':World} {g0:Gh} {w0:World} (UT:base=w0.heap.size) {d b:Nat} {vs us:Array Value} {T:TypeId} {cs:List AV} (R:Rel g w h) (hd:lb d=some b) (hw:w.heap[b]? =some (.cells vs T (0,0)))
 (p:nA w w' b (.cells us T (0,0))) (hs:us.size=vs.size) (hv:sJ g w cs us) (E0:Ev g0 w0 g w):Ev g0 w0 g w'/\Rel g w' h/\FR lt g w' base lb (fr.mX d cs) a:=by
 obtain⟨h1,h2,h3,h4,h5,h8,_⟩:=F.Jd d b hd;obtain⟨E,R'⟩:=Lj R h3 h5 h8 hw p hs;refine⟨E0.free (UT▸h1) p E,R',F.defers.mono E,F.size,λk hk=>(F.slot k hk).mono E,F.hold,F.OH,λd' b' e=>?_⟩;obtain⟨k1,k2,k3,k4,k5,k8,qC,T',k6,k7⟩:=F.Jd d' b' e;refine⟨k1,by rw[p.size];exact k2,k3,k4,k5,k8,?_⟩
 by_cases Aj:d'=d
 .subst Aj;rw[hd]at e;injection e with e
  subst e;refine⟨us,T,p.at_,?_⟩;simp only[ay.mX,show Nat.beq d' d'=true from Nat.beq_refl _];exact hv.mono E
 .refine⟨qC,T',?_,?_⟩
  .rw[p.other b' λe'=>Aj (F.OH _ _ _ (e'▸e) hd)];exact k6
  .simp only[ay.mX,beq_false_of_ne Aj];exact k7.mono E
theorem BE {t:TypeId} {x v:Operand} {r:Slot×ay×AH} (hx:pK P fr h t x v=some r) (o:Oper) (ho:o.op= .store t x v):mC P lt (λa=>execOp a.eval o) fr h r:=by
 intro g0 w0 g w lb a E0 R F;unfold pK at hx;split at hx
 case h_2=>cases hx
 rename_i n cs hz uq;split at hx
 case h_2=>cases hx
 rename_i hn;have hn:=Nat.eq_of_beq_eq_true hn;have Ls:sJ g w cs (a.eval v).cells:=by
  unfold mY at uq;split at uq
  case h_2=>cases uq
  rename_i y ey;exact(F.cq ey).cells uq
 split at hx
 case h_3=>cases hx
 case h_1 oo off e=>
  split at hx
  case h_2=>cases hx
  rename_i jL hg;split at hx
  case h_2=>cases hx
  rename_i r hle zy;have zy:=Ai zy;subst zy;have hle:=Nat.le_of_ble_eq_true hle;injection hx with hx
  subst hx;have v1:=F.cq e;generalize hq:a.eval x=p at v1
  cases v1 with
  |ptr _ _ bk hb=>
   obtain⟨b',dk,vs,T,hw,hc⟩:=R.obj _ _ hg;rw[hb]at dk;injection dk with dk
   subst dk;obtain⟨us,k1,k2,k3⟩:=oh (P:=P) hz hn hw hc Ls hle;obtain⟨E,R'⟩:=Li R hb (by rw[hg];simp) hw (iV hw) k2 k3;refine⟨.skip,undef,g,_,lb,?_,.inr ⟨O,O⟩,E0.trans E,R',F.mono E,trivial⟩;simp only[execOp,ho,Instr.storeAt,hq,Instr.sureAddr,Sem.run_bind,Sem.run_pure,Result.andThen_ok,k1]
 case h_2 d off e=>
  split at hx
  case h_2=>cases hx
  rename_i r hle zy;have zy:=Ai zy;subst zy;have hle:=Nat.le_of_ble_eq_true hle;injection hx with hx
  subst hx;obtain⟨bk,hb,hq⟩:=F.HS e;obtain⟨h1,h2,h3,h4,h5,_,vs,T,hw,hc⟩:=F.Jd d bk hb;obtain⟨us,k1,k2,k3⟩:=oh (P:=P) hz hn hw hc Ls hle;obtain⟨E,R',F'⟩:=F.mX O R hb hw (iV hw) k2 k3 E0;refine⟨.skip,undef,g,_,lb,?_,.inr ⟨O,O⟩,E,R',F',trivial⟩;simp only[execOp,ho,Instr.storeAt,hq,Instr.sureAddr,Sem.run_bind,Sem.run_pure,Result.andThen_ok,k1]
end
section
variable {P:Program} {lt:LT} {g:Gh} {w:World} {h:AH} {base:Nat} {lb:Nat->Option Nat} {fr:ay} {a:Act}
def gK (P:Program) (fr:ay) (t:TypeId) (len:Nat) (parts:Array (Nat×Operand)):Option Slot:=
 match rY P t with
 |some e=>match kW P e,oU P e with
  |some size,some _=>match Nat.beq parts.toList.length len,Nat.ble (len*(size+1)) 16777216,mW fr size 0 parts.toList with|true,true,some l=>some (.v (.vec .full size l))|_,_,_=>none
  |_,_=>none
 |none=>none
theorem sQ {t:TypeId} {len:Nat} {parts:Array (Nat×Operand)} {s:Slot} (hx:gK P fr t len parts=some s) (o:Oper) (ho:o.op= .buildSlice t len parts):
 mC P lt (λa=>execOp a.eval o) fr h (s,fr,h):=by
 intro g0 w0 g w lb a E0 R F;unfold gK at hx;split at hx
 case h_2=>cases hx
 rename_i e he;split at hx
 case h_2=>cases hx
 rename_i size z hz hza;split at hx
 case h_2=>cases hx
 rename_i l hlen hle hl;injection hx with hx
 subst hx;have hlen:=Nat.eq_of_beq_eq_true hlen;have hle:=Nat.le_of_ble_eq_true hle;rw[Nat.mul_succ]at hle;unfold rY at he;split at he
 case h_2=>cases he
 rename_i e' hu;injection he with he
 subst he;obtain⟨zv,hzv,_⟩:=nB (w:=w) hza
 let z0:Array Value:=if len*size=0 then#[]else zv.cells
 let Ry:Array Value:=(Array.range (len*size)).map (z0[·% z0.size]!)
 have QL:Ry.size=len*size:=by simp[Ry]
 obtain⟨q1,q2,arr,q3,q4,q5,q6⟩:=BD F hl Ry (by rw[QL,Nat.zero_add,hlen];exact Nat.le_refl _);have gJ:arr.size=len*size:=by rw[q4,QL]
 have Di:l.length=len:=by rw[q1,hlen]
 subst Di;obtain⟨E,R'⟩:=qB R (.cells arr e' (0,0)) (l.length*size) (λ_=>⟨arr,e',(0,0),O,by omega⟩);have pM:∀i j,i <l.length->j <size->(w.alloc (.cells arr e' (0,0))).cell? ((⟨w.heap.size,0,none⟩:Addr).add (i*size+j))=some (arr.getD (i*size+j) undef):=by
  intro i j hi hj;have h1:i*size+j <(i+1)*size:=by rw[Nat.succ_mul];omega
  have h2:(i+1)*size<=l.length*size:=Nat.mul_le_mul_right _ (by omega);rw[cL];simp only[World.cell?,heap_alloc,if_true];simp[Array.getD_eq_getD_getElem?,Array.getElem?_eq_getElem (show i*size+j <arr.size by omega)]
 refine⟨.value (.slice (some ⟨w.heap.size,0,none⟩) l.length l.length),.slice (some ⟨w.heap.size,0,none⟩) l.length l.length,_,w.alloc (.cells arr e' (0,0)),lb,?_,.inl O,E0.trans E,R',F.mono E,?_⟩
 .simp only[execOp,ho,Instr.buildSlice,Sem.run_bind,run_underlying hu,Result.andThen_ok,run_sizeOf hz];rw[if_neg (by omega)];have Dx:Instr.fill (λi=>some (i*size,size)) ((Array.range (l.length*size)).map (z0[·% z0.size]!)) (parts.map λ(i,x)=>(i,a.eval x)).toList=some arr:=by
   rw[<-q3];congr 1;simp
  by_cases h0:l.length*size=0
  .have Gd:z0=#[]:=by simp only[z0,if_pos h0]
   rw[Gd]at Dx;simp only[h0,if_true,Sem.run_bind,Sem.run_pure,Result.andThen_ok];rw[h0]at Dx;rw[Dx];simp[newRow]
  .have Gd:z0=zv.cells:=by simp only[z0,if_neg h0]
   rw[Gd]at Dx;simp only[h0,if_false,Sem.run_bind,hzv,Sem.run_pure,Result.andThen_ok];rw[Dx];simp[newRow]
 .refine .vec .full size l ⟨w.heap.size,0,none⟩ l.length (λi j=>arr.getD (i*size+j) undef) q2 pM (λi j hi hj=>?_) (λi j hi hj=>?_) (λi j hi hj=>?_) (Nat.le_refl _) (by omega) O (λ_=>⟨arr,e',by rw[heap_alloc,if_pos O]⟩)
  .have:=(q6 i hi j hj).1
   rw[Nat.zero_add]at this;exact this.mono E.toEvc
  .have:=(q6 i hi j (by rw[q2 i hi];exact hj)).2
   rw[Nat.zero_add]at this;exact this
  .have h1:i*size+j <(i+1)*size:=by rw[Nat.succ_mul];omega
   have h2:(i+1)*size<=l.length*size:=Nat.mul_le_mul_right _ (by omega)
   rw[cL];simp only[Gh.xt,if_true];omega
end
def AH.cu (h:AH):AH:={h with nt:=h.nt+1,bV:=λl=>match Nat.beq l h.nt with
 |true=>0
 |false=>h.bV l}
def AH.bump (h:AH) (aw:Nat):AH:={h with bV:=λl=>match Nat.beq l aw with
 |true=>h.bV aw+1
 |false=>h.bV l}
def Gh.grow (g:Gh) (aw v nl b n:Nat):Gh:=
 {g with
  bl:=λk=>if k=b then some aw else g.bl k
  tb:=λl=>if l=aw then b else g.tb l
  ext:=λk=>if k=b then n else g.ext k
  cur:=λl=>if l=aw then v else g.cur l
  va:=λl u=>if l=aw/\u=v then some ⟨b,0,none⟩else g.va l u
  nl:=nl}
def Gh.more (g:Gh) (aw b n:Nat) (ad:Addr):Gh:=
 {g with
  ext:=λk=>if k=b then n else g.ext k
  cur:=λl=>if l=aw then g.cur aw+1 else g.cur l
  va:=λl u=>if l=aw/\u=g.cur aw+1 then some ad else g.va l u}
section
variable {P:Program} {lt:LT} {g:Gh} {w:World} {h:AH} {base:Nat} {lb:Nat->Option Nat} {fr:ay} {a:Act}
theorem cU (n:Nat):Nat.beq n n=true:=Nat.beq_refl n
theorem Lu (R:Rel g w h) {aw v nl:Nat} {h':AH} (hc:(aw=g.nl/\v=0/\nl=g.nl+1/\h'=h.cu)\/(aw <g.nl/\v=g.cur aw+1/\nl=g.nl/\h'=h.bump aw))
 {w':World} {c:Array Value} {T:TypeId} {n:Nat} (hw:w'.heap=w.heap.push (.cells c T (0,0))) (XA:w'.os=w.os) (UM:w'.tape=w.tape) (Rz:w'.output=w.output) (hn:n<=c.size):
 Ev g w (g.grow aw v nl w.heap.size n) w'/\Rel (g.grow aw v nl w.heap.size n) w' h':=by
 have hh:∀b,w'.heap[b]? =if b=w.heap.size then some (.cells c T (0,0))else w.heap[b]? :=λb=>by rw[hw,Array.getElem?_push]
 have jL:∀b,b <w.heap.size->w'.heap[b]? =w.heap[b]? :=λb hb=>by rw[hh,if_neg (by omega)]
 have Lv:g.nl<=nl:=by rcases hc with⟨_,_,h3,_⟩|⟨_,_,h3,_⟩<;>omega
 have ri:aw <nl:=by rcases hc with⟨h1,_,h3,_⟩|⟨h1,_,h3,_⟩<;>omega
 have Ji:aw <g.nl->v=g.cur aw+1:=λh1=>by rcases hc with⟨h2,_⟩|⟨_,h2,_⟩<;>omega
 have Ok:h'.n=h.n/\h'.get=h.get/\nl=h'.nt/\h'.aV=h.aV:=by
  rcases hc with⟨_,_,h3,rfl⟩|⟨_,_,h3,rfl⟩
  .exact⟨O,O,by rw[h3,R.nt];rfl,rfl⟩
  .exact⟨O,O,by rw[h3,R.nt];rfl,rfl⟩
 have E:Ev g w (g.grow aw v nl w.heap.size n) w':=by
  refine⟨⟨XA,UM,Rz,by simp[hw],λ_ _ e=>e,λ_ _ e=> .inl ⟨_,e⟩,λb l e=>?_,λb l e=>?_,λl u ad e=>?_,λad e=>?_,Lv,λl hl=>?_,λl hl e=>?_,λb c' T' fz e=>⟨c',?_,O⟩,λ_ _ e=>e,λ_ _ e=> .inl e⟩,λb hb _ _ _=>⟨jL b hb,?_⟩⟩
  .have:=(R.FT _ _ e).2
   simp only[Gh.grow];rw[if_neg (by omega)];exact e
  .simp only[Gh.grow]at e;split at e
   .exact .inr (by omega)
   .exact .inl e
  .obtain⟨h1,h2⟩:=R.HN _ _ _ e;simp only[Gh.grow];rw[if_neg]
   .exact e
   .rintro⟨rfl,rfl⟩;have:=Ji h1;omega
  .have:=R.xd (b:=ad.block) (by omega)
   exact⟨by simp only[Gh.grow];rw[if_neg (by omega)];exact e,jW (jL _ this)⟩
  .simp only[Gh.grow];split
   .rename_i h1;subst h1;have:=Ji hl;omega
   .exact Nat.le_refl _
  .have ht:=R.Lg hl
   simp only[Gh.grow]at e|-;split at e
   .rename_i h1;subst h1;have:=Ji hl;omega
   .rename_i h1;rw[if_neg h1];exact⟨O,by rw[if_neg (by omega)]⟩
  .rw[jL _ (jl e)];exact e
  .simp only[Gh.grow];rw[if_neg (by omega)]
 refine⟨E,λo b e=>?_,Ok.2.1▸R.Bm,λo b e=>Ok.1▸R.Ag o b e,λo x e=>?_,λo b e=>?_,Ok.2.2.1,λl hl=>?_,λb l e=>?_,λl hl=>?_,λl u ad e=>?_,λb e=>?_,λk b e=>?_,R.iH E.toEvc Ok.2.2.2⟩
 .obtain⟨h1,h2,h3⟩:=R.uC o b e;refine⟨by rw[hw];simp;omega,λhf FU=>?_,?_⟩
  .simp only[Gh.grow];rw[if_neg (by omega)];exact h2 (Ok.2.1▸hf) (Ok.2.1▸FU)
  .simp only[Gh.grow];rw[if_neg (by omega)];exact h3
 .rw[Ok.2.1]at e;obtain⟨b,hb,ho⟩:=R.obj o x e;exact⟨b,hb,ho.mono E.toEvc (jL b (R.uC _ _ hb).1) (R.Bn jL b)⟩
 .rw[Ok.2.1];exact R.KN o b e
 .simp only[Gh.grow];rcases hc with⟨rfl,rfl,h3,rfl⟩|⟨h1,rfl,h3,rfl⟩
  .simp only[AH.cu,<-R.nt];split
   .rename_i h4;rw[h4,cU]
   .rename_i h4;rw[beq_false_of_ne h4];exact R.cur l (by simp only[AH.cu]at hl;have:=R.nt;omega)
  .simp only[AH.bump];have:=R.nt;split
   .rename_i h4;rw[h4,cU];simp only[R.cur aw (by omega)]
   .rename_i h4;rw[beq_false_of_ne h4];exact R.cur l hl
 .simp only[Gh.grow]at e|-;split at e
  .injection e with e
   subst e;exact⟨ri,by rw[hw];simp;omega⟩
  .obtain⟨h1,h2⟩:=R.FT b l e;exact⟨by omega,by rw[hw];simp;omega⟩
 .simp only[Gh.grow]at hl|-
  by_cases h1:l=aw
  .simp[h1]
  .have uB:l <g.nl:=by rcases hc with⟨h2,_,h3,_⟩|⟨_,_,h3,_⟩<;>omega
   have:=R.Lg uB
   rw[if_neg h1,if_neg (by omega)];exact R.Dh l uB
 .simp only[Gh.grow]at e|-;split at e
  .rename_i h1;obtain⟨rfl,rfl⟩:=h1;exact⟨ri,by simp⟩
  .obtain⟨h1,h2⟩:=R.HN _ _ _ e;refine⟨by omega,?_⟩;split
   .rename_i h3;subst h3;have:=Ji h1;omega
   .exact h2
 .simp only[Gh.grow]at e|-;split at e
  .rename_i h1;subst h1;exact⟨c,T,(0,0),by rw[hh];simp,by simpa using hn⟩
  .rename_i h1;rw[if_neg h1];obtain⟨c',T',fz,h2,h3⟩:=R.ext b e;exact⟨c',T',fz,by rw[jL _ (jl h2)];exact h2,h3⟩
 .obtain⟨h1,h2,h3,h4⟩:=R.FC k b e;refine⟨by rw[hw];simp;omega,?_,?_,h4⟩
  .simp only[Gh.grow];rw[if_neg (by omega)];exact h2
  .simp only[Gh.grow];rw[if_neg (by omega)];exact h3
theorem Dy (R:Rel g w h) {aw b n:Nat} (hl:aw <g.nl) (hb:b=g.tb aw) {c c':Array Value} {T:TypeId} (hw:w.heap[b]? =some (.cells c T (0,0))) {w':World} (p:nA w w' b (.cells c' T (0,0)))
 (hs:c'.size=c.size) (hn:g.ext b<=n) (Uc:n<=c.size) (zp:∀i,i <g.ext b->c'[i]? =c[i]?) (ad:Addr):
 Ev g w (g.more aw b n ad) w'/\Rel (g.more aw b n ad) w' (h.bump aw):=by
 have jP:g.bl b=some aw:=hb▸R.Dh aw hl
 have E:Ev g w (g.more aw b n ad) w':=by
  refine⟨⟨p.os,p.tape,p.output,by rw[p.size];exact Nat.le_refl _,λ_ _ e=>e,λ_ _ e=> .inl ⟨_,e⟩,λ_ _ e=>e,λ_ _ e=> .inl e,λl u a' e=>?_,λa' e=>?_,Nat.le_refl _,λl _=>?_,λl uB e=>?_,λk c1 T1 fz e=>?_,λ_ _ e=>e,λ_ _ e=> .inl e⟩,λk hk ho vp _=>?_⟩
  .obtain⟨h1,h2⟩:=R.HN _ _ _ e;simp only[Gh.more];rw[if_neg]
   .exact e
   .rintro⟨rfl,rfl⟩;omega
  .by_cases hk:a'.block=b
   .refine⟨?_,?_⟩
    .simp only[Gh.more];rw[if_pos hk];rw[hk]at e;omega
    .simp only[World.cell?,hk,p.at_,hw];rw[hk]at e;rw[zp _ e]
   .exact⟨by simp only[Gh.more];rw[if_neg hk];exact e,jW (p.other _ hk)⟩
  .simp only[Gh.more];split
   .rename_i h1;subst h1;omega
   .exact Nat.le_refl _
  .simp only[Gh.more]at e|-;split at e
   .rename_i h1;subst h1;omega
   .rename_i h1;refine⟨trivial,?_⟩;rw[if_neg];intro h2;have h3:=R.Dh l uB;rw[h2,jP]at h3;injection h3 with h3
    exact h1 h3.symm
  .by_cases hk:k=b
   .subst hk;rw[hw]at e;injection e with e
    injection e with e1 e2 e3
    subst e1 e2 e3;exact⟨c',p.at_,hs⟩
   .exact⟨c1,by rw[p.other k hk];exact e,O⟩
  .have QM:k≠b:=λe=>by rw[e,jP]at vp;cases vp
   exact⟨p.other k QM,by simp only[Gh.more];rw[if_neg QM]⟩
 refine⟨E,λo k e=>?_,R.Bm,R.Ag,λo x e=>?_,R.KN,R.nt,λl uB=>?_,λk l e=>?_,R.Dh,λl u a' e=>?_,λk e=>?_,λk c e=>?_,R.iH E.toEvc O⟩
 .obtain⟨h1,h2,h3⟩:=R.uC o k e;have QM:k≠b:=λe=>by rw[e,jP]at h3;cases h3
  exact⟨by rw[p.size];exact h1,λhf FU=>by simp only[Gh.more];rw[if_neg QM];exact h2 hf FU,h3⟩
 .obtain⟨k,hk,ho⟩:=R.obj o x e;have QM:k≠b:=λe=>by have:=(R.uC _ _ hk).2.2;rw[e,jP]at this;cases this
  exact⟨k,hk,ho.mono E.toEvc (p.other k QM) λj hj=>p.other j λe=>by rw[e,R.UK jP]at hj;cases hj⟩
 .simp only[Gh.more,AH.bump];have:=R.nt;split
  .rename_i h4;rw[h4,cU];simp only[R.cur aw (by omega)]
  .rename_i h4;rw[beq_false_of_ne h4];exact R.cur l uB
 .obtain⟨h1,h2⟩:=R.FT k l e;exact⟨h1,by rw[p.size];exact h2⟩
 .simp only[Gh.more]at e|-;split at e
  .rename_i h1;obtain⟨rfl,rfl⟩:=h1;exact⟨hl,by simp⟩
  .obtain⟨h1,h2⟩:=R.HN _ _ _ e;refine⟨h1,?_⟩;split
   .rename_i h3;subst h3;omega
   .exact h2
 .simp only[Gh.more]at e|-;split at e
  .rename_i h1;rw[if_pos h1];subst h1;exact⟨c',T,(0,0),p.at_,by omega⟩
  .rename_i h1;rw[if_neg h1];obtain⟨c1,T1,fz,h2,h3⟩:=R.ext k e;exact⟨c1,T1,fz,by rw[p.other k h1];exact h2,h3⟩
 .obtain⟨h1,h2,h3,h4⟩:=R.FC k c e;have QM:k≠b:=λe=>by rw[e,jP]at h3;cases h3
  exact⟨by rw[p.size];exact h1,by simp only[Gh.more];rw[if_neg QM];exact h2,h3,h4⟩
def qF (w:World) (ad:Addr) (n:Nat):List Value:=(List.range n).map λk=>(w.cell? (ad.add k)).getD undef
theorem pN {i j n sz:Nat} (hi:i <n) (hj:j <sz):i*sz+j <n*sz:=by
 have h1:i*sz+j <(i+1)*sz:=by rw[Nat.succ_mul];omega
 exact Nat.lt_of_lt_of_le h1 (Nat.mul_le_mul_right _ hi)
theorem nD {tk:Tk} {sz:Nat} {es:List (List AV)} {ad:Addr} {n cap:Nat} (r:VR g w (.vec tk sz es) (.slice (some ad) n cap)) (hz:0 <sz):
 n=es.length/\es.length<=cap/\cap <2^63/\uA g w tk ad es.length cap sz/\(∀i (hi:i <es.length),es[i].length=sz)/\
 ∃us:List Value,us.length=es.length*sz/\(∀k u,us[k]? =some u->w.cell? (ad.add k)=some u/\u.oneCell'=true/\(ad.add k).off <g.ext (ad.add k).block)/\∀i j (hi:i <es.length) (hj:j <es[i].length),VR g w es[i][j] (us.getD (i*sz+j) undef):=by
 cases r with
 |vec _ _ _ _ _ vs hs hc hv ho hm hn dY ht=>
  refine⟨O,hn,dY,ht,hs,qF w ad (es.length*sz),by simp[qF],λk u hk=>?_,λi j hi hj=>?_⟩
  .have ax:k <es.length*sz:=by
    obtain⟨h1,_⟩:=List.getElem?_eq_some_iff.1 hk;simpa[qF]using h1
   have hi:k/sz <es.length:=Nat.div_lt_of_lt_mul (by rw[Nat.mul_comm];exact ax)
   have hj:k% sz <sz:=Nat.mod_lt _ hz
   have jh:k/sz*sz+k% sz=k:=by rw[Nat.mul_comm];exact Nat.div_add_mod k sz
   have h1:=hc _ _ hi hj
   have h2:=ho _ _ hi hj
   have h3:=hm _ _ hi hj
   rw[jh]at h1 h3;have:u=vs (k/sz) (k% sz):=by simp only[qF,List.getElem?_map,List.getElem?_range ax,Option.map_some,h1,Option.getD_some,Option.some.injEq]at hk;exact hk.symm
   rw[this];exact⟨h1,h2,h3⟩
  .have rF:j <sz:=by rw[hs i hi]at hj;exact hj
   have ax:=pN hi rF
   have:(qF w ad (es.length*sz)).getD (i*sz+j) undef=vs i j:=by simp[qF,List.getD_eq_getElem?_getD,List.getElem?_range ax,hc i j hi rF]
   rw[this];exact hv i j hi hj
end
section
variable {P:Program} {lt:LT} {g:Gh} {w:World} {h:AH} {base:Nat} {lb:Nat->Option Nat} {fr:ay} {a:Act}
theorem qG (R:Rel g w h) {aw v nl:Nat} {h':AH} (hc:(aw=g.nl/\v=0/\nl=g.nl+1/\h'=h.cu)\/(aw <g.nl/\v=g.cur aw+1/\nl=g.nl/\h'=h.bump aw))
 {w':World} {T:TypeId} {sz cap:Nat} {es ys:List (List AV)} {us ns zs:List Value} (hz:0 <sz)
 (hw:w'.heap=w.heap.push (.cells (us++ns++zs).toArray T (0,0))) (XA:w'.os=w.os) (UM:w'.tape=w.tape) (Rz:w'.output=w.output)
 (wJ:∀i (hi:i <es.length),es[i].length=sz) (hys:∀i (hi:i <ys.length),ys[i].length=sz) (hu:us.length=es.length*sz) (hn:ns.length=ys.length*sz)
 (dY:es.length+ys.length<=cap) (Dz:cap <2^63) (Ge:zs.length=(cap -(es.length+ys.length))*sz)
 (QN:∀u∈us,u.oneCell'=true) (Ah:∀u∈ns,u.oneCell'=true)
 (Ol:∀i j (hi:i <es.length) (hj:j <es[i].length),VR g w es[i][j] (us.getD (i*sz+j) undef))
 (Ru:∀i j (hi:i <ys.length) (hj:j <ys[i].length),VR g w ys[i][j] (ns.getD (i*sz+j) undef)):
 ∃g',Ev g w g' w'/\Rel g' w' h'/\VR g' w' (.vec (.own aw v) sz (es++ys)) (.slice (some ⟨w.heap.size,0,none⟩) (es.length+ys.length) cap):=by
 have hlen:(us++ns).length=(es.length+ys.length)*sz:=by rw[List.length_append,hu,hn,Nat.add_mul]
 have XB:(us++ns++zs).toArray.size=cap*sz:=by
  simp only[List.size_toArray,List.length_append,hu,hn,Ge,<-Nat.add_mul]
  congr 1;omega
 have hle:(es.length+ys.length)*sz<=cap*sz:=Nat.mul_le_mul_right _ dY
 obtain⟨E,R'⟩:=Lu R hc (n:=(es.length+ys.length)*sz) hw XA UM Rz (by omega);refine⟨_,E,R',?_⟩;have XC:∀i j,i <(es++ys).length->j <sz->∀hj:i*sz+j <(us++ns).length,w'.cell? ((⟨w.heap.size,0,none⟩:Addr).add (i*sz+j))=some ((us++ns)[i*sz+j]):=by intro i j hi hj ax;rw[cL];simp only[World.cell?,hw,Array.getElem?_push,if_true,Option.isSome_none,Bool.false_eq_true,if_false,Nat.zero_add];rw[List.getElem?_toArray,List.getElem?_append_left ax,List.getElem?_eq_getElem ax]
 have ax:∀i j,i <(es++ys).length->j <sz->i*sz+j <(us++ns).length:=λi j hi hj=>by rw[hlen];exact pN (by simpa using hi) hj
 have rj:∀i j (hi:i <(es++ys).length) (hj:j <(es++ys)[i].length) (rF:j <sz),VR g w (es++ys)[i][j] ((us++ns)[i*sz+j]'(ax i j hi rF)):=by
  intro i j hi hj rF;have hl:=ax i j hi rF
  by_cases h1:i <es.length
  .have h2:i*sz+j <us.length:=by rw[hu];exact pN h1 rF
   have e1:(us++ns)[i*sz+j]=us.getD (i*sz+j) undef:=by rw[List.getElem_append_left h2,List.getD_eq_getElem?_getD,List.getElem?_eq_getElem h2];rfl
   have:=Ol i j h1 (by rw[wJ i h1];exact rF)
   rw[e1];simpa[List.getElem_append_left h1]using this
  .have h3:i -es.length <ys.length:=by simp at hi;omega
   have h4:es.length*sz<=i*sz:=Nat.mul_le_mul_right _ (by omega)
   have h5:i*sz+j -us.length=(i -es.length)*sz+j:=by rw[hu,Nat.sub_mul];omega
   have h6:¬ i*sz+j <us.length:=by rw[hu];omega
   have h7:(i -es.length)*sz+j <ns.length:=by rw[hn];exact pN h3 rF
   have e1:(us++ns)[i*sz+j]=ns.getD ((i -es.length)*sz+j) undef:=by rw[List.getElem_append_right (by omega),List.getD_eq_getElem?_getD,List.getElem?_eq_getElem h7];simp only[h5,Option.getD_some]
   have:=Ru (i -es.length) j h3 (by rw[hys _ h3];exact rF)
   rw[e1];simpa[List.getElem_append_right (show es.length<=i by omega)]using this
 have gJ:∀i (hi:i <(es++ys).length),(es++ys)[i].length=sz:=by
  intro i hi
  by_cases h1:i <es.length
  .rw[List.getElem_append_left h1];exact wJ i h1
  .rw[List.getElem_append_right (by omega)];exact hys _ _
 have hL:(es++ys).length=es.length+ys.length:=by simp
 have V:VR (g.grow aw v nl w.heap.size ((es.length+ys.length)*sz)) w' (.vec (.own aw v) sz (es++ys)) (.slice (some ⟨w.heap.size,0,none⟩) (es++ys).length cap):=?_
 .rw[hL]at V;exact V
 refine .vec _ sz _ _ cap (λi j=>(us++ns).getD (i*sz+j) undef) gJ (λi j hi hj=>?_) (λi j hi hj=>?_) (λi j hi hj=>?_) (λi j hi hj=>?_) (by simpa using dY) Dz ?_ (λ_=>⟨_,_,by simp only[hw,Array.getElem?_push,if_true];rfl⟩)
 .rw[XC i j hi hj (ax i j hi hj),List.getD_eq_getElem?_getD,List.getElem?_eq_getElem (ax i j hi hj)];rfl
 .have rF:j <sz:=by rw[gJ i hi]at hj;exact hj
  have:=rj i j hi hj rF
  rw[List.getD_eq_getElem?_getD,List.getElem?_eq_getElem (ax i j hi rF)];exact this.mono E.toEvc
 .rw[List.getD_eq_getElem?_getD,List.getElem?_eq_getElem (ax i j hi hj)];have hm:(us++ns)[i*sz+j]'(ax i j hi hj)∈us++ns:=List.getElem_mem _;rcases List.mem_append.1 hm with h1|h1
  .exact QN _ h1
  .exact Ah _ h1
 .rw[cL];simp only[Gh.grow,if_true];have:=ax i j hi hj;omega
 .have ri:aw <nl:=by rcases hc with⟨h1,_,h3,_⟩|⟨h1,_,h3,_⟩<;>omega
  refine⟨ri,by simp[Gh.grow],λ_ _=>⟨O,by simp[Gh.grow],by simp[Gh.grow],(us++ns++zs).toArray,T,by rw[hw,Array.getElem?_push];simp,?_⟩,by simp[Gh.grow],by simp[Gh.grow]⟩;show 0+cap*sz<=_;rw[XB];omega
structure OT (P:Program) (t t' e:TypeId) (i:TypeInfo) (z:Value) (sz:Nat):Prop where
 ht:P.underlying t=some (.slice e)
 hs:t'=t
 hi:P.info? e=some i
 hz:i.zero=some z
 gJ:i.size=sz
 h0:0 <sz
 Ge:z.cells.size=sz
def aY (sz:Nat):AV->Option (List (List AV))
 | .ao=>some []
 | .vec _ WW es=>match Nat.beq WW sz with|true=>some es|false=>none
 |_=>none
theorem iW {sz:Nat} {x:AV} {v:Value} {ys:List (List AV)} (hz:0 <sz) (r:VR g w x v) (hx:aY sz x=some ys):
 (v= .slice none 0 0/\ys=[])\/∃ad cap,v= .slice (some ad) ys.length cap/\(∀i (hi:i <ys.length),ys[i].length=sz)/\
  ∃us:List Value,us.length=ys.length*sz/\(∀k u,us[k]? =some u->w.cell? (ad.add k)=some u/\u.oneCell'=true/\(ad.add k).off <g.ext (ad.add k).block)/\
  ∀i j (hi:i <ys.length) (hj:j <ys[i].length),VR g w ys[i][j] (us.getD (i*sz+j) undef):=by
 unfold aY at hx;split at hx
 case h_1=>injection hx with hx;subst hx;cases r;exact .inl ⟨O,O⟩
 case h_2 tk WW es=>
  split at hx
  case h_2=>cases hx
  rename_i hb;injection hx with hx
  subst hx;have hb:=Nat.eq_of_beq_eq_true hb;subst hb;have r':=r
  cases r' with|vec _ _ _ ad cap vs=>obtain⟨_,_,_,_,h1,h2⟩:=nD r hz;exact .inr ⟨ad,cap,O,h1,h2⟩
 case h_3=>cases hx
theorem xp {t t' ty e:TypeId} {i:TypeInfo} {z:Value} {sz:Nat} (T:OT P t t' e i z sz) {xs x:AV} {vs vx:Value} {es:List (List AV)} (rs:VR g w xs vs) (hs:aY sz xs=some es) (rx:VR g w x vx) (hx:aY sz x=some []):
 (Builtin.append_ #[t,t'] ty #[vs,vx]).run P w= .ok vs w:=by
 have UU:=T.hs
 subst UU;rcases iW T.h0 rs hs with⟨rfl,rfl⟩|⟨ad,cap,rfl,h1,us,h2,h3,h4⟩
 .rcases iW T.h0 rx hx with⟨rfl,_⟩|⟨wF,fB,rfl,_⟩
  .simp[Builtin.append_,run_underlying T.ht,sizeOf,typeInfo,T.hi,Builtin.lenOf,Builtin.firstCells]
  .simp[Builtin.append_,run_underlying T.ht,sizeOf,typeInfo,T.hi,Builtin.lenOf,Builtin.firstCells,loadCells,loadCellsFrom]
 .have dY:es.length<=cap:=by
   unfold aY at hs;split at hs<;>(try cases hs)
   .cases rs
   .split at hs<;>(try cases hs)
    cases rs;assumption
  rcases iW T.h0 rx hx with⟨rfl,_⟩|⟨wF,fB,rfl,_⟩
  .simp[Builtin.append_,run_underlying T.ht,sizeOf,typeInfo,T.hi,Builtin.lenOf,Builtin.firstCells,dY,storeCells]
  .simp[Builtin.append_,run_underlying T.ht,sizeOf,typeInfo,T.hi,Builtin.lenOf,Builtin.firstCells,loadCells,loadCellsFrom,dY,storeCells]
theorem kj {z:Value} {sz k:Nat} (hz:z.cells.size=sz):(Builtin.zeroCells z.cells k).toList.length=k*sz:=by simp[Builtin.zeroCells,hz]
def zA (h:AH) (sz:Nat) (xs:AV) (es:List (List AV)) (aw v:Nat) (h':AH):Prop:=
 (xs= .ao/\es=[]/\aw=h.nt/\v=0/\h'=h.cu)\/(xs= .vec .full sz es/\aw=h.nt/\v=0/\h'=h.cu)\/
 (∃fk,(xs= .vec (.own aw fk) sz es\/xs= .vec (.Ld aw fk) sz es)/\h.bV aw=fk/\v=fk+1/\h'=h.bump aw)
theorem DA {t t' ty e:TypeId} {i:TypeInfo} {z:Value} {sz:Nat} (T:OT P t t' e i z sz) (R:Rel g w h) {xs x:AV} {vs vx:Value} {es ys:List (List AV)} {aw v:Nat} {h':AH} (rs:VR g w xs vs)
 (hs:zA h sz xs es aw v h') (rx:VR g w x vx) (hx:aY sz x=some ys) (cv:ys≠[]) (hb:(es.length+ys.length)*(i.bytes+1)<=140737488355328):
 ∃u g' w',(Builtin.append_ #[t,t'] ty #[vs,vx]).run P w= .ok u w'/\Ev g w g' w'/\Rel g' w' h'/\VR g' w' (.vec (.own aw v) sz (es++ys)) u:=by
 have UU:=T.hs
 subst UU;have hy0:0 <ys.length:=List.length_pos_iff.2 cv;rw[Nat.mul_succ]at hb;obtain⟨Om,wF,fB,rfl,BF,ns,Lw,hy4,RA⟩:ys≠[]/\∃ad cap,vx= .slice (some ad) ys.length cap/\(∀i (hi:i <ys.length),ys[i].length=sz)/\
  ∃us:List Value,us.length=ys.length*sz/\(∀k u,us[k]? =some u->w.cell? (ad.add k)=some u/\u.oneCell'=true/\(ad.add k).off <g.ext (ad.add k).block)/\
  ∀i j (hi:i <ys.length) (hj:j <ys[i].length),VR g w ys[i][j] (us.getD (i*sz+j) undef):=by
  rcases iW T.h0 rx hx with⟨_,h1⟩|h1
  .exact absurd h1 cv
  .exact⟨cv,h1⟩
 have Ah:∀u∈ns,u.oneCell'=true:=λu hu=>by obtain⟨k,hk,rfl⟩:=List.getElem_of_mem hu;exact(hy4 k _ (List.getElem?_eq_getElem hk)).2.1
 have Gf:∀j u,ns[j]? =some u->w.cell? (wF.add j)=some u:=λj u hj=>(hy4 j u hj).1
 have grow:∀(b:Addr) (cap:Nat) (us:List Value),vs= .slice (some b) es.length cap->cap <es.length+ys.length->us.length=es.length*sz->(∀k u,us[k]? =some u->w.cell? (b.add k)=some u/\u.oneCell'=true/\(b.add k).off <g.ext (b.add k).block)->
  (∀i (hi:i <es.length),es[i].length=sz)->(∀i j (hi:i <es.length) (hj:j <es[i].length),VR g w es[i][j] (us.getD (i*sz+j) undef))->
  ∀nl,((aw=g.nl/\v=0/\nl=g.nl+1/\h'=h.cu)\/(aw <g.nl/\v=g.cur aw+1/\nl=g.nl/\h'=h.bump aw))->
  ∃u g' w',(Builtin.append_ #[t',t'] ty #[vs,.slice (some wF) ys.length fB]).run P w= .ok u w'/\Ev g w g' w'/\Rel g' w' h'/\VR g' w' (.vec (.own aw v) sz (es++ys)) u:=by
  intro b cap us nC dY QN Ol XD XE nl hc;subst nC;have hr:=run_append_grow (P:=P) w t' ty e i z T.ht T.hi T.hz b es.length cap us (by rw[T.gJ];exact QN) (λj u hj=>(Ol j u hj).1) wF ys.length fB ns (by rw[T.gJ];exact Lw) Gf dY (by omega) (growslice_fits dY (by omega));have fH:=grownCap_ge w (es.length+ys.length) cap e;have hle:=grownCap_le_maxLen w (es.length+ys.length) cap e (by simp only[maxLen];omega);simp only[maxLen]at hle;obtain⟨g',E,R',V⟩:=qG (w':=w.drew.alloc (.cells (us.toArray++ns.toArray++Builtin.zeroCells z.cells (grownCap w (es.length+ys.length) cap e -(es.length+ys.length))) e)) R hc (T:=e) (cap:=grownCap w (es.length+ys.length) cap e) (es:=es) (ys:=ys) (us:=us) (ns:=ns)
   (zs:=(Builtin.zeroCells z.cells (grownCap w (es.length+ys.length) cap e -(es.length+ys.length))).toList) T.h0 (by show w.heap.push _=w.heap.push _;congr 2;apply Array.ext';simp) O O O XD BF QN Lw fH (by omega) (kj T.Ge)
   (λu hu=>by obtain⟨k,hk,rfl⟩:=List.getElem_of_mem hu;exact(Ol k _ (List.getElem?_eq_getElem hk)).2.1) Ah XE RA
  exact⟨_,g',_,hr,E,R',V⟩
 rcases hs with⟨rfl,rfl,rfl,rfl,rfl⟩|⟨rfl,rfl,rfl,rfl⟩|⟨fk,BG,RD,rfl,rfl⟩
 .cases rs;have hr:=run_append_nil (P:=P) w t' ty e i z T.ht T.hi T.hz wF ys.length fB ns (by rw[T.gJ];exact Lw) Gf hy0 (by simp at hb;omega) (by simp at hb;omega);have fH:=grownCap_ge w ys.length 0 e;have hle:=grownCap_le_maxLen w ys.length 0 e (by simp only[maxLen];simp at hb;omega);simp only[maxLen]at hle;obtain⟨g',E,R',V⟩:=qG (w':=w.drew.alloc (.cells (ns.toArray++Builtin.zeroCells z.cells (grownCap w ys.length 0 e -ys.length)) e)) R (h':=h.cu) (aw:=h.nt) (v:=0) (.inl ⟨R.nt.symm,O,O,O⟩) (T:=e) (cap:=grownCap w ys.length 0 e) (es:=[]) (ys:=ys) (us:=[]) (ns:=ns)
   (zs:=(Builtin.zeroCells z.cells (grownCap w ys.length 0 e -ys.length)).toList) T.h0 (by show w.heap.push _=w.heap.push _;congr 2;apply Array.ext';simp) O O O (λi hi=>by simp at hi) BF (by simp) Lw (by simpa using fH) (by omega) (by rw[kj T.Ge];simp) (by simp) Ah (λi j hi=>by simp at hi) RA
  exact⟨_,g',_,hr,E,R',by simpa using V⟩
 .have RE:=rs
  cases RE with|vec _ _ _ b cap qC _ _ _ _ _ _ _ ht=>obtain⟨_,_,_,_,h1,us,h2,h3,h4⟩:=nD rs T.h0;simp only[uA]at ht;exact grow b cap us O (by omega) h2 h3 h1 h4 (g.nl+1) (.inl ⟨R.nt.symm,O,O,O⟩)
 ·
  have key:∀tk,(tk= .own aw fk\/tk= .Ld aw fk)->xs= .vec tk sz es->∃u g' w',(Builtin.append_ #[t',t'] ty #[vs,.slice (some wF) ys.length fB]).run P w= .ok u w'/\Ev g w g' w'/\Rel g' w' (h.bump aw)/\VR g' w' (.vec (.own aw (fk+1)) sz (es++ys)) u:=by
   intro tk KO BG;subst BG;have RE:=rs
   cases RE with
   |vec _ _ _ b cap qC _ _ _ _ _ hn Dz ht=>
    obtain⟨_,_,_,_,h1,us,h2,h3,h4⟩:=nD rs T.h0;obtain⟨ri,XF,Lx⟩:aw <g.nl/\fk<=g.cur aw/\(g.cur aw=fk->es.length <cap->vX g w aw b es.length cap sz):=by
     rcases KO with rfl|rfl
     .exact⟨ht.1,ht.2.1,ht.2.2.1⟩
     .exact ht
    have BH:g.cur aw=fk:=by rw[R.cur aw (by rw[<-R.nt];exact ri)];exact RD
    by_cases gf:es.length+ys.length<=cap
    .obtain⟨f1,f2,f3,c,Tc,f4,f5⟩:=Lx BH (by omega);obtain⟨bb,bo,bs⟩:=b;simp only at f1 f2 f3 f4 f5;subst f1;have xn:bo+es.length*sz+ns.length<=c.size:=by
      have:(es.length+ys.length)*sz<=cap*sz:=Nat.mul_le_mul_right _ gf
      rw[Nat.add_mul]at this;rw[Lw];omega
     have iw:=run_storeCells_at (P:=P) bb (bo+es.length*sz) Tc ns 0 c w f4 (by omega) Ah;simp only[Nat.add_zero]at iw;have hf:=run_firstCells_some (P:=P) w i.size ys.length wF ys.length fB ns (by rw[T.gJ];exact Lw) Gf;generalize zp:(c.toList.take (bo+es.length*sz)++ns++c.toList.drop (bo+es.length*sz+ns.length)).toArray=c' at iw;have RF:c'.size=c.size:=by rw[<-zp];simp;omega
     have Ly:∀k,k <bo+es.length*sz->c'[k]? =c[k]? :=λk hk=>by rw[<-zp];simp only[List.getElem?_toArray];rw[List.append_assoc,List.getElem?_append_left (by simp;omega),List.getElem?_take,if_pos hk,Array.getElem?_toList]
     have RG:∀k (hk:k <ns.length),c'[bo+es.length*sz+k]? =some ns[k]:=λk hk=>by
      rw[<-zp];simp only[List.getElem?_toArray];have hm:min (bo+es.length*sz) c.size=bo+es.length*sz:=by omega
      rw[List.append_assoc,List.getElem?_append_right (by simp;omega),List.getElem?_append_left (by simp;omega)];simp[hm]
     obtain⟨E,R'⟩:=Dy R ri f2 f4 (iV f4 (us:=c')) RF (n:=bo+(es.length+ys.length)*sz) (by rw[f3];have:=Nat.mul_le_mul_right sz (show es.length<=es.length+ys.length by omega);omega) (by rw[Lw]at xn;rw[Nat.add_mul];omega) (λk hk=>Ly k (by omega)) ⟨bb,bo,none⟩;refine⟨.slice (some ⟨bb,bo,none⟩) (es.length+ys.length) cap,_,_,?_,E,R',?_⟩
     .simp only[T.gJ]at hf;simp[Builtin.append_,run_underlying T.ht,sizeOf,typeInfo,T.hi,T.gJ,Builtin.lenOf,gf,hf,cL,iw]
     .have hL:(es++ys).length=es.length+ys.length:=by simp
      have gJ:∀i (hi:i <(es++ys).length),(es++ys)[i].length=sz:=by
       intro i hi
       by_cases uu:i <es.length
       .rw[List.getElem_append_left uu];exact h1 i uu
       .rw[List.getElem_append_right (by omega)];exact BF _ _
      have pM:∀k (hk:k <(us++ns).length),(w.setRow bb c').cell? ((⟨bb,bo,none⟩:Addr).add k)=some (us++ns)[k]:=by
       intro k hk;rw[cL];simp only[World.cell?,setRow_heap w bb c c' Tc (0,0) f4,Option.isSome_none,Bool.false_eq_true,if_false]
       by_cases h6:k <us.length
       .have h7:=(h3 k us[k] (List.getElem?_eq_getElem h6)).1
        rw[cL]at h7;simp only[World.cell?,f4,Option.isSome_none,Bool.false_eq_true,if_false]at h7;rw[Ly _ (by omega),h7,List.getElem_append_left h6]
       .have h7:k -us.length <ns.length:=by simp at hk;omega
        have h8:=RG _ h7
        rw[show bo+k=bo+es.length*sz+(k -us.length) by omega,h8,List.getElem_append_right (by omega)]
      have hlen:(us++ns).length=(es.length+ys.length)*sz:=by rw[List.length_append,h2,Lw,Nat.add_mul]
      have ax:∀i j,i <(es++ys).length->j <sz->i*sz+j <(us++ns).length:=λi j hi hj=>by rw[hlen];exact pN (by simpa using hi) hj
      have V:VR (g.more aw bb (bo+(es.length+ys.length)*sz) ⟨bb,bo,none⟩) (w.setRow bb c') (.vec (.own aw (fk+1)) sz (es++ys)) (.slice (some ⟨bb,bo,none⟩) (es++ys).length cap):=?_
      .rw[hL]at V;exact V
      refine .vec _ sz _ _ cap (λi j=>(us++ns).getD (i*sz+j) undef) gJ (λi j hi hj=>?_) (λi j hi hj=>?_) (λi j hi hj=>?_) (λi j hi hj=>?_) (by simpa using gf) Dz ?_ (λ_=>⟨c',Tc,setRow_heap w bb c c' Tc (0,0) f4⟩)
      .rw[pM _ (ax i j hi hj),List.getD_eq_getElem?_getD,List.getElem?_eq_getElem (ax i j hi hj)];rfl
      .have rF:j <sz:=by rw[gJ i hi]at hj;exact hj
       refine VR.mono E.toEvc ?_
       by_cases uu:i <es.length
       .have h5:i*sz+j <us.length:=by rw[h2];exact pN uu rF
        have e1:(us++ns).getD (i*sz+j) undef=us.getD (i*sz+j) undef:=by rw[List.getD_eq_getElem?_getD,List.getElem?_append_left h5,List.getD_eq_getElem?_getD]
        have:=h4 i j uu (by rw[h1 i uu];exact rF)
        rw[e1];simpa[List.getElem_append_left uu]using this
       .have UW:i -es.length <ys.length:=by simp at hi;omega
        have h4':es.length*sz<=i*sz:=Nat.mul_le_mul_right _ (by omega)
        have e1:(us++ns).getD (i*sz+j) undef=ns.getD ((i -es.length)*sz+j) undef:=by
         rw[List.getD_eq_getElem?_getD,List.getElem?_append_right (by omega),List.getD_eq_getElem?_getD,h2,Nat.sub_mul]
         congr 2;omega
        have:=RA (i -es.length) j UW (by rw[BF _ UW];exact rF)
        rw[e1];simpa[List.getElem_append_right (show es.length<=i by omega)]using this
      .rw[List.getD_eq_getElem?_getD,List.getElem?_eq_getElem (ax i j hi hj)];have hm:(us++ns)[i*sz+j]'(ax i j hi hj)∈us++ns:=List.getElem_mem _;rcases List.mem_append.1 hm with h5|h5
       .obtain⟨k,hk,jh⟩:=List.getElem_of_mem h5;have:=(h3 k _ (List.getElem?_eq_getElem hk)).2.1;rw[jh]at this;exact this
       .exact Ah _ h5
      .rw[cL];simp only[Gh.more,if_true];have:=ax i j hi hj;omega
      .refine⟨ri,by simp[Gh.more,BH],λ_ _=>⟨O,f2,by simp[Gh.more],c',Tc,setRow_heap w bb c c' Tc (0,0) f4,by simp only;omega⟩,by simp[Gh.more,BH],?_⟩;show g.bl bb=some aw;rw[f2];exact R.Dh aw ri
    .exact grow b cap us O (by omega) h2 h3 h1 h4 g.nl (.inr ⟨ri,by rw[BH],O,O⟩)
  rcases BG with BG|BG
  .exact key _ (.inl O) BG
  .exact key _ (.inr O) BG
end
section
variable {P:Program} {lt:LT} {g:Gh} {w:World} {h:AH} {base:Nat} {lb:Nat->Option Nat} {fr:ay} {a:Act}
theorem xq {t:TypeId} (o:Oper) (ho:o.op= .makeMap t none):mC P lt (λa=>execOp a.eval o) fr h (.v (.map h.n),fr,h.push (.map [])):=by
 intro g0 w0 g w lb a E0 R F;obtain⟨E,R'⟩:=jm R (.map #[] 0) (.map []) λg' e=>⟨#[],0,by rw[heap_alloc];simp,O,λi hi=>by simp at hi⟩
 exact⟨_,.map (some w.heap.size),_,w.alloc (.map #[] 0),lb,by simp[execOp,ho,Instr.makeMap],.inl O,E0.trans E,R',F.mono E,.map _ _ (by simp[Gh.oT])⟩
def Jk (k:List UInt8) (v:AV):List (AV×AV)->Option (List (AV×AV))
 |[]=>some [(.str k,v)]
 |(.str k',v')::r=>match k==k' with|true=>some ((.str k,v)::r)|false=>match Jk k v r with|some r'=>some ((.str k',v')::r')|none=>none
 |_=>none
theorem vq {k:List UInt8} {v:AV} {es cA:List (AV×AV)} (hx:Jk k v es=some cA):(pI k es=some none/\cA=es++[(.str k,v)])\/∃j x,pI k es=some (some x)/\j=F5 k es/\∃hj:j <es.length,es[j].1= .str k/\es[j].2=x/\cA=es.set j (.str k,v):=by
 induction es generalizing cA with
 |nil=>simp only[Jk]at hx;injection hx with hx;subst hx;exact .inl ⟨O,O⟩
 |cons e es ih=>
  unfold Jk at hx;split at hx
  case h_1 heq=>cases heq
  case h_3=>cases hx
  rename_i k' v' r heq;injection heq with h1 h2
  subst h1 h2;split at hx
  .rename_i hb;injection hx with hx
   subst hx;have:k=k':=by simpa using hb
   subst this;exact .inr ⟨0,v',by simp[pI],by simp[F5],by simp,O,O,O⟩
  .rename_i hb;split at hx
   case h_2=>cases hx
   rename_i r' hr;injection hx with hx
   subst hx;rcases ih hr with⟨h1,h2⟩|⟨j,x,h1,h6,h2,h3,h4,h5⟩
   .exact .inl ⟨by simp[pI,hb,h1],by rw[h2];rfl⟩
   .exact .inr ⟨j+1,x,by simp[pI,hb,h1],by simp[F5,hb,h6],by simpa using h2,by simpa using h3,by simpa using h4,by rw[h5];rfl⟩
def qH (P:Program) (fr:ay) (h:AH) (t:TypeId) (m k v:Operand):Option (Slot×ay×AH):=
 match Ln P t,fr.ev m,fr.ev k,fr.ev v with
 |some _,.v (.map o),.v (.str ks),.v y=>match h.get o with
  |some (.map es)=>match Jk ks y es with|some cA=>some (.gI,fr,h.set o (.map cA))|none=>none
  |_=>none
 |_,_,_,_=>none
theorem BI (s:ByteArray):Instr.sameBits 10000 (.string s) (.string s)=true:=by
 have:∃d,Instr.sameBits 10000 (.string s) (.string s)=Instr.sameBits (d+1) (.string s) (.string s):=⟨9999,O⟩
 obtain⟨d,hd⟩:=this;rw[hd];simp[Instr.sameBits,HX]
theorem pO {b:Nat} {o o':Obj} (hw:w.heap[b]? =some o):nA w {w with heap:=w.heap.set! b o'} b o':=by
 have ax:=jl hw
 refine⟨O,O,O,by simp,by simp[ax],λk hk=>?_⟩;simp[Array.getElem?_setIfInBounds,Ne.symm hk]
theorem run_setObj_map {b Dg:Nat} {ms:Array MapEntry} {o':Obj} (hw:w.heap[b]? =some (.map ms Dg)):(setObj b o').run P w= .ok () {w with heap:=w.heap.set! b o'}:=by simp only[setObj,Sem.run,hw];rfl
theorem rK {t:TypeId} {m k v:Operand} {r:Slot×ay×AH} (hx:qH P fr h t m k v=some r) (o:Oper) (ho:o.op= .mapUpdate t m k v\/o.op= .insert t m k v):mC P lt (λa=>execOp a.eval o) fr h r:=by
 intro g0 w0 g w lb a E0 R F;unfold qH at hx;split at hx
 case h_2=>cases hx
 rename_i kt oo ks y hm em ek ey;split at hx
 case h_2=>cases hx
 rename_i es hg;split at hx
 case h_2=>cases hx
 rename_i cA wJ;injection hx with hx
 subst hx;have Dp:h.get oo≠some .KM/\h.get oo≠some .gone:=⟨by rw[hg];simp,by rw[hg];simp⟩;obtain⟨kt,et⟩:=kt;obtain⟨hu,hk⟩:=xl hm;have v1:=F.cq em;have v2:=F.cq ek;have v3:=F.cq ey;have Ia:execOp a.eval o=(do Instr.mapUpdate t (a.eval m) (a.eval k) (a.eval v);pure .skip):=by rcases ho with ho|ho<;>simp only[execOp,ho]
 generalize a.eval m=pm at v1 Ia;generalize a.eval k=pk at v2 Ia
 cases v1 with
 |map _ b hb=>
  obtain⟨b',dk,ms,Dg,hw,hs,hv⟩:=R.obj _ _ hg;rw[hb]at dk;injection dk with dk
  subst dk
  cases v2 with
  |str kb=>
   obtain⟨fr0,BJ⟩:∃r,pI kb.data.toList es=some r:=by
    rcases vq wJ with⟨h1,_⟩|⟨j,x,h1,_⟩
    .exact⟨_,h1⟩
    .exact⟨_,h1⟩
   obtain⟨q,hq,pj⟩:=rH (ms:=ms.toList) (by simpa using hs) (λi hi=>by simpa using hv i hi) BJ 0;have hf:(Instr.findKey kt (.string kb) ms.toList).run P w= .ok q w:=by simp only[Instr.findKey,Sem.run_bind,run_underlying hk,Result.andThen_ok,hq,Sem.run_pure]
   rcases vq wJ with⟨h1,h2⟩|⟨j,x,h1,QO,hj,h3,h4,h5⟩
   .rw[h1]at BJ;injection BJ with BJ
    subst BJ;simp only at pj;subst pj;have p:=pO (o':= .map (ms.push {key:= .string kb,val:=a.eval v,born:=Dg}) (Dg+1)) hw;obtain⟨E,R'⟩:=HR (cA:=cA) R hb Dp hw p (by rw[h2];simp[hs]) (λi hi=>by
     rw[h2]at hi
     by_cases vo:i <es.length
     .obtain⟨m',k1,k2,k3⟩:=hv i vo;refine⟨m',by rw[Array.getElem?_push,if_neg (by omega)];exact k1,?_,?_⟩
      .simp only[h2];rw[List.getElem_append_left vo];exact k2
      .simp only[h2];rw[List.getElem_append_left vo];exact k3
     .have WX:i=es.length:=by simp at hi;omega
      subst WX;refine⟨{key:= .string kb,val:=a.eval v,born:=Dg},by rw[Array.getElem?_push,if_pos hs.symm],?_,?_⟩
      .simp only[h2];rw[List.getElem_append_right (by omega)];simpa using VR.str kb
      .simp only[h2];rw[List.getElem_append_right (by omega)];simpa using v3)
    refine⟨.skip,undef,g,_,lb,?_,.inr ⟨O,O⟩,E0.trans E,R',F.mono E,trivial⟩;show(execOp a.eval o).run P w=_;rw[Ia];simp only[Instr.mapUpdate,Sem.run_bind,run_underlying hu,Result.andThen_ok,getObj,Sem.run,hw,Sem.run_pure,lg hk,hf];rw[run_setObj_map hw];rfl
   .rw[h1]at BJ;injection BJ with BJ
    subst BJ;obtain⟨j',v',k1,k2,k7,k3,k4,k5,k6⟩:=pj;subst k1;have hjj:j'=j:=by rw[k7,QO]
    subst hjj;obtain⟨m',n1,n2,n3⟩:=hv j' hj;have XG:m'.key= .string kb:=k6 m' (by simpa using n1);have UX:(Instr.keyThatStays (((ms[j']?).map (·.key)).getD (.string kb)) (.string kb)).run P w= .ok (.string kb) w:=by simp[n1,XG,Instr.keyThatStays,BI]
    have p:=pO (o':= .map (ms.modify j' λe=>{e with key:= .string kb,val:=a.eval v}) Dg) hw;obtain⟨E,R'⟩:=HR (cA:=cA) R hb Dp hw p (by rw[h5];simp[hs]) (λi hi=>by
     have vo:i <es.length:=by rw[h5]at hi;simpa using hi
     obtain⟨m2,q1,q2,q3⟩:=hv i vo
     by_cases OU:j'=i
     .subst OU;refine⟨{m2 with key:= .string kb,val:=a.eval v},by simp[Array.getElem?_modify,q1],?_,?_⟩
      .simp only[h5,List.getElem_set_self];exact VR.str kb
      .simp only[h5,List.getElem_set_self];exact v3
     .refine⟨m2,by simp[Array.getElem?_modify,OU,q1],?_,?_⟩
      .simp only[h5,List.getElem_set_ne OU];exact q2
      .simp only[h5,List.getElem_set_ne OU];exact q3)
    refine⟨.skip,undef,g,_,lb,?_,.inr ⟨O,O⟩,E0.trans E,R',F.mono E,trivial⟩;show(execOp a.eval o).run P w=_;rw[Ia];simp only[Instr.mapUpdate,Sem.run_bind,run_underlying hu,Result.andThen_ok,getObj,Sem.run,hw,Sem.run_pure,lg hk,hf,Nat.zero_add,UX];rw[run_setObj_map hw];rfl
end
def DB (P:Program) (fr:ay) (h:AH) (c:Call):Option Slot:=
 match c.callee with
 | .builtin .len=>match c.args.toList,c.argTypes.toList with|[x],[t]=>BA P fr h t x|_,_=>none
 | .builtin .min=>match c.args.toList with|[x,y]=>OO fr x y|_=>none
 | .builtin .cap=>match c.args.toList,c.argTypes.toList with|[x],[t]=>ON P fr t x|_,_=>none
 |_=>none
def fi (P:Program) (fr:ay) (h:AH) (op:Op):Option Slot:=
 match op with
 | .move x=>(fr.ev x).nf
 | .assign x=>(fr.ev x).nf
 | .pick c x y=>HY fr c x y
 | .load t x=>rG P fr h t x
 | .nilCheck x=>OJ fr x
 | .binOp op t x y _=>Lm P fr op t x y
 | .unOp op _ x=>WU fr op x
 | .convert s d x=>HU P fr s d x
 | .makeInterface t x=>sL P fr t x
 | .makeFunc fn f c=>wE fr fn f c
 | .slice t x lo hi mx=>og P fr t x lo hi mx
 | .fieldAddr s x f=>oe P fr s x f
 | .field s x f=>Bs P fr s x f
 | .indexAddr t x i=>jX P fr t x i
 | .index t x i=>xg P fr t x i
 | .lookup t x i ok=>wH P fr h t x i ok
 | .typeAssert x _ t ok=>wG P fr x t ok
 | .extract x i=>sK fr x i
 | .build t parts=>BB P fr t parts
 | .call c=>DB P fr h c
 |_=>none
def Gg (P:Program) (lt:LT) (fr:ay) (h:AH) (dst:Option Tmp) (op:Op):Option (Slot×ay×AH):=
 match op with
 | .alloc t=>pJ P lt fr h dst (xm P t)
 | .box _ x=>pJ P lt fr h dst (mY fr x)
 | .store t x v=>pK P fr h t x v
 | .buildSlice t n parts=>match gK P fr t n parts with|some s=>some (s,fr,h)|none=>none
 | .makeMap _ none=>some (.v (.map h.n),fr,h.push (.map []))
 | .mapUpdate t m k v=>qH P fr h t m k v
 | .insert t m k v=>qH P fr h t m k v
 |op=>match fi P fr h op with|some s=>some (s,fr,h)|none=>none
section
variable {P:Program} {lt:LT} {g:Gh} {w:World} {h:AH} {base:Nat} {lb:Nat->Option Nat} {fr:ay} {a:Act}
theorem Gi {c:Call} {o:Oper} {s:Slot} (R:Rel g w h) (F:FR lt g w base lb fr a) (ho:o.op= .call c) (hx:DB P fr h c=some s):
 ∃v,(execOp a.eval o).run P w= .ok (.value v) w/\VS g w lb s v:=by
 obtain⟨dst,op,ty,pos,after,guard⟩:=o;simp only at ho;subst ho;obtain⟨callee,args,argTypes⟩:=c;unfold DB at hx;simp only at hx;split at hx
 .split at hx
  case h_2=>cases hx
  rename_i x t h1 h2;have h1:args=#[x]:=Array.ext' h1;have h2:argTypes=#[t]:=Array.ext' h2;subst h1 h2;obtain⟨v,h1,h2⟩:=F6 (ty:=ty) R F hx;refine⟨v,?_,h2⟩;simp[execOp,resolve,invoke,builtin,h1]
 .split at hx
  case h_2=>cases hx
  rename_i x y h1;have h1:args=#[x,y]:=Array.ext' h1;subst h1;obtain⟨v,h1,h2⟩:=Ga (ty:=ty) (ts:=argTypes) (P:=P) (w:=w) F hx;refine⟨v,?_,h2⟩;simp[execOp,resolve,invoke,builtin,h1]
 .split at hx
  case h_2=>cases hx
  rename_i x t h1 h2;have h1:args=#[x]:=Array.ext' h1;have h2:argTypes=#[t]:=Array.ext' h2;subst h1 h2;obtain⟨v,h1,h2⟩:=F7 (ty:=ty) F hx;refine⟨v,?_,h2⟩;simp[execOp,resolve,invoke,builtin,h1]
 .cases hx
theorem DC {o:Oper} {s:Slot} (R:Rel g w h) (F:FR lt g w base lb fr a) (hx:fi P fr h o.op=some s):
 ∃v,(execOp a.eval o).run P w= .ok (.value v) w/\VS g w lb s v:=by
 have lift:∀(c:Sem Value),(∃v,c.run P w= .ok v w/\VS g w lb s v)->∃v,(do pure (Next.value (<-c)):Sem Next).run P w= .ok (.value v) w/\VS g w lb s v:=by rintro c ⟨v,h1,h2⟩;exact⟨v,by simp[h1],h2⟩
 obtain⟨dst,op,ty,pos,after,guard⟩:=o;unfold fi at hx;simp only at hx;split at hx
 .have hx:=Slot.Lp hx
  subst hx;exact⟨_,O,F.ev _⟩
 .have hx:=Slot.Lp hx
  subst hx;exact⟨_,O,F.ev _⟩
 .exact Dt F hx
 .exact lift _ (vm R F hx)
 .exact F2 F hx _ O
 .exact lift _ (F0 R F hx)
 .exact lift _ (Jg F hx)
 .exact lift _ (Ds F hx)
 .exact lift _ (xj F hx)
 .exact lift _ (zq F hx)
 .exact lift _ (Bz F hx)
 .exact lift _ (uE R F hx)
 .exact lift _ (Bt F hx)
 .exact lift _ (uF R F hx)
 .exact lift _ (Br F hx)
 .exact lift _ (zt R F hx)
 .exact lift _ (zr F hx)
 .exact lift _ (xh F hx)
 .exact lift _ (BC F hx)
 .exact Gi R F O hx
 .cases hx
theorem xr {o:Oper} {r:Slot×ay×AH} (hx:Gg P lt fr h o.dst o.op=some r):mC P lt (λa=>execOp a.eval o) fr h r:=by
 have UY:∀s,fi P fr h o.op=some s->mC P lt (λa=>execOp a.eval o) fr h (s,fr,h):=by intro s hs g0 w0 g w lb a E R F;obtain⟨v,h1,h2⟩:=DC R F hs;exact⟨_,v,g,w,lb,h1,.inl O,E,R,F,h2⟩
 unfold Gg at hx;split at hx
 .rename_i t ho;refine sP hx _ λcs uq g w lb base a F=>?_;obtain⟨z,h1,h2⟩:=Gc uq g w;exact⟨_,t,h2,zx o t ho _ z w h1⟩
 .rename_i t x ho;refine sP hx _ λcs uq g w lb base a F=>⟨(a.eval x).cells,t,?_,vn o t x ho _ w⟩;unfold mY at uq;split at uq
  case h_2=>cases uq
  rename_i y ey;exact(F.cq ey).cells uq
 .rename_i t x v ho;exact BE hx o ho
 .rename_i t n parts ho;split at hx
  case h_2=>cases hx
  rename_i s hs;injection hx with hx
  subst hx;exact sQ hs o ho
 .rename_i t ho;injection hx with hx
  subst hx;exact xq o ho
 .rename_i t m k v ho;exact rK hx o (.inl ho)
 .rename_i t m k v ho;exact rK hx o (.inr ho)
 .split at hx
  case h_2=>cases hx
  rename_i s hs;injection hx with hx
  subst hx;exact UY s hs
def DD (ops:List Oper) (j:Nat):Option Tmp:=
 match ops[j]? with
 |some o=>o.dst
 |none=>none
def au (ops:List Oper) (fr:ay) (gd:Option (Nat×Bool)):Option Bool:=
 match gd with
 |none=>some true
 |some (j,want)=>match DD ops j with
  |some t=>match fr.ev (.tmp t)with| .v (.bool b)=>some (bif want then b else !b)| .v (.cN _)=>some false|_=>none
  |none=>none
def Ak (P:Program) (lt:LT) (ops:List Oper) (o:Oper) (fr:ay) (h:AH):Option (ay×AH):=
 match au ops fr o.guard with
 |some true=>match Gg P lt fr h o.dst o.op with
  |some (s,aB,h')=>match o.dst with
   |some d=>match jY lt (some d) s with|true=>some (aB.bf d s,h')|false=>none
   |none=>some (aB,h')
  |none=>none
 |some false=>match o.dst with|some d=>some (fr.bf d (.v (.cN [])),h)|none=>some (fr,h)
 |none=>none
theorem cI {ops:List Oper} {o:Oper} {b:Bool} (F:FR lt g w base lb fr a) (hx:au ops fr o.guard=some b):Region.wanted o (yielded ops.toArray a.tmps)=b:=by
 unfold au at hx;unfold Region.wanted;split at hx
 .rename_i hg;injection hx with hx;rw[hg];exact hx
 .rename_i j want hg;rw[hg];split at hx
  case h_2=>cases hx
  rename_i t ht;split at hx
  case h_3=>cases hx
  case h_2 vs e=>
   injection hx with hx
   subst hx;have hv:=F.cq e;simp only[Act.eval]at hv;have hy:yielded ops.toArray a.tmps j=none:=by
    unfold yielded;unfold DD at ht;split at ht
    case h_2=>cases ht
    rename_i o' FQ;simp only[List.getElem?_toArray,FQ,Option.bind_some,ht];generalize hq:a.tmps.getD t undef=q at hv
    cases hv;rw[Array.getD_eq_getD_getElem?]at hq
    cases pj:a.tmps[t]? with|none=>rfl|some v=>rw[pj]at hq;simp at hq;rw[hq]
   simp only[hy]
   cases want<;>rfl
  rename_i b' e;injection hx with hx
  subst hx;have hv:=F.cq e;simp only[Act.eval]at hv;have hy:yielded ops.toArray a.tmps j=some b':=by
   unfold yielded;unfold DD at ht;split at ht
   case h_2=>cases ht
   rename_i o' FQ;simp only[List.getElem?_toArray,FQ,Option.bind_some,ht];generalize hq:a.tmps.getD t undef=q at hv
   cases hv;rw[Array.getD_eq_getD_getElem?]at hq
   cases pj:a.tmps[t]? with|none=>rw[pj]at hq;simp[undef]at hq|some v=>rw[pj]at hq;simp at hq;rw[hq]
  simp only[hy]
  cases b'<;>cases want<;>rfl
def AS (lt:LT) (h:AH) (fr:ay) (g0:Gh) (w0:World) (a:Act) (w:World):Prop:=∃g lb,Ev g0 w0 g w/\Rel g w h/\FR lt g w w0.heap.size lb fr a
theorem DE {ops:List Oper} {o:Oper} {aB:ay} {h':AH} (hx:Ak P lt ops o fr h=some (aB,h')) {g0:Gh} {w0:World} (S:AS lt h fr g0 w0 a w) {Q:Exit->Act->World->Prop} {K:Act->World->Prop}
 (hK:∀a' w',AS lt h' aB g0 w0 a' w'->K a' w'):
 if Region.wanted o (yielded ops.toArray a.tmps)then o.wp P a w K Q else K (a.put o.dst undef) w:=by
 obtain⟨g,lb,E,R,F⟩:=S;unfold Ak at hx;split at hx
 .rename_i hg;rw[if_pos (cI F hg)];split at hx
  case h_2=>cases hx
  rename_i s jc h1 he;have hx:jY lt o.dst s=true/\jc.put o.dst s=aB/\h1=h':=by
   split at hx
   .rename_i d hd;split at hx
    case h_2=>cases hx
    rename_i hs;injection hx with hx
    injection hx with hx hy
    rw[hd];exact⟨hs,hx,hy⟩
   .rename_i hd;injection hx with hx
    injection hx with hx hy
    rw[hd];exact⟨by cases s<;>rfl,hx,hy⟩
  obtain⟨hs,hx,hy⟩:=hx;subst hx hy;obtain⟨n,v,g',w',HZ,k1,k2,k3,k4,k5,k6⟩:=xr he g0 w0 g w lb a E R F;simp only at k4 k5 k6;unfold Oper.wp;simp only at k1;rw[k1];rcases k2 with rfl|⟨rfl,rfl⟩
  .exact hK _ _ ⟨g',HZ,k3,k4,k5.put k6 hs⟩
  .exact hK _ _ ⟨g',HZ,k3,k4,k5.put k6 hs⟩
 .rename_i hg;have hx:fr.put o.dst (.v (.cN []))=aB/\h=h':=by
   split at hx
   .rename_i d hd;injection hx with hx
    injection hx with hx hy
    rw[hd];exact⟨hx,hy⟩
   .rename_i hd;injection hx with hx
    injection hx with hx hy
    rw[hd];exact⟨hx,hy⟩
  obtain⟨hx,hy⟩:=hx;subst hx hy;rw[if_neg (by rw[cI F hg];simp)];exact hK _ _ ⟨g,lb,E,R,F.put (s:= .v (.cN [])) (VR.cN [] #[] O λi hi=>by simp at hi) O⟩
 .cases hx
end
def AL (P:Program) (lt:LT) (ops l:List Oper) (fr:ay) (h:AH) (K:ay->AH->Prop):Prop:=∃aB h',K aB h'/\∀(g0:Gh) (w0:World) (a:Act) (w:World) (Q:Exit->Act->World->Prop),AS lt h fr g0 w0 a w->(∀a' w',AS lt h' aB g0 w0 a' w'->Q .normal a' w')->wpList P ops.toArray Q l a w
def RH (P:Program) (lt:LT) (c:Code) (fr:ay) (h:AH) (e:Exit) (aB:ay) (h':AH):Prop:=∀(g0:Gh) (w0:World) (a:Act) (w:World),AS lt h fr g0 w0 a w->c.wp P (λe1 a1 w1=>e1=e/\AS lt h' aB g0 w0 a1 w1) a w
def AC (P:Program) (lt:LT) (c:Code) (fr:ay) (h:AH) (K:Exit->ay->AH->Prop):Prop:=∃e aB h',K e aB h'/\RH P lt c fr h e aB h'
def aP (P:Program) (f:FuncId) (args:List AV) (h:AH) (v:AV) (h':AH):Prop:=∀(g:Gh) (w:World) (vs:Array Value),Rel g w h->Df g w args vs->Calls P f vs w λe w'=>∃u g',e= .returned u/\Ev g w g' w'/\Rel g' w' h'/\VR g' w' v u
section
variable {P:Program} {lt:LT} {h:AH} {fr:ay} {ops l:List Oper} {K:ay->AH->Prop}
theorem AL.nil (H:K fr h):AL P lt ops [] fr h K:=⟨fr,h,H,λg0 w0 a w Q S hQ=>wpList_nil (hQ a w S)⟩
theorem AL.any {o:Oper} {jc:ay} {h1:AH} (hs:∀(g0:Gh) (w0:World) (a:Act) (w:World) (Q:Exit->Act->World->Prop) (K:Act->World->Prop),AS lt h fr g0 w0 a w->(∀a' w',AS lt h1 jc g0 w0 a' w'->K a' w')->
 if Region.wanted o (yielded ops.toArray a.tmps)then o.wp P a w K Q else K (a.put o.dst undef) w) (H:AL P lt ops l jc h1 K):AL P lt ops (o::l) fr h K:=by
 obtain⟨aB,h',k,r⟩:=H;refine⟨aB,h',k,λg0 w0 a w Q S hQ=>wpList_step λK' hK'=>?_⟩;exact hs g0 w0 a w Q K' S λa' w' S'=>hK' a' w' (r g0 w0 a' w' Q S' hQ)
theorem AL.step {o:Oper} {jc:ay} {h1:AH} (hx:Ak P lt ops o fr h=some (jc,h1)) (H:AL P lt ops l jc h1 K):AL P lt ops (o::l) fr h K:=AL.any (λ_ _ _ _ _ _ S hK=>DE hx S hK) H
variable {C:Exit->ay->AH->Prop}
theorem AC.region {id:Nat} {ops:List Oper} (H:AL P lt ops ops fr h (C .normal)):AC P lt (.region id ops.toArray false) fr h C:=by obtain⟨aB,h',k,r⟩:=H;exact⟨.normal,aB,h',k,λg0 w0 a w S=>wp_region_lit (r g0 w0 a w _ S λa' w' S'=>⟨O,S'⟩)⟩
theorem AC.skip (H:C .normal fr h):AC P lt .skip fr h C:=⟨_,_,_,H,λg0 w0 a w S=>wp_skip ⟨O,S⟩⟩
theorem AC.ret (H:C .ret fr h):AC P lt .ret fr h C:=⟨_,_,_,H,λg0 w0 a w S=>wp_ret ⟨O,S⟩⟩
theorem AC.exit {id:Nat} (H:C (.exit id) fr h):AC P lt (.exit id) fr h C:=⟨_,_,_,H,λg0 w0 a w S=>wp_exit ⟨O,S⟩⟩
def Ib (y:ay->AH->Prop) (C:Exit->ay->AH->Prop):Exit->ay->AH->Prop
 | .normal,fr,h=>y fr h
 |e,fr,h=>C e fr h
theorem AC.seq {x y:Code} (H:AC P lt x fr h (Ib (λfr h=>AC P lt y fr h C) C)):AC P lt (.seq x y) fr h C:=by
 obtain⟨e,jc,h1,k,r⟩:=H;have key:∀e',e'=e->e≠ .normal->C e jc h1->AC P lt (.seq x y) fr h C:=by
  rintro e' rfl cv hc;refine⟨e',jc,h1,hc,λg0 w0 a w S=>wp_seq (wp_mono (r g0 w0 a w S) ?_)⟩;rintro e2 a2 w2 ⟨rfl,S2⟩
  cases e2<;>first|exact absurd O cv|exact⟨O,S2⟩
 cases e with
 |normal=>obtain⟨e2,kX,h2,k2,r2⟩:=k;refine⟨e2,kX,h2,k2,λg0 w0 a w S=>wp_seq (wp_mono (r g0 w0 a w S) ?_)⟩;rintro e3 a3 w3 ⟨rfl,S3⟩;exact r2 g0 w0 a3 w3 S3
 |_=>exact key _ O (by simp) k
theorem AC.cond {c:Operand} {x y:Code} {b:Bool} (hc:fr.ev c= .v (.bool b)) (ht:b=true->AC P lt x fr h C) (hf:b=false->AC P lt y fr h C):AC P lt (.cond c x y) fr h C:=by
 have ev:∀g0 w0 a w,AS lt h fr g0 w0 a w->a.eval c= .bool b:=by
  rintro g0 w0 a w ⟨g,lb,E,R,F⟩;have:=F.cq hc;generalize a.eval c=q at this
  cases this;rfl
 cases b with|true=>obtain⟨e,aB,h',k,r⟩:=ht rfl;exact⟨e,aB,h',k,λg0 w0 a w S=>wp_cond_true (ev _ _ _ _ S) (r g0 w0 a w S)⟩|false=>obtain⟨e,aB,h',k,r⟩:=hf rfl;exact⟨e,aB,h',k,λg0 w0 a w S=>wp_cond_false (ev _ _ _ _ S) (r g0 w0 a w S)⟩
theorem AC.ct {c:Operand} {x y:Code} (hc:fr.ev c= .v (.bool true)) (H:AC P lt x fr h C):AC P lt (.cond c x y) fr h C:=AC.cond hc (λ_=>H) (λe=>by cases e)
theorem AC.cf {c:Operand} {x y:Code} (hc:fr.ev c= .v (.bool false)) (H:AC P lt y fr h C):AC P lt (.cond c x y) fr h C:=AC.cond hc (λe=>by cases e) (λ_=>H)
def uH (id:Nat) (C:Exit->ay->AH->Prop):Exit->ay->AH->Prop
 | .exit DF,fr,h=>match Nat.beq DF id with|true=>C .normal fr h|false=>C (.exit DF) fr h
 |e,fr,h=>C e fr h
theorem AC.block {id:Nat} {c:Code} (H:AC P lt c fr h (uH id C)):AC P lt (.block id c) fr h C:=by
 obtain⟨e,jc,h1,k,r⟩:=H
 cases e with
 |exit DF=>
  simp only[uH]at k;split at k
  .rename_i hb;have hb:=Nat.eq_of_beq_eq_true hb;subst hb;refine⟨_,jc,h1,k,λg0 w0 a w S=>wp_block (wp_mono (r g0 w0 a w S) ?_)⟩;rintro e2 a2 w2 ⟨rfl,S2⟩;simp only[Exit.inBlock,if_true];exact⟨trivial,S2⟩
  .rename_i hb;have hb:=Nat.ne_of_beq_eq_false hb;refine⟨_,jc,h1,k,λg0 w0 a w S=>wp_block (wp_mono (r g0 w0 a w S) ?_)⟩;rintro e2 a2 w2 ⟨rfl,S2⟩;simp only[Exit.inBlock,if_neg hb];exact⟨trivial,S2⟩
 |_=>refine⟨_,jc,h1,k,λg0 w0 a w S=>wp_block (wp_mono (r g0 w0 a w S) ?_)⟩;rintro e2 a2 w2 ⟨rfl,S2⟩;exact⟨O,S2⟩
inductive rZ (P:Program) (lt:LT) (c:Code):Nat->ay->AH->Exit->ay->AH->Prop where
 |last {fr h e aB h'}:RH P lt c fr h e aB h'->e≠ .normal->rZ P lt c 0 fr h e aB h'
 |more {n fr h jc h1 e aB h'}:RH P lt c fr h .normal jc h1->rZ P lt c n jc h1 e aB h'->rZ P lt c (n+1) fr h e aB h'
def AW (P:Program) (lt:LT) (c:Code) (fr:ay) (h:AH) (C:Exit->ay->AH->Prop):Prop:=∃n e aB h',C e aB h'/\rZ P lt c n fr h e aB h'
theorem AW.round {c:Code} (H:AC P lt c fr h (Ib (λfr h=>AW P lt c fr h C) C)):AW P lt c fr h C:=by
 obtain⟨e,jc,h1,k,r⟩:=H
 cases e with|normal=>obtain⟨n,e2,kX,h2,k2,r2⟩:=k;exact⟨n+1,e2,kX,h2,k2,.more r r2⟩|_=>exact⟨0,_,jc,h1,k,.last r (by simp)⟩
theorem rZ.dX {c:Code} {n:Nat} {e:Exit} {aB:ay} {h':AH} (r:rZ P lt c n fr h e aB h'):RH P lt (.loop c) fr h e aB h':=by
 intro g0 w0 a w S
 let J:Nat->Act->World->Prop:=λn a w=>∃fr h,rZ P lt c n fr h e aB h'/\AS lt h fr g0 w0 a w
 have least:∀n a w,J n a w->∃m,J m a w/\∀k,J k a w->m<=k:=by
  intro n
  induction n using Nat.strongRecOn with
  |_ n ih=>
   intro a w hn
   by_cases hm:∃m,m <n/\J m a w
   .obtain⟨m,hm1,hm2⟩:=hm;exact ih m hm1 a w hm2
   .exact⟨n,hn,λk hk=>Nat.le_of_not_lt λax=>hm ⟨k,ax,hk⟩⟩
 classical
 let μ:Act->World->Nat:=λa w=>if hj:∃n,J n a w then Classical.choose (least _ a w (Classical.choose_spec hj))else 0
 have hμ:∀n a w,J n a w->J (μ a w) a w/\∀k,J k a w->μ a w<=k:=by intro n a w hn;have hj:∃n,J n a w:=⟨n,hn⟩;have:=Classical.choose_spec (least _ a w (Classical.choose_spec hj));simp only[μ,dif_pos hj];exact this
 refine wp_loop (λa w=>∃n,J n a w) μ ⟨n,fr,h,r,S⟩ ?_;rintro a w ⟨n,hn⟩;obtain⟨⟨jc,h1,r1,S1⟩,DG⟩:=hμ n a w hn;generalize hm:μ a w=m at r1 DG
 cases r1 with
 |last b cv=>
  refine wp_mono (b g0 w0 a w S1) ?_;rintro e2 a2 w2 ⟨rfl,S2⟩
  cases e2<;>first|exact absurd O cv|exact⟨O,S2⟩
 |more b r2=>refine wp_mono (b g0 w0 a w S1) ?_;rintro e2 a2 w2 ⟨rfl,S2⟩;have hj:J _ a2 w2:=⟨_,_,r2,S2⟩;exact⟨⟨_,hj⟩,by have:=(hμ _ a2 w2 hj).2 _ hj;omega⟩
theorem AC.loop {c:Code} (H:AW P lt c fr h C):AC P lt (.loop c) fr h C:=by obtain⟨n,e,aB,h',k,r⟩:=H;exact⟨e,aB,h',k,r.dX⟩
def xu (args:List AV) (k:Nat):Slot:=
 match args[k]? with
 |some x=> .v x
 |none=> .gI
def ay.enter (n:Nat) (args:List AV):ay:=⟨n,xu args,λ_=>[],[]⟩
def sR (P:Program) (fr:ay) (h:AH):ResultVar->Option AV
 | .tmp t=>match fr.ev (.tmp t)with| .v x=>some x|_=>none
 | .cell a t=>match rG P fr h t (.tmp a)with|some (.v x)=>some x|_=>none
def oV (P:Program) (fr:ay) (h:AH):List ResultVar->Option (List AV)
 |[]=>some []
 |r::rs=>match sR P fr h r,oV P fr h rs with|some x,some xs=>some (x::xs)|_,_=>none
def gk (P:Program) (fr:ay) (h:AH) (rs:List ResultVar):Option AV:=
 match oV P fr h rs with
 |some [x]=>some x
 |some xs=>some (.cN xs)
 |none=>none
def fu (P:Program) (fr:ay) (h:AH) (rs:List ResultVar):Option AV:=
 match fr.df with
 |[]=>gk P fr h rs
 |_=>none
theorem mD {P:Program} {fr:ay} {h:AH} {rs:List ResultVar} {v:AV} (hx:fu P fr h rs=some v):fr.df=[]/\gk P fr h rs=some v:=by
 unfold fu at hx;split at hx
 .rename_i e;exact⟨e,hx⟩
 .cases hx
theorem DH {g:Gh} {w:World} {base:Nat} {lb:Nat->Option Nat} {a:Act} {r:ResultVar} {x:AV} (R:Rel g w h) (F:FR lt g w base lb fr a) (hx:sR P fr h r=some x):
 ∃v,((match r with
 | .tmp t=>pure (a.tmps.getD t undef)
 | .cell a' t=>do loadVar t (<-asAddr (a.tmps.getD a' undef)):Sem Value)).run P w= .ok v w/\VR g w x v:=by
 unfold sR at hx;split at hx
 .rename_i t;split at hx
  case h_2=>cases hx
  rename_i y e;injection hx with hx
  subst hx;exact⟨_,O,F.cq e⟩
 .rename_i a' t;split at hx
  case h_2=>cases hx
  rename_i y e;injection hx with hx
  subst hx;obtain⟨v,h1,h2⟩:=vm R F e;refine⟨v,?_,h2⟩;simp only[Instr.loadAt,Act.eval]at h1;generalize a.tmps.getD a' undef=q at h1|-
  cases q with
  |pointer p=>cases p with|none=>simp[Instr.sureAddr]at h1|some p=>exact h1
  |_=>simp[Instr.sureAddr]at h1
theorem lQ {fn:Func} {g:Gh} {w:World} {base:Nat} {lb:Nat->Option Nat} {a:Act} {x:AV} (R:Rel g w h) (F:FR lt g w base lb fr a) (hx:gk P fr h fn.results.toList=some x):
 ∃v,(results fn a.tmps).run P w= .ok v w/\VR g w x v:=by
 have key:∀(rs:List ResultVar) xs,oV P fr h rs=some xs->∃vs:List Value,(rs.mapM (λr=>(match r with
  | .tmp t=>pure (a.tmps.getD t undef)
  | .cell a' t=>do loadVar t (<-asAddr (a.tmps.getD a' undef)):Sem Value))).run P w= .ok vs w/\vs.length=xs.length/\∀i (hi:i <xs.length),VR g w xs[i] (vs.getD i undef):=by
  intro rs
  induction rs with
  |nil=>intro xs hx;simp only[oV]at hx;injection hx with hx;subst hx;exact⟨[],O,O,λi hi=>by simp at hi⟩
  |cons r rs ih=>
   intro xs hx;simp only[oV]at hx;split at hx
   case h_2=>cases hx
   rename_i x1 xs1 h1 h2;injection hx with hx
   subst hx;obtain⟨v,k1,k2⟩:=DH R F h1;obtain⟨vs,k3,k4,k5⟩:=ih xs1 h2;refine⟨v::vs,by rw[List.mapM_cons];simp only[Sem.run_bind,k1,Result.andThen_ok,k3,Sem.run_pure],by simp[k4],λi hi=>?_⟩
   cases i with|zero=>exact k2|succ i=>simpa using k5 i (by simpa using hi)
 unfold gk at hx;have run:∀vs:List Value,(fn.results.toList.mapM (λr=>(match r with
  | .tmp t=>pure (a.tmps.getD t undef)
  | .cell a' t=>do loadVar t (<-asAddr (a.tmps.getD a' undef)):Sem Value))).run P w= .ok vs w->(results fn a.tmps).run P w= .ok (if h:vs.toArray.size=1 then vs.toArray[0]else .tuple vs.toArray) w:=by
  intro vs hv;unfold results;rw[Array.mapM_eq_mapM_toList];simp only[Sem.run_bind,Sem.run_map,Sem.run_pure]
  erw[hv]
  rfl
 split at hx
 .rename_i x1 h1;injection hx with hx
  subst hx;obtain⟨vs,k3,k4,k5⟩:=key _ _ h1
  match vs,k4 with
  |[v],_=>exact⟨_,run _ k3,by simpa using k5 0 (by simp)⟩
 .rename_i xs cv h1;injection hx with hx
  subst hx;obtain⟨vs,k3,k4,k5⟩:=key _ _ h1;have:¬ vs.toArray.size=1:=by
   intro e
   match xs,k4,cv with
   |[x],_,cv=>exact cv x O
   |[],k4,_=>simp at k4;subst k4;simp at e
   |_::_::_,k4,_=>simp at e;rw[e]at k4;simp at k4
  refine⟨_,run _ k3,?_⟩;rw[dif_neg this];refine .cN _ _ (by simpa using k4) λi hi=>?_;have:=k5 i hi;simpa[List.getD_eq_getElem?_getD,Array.getD_eq_getD_getElem?]using this
 .cases hx
structure Jl (P:Program) (f:FuncId) (c:Code) (n:Nat) (rs:List ResultVar) (fn:Func):Prop where
 at_:P.funcs[f]? =some fn
 body:fn.body=some c
 ntmps:fn.ntmps=n
 results:fn.results.toList=rs
def UZ (P:Program) (rs:List ResultVar) (v:AV) (h2:AH):Exit->ay->AH->Prop
 | .normal,fr,h=>fu P fr h rs=some v/\h=h2
 | .ret,fr,h=>fu P fr h rs=some v/\h=h2
 |_,_,_=>False
theorem aP.of {f:FuncId} {c:Code} {n:Nat} {rs:List ResultVar} {fn:Func} (I:Jl P f c n rs fn) (lt:LT) {args:List AV} {v:AV} {h':AH} (hn:Nat.ble args.length n=true)
 (H:AC P lt c (ay.enter n args) h (UZ P rs v h')):aP P f args h v h':=by
 obtain⟨e,aB,h1,k,r⟩:=H;intro g w vs R nC;refine calls_of_wp I.at_ I.body ?_;have hn:=Nat.le_of_ble_eq_true hn;have gJ:=nC.1;have F:FR lt g w w.heap.size (λ_=>none) (ay.enter n args) {tmps:=vs++Array.replicate (fn.ntmps -vs.size) undef,defers:=[]}:=by
  refine⟨O,by simp[ay.enter,I.ntmps];omega,λi hi=>?_,λi d off e=>?_,λ_ _ _ e=>(by cases e),λ_ _ e=>(by cases e)⟩
  .simp only[ay.enter,xu];split
   .rename_i x hx;obtain⟨h1,h2⟩:=List.getElem?_eq_some_iff.1 hx;have:=nC.2 i h1;have e1:(vs++Array.replicate (fn.ntmps -vs.size) undef).getD i undef=vs.getD i undef:=by
     simp[Array.getD_eq_getD_getElem?,Array.getElem?_append,show i <vs.size by omega]
    rw[e1,<-h2];exact this
   .trivial
  .simp only[ay.enter,xu]at e;split at e<;>cases e
 refine wp_mono (r g w _ w ⟨g,_,.refl g w,R,F⟩) ?_;rintro e1 a1 w1 ⟨rfl,g1,lb1,E1,R1,F1⟩;have fin:fu P aB h1 rs=some v/\h1=h'->bodyPost P fn (λe w'=>∃u g',e= .returned u/\Ev g w g' w'/\Rel g' w' h'/\VR g' w' v u) .ret a1 w1:=by rintro⟨q1,rfl⟩;obtain⟨qd,q1⟩:=mD q1;obtain⟨u,q2,q3⟩:=lQ (fn:=fn) R1 F1 (I.results▸q1);have hd:=F1.defers;rw[qd]at hd;exact⟨hd,u,q2,u,g1,O,E1,R1,q3⟩
 cases e1 with|normal=>exact fin k|ret=>exact fin k|_=>exact k.elim
theorem Ic {o:Oper} {f:FuncId} {args:List AV} {v:AV} {h1:AH} (H:aP P f args h v h1) (hs:jY lt o.dst (.v v)=true)
 (sS:∀g w lb base a,FR lt g w base lb fr a->Rel g w h->∃vs,(execOp a.eval o).run P w= .ok (.enter f vs) w/\Df g w args vs)
 {g0:Gh} {w0:World} {a:Act} {w:World} {Q:Exit->Act->World->Prop} {K:Act->World->Prop} (S:AS lt h fr g0 w0 a w) (hK:∀a' w',AS lt h1 (fr.put o.dst (.v v)) g0 w0 a' w'->K a' w'):o.wp P a w K Q:=by
 obtain⟨g,lb,E,R,F⟩:=S;obtain⟨vs,k1,k2⟩:=sS g w lb _ a F R;unfold Oper.wp;rw[k1];refine Calls.mono (H g w vs R k2) ?_;rintro e w' ⟨u,g',rfl,E',R',V⟩;exact hK _ _ ⟨g',lb,E.trans E',R',(F.mono E').put (s:= .v v) V hs⟩
theorem AL.RI {o:Oper} {f:FuncId} {args:List AV} {v:AV} {h1:AH} (hg:o.guard=none\/au ops fr o.guard=some true)
 (sS:∀g w lb base a,FR lt g w base lb fr a->Rel g w h->∃vs,(execOp a.eval o).run P w= .ok (.enter f vs) w/\Df g w args vs) (H:aP P f args h v h1) (T:AL P lt ops l (fr.put o.dst (.v v)) h1 K):AL P lt ops (o::l) fr h K:=by
 refine AL.any (λg0 w0 a w Q K S hK=>?_) T;have hw:Region.wanted o (yielded ops.toArray a.tmps)=true:=by
  rcases hg with hg|hg
  .simp[Region.wanted,hg]
  .obtain⟨g,lb,E,R,F⟩:=S;exact cI F hg
 rw[if_pos hw];exact Ic H O sS S hK
def eh (fr:ay) (o:Op):Option (FuncId×List AV):=
 match o with
 | .call c=>match c.callee with
  | .value x=>match fr.ev x,fr.FD c.args.toList with
   | .v (.pG f eV),some args=>match eV with|[]=>some (f,args)|_=>some (f,args++eV)
   |_,_=>none
  |_=>none
 |_=>none
theorem Df.append {g:Gh} {w:World} {xs ys:List AV} {vs us:Array Value} (h1:Df g w xs vs) (h2:Df g w ys us):Df g w (xs++ys) (vs++us):=by
 refine⟨by simp[h1.1,h2.1],λi hi=>?_⟩;have e1:=h1.1
 by_cases ax:i <xs.length
 .have:=h1.2 i ax
  rw[List.getElem_append_left ax];simpa[Array.getD_eq_getD_getElem?,Array.getElem?_append,show i <vs.size by omega]using this
 .have:=h2.2 (i -xs.length) (by simp at hi;omega)
  rw[List.getElem_append_right (by omega)];simpa[Array.getD_eq_getD_getElem?,Array.getElem?_append,show ¬ i <xs.length by omega,e1]using this
theorem vr {o:Oper} {f:FuncId} {args:List AV} (hc:eh fr o.op=some (f,args)) (hf:∀(vs:Array Value) (w:World),(callFunc f vs).run P w= .ok (.enter f vs) w):
 ∀g w lb base a,FR lt g w base lb fr a->Rel g w h->∃vs,(execOp a.eval o).run P w= .ok (.enter f vs) w/\Df g w args vs:=by
 intro g w lb base a F R;obtain⟨dst,op,ty,pos,after,guard⟩:=o;simp only at hc;unfold eh at hc;split at hc
 case h_2=>cases hc
 rename_i c;split at hc
 case h_2=>cases hc
 rename_i x hx;split at hc
 case h_2=>cases hc
 rename_i f' eV U0 e1 e2;have Lz:=By F e2;have v1:=F.cq e1;generalize hq:a.eval x=q at v1;have Jm:∃vs:Array Value,q= .func (.func f') #[] vs/\Df g w eV vs:=by cases v1 with|pG _ _ vs h1 h2=>exact⟨vs,O,h1,h2⟩
 obtain⟨vs,rfl,nC⟩:=Jm;have run:(execOp a.eval {dst:=dst,op:= .call c,type:=ty,pos:=pos,after:=after,guard:=guard}).run P w=(callFunc f' ((c.args.map a.eval)++vs)).run P w:=by simp only[execOp,resolve,hx,hq,Deferred.ofValue,Sem.run_bind,Sem.run_pure,Result.andThen_ok,invoke];simp
 have U3:=Lz.append nC;split at hc
 .injection hc with hc
  injection hc with hc hd
  subst hc hd;exact⟨_,run.trans (hf _ w),by simpa using U3⟩
 .injection hc with hc
  injection hc with hc hd
  subst hc hd;exact⟨_,run.trans (hf _ w),U3⟩
theorem AL.call {o:Oper} {f:FuncId} {args:List AV} {v:AV} {h1:AH} (hc:eh fr o.op=some (f,args)) (hg:au ops fr o.guard=some true) (hf:∀(vs:Array Value) (w:World),(callFunc f vs).run P w= .ok (.enter f vs) w)
 (H:aP P f args h v h1) {d:Tmp} (hd:o.dst=some d) (T:AL P lt ops l (fr.bf d (.v v)) h1 K):AL P lt ops (o::l) fr h K:=
 AL.RI (.inr hg) (vr hc hf) H (by rw[hd];exact T)
end
section
variable {P:Program} {lt:LT} {h:AH} {fr aB:ay}
theorem An {xs:List Operand} (hx:∀x∈xs,aB.ev x=fr.ev x):aB.FD xs=fr.FD xs:=by induction xs with|nil=>rfl|cons x xs ih=>simp only[ay.FD,hx x (by simp),ih λy hy=>hx y (by simp[hy])]
theorem DI {pl:Nat->Option (Nat×Nat)} {parts:List (Nat×Operand)} (hx:∀p∈parts,aB.ev p.2=fr.ev p.2):∀cells,rJ aB pl cells parts=rJ fr pl cells parts:=by
 induction parts with
 |nil=>intro cells;rfl
 |cons p parts ih=>
  intro cells;obtain⟨i,x⟩:=p;have h1:=hx (i,x) (by simp);simp only[rJ,h1];have ih:=ih λp hp=>hx p (by simp[hp])
  split<;>try rfl
  split<;>try rfl
  split<;>try rfl
  exact ih _
theorem BL {size:Nat} {parts:List (Nat×Operand)} (hx:∀p∈parts,aB.ev p.2=fr.ev p.2):∀k,mW aB size k parts=mW fr size k parts:=by
 induction parts with
 |nil=>intro cells;rfl
 |cons p parts ih=>
  intro k;obtain⟨i,x⟩:=p;have h1:=hx (i,x) (by simp);have ih:=ih λp hp=>hx p (by simp[hp])
  simp only[mW,h1,ih]
theorem sa {x:Option Operand} {d:Nat} (hx:∀y,x=some y->aB.ev y=fr.ev y):eL aB x d=eL fr x d:=by cases x with|none=>rfl|some y=>simp only[eL,hx y O]
theorem Gj {c:Call} (hx:∀x∈c.args.toList,aB.ev x=fr.ev x):DB P aB h c=DB P fr h c:=by
 obtain⟨callee,args,argTypes⟩:=c;unfold DB;simp only;split
 .split
  .rename_i x t h1 h2;have:=hx x (by simp[h1]);simp only[BA,this]
  .rfl
 .split
  .rename_i x y h1;have e1:=hx x (by simp[h1]);have e2:=hx y (by simp[h1]);simp only[OO,e1,e2]
  .rfl
 .split
  .rename_i x t h1 h2;have:=hx x (by simp[h1]);simp only[ON,this]
  .rfl
 .rfl
theorem DJ {op:Op} (hl:aB.loc=fr.loc) (hx:∀x∈op.operands.toList,aB.ev x=fr.ev x):fi P aB h op=fi P fr h op:=by
 unfold fi;split
 case h_1 x=>rw[hx x (by simp[Op.operands])]
 case h_2 x=>rw[hx x (by simp[Op.operands])]
 case h_3 c x y=>simp only[HY,hx c (by simp[Op.operands]),hx x (by simp[Op.operands]),hx y (by simp[Op.operands])]
 case h_4 t x=>simp only[rG,hx x (by simp[Op.operands]),hl]
 case h_5 x=>simp only[OJ,hx x (by simp[Op.operands])]
 case h_6 op t x y yt=>simp only[Lm,hx x (by simp[Op.operands]),hx y (by simp[Op.operands])]
 case h_7 op t x=>simp only[WU,hx x (by simp[Op.operands])]
 case h_8 s d x=>simp only[HU,hx x (by simp[Op.operands])]
 case h_9 t x=>simp only[sL,hx x (by simp[Op.operands])]
 case h_10 fn f c=>
  have:aB.FD c.toList=fr.FD c.toList:=An λx hc=>hx x (by simp[Op.operands];exact .inr (by simpa using hc))
  simp only[wE,this]
 case h_11 t x lo hi mx=>
  have e1:∀d,eL aB lo d=eL fr lo d:=λd=>sa λy hy=>hx y (by simp[Op.operands,hy])
  have e2:∀d,eL aB hi d=eL fr hi d:=λd=>sa λy hy=>hx y (by simp[Op.operands,hy])
  have e3:∀d,eL aB mx d=eL fr mx d:=λd=>sa λy hy=>hx y (by simp[Op.operands,hy])
  have e0:=hx x (by simp[Op.operands])
  cases hi<;>cases mx<;>simp only[og,e0,e1,e2,e3]
 case h_12 s x f=>simp only[oe,hx x (by simp[Op.operands])]
 case h_13 s x f=>simp only[Bs,hx x (by simp[Op.operands])]
 case h_14 t x i=>simp only[jX,hx x (by simp[Op.operands]),hx i (by simp[Op.operands])]
 case h_15 t x i=>simp only[xg,hx x (by simp[Op.operands]),hx i (by simp[Op.operands])]
 case h_16 t x i ok=>simp only[wH,sM,hx x (by simp[Op.operands]),hx i (by simp[Op.operands])]
 case h_17 x _ t ok=>simp only[wG,hx x (by simp[Op.operands])]
 case h_18 x i=>simp only[sK,hx x (by simp[Op.operands])]
 case h_19 t parts=>
  have:∀pl zs,rJ aB pl zs parts.toList=rJ fr pl zs parts.toList:=λpl zs=>DI (λp hp=>hx p.2 (by simp only[Op.operands];simpa using⟨p.1,by simpa using hp⟩)) zs
  simp only[BB,this]
 case h_20 c=>exact Gj λx hc=>hx x (by simp only[Op.operands,Call.operands];simp;exact .inr (by simpa using hc))
 case h_21=>rfl
def qI (lt:LT) (h:AH) (dst:Option Tmp) (cs:Option (List AV)):Option (Slot×AH):=
 match dst,cs with
 |some d,some cs=>match lt.has d with|none=>some (.v (.ptr h.n 0),h.push (.cells cs))|some _=>none
 |_,_=>none
def sU (P:Program) (fr:ay) (h:AH) (t:TypeId) (x v:Operand):Option (Slot×AH):=
 match kW P t,mY fr v,fr.ev x with
 |some n,some cs,.v (.ptr o off)=>match Nat.beq cs.length n,h.get o with
  |true,some (.cells jL)=>match Nat.ble (off+cs.length) jL.length,jn off cs jL with|true,some r=>some (.gI,h.set o (.cells r))|_,_=>none
  |_,_=>none
 |_,_,_=>none
def Ao (P:Program) (fr:ay) (h:AH) (t:TypeId) (m k v:Operand):Option (Slot×AH):=
 match Ln P t,fr.ev m,fr.ev k,fr.ev v with
 |some _,.v (.map o),.v (.str ks),.v y=>match h.get o with
  |some (.map es)=>match Jk ks y es with|some cA=>some (.gI,h.set o (.map cA))|none=>none
  |_=>none
 |_,_,_,_=>none
def Ap (P:Program) (fr:ay) (h:AH) (t:TypeId) (n:Nat) (parts:Array (Nat×Operand)):Option (Slot×AH):=
 match gK P fr t n parts with
 |some s=>some (s,h)
 |none=>none
def iz (P:Program) (fr:ay) (h:AH) (op:Op):Option (Slot×AH):=
 match fi P fr h op with
 |some s=>some (s,h)
 |none=>none
def gL (P:Program) (lt:LT) (fr:ay) (h:AH) (dst:Option Tmp) (op:Op):Option (Slot×AH):=
 match op with
 | .alloc t=>qI lt h dst (xm P t)
 | .box _ x=>qI lt h dst (mY fr x)
 | .store t x v=>sU P fr h t x v
 | .buildSlice t n parts=>Ap P fr h t n parts
 | .makeMap _ none=>some (.v (.map h.n),h.push (.map []))
 | .mapUpdate t m k v=>Ao P fr h t m k v
 | .insert t m k v=>Ao P fr h t m k v
 |op=>iz P fr h op
theorem rL {dst:Option Tmp} {cs:Option (List AV)} {s:Slot} {h':AH} (hx:qI lt h dst cs=some (s,h')):pJ P lt fr h dst cs=some (s,fr,h'):=by
 unfold qI at hx;split at hx
 case h_2=>cases hx
 split at hx
 case h_2=>cases hx
 rename_i hl;injection hx with hx
 injection hx with hx hy
 subst hx hy;simp only[pJ,hl]
theorem zB {t:TypeId} {x v:Operand} {s:Slot} {h':AH} (hx:sU P fr h t x v=some (s,h')):pK P fr h t x v=some (s,fr,h'):=by
 unfold sU at hx;split at hx
 case h_2=>cases hx
 rename_i h1 h2 h3;split at hx
 case h_2=>cases hx
 rename_i h4 h5;split at hx
 case h_2=>cases hx
 rename_i r h6 h7;injection hx with hx
 injection hx with hx hy
 subst hx hy;simp only[pK,h1,h2,h3,h4,h5,h6,h7]
theorem vt {t:TypeId} {m k v:Operand} {s:Slot} {h':AH} (hx:Ao P fr h t m k v=some (s,h')):qH P fr h t m k v=some (s,fr,h'):=by
 unfold Ao at hx;split at hx
 case h_2=>cases hx
 rename_i h1 h2 h3 h4;split at hx
 case h_2=>cases hx
 rename_i h5;split at hx
 case h_2=>cases hx
 rename_i h6;injection hx with hx
 injection hx with hx hy
 subst hx hy;simp only[qH,h1,h2,h3,h4,h5,h6]
theorem vu {t:TypeId} {n:Nat} {parts:Array (Nat×Operand)} {s:Slot} {h':AH} (hx:Ap P fr h t n parts=some (s,h')):gK P fr t n parts=some s/\h'=h:=by
 unfold Ap at hx;split at hx
 case h_2=>cases hx
 rename_i h1;injection hx with hx
 injection hx with hx hy
 subst hx hy;exact⟨h1,O⟩
theorem lh {op:Op} {s:Slot} {h':AH} (hx:iz P fr h op=some (s,h')):fi P fr h op=some s/\h'=h:=by
 unfold iz at hx;split at hx
 case h_2=>cases hx
 rename_i h1;injection hx with hx
 injection hx with hx hy
 subst hx hy;exact⟨h1,O⟩
theorem DL {o:Oper} {s:Slot} {h':AH} (hx:gL P lt fr h o.dst o.op=some (s,h')):mC P lt (λa=>execOp a.eval o) fr h (s,fr,h'):=by
 have key:Gg P lt fr h o.dst o.op=some (s,fr,h'):=by
  cases Oi:o.op<;>rw[Oi]at hx<;>simp only[gL]at hx<;>simp only[Gg]
  case alloc t=>exact rL hx
  case box t x=>exact rL hx
  case store t x v=>exact zB hx
  case buildSlice t n parts=>obtain⟨h1,rfl⟩:=vu hx;simp only[h1]
  case mapUpdate t m k v=>exact vt hx
  case insert t m k v=>exact vt hx
  case makeMap t r=>
   cases r with
   |none=>simp only at hx|-;injection hx with hx;injection hx with hx hy;subst hx hy;rfl
   |some r=>obtain⟨h1,rfl⟩:=lh hx;simp only[h1]
  all_goals(obtain⟨h1,rfl⟩:=lh hx;simp only[h1])
 exact xr key
theorem DM {dst:Option Tmp} {op:Op} (hl:aB.loc=fr.loc) (hx:∀x∈op.operands.toList,aB.ev x=fr.ev x):gL P lt aB h dst op=gL P lt fr h dst op:=by
 have hp:iz P aB h op=iz P fr h op:=by simp only[iz,DJ hl hx]
 cases op<;>simp only[gL]<;>try exact hp
 case box t x=>simp only[mY,hx x (by simp[Op.operands])]
 case store t x v=>simp only[sU,mY,hx x (by simp[Op.operands]),hx v (by simp[Op.operands])]
 case buildSlice t n parts=>
  have:∀size k,mW aB size k parts.toList=mW fr size k parts.toList:=λsize k=>BL (λp hp=>hx p.2 (by simp only[Op.operands];simpa using⟨p.1,by simpa using hp⟩)) k
  simp only[Ap,gK,this]
 case makeMap t r=>cases r with|none=>rfl|some r=>exact hp
 case mapUpdate t m k v=>simp only[Ao,hx m (by simp[Op.operands]),hx k (by simp[Op.operands]),hx v (by simp[Op.operands])]
 case insert t m k v=>simp only[Ao,hx m (by simp[Op.operands]),hx k (by simp[Op.operands]),hx v (by simp[Op.operands])]
end
def pP:List Operand->List Tmp
 |[]=>[]
 | .tmp t::r=>t::pP r
 |_::r=>pP r
theorem Gk {t:Tmp} {l:List Operand} (h: .tmp t∈l):t∈pP l:=by
 induction l with
 |nil=>simp at h
 |cons x l ih=>
  rcases List.mem_cons.1 h with h1|h1
  .subst h1;simp[pP]
  .have:=ih h1
   cases x<;>simp[pP,this]
def looks (ops:List Oper) (o:Oper):List Tmp:=
 match o.guard with
 |some (j,_)=>match DD ops j with|some t=>t::pP o.op.operands.toList|none=>pP o.op.operands.toList
 |none=>pP o.op.operands.toList
def ag (P:Program) (lt:LT) (ops:List Oper) (o:Oper) (fr:ay) (h:AH) (s:Slot) (h':AH):Prop:=∀aB:ay,aB.n=fr.n->aB.loc=fr.loc->(∀t∈looks ops o,aB.f t=fr.f t)->∀(g0:Gh) (w0:World) (a:Act) (w:World) (Q:Exit->Act->World->Prop) (K:Act->World->Prop),AS lt h aB g0 w0 a w->(∀a' w',AS lt h' (aB.put o.dst s) g0 w0 a' w'->K a' w')->if Region.wanted o (yielded ops.toArray a.tmps)then o.wp P a w K Q else K (a.put o.dst undef) w
section
variable {P:Program} {lt:LT} {h h':AH} {fr aB:ay} {ops:List Oper}
theorem lR {o:Oper} (hn:aB.n=fr.n) (hf:∀t∈looks ops o,aB.f t=fr.f t):∀x∈o.op.operands.toList,aB.ev x=fr.ev x:=by
 intro x hx
 cases x with
 |tmp t=>
  have:t∈looks ops o:=by
   unfold looks;have:=Gk hx;split
   .split
    .simp[this]
    .exact this
   .exact this
  simp only[ay.ev,hn,hf t this]
 |_=>rfl
theorem fT {o:Oper} (hn:aB.n=fr.n) (hf:∀t∈looks ops o,aB.f t=fr.f t):au ops aB o.guard=au ops fr o.guard:=by
 unfold au
 cases hg:o.guard with
 |none=>rfl
 |some p=>
  obtain⟨j,want⟩:=p;simp only
  cases ht:DD ops j with
  |none=>rfl
  |some t=>
   have:t∈looks ops o:=by simp[looks,hg,ht]
   simp only[ay.ev,hn,hf t this]
theorem ag.op {o:Oper} {s:Slot} (hw:au ops fr o.guard=some true) (hx:gL P lt fr h o.dst o.op=some (s,h')) (hs:jY lt o.dst s=true):ag P lt ops o fr h s h':=by
 intro aB hn hl hf g0 w0 a w Q K S hK;rw[<-fT hn hf]at hw;rw[<-DM hl (lR hn hf)]at hx;obtain⟨g,lb,E,R,F⟩:=S;rw[if_pos (cI F hw)];obtain⟨n,v,g',w',HZ,k1,k2,k3,k4,k5,k6⟩:=DL hx g0 w0 g w lb a E R F;simp only at k1 k4 k5 k6;unfold Oper.wp;rw[k1];rcases k2 with rfl|⟨rfl,rfl⟩
 .exact hK _ _ ⟨g',HZ,k3,k4,k5.put k6 hs⟩
 .exact hK _ _ ⟨g',HZ,k3,k4,k5.put k6 hs⟩
theorem ag.off {o:Oper} (hw:au ops fr o.guard=some false):ag P lt ops o fr h (.v (.cN [])) h:=by intro aB hn hl hf g0 w0 a w Q K S hK;rw[<-fT hn hf]at hw;obtain⟨g,lb,E,R,F⟩:=S;rw[if_neg (by rw[cI F hw];simp)];exact hK _ _ ⟨g,lb,E,R,F.put (s:= .v (.cN [])) (VR.cN [] #[] O λi hi=>by simp at hi) O⟩
theorem zC {op:Op} (hx:∀x∈op.operands.toList,aB.ev x=fr.ev x):eh aB op=eh fr op:=by
 unfold eh;split
 .rename_i c;split
  .rename_i x hc;have h1:=hx x (by simp[Op.operands,Call.operands,hc]);have h2:aB.FD c.args.toList=fr.FD c.args.toList:=An λy hy=>hx y (by simp[Op.operands,Call.operands,hc];exact .inr (by simpa using hy))
   rw[h1,h2]
  .rfl
 .rfl
theorem ag.call {o:Oper} {f:FuncId} {args:List AV} {v:AV} (hc:eh fr o.op=some (f,args)) (hw:au ops fr o.guard=some true) (hf:∀(vs:Array Value) (w:World),(callFunc f vs).run P w= .ok (.enter f vs) w)
 (H:aP P f args h v h'):ag P lt ops o fr h (.v v) h':=by
 intro aB hn hl hff g0 w0 a w Q K S hK;rw[<-fT hn hff]at hw;rw[<-zC (lR hn hff)]at hc;have hwt:Region.wanted o (yielded ops.toArray a.tmps)=true:=by obtain⟨g,lb,E,R,F⟩:=S;exact cI F hw
 rw[if_pos hwt];exact Ic H O (vr hc hf) S hK
structure po where
 o:Oper
 fr:ay
 s:Slot
 kind:Nat
 k:Nat
inductive Tr (P:Program) (lt:LT) (ops:List Oper):List Oper->ay->AH->Nat->List po->List AH->ay->AH->Prop where
 |nil {fr h k}:Tr P lt ops [] fr h k [] [] fr h
 |free {o l fr h k s aD hs aB h'}:(∀h,ag P lt ops o fr h s h)->Tr P lt ops l (fr.put o.dst s) h k aD hs aB h'->Tr P lt ops (o::l) fr h k (⟨o,fr,s,0,k⟩::aD) hs aB h'
 |read {o l fr h k s aD hs aB h'}:ag P lt ops o fr h s h->Tr P lt ops l (fr.put o.dst s) h k aD hs aB h'->Tr P lt ops (o::l) fr h k (⟨o,fr,s,1,k⟩::aD) hs aB h'
 |LA {o l fr h k s h1 aD hs aB h'}:ag P lt ops o fr h s h1->Tr P lt ops l (fr.put o.dst s) h1 (k+1) aD hs aB h'->Tr P lt ops (o::l) fr h k (⟨o,fr,s,2,k⟩::aD) (h1::hs) aB h'
def ed (L:Nat->Bool):Nat->List po->ay->ay
 |_,[],fr=>fr
 |i,e::r,fr=>ed L (i+1) r (if L i then fr.put e.o.dst e.s else fr)
theorem QP (fr:ay) (d:Option Tmp) (s:Slot):(fr.put d s).n=fr.n:=by cases d<;>rfl
theorem Ie (fr:ay) (d:Option Tmp) (s:Slot):(fr.put d s).loc=fr.loc:=by cases d<;>rfl
theorem Aq (fr:ay) (d:Option Tmp) (s:Slot) (t:Tmp):(fr.put d s).f t=if d=some t then s else fr.f t:=by
 cases d with
 |none=>simp[ay.put]
 |some d=>
  simp only[ay.put,ay.bf]
  by_cases h:t=d
  .subst h;rw[cU];simp
  .rw[beq_false_of_ne h,if_neg (λe=>h (by injection e with e;exact e.symm))]
theorem wK (L:Nat->Bool):∀(aD:List po) (i:Nat) (fr:ay),(ed L i aD fr).n=fr.n/\(ed L i aD fr).loc=fr.loc
 |[],_,_=>⟨O,O⟩
 |e::r,i,fr=>by
  simp only[ed];obtain⟨h1,h2⟩:=wK L r (i+1) (if L i then fr.put e.o.dst e.s else fr);rw[h1,h2];split
  .exact⟨QP _ _ _,Ie _ _ _⟩
  .exact⟨O,O⟩
theorem LB (fr:ay) (d:Option Tmp) (s:Slot):(fr.put d s).df=fr.df:=by cases d<;>rfl
theorem xv (L:Nat->Bool):∀(aD:List po) (i:Nat) (fr:ay),(ed L i aD fr).df=fr.df
 |[],_,_=>rfl
 |e::r,i,fr=>by
  simp only[ed];rw[xv L r (i+1) (if L i then fr.put e.o.dst e.s else fr)];split
  .exact LB _ _ _
  .rfl
theorem mE {L M:Nat->Bool} {t:Tmp}:∀(aD:List po) (i:Nat) (fr aB:ay),fr.f t=aB.f t->(∀j (hj:j <aD.length),aD[j].o.dst=some t->L (i+j)=M (i+j))->
 (ed L i aD fr).f t=(ed M i aD aB).f t
 |[],_,_,_,h,_=>h
 |e::r,i,fr,aB,h,hw=>by
  simp only[ed];refine mE r (i+1) _ _ ?_ λj hj hd=>?_
  .by_cases hd:e.o.dst=some t
   .have:=hw 0 (by simp) hd
    simp only[Nat.add_zero]at this;rw[this];split
    .rw[Aq,Aq,if_pos hd,if_pos hd]
    .exact h
   .have:∀(b:Bool) (x:ay),(if b then x.put e.o.dst e.s else x).f t=x.f t:=by
     intro b x
     cases b
     .rfl
     .simp only[if_true];rw[Aq,if_neg hd]
    rw[this,this];exact h
  .have:=hw (j+1) (by simpa using hj) (by simpa using hd)
   rw[show i+(j+1)=i+1+j by omega]at this;exact this
theorem iS {L:Nat->Bool}:∀(aD:List po) (i:Nat) (fr:ay),(∀j,j <aD.length->L (i+j)=false)->ed L i aD fr=fr
 |[],_,_,_=>rfl
 |e::r,i,fr,h=>by
  have h0:=h 0 (by simp)
  simp only[Nat.add_zero]at h0;simp only[ed,h0,Bool.false_eq_true,if_false];exact iS r (i+1) fr λj hj=>by
   have:=h (j+1) (by simpa using hj)
   rwa [show i+(j+1)=i+1+j by omega]at this
theorem Ar {L M:Nat->Bool} {n:Nat}:∀(aD:List po) (i:Nat) (fr:ay) (hn:n <aD.length),L (i+n)=false->M (i+n)=true->(∀j,j <aD.length->j≠n->M (i+j)=L (i+j))->
 (∀j (hj:j <aD.length),n <j->aD[j].o.dst=aD[n].o.dst->aD[n].o.dst≠none->L (i+j)=false)->∀t,(ed M i aD fr).f t=((ed L i aD fr).put aD[n].o.dst aD[n].s).f t
 |[],_,_,hn,_,_,_,_,_=>by simp at hn
 |e::r,i,fr,hn,hL,hM,ha,hc,t=>by
  cases n with
  |zero=>
   simp only[Nat.add_zero]at hL hM;simp only[ed,hL,hM,if_true,Bool.false_eq_true,if_false,List.getElem_cons_zero];rw[Aq];have Jn:∀j (hj:j <r.length),M (i+1+j)=L (i+1+j):=λj hj=>by
    have:=ha (j+1) (by simpa using hj) (by omega)
    rwa [show i+(j+1)=i+1+j by omega]at this
   by_cases hd:e.o.dst=some t
   .rw[if_pos hd];have:(ed M (i+1) r (fr.put e.o.dst e.s)).f t=(ed (λ_=>false) (i+1) r (fr.put e.o.dst e.s)).f t:=by
     refine mE r (i+1) _ _ O λj hj hdj=>?_;rw[Jn j hj];have:=hc (j+1) (by simpa using hj) (by omega) (by simp[hdj,hd]) (by simp[hd])
     rwa [show i+(j+1)=i+1+j by omega]at this
    rw[this,iS r _ _ (λ_ _=>rfl),Aq,if_pos hd]
   .rw[if_neg hd];exact mE r (i+1) _ _ (by rw[Aq,if_neg hd]) λj hj _=>Jn j hj
  |succ n=>
   have h0:=ha 0 (by simp) (by omega)
   simp only[Nat.add_zero]at h0;simp only[ed,h0,List.getElem_cons_succ];refine Ar r (i+1) _ (by simpa using hn) ?_ ?_ ?_ ?_ t
   .rwa [show i+1+n=i+(n+1) by omega]
   .rwa [show i+1+n=i+(n+1) by omega]
   .intro j hj cv;have:=ha (j+1) (by simpa using hj) (by omega)
    rwa [show i+(j+1)=i+1+j by omega]at this
   .intro j hj ax hd cv;have:=hc (j+1) (by simpa using hj) (by omega) (by simpa using hd) (by simpa using cv)
    rwa [show i+(j+1)=i+1+j by omega]at this
end
def nG (o:Oper):List Nat:=(o.after.toList.filter (Region.binds .any)).map (·.on)
def As (acc:List Nat):List Nat->Nat
 |[]=>0
 |p::ps=>(1 <<<p |||acc.getD p 0) |||As acc ps
def pQ:List Oper->List Nat->List Nat
 |[],acc=>acc
 |o::r,acc=>pQ r (acc++[As acc (nG o)])
def kD (A:List Nat) (i j:Nat):Bool:=(A.getD j 0).testBit i
def mZ (ops:List Oper) (L:Nat->Bool):Prop:=∀j o,ops[j]? =some o->L j=true->∀p∈nG o,L p=true
theorem DN {L:Nat->Bool} {acc ps:List Nat} {i:Nat} (ha:∀j i,(acc.getD j 0).testBit i=true->L j=true->L i=true) (hp:∀p∈ps,L p=true) (h:(As acc ps).testBit i=true):L i=true:=by
 induction ps with
 |nil=>simp[As]at h
 |cons p ps ih=>
  simp only[As,Nat.testBit_or,Bool.or_eq_true,Nat.testBit_shiftLeft]at h;have qE:=hp p (by simp);rcases h with(h|h)|h
  .have:i=p:=by
    simp only[Bool.and_eq_true,decide_eq_true_eq]at h;obtain⟨h1,h2⟩:=h;have h3:i -p=0:=by
     rcases Nat.eq_zero_or_pos (i -p)with h3|h3
     .exact h3
     .rw[Nat.testBit_lt_two_pow (Nat.one_lt_two_pow (by omega))]at h2
      cases h2
    omega
   rw[this];exact qE
  .exact ha p i h qE
  .exact ih (λq hq=>hp q (by simp[hq])) h
theorem xw {all:List Oper} {L:Nat->Bool} (hL:mZ all L):∀(r:List Oper) (acc:List Nat) (pre:List Oper),all=pre++r->acc.length=pre.length->(∀j i,(acc.getD j 0).testBit i=true->L j=true->L i=true)->
 ∀j i,kD (pQ r acc) i j=true->L j=true->L i=true
 |[],acc,pre,_,_,ha=>λj i h hj=>ha j i h hj
 |o::r,acc,pre,DO,hlen,ha=>by
  refine xw hL r (acc++[As acc (nG o)]) (pre++[o]) (by simp[DO]) (by simp[hlen]) λj i h hj=>?_;rcases Nat.lt_or_ge j acc.length with h1|h1
  .rw[List.getD_eq_getElem?_getD,List.getElem?_append_left h1,<-List.getD_eq_getElem?_getD]at h;exact ha j i h hj
  .rcases Nat.lt_or_ge acc.length j with h2|h2
   .rw[List.getD_eq_getElem?_getD,List.getElem?_eq_none (by simp;omega)]at h;simp at h
   .have QQ:j=acc.length:=by omega
    subst QQ;rw[List.getD_eq_getElem?_getD,List.getElem?_append_right (by omega)]at h;simp at h;exact DN ha (hL acc.length o (by rw[DO,hlen];simp) hj) h
theorem qJ {ops:List Oper} {L:Nat->Bool} (hL:mZ ops L) {i j:Nat} (h:kD (pQ ops []) i j=true) (hj:L j=true):L i=true:=xw hL ops [] [] O O (λj i h=>by simp at h) j i h hj
def nH (A:List Nat) (j:Nat) (ts:List Tmp) (dj:Option Tmp):Nat->List Oper->Bool
 |_,[]=>true
 |i,o::r=>
  (match o.dst with
  |none=>true
  |some t=>bif Nat.beq i j then true else bif (ts.contains t)||(dj==some t)then(bif Nat.ble i j then kD A i j else kD A j i)else true)&&nH A j ts dj (i+1) r
def Ig (A:List Nat) (ops:List Oper):Nat->List Oper->Bool
 |_,[]=>true
 |j,o::r=>nH A j (looks ops o) o.dst 0 ops&&(nG o).all (λp=>Nat.blt p j)&& !(kD A j j)&&Ig A ops (j+1) r
def dm:Nat->List Nat->List Nat
 |_,[]=>[]
 |i,k::r=>match Nat.beq k 2 with|true=>i::dm (i+1) r|false=>dm (i+1) r
def uI (A:List Nat):List Nat->Bool
 |[]=>true
 |e::r=>r.all (λe'=>kD A e e')&&uI A r
def uJ (ops:List Oper) (kinds:List Nat):Bool:=Ig (pQ ops []) ops 0 ops&&uI (pQ ops []) (dm 0 kinds)
def nJ (L:Nat->Bool):List Nat->Nat
 |[]=>0
 |e::r=>match L e with|true=>nJ L r+1|false=>0
def LC (A:List Nat) (j k:Nat):Nat->List Nat->Bool
 |_,[]=>false
 |r,e::es=>(bif Nat.blt r k then kD A j e else kD A e j)||LC A j k (r+1) es
def Gl (j:Nat):List Nat->Nat
 |[]=>0
 |e::es=>bif Nat.blt e j then Gl j es+1 else 0
def BM (A E:List Nat) (m:Nat):Nat->List Nat->List (Nat×Nat)
 |_,[]=>[]
 |j,k::r=>(match Nat.beq k 1 with|true=>((List.range (m+1)).filter λq=> !(LC A j q 0 E)&& !(Nat.beq q (Gl j E))).map λq=>(j,q)|false=>[])++BM A E m (j+1) r
theorem kP {A:List Nat} {j:Nat} {ts:List Tmp} {dj:Option Tmp}:∀{r:List Oper} {n:Nat},nH A j ts dj n r=true->∀i o t,r[i]? =some o->o.dst=some t->n+i≠j->(t∈ts\/dj=some t)->(n+i <j->kD A (n+i) j=true)/\(j <n+i->kD A j (n+i)=true)
 |[],_,_,i,o,t,h,_,_,_=>by simp at h
 |x::r,n,hx,i,o,t,h,hd,cv,ht=>by
  simp only[nH,Bool.and_eq_true]at hx;obtain⟨h1,h2⟩:=hx
  cases i with
  |zero=>
   have XH:x=o:=by simpa using h
   subst XH;rw[hd]at h1;simp only[Nat.add_zero]at cv|-;simp only[beq_false_of_ne cv,cond_false]at h1;have:(ts.contains t||dj==some t)=true:=by
    rcases ht with ht|ht
    .simp[ht]
    .simp[ht]
   rw[this]at h1;simp only[cond_true]at h1;constructor
   .intro ax;rw[Nat.ble_eq_true_of_le (by omega)]at h1;exact h1
   .intro ax;have:Nat.ble n j=false:=by
     cases hb:Nat.ble n j with|false=>rfl|true=>have:=Nat.le_of_ble_eq_true hb;omega
    rw[this]at h1;exact h1
  |succ i=>
   have:=kP h2 i o t (by simpa using h) hd (by omega) ht
   rwa [show n+1+i=n+(i+1) by omega]at this
theorem mF {A:List Nat} {ops:List Oper}:∀{r:List Oper} {n:Nat},Ig A ops n r=true->∀j o,r[j]? =some o->nH A (n+j) (looks ops o) o.dst 0 ops=true/\(∀p∈nG o,p <n+j)/\kD A (n+j) (n+j)=false
 |[],_,_,j,o,h=>by simp at h
 |x::r,n,hx,j,o,h=>by
  simp only[Ig,Bool.and_eq_true]at hx;obtain⟨⟨⟨h1,h2⟩,h4⟩,h3⟩:=hx
  cases j with
  |zero=>
   have XH:x=o:=by simpa using h
   subst XH;refine⟨h1,λp hp=>?_,by simpa using h4⟩;have:=List.all_eq_true.1 h2 p hp;simpa[Nat.blt_eq]using this
  |succ j=>
   have:=mF h3 j o (by simpa using h)
   rwa [show n+1+j=n+(j+1) by omega]at this
theorem lj {A:List Nat}:∀{E:List Nat},uI A E=true->∀(r s e e':Nat),r <s->E[r]? =some e->E[s]? =some e'->kD A e e'=true
 |[],_,r,s,e,e',_,h,_=>by simp at h
 |x::E,hx,r,s,e,e',FF,h,h'=>by
  simp only[uI,Bool.and_eq_true]at hx;obtain⟨h1,h2⟩:=hx
  cases s with
  |zero=>omega
  |succ s=>
   cases r with
   |zero=>
    have hxe:x=e:=by simpa using h
    subst hxe;exact List.all_eq_true.1 h1 e' (List.mem_of_getElem? (by simpa using h'))
   |succ r=>exact lj h2 r s e e' (by omega) (by simpa using h) (by simpa using h')
theorem pR {L:Nat->Bool}:∀(E:List Nat),nJ L E<=E.length/\(∀r e,r <nJ L E->E[r]? =some e->L e=true)/\(∀e,E[nJ L E]? =some e->L e=false)
 |[]=>⟨Nat.le_refl _,λr e h=>by simp[nJ]at h,λe h=>by simp at h⟩
 |x::E=>by
  obtain⟨h1,h2,h3⟩:=pR (L:=L) E;simp only[nJ]
  cases hx:L x with
  |false=>exact⟨by simp,λr e h=>by simp at h,λe h=>by simp at h;rw[<-h];exact hx⟩
  |true=>
   refine⟨by simpa using h1,λr e hr he=>?_,λe he=>h3 e (by simpa using he)⟩
   cases r with
   |zero=>have:x=e:=by simpa using he
          rw[<-this];exact hx
   |succ r=>exact h2 r e (by simpa using hr) (by simpa using he)
theorem qK {ops:List Oper} {L:Nat->Bool} (hL:mZ ops L) {E:List Nat} (hE:uI (pQ ops []) E=true) {r e:Nat} (he:E[r]? =some e):L e=true↔r <nJ L E:=by
 obtain⟨h1,h2,h3⟩:=pR (L:=L) E;constructor
 .intro hl;rcases Nat.lt_or_ge r (nJ L E)with h|h
  .exact h
  .exfalso;have hk:nJ L E <E.length:=by
    have:=(List.getElem?_eq_some_iff.1 he).1
    omega
   have h4:=h3 _ (List.getElem?_eq_getElem hk);rcases Nat.lt_or_ge (nJ L E) r with h5|h5
   .have:=qJ hL (lj hE _ _ _ _ h5 (List.getElem?_eq_getElem hk) he) hl
    rw[h4]at this
    cases this
   .have:r=nJ L E:=by omega
    subst this;rw[List.getElem?_eq_getElem hk]at he;injection he with he
    rw[he,hl]at h4
    cases h4
 .intro h;exact h2 r e h he
theorem xx {ops:List Oper} {L:Nat->Bool} (hL:mZ ops L) {E0:List Nat} (hE:uI (pQ ops []) E0=true) {j:Nat} (hj:L j=false) (hr:∀i,kD (pQ ops []) i j=true->L i=true):
 ∀(E:List Nat) (r:Nat),(∀i,E[i]? =E0[r+i]?)->LC (pQ ops []) j (nJ L E0) r E=false
 |[],_,_=>rfl
 |e::E,r,hs=>by
  have he:E0[r]? =some e:=by have:=hs 0;simpa using this.symm
  have ih:=xx hL hE hj hr E (r+1) λi=>by have:=hs (i+1);rw[show r+1+i=r+(i+1) by omega];simpa using this
  simp only[LC,ih,Bool.or_false]
  cases hb:Nat.blt r (nJ L E0)with
  |true=>
   have ax:r <nJ L E0:=by simpa[Nat.blt_eq]using hb
   have hle:=(qK hL hE he).2 ax
   simp only[cond_true]
   cases ha:kD (pQ ops []) j e with|false=>rfl|true=>have:=qJ hL ha hle;rw[hj]at this;cases this
  |false=>
   have Lv:¬ r <nJ L E0:=λax=>by rw[show Nat.blt r (nJ L E0)=true from Nat.blt_eq▸ax]at hb;cases hb
   simp only[cond_false]
   cases ha:kD (pQ ops []) e j with|false=>rfl|true=>exact absurd ((qK hL hE he).1 (hr e ha)) Lv
section
variable {P:Program} {lt:LT} {ops:List Oper}
def QR (P:Program) (lt:LT) (ops:List Oper) (e:po) (hs:List AH) (c:Nat):Prop:=
 (e.kind=0/\∀h,ag P lt ops e.o e.fr h e.s h)\/(e.kind=1/\∃h,hs[c]? =some h/\ag P lt ops e.o e.fr h e.s h)\/
 (e.kind=2/\∃h h1,hs[c]? =some h/\hs[c+1]? =some h1/\ag P lt ops e.o e.fr h e.s h1)
def iT:Nat->List po->Nat
 |0,_=>0
 |_,[]=>0
 |j+1,e::r=>(bif Nat.beq e.kind 2 then 1 else 0)+iT j r
theorem LD {o:Oper} {fr:ay} {s:Slot} {k j:Nat} {r:List po}:iT (j+1) (⟨o,fr,s,0,k⟩::r)=iT j r:=Nat.zero_add _
theorem LF {o:Oper} {fr:ay} {s:Slot} {k j:Nat} {r:List po}:iT (j+1) (⟨o,fr,s,1,k⟩::r)=iT j r:=Nat.zero_add _
theorem LG {o:Oper} {fr:ay} {s:Slot} {k j:Nat} {r:List po}:iT (j+1) (⟨o,fr,s,2,k⟩::r)=iT j r+1:=Nat.add_comm _ _
theorem Tr.facts {l:List Oper} {fr aB:ay} {h h':AH} {k:Nat} {aD:List po} {hs:List AH} (T:Tr P lt ops l fr h k aD hs aB h'):∀i:Nat,
 aD.map (·.o)=l/\aB=ed (λ_=>true) i aD fr/\(h::hs)[hs.length]? =some h'/\hs.length=iT aD.length aD/\
 ∀j (hj:j <aD.length),aD[j].fr=ed (λx=>decide (x <i+j)) i aD fr/\QR P lt ops aD[j] (h::hs) (iT j aD):=by
 induction T with
 |nil=>intro i;exact⟨O,O,O,O,λj hj=>by simp at hj⟩
 | @free o l fr h k s aD hs aB h' st T ih=>
  intro i;obtain⟨h1,h2,h3,h4,h5⟩:=ih (i+1);refine⟨by simp[h1],by simp only[ed,if_true];exact h2,h3,by rw[List.length_cons,LD];exact h4,λj hj=>?_⟩
  cases j with|zero=>exact⟨(iS (L:=λx=>decide (x <i)) _ _ _ (λj _=>by simp)).symm,.inl ⟨rfl,st⟩⟩|succ j=>obtain⟨k1,k2⟩:=h5 j (by simpa using hj);refine⟨?_,by rw[LD];exact k2⟩;simp only[List.getElem_cons_succ,ed];rw[k1,if_pos (by simp),show i+1+j=i+(j+1) by omega]
 | @read o l fr h k s aD hs aB h' st T ih=>
  intro i;obtain⟨h1,h2,h3,h4,h5⟩:=ih (i+1);refine⟨by simp[h1],by simp only[ed,if_true];exact h2,h3,by rw[List.length_cons,LF];exact h4,λj hj=>?_⟩
  cases j with|zero=>exact⟨(iS (L:=λx=>decide (x <i)) _ _ _ (λj _=>by simp)).symm,.inr (.inl ⟨rfl,h,rfl,st⟩)⟩|succ j=>obtain⟨k1,k2⟩:=h5 j (by simpa using hj);refine⟨?_,by rw[LF];exact k2⟩;simp only[List.getElem_cons_succ,ed];rw[k1,if_pos (by simp),show i+1+j=i+(j+1) by omega]
 | @LA o l fr h k s uu aD hs aB h' st T ih=>
  intro i;obtain⟨h1,h2,h3,h4,h5⟩:=ih (i+1);refine⟨by simp[h1],by simp only[ed,if_true];exact h2,by simpa using h3,by rw[List.length_cons,List.length_cons,LG,h4],λj hj=>?_⟩
  cases j with
  |zero=>exact⟨(iS (L:=λx=>decide (x <i)) _ _ _ (λj _=>by simp)).symm,.inr (.inr ⟨O,h,uu,O,O,st⟩)⟩
  |succ j=>
   obtain⟨k1,k2⟩:=h5 j (by simpa using hj);refine⟨?_,?_⟩
   .simp only[List.getElem_cons_succ,ed];rw[k1,if_pos (by simp),show i+1+j=i+(j+1) by omega]
   .rw[LG];simp only[List.getElem_cons_succ];rcases k2 with k2|⟨q1,q2,q3,q4⟩|⟨q1,q2,q3,q4,q5,q6⟩
    .exact .inl k2
    .exact .inr (.inl ⟨q1,q2,by simpa using q3,q4⟩)
    .exact .inr (.inr ⟨q1,q2,q3,by simpa using q4,by simpa using q5,q6⟩)
theorem xy:∀(aD:List po) (i j:Nat) (hj:j <aD.length),aD[j].kind=2->(dm i (aD.map (·.kind)))[iT j aD]? =some (i+j)
 |[],_,_,hj,_=>by simp at hj
 |e::r,i,j,hj,hk=>by
  cases j with
  |zero=>
   have:e.kind=2:=hk
   simp[dm,iT,this]
  |succ j=>
   have:=xy r (i+1) j (by simpa using hj) hk
   simp only[List.map_cons,dm,iT]
   cases hb:Nat.beq e.kind 2 with|true=>simp only[cond_true];rw[show 1+iT j r=iT j r+1 by omega,List.getElem?_cons_succ,this];congr 1;omega|false=>simp only[cond_false,Nat.zero_add];rw[this];congr 1;omega
theorem xz:∀(aD:List po) (i:Nat),(dm i (aD.map (·.kind))).length=iT aD.length aD
 |[],_=>rfl
 |e::r,i=>by
  have:=xz r (i+1)
  simp only[List.map_cons,dm,iT,List.length_cons]
  cases hb:Nat.beq e.kind 2 with|true=>simp only[List.length_cons,cond_true,this];omega|false=>simp only[cond_false,this];omega
theorem Ih:∀(aD:List po) (i j:Nat),Gl (i+j) (dm i (aD.map (·.kind)))=iT j aD
 |[],i,j=>by cases j<;>rfl
 |e::r,i,j=>by
  cases j with
  |zero=>
   have:∀(r:List po) (q:Nat),i<=q->Gl (i+0) (dm q (r.map (·.kind)))=0:=by
    intro r
    induction r with
    |nil=>intro q _;rfl
    |cons x r ih=>
     intro q hq;simp only[List.map_cons,dm];split
     .simp only[Gl];have:Nat.blt q (i+0)=false:=by
       cases hb:Nat.blt q (i+0)with|false=>rfl|true=>rw[Nat.blt_eq]at hb;omega
      rw[this];rfl
     .exact ih (q+1) (by omega)
   rw[this (e::r) i (Nat.le_refl _)];rfl
  |succ j=>
   have:=Ih r (i+1) j
   simp only[List.map_cons,dm,iT]
   cases hb:Nat.beq e.kind 2 with
   |true=>
    simp only[Gl,cond_true];have jP:Nat.blt i (i+(j+1))=true:=by rw[Nat.blt_eq];omega
    rw[jP,show i+(j+1)=i+1+j by omega,this];simp only[cond_true];omega
   |false=>simp only[cond_false,Nat.zero_add];rw[show i+(j+1)=i+1+j by omega,this]
def mG (P:Program) (lt:LT) (ops:List Oper) (aD:List po) (hs:List AH):List (Nat×Nat)->Prop
 |[]=>True
 |(j,k)::r=>(∀e hk,aD[j]? =some e->hs[k]? =some hk->ag P lt ops e.o e.fr hk e.s hk)/\mG P lt ops aD hs r
theorem mG.get {aD:List po} {hs:List AH} {p:List (Nat×Nat)} (H:mG P lt ops aD hs p) {j k:Nat} (hm:(j,k)∈p):∀e hk,aD[j]? =some e->hs[k]? =some hk->ag P lt ops e.o e.fr hk e.s hk:=by
 induction p with
 |nil=>simp at hm
 |cons x p ih=>
  obtain⟨j',k'⟩:=x;simp only[mG]at H;rcases List.mem_cons.1 hm with hm|hm
  .injection hm with h1 h2
   subst h1 h2;exact H.1
  .exact ih H.2 hm
theorem DP {A E:List Nat} {m:Nat}:∀{kinds:List Nat} {n j k:Nat},kinds[j]? =some 1->k<=m->LC A (n+j) k 0 E=false->k≠Gl (n+j) E->(n+j,k)∈BM A E m n kinds
 |[],_,_,_,h,_,_,_=>by simp at h
 |x::r,n,j,k,h,h1,h2,h3=>by
  simp only[BM]
  cases j with
  |zero=>
   have hx:x=1:=by simpa using h
   subst hx;refine List.mem_append.2 (.inl ?_);simp only[show Nat.beq 1 1=true from O,Nat.add_zero]at h2 h3|-;refine List.mem_map.2 ⟨k,List.mem_filter.2 ⟨List.mem_range.2 (by omega),?_⟩,O⟩;simp only[h2,beq_false_of_ne h3];rfl
  |succ j=>
   refine List.mem_append.2 (.inr ?_);have:=DP (A:=A) (E:=E) (m:=m) (kinds:=r) (n:=n+1) (j:=j) (k:=k) (by simpa using h) h1 (by rwa [show n+1+j=n+(j+1) by omega]) (by rwa [show n+1+j=n+(j+1) by omega])
   rwa [show n+1+j=n+(j+1) by omega]at this
theorem filter_lt {l:List Nat} {p q:Nat->Bool} {i:Nat} (h:∀x,q x=true->p x=true) (hi:i∈l) (hp:p i=true) (hq:q i=false):(l.filter q).length <(l.filter p).length:=by
 have le:∀l:List Nat,(l.filter q).length<=(l.filter p).length:=by
  intro l
  induction l with
  |nil=>simp
  |cons x l ih=>
   simp only[List.filter_cons]
   cases XI:q x with|true=>simp[h x XI,ih]|false=>cases p x<;>simp<;>omega
 induction l with
 |nil=>simp at hi
 |cons x l ih=>
  simp only[List.filter_cons];rcases List.mem_cons.1 hi with rfl|hi
  .have:=le l
   simp[hp,hq];omega
  .have:=ih hi
   cases XI:q x with|true=>simp[h x XI,this]|false=>cases p x<;>simp<;>omega
theorem Au {fr aB:ay} {h h':AH} {aD:List po} {hs:List AH} (T:Tr P lt ops ops fr h 0 aD hs aB h') {kinds:List Nat} (hk:aD.map (·.kind)=kinds) (ok:uJ ops kinds=true)
 (pd:mG P lt ops aD (h::hs) (BM (pQ ops []) (dm 0 kinds) (dm 0 kinds).length 0 kinds)) {g0:Gh} {w0:World} {Q:Exit->Act->World->Prop} (hQ:∀a w,AS lt h' aB g0 w0 a w->Q .normal a w):
 ∀(fuel:Nat) (listed:Array Bool) (a:Act) (w:World) (vp:AH),listed.size=ops.length->mZ ops (λi=>listed.getD i false)->(h::hs)[nJ (λi=>listed.getD i false) (dm 0 kinds)]? =some vp->AS lt vp (ed (λi=>listed.getD i false) 0 aD fr) g0 w0 a w->((List.range ops.length).filter λi=> !(listed.getD i false)).length<=fuel->wpAny P .any ops.toArray Q fuel listed a w:=by
 obtain⟨f1,f2,f3,f4,f5⟩:=T.facts 0;have hlen:aD.length=ops.length:=by rw[<-f1];simp
 subst hk;generalize hA:pQ ops []=A at*;generalize hE:dm 0 (aD.map (·.kind))=E at*;simp only[uJ,hA,hE,Bool.and_eq_true]at ok;obtain⟨U4,On⟩:=ok;have hEl:E.length=hs.length:=by rw[<-hE,xz,f4]
 have U5:∀j o,ops[j]? =some o->∃hj:j <aD.length,aD[j].o=o:=by
  intro j o ho;have hj:j <ops.length:=(List.getElem?_eq_some_iff.1 ho).1;refine⟨by omega,?_⟩;have:(aD.map (·.o))[j]? =some o:=by rw[f1];exact ho
  rw[List.getElem?_map,List.getElem?_eq_getElem (by omega)]at this;simpa using this
 have done:∀(listed:Array Bool) (a:Act) (w:World) (vp:AH),listed.size=ops.length->mZ ops (λi=>listed.getD i false)->(h::hs)[nJ (λi=>listed.getD i false) E]? =some vp->AS lt vp (ed (λi=>listed.getD i false) 0 aD fr) g0 w0 a w->
  (∀i,i <ops.length->listed.getD i false=true)->Q .normal a w:=by
  intro listed a w vp gJ hC Av S DO;have e1:ed (λi=>listed.getD i false) 0 aD fr=aB:=by
   rw[f2];have:∀(r:List po) (i:Nat) (x:ay),(∀j,j <r.length->listed.getD (i+j) false=true)->ed (λi=>listed.getD i false) i r x=ed (λ_=>true) i r x:=by
    intro r
    induction r with|nil=>intro i x _;rfl|cons e r ih=>intro i x hx;have h0:=hx 0 (by simp);simp only[Nat.add_zero]at h0;simp only[ed,h0,if_true];exact ih (i+1) _ λj hj=>by have:=hx (j+1) (by simpa using hj);rwa [show i+(j+1)=i+1+j by omega]at this
   exact this aD 0 fr λj hj=>by rw[Nat.zero_add];exact DO j (by omega)
  have e2:nJ (λi=>listed.getD i false) E=hs.length:=by
   obtain⟨k1,_,k3⟩:=pR (L:=λi=>listed.getD i false) E;rcases Nat.lt_or_ge (nJ (λi=>listed.getD i false) E) E.length with ax|fH
   .have:=k3 _ (List.getElem?_eq_getElem ax)
    have hm:E[nJ (λi=>listed.getD i false) E] <ops.length:=by
     have hsm:∀(r:List Nat) (i:Nat),∀x∈dm i r,x <i+r.length:=by
      intro r
      induction r with
      |nil=>intro i x hx;simp[dm]at hx
      |cons y r ih=>
       intro i x hx;simp only[dm]at hx;split at hx
       .rcases List.mem_cons.1 hx with rfl|hx
        .simp
        .have:=ih (i+1) x hx
         simp;omega
       .have:=ih (i+1) x hx
        simp;omega
     have U6:∀x∈E,x <ops.length:=λx hx=>by rw[<-hE]at hx;have:=hsm _ 0 _ hx;simp at this;omega
     exact U6 _ (List.getElem_mem _)
    rw[DO _ hm]at this
    cases this
   .omega
  rw[e2,f3]at Av;injection Av with Av
  subst Av;rw[e1]at S;exact hQ a w S
 have least:∀(listed:Array Bool),listed.size=ops.length->Region.ready .any ops.toArray listed=[]->∀i,i <ops.length->listed.getD i false=true:=by
  intro listed gJ hr i
  induction i using Nat.strongRecOn with
  |_ i ih=>
   intro hi
   cases LH:listed.getD i false with
   |true=>rfl
   |false=>
    exfalso;have:i∈Region.ready .any ops.toArray listed:=by
     rw[mem_ready];refine⟨?_,ops[i],by simp[hi],λe he hb=>?_⟩
     .rw[Array.getD_eq_getD_getElem?]at LH|-;rw[Array.getElem?_eq_getElem (by omega)]at LH|-;exact LH
     .have hp:e.on∈nG ops[i]:=List.mem_map.2 ⟨e,List.mem_filter.2 ⟨Array.mem_toList_iff.2 he,hb⟩,O⟩
      have ax:=(mF U4 i ops[i] (List.getElem?_eq_getElem hi)).2.1 _ hp
      exact ih e.on (by omega) (by omega)
    rw[hr]at this
    cases this
 intro fuel
 induction fuel with
 |zero=>
  intro listed a w vp gJ hC Av S hf;have DO:∀i,i <ops.length->listed.getD i false=true:=by
   intro i hi
   cases LH:listed.getD i false with
   |true=>rfl
   |false=>
    have:i∈(List.range ops.length).filter λi=> !(listed.getD i false):=List.mem_filter.2 ⟨List.mem_range.2 hi,by rw[LH];rfl⟩
    have:=List.length_pos_of_mem this
    omega
  refine⟨?_,done listed a w vp gJ hC Av S DO⟩
  cases hr:Region.ready .any ops.toArray listed with
  |nil=>rfl
  |cons i r=>
   have:i∈Region.ready .any ops.toArray listed:=by rw[hr];simp
   rw[mem_ready]at this;obtain⟨h1,o,ho,_⟩:=this;have hi:i <ops.length:=by simpa using(Array.getElem?_eq_some_iff.1 ho).1
   have:=DO i hi;rw[Array.getD_eq_getD_getElem?,Array.getElem?_eq_getElem (by omega)]at this h1;simp only[Option.getD_some]at this h1;rw[this]at h1
   cases h1
 |succ fuel ih=>
  intro listed a w vp gJ hC Av S hf;refine⟨λhr=>done listed a w vp gJ hC Av S (least listed gJ hr),λj hj=>?_⟩;rw[mem_ready]at hj;obtain⟨QO,o,ho,hp⟩:=hj;have FQ:ops[j]? =some o:=by simpa using ho
  have Ud:j <ops.length:=(List.getElem?_eq_some_iff.1 FQ).1;obtain⟨QQ,RJ⟩:=U5 j o FQ;have OV:listed.getD j false=false:=by rw[Array.getD_eq_getD_getElem?,Array.getElem?_eq_getElem (by omega)]at QO|-;exact QO
  have RK:∀i,kD A i j=true->listed.getD i false=true:=by
   intro i hi;have XJ:mZ ops (λx=>listed.getD x false||Nat.beq x j):=by
    intro q o' hq hl p QS
    by_cases QT:q=j
    .subst QT;rw[FQ]at hq;injection hq with hq
     subst hq;obtain⟨e,he,rfl⟩:=List.mem_map.1 QS;obtain⟨KP,Ii⟩:=List.mem_filter.1 he;have:=hp e (Array.mem_toList_iff.1 KP) Ii;simp only[this,Bool.true_or]
    .have uB:listed.getD q false=true:=by simpa[QT]using hl
     have:=hC q o' hq uB p QS
     simp only[this,Bool.true_or]
   have:=qJ XJ (hA▸hi) (by simp);simp only[Bool.or_eq_true]at this;rcases this with this|this
   .exact this
   .have OU:i=j:=by simpa using this
    subst OU;have:=(mF U4 i o FQ).2.2;rw[Nat.zero_add,hi]at this
    cases this
  have OW:(listed.setIfInBounds j true).getD j false=true:=by simp[Array.getD_eq_getD_getElem?,Array.getElem?_setIfInBounds,show j <listed.size by omega]
  have U7:∀x,x≠j->(listed.setIfInBounds j true).getD x false=listed.getD x false:=λx hx=>getD_set_ne false (Ne.symm hx)
  have RL:mZ ops (λx=>(listed.setIfInBounds j true).getD x false):=by
   intro q o' hq hl p QS;show(listed.setIfInBounds j true).getD p false=true
   by_cases QT:q=j
   .subst QT;rw[FQ]at hq;injection hq with hq
    subst hq;obtain⟨e,he,rfl⟩:=List.mem_map.1 QS;obtain⟨KP,Ii⟩:=List.mem_filter.1 he;exact getD_set_true (hp e (Array.mem_toList_iff.1 KP) Ii)
   .have hl:(listed.setIfInBounds j true).getD q false=true:=hl
    rw[U7 q QT]at hl;exact getD_set_true (hC q o' hq hl p QS)
  obtain⟨w1,_,w3⟩:=mF U4 j o FQ;rw[Nat.zero_add]at w1 w3;have later:∀i,kD A j i=true->listed.getD i false=false:=by
   intro i hi
   cases LH:listed.getD i false with
   |false=>rfl
   |true=>
    have:=qJ hC (hA▸hi) LH
    rw[OV]at this
    cases this
  have QU:∀i (hi:i <aD.length),∃o',ops[i]? =some o'/\aD[i].o=o':=by
   intro i hi;have:(aD.map (·.o))[i]? =some aD[i].o:=by rw[List.getElem?_map,List.getElem?_eq_getElem hi];rfl
   rw[f1]at this;exact⟨_,this,O⟩
  obtain⟨v1,v2⟩:=f5 j QQ;rw[Nat.zero_add]at v1;obtain⟨n1,n2⟩:=wK (λi=>listed.getD i false) aD 0 fr;obtain⟨n3,n4⟩:=wK (λx=>decide (x <j)) aD 0 fr;have agree:∀t∈looks ops o,(ed (λi=>listed.getD i false) 0 aD fr).f t=aD[j].fr.f t:=by
   intro t ht;rw[v1];refine mE aD 0 fr fr O λi hi hd=>?_;obtain⟨o',vZ,iX⟩:=QU i hi;rw[iX]at hd;simp only[Nat.zero_add]
   by_cases OU:i=j
   .subst OU;rw[OV];simp
   .have:=kP w1 i o' t vZ hd (by omega) (.inl ht)
    rw[Nat.zero_add]at this;rcases Nat.lt_or_ge i j with ax|fH
    .rw[RK i (this.1 ax)];simp[ax]
    .rw[later i (this.2 (by omega))];simp;omega
  have RM:ed (λi=>(listed.setIfInBounds j true).getD i false) 0 aD fr=(ed (λi=>listed.getD i false) 0 aD fr).put o.dst aD[j].s:=by
   obtain⟨m1,m2⟩:=wK (λi=>(listed.setIfInBounds j true).getD i false) aD 0 fr;have hf:=Ar (L:=λi=>listed.getD i false) (M:=λi=>(listed.setIfInBounds j true).getD i false) (n:=j) aD 0 fr QQ (by simpa using OV) (by rw[Nat.zero_add];exact OW) (λi hi cv=>by rw[Nat.zero_add];exact U7 i cv) (λi hi ax hd cv=>by
    rw[Nat.zero_add];obtain⟨o',vZ,iX⟩:=QU i hi;rw[iX,RJ]at hd;rw[RJ]at cv
    cases XK:o.dst with
    |none=>exact absurd XK cv
    |some t=>
     have:=kP w1 i o' t vZ (by rw[hd,XK]) (by omega) (.inr XK)
     rw[Nat.zero_add]at this;exact later i (this.2 ax))
   rw[RJ]at hf;have ext:∀x y:ay,x.n=y.n->x.loc=y.loc->x.df=y.df->(∀t,x.f t=y.f t)->x=y:=by
    intro x y h1 h2 h4 h3;obtain⟨a1,a2,a3,a4⟩:=x;obtain⟨b1,b2,b3,b4⟩:=y;simp only at h1 h2 h3 h4;subst h1 h2 h4
    congr 1
    exact funext h3
   exact ext _ _ (by rw[m1,QP,n1]) (by rw[m2,Ie,n2]) (by rw[xv,LB,xv]) hf
  have less:((List.range ops.length).filter λi=> !((listed.setIfInBounds j true).getD i false)).length<=fuel:=by
   have:=filter_lt (l:=List.range ops.length) (p:=λi=> !(listed.getD i false)) (q:=λi=> !((listed.setIfInBounds j true).getD i false)) (i:=j) (λx hx=>by
    by_cases hxj:x=j
    .subst hxj;rw[OW]at hx
     cases hx
    .rw[U7 x hxj]at hx;exact hx) (List.mem_range.2 Ud) (by rw[OV];rfl) (by rw[OW];rfl)
   omega
  have XL:∀e∈E,∃q,e=q/\(aD.map (·.kind))[q]? =some 2:=by
   have:∀(r:List Nat) (i:Nat),∀x∈dm i r,∃q,x=i+q/\r[q]? =some 2:=by
    intro r
    induction r with
    |nil=>intro i x hx;simp[dm]at hx
    |cons y r ih=>
     intro i x hx;simp only[dm]at hx;split at hx
     .rename_i hb;rcases List.mem_cons.1 hx with rfl|hx
      .exact⟨0,O,by simpa using Nat.eq_of_beq_eq_true hb⟩
      .obtain⟨q,h1,h2⟩:=ih (i+1) x hx;exact⟨q+1,by omega,by simpa using h2⟩
     .obtain⟨q,h1,h2⟩:=ih (i+1) x hx;exact⟨q+1,by omega,by simpa using h2⟩
   intro e he;rw[<-hE]at he;obtain⟨q,h1,h2⟩:=this _ 0 e he;exact⟨q,by omega,h2⟩
  have same:aD[j].kind≠2->nJ (λi=>(listed.setIfInBounds j true).getD i false) E=nJ (λi=>listed.getD i false) E:=by
   intro cv;have:∀(r:List Nat),(∀e∈r,e≠j)->nJ (λi=>(listed.setIfInBounds j true).getD i false) r=nJ (λi=>listed.getD i false) r:=by
    intro r
    induction r with|nil=>intro _;rfl|cons e r ih=>intro hr;simp only[nJ,U7 e (hr e (by simp)),ih λx hx=>hr x (by simp[hx])]
   refine this E λe he hej=>?_;obtain⟨q,h1,h2⟩:=XL e he;subst h1;rw[hej,List.getElem?_map,List.getElem?_eq_getElem QQ]at h2;exact cv (by simpa using h2)
  have go:∀(h1:AH),ag P lt ops o aD[j].fr vp aD[j].s h1->(h::hs)[nJ (λi=>(listed.setIfInBounds j true).getD i false) E]? =some h1->wpOp P ops.toArray Q j (wpAny P .any ops.toArray Q fuel (listed.setIfInBounds j true)) a w:=by
   intro h1 st Ok;have:=st (ed (λi=>listed.getD i false) 0 aD fr) (by rw[n1,v1,n3]) (by rw[n2,v1,n4]) agree g0 w0 a w Q (wpAny P .any ops.toArray Q fuel (listed.setIfInBounds j true)) S λa' w' S'=>by rw[<-RM]at S';exact ih (listed.setIfInBounds j true) a' w' h1 (by simpa using gJ) RL Ok S' less
   unfold wpOp;simp only[ho];split
   .rename_i hw;rw[if_pos hw]at this;exact .inl this
   .rename_i hw;rw[if_neg hw]at this;exact this
  unfold QR at v2;have U8:(aD.map (·.kind))[j]? =some aD[j].kind:=by rw[List.getElem?_map,List.getElem?_eq_getElem QQ];rfl
  rcases v2 with⟨k1,k2⟩|⟨k1,jh,k2,k3⟩|⟨k1,h2,h3,k2,k3,k4⟩
  .rw[RJ]at k2;exact go vp (k2 vp) (by rw[same (by omega)];exact Av)
  .rw[RJ]at k3
   by_cases hq:nJ (λi=>listed.getD i false) E=iT j aD
   .rw[hq,k2]at Av;injection Av with Av
    subst Av;exact go jh k3 (by rw[same (by omega),hq];exact k2)
   .have hm:(0+j,nJ (λi=>listed.getD i false) E)∈BM A E E.length 0 (aD.map (·.kind)):=by
     refine DP (by rw[U8,k1]) (pR (L:=λi=>listed.getD i false) E).1 ?_ ?_
     .rw[Nat.zero_add,<-hA];exact xx hC (hA▸On) OV (λi hi=>RK i (hA▸hi)) E 0 λi=>by rw[Nat.zero_add]
     .have:=Ih aD 0 j
      rw[hE]at this;rw[this];exact hq
    rw[Nat.zero_add]at hm;have:=pd.get hm aD[j] vp (List.getElem?_eq_getElem QQ) Av;rw[RJ]at this;exact go vp this (by rw[same (by omega)];exact Av)
  .rw[RJ]at k4;have hr:E[iT j aD]? =some j:=by
    have:=xy aD 0 j QQ k1
    rw[hE,Nat.zero_add]at this;exact this
   have i1:=qK hC (hA▸On) hr;have i2:=qK RL (hA▸On) hr;have fH:nJ (λi=>listed.getD i false) E<=iT j aD:=by
    rcases Nat.lt_or_ge (iT j aD) (nJ (λi=>listed.getD i false) E)with ax|fH
    .have:=i1.2 ax
     rw[OV]at this
     cases this
    .exact fH
   have hle:iT j aD<=nJ (λi=>listed.getD i false) E:=by
    rcases Nat.lt_or_ge (nJ (λi=>listed.getD i false) E) (iT j aD)with ax|fH
    .exfalso;have hb:nJ (λi=>listed.getD i false) E <E.length:=by
      have:=(List.getElem?_eq_some_iff.1 hr).1
      omega
     have he:=List.getElem?_eq_getElem hb;have:=(qK hC (hA▸On) he).1 (RK _ (lj On _ _ _ _ ax he hr));omega
    .exact fH
   have heq:nJ (λi=>listed.getD i false) E=iT j aD:=by omega
   have OK:iT j aD <nJ (λi=>(listed.setIfInBounds j true).getD i false) E:=i2.1 OW;have aag:nJ (λi=>(listed.setIfInBounds j true).getD i false) E<=iT j aD+1:=by
    rcases Nat.lt_or_ge (iT j aD+1) (nJ (λi=>(listed.setIfInBounds j true).getD i false) E)with ax|fH
    .exfalso;have hb:iT j aD+1 <E.length:=by
      have:=(pR (L:=λi=>(listed.setIfInBounds j true).getD i false) E).1
      omega
     have he:=List.getElem?_eq_getElem hb;have h5:=(qK RL (hA▸On) he).2 ax;have h6:=lj On _ _ _ _ (Nat.lt_succ_self _) hr he;have h7:E[iT j aD+1]≠j:=λe=>by rw[e,w3]at h6;cases h6
     rw[U7 _ h7,later _ h6]at h5
     cases h5
    .exact fH
   rw[heq,k2]at Av;injection Av with Av
   subst Av;exact go h3 k4 (by rw[show nJ (λi=>(listed.setIfInBounds j true).getD i false) E=iT j aD+1 by omega];exact k3)
def AD (P:Program) (lt:LT) (ops l:List Oper) (fr:ay) (h:AH) (k:Nat) (K:List po->List AH->ay->AH->Prop):Prop:=∃aD hs aB h',K aD hs aB h'/\Tr P lt ops l fr h k aD hs aB h'
def XM (P:Program) (lt:LT) (ops:List Oper) (h:AH) (C:Exit->ay->AH->Prop) (aD:List po) (hs:List AH) (aB:ay) (h':AH):Prop:=∃kinds p,aD.map (·.kind)=kinds/\uJ ops kinds=true/\BM (pQ ops []) (dm 0 kinds) (dm 0 kinds).length 0 kinds=p/\mG P lt ops aD (h::hs) p/\C .normal aB h'
theorem AC.drawn {id:Nat} {fr:ay} {h:AH} {C:Exit->ay->AH->Prop} (hm:P.follows .mixedOrders=true) (H:AD P lt ops ops fr h 0 (XM P lt ops h C)):AC P lt (.region id ops.toArray true) fr h C:=by
 obtain⟨aD,hs,aB,h',⟨kinds,p,hk,ok,hp,pd,k⟩,T⟩:=H;subst hp;refine⟨.normal,aB,h',k,λg0 w0 a w S=>wp_region_any hm ?_⟩;obtain⟨f1,f2,f3,f4,f5⟩:=T.facts 0;obtain⟨g,lb,E,R,F⟩:=S;have xA:∀i,(Array.replicate ops.toArray.size false).getD i false=false:=λi=>by rw[Array.getD_eq_getD_getElem?,Array.getElem?_replicate];split<;>rfl
 have hL:(λi=>(Array.replicate ops.toArray.size false).getD i false)=λ_=>false:=funext xA
 have E1:Ev g w g {w with drawn:=w.drawn+1}:=⟨⟨O,O,O,Nat.le_refl _,λ_ _ e=>e,λ_ _ e=> .inl ⟨_,e⟩,λ_ _ e=>e,λ_ _ e=> .inl e,λ_ _ _ e=>e,λa e=>⟨e,O⟩,Nat.le_refl _,λ_ _=>Nat.le_refl _,λl hl _=>⟨O,O⟩,λb c T fz e=>⟨c,e,O⟩,λ_ _ e=>e,λ_ _ e=> .inl e⟩,λb hb _ _ _=>⟨O,O⟩⟩;have R1:Rel g {w with drawn:=w.drawn+1} h:=by refine⟨R.uC,R.Bm,R.Ag,λo x e=>?_,R.KN,R.nt,R.cur,R.FT,R.Dh,R.HN,R.ext,R.FC,R.iH E1.toEvc O⟩;obtain⟨b,hb,ho⟩:=R.obj o x e;exact⟨b,hb,ho.mono E1.toEvc O λ_ _=>rfl⟩
 refine Au T hk ok pd (g0:=g0) (w0:=w0) (λa' w' S'=>⟨O,S'⟩) _ _ a _ h (by simp) ?_ ?_ ?_ ?_
 .intro j o _ hl;rw[hL]at hl
  cases hl
 .rw[hL];have:∀r:List Nat,nJ (λ_=>false) r=0:=λr=>by cases r<;>rfl
  rw[this];rfl
 .rw[hL,iS _ _ _ (λ_ _=>rfl)];exact⟨g,lb,E.trans E1,R1,F.mono E1⟩
 .exact Nat.le_trans (List.length_filter_le _ _) (by simp)
end
end Go.Am
