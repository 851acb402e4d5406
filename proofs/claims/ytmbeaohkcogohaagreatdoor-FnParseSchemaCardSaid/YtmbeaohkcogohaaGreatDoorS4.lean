import Derived.Test.YtmbeaohkcogohaaGreatDoorS3
set_option maxRecDepth 100000
set_option maxHeartbeats 4000000
set_option linter.unusedVariables false
set_option linter.unusedSimpArgs false
namespace Go.Am
open Go.Proofs Go.Proofs.Tryz
section
attribute [local irreducible] AC AL AW AD aP
section
attribute [local irreducible] aU cK bE aQ
section
variable {L:ak->Nat->Option (Int×ak×Nat)} {s:ak} {K:PK} {o o':Option (List Tok)} {d p B:Nat} {h h0 h1 hb:AH} {ids:List Nat} {V:View} {l:List Tok} {b c:Bool} {k:Nat}
def SL (hb h:AH) (x:AV) (es:List (List AV)) (lo:Option Nat):Prop:=(lo=none/\x= .ao/\es=[])\/∃aw v,lo=some aw/\x= .vec (.own aw v) 1 es/\hb.nt<=aw/\px h aw v
structure zk (hb h:AH) (xs:Nat->AV) (es:Nat->List (List AV)) (lo:Nat->Option Nat):Prop where
 sl:∀i,i <6->SL hb h (xs i) (es i) (lo i)
 ne:∀i j a,i <6->j <6->lo i=some a->lo j=some a->i=j
theorem SL.kp {x:AV} {es:List (List AV)} {lo:Option Nat} (g:SL hb h x es lo) (k:Kp ids h h1):SL hb h1 x es lo:=g.imp id λ⟨aw,v,e1,e2,e3,e4⟩=>⟨aw,v,e1,e2,e3,e4.kp k⟩
theorem zk.kp {xs:Nat->AV} {es:Nat->List (List AV)} {lo:Nat->Option Nat} (g:zk hb h xs es lo) (k:Kp ids h h1):zk hb h1 xs es lo:=⟨λi hi=>(g.sl i hi).kp k,g.ne⟩
theorem zk.eq {xs:Nat->AV} {es:Nat->List (List AV)} {lo:Nat->Option Nat} (g:zk hb h xs es lo) (e1:h1.nt=h.nt) (e2:h1.bV=h.bV):zk hb h1 xs es lo:=⟨λi hi=>(g.sl i hi).imp id λ⟨aw,v,q1,q2,q3,q4⟩=>⟨aw,v,q1,q2,q3,q4.eq e1 e2⟩,g.ne⟩
instance {h h':AH} {hb:AH} {xs:Nat->AV} {es:Nat->List (List AV)} {lo:Nat->Option Nat}:Nx h h' (zk hb h xs es lo) (zk hb h' xs es lo):=⟨λg=>g.eq⟩
instance {h h':AH} {hb:AH} {xs:Nat->AV} {es:Nat->List (List AV)} {lo:Nat->Option Nat}:Nx h h' (zk hb h xs es lo) (zk hb h' xs es lo):=⟨λg=>g.eq⟩
def aA {α:Type} (f:Nat->α) (k:Nat) (y:α):Nat->α:=λi=>if i=k then y else f i
theorem Cq {α:Type} (f:Nat->α) (k:Nat) (y:α):aA f k y k=y:=if_pos O
theorem uX {α:Type} (f:Nat->α) {k i:Nat} (y:α) (h:i≠k):aA f k y i=f i:=if_neg h
section
variable {P:Program} {lt:LT} {h hb:AH} {fr:ay} {ops l:List Oper} {o:Oper}
theorem PA {s x:Operand} {t:TypeId} {gl k:Nat} {y:AV} {ys:List (List AV)} {xs:Nat->AV} {es:Nat->List (List AV)} {lo:Nat->Option Nat} (hk:k <6) (S:zk hb h xs es lo) (wC:hb.nt<=h.nt) (ha:cD o.op=some (s,x,t)) (hw:au ops fr o.guard=some true) (hi:cC P t=some (1,gl))
 (kN:fr.ev s= .v (xs k)) (ex:fr.ev x= .v y) (hy:aY 1 y=some ys) (cv:ys≠[]) (dK:((es k).length+ys.length)*(gl+1)<=140737488355328):
 ∃aw v h' G4,ag P lt ops o fr h (.v (.vec (.own aw v) 1 (es k++ys))) h'/\h'.n=h.n/\h'.get=h.get/\h'.aV=h.aV/\h.nt<=h'.nt/\(∀l,l <hb.nt->h'.bV l=h.bV l)/\zk hb h' (aA xs k (.vec (.own aw v) 1 (es k++ys))) (aA es k (es k++ys)) G4:=by
 rcases S.sl k hk with⟨q0,q1,q2⟩|⟨aw,v,q0,q1,q2,q3⟩
 .rw[q1]at kN;refine⟨h.nt,0,h.cu,aA lo k (some h.nt),?_,O,O,O,Nat.le_succ _,λl hl=>?_,λi hi=>?_,λi j a hi hj e1 e2=>?_⟩
  .rw[q2];exact ag.app (es:=[]) ha hw hi kN ex (.inl ⟨O,O,O,O,O⟩) hy cv (by rw[q2]at dK;exact dK)
  .simp only[AH.cu];rw[beq_false_of_ne (by omega)]
  .by_cases Gb:i=k
   .subst Gb;simp only[Cq];exact .inr ⟨h.nt,0,O,O,wC,Nat.lt_succ_self _,by simp only[AH.cu];rw[cU]⟩
   .simp only[uX _ _ Gb];refine(S.sl i hi).imp id λ⟨aw,v,e1,e2,e3,e4⟩=>⟨aw,v,e1,e2,e3,Nat.lt_succ_of_lt e4.1,?_⟩;simp only[AH.cu];rw[beq_false_of_ne (by have:=e4.1;omega)];exact e4.2
  .have jL:∀i,i <6->lo i=some h.nt->False:=λi hi e=>by
    rcases S.sl i hi with⟨w,_⟩|⟨aw,v,w,_,_,w2⟩
    .rw[w]at e
     cases e
    .rw[w]at e;injection e with e
     subst e;have:=w2.1;omega
   by_cases Gb:i=k<;>by_cases Xh:j=k
   .rw[Gb,Xh]
   .subst Gb;rw[Cq]at e1;rw[uX _ _ Xh]at e2;injection e1 with e1
    subst e1;exact(jL j hj e2).elim
   .subst Xh;rw[Cq]at e2;rw[uX _ _ Gb]at e1;injection e2 with e2
    subst e2;exact(jL i hi e1).elim
   .rw[uX _ _ Gb]at e1;rw[uX _ _ Xh]at e2;exact S.ne i j a hi hj e1 e2
 .rw[q1]at kN;refine⟨aw,v+1,h.bump aw,lo,ag.app ha hw hi kN ex (.inr (.inr ⟨v,.inl O,q3.2,O,O⟩)) hy cv dK,O,O,O,Nat.le_refl _,λl hl=>?_,λi hi=>?_,S.ne⟩
  .simp only[AH.bump];rw[beq_false_of_ne (by omega)]
  .by_cases Gb:i=k
   .subst Gb;simp only[Cq];exact .inr ⟨aw,v+1,q0,O,q2,q3.1,by simp only[AH.bump];rw[cU,q3.2]⟩
   .simp only[uX _ _ Gb];refine(S.sl i hi).imp id λ⟨JU,v2,e1,e2,e3,e4⟩=>⟨JU,v2,e1,e2,e3,e4.1,?_⟩;have hl:JU≠aw:=λe=>Gb (S.ne i k aw hi hk (e▸e1) q0)
    simp only[AH.bump];rw[beq_false_of_ne hl];exact e4.2
theorem AD.zS {s x:Operand} {t:TypeId} {gl kk:Nat} {y:AV} {ys:List (List AV)} {xs:Nat->AV} {es:Nat->List (List AV)} {lo:Nat->Option Nat} {K:List po->List AH->ay->AH->Prop} {d:Tmp} (k:Nat) (hk:k <6) (S:zk hb h xs es lo) (wC:hb.nt<=h.nt) (ha:cD o.op=some (s,x,t)) (hw:au ops fr o.guard=some true) (hi:cC P t=some (1,gl))
 (kN:fr.ev s= .v (xs k)) (ex:fr.ev x= .v y) (hy:aY 1 y=some ys) (cv:ys≠[]) (hd:o.dst=some d) (dK:((es k).length+ys.length)*(gl+1)<=140737488355328)
 (T:∀aw v h' G4,h'.n=h.n->h'.get=h.get->h'.aV=h.aV->h.nt<=h'.nt->(∀l,l <hb.nt->h'.bV l=h.bV l)->zk hb h' (aA xs k (.vec (.own aw v) 1 (es k++ys))) (aA es k (es k++ys)) G4->AD P lt ops l (fr.bf d (.v (.vec (.own aw v) 1 (es k++ys)))) h' (kk+1) λaD hs aB h2=>K (⟨o,fr,.v (.vec (.own aw v) 1 (es k++ys)),2,kk⟩::aD) (h'::hs) aB h2):AD P lt ops (o::l) fr h kk K:=by
 obtain⟨aw,v,h',G4,st,k1,k2,k3,k4,k5,k6⟩:=PA (lt:=lt) hk S wC ha hw hi kN ex hy cv dK;exact AD.LA st hd (T aw v h' G4 k1 k2 k3 k4 k5 k6)
end
abbrev nU (xs:Nat->AV) (q1 q2:AV):List AV:=[xs 0,xs 1,xs 2,xs 3,xs 4,xs 5,q1,q2]
theorem IB {D:Nat} {cs dH dc VO:List AV} {h2 h3:AH} (H:HI hb ids h ((p,cs)::(D,dc)::V)) (kp:Kp [p] h h2) (YO:h2.get p=some (.cells dH)) (e1:h3.n=h2.n) (e2:h3.get=h2.get) (e3:h3.aV=h2.aV) (e4:h2.nt<=h3.nt) (e5:∀l,l <hb.nt->h3.bV l=h2.bV l):
 HI hb ids (h3.set D (.cells VO)) ((p,dH)::(D,VO)::V):=by
 have KQ:=H.hv.nodup
 have n1:=kp.n
 have hpD:D≠p:=H.hv.1.2.2 (D,dc) (by simp)
 have hD:=H.jM
 have hp:=H.at_
 have wC:=kp.nt
 have aaq:=H.kp.nt
 refine⟨HV.of (λe he=>?_) KQ,⟨?_,λi hi F4=>?_,?_,λl hl=>?_,?_⟩,λe he=>?_⟩
 .rcases List.mem_cons.1 he with rfl|he
  .refine⟨?_,by show p <h3.n;omega⟩;simp only[AH.set];rw[if_neg (Ne.symm hpD),e2];exact YO
  rcases List.mem_cons.1 he with rfl|he
  .exact⟨by simp[AH.set],by show D <h3.n;omega⟩
  .obtain⟨q1,q2⟩:=H.hv.2.2.get he;have d1:=H.hv.1.2.2 e (List.mem_cons_of_mem _ he);have d2:=H.hv.2.1.2.2 e he;refine⟨?_,by show e.1 <h3.n;omega⟩;simp only[AH.set];rw[if_neg d2,e2];exact(kp.get _ q2 (by simpa using d1)).trans q1
 .show hb.n<=h3.n;have:=H.kp.n;omega
 .have c1:=H.new (p,cs) (by simp)
  have c2:=H.new (D,dc) (by simp)
  simp only at c1 c2;have:=H.kp.n;simp only[AH.set];rw[if_neg (by rintro rfl;rcases c2 with c2|c2;exact F4 c2;omega),e2];exact(kp.get i (by omega) (by rintro q;rw[List.mem_singleton]at q;subst q;rcases c1 with c1|c1;exact F4 c1;omega)).trans (H.kp.get i hi F4)
 .show hb.nt<=h3.nt;omega
 .show h3.bV l=hb.bV l
  rw[e5 l hl,kp.bV l (by omega)];exact H.kp.bV l hl
 .show h3.aV=hb.aV;rw[e3,kp.aV];exact H.kp.aV
 .rcases List.mem_cons.1 he with rfl|he
  .exact H.new (p,cs) (by simp)
  rcases List.mem_cons.1 he with rfl|he
  .exact H.new (D,dc) (by simp)
  .exact H.new e (by simp[he])
def JV (k:Nat) (Rl:AV->Prop) (es cA:Nat->List (List AV)):Prop:=∃y,Rl y/\cA=aA es k (es k++[[y]])
def Er (es cA:Nat->List (List AV)):Item->Prop
 | .defs d=>JV 0 (tE d) es cA
 | .exts d=>JV 1 (tE d) es cA
 | .cJ d=>JV 2 (wO d) es cA
 | .none=>JV 3 (λ_=>True) es cA
 | .types d=>JV 4 (ja d) es cA
 | .aK d=>JV 5 (ja d) es cA
theorem Es (h:∀l,o=some l->dN l=da):kQ.on o=(j4.andThen λd=> .ret (.exts d)).on o:=by cases o with|none=>rfl|some l=>exact if_pos (h l O)
theorem MM (h:∀l,o=some l->dN l=bK):kQ.on o=(Ca.andThen λ_=> .ret .none).on o:=by
 cases o with
 |none=>rfl
 |some l=>
  have h:=h l O
  show(if _ then _ else _)=_
  rw[if_neg (by rw[h];decide),if_pos h];rfl
theorem JW (h:∀l,o=some l->dN l≠da/\dN l≠bK):kQ.on o=(gU.andThen λd=> .ret (.aK d)).on o:=by cases o with|none=>rfl|some l=>obtain⟨h1,h2⟩:=h l rfl;show(if _ then _ else _)=_;rw[if_neg h1,if_neg h2];rfl
theorem JX {α:Type} {em:α->Bool} {g g':Pa α} {l:List Tok} (h:g l=g' l):ux em g l=ux em g' l:=by simp only[ux,Pa.andThen,h]
theorem Et {w:ak} {g:Pa Def} (h:∀l,o=some l->dN l=w) (hg:∀l,dN l=w->bc false [] l=g l):gU.on o=(ux Def.bH g).on o:=by cases o with|none=>rfl|some l=>exact JX (hg l (h l O))
theorem uY {w:ak} {g:Pa Def} (h:∀l,o=some l->dN l=w) (hw:w≠da/\w≠bK) (hg:∀l,dN l=w->bc false [] l=g l):kQ.on o=((ux Def.bH g).andThen λd=> .ret (.aK d)).on o:=by
 rw[JW λl e=>by rw[h l e];exact hw]
 cases o with|none=>rfl|some l=>show(Pa.andThen _ _) l=(Pa.andThen _ _) l;simp only[Pa.andThen,show gU l=ux Def.bH g l from Et (o:=some l) h hg]
theorem YP {v W:ak} {i:Decidable (v=W)} (w:decide (v=W)=true) (hx:∀l,o=some l->v=dN l):∀l,o=some l->dN l=W:=λl e=>(hx l e).symm.trans (of_decide_eq_true w)
theorem SB {D:Nat} {cs dH dc:List AV} {h2 h3:AH} {ha:AH} {q1 q2:AV} {xs:Nat->AV} {es:Nat->List (List AV)} {lo:Nat->Option Nat} (H:HI ha ids h ((p,cs)::(D,dc)::V)) (kp:Kp [p] h h2) (YO:h2.get p=some (.cells dH)) (e1:h3.n=h2.n) (e2:h3.get=h2.get) (e3:h3.aV=h2.aV) (e4:h2.nt<=h3.nt) (e5:∀l,l <ha.nt->h3.bV l=h2.bV l) (S:zk hb h3 xs es lo): HI ha ids (h3.set D (.cells (nU xs q1 q2))) ((p,dH)::(D,nU xs q1 q2)::V)/\zk hb (h3.set D (.cells (nU xs q1 q2))) xs es lo:=⟨IB H kp YO e1 e2 e3 e4 e5,S.eq O O⟩
theorem oZ {fx:Bool} {doc:ak}:∀l,dN l=dt->bc fx doc l=fX doc l:=by intro l h;simp only[bc,h];simp
theorem rP {fx:Bool} {doc:ak}:∀l,dN l=eN->bc fx doc l=fY eN eJ doc l:=by intro l h;simp only[bc,h];simp
theorem l7 {fx:Bool} {doc:ak}:∀l,dN l=bh->bc fx doc l=fY bh cp doc l:=by intro l h;simp only[bc,h];simp
theorem qb {fx:Bool} {doc:ak}:∀l,dN l=eO->bc fx doc l=ik doc l:=by intro l h;simp only[bc,h];simp
theorem rQ {fx:Bool} {doc:ak}:∀l,dN l=fW->bc fx doc l=jy doc l:=by intro l h;simp only[bc,h];simp
theorem qc {fx:Bool} {doc:ak}:∀l,dN l=ff->bc fx doc l=iq fx doc l:=by intro l h;simp only[bc,h];simp
theorem ng {fx:Bool} {doc:ak} (h:¬ (dN l=dt\/dN l=eN\/dN l=bh\/dN l=eO\/dN l=fW\/dN l=ff)):bc fx doc l=none:=by simp only[not_or]at h;obtain⟨h1,h2,h3,h4,h5,h6⟩:=h;simp only[bc,if_neg h1,if_neg h2,if_neg h3,if_neg h4,if_neg h5,if_neg h6]
theorem IC (R:cM L) {D:Nat} {xs:Nat->AV} {es:Nat->List (List AV)} {lo:Nat->Option Nat} {q1 q2:AV} (S:PB L b h0 p s o 0) (hD:D≠p) (hDn:D <h0.n) (VP:h0.get D=some (.cells (nU xs q1 q2))) (SS:zk hb h0 xs es lo) (hm:hb.nt<=h0.nt) (hlen:∀i,i <6->(es i).length<=1048578):
 al prog 74 [.ptr p 0,.ptr D 0] h0 (λv h'=>Kp [p,D] (h0.aw hb.nt) h'/\v= .cN []/\PB L false h' p s ((((cF fM).andThen λ_=>kQ).on o).map (·.2)) 0/\∃QY cA G4,h'.get D=some (.cells (nU QY q1 q2))/\zk hb h' QY cA G4/\dO (((cF fM).andThen λ_=>kQ).on o) λit=>Er es cA it):=by
 obtain⟨ho,hT,K,hg,P,hp⟩:=S;refine az (n:=128) (rs:=[]) [] ⟨func74,O,O,O⟩ O ?_;have H:HI (h0.aw hb.nt) [p,D] h0 [(p,K.cells s),(D,nU xs q1 q2)]:=⟨⟨⟨hg,ho,by simpa using hD⟩,⟨VP,hDn,by simp⟩,trivial⟩,⟨Nat.le_refl _,λ_ _ _=>rfl,hm,λ_ _=>rfl,O⟩,λe he=>by simp at he;rcases he with rfl|rfl<;>simp⟩;replace hT:(h0.aw hb.nt).aV=bQ:=hT;refine aH H SS O λh H SS Y=>ae O call108 (aJ R (PB.bU H hT P) fM) ?_;rintro x h2 ⟨kp,⟨_,_,K1,eM,P1,dJ⟩,_,_,_,_,_,_,_,_,rfl⟩;replace H:=H.aA kp eM;replace SS:=SS.kp kp;refine bm [2] H SS O λh H SS Y=>ae O call67 (cH R (PB.bU H hT P1)) ?_;rintro x h2 ⟨kp,⟨_,_,K2,bI,P2,iy⟩,k',v,w1,w2,w3,w4,sr,rfl,hx⟩;replace H:=H.aA kp bI;replace SS:=SS.kp kp;generalize zj:((cF fM).on o).map (·.2)=oX at P2 hx;have Eu:(((cF fM).andThen λ_=>kQ).on o)=kQ.on oX:=by
  rw[mO,<-zj]
  cases(cF fM).on o<;>rfl
 have hX:=Eu;refine aH H SS O λh H SS Y=>af O (λw=>?_) λw1=>aH H SS O λh H SS Y=>af O (λw=>?_) λw2=>aH H SS O λh H SS Y=>af O (λw=>?_) λw3=>aH H SS O λh H SS Y=>af O (λw=>?_) λw4=>aH H SS O λh H SS Y=>af O (λw=>?_) λw5=>aH H SS O λh H SS Y=>af O (λw=>?_) λw6=>aH H SS O λh H SS Y=>af O (λw=>?_) λw7=>aH H SS O λh H SS Y=>af O (λw=>?_) λw8=>aH H SS O λh H SS Y=>ae O call69 (aO R (PB.bU H hT P2)) ?_
 iterate 8
  .have hv:=YP w λl e=>(hx l e).2.1
   refine AC.drawn mx (AD.run 4 O (AD.eP O O O O O H.jM.1 O O (AD.run 2 O ?_)))
   first
    |refine AD.gP O O call119 (zR R (PB.bU H hT P2)) O ?_
    |refine AD.gP O O call120 (zP R (PB.bU H hT P2)) O ?_
    |refine AD.gP O O call121 (En R (PB.bU H hT P2)) O ?_
    |refine AD.gP O O call122 (uW R (PB.bU H hT P2)) O ?_
    |refine AD.gP O O call123 (Cn R (PB.bU H hT P2)) O ?_
    |refine AD.gP O O call124 (Eo R (PB.bU H hT P2)) O ?_
    |refine AD.gP O O call125 (Co R (PB.bU H hT P2)) O ?_
    |refine AD.gP O O call126 (GZ R (PB.bU H hT P2)) O ?_
   rintro v h2 ⟨kp,⟨_,_,K3,bF,P3,kO⟩,y,rfl,hy⟩;refine AD.run 1 O (AD.zS (hb:=hb) _ (by omega) (SS.kp kp) (Nat.le_trans H.kp.nt kp.nt) O O O O O O (by simp) O (My (hlen _ (by omega))) ?_);intro aw v h3 G4 e1 e2 e3 e4 e5 S3;have Is:h2.get D=some (.cells (nU xs q1 q2)):=(kp.get D H.jM.2 (by simpa using hD)).trans H.jM.1;refine AD.run 2 O (AD.v8 (ag.j1 O O O O O O (by rw[e2];exact Is) O O) O ?_);refine AD.nil ⟨[0,0,0,0,1,0,0,2,0,2,0,0,2],[(4,1)],O,by decide+kernel,by decide+kernel,⟨?_,trivial⟩,?_⟩
   .rintro e hk q1 q2;injection q1 with q1
    injection q2 with q2
    subst q1 q2;exact ag.eP O O O O O Is O
   obtain⟨H3,S4⟩:=SB (q1:=q1) (q2:=q2) H kp bF e1 e2 e3 e4 e5 S3;refine⟨.cN [],O,H3.kp,O,?_,_,_,_,H3.jM.1,S4,?_⟩
   all_goals
    first
     |rw[hX,Es hv]
     |rw[hX,uY hv (by decide) oZ]
     |rw[hX,uY hv (by decide) rP]
     |rw[hX,uY hv (by decide) l7]
     |rw[hX,uY hv (by decide) qb]
     |rw[hX,uY hv (by decide) rQ]
     |rw[hX,uY hv (by decide) qc]
     |rw[hX,MM hv]
   .rw[mP];exact PB.bU H3 hT P3
   .intro a l' e;obtain⟨a1,r1,W7,YQ⟩:=cx e;injection YQ with YQ
    injection YQ with e3' e4'
    subst e3'
    first
     |exact⟨_,hy _ _ W7,O⟩
     |exact⟨_,trivial,O⟩
 rintro x h2 ⟨kp,⟨_,_,K3,bF,P3,kO⟩,rfl⟩;replace H:=H.aA kp bF;replace SS:=SS.kp kp;have e:kQ.on oX=none:=by
  cases oX with
  |none=>rfl
  |some l=>
   have hv:=(hx l O).2.1
   show kQ l=none
   have n1:dN l≠da:=by rw[<-hv];simpa using w1
   have n2:dN l≠bK:=by rw[<-hv];simpa using w8
   have n3:bc false [] l=none:=ng (by
    rw[<-hv];rintro(q|q|q|q|q|q)
    .exact(show ¬ v=dt by simpa using w2) q
    .exact(show ¬ v=eN by simpa using w3) q
    .exact(show ¬ v=bh by simpa using w4) q
    .exact(show ¬ v=eO by simpa using w5) q
    .exact(show ¬ v=fW by simpa using w6) q
    .exact(show ¬ v=ff by simpa using w7) q)
   show(if _ then _ else _)=_
   rw[if_neg n1,if_neg n2];simp only[Pa.andThen,gU,ux,n3]
 refine aH H SS O λh H SS Y=>cy [] H O ⟨H.kp,O,?_,_,_,_,H.jM.1,SS,?_⟩
 .rw[hX,e];exact PB.bU H hT P3
 .rw[hX,e];intro a l q
  cases q
end
end
section
attribute [local irreducible] aU cK bE aQ
section
variable {L:ak->Nat->Option (Int×ak×Nat)} {s:ak} {K:PK} {o o':Option (List Tok)} {d p B:Nat} {h h0 h1 hb:AH} {ids:List Nat} {V:View} {l:List Tok} {b c:Bool} {k:Nat}
def VQ (doc:ak):Pa Def:=λl=>if bC l=16 then bc true doc l else none
theorem SC {t:ak} (h:∀l,o=some l->bC l≠16):(VQ t).on o=none:=by cases o with|none=>rfl|some l=>exact if_neg (h l O)
theorem uZ {t w:ak} {g:Pa Def} (hk:∀l,o=some l->bC l=16) (h:∀l,o=some l->dN l=w) (hg:∀l,dN l=w->bc true t l=g l):(VQ t).on o=g.on o:=by cases o with|none=>rfl|some l=>exact(if_pos (hk l O)).trans (hg l (h l O))
theorem PC {t:ak} (h:∀l,o=some l->¬ (dN l=dt\/dN l=eN\/dN l=bh\/dN l=eO\/dN l=fW\/dN l=ff)):(VQ t).on o=none:=by
 cases o with
 |none=>rfl
 |some l=>
  show(if _ then _ else _)=_
  rw[ng (h l O)];split<;>rfl
theorem JY (R:cM L) {t:ak} {c0:AV} {y0:Bool} (S:PB L b h0 p s o 0):al prog 70 [.ptr p 0,.agg [.str t,.one c0,.bool y0]] h0 (iN L p s 0 h0 ((VQ t).on o) ja):=by
 refine GM.done ?_;obtain⟨ho,hT,K,hg,P,hp⟩:=S;refine az (n:=47) (rs:=[.tmp 4]) [] ⟨func70,O,O,O⟩ O <| have H:=HI.one hg ho;aS [3] [] H O λh H Y=>?_;refine ae O call67 (cH R (PB.bU H hT P)) ?_;rintro x h2 ⟨kp,⟨_,_,K2,bI,P2,iy⟩,k',v,w1,w2,w3,w4,sr,rfl,hx⟩;replace H:=H.aA kp bI;refine aS [3] [1,1] H O λh H Y=>af O (λhk=>?_) λhk=>?_
 .refine aS [3] [] H O λh H Y=>ae O call69 (aO R (PB.bU H hT P2)) ?_;rintro x h2 ⟨kp,⟨_,_,K3,bF,P3,kO⟩,rfl⟩;replace H:=H.aA kp bF;refine aS [3] [] H O λh H Y=>?_;have e:=SC (t:=t) (o:=o) λl e=>by have:=(hx l e).1;simp at hk;omega
  exact ab [] H O ⟨H.kp,by rw[e];exact PB.bU H hT P3,.inl ⟨O,e⟩⟩
 have hk:∀l,o=some l->bC l=16:=λl e=>by have:=(hx l e).1;simp at hk;omega
 refine aS [3] [1] H O λh H Y=>af O (λqV=>?_) λqV=>?_
 .have hv:∀l,o=some l->dN l=dt:=λl e=>by rw[<-(hx l e).2.1];simpa using qV
  refine aS [3] [] H O λh H Y=>ae O call102 (zO R (t:=t) (PB.bU H hT P2)) ?_;rintro x h2 ⟨kp,⟨_,_,K3,bF,P3,kO⟩,y,rfl,hy⟩;replace H:=H.aA kp bF;rw[<-uZ hk hv oZ]at P3 hy;exact aS [3] [] H O λh H Y=>ab [] H O ⟨H.kp,PB.bU H hT P3,.inr (.inr ⟨y,O,hy⟩)⟩
 refine aS [3] [] H O λh H Y=>af O (λwP=>?_) λwP=>?_
 .have hv:∀l,o=some l->dN l=eN:=λl e=>by rw[<-(hx l e).2.1];simpa using wP
  refine aS [3] [] H O λh H Y=>ae O call103 (El R (t:=t) (PB.bU H hT P2)) ?_;rintro x h2 ⟨kp,⟨_,_,K3,bF,P3,kO⟩,y,rfl,hy⟩;replace H:=H.aA kp bF;rw[<-uZ hk hv rP]at P3 hy;exact aS [3] [] H O λh H Y=>ab [] H O ⟨H.kp,PB.bU H hT P3,.inr (.inr ⟨y,O,hy⟩)⟩
 refine aS [3] [] H O λh H Y=>af O (λly=>?_) λly=>?_
 .have hv:∀l,o=some l->dN l=bh:=λl e=>by rw[<-(hx l e).2.1];simpa using ly
  refine aS [3] [] H O λh H Y=>ae O call104 (uV R (t:=t) (PB.bU H hT P2)) ?_;rintro x h2 ⟨kp,⟨_,_,K3,bF,P3,kO⟩,y,rfl,hy⟩;replace H:=H.aA kp bF;rw[<-uZ hk hv l7]at P3 hy;exact aS [3] [] H O λh H Y=>ab [] H O ⟨H.kp,PB.bU H hT P3,.inr (.inr ⟨y,O,hy⟩)⟩
 refine aS [3] [] H O λh H Y=>af O (λtJ=>?_) λtJ=>?_
 .have hv:∀l,o=some l->dN l=eO:=λl e=>by rw[<-(hx l e).2.1];simpa using tJ
  refine aS [3] [] H O λh H Y=>ae O call105 (Cl R (t:=t) (PB.bU H hT P2)) ?_;rintro x h2 ⟨kp,⟨_,_,K3,bF,P3,kO⟩,y,rfl,hy⟩;replace H:=H.aA kp bF;rw[<-uZ hk hv qb]at P3 hy;exact aS [3] [] H O λh H Y=>ab [] H O ⟨H.kp,PB.bU H hT P3,.inr (.inr ⟨y,O,hy⟩)⟩
 refine aS [3] [] H O λh H Y=>af O (λwQ=>?_) λwQ=>?_
 .have hv:∀l,o=some l->dN l=fW:=λl e=>by rw[<-(hx l e).2.1];simpa using wQ
  refine aS [3] [] H O λh H Y=>ae O call106 (Em R (t:=t) (PB.bU H hT P2)) ?_;rintro x h2 ⟨kp,⟨_,_,K3,bF,P3,kO⟩,y,rfl,hy⟩;replace H:=H.aA kp bF;rw[<-uZ hk hv rQ]at P3 hy;exact aS [3] [] H O λh H Y=>ab [] H O ⟨H.kp,PB.bU H hT P3,.inr (.inr ⟨y,O,hy⟩)⟩
 refine aS [3] [] H O λh H Y=>af O (λyb=>?_) λyb=>?_
 .have hv:∀l,o=some l->dN l=ff:=λl e=>by rw[<-(hx l e).2.1];simpa using yb
  refine aS [3] [] H O λh H Y=>ae O call107 (Cm R (t:=t) (PB.bU H hT P2)) ?_;rintro x h2 ⟨kp,⟨_,_,K3,bF,P3,kO⟩,y,rfl,hy⟩;replace H:=H.aA kp bF;rw[<-uZ hk hv qc]at P3 hy;exact aS [3] [] H O λh H Y=>ab [] H O ⟨H.kp,PB.bU H hT P3,.inr (.inr ⟨y,O,hy⟩)⟩
 refine aS [3] [] H O λh H Y=>ae O call69 (aO R (PB.bU H hT P2)) ?_;rintro x h2 ⟨kp,⟨_,_,K3,bF,P3,kO⟩,rfl⟩;replace H:=H.aA kp bF;refine aS [3] [] H O λh H Y=>?_;have e:=PC (t:=t) (o:=o) λl e=>by
  rw[<-(hx l e).2.1];rintro(q|q|q|q|q|q)
  .exact(show ¬ v=dt by simpa using qV) q
  .exact(show ¬ v=eN by simpa using wP) q
  .exact(show ¬ v=bh by simpa using ly) q
  .exact(show ¬ v=eO by simpa using tJ) q
  .exact(show ¬ v=fW by simpa using wQ) q
  .exact(show ¬ v=ff by simpa using yb) q
 exact ab [] H O ⟨H.kp,by rw[e];exact PB.bU H hT P3,.inl ⟨O,e⟩⟩
end
end
section
attribute [local irreducible] aU cK bE aQ
section
variable {L:ak->Nat->Option (Int×ak×Nat)} {s:ak} {K:PK} {o o':Option (List Tok)} {d p B:Nat} {h h0 h1 hb:AH} {ids:List Nat} {V:View} {l:List Tok} {b c:Bool} {k:Nat}
abbrev kS:bY:=⟨[],[],[],[],[]⟩
def gD (o:Option (List Tok)):Option bY:=o.bind (db dX kS)
structure MN (od:bY) (es:Nat->List (List AV)):Prop where
 defs:bx (PE tE) od.defs (es 0)
 exts:bx (PE tE) od.exts (es 1)
 cJ:bx (PE wO) od.cJ (es 2)
 types:bx (PE ja) od.types (es 4)
 aK:bx (PE ja) od.aK (es 5)
theorem MN.add {od:bY} {es cA:Nat->List (List AV)} {it:Item} (h:MN od es) (hi:Er es cA it):MN (it.add od) cA:=by cases it with|none=>obtain⟨y,_,rfl⟩:=hi;exact⟨h.defs,h.exts,h.cJ,h.types,h.aK⟩|defs d=>obtain⟨y,hy,rfl⟩:=hi;exact⟨h.defs.append ⟨⟨_,rfl,hy⟩,trivial⟩,h.exts,h.cJ,h.types,h.aK⟩|exts d=>obtain⟨y,hy,rfl⟩:=hi;exact⟨h.defs,h.exts.append ⟨⟨_,rfl,hy⟩,trivial⟩,h.cJ,h.types,h.aK⟩|cJ d=>obtain⟨y,hy,rfl⟩:=hi;exact⟨h.defs,h.exts,h.cJ.append ⟨⟨_,rfl,hy⟩,trivial⟩,h.types,h.aK⟩|types d=>obtain⟨y,hy,rfl⟩:=hi;exact⟨h.defs,h.exts,h.cJ,h.types.append ⟨⟨_,rfl,hy⟩,trivial⟩,h.aK⟩|aK d=>obtain⟨y,hy,rfl⟩:=hi;exact⟨h.defs,h.exts,h.cJ,h.types,h.aK.append ⟨⟨_,O,hy⟩,trivial⟩⟩
theorem Er.len {es cA:Nat->List (List AV)} {it:Item} (hi:Er es cA it) {N:Nat} (h:∀i,i <6->(es i).length<=N):∀i,i <6->(cA i).length<=N+1:=by
 have key:∀(k:Nat) (y:AV),k <6->∀i,i <6->(aA es k (es k++[[y]]) i).length<=N+1:=λk y hk i hi=>by
  unfold aA;split
  .have:=h k hk
   simp;omega
  .have:=h i hi
   omega
 cases it<;>obtain⟨y,_,rfl⟩:=hi<;>exact key _ _ (by omega)
def G5 (o:Option (List Tok)) (o1:Option (List Tok)) (es:Nat->List (List AV)):Prop:=
 match o1 with
 |none=>gD o=none
 |some l=>∃n od,l.length <n/\(∀i,i <6->(es i).length+l.length<=1048578)/\gD o=db n od l/\MN od es
theorem G5.step {l:List Tok} {es cA:Nat->List (List AV)} (h:G5 o (some l) es) (hk:bC l≠1) (wJ:dO (fj l) λit=>Er es cA it):G5 o ((fj l).map (·.2)) cA:=by
 obtain⟨n,od,hn,hb,e,hl⟩:=h;obtain⟨n,rfl⟩:∃m,n=m+1:=⟨n -1,by omega⟩;have e2:db (n+1) od l=match fj l with
  |none=>none
  |some (i,l1)=>db n (i.add od) l1:=by
  simp only[db,if_neg hk]
  cases fj l<;>rfl
 rw[e2]at e
 cases hg:fj l with
 |none=>rw[hg]at e;exact e
 |some x=>
  obtain⟨i,l1⟩:=x;rw[hg]at e;have hd:=uQ _ _ _ hg;have hi:=wJ i l1 hg;have hlen:=hi.len (N:=1048578 -l.length) λi hi=>by have:=hb i hi;omega
  exact⟨n,i.add od,by simp only at hd|-;omega,λj hj=>by have:=hlen j hj;have:=hb j hj;simp only;omega,e,hl.add hi⟩
theorem G5.lens {l:List Tok} {es:Nat->List (List AV)} (h:G5 o (some l) es):∀i,i <6->(es i).length<=1048578:=by obtain⟨n,od,hn,hb,e,hl⟩:=h;intro i hi;have:=hb i hi;omega
theorem PD {l l2:List Tok} {doc:ak} (h:fv l=some (doc,l2)):fj l=iL doc l2:=by
 show(fv.andThen iL) l=_
 simp only[Pa.andThen,h]
theorem SD (l:List Tok):∃doc l2,fv l=some (doc,l2):=by
 unfold fv;split
 .exact⟨_,_,O⟩
 .exact⟨_,_,O⟩
def MO (a:bY) (y:AV):Prop:=∃x0 x1 x2 x3 x4 x5 rest,y= .ref none (.one x0:: .one x1:: .one x2:: .one x3:: .one x4:: .one x5::rest)/\my tE a.defs x0/\my tE a.exts x1/\my wO a.cJ x2/\my ja a.types x4/\my ja a.aK x5
theorem SL.VT {α:Type} {Rl:α->AV->Prop} {a:List α} {x:AV} {es:List (List AV)} {lo:Option Nat} (g:SL hb h x es lo) (hl:bx (PE Rl) a es) (hlen:es.length<=1048578):my Rl a x:=by
 rcases g with⟨_,rfl,rfl⟩|⟨aw,v,_,rfl,_,_⟩
 .exact .inl ⟨O,hl⟩
 .exact .inr ⟨_,_,O,by omega,hl⟩
def PF (v:ak):Prop:=v=dt\/v=eN\/v=bh\/v=eO\/v=fW\/v=ff
theorem G6 {v w:ak} (h:PF v) (hw:¬ (w=dt\/w=eN\/w=bh\/w=eO\/w=fW\/w=ff)):v≠w:=λe=>by subst e;exact hw h
theorem vb {b:Bool} (h:b=true):Slot.v (.bool b)= .v (.bool true):=by rw[h]
theorem Cr {α β:Type} {g:Pa α} {f:α->β} {Q:α->Prop} {R:β->Prop} {o:Option (List Tok)} (h:dO (g.on o) Q) (k:∀a,Q a->R (f a)):dO ((g.andThen λa=> .ret (f a)).on o) R:=λb l e=>by
 obtain⟨a,r,e1,e2⟩:=cx e;injection e2 with e2
 injection e2 with e3
 subst e3;exact k a (h _ _ e1)
theorem qW (l:List Tok):(match(fj l).map (·.2)with|none=>0|some l=>l.length+1) <l.length+1:=by
 cases hg:fj l with
 |none=>simp
 |some y=>
  have:=uQ _ _ _ hg
  simp;omega
theorem Cs (R:cM L) (S:PB L b h0 p s o 0):al prog 32 [.ptr p 0] h0 (λv h'=>Kp [p] h0 h'/\∃o',PB L false h' p s o' 0/\((o'=none/\gD o=none/\∃y,v= .one y)\/∃od l y,o'=some l/\gD o=some od/\v= .one y/\MO od y)):=by
 refine al.obj (Q:=λv h'=>Kp [p] h0 h'/\∃o',PB L false h' p s o' 0/\((o'=none/\gD o=none/\(v= .bq\/∃cs,v= .ptr h0.n 0/\h'.get h0.n=some (.cells cs)))\/∃od l cs dH,o'=some l/\gD o=some od/\v= .ptr h0.n 0/\h'.get h0.n=some (.cells cs)/\fZ cs dH/\MO od (.ref none dH))) ?_ ?_
 case refine_2=>
  have hp:=S.1
  rintro v h' ⟨kp,o',S',⟨rfl,e,rfl|⟨cs,rfl,hg⟩⟩|⟨od,l,cs,dH,rfl,e,rfl,hg,hs,hP⟩⟩
  .exact .inl ⟨_,ee.bq,kp,none,S',.inl ⟨O,e,_,O⟩⟩
  .exact .inr ⟨_,cs,cs,O,hg,fZ.refl _,kp.GH (Nat.le_refl _),none,S'.set (by omega),.inl ⟨O,e,_,O⟩⟩
  .exact .inr ⟨_,cs,dH,O,hg,hs,kp.GH (Nat.le_refl _),some l,S'.set (by omega),.inr ⟨od,l,_,O,e,O,hP⟩⟩
 obtain⟨ho,hT,K,hg,P,hp⟩:=S;have sw:∀l,o=some l->l.length<=1048578:=λl e=>(P.len R e).1
 refine az (n:=93) (rs:=[.tmp 2]) [] ⟨func32,O,O,O⟩ O <| have H:=HI.one hg ho;ah H O λh H Y=>?_;refine ae O call66 (aL R (PB.bU H hT P)) ?_;rintro x h2 ⟨kp,⟨_,_,K1,eM,P1,dJ⟩,q1,rfl⟩;replace H:=H.aA kp eM;refine an [1] H O λh H Y=>aC 93 (λx:Option (List Tok)×(Nat->AV)×(Nat->List (List AV))=>match x.1 with|none=>0|some l=>l.length+1)
  (λx=>[(0,.ptr p 0),(3,.ptr h0.n 0)])
  (λx h'=>∃K lo q1,HI h0 [p] h' [(p,PK.cells s K),(h0.n,nU x.2.1 (.one q1) .bq)]/\PR L s K x.1 0/\zk h0 h' x.2.1 x.2.2 lo/\G5 o x.1 x.2.2)
  (λx:Option (List Tok)×(Nat->AV)×(Nat->List (List AV))=>[(0,.ptr p 0),(3,.ptr h0.n 0)])
  (λx h'=>∃K lo q1,HI h0 [p] h' [(p,PK.cells s K),(h0.n,nU x.2.1 (.one q1) .bq)]/\PR L s K x.1 0/\zk h0 h' x.2.1 x.2.2 lo/\((x.1=none/\gD o=none)\/∃l od,x.1=some l/\gD o=some od/\MN od x.2.2/\∀i,i <6->(x.2.2 i).length<=1048578))
  (o,λ_=> .ao,λ_=>[]) O ⟨K1,λ_=>none,q1,H,P1,⟨λi hi=> .inl ⟨O,O,O⟩,λi j a _ _ e=>by cases e⟩,?_⟩ ?_ ?_
 .cases o with|none=>rfl|some l=>exact⟨dX,kS,by rw[wM];have:=sw l O;omega,λi hi=>by simp;exact sw l O,O,trivial,trivial,trivial,trivial,trivial⟩
 .clear H;rintro⟨o1,xs,es⟩ h ⟨K,lo,q1,H,P,SS,MP⟩ again done;simp only at P SS MP H;refine aH H SS O λh H SS Y=>ae O call67 (cH R (PB.bU H hT P)) ?_;rintro x h2 ⟨kp,⟨_,_,K1,eM,P1,dJ⟩,k',v,w1,w2,w3,w4,sr,rfl,hx⟩;replace H:=H.aA kp eM;replace SS:=SS.kp kp;refine aH H SS O λh H SS Y=>af O (λej=>?_) λej=>?_
  .cases o1 with
   |none=>obtain⟨y,hy⟩:=P1.no rfl;have P0:=P1;obtain⟨st,a,e,b_,c_,d',er,pk,k0,v0,p1,pr,r1,t1,pt,pe,k2,v2,p2,pw,r2,t2,fK,rr,cc,tc,dp⟩:=K1;simp only at hy;subst hy;exact an [0,91] H O λh H Y=>ab [] H O ⟨H.kp,none,PB.bU H hT P0,.inl ⟨O,MP,.inl O⟩⟩
   |some l=>
    have vw:bC l≠1:=by have:=(hx l O).1;simp at ej;omega
    have hlen:=MP.lens
    have hy:=(P1.so l O).1
    have P0:=P1
    obtain⟨doc,l2,ID⟩:=SD l;obtain⟨st,a,e,b_,c_,d',er,pk,k0,v0,p1,pr,r1,t1,pt,pe,k2,v2,p2,pw,r2,t2,fK,rr,cc,tc,dp⟩:=K1;simp only at hy;subst hy;refine an [0] H O λhd H Y=>cX O <| UH 6 H O λh H nM=>have SS:=(SS.eq Y.2.1 Y.2.2).eq nM.2.1 nM.2.2;cV 93 (λ_:ak×List Tok=>[(0,.ptr p 0),(3,.ptr h0.n 0),(4,.ptr hd.n 0)]) (λx h'=>∃K c y,HI h0 [p] h' [(p,PK.cells s K),(h0.n,nU xs (.one q1) .bq),(hd.n,[.str x.1,.one c,.bool y])]/\PR L s K (some x.2) 0/\fv l=some x/\(x.1≠[]->K.fK=dF s)/\zk h0 h' xs es lo) (λJ=>?_) ?_
    .refine aH H SS O λh H SS Y=>ae O call67 (cH R (PB.bU H hT P0)) ?_;rintro x h2 ⟨kp,⟨_,_,K2,bI,P2,iy⟩,k2',v2',_,_,_,_,_,rfl,pC⟩;replace H:=H.aA kp bI;replace SS:=SS.kp kp;have jh:=(pC l O).1;refine aH H SS O λh H SS Y=>aj O (λJN=>?_) λJN=>?_
     .refine ah H O λh H Y=>jI O <| ah H O λh H nM=>have SS:=(SS.eq Y.2.1 Y.2.2).eq nM.2.1 nM.2.2;ae O call68 (de R (PB.bU H hT P2)) ?_;rintro x h2 ⟨t,c3,y3,K3,rfl,kp,bF,P3,kJ,jZ⟩;have e3:fv.on (some l)=some (doc,l2):=ID;rw[e3]at P3;exact an [2] (H.aA kp bF) O λh H Y=>J (t,l2) O ⟨_,_,_,H,P3,kJ _ _ e3▸ID,λq=>jZ q l O,(SS.kp kp).eq Y.2.1 Y.2.2⟩
     refine aH H SS O λh H SS Y=>ae O call67 (cH R (PB.bU H hT P2)) ?_;rintro x h2 ⟨kp,⟨_,_,K2b,YR,P2b,aar⟩,k3',v3',_,_,_,_,_,rfl,AO⟩;replace H:=H.aA kp YR;replace SS:=SS.kp kp;have BW:=(AO l O).1;refine aH H SS O λh H SS Y=>af O (λzM=>?_) λzM=>?_
     .refine aH H SS O λh H SS Y=>ae O call68 (de R (PB.bU H hT P2b)) ?_;rintro x h2 ⟨t,c3,y3,K3,rfl,kp,bF,P3,kJ,jZ⟩;have e3:fv.on (some l)=some (doc,l2):=ID;rw[e3]at P3;exact an [2] (H.aA kp bF) O λh H Y=>J (t,l2) O ⟨_,_,_,H,P3,kJ _ _ e3▸ID,λq=>jZ q l O,(SS.kp kp).eq Y.2.1 Y.2.2⟩
     .exact jK 2 [.str [],.one .bq,.bool false] H O O ⟨.refl _,.one _,.refl _,trivial⟩ λh H Y=>ah H O λh H nM=>J ([],l) O ⟨_,_,_,H,P2b,if_neg (by simp at JN zM;omega),λq=>absurd O q,(SS.eq Y.2.1 Y.2.2).eq nM.2.1 nM.2.2⟩
    .clear H;rintro⟨t,l2⟩ h ⟨K3,c3,y3,H,P3,VU,Cb,SS⟩;simp only at H P3 VU Cb;have Eu:fj l=iL t l2:=PD VU;refine aH H SS O λh H SS Y=>ae O call67 (uO R H.at_.2 (H.kp.aV.trans hT) H.at_.1 P3) ?_;rintro x h2 ⟨K4,⟨k4,v4,_,_,_,_,_,rfl,Xi⟩,kp,jj,P4,AJ,MQ⟩;replace H:=H.aA kp jj;replace SS:=SS.kp kp;obtain⟨YS,hv4,_⟩:=Xi l2 O;have bad:fj l=none->G5 o none es:=λhX=>by
      have hd:=MP.step (cA:=es) vw (by rw[hX];intro a l q;cases q)
      rw[hX]at hd;exact hd
     refine aH H SS O λh H SS Y=>af O (λxX=>?_) λxX=>?_
     .refine aH H SS O λh H SS Y=>ae O call69 (aO R (PB.bU H hT P4)) ?_;rintro x h2 ⟨kp,⟨_,_,K9,tK,P9,Ut⟩,rfl⟩;exact ah (H.aA kp tK) O λh H Y=>done (none,xs,es) O ⟨_,_,_,H.take (k:=2),P9,(SS.kp kp).eq Y.2.1 Y.2.2,.inl ⟨O,bad (by rw[Eu];exact if_neg (by simp at xX;omega))⟩⟩
     have MR:bC l2=16:=by simp at xX;omega
     refine aH H SS O λh H SS Y=>ae O call67 (uO R H.at_.2 (H.kp.aV.trans hT) H.at_.1 P4) ?_;rintro x h2 ⟨K5,⟨k5,v5,_,_,_,_,_,rfl,Ew⟩,kp,mw,P5,Us,KZ⟩;replace H:=H.aA kp mw;replace SS:=SS.kp kp;obtain⟨hk5,FK,_⟩:=Ew l2 O;replace Eu:fj l=if dN l2=da then _ else _:=Eu.trans (if_pos MR)
     subst FK;refine Af 4 [] [] H SS O λh H SS Y=>cV 93 (λb:Bool=>[(0,.ptr p 0),(3,.ptr h0.n 0),(4,.ptr hd.n 0),(37,.str (dN l2)),(40,.bool b)]) (λb h'=>HI h0 [p] h' [(p,PK.cells s K5),(h0.n,nU xs (.one q1) .bq),(hd.n,[.str t,.one c3,.bool y3])]/\(b=true↔PF (dN l2))/\zk h0 h' xs es lo) (λJ=>?_) ?_
     .refine aH H SS O λh H SS Y=>af O (λhb=>?_) λqV=>?_
      .refine ah H O λh H Y=>?_;exact J true (HQ.mk O ⟨O,O,O,O,vb (by simpa using hb),trivial⟩) ⟨H,by simp[PF,show dN l2=dt by simpa using hb],SS.eq Y.2.1 Y.2.2⟩
      refine aH H SS O λh H SS Y=>af O (λhb=>?_) λwP=>?_
      .refine ah H O λh H Y=>?_;exact J true (HQ.mk O ⟨O,O,O,O,vb (by simpa using hb),trivial⟩) ⟨H,by simp[PF,show dN l2=eN by simpa using hb],SS.eq Y.2.1 Y.2.2⟩
      refine aH H SS O λh H SS Y=>af O (λhb=>?_) λly=>?_
      .refine ah H O λh H Y=>?_;exact J true (HQ.mk O ⟨O,O,O,O,vb (by simpa using hb),trivial⟩) ⟨H,by simp[PF,show dN l2=bh by simpa using hb],SS.eq Y.2.1 Y.2.2⟩
      refine aH H SS O λh H SS Y=>af O (λhb=>?_) λtJ=>?_
      .refine ah H O λh H Y=>?_;exact J true (HQ.mk O ⟨O,O,O,O,vb (by simpa using hb),trivial⟩) ⟨H,by simp[PF,show dN l2=eO by simpa using hb],SS.eq Y.2.1 Y.2.2⟩
      refine aH H SS O λh H SS Y=>af O (λhb=>?_) λwQ=>?_
      .refine ah H O λh H Y=>?_;exact J true (HQ.mk O ⟨O,O,O,O,vb (by simpa using hb),trivial⟩) ⟨H,by simp[PF,show dN l2=fW by simpa using hb],SS.eq Y.2.1 Y.2.2⟩
      refine ah H O λh H Y=>?_;exact J _ O ⟨H,by simp[PF]at*;simp[*],SS.eq Y.2.1 Y.2.2⟩
     clear H;rintro bT h ⟨H,hbT,SS⟩;refine af O (λhb=>?_) λhb=>?_
     .have hX:fj l=((bc true t).andThen λd=> .ret (.types d)) l2:=by
       have hv:=hbT.1 hb
       rw[Eu,if_neg (G6 hv (by decide)),if_neg (G6 hv (by decide)),if_neg (G6 hv (by decide))]
      refine AC.drawn mx <| AD.run 1 O <| AD.eP O O O O O H.jM.1 O O <| AD.run 1 O <| AD.eP O O O O O H.hv.2.2.1.1 O O <| AD.gP O O call70 (JY R (t:=t) (PB.bU H hT P5)) O ?_;rintro vv h2 ⟨kp,⟨_,_,K9,tK,P9,Ut⟩,y,rfl,hy⟩;refine AD.run 1 O <| AD.zS (hb:=h0) 4 (by omega) (SS.kp kp) (Nat.le_trans H.kp.nt kp.nt) O O O O O O (by simp) O (by show((es 4).length+1)*(8+1)<=140737488355328;have:=hlen 4 (by omega);omega) ?_;intro aw v9 h3 G4 e1 e2 e3 e4 e5 S3;have Is:h2.get h0.n=some (.cells (nU xs (.one q1) .bq)):=(kp.get _ H.jM.2 (by simp;omega)).trans H.jM.1;refine AD.run 1 O <| AD.v8 (ag.j1 (r:=nU (aA xs 4 (.vec (.own aw v9) 1 (es 4++[[AV.one y]]))) (.one q1) .bq) O O O O O O (by rw[e2];exact Is) O O) O <| AD.nil ⟨[0,1,0,1,2,0,2,0,2],[(1,1)],O,by decide+kernel,by decide+kernel,⟨?_,trivial⟩,?_⟩
      .rintro e hk q1 q2;injection q1 with q1
       injection q2 with q2
       subst q1 q2;exact ag.eP O O O O O Is O
      replace H:=IB (VO:=nU (aA xs 4 (.vec (.own aw v9) 1 (es 4++[[AV.one y]]))) (.one q1) .bq) H kp tK e1 e2 e3 e4 e5;have e4:(VQ t).on (some l2)=(bc true t).on (some l2):=if_pos MR;rw[e4]at hy P9;exact again ((fj l).map (·.2),aA xs 4 (.vec (.own aw v9) 1 (es 4++[[AV.one y]])),aA es 4 (es 4++[[AV.one y]])) (qW l) O ⟨_,_,_,H.take (k:=2),by rw[hX];exact(mP (o:=some l2)).symm▸P9,S3.eq O O,MP.step vw (by rw[hX];exact Cr (o:=some l2) hy λa q=>⟨_,q,O⟩)⟩
     have hnT:¬ PF (dN l2):=λq=>by rw[hbT.2 q]at hb;cases hb
     refine aH H SS O λh H SS Y=>af O (λu4=>?_) λu4=>?_
     .have hX:fj l=((dw t).andThen λd=> .ret (.defs d)) l2:=by rw[Eu,if_pos (by simpa using u4)]
      refine AC.drawn mx <| AD.run 1 O <| AD.eP O O O O O H.jM.1 O O <| AD.run 1 O <| AD.eP O O O O O H.hv.2.2.1.1 O O <| AD.gP O O call71 (zQ R (t:=t) (PB.bU H hT P5)) O ?_;rintro vv h2 ⟨kp,⟨_,_,K9,tK,P9,Ut⟩,y,rfl,hy⟩;refine AD.run 1 O <| AD.zS (hb:=h0) 0 (by omega) (SS.kp kp) (Nat.le_trans H.kp.nt kp.nt) O O O O O O (by simp) O (by show((es 0).length+1)*(8+1)<=140737488355328;have:=hlen 0 (by omega);omega) ?_;intro aw v9 h3 G4 e1 e2 e3 e4 e5 S3;have Is:h2.get h0.n=some (.cells (nU xs (.one q1) .bq)):=(kp.get _ H.jM.2 (by simp;omega)).trans H.jM.1;refine AD.run 1 O <| AD.v8 (ag.j1 (r:=nU (aA xs 0 (.vec (.own aw v9) 1 (es 0++[[AV.one y]]))) (.one q1) .bq) O O O O O O (by rw[e2];exact Is) O O) O <| AD.nil ⟨[0,1,0,1,2,0,2,0,2],[(1,1)],O,by decide+kernel,by decide+kernel,⟨?_,trivial⟩,?_⟩
      .rintro e hk q1 q2;injection q1 with q1
       injection q2 with q2
       subst q1 q2;exact ag.eP O O O O O Is O
      replace H:=IB (VO:=nU (aA xs 0 (.vec (.own aw v9) 1 (es 0++[[AV.one y]]))) (.one q1) .bq) H kp tK e1 e2 e3 e4 e5;exact again ((fj l).map (·.2),aA xs 0 (.vec (.own aw v9) 1 (es 0++[[AV.one y]])),aA es 0 (es 0++[[AV.one y]])) (qW l) O ⟨_,_,_,H.take (k:=2),by rw[hX];exact(mP (o:=some l2)).symm▸P9,S3.eq O O,MP.step vw (by rw[hX];exact Cr (o:=some l2) hy λa q=>⟨_,q,O⟩)⟩
     rw[if_neg (by simpa using u4)]at Eu;refine aH H SS O λh H SS Y=>af O (λoD=>?_) λoD=>?_
     .have hX:fj l=((mK t).andThen λd=> .ret (.cJ d)) l2:=by rw[Eu,if_pos (by simpa using oD)]
      refine AC.drawn mx <| AD.run 1 O <| AD.eP O O O O O H.jM.1 O O <| AD.run 1 O <| AD.eP O O O O O H.hv.2.2.1.1 O O <| AD.gP O O call72 (GY R (t:=t) (PB.bU H hT P5)) O ?_;rintro vv h2 ⟨kp,⟨_,_,K9,tK,P9,Ut⟩,y,rfl,hy⟩;refine AD.run 1 O <| AD.zS (hb:=h0) 2 (by omega) (SS.kp kp) (Nat.le_trans H.kp.nt kp.nt) O O O O O O (by simp) O (by show((es 2).length+1)*(8+1)<=140737488355328;have:=hlen 2 (by omega);omega) ?_;intro aw v9 h3 G4 e1 e2 e3 e4 e5 S3;have Is:h2.get h0.n=some (.cells (nU xs (.one q1) .bq)):=(kp.get _ H.jM.2 (by simp;omega)).trans H.jM.1;refine AD.run 1 O <| AD.v8 (ag.j1 (r:=nU (aA xs 2 (.vec (.own aw v9) 1 (es 2++[[AV.one y]]))) (.one q1) .bq) O O O O O O (by rw[e2];exact Is) O O) O <| AD.nil ⟨[0,1,0,1,2,0,2,0,2],[(1,1)],O,by decide+kernel,by decide+kernel,⟨?_,trivial⟩,?_⟩
      .rintro e hk q1 q2;injection q1 with q1
       injection q2 with q2
       subst q1 q2;exact ag.eP O O O O O Is O
      replace H:=IB (VO:=nU (aA xs 2 (.vec (.own aw v9) 1 (es 2++[[AV.one y]]))) (.one q1) .bq) H kp tK e1 e2 e3 e4 e5;exact again ((fj l).map (·.2),aA xs 2 (.vec (.own aw v9) 1 (es 2++[[AV.one y]])),aA es 2 (es 2++[[AV.one y]])) (qW l) O ⟨_,_,_,H.take (k:=2),by rw[hX];exact(mP (o:=some l2)).symm▸P9,S3.eq O O,MP.step vw (by rw[hX];exact Cr (o:=some l2) hy λa q=>⟨_,q,O⟩)⟩
     rw[if_neg (by simpa using oD)]at Eu;refine aH H SS O λh H SS Y=>af O (λu5=>?_) λu5=>?_
     .have hv:dN l2=fM:=by simpa using u5
      rw[if_pos hv]at Eu;refine bm [2] H SS O λh H SS Y=>af O (λYT=>?_) λYT=>?_
      .have ht:t≠[]:=by simpa using YT
       rw[if_neg ht]at Eu;have YU:=KZ (MQ (Cb ht));refine bm [0] H SS O λh H SS Y=>ae O call73 (fL (PB.bU H hT P5) λl e=>YU) ?_;rintro x h2 ⟨kp,⟨_,_,K6,su,P6,hp6⟩,rfl⟩;replace SS:=SS.kp kp;refine ah (H.aA kp su) O λh H Y=>have SS:=SS.eq Y.2.1 Y.2.2;ae O call74 (IC R (PB.bU H hT P6) (by omega) H.jM.2 H.jM.1 SS H.kp.nt hlen) ?_;rintro x h2 ⟨kp,rfl,⟨_,_,K9,tK,P9,Ut⟩,QY,cA,G4,VP,S9,wJ⟩;exact ah (H.oz kp tK VP) O λh H Y=>again (none,QY,cA) (by show 0 <l.length+1;omega) O ⟨_,_,_,H.take (k:=2),P9,S9.eq Y.2.1 Y.2.2,bad Eu⟩
      .rw[if_pos (by simpa using YT)]at Eu;refine aH H SS O λh H SS Y=>ae O call74 (IC R (PB.bU H hT P5) (by omega) H.jM.2 H.jM.1 SS H.kp.nt hlen) ?_;rintro x h2 ⟨kp,rfl,⟨_,_,K9,tK,P9,Ut⟩,QY,cA,G4,VP,S9,wJ⟩;have hw:((cF fM).andThen λ_=>kQ).on (some l2)=fj l:=by
        rw[Eu,eB]
        cases l2 with|nil=>simp[bC]at MR|cons t0 r0=>simp only[bC,dN]at MR hv;simp only[Pa.andThen,cF,if_pos (And.intro MR hv)];rfl
       rw[hw]at P9 wJ;exact ah (H.oz kp tK VP) O λh H Y=>again ((fj l).map (·.2),QY,cA) (qW l) O ⟨_,_,_,H.take (k:=2),P9,S9.eq Y.2.1 Y.2.2,MP.step vw wJ⟩
     rw[if_neg (by simpa using u5)]at Eu;refine aH H SS O λh H SS Y=>ae O call69 (aO R (PB.bU H hT P5)) ?_;rintro x h2 ⟨kp,⟨_,_,K9,tK,P9,Ut⟩,rfl⟩;exact ah (H.aA kp tK) O λh H Y=>ab [] H O ⟨H.kp,none,PB.bU H hT P9,.inl ⟨O,bad (by rw[Eu];simp only[Pa.andThen,ng hnT]),.inl O⟩⟩
  .have aas:k'=1:=by simpa using ej
   refine aH H SS O λh H SS Y=>?_
   cases o1 with
   |none=>exact done (none,xs,es) O ⟨_,_,_,H,P1,SS,.inl ⟨O,MP⟩⟩
   |some l=>
    have hlen:=MP.lens
    have zI:bC l=1:=by have:=(hx l O).1;omega
    obtain⟨n,od,hn,_,e,hl⟩:=MP;obtain⟨n,rfl⟩:∃m,n=m+1:=⟨n -1,by omega⟩;have e2:db (n+1) od l=some od:=by simp only[db,if_pos zI]
    exact done (some l,xs,es) O ⟨_,_,_,H,P1,SS,.inr ⟨l,od,O,e.trans e2,hl,hlen⟩⟩
 .clear H;rintro⟨o1,xs,es⟩ h ⟨K,lo,q1,H,P,SS,gW⟩;simp only at P SS gW H;obtain⟨Iw,lf⟩:=P.cm;have P0:=P;obtain⟨st,a,e,b_,c_,d',er,pk,k0,v0,p1,pr,r1,t1,pt,pe,k2,v2,p2,pw,r2,t2,fK,rr,cc,tc,dp⟩:=K;simp only at lf;subst lf;refine bm [0,1] H SS O λh H SS Y=>ab [] H O ⟨H.kp,o1,PB.bU H hT P0,?_⟩;rcases gW with⟨rfl,e⟩|⟨l,od,rfl,e,hl,hlen⟩
  .exact .inl ⟨O,e,.inr ⟨_,O,H.jM.1⟩⟩
  .exact .inr ⟨od,l,_,[.one (xs 0),.one (xs 1),.one (xs 2),.one (xs 3),.one (xs 4),.one (xs 5),_,_],O,e,O,H.jM.1,⟨.one _,.one _,.one _,.one _,.one _,.one _,.refl _,.refl _,trivial⟩,_,_,_,_,_,_,_,O,(SS.sl 0 (by omega)).VT hl.defs (hlen 0 (by omega)),(SS.sl 1 (by omega)).VT hl.exts (hlen 1 (by omega)),(SS.sl 2 (by omega)).VT hl.cJ (hlen 2 (by omega)),(SS.sl 4 (by omega)).VT hl.types (hlen 4 (by omega)),(SS.sl 5 (by omega)).VT hl.aK (hlen 5 (by omega))⟩
end
end
end
section
variable {P:Program} {lt:LT} {h h0 h1:AH} {ids:List Nat} {V V':View} {fr aB:ay} {ks:List Kt} {C:Exit->ay->AH->Prop} {ops:List Oper} {o:Oper}
theorem Ct {w:World} {a:Addr} {v:Value} {c:Array Value} {T:TypeId} (hh:w.heap[a.block]? =some (.cells c T (0,0))) (hc:w.cell? a=some v):w.setCell a v=w:=by
 unfold World.setCell;refine(congrArg (λhp=>({w with heap:=hp}:World)) (?_:_=w.heap):_=({w with heap:=w.heap}:World))
 .refine Array.ext_getElem? λi=>?_;rw[Array.getElem?_modify];split
  .rename_i hi;subst hi;rw[hh];simp only[Option.map_some]
   congr 2
   split
   .rfl
   .rename_i hs;have zp:c[a.off]? =some v:=by
     simp only[World.cell?,hh]at hc;simpa[hs]using hc
    refine Array.ext_getElem? λj=>?_;rw[Array.getElem?_setIfInBounds];split
    .rename_i hj;subst hj;split
     .exact zp.symm
     .rename_i ax;rw[Array.getElem?_eq_none (by omega)]at zp
      cases zp
    .rfl
  .rfl
theorem ag.AR {t:TypeId} {x v:Operand} {b:Bool} {rest:List AV} (ho:o.op= .store t x v) (hd:o.dst=none) (hw:au ops fr o.guard=some true) (hz:kW P t=some 1) (ex:fr.ev x= .v (.ref none (.bool b::rest))) (ev:fr.ev v= .v (.bool b)):ag P lt ops o fr h .gI h:=by
 refine ag.Vr hd hw λg w ρ R hx=>?_;have v1:=hx x (by rw[ho];simp[Op.operands]) _ ex;have v2:=hx v (by rw[ho];simp[Op.operands]) _ ev;generalize hq:ρ x=p at v1;generalize pj:ρ v=u at v2
 cases v2
 cases v1 with
 |ref _ _ ad vs hc hv FQ hm hr HM=>
  have h0:=hv 0 (by simp)
  have SE:=hc 0 (by simp)
  simp only[List.getElem_cons_zero]at h0;generalize hv0:vs 0=u0 at h0 SE
  cases h0;obtain⟨c,T,hh⟩:=HM;have hb:(ad.add 0)=ad:=by simp[Addr.add]
  rw[hb]at SE;have iw:(store (ad.add 0) (.bool b) .plain).run P w= .ok () w:=by rw[hb,run_store P w ad _ _ O,SE];simp only[World.frozen?,hh];simp[Ct hh SE]
  refine⟨g,w,?_,.refl g w,R⟩;have:(storeVar t ad (.bool b)).run P w= .ok () w:=by simp only[storeVar,Sem.run_bind,run_sizeOf hz,Result.andThen_ok];rw[if_neg (by simp[Value.cells])];simp only[Value.cells,storeCells,Sem.run_bind,iw,Result.andThen_ok,Sem.run_pure]
  simp[execOp,ho,Instr.storeAt,Instr.sureAddr,hq,pj,this]
end
section
attribute [local irreducible] AC AL AW AD aP
section
attribute [local irreducible] aU cK bE aQ
section
variable {L:ak->Nat->Option (Int×ak×Nat)} {s:ak} {K:PK} {o o':Option (List Tok)} {d p B:Nat} {h h0 h1 hb:AH} {ids:List Nat} {V:View} {l:List Tok} {b c:Bool} {k:Nat}
theorem PG:al prog 31 [dF s] h0 (λv h'=>Kp [] h0 h'/\v= .agg (na s 0 0 0 0 1 0 [])):=by refine az (n:=5) (rs:=[.cell 2 82]) [] ⟨func31,O,O,O⟩ O <| have H:HI h0 [] h0 []:=HI.nil;an [0] H O λh H Y=>?_;exact ab [0] H O ⟨H.kp,O⟩
theorem yd {α:Type} {Rl:α->AV->Prop}:∀{l:List α} {es:List (List AV)} {i:Nat},bx (PE Rl) l es->i <es.length->∃a v,es[i]? =some [v]/\Rl a v
 |[],[],i,_,h=>by simp at h
 |a::l,c::es,0,⟨⟨v,h1,h2⟩,_⟩,_=>⟨a,v,by simp[h1],h2⟩
 |a::l,c::es,i+1,⟨_,h⟩,hi=>by obtain⟨b,v,q1,q2⟩:=yd h (by simpa using hi);exact⟨b,v,by simpa using q1,q2⟩
 |[],_::_,_,h,_=>h.elim
 |_::_,[],_,h,_=>h.elim
theorem j8 {x:AV} {es:List (List AV)} (h:aY 1 x=some es) (cv:es≠[]):∃tk,x= .vec tk 1 es:=by
 cases x with
 |ao=>injection h with h;exact absurd h.symm cv
 |vec tk s e=>
  simp only[aY]at h;split at h
  .rename_i q;injection h with h
   subst h;exact⟨tk,by rw[Nat.eq_of_beq_eq_true q]⟩
  .cases h
 |_=>cases h
theorem my.out {α:Type} {Rl:α->AV->Prop} {l:List α} {x:AV} (h:my Rl l x):∃es,aY 1 x=some es/\es.length<=4294967296/\bx (PE Rl) l es:=by
 rcases h with⟨rfl,h⟩|⟨tk,es,rfl,hb,h⟩
 .exact⟨[],O,by simp,h⟩
 .exact⟨es,O,hb,h⟩
theorem JZ (R:cM L) (hs:s.length<=1048576) (hT:h0.aV=bQ):al prog 10 [dF s] h0 (λv h'=>Kp [] h0 h'/\((gD (some (jz L s 0))=none/\∃x,v= .cN [.bq,.iface 248 x])\/∃od D,gD (some (jz L s 0))=some od/\v= .cN [.ref none D,.bu]/\MO od (.ref none D))):=by
 refine az (n:=55) (rs:=[.tmp 2,.tmp 3]) [] ⟨func10,O,O,O⟩ O <| have H:HI h0 [] h0 []:=HI.nil;ah H O λh H Y=>?_;refine ae O call31 (PG (s:=s)) ?_;rintro x h2 ⟨kp,rfl⟩;replace H:=H.same kp;refine an [0] H O λh H Y=>?_;refine fm 0 (PK.cells s ⟨0,0,0,0,1,0,.bu,false,0,[],0,0,0,0,.bq,.bu,0,[],0,0,0,0,.bq,.one .bq,false,0,0⟩) H O O (PK.D4 s ⟨0,0,0,0,1,0,.bu,false,0,[],0,0,0,0,.bq,.bu,0,[],0,0,0,0,.bq,.bq,false,0,0⟩) λh H Y=>?_;have P0:PR L s ⟨0,0,0,0,1,0,.bu,false,0,[],0,0,0,0,.bq,.bu,0,[],0,0,0,0,.bq,.one .bq,false,0,0⟩ (some (jz L s 0)) 0:=⟨hs,by simp,⟨_,O⟩,O,O,by omega,by simp,λl e=>by injection e with e;subst e;exact⟨O,λ_=>rfl,by simp⟩⟩;refine ae O call32 (Cs R (PB.bU H hT P0)) ?_;rintro x h2 ⟨kp,o',⟨_,_,K1,eM,P1,dJ⟩,hr⟩;replace H:=H.aA kp eM;rcases hr with⟨rfl,e,y,rfl⟩|⟨od,l,y,rfl,e,rfl,hP⟩
 .obtain⟨y2,hy⟩:=P1.no rfl;obtain⟨st,a,e_,b_,c_,d',er,pk,k0,v0,p1,pr,r1,t1,pt,pe,k2,v2,p2,pw,r2,t2,fK,rr,cc,tc,dp⟩:=K1;simp only at hy;subst hy;exact an [0,91] H O λh H Y=>ab [] H O ⟨H.kp,.inl ⟨e,_,O⟩⟩
 .have hy:=(P1.so _ O).1
  obtain⟨st,a,e_,b_,c_,d',er,pk,k0,v0,p1,pr,r1,t1,pt,pe,k2,v2,p2,pw,r2,t2,fK,rr,cc,tc,dp⟩:=K1;simp only at hy;subst hy;have hP0:=hP;obtain⟨x0,x1,x2,x3,x4,x5,rest,hD,_,_,_,h4,h5⟩:=hP;obtain⟨mr,jB,gp,Xj⟩:=h4.out;obtain⟨rB,mq,kH,hl5⟩:=h5.out;subst hD;generalize hDD:(AV.one x0::AV.one x1::AV.one x2::AV.one x3::AV.one x4::AV.one x5::rest)=D at*;refine an [0] H O λh H Y=>Ob 5 O <| cX O ?_;subst hDD;refine ah H O λh H Y=>dz O O O O O jB O O O <| ib 23 O <| ah H O λh H Y=>?_;have H2:HI h0 [] h []:=H.take (k:=0);clear H;have H:=H2;clear H2;obtain⟨D,hDD⟩:∃D,D=(AV.one x0::AV.one x1::AV.one x2::AV.one x3::AV.one x4::AV.one x5::rest):=⟨_,O⟩;refine aC 55 (λi:Nat=>mr.length -i) (λi=>[(0,dF s),(5,.ref none (AV.one x0::AV.one x1::AV.one x2::AV.one x3::AV.one x4::AV.one x5::rest)),(23,x4),(24,.int .i64 (mr.length:Nat)),(25,.int .i64 (i:Nat))]) (λi h'=>HI h0 [] h' []/\i<=mr.length) (λ_:Unit=>[(0,dF s),(5,.ref none (AV.one x0::AV.one x1::AV.one x2::AV.one x3::AV.one x4::AV.one x5::rest))]) (λ_ h'=>HI h0 [] h' []) 0 O ⟨H,by omega⟩ ?_ ?_
  .clear H;rintro i h ⟨H,hi⟩ again done;refine ah H O λh H Y=>af O (λhb=>?_) λhb=>?_
   .have ax:i <mr.length:=by simpa using hb
    refine ah H O λh H Y=>?_;obtain⟨tk,rfl⟩:∃tk,x4= .vec tk 1 mr:=j8 jB (by intro q;rw[q]at ax;simp at ax);obtain⟨a,v,ha,hv⟩:=yd Xj ax;obtain⟨ds,xs,fs,ts,kN,c1,c2,rest,rfl,_⟩:=hv;refine ba (ag.indexAddr O O O O O O (Int.natCast_nonneg _) (by rw[Int.toNat_natCast];exact ha)) O ?_;refine ah H O λh H Y=>ib 29 O <| ah H O λh H Y=>Bl (ag.AR (b:=false) O O O O O O) O <| ah H O λh H Y=>?_;exact again (i+1) (by omega) (HQ.mk O ⟨O,O,O,O,vi (wI (by omega)),trivial⟩) ⟨H,by omega⟩
   .exact ah H O λh H Y=>done () O H
  .clear H;rintro⟨⟩ h H;refine ah H O λh H Y=>dz O O O O O mq O O O <| ib 40 O <| ah H O λh H Y=>aC 55 (λi:Nat=>rB.length -i) (λi=>[(0,dF s),(5,.ref none (AV.one x0::AV.one x1::AV.one x2::AV.one x3::AV.one x4::AV.one x5::rest)),(40,x5),(41,.int .i64 (rB.length:Nat)),(42,.int .i64 (i:Nat))])
    (λi h'=>HI h0 [] h' []/\i<=rB.length) (λ_:Unit=>[(0,dF s),(5,.ref none (AV.one x0::AV.one x1::AV.one x2::AV.one x3::AV.one x4::AV.one x5::rest))]) (λ_ h'=>HI h0 [] h' []) 0 O ⟨H,by omega⟩ ?_ ?_
   .clear H;rintro i h ⟨H,hi⟩ again done;refine ah H O λh H Y=>af O (λhb=>?_) λhb=>?_
    .have ax:i <rB.length:=by simpa using hb
     refine ah H O λh H Y=>?_;obtain⟨tk,rfl⟩:∃tk,x5= .vec tk 1 rB:=j8 mq (by intro q;rw[q]at ax;simp at ax);obtain⟨a,v,ha,hv⟩:=yd hl5 ax;obtain⟨ds,xs,fs,ts,kN,c1,c2,rest,rfl,_⟩:=hv;refine ba (ag.indexAddr O O O O O O (Int.natCast_nonneg _) (by rw[Int.toNat_natCast];exact ha)) O ?_;refine ah H O λh H Y=>ib 46 O <| ah H O λh H Y=>Bl (ag.AR (b:=false) O O O O O O) O <| ah H O λh H Y=>?_;exact again (i+1) (by omega) (HQ.mk O ⟨O,O,O,O,vi (wI (by omega)),trivial⟩) ⟨H,by omega⟩
    .exact ah H O λh H Y=>done () O H
   .clear H;rintro⟨⟩ h H;exact ah H O λh H Y=>ab [] H O ⟨H.kp,.inr ⟨od,_,e,O,hP0⟩⟩
end
end
end
inductive Pure:AV->Prop where
 |bool (b:Bool):Pure (.bool b)
 |int (k:IntKind) (n:Int):Pure (.int k n)
 |str (s:List UInt8):Pure (.str s)
 |bq:Pure .bq
 |ao:Pure .ao
 |bu:Pure .bu
 |vec (sz:Nat) (es:List (List AV)) (h:∀c∈es,∀x∈c,Pure x):Pure (.vec .none sz es)
 |ref (cs:List AV) (h:∀x∈cs,Pure x):Pure (.ref none cs)
 |agg (cs:List AV) (h:∀x∈cs,Pure x):Pure (.agg cs)
 |cN (cs:List AV) (h:∀x∈cs,Pure x):Pure (.cN cs)
 |one (x:AV) (h:Pure x):Pure (.one x)
def Gh.back (g g':Gh):Gh:={g with ext:=g'.ext,cur:=g'.cur,pv:=g'.pv}
theorem VR.pure {g g2:Gh} {w:World} (he:g2.ext=g.ext) {x:AV} {v:Value} (r:VR g w x v) (p:Pure x):VR g2 w x v:=by
 induction r with
 |bool b=>exact .bool b
 |int k n=>exact .int k n
 |OG k n=>exact .OG k n
 |str s=>exact .str s
 |bq=>exact .bq
 |ptr o off b hb=>cases p
 |ref id cells ad vs hc hv ho hm hr hz ih=>cases p with|ref _ h=>exact .ref _ cells ad vs hc (λi hi=>ih i hi (h _ (List.getElem_mem hi))) ho (λi hi=>by rw[he];exact hm i hi) trivial hz
 |ao=>exact .ao
 |vec tk sz elems ad cap vs hs hc hv ho hm hn dY ht hz ih=>cases p with|vec _ _ h=>exact .vec _ sz elems ad cap vs hs hc (λi j hi hj=>ih i j hi hj (h _ (List.getElem_mem hi) _ (List.getElem_mem hj))) ho (λi j hi hj=>by rw[he];exact hm i j hi hj) hn dY trivial hz
 |sl=>cases p
 |ph=>exact .ph
 |map=>cases p
 |vW=>exact .vW
 |pG=>cases p
 |bu=>exact .bu
 |iface=>cases p
 |agg cs vs hn hv ho ih=>cases p with|agg _ h=>exact .agg cs vs hn (λi hi=>ih i hi (h _ (List.getElem_mem hi))) ho
 |cN cs vs hn hv ih=>cases p with|cN _ h=>exact .cN cs vs hn (λi hi=>ih i hi (h _ (List.getElem_mem hi)))
 |one x v h ho ih=>cases p with|one _ q=>exact .one x v (ih q) ho
section
variable {g g':Gh} {w w':World} {h0 h':AH}
theorem vX.back (E:Evc g w g' w') {aw:Nat} (hl:aw <g.nl) (hc:g'.cur aw=g.cur aw) {ad:Addr} {n cap sz:Nat} (t:vX g' w' aw ad n cap sz):vX (g.back g') w' aw ad n cap sz:=by obtain⟨q1,q2,q3⟩:=t;obtain⟨t1,x1⟩:=E.bV aw hl hc;exact⟨q1,by rw[q2,t1];rfl,q3⟩
theorem uA.back (E:Evc g w g' w') (hc:∀l,l <g.nl->g'.cur l=g.cur l) {tk:Tk} {ad SF:Addr} {n cap Jy sz:Nat} (t:uA g' w' tk ad n cap sz) (t0:uA g w tk SF n Jy sz):uA (g.back g') w' tk ad n cap sz:=by
 cases tk with
 |none=>trivial
 |full=>exact t
 |own aw fk=>
  obtain⟨a1,a2,a3,a4,a5⟩:=t;obtain⟨b1,b2,b3,b4,b5⟩:=t0;have e:SF=ad:=by
   have:=E.va _ _ _ b4
   rw[a4]at this;injection this with this
   exact this.symm
  subst e;exact⟨b1,a2,λq1 q2=>(a3 q1 q2).back E b1 (hc _ b1),b4,b5⟩
 |Ld aw fk=>obtain⟨a1,a2,a3⟩:=t;obtain⟨b1,b2,b3⟩:=t0;exact⟨b1,a2,λq1 q2=>(a3 q1 q2).back E b1 (hc _ b1)⟩
theorem VR.back (E:Evc g w g' w') (hc:∀l,l <g.nl->g'.cur l=g.cur l) {x:AV} {v:Value} (r:VR g' w' x v):∀{v0:Value},VR g w x v0->VR (g.back g') w' x v:=by
 induction r with
 |bool b=>intros;exact .bool b
 |int k n=>intros;exact .int k n
 |OG k n=>intros;exact .OG k n
 |str s=>intros;exact .str s
 |bq=>intros;exact .bq
 |ptr o off b hb=>
  intro v0 r0
  cases r0 with
  |ptr _ _ b0 wk=>
   have:=E.ob _ _ wk
   rw[hb]at this;injection this with this
   subst this;exact .ptr o off _ wk
 |ref id cells ad vs h1 hv ho hm hr hz ih=>
  intro v0 r0
  cases r0 with
  |ref _ _ SF SH k1 kv ko km kr kz=>
   refine .ref id cells ad vs h1 (λi hi=>ih i hi (kv i hi)) ho hm ?_ hz
   cases id with
   |none=>trivial
   |some p=>
    have e:SF=ad:=by
     have:=E.va _ _ _ kr.1
     rw[hr.1]at this;injection this with this
     exact this.symm
    subst e;exact kr
 |ao=>intros;exact .ao
 |vec tk sz elems ad cap vs hs h1 hv ho hm hn dY ht hz ih=>
  intro v0 r0
  cases r0 with|vec _ _ _ SF Jy SH ks k1 kv ko km kn aat kt kz=>exact .vec tk sz elems ad cap vs hs h1 (λi j hi hj=>ih i j hi hj (kv i j hi hj)) ho hm hn dY (ht.back E hc kt) hz
 |sl o off n cap ex b rc hb hs hn xb hex dY=>
  intro v0 r0
  cases r0 with
  |sl _ _ _ _ _ b0 rc0 wk hs0 zf aau aav VV=>
   have:=E.ob _ _ wk
   rw[hb]at this;injection this with this
   subst this;exact .sl o off n cap ex _ rc wk hs hn xb hex dY
 |ph=>intros;exact .ph
 |map o b hb=>
  intro v0 r0
  cases r0 with
  |map _ b0 wk=>
   have:=E.ob _ _ wk
   rw[hb]at this;injection this with this
   subst this;exact .map o _ wk
 |vW=>intros;exact .vW
 |pG f eV vs hn hv ih=>
  intro v0 r0
  cases r0 with|pG _ _ SH kn kv=>exact .pG f eV vs hn λi hi=>ih i hi (kv i hi)
 |bu=>intros;exact .bu
 |iface t x v h ih=>
  intro v0 r0
  cases r0 with|iface _ _ v1 k=>exact .iface t x v (ih k)
 |agg cs vs hn hv ho ih=>
  intro v0 r0
  cases r0 with|agg _ SH kn kv ko=>exact .agg cs vs hn (λi hi=>ih i hi (kv i hi)) ho
 |cN cs vs hn hv ih=>
  intro v0 r0
  cases r0 with|cN _ SH kn kv=>exact .cN cs vs hn (λi hi=>ih i hi (kv i hi))
 |one x v h ho ih=>
  intro v0 r0
  cases r0 with|one _ _ k ko=>exact .one x v (ih k) ho
theorem OR.back (E:Evc g w g' w') (hc:∀l,l <g.nl->g'.cur l=g.cur l) {x:mV} {b:Nat} (r:OR g' w' x b) (r0:OR g w x b):OR (g.back g') w' x b:=by cases x with|cells cs=>obtain⟨vs,T,q1,⟨q2,q3⟩,q4⟩:=r;obtain⟨SH,T0,k1,⟨k2,k3⟩,k4⟩:=r0;exact⟨vs,T,q1,⟨q2,λi hi=>(q3 i hi).back E hc (k3 i hi)⟩,q4⟩|map es=>obtain⟨ms,Dg,q1,q2,q3⟩:=r;obtain⟨ms0,aaw,k1,k2,k3⟩:=r0;refine⟨ms,Dg,q1,q2,λi hi=>?_⟩;obtain⟨m,e1,e2,e3⟩:=q3 i hi;obtain⟨m0,f1,f2,f3⟩:=k3 i hi;exact⟨m,e1,e2.back E hc f2,e3.back E hc f3⟩|KM=>exact r|row cap cs=>obtain⟨vs,T,fz,q1,q2,q3,q4⟩:=r;obtain⟨SH,T0,Yi,k1,k2,k3,k4⟩:=r0;exact⟨vs,T,fz,q1,q2,q3,λi hi=>⟨(q4 i hi).1.back E hc (k4 i hi).1,(q4 i hi).2⟩⟩|gone=>exact r|iter s pos=>exact r
theorem Ev.back (E:Ev g w g' w') (hc:∀l,l <g.nl->g'.cur l=g.cur l):Ev g w (g.back g') w' where
 os:=E.os
 tape:=E.tape
 output:=E.output
 size:=E.size
 ob _ _ e:=e
 FB _ _ e:= .inl ⟨_,e⟩
 bl _ _ e:=e
 Rr _ _ e:= .inl e
 va _ _ _ e:=e
 Lf:=E.Lf
 nl:=Nat.le_refl _
 cur:=E.cur
 bV l hl e:=⟨O,(E.bV l hl e).2⟩
 shape:=E.shape
 pv:=E.pv
 QH:=E.QH
 rest:=E.rest
theorem Rel.back (R:Rel g w h0) (R':Rel g' w' h') (E:Ev g w g' w') (k:Kp [] h0 h'):Rel (g.back g') w' h0:=by
 have hc:∀l,l <g.nl->g'.cur l=g.cur l:=λl hl=>by rw[R.nt]at hl;rw[R'.cur l (Nat.lt_of_lt_of_le hl k.nt),R.cur l hl,k.bV l hl]
 have VW:∀o b,g.ob o=some b->h'.get o=h0.get o:=λo b e=>k.get o (R.Ag o b e) (by simp)
 refine⟨λo b e=>?_,R.Bm,R.Ag,λo x e=>?_,R.KN,R.nt,λl hl=>?_,λb l e=>?_,R.Dh,λl v a e=>?_,R'.ext,λj b e=>?_,λa v e=>?_⟩
 .obtain⟨q1,q2,q3⟩:=R.uC o b e;obtain⟨k1,k2,k3⟩:=R'.uC o b (E.ob _ _ e);rw[VW o b e]at k2;exact⟨k1,k2,q3⟩
 .obtain⟨b,hb,ho⟩:=R.obj o x e;obtain⟨b',dk,FQ⟩:=R'.obj o x ((VW o b hb).trans e);have:=E.ob _ _ hb;rw[dk]at this;injection this with this
  subst this;exact⟨_,hb,FQ.back E.toEvc hc ho⟩
 .show g'.cur l=_
  rw[R'.cur l (Nat.lt_of_lt_of_le hl k.nt),k.bV l hl]
 .obtain⟨q1,q2⟩:=R.FT b l e;exact⟨q1,Nat.lt_of_lt_of_le q2 E.size⟩
 .obtain⟨q1,q2⟩:=R.HN l v a e;exact⟨q1,Nat.le_trans q2 (E.cur l q1)⟩
 .obtain⟨q1,q2,q3,q4⟩:=R'.FC j b e;refine⟨q1,q2,?_,λo eo=>q4 o (E.ob _ _ eo)⟩
  cases hb:g.bl j with|none=>exact hb|some l=>have:=E.bl _ _ hb;rw[q3]at this;cases this
 .exact R'.HO a v (by rw[k.aV];exact e)
theorem aP.pure {P:Program} {f:FuncId} {args:List AV} {y:AV} (hy:Pure y) (H:al P f args h0 λv h'=>Kp [] h0 h'/\∀(g:Gh) (w:World) (u:Value),VR g w v u->VR g w y u):aP P f args h0 y h0:=by
 obtain⟨v,h',⟨k,hs⟩,r⟩:=H;intro g w vs R nC;refine Calls.mono (r g w vs R nC) ?_;rintro e w' ⟨u,g',rfl,E,R',V⟩;have hc:∀l,l <g.nl->g'.cur l=g.cur l:=λl hl=>by rw[R.nt]at hl;rw[R'.cur l (Nat.lt_of_lt_of_le hl k.nt),R.cur l hl,k.bV l hl]
 exact⟨u,g.back g',O,E.back hc,R.back R' E k,VR.pure (g:=g') (g2:=g.back g') O (hs _ _ _ V) hy⟩
section
variable {P:Program} {lt:LT} {C:Exit->ay->AH->Prop} {h:AH} {fr:ay} {ks:List Kt}
theorem aF {o:Oper} {ops l:List Oper} {D:List Nat} {f:FuncId} {args:List AV} {v:AV} {d:Tmp} (hc:(eh fr o.op,au ops fr o.guard,o.dst)=(some (f,args),some true,some d)) (hf:eF P f)
 (H:∀h,aP P f args h v h) (K:XS P lt C (.ops ops l D) ks (fr.bf d (.v v)) h):XS P lt C (.ops ops (o::l) D) ks fr h:=by
 injection hc with hc hg
 injection hg with hg hd
 exact ba (λh=>ag.call hc hg hf (H h)) hd K
theorem bG {o:Oper} {ops l:List Oper} {D pre:List Nat} {f:FuncId} {args:List AV} {v:AV} {d:Tmp} (hc:(eh fr o.op,au ops fr o.guard,o.dst)=(some (f,args),some true,some d)) (hf:eF P f)
 (H:∀h,aP P f args h v h) (K:XS P lt C (.eW ops l D (0::pre)) ks (fr.bf d (.v v)) h):XS P lt C (.eW ops (o::l) D pre) ks fr h:=by
 injection hc with hc hg
 injection hg with hg hd
 exact bp (λh=>ag.call hc hg hf (H h)) hd K
end
end
def bS (sz:Nat):List (List AV)->AV
 |[]=> .ao
 |c::r=> .vec .none sz (c::r)
mutual
def gn.cs:gn->List AV
 | .mk n e b=>[.str n,.one (bS 3 (gn.MS e)),.bool b]
def gn.MS:List gn->List (List AV)
 |[]=>[]
 |t::ts=>gn.cs t::gn.MS ts
end
mutual
def dM.cs:dM->List AV
 | .mk k r ks=>[.int .i64 k,.str r,.one (bS 4 (dM.MS ks))]
def dM.MS:List (ak×dM)->List (List AV)
 |[]=>[]
 |(n,v)::ks=>(.str n::dM.cs v)::dM.MS ks
end
def bD (p:ak×dM):List AV:= .str p.1::p.2.cs
theorem gn.G7 (l:List gn):gn.MS l=l.map gn.cs:=by induction l with|nil=>simp[gn.MS]|cons t l ih=>simp[gn.MS,ih]
theorem dM.G7 (l:List (ak×dM)):dM.MS l=l.map bD:=by induction l with|nil=>simp[dM.MS]|cons t l ih=>obtain⟨n,v⟩:=t;simp[dM.MS,ih,bD]
theorem gn.fO (n:ak) (e:List gn) (b:Bool):(gn.mk n e b).cs=[.str n,.one (bS 3 (e.map gn.cs)),.bool b]:=by simp only[gn.cs,gn.G7]
theorem dM.fO (k:Int) (r:ak) (ks:List (ak×dM)):(dM.mk k r ks).cs=[.int .i64 k,.str r,.one (bS 4 (ks.map bD))]:=by simp only[dM.cs,dM.G7]
theorem gn.shape (t:gn):∃n z b,t.cs=[.str n,.one z,.bool b]:=by obtain⟨n,e,b⟩:=t;exact⟨_,_,_,gn.fO n e b⟩
theorem dM.shape (t:dM):∃k r z,t.cs=[.int .i64 k,.str r,.one z]:=by obtain⟨n,e,b⟩:=t;exact⟨_,_,_,dM.fO n e b⟩
def aM (s:ak):List AV:=[.str s]
def gx.cs (a:gx):List AV:= .str a.name::a.v.cs
def kl.cs (a:kl):List AV:=[.str a.name,.one (bS 4 (a.args.map gx.cs))]
def aW.cs (a:aW):List AV:= .str a.doc:: .str a.name::(a.t.cs++[.one (bS 3 (a.vY.map dM.cs)),.one (bS 2 (a.cJ.map kl.cs))])
def jV.cs (a:jV):List AV:= .str a.doc:: .str a.name:: .one (bS 7 (a.args.map aW.cs)):: .one (bS 3 (a.vY.map dM.cs))::(a.t.cs++[.one (bS 2 (a.cJ.map kl.cs))])
def cg.cs (a:cg):List AV:=[.str a.doc,.str a.name,.one (bS 2 (a.cJ.map kl.cs))]
def Def.cs (a:Def):List AV:=[.str a.kind,.str a.doc,.str a.name,.one (bS 2 (a.cJ.map kl.cs)),.one (bS 1 (a.ifaces.map aM)),.one (bS 8 (a.fields.map jV.cs)),.one (bS 1 (a.types.map aM)),.one (bS 3 (a.enums.map cg.cs))]
def dn.cs (a:dn):List AV:=[.str a.doc,.str a.name,.one (bS 7 (a.args.map aW.cs)),.one (bS 1 (a.sf.map aM)),.bool a.rep]
def fD.cs (a:fD):List AV:=[.str a.op,.str a.t]
def av.cs (a:av):List AV:=[.str a.doc,.one (bS 2 (a.cJ.map kl.cs)),.one (bS 2 (a.roots.map fD.cs))]
def bY.cs (a:bY):List AV:=[.one (bS 3 (a.defs.map av.cs)),.one (bS 3 (a.exts.map av.cs)),.one (bS 5 (a.cJ.map dn.cs)),.one (bS 8 (a.types.map Def.cs)),.one (bS 8 (a.aK.map Def.cs))]
def fy (cs:List AV):Prop:=∀x∈cs,Pure x
theorem fy.nil:fy []:=λ_ h=>by simp at h
theorem fy.cons {x:AV} {cs:List AV} (h:Pure x) (hs:fy cs):fy (x::cs):=λy hy=>by
 rcases List.mem_cons.1 hy with rfl|hy
 .exact h
 .exact hs y hy
theorem fy.app {a b:List AV} (h:fy a) (hs:fy b):fy (a++b):=λy hy=>by
 rcases List.mem_append.1 hy with hy|hy
 .exact h y hy
 .exact hs y hy
theorem Ex {sz:Nat} {es:List (List AV)} (h:∀c∈es,fy c):Pure (bS sz es):=by cases es with|nil=>exact .ao|cons c r=>exact .vec sz _ λc hc=>h c hc
theorem bM {α:Type} {sz:Nat} {f:α->List AV} {l:List α} (h:∀a∈l,fy (f a)):Pure (.one (bS sz (l.map f))):= .one _ (Ex λc hc=>by obtain⟨a,ha,rfl⟩:=List.mem_map.1 hc;exact h a ha)
theorem gn.Ey:∀(N:Nat) (t:gn),SizeOf.sizeOf t <N->fy t.cs
 |0,t,h=>by omega
 |N+1,.mk n e b,h=>by rw[gn.fO];refine .cons (.str _) (.cons (bM λa ha=>gn.Ey N a ?_) (.cons (.bool _) .nil));have:=List.sizeOf_lt_of_mem ha;simp at h;omega
theorem gn.pure (t:gn):fy t.cs:=gn.Ey _ t (Nat.lt_succ_self _)
theorem G8 {ks:List (ak×dM)} {p:ak×dM} {k:Int} {r:ak} (h:p∈ks):SizeOf.sizeOf p.2 <SizeOf.sizeOf (dM.mk k r ks):=by
 have:=List.sizeOf_lt_of_mem h
 obtain⟨a,b⟩:=p;simp at this|-;omega
theorem dM.Ey:∀(N:Nat) (t:dM),SizeOf.sizeOf t <N->fy t.cs
 |0,t,h=>by omega
 |N+1,.mk k r ks,h=>by rw[dM.fO];refine .cons (.int _ _) (.cons (.str _) (.cons (bM λa ha=> .cons (.str _) (dM.Ey N a.2 ?_)) .nil));have:=G8 (k:=k) (r:=r) ha;omega
theorem dM.pure (t:dM):fy t.cs:=dM.Ey _ t (Nat.lt_succ_self _)
theorem gx.pure (a:gx):fy a.cs:= .cons (.str _) a.v.pure
theorem kl.pure (a:kl):fy a.cs:= .cons (.str _) (.cons (bM λa _=>a.pure) .nil)
theorem aW.pure (a:aW):fy a.cs:= .cons (.str _) (.cons (.str _) (.app a.t.pure (.cons (bM λa _=>a.pure) (.cons (bM λa _=>a.pure) .nil))))
theorem jV.pure (a:jV):fy a.cs:= .cons (.str _) (.cons (.str _) (.cons (bM λa _=>a.pure) (.cons (bM λa _=>a.pure) (.app a.t.pure (.cons (bM λa _=>a.pure) .nil)))))
theorem cg.pure (a:cg):fy a.cs:= .cons (.str _) (.cons (.str _) (.cons (bM λa _=>a.pure) .nil))
theorem oE (s:ak):fy (aM s):= .cons (.str _) .nil
theorem Def.pure (a:Def):fy a.cs:= .cons (.str _) (.cons (.str _) (.cons (.str _) (.cons (bM λa _=>a.pure) (.cons (bM λa _=>oE a) (.cons (bM λa _=>a.pure) (.cons (bM λa _=>oE a) (.cons (bM λa _=>a.pure) .nil)))))))
theorem dn.pure (a:dn):fy a.cs:= .cons (.str _) (.cons (.str _) (.cons (bM λa _=>a.pure) (.cons (bM λa _=>oE a) (.cons (.bool _) .nil))))
theorem fD.pure (a:fD):fy a.cs:= .cons (.str _) (.cons (.str _) .nil)
theorem av.pure (a:av):fy a.cs:= .cons (.str _) (.cons (bM λa _=>a.pure) (.cons (bM λa _=>a.pure) .nil))
theorem bY.pure (a:bY):fy a.cs:= .cons (bM λa _=>a.pure) (.cons (bM λa _=>a.pure) (.cons (bM λa _=>a.pure) (.cons (bM λa _=>a.pure) (.cons (bM λa _=>a.pure) .nil))))
theorem j9 {tk:Tk} {sz:Nat} {es:List (List AV)}:ee (.vec tk sz es) (.vec .none sz es):=λg w v h=>by cases h with|vec _ _ _ ad cap vs hs hc hv ho hm hn dY ht hz=>exact .vec .none sz es ad cap vs hs hc hv ho hm hn dY trivial hz
theorem aG.qe {h0 h:AH} {sz:Nat} {x:AV} {es:List (List AV)} (g:aG h0 h sz x es) (cv:∀tk,x= .vec tk sz es->es≠[]):ee x (bS sz es):=by
 rcases g with⟨rfl,rfl⟩|⟨aw,fk,hx,_⟩
 .exact λ_ _ _ h=>h
 .obtain⟨tk,rfl⟩:∃tk,x= .vec tk sz es:=hx.elim (λh=>⟨_,h⟩) (λh=>⟨_,h⟩);have:=cv _ O
  cases es with|nil=>exact absurd O this|cons c r=>exact j9
theorem jD {x y:AV} (h:ee x y) (hx:x= .ao\/∃tk sz es,x= .vec tk sz es):ee x (.one y):=λg w v hv=>by refine .one _ _ (h g w v hv) ?_;rcases hx with rfl|⟨tk,sz,es,rfl⟩<;>cases hv<;>rfl
theorem aG.YV {h0 h:AH} {sz:Nat} {x:AV} {es:List (List AV)} (g:aG h0 h sz x es):x= .ao\/∃tk sz es,x= .vec tk sz es:=by
 rcases g.form with h|⟨tk,h⟩
 .exact .inl h
 .exact .inr ⟨_,_,_,h⟩
theorem bj {x y:AV} (h:ee x y):KT x (.one y):=λg w v hv ho=> .one _ _ (h g w v hv) ho
section
attribute [local irreducible] AC AL AW AD aP
section
variable {P:Program} {lt:LT} {C:Exit->ay->AH->Prop} {h h0 hb:AH} {fr:ay} {ks:List Kt} {ids:List Nat} {V V' V0 V1:View}
theorem rW {o:Oper} {ops l:List Oper} {D:List Nat} {x:AV} {d:Tmp} (hw:au ops fr o.guard=some true) (hx:∀h,fi P fr h o.op=some (.v (.one x))) (hs:jY lt o.dst (.v (.one x))=true) (hn:∀h,gL P lt fr h o.dst o.op=iz P fr h o.op) (hd:o.dst=some d)
 (K:XS P lt C (.ops ops l D) ks (fr.bf d (.v x)) h):XS P lt C (.ops ops (o::l) D) ks fr h:=
 ba (λh=>ag.ku hd qR (ag.pure hw hx hs hn h)) hd K
theorem Oe {o:Oper} {ops l:List Oper} {D pre:List Nat} {x:AV} {d:Tmp} (hw:au ops fr o.guard=some true) (hx:∀h,fi P fr h o.op=some (.v (.one x))) (hs:jY lt o.dst (.v (.one x))=true) (hn:∀h,gL P lt fr h o.dst o.op=iz P fr h o.op) (hd:o.dst=some d)
 (K:XS P lt C (.eW ops l D (0::pre)) ks (fr.bf d (.v x)) h):XS P lt C (.eW ops (o::l) D pre) ks fr h:=
 bp (λh=>ag.ku hd qR (ag.pure hw hx hs hn h)) hd K
variable {cur dE:Dj} {ji:List Kt} {aB:ay} {n':Nat}
theorem HI.comb (H:HI h0 ids hb V0) (G:HI hb [] h V1):HI h0 ids h (V0++V1):=by
 have H2:=H.same G.kp
 refine⟨HV.of (λe he=>?_) ?_,H2.kp,λe he=>?_⟩
 .rcases List.mem_append.1 he with he|he
  .exact H2.hv.get he
  .exact G.hv.get he
 .rw[List.map_append,List.nodup_append];refine⟨H.hv.nodup,G.hv.nodup,λx hx y hy=>?_⟩;obtain⟨e,he,rfl⟩:=List.mem_map.1 hx;obtain⟨e2,Ii,rfl⟩:=List.mem_map.1 hy;have h1:=(H.hv.get he).2;rcases G.new _ Ii with h2|h2
  .simp at h2
  .omega
 .rcases List.mem_append.1 he with he|he
  .exact H.new e he
  .rcases G.new e he with h2|h2
   .simp at h2
   .exact .inr (Nat.le_trans H.kp.n h2)
end
theorem ck {h0 h:AH} {sz:Nat} {x:AV} {os:List (List AV)} {c:List AV} (g:aG h0 h sz x (os++[c])):∃tk,x= .vec tk sz (os++[c]):=by
 rcases g with⟨_,h⟩|⟨aw,fk,rfl|rfl,_⟩
 .simp at h
 .exact⟨_,O⟩
 .exact⟨_,O⟩
def bJ (h0 h:AH) (sz:Nat) (x:AV) (os:List (List AV)):Prop:=aG h0 h sz x os/\ee x (bS sz os)
theorem bJ.nil {h0 h:AH} {sz:Nat}:bJ h0 h sz .ao []:=⟨.inl ⟨O,O⟩,λ_ _ _ h=>h⟩
theorem aG.pE {h0 h:AH} {sz:Nat} {x:AV} {os:List (List AV)} {c:List AV} (g:aG h0 h sz x (os++[c])):bJ h0 h sz x (os++[c]):=⟨g,g.qe λ_ _=>by simp⟩
theorem bJ.kp {h0 h h1:AH} {sz:Nat} {x:AV} {os:List (List AV)} {ids:List Nat} (g:bJ h0 h sz x os) (k:Kp ids h h1):bJ h0 h1 sz x os:=⟨g.1.kp k,g.2⟩
theorem bJ.eq {h0 h h1:AH} {sz:Nat} {x:AV} {os:List (List AV)} (g:bJ h0 h sz x os) (e1:h1.nt=h.nt) (e2:h1.bV=h.bV):bJ h0 h1 sz x os:=⟨g.1.eq e1 e2,g.2⟩
instance {h h':AH} {h0:AH} {sz:Nat} {x:AV} {os:List (List AV)}:Nx h h' (bJ h0 h sz x os) (bJ h0 h' sz x os):=⟨λg=>g.eq⟩
instance {h h':AH} {h0:AH} {sz:Nat} {x:AV} {os:List (List AV)}:Nx h h' (bJ h0 h sz x os) (bJ h0 h' sz x os):=⟨λg=>g.eq⟩
theorem bJ.ku {h0 h:AH} {sz:Nat} {x:AV} {os:List (List AV)} (g:bJ h0 h sz x os):KT x (.one (bS sz os)):=bj g.2
theorem bJ.qe {h0 h:AH} {sz:Nat} {x:AV} {os:List (List AV)} (g:bJ h0 h sz x os):ee x (.one (bS sz os)):=jD g.2 g.1.YV
theorem gu {α:Type} {Rl:α->AV->Prop}:∀{l:List α} {es:List (List AV)} {i:Nat},bx (PE Rl) l es->i <es.length->∃a v,l[i]? =some a/\es[i]? =some [v]/\Rl a v
 |[],[],i,_,h=>by simp at h
 |a::l,c::es,0,⟨⟨v,h1,h2⟩,_⟩,_=>⟨a,v,O,by simp[h1],h2⟩
 |a::l,c::es,i+1,⟨_,h⟩,hi=>by obtain⟨b,v,q0,q1,q2⟩:=gu h (by simpa using hi);exact⟨b,v,by simpa using q0,by simpa using q1,q2⟩
 |[],_::_,_,h,_=>h.elim
 |_::_,[],_,h,_=>h.elim
theorem AT {α:Type} {Rl:α->List AV->Prop}:∀{l:List α} {es:List (List AV)} {i:Nat},bx Rl l es->i <es.length->∃a c,l[i]? =some a/\es[i]? =some c/\Rl a c
 |[],[],i,_,h=>by simp at h
 |a::l,c::es,0,⟨h1,_⟩,_=>⟨a,c,O,O,h1⟩
 |a::l,c::es,i+1,⟨_,h⟩,hi=>by obtain⟨b,v,q0,q1,q2⟩:=AT h (by simpa using hi);exact⟨b,v,by simpa using q0,by simpa using q1,q2⟩
 |[],_::_,_,h,_=>h.elim
 |_::_,[],_,h,_=>h.elim
theorem gi {α β:Type} {f:α->β} {l:List α} {i:Nat} {a:α} (h:l[i]? =some a):(l.take (i+1)).map f=(l.take i).map f++[f a]:=by rw[List.take_add_one,h];simp
theorem iQ {α β:Type} {f:α->β} {l:List α} {i:Nat}:((l.take i).map f).length<=i:=by simp;omega
theorem iR {α β:Type} {f:α->β} {l:List α} {n:Nat} (h:n=l.length):(l.take n).map f=l.map f:=by rw[h,List.take_length]
theorem PH {R:List (List AV)->Prop} {x:AV} (h:RU 1 R x):∃es,aY 1 x=some es/\es.length<=4294967296/\R es:=by
 rcases h with⟨rfl,h⟩|⟨tk,es,rfl,hb,h⟩
 .exact⟨[],O,by simp,h⟩
 .exact⟨es,O,hb,h⟩
section
variable {h h0:AH}
theorem AU {t:gn} {y:AV} (H:GI t y):∀h0:AH,aP prog 77 [y] h0 (.agg t.cs) h0:=by
 induction H with
 |name n b rest=>intro h0;refine aP.pure (.agg _ (gn.pure _)) ?_;rw[gn.fO];refine az (n:=26) (rs:=[.cell 2 135]) [] ⟨func77,O,O,O⟩ O <| have H:HI h0 [] h0 []:=HI.nil;Ob 0 O ?_;refine an [1] H O λh H Y=>ib 16 O <| ah H O λh H Y=>cX O ?_;exact jK 1 [.str n,.one .ao,.bool b] H O O ⟨.refl _,.one _,.refl _,trivial⟩ λh H Y=>an [1,0] H O λh H Y=>ab [0] H O ⟨H.kp,λ_ _ _ h=>h⟩
 |list t z b rest hz ih=>
  intro h0;refine aP.pure (.agg _ (gn.pure _)) ?_;rw[gn.fO];refine az (n:=26) (rs:=[.cell 2 135]) [] ⟨func77,O,O,O⟩ O ?_;have H:HI h0 [] h0 []:=HI.nil;have hz0:=hz;obtain⟨zc,hzc⟩:∃zc,z= .ref none zc:=by cases hz with|name=>exact⟨_,O⟩|list=>exact⟨_,O⟩
  subst hzc;refine Ob 0 O <| an [1] H O λh H Y=>ib 16 O <| an [91] H O λh H Y=>?_;obtain⟨n1,x1,b1,e1⟩:=t.shape;rw[e1]at ih;refine aF O call77 ih <| TW 5 [1] H O λh H Y=>?_;refine jK 1 [.str [],.one (bS 3 ([t].map gn.cs)),.bool b] H O O ⟨.refl _,bj ?_,.refl _,trivial⟩ ?_
  .show ee _ (.vec .none 3 [t.cs])
   rw[e1];exact j9
  clear H;intro h H Y;exact an [1,0] H O λh H Y=>ab [0] H O ⟨H.kp,λ_ _ _ h=>h⟩
end
section
variable {h h0:AH}
theorem Ha:∀(N:Nat) (t:dM) (y:AV),SizeOf.sizeOf t <N->iB t y->∀h0:AH,aP prog 128 [y] h0 (.agg t.cs) h0:=by
 intro N
 induction N with
 |zero=>intro t y h;omega
 |succ N ih=>
 intro t y hN hP h0;obtain⟨k,r,ks,z,rest,rfl,rfl,hz⟩:=hP.out;obtain⟨es,hE,hb,hl⟩:=PH hz;have tM:=hl.len;refine aP.pure (.agg _ (dM.pure _)) ?_;rw[dM.fO];refine az (n:=41) (rs:=[.cell 2 202]) [] ⟨func128,O,O,O⟩ O <| have H:HI h0 [] h0 []:=HI.nil;Ob 0 O ?_;refine an [1] H O λh H Y=>dz O O O O O hE O O O <| ib 18 O <| ah H O λh H Y=>aC 41 (λq:Nat×AV=>es.length -q.1) (λq=>[(0,.ref none (.str r:: .one z:: .int .i64 k::rest)),(2,.ptr h0.n 0),(3,.ptr (h0.n+1) 0),(18,z),(19,.int .i64 (es.length:Nat)),(20,.int .i64 (q.1:Nat))])
  (λq h'=>HI h0 [] h' [(h0.n,[.int .i64 0,.str [],.ao]),(h0.n+1,[.int .i64 k,.str r,q.2])]/\q.1<=es.length/\bJ h0 h' 4 q.2 ((ks.take q.1).map bD))
  (λq:AV=>[(0,.ref none (.str r:: .one z:: .int .i64 k::rest)),(2,.ptr h0.n 0),(3,.ptr (h0.n+1) 0)])
  (λq h'=>HI h0 [] h' [(h0.n,[.int .i64 0,.str [],.ao]),(h0.n+1,[.int .i64 k,.str r,q])]/\bJ h0 h' 4 q (ks.map bD)) (0,.ao) O ⟨H,by omega,.nil⟩ ?_ ?_
 .clear H;rintro⟨i,x⟩ h ⟨H,hi,G⟩ again done;simp only at G hi;refine aH H G O λh H G Y=>af O (λaT=>?_) λaT=>?_
  .have ax:i <es.length:=by simpa using aT
   refine aH H G O λh H G Y=>?_;obtain⟨tk,rfl⟩:∃tk,z= .vec tk 1 es:=j8 hE (by intro q;rw[q]at ax;simp at ax);obtain⟨a,c,IE,ha,hv⟩:=AT hl ax;obtain⟨zz,IF,rfl,VY⟩:=hv;refine ba (ag.indexAddr O O O O O O (Int.natCast_nonneg _) (by rw[Int.toNat_natCast];exact ha)) O ?_;refine rW O (λ_=>rfl) O (λ_=>rfl) O <| bm [1] H G O λh H G Y=>?_;have hq:=ih a.2 _ (by have:=G8 (k:=k) (r:=r) (List.mem_of_getElem? IE);omega) VY;obtain⟨k1,r1,x1,e1⟩:=a.2.shape;rw[e1]at hq;refine bG O call128 hq <| aH H G O λh H G Y=>qA H O O O O O O O G.1 ?_ ?_
   .have:=iQ (f:=bD) (l:=ks) (i:=i)
    show(_+1)*(64+1)<=140737488355328;omega
   clear H G;intro x' h H G n_;replace G:aG h0 h 4 x' ((ks.take i).map bD++[bD a]):=by unfold bD;rw[e1];exact G
   obtain⟨pz,rfl⟩:=ck G;replace G:=G.pE;refine bm [1] H G O λh H G Y=>?_;refine again (i+1,_) ?_ (HQ.mk O ⟨O,O,O,O,O,vi (wI (by omega)),trivial⟩) ⟨H,by simp only;omega,?_⟩
   .simp only;omega
   .simp only;rw[gi IE];exact G
  .have ax:¬ i <es.length:=by simpa using aT
   obtain rfl:i=es.length:=by omega
   refine aH H G O λh H G Y=>?_;rw[iR tM]at G;exact done x O ⟨H,G⟩
 .clear H;rintro x h ⟨H,G⟩;exact jK 1 [.int .i64 k,.str r,.one (bS 4 (ks.map bD))] H O O ⟨.refl _,.refl _,G.ku,trivial⟩ λh H Y=>an [1,0] H O λh H Y=>ab [0] H O ⟨H.kp,λ_ _ _ h=>h⟩
theorem AX {t:dM} {y:AV} (h:iB t y):∀h0:AH,aP prog 128 [y] h0 (.agg t.cs) h0:=Ha _ t y (Nat.lt_succ_self _) h
end
section
variable {h h0:AH}
theorem Hb {l:List gx} {z:AV} (hz:my MF l z):∀h0:AH,aP prog 127 [.one z] h0 (.one (bS 4 (l.map gx.cs))) h0:=by
 intro h0;refine aP.pure (bM λa _=>a.pure) ?_;obtain⟨es,hE,hb,hl⟩:=hz.out;have tM:=hl.len;refine az (n:=27) (rs:=[.tmp 2]) [] ⟨func127,O,O,O⟩ O <| have H:HI h0 [] h0 []:=HI.nil;ah H O λh H Y=>?_;refine dz O O O O O hE O O O <| ib 6 O <| ah H O λh H Y=>aC 27 (λq:Nat×AV=>es.length -q.1) (λq=>[(0,.one z),(3,q.2),(6,z),(7,.int .i64 (es.length:Nat)),(8,.int .i64 (q.1:Nat))])
  (λq h'=>HI h0 [] h' []/\q.1<=es.length/\bJ h0 h' 4 q.2 ((l.take q.1).map gx.cs))
  (λq:AV=>[(0,.one z),(3,q)])
  (λq h'=>HI h0 [] h' []/\bJ h0 h' 4 q (l.map gx.cs)) (0,.ao) O ⟨H,by omega,.nil⟩ ?_ ?_
 .clear H;rintro⟨i,x⟩ h ⟨H,hi,G⟩ again done;simp only at G hi;refine aH H G O λh H G Y=>af O (λaT=>?_) λaT=>?_
  .have ax:i <es.length:=by simpa using aT
   refine aH H G O λh H G Y=>?_;obtain⟨tk,rfl⟩:∃tk,z= .vec tk 1 es:=j8 hE (by intro q;rw[q]at ax;simp at ax);obtain⟨a,v,IE,ha,hv⟩:=gu hl ax;obtain⟨zz,rest,rfl,VY⟩:=hv;refine ba (ag.indexAddr O O O O O O (Int.natCast_nonneg _) (by rw[Int.toNat_natCast];exact ha)) O ?_;refine rW O (λ_=>rfl) O (λ_=>rfl) O <| aH H G O λh H G Y=>?_;have Ez:=AX VY;obtain⟨k1,r1,x1,e1⟩:=a.v.shape;rw[e1]at Ez;refine bG O call128 Ez <| aH H G O λh H G Y=>qA H O O O O O O O G.1 ?_ ?_
   .have:=iQ (f:=gx.cs) (l:=l) (i:=i)
    show(_+1)*(64+1)<=140737488355328;omega
   clear H G;intro x' h H G n_;replace G:aG h0 h 4 x' ((l.take i).map gx.cs++[gx.cs a]):=by unfold gx.cs;rw[e1];exact G
   replace G:=G.pE;refine aH H G O λh H G Y=>?_;refine again (i+1,x') ?_ (HQ.mk O ⟨O,O,O,O,vi (wI (by omega)),trivial⟩) ⟨H,by simp only;omega,?_⟩
   .simp only;omega
   .simp only;rw[gi IE];exact G
  .have ax:¬ i <es.length:=by simpa using aT
   obtain rfl:i=es.length:=by omega
   refine aH H G O λh H G Y=>?_;rw[iR tM]at G;exact done x O ⟨H,G⟩
 .clear H;rintro x h ⟨H,G⟩;exact aH H G O λh H G Y=>ab [] H O ⟨H.kp,G.qe⟩
theorem l9 {l:List kl} {z:AV} (hz:my xY l z):∀h0:AH,aP prog 75 [.one z] h0 (.one (bS 2 (l.map kl.cs))) h0:=by
 intro h0;refine aP.pure (bM λa _=>a.pure) ?_;obtain⟨es,hE,hb,hl⟩:=hz.out;have tM:=hl.len;refine az (n:=27) (rs:=[.tmp 2]) [] ⟨func75,O,O,O⟩ O <| have H:HI h0 [] h0 []:=HI.nil;ah H O λh H Y=>?_;refine dz O O O O O hE O O O <| ib 6 O <| ah H O λh H Y=>aC 27 (λq:Nat×AV=>es.length -q.1) (λq=>[(0,.one z),(3,q.2),(6,z),(7,.int .i64 (es.length:Nat)),(8,.int .i64 (q.1:Nat))])
  (λq h'=>HI h0 [] h' []/\q.1<=es.length/\bJ h0 h' 2 q.2 ((l.take q.1).map kl.cs))
  (λq:AV=>[(0,.one z),(3,q)])
  (λq h'=>HI h0 [] h' []/\bJ h0 h' 2 q (l.map kl.cs)) (0,.ao) O ⟨H,by omega,.nil⟩ ?_ ?_
 .clear H;rintro⟨i,x⟩ h ⟨H,hi,G⟩ again done;simp only at G hi;refine aH H G O λh H G Y=>af O (λaT=>?_) λaT=>?_
  .have ax:i <es.length:=by simpa using aT
   refine aH H G O λh H G Y=>?_;obtain⟨tk,rfl⟩:∃tk,z= .vec tk 1 es:=j8 hE (by intro q;rw[q]at ax;simp at ax);obtain⟨a,v,IE,ha,hv⟩:=gu hl ax;obtain⟨zz,rest,rfl,VY⟩:=hv;refine ba (ag.indexAddr O O O O O O (Int.natCast_nonneg _) (by rw[Int.toNat_natCast];exact ha)) O ?_;refine rW O (λ_=>rfl) O (λ_=>rfl) O <| aH H G O λh H G Y=>bG O call127 (Hb VY) <| aH H G O λh H G Y=>qA H O O O O O O O G.1 ?_ ?_
   .have:=iQ (f:=kl.cs) (l:=l) (i:=i)
    show(_+1)*(40+1)<=140737488355328;omega
   clear H G;intro x' h H G n_;replace G:aG h0 h 2 x' ((l.take i).map kl.cs++[kl.cs a]):=by unfold kl.cs;exact G
   replace G:=G.pE;refine aH H G O λh H G Y=>?_;refine again (i+1,x') ?_ (HQ.mk O ⟨O,O,O,O,vi (wI (by omega)),trivial⟩) ⟨H,by simp only;omega,?_⟩
   .simp only;omega
   .simp only;rw[gi IE];exact G
  .have ax:¬ i <es.length:=by simpa using aT
   obtain rfl:i=es.length:=by omega
   refine aH H G O λh H G Y=>?_;rw[iR tM]at G;exact done x O ⟨H,G⟩
 .clear H;rintro x h ⟨H,G⟩;exact aH H G O λh H G Y=>ab [] H O ⟨H.kp,G.qe⟩
theorem vK {l:List dM} {z:AV} (hz:MG l z):∀h0:AH,aP prog 76 [.one z] h0 (.one (bS 3 (l.map dM.cs))) h0:=by
 intro h0;refine aP.pure (bM λa _=>a.pure) ?_;rcases hz with⟨rfl,rfl⟩|⟨w,rfl,hw⟩
 .refine az (n:=8) (rs:=[.tmp 2]) [] ⟨func76,O,O,O⟩ O <| have H:HI h0 [] h0 []:=HI.nil;Ob 0 O ?_;exact an [91] H O λh H Y=>ab [] H O ⟨H.kp,jD (λ_ _ _ h=>h) (.inl O)⟩
 .obtain⟨k,r,ks,x,rest,e,e2,hx⟩:=hw.out;injection e2 with e2
  subst e2;refine az (n:=8) (rs:=[.tmp 2]) [] ⟨func76,O,O,O⟩ O <| have H:HI h0 [] h0 []:=HI.nil;ah H O λh H Y=>?_;refine ib 3 O <| an [90] H O λh H Y=>?_;have hq:=AX hw;obtain⟨k1,r1,x1,e1⟩:=w.shape;rw[e1]at hq;refine aF O call128 hq <| ah H O λh H Y=>ab [] H O ⟨H.kp,jD ?_ (.inr ⟨_,_,_,O⟩)⟩;show ee _ (.vec .none 3 [w.cs]);rw[e1];exact j9
theorem rR {l:List aW} {z:AV} (hz:my qT l z):∀h0:AH,aP prog 35 [.one z] h0 (.one (bS 7 (l.map aW.cs))) h0:=by
 intro h0;refine aP.pure (bM λa _=>a.pure) ?_;obtain⟨es,hE,hb,hl⟩:=hz.out;have tM:=hl.len;refine az (n:=41) (rs:=[.tmp 2]) [] ⟨func35,O,O,O⟩ O <| have H:HI h0 [] h0 []:=HI.nil;ah H O λh H Y=>?_;refine dz O O O O O hE O O O <| ib 6 O <| ah H O λh H Y=>aC 41 (λq:Nat×AV=>es.length -q.1) (λq=>[(0,.one z),(3,q.2),(6,z),(7,.int .i64 (es.length:Nat)),(8,.int .i64 (q.1:Nat))])
  (λq h'=>HI h0 [] h' []/\q.1<=es.length/\bJ h0 h' 7 q.2 ((l.take q.1).map aW.cs))
  (λq:AV=>[(0,.one z),(3,q)])
  (λq h'=>HI h0 [] h' []/\bJ h0 h' 7 q (l.map aW.cs)) (0,.ao) O ⟨H,by omega,.nil⟩ ?_ ?_
 .clear H;rintro⟨i,x⟩ h ⟨H,hi,G⟩ again done;simp only at G hi;refine aH H G O λh H G Y=>af O (λaT=>?_) λaT=>?_
  .have ax:i <es.length:=by simpa using aT
   refine aH H G O λh H G Y=>?_;obtain⟨tk,rfl⟩:∃tk,z= .vec tk 1 es:=j8 hE (by intro q;rw[q]at ax;simp at ax);obtain⟨a,v,IE,ha,hv⟩:=gu hl ax;obtain⟨df,ty,ds,rest,rfl,hdf,hty,Rx⟩:=hv;refine ba (ag.indexAddr O O O O O O (Int.natCast_nonneg _) (by rw[Int.toNat_natCast];exact ha)) O ?_;refine rW O (λ_=>rfl) O (λ_=>rfl) O <| aH H G O λh H G Y=>?_;have Ez:=AU hty;obtain⟨n1,x1,b1,e1⟩:=a.t.shape;rw[e1]at Ez;refine bG O call77 Ez <| aH H G O λh H G Y=>bG O call76 (vK hdf) <| aH H G O λh H G Y=>bG O call75 (l9 Rx) <| aH H G O λh H G Y=>qA H O O O O O O O G.1 ?_ ?_
   .have:=iQ (f:=aW.cs) (l:=l) (i:=i)
    show(_+1)*(128+1)<=140737488355328;omega
   clear H G;intro x' h H G n_;replace G:aG h0 h 7 x' ((l.take i).map aW.cs++[aW.cs a]):=by unfold aW.cs;rw[e1];exact G
   replace G:=G.pE;refine aH H G O λh H G Y=>?_;refine again (i+1,x') ?_ (HQ.mk O ⟨O,O,O,O,vi (wI (by omega)),trivial⟩) ⟨H,by simp only;omega,?_⟩
   .simp only;omega
   .simp only;rw[gi IE];exact G
  .have ax:¬ i <es.length:=by simpa using aT
   obtain rfl:i=es.length:=by omega
   refine aH H G O λh H G Y=>?_;rw[iR tM]at G;exact done x O ⟨H,G⟩
 .clear H;rintro x h ⟨H,G⟩;exact aH H G O λh H G Y=>ab [] H O ⟨H.kp,G.qe⟩
end
end
section
variable {g g':Gh} {w w':World} {h0 h h':AH}
theorem DR.back (E:Evc g w g' w') (hc:∀l,l <g.nl->g'.cur l=g.cur l):∀{l:List (FuncId×List AV)} {ds ds0:List Deferred},DR g' w' l ds->DR g w l ds0->DR (g.back g') w' l ds
 |[],_,_,r,_=>r
 |(_,_)::_,_,_,⟨us,cs,as_,QI,h1,h2,h3,h4⟩,⟨us0,Xc,as1,aax,k1,k2,k3,k4⟩=>⟨us,cs,as_,QI,h1,⟨h2.1,λi hi=>(h2.2 i hi).back E hc (k2.2 i hi)⟩,h3,h4.back E hc k4⟩
variable {P:Program} {ops:List Oper} {o:Oper} {fr:ay}
theorem ag.back {x y:AV} {d:Tmp} (hd:o.dst=some d) (hy:Pure y) (k:Kp [] h h') (hs:ee x y) (st:ag P [] ops o fr h (.v x) h'):ag P [] ops o fr h (.v y) h:=by
 intro aB e1 e2 e3 g0 w0 a w Q K S hK;obtain⟨g,lb,E,R,F⟩:=S;have SI:∀k d off,aB.f k≠ .lp d off:=λk d off e=>by
  have:=F.hold k d off e
  simp[LT.ki]at this
 have S0:∀k,k <aB.n->VS g w (λ_=>none) (aB.f k) (a.tmps.getD k undef):=λk hk=>by
  have:=F.slot k hk
  cases e:aB.f k with|v z=>rw[e]at this;exact this|lp d off=>exact absurd e (SI k d off)|gI=>trivial
 have S1:AS [] h aB g w a w:=⟨g,λ_=>none,.refl g w,R,F.defers,F.size,S0,F.hold,λ_ _ _ e _=>(by cases e),λ_ _ e=>(by cases e)⟩;refine st aB e1 e2 e3 g w a w Q K S1 λa' w' S'=>hK a' w' ?_;obtain⟨g',HZ,E',R',F'⟩:=S';have hc:∀l,l <g.nl->g'.cur l=g.cur l:=λl hl=>by rw[R.nt]at hl;rw[R'.cur l (Nat.lt_of_lt_of_le hl k.nt),R.cur l hl,k.bV l hl]
 rw[hd]at F'|-;refine⟨g.back g',λ_=>none,E.trans (E'.back hc),R.back R' E' k,F'.defers.back E'.toEvc hc F.defers,F'.size,λj hj=>?_,λj d' off e=>?_,λ_ _ _ e _=>(by cases e),λ_ _ e=>(by cases e)⟩
 .have q:=F'.slot j hj
  by_cases VZ:j=d
  .subst VZ;simp only[ay.put,ay.bf,cU]at q|-;exact VR.pure (g:=g') (g2:=g.back g') O (hs _ _ _ q) hy
  .have hb:(Nat.beq j d)=false:=by
    cases h:Nat.beq j d with|false=>rfl|true=>exact absurd (Nat.eq_of_beq_eq_true h) VZ
   simp only[ay.put,ay.bf,hb]at q|-;have q0:=F.slot j hj
   cases e:aB.f j with|v z=>rw[e]at q q0;exact VR.back E'.toEvc hc q q0|lp d off=>exact absurd e (SI j d off)|gI=>trivial
 .by_cases VZ:j=d
  .subst VZ;simp only[ay.put,ay.bf,cU]at e
   cases e
  .have hb:(Nat.beq j d)=false:=by
    cases h:Nat.beq j d with|false=>rfl|true=>exact absurd (Nat.eq_of_beq_eq_true h) VZ
   simp only[ay.put,ay.bf,hb]at e;exact absurd e (SI _ _ _)
theorem ag.YW {s x:Operand} {t:TypeId} {sz gl:Nat} {y:AV} {ys:List (List AV)} {d:Tmp} (ha:cD o.op=some (s,x,t)) (hw:au ops fr o.guard=some true) (hi:cC P t=some (sz,gl))
 (kN:fr.ev s= .v .ao) (ex:fr.ev x= .v y) (hy:aY sz y=some ys) (hd:o.dst=some d) (dK:ys.length*(gl+1)<=140737488355328) (hp:∀c∈ys,fy c):∀h,ag P [] ops o fr h (.v (.one (bS sz ys))) h:=by
 intro h
 by_cases cv:ys=[]
 .subst cv;exact ag.ku hd (jD (λ_ _ _ h=>h) (.inl O)) (ag.Va ha hw hi kN ex (aG.elems (h0:=h) (h:=h) (.inl ⟨O,O⟩)) hy h)
 .have st:=ag.app (lt:=[]) (h:=h) (h':=h.cu) (aw:=h.nt) (v:=0) (es:=[]) ha hw hi kN ex (.inl ⟨O,O,O,O,O⟩) hy cv (by simpa using dK)
  rw[List.nil_append]at st;refine ag.back (h':=h.cu) hd (.one _ (Ex hp)) ⟨Nat.le_refl _,λ_ _ _=>rfl,Nat.le_succ _,λl hl=>?_,O⟩ (jD ?_ (.inr ⟨_,_,_,O⟩)) st
  .simp only[AH.cu];rw[beq_false_of_ne (by omega)]
  .cases ys with|nil=>exact absurd O cv|cons c r=>exact j9
variable {C:Exit->ay->AH->Prop} {ks:List Kt}
theorem Jb {o:Oper} {l:List Oper} {D pre:List Nat} {s x:Operand} {t:TypeId} {sz gl:Nat} {y:AV} {ys:List (List AV)} {d:Tmp} (ha:cD o.op=some (s,x,t)) (hw:au ops fr o.guard=some true) (hi:cC P t=some (sz,gl))
 (kN:fr.ev s= .v .ao) (ex:fr.ev x= .v y) (hy:aY sz y=some ys) (hd:o.dst=some d) (dK:ys.length*(gl+1)<=140737488355328) (hp:∀c∈ys,fy c)
 (K:XS P [] C (.eW ops l D (0::pre)) ks (fr.bf d (.v (.one (bS sz ys)))) h):XS P [] C (.eW ops (o::l) D pre) ks fr h:=
 bp (ag.YW ha hw hi kN ex hy hd dK hp) hd K
end
section
attribute [local irreducible] AC AL AW AD aP
theorem Hc {l:List ak} {es:List (List AV)} (h:bx (PE rA) l es):es=l.map aM:=by
 induction l generalizing es with
 |nil=>cases es with|nil=>rfl|cons=>exact h.elim
 |cons a l ih=>cases es with|nil=>exact h.elim|cons c es=>obtain⟨⟨v,h1,h2⟩,h3⟩:=h;rw[ih h3,h1,h2];rfl
theorem EA {l:List ak}:∀c∈l.map aM,fy c:=λc hc=>by obtain⟨a,_,rfl⟩:=List.mem_map.1 hc;exact oE a
section
variable {h h0:AH}
theorem nV {l:List av} {z:AV} (hz:my tE l z):∀h0:AH,aP prog 33 [.one z] h0 (.one (bS 3 (l.map av.cs))) h0:=by
 intro h0;refine aP.pure (bM λa _=>a.pure) ?_;obtain⟨es,hE,hb,hl⟩:=hz.out;have tM:=hl.len;refine az (n:=55) (rs:=[.tmp 2]) [] ⟨func33,O,O,O⟩ O <| have H:HI h0 [] h0 []:=HI.nil;ah H O λh H Y=>?_;refine dz O O O O O hE O O O <| ib 9 O <| ah H O λh H Y=>aC 55 (λq:Nat×AV=>es.length -q.1) (λq=>[(0,.one z),(3,q.2),(9,z),(10,.int .i64 (es.length:Nat)),(11,.int .i64 (q.1:Nat))])
  (λq h'=>HI h0 [] h' []/\q.1<=es.length/\bJ h0 h' 3 q.2 ((l.take q.1).map av.cs))
  (λq:AV=>[(0,.one z),(3,q)])
  (λq h'=>HI h0 [] h' []/\bJ h0 h' 3 q (l.map av.cs)) (0,.ao) O ⟨H,by omega,.nil⟩ ?_ ?_
 .clear H;rintro⟨i,x⟩ hb ⟨H0,hi,G0⟩ again done;simp only at G0 hi;have H:HI hb [] hb []:=HI.nil;refine ah H O λh H Y=>af O (λaT=>?_) λaT=>?_
  .have ax:i <es.length:=by simpa using aT
   refine ah H O λh H Y=>?_;obtain⟨tk,rfl⟩:∃tk,z= .vec tk 1 es:=j8 hE (by intro q;rw[q]at ax;simp at ax);obtain⟨a,v,IE,ha,hv⟩:=gu hl ax;obtain⟨ds,rs,rest,rfl,Rx,FF⟩:=hv;obtain⟨fs,hF,hfb,V3⟩:=FF.out;have SJ:=V3.len;refine ba (ag.indexAddr O O O O O O (Int.natCast_nonneg _) (by rw[Int.toNat_natCast];exact ha)) O ?_;refine rW O (λ_=>rfl) O (λ_=>rfl) O <| ah H O λh H Y=>bG O call75 (l9 Rx) ?_;obtain⟨d,hd⟩:∃d,d=h.n:=⟨_,O⟩;refine an [0] H O λh H Y=>dz O O O O O hF O O O <| ib 28 O <| ah H O λh H Y=>?_;rw[<-hd]at H;rw[<-hd];refine aC 55 (λq:Nat×AV=>fs.length -q.1) (λq=>[(0,.one (.vec tk 1 es)),(3,x),(9,.vec tk 1 es),(10,.int .i64 (es.length:Nat)),(11,.int .i64 (i:Nat)),(6,.ptr d 0),(28,rs),(29,.int .i64 (fs.length:Nat)),(30,.int .i64 (q.1:Nat))])
    (λq h'=>HI hb [] h' [(d,[.str a.doc,.one (bS 2 (a.cJ.map kl.cs)),q.2])]/\q.1<=fs.length/\bJ hb h' 2 q.2 ((a.roots.take q.1).map fD.cs))
    (λq:AV=>[(0,.one (.vec tk 1 es)),(3,x),(9,.vec tk 1 es),(10,.int .i64 (es.length:Nat)),(11,.int .i64 (i:Nat)),(6,.ptr d 0)])
    (λq h'=>HI hb [] h' [(d,[.str a.doc,.one (bS 2 (a.cJ.map kl.cs)),q])]/\bJ hb h' 2 q (a.roots.map fD.cs)) (0,.ao) O ⟨H,by omega,.nil⟩ ?_ ?_
   .clear H again done;rintro⟨j,y⟩ h ⟨H,hj,G⟩ again done;simp only at G hj;refine aH H G O λh H G Y=>af O (λbZ=>?_) λbZ=>?_
    .have eG:j <fs.length:=by simpa using bZ
     refine aH H G O λh H G Y=>?_;obtain⟨uy,rfl⟩:∃tk,rs= .vec tk 1 fs:=j8 hF (by intro q;rw[q]at eG;simp at eG);obtain⟨b,v2,Ra,hf,SK⟩:=gu V3 eG;obtain⟨IF,rfl⟩:=SK;refine ba (ag.indexAddr O O O O O O (Int.natCast_nonneg _) (by rw[Int.toNat_natCast];exact hf)) O ?_;refine rW O (λ_=>rfl) O (λ_=>rfl) O <| bm [0] H G O λh H G Y=>qA H O O O O O O O G.1 ?_ ?_
     .have:=iQ (f:=fD.cs) (l:=a.roots) (i:=j)
      show(_+1)*(32+1)<=140737488355328;omega
     clear H G;intro x' h H G n_;replace G:aG hb h 2 x' ((a.roots.take j).map fD.cs++[fD.cs b]):=by exact G
     obtain⟨pz,rfl⟩:=ck G;replace G:=G.pE;refine bm [0] H G O λh H G Y=>?_;refine again (j+1,_) ?_ (HQ.mk O ⟨O,O,O,O,O,O,O,O,vi (wI (by omega)),trivial⟩) ⟨H,by simp only;omega,?_⟩
     .simp only;omega
     .simp only;rw[gi Ra];exact G
    .have eG:¬ j <fs.length:=by simpa using bZ
     obtain rfl:j=fs.length:=by omega
     refine aH H G O λh H G Y=>?_;rw[iR SJ]at G;exact done y O ⟨H,G⟩
   .clear H;rintro y h ⟨H,G⟩;refine jK 0 (av.cs a) H O O ⟨.refl _,.refl _,G.ku,trivial⟩ λh H Y=>?_;clear G;refine an [0] H O λh H Y=>have G0:=G0.kp H.kp;have H0:=H0.same H.kp;eK H0 O O O O O O O G0.1 ?_ ?_
    .have:=iQ (f:=av.cs) (l:=l) (i:=i)
     show(_+1)*(64+1)<=140737488355328;omega
    clear H H0 G0;intro x' h H G n_;replace G:aG h0 h 3 x' ((l.take i).map av.cs++[av.cs a]):=G;replace G:=G.pE;refine aH H G O λh H G Y=>?_;refine again (i+1,x') ?_ (HQ.mk O ⟨O,O,O,O,vi (wI (by omega)),trivial⟩) ⟨H,by simp only;omega,?_⟩
    .simp only;omega
    .simp only;rw[gi IE];exact G
  .have ax:¬ i <es.length:=by simpa using aT
   obtain rfl:i=es.length:=by omega
   refine ah H O λh H Y=>?_;rw[iR tM]at G0;exact done x O ⟨H0.same H.kp,G0.kp H.kp⟩
 .clear H;rintro x h ⟨H,G⟩;exact aH H G O λh H G Y=>ab [] H O ⟨H.kp,G.qe⟩
theorem ye {l:List Def} {z:AV} (hz:my ja l z):∀h0:AH,aP prog 34 [.one z] h0 (.one (bS 8 (l.map Def.cs))) h0:=by
 intro h0;refine aP.pure (bM λa _=>a.pure) ?_;obtain⟨es,hE,hb,hl⟩:=hz.out;have tM:=hl.len;refine az (n:=124) (rs:=[.tmp 2]) [] ⟨func34,O,O,O⟩ O <| have H:HI h0 [] h0 []:=HI.nil;ah H O λh H Y=>?_;refine dz O O O O O hE O O O <| ib 11 O <| ah H O λh H Y=>aC 124 (λq:Nat×AV=>es.length -q.1) (λq=>[(0,.one z),(3,q.2),(11,z),(12,.int .i64 (es.length:Nat)),(13,.int .i64 (q.1:Nat))])
  (λq h'=>HI h0 [] h' []/\q.1<=es.length/\bJ h0 h' 8 q.2 ((l.take q.1).map Def.cs))
  (λq:AV=>[(0,.one z),(3,q)])
  (λq h'=>HI h0 [] h' []/\bJ h0 h' 8 q (l.map Def.cs)) (0,.ao) O ⟨H,by omega,.nil⟩ ?_ ?_
 .clear H;rintro⟨i,x⟩ hb ⟨H0,hi,G0⟩ again done;simp only at G0 hi;have H:HI hb [] hb []:=HI.nil;refine ah H O λh H Y=>af O (λaT=>?_) λaT=>?_
  .have ax:i <es.length:=by simpa using aT
   refine ah H O λh H Y=>?_;obtain⟨tk,rfl⟩:∃tk,z= .vec tk 1 es:=j8 hE (by intro q;rw[q]at ax;simp at ax);obtain⟨a,v,IE,ha,hv⟩:=gu hl ax;obtain⟨ds,xs,fs,ts,kN,c1,c2,rest,rfl,Rx,BG,hfs,yf,wJ⟩:=hv;obtain⟨il,hI,hIb,K0⟩:=BG.out;obtain rfl:=Hc K0;obtain⟨tl,hT,hTb,J0⟩:=yf.out;obtain rfl:=Hc J0;obtain⟨fl,hF,hfb,V3⟩:=hfs.out;have SJ:=V3.len;obtain⟨el,hN,Oy,Lv⟩:=wJ.out;have YX:=Lv.len;refine ba (ag.indexAddr O O O O O O (Int.natCast_nonneg _) (by rw[Int.toNat_natCast];exact ha)) O ?_;refine rW O (λ_=>rfl) O (λ_=>rfl) O <| ah H O λh H Y=>bG O call75 (l9 Rx) <| UH 3 H O λh H Y=>Oe O (λ_=>rfl) O (λ_=>rfl) O <| Jb O O O O O hI O (by show _*(16+1)<=140737488355328;simp at hIb|-;omega) EA ?_;refine UH 3 H O λh H Y=>Oe O (λ_=>rfl) O (λ_=>rfl) O <| Jb O O O O O hT O (by show _*(16+1)<=140737488355328;simp at hTb|-;omega) EA ?_;obtain⟨d,hd⟩:∃d,d=h.n:=⟨_,O⟩;refine an [0] H O λh H Y=>dz O O O O O hF O O O <| ib 48 O <| ah H O λh H Y=>?_;rw[<-hd]at H;rw[<-hd];refine aC 124 (λq:Nat×AV=>fl.length -q.1) (λq=>[(0,.one (.vec tk 1 es)),(3,x),(11,.vec tk 1 es),(12,.int .i64 (es.length:Nat)),(13,.int .i64 (i:Nat)),(5,.ref none (.str a.kind:: .str a.doc:: .str a.name:: .one ds:: .one xs:: .one fs:: .one ts:: .one kN::c1::c2:: .bool false::rest)),(6,.ptr d 0),(48,fs),(49,.int .i64 (fl.length:Nat)),(50,.int .i64 (q.1:Nat))])
    (λq h'=>HI hb [] h' [(d,[.str a.kind,.str a.doc,.str a.name,.one (bS 2 (a.cJ.map kl.cs)),.one (bS 1 (a.ifaces.map aM)),q.2,.one (bS 1 (a.types.map aM)),.ao])]/\q.1<=fl.length/\bJ hb h' 8 q.2 ((a.fields.take q.1).map jV.cs))
    (λq:AV=>[(0,.one (.vec tk 1 es)),(3,x),(11,.vec tk 1 es),(12,.int .i64 (es.length:Nat)),(13,.int .i64 (i:Nat)),(5,.ref none (.str a.kind:: .str a.doc:: .str a.name:: .one ds:: .one xs:: .one fs:: .one ts:: .one kN::c1::c2:: .bool false::rest)),(6,.ptr d 0)])
    (λq h'=>HI hb [] h' [(d,[.str a.kind,.str a.doc,.str a.name,.one (bS 2 (a.cJ.map kl.cs)),.one (bS 1 (a.ifaces.map aM)),q,.one (bS 1 (a.types.map aM)),.ao])]/\bJ hb h' 8 q (a.fields.map jV.cs)) (0,.ao) O ⟨H,by omega,.nil⟩ ?_ ?_
   .clear H again done;rintro⟨j,y⟩ h ⟨H,hj,G⟩ again done;simp only at G hj;refine aH H G O λh H G Y=>af O (λbZ=>?_) λbZ=>?_
    .have eG:j <fl.length:=by simpa using bZ
     refine aH H G O λh H G Y=>?_;obtain⟨uy,rfl⟩:∃tk,fs= .vec tk 1 fl:=j8 hF (by intro q;rw[q]at eG;simp at eG);obtain⟨b,v2,Ra,hf,SK⟩:=gu V3 eG;obtain⟨xs2,df2,ty2,ds2,IF,rfl,J1,hfd,hft,SM⟩:=SK;refine ba (ag.indexAddr O O O O O O (Int.natCast_nonneg _) (by rw[Int.toNat_natCast];exact hf)) O ?_;refine rW O (λ_=>rfl) O (λ_=>rfl) O <| bm [0] H G O λh H G Y=>bG O call35 (rR J1) <| aH H G O λh H G Y=>bG O call76 (vK hfd) <| aH H G O λh H G Y=>?_;have hq:=AU hft;obtain⟨n1,x1,b1,e1⟩:=b.t.shape;rw[e1]at hq;refine bG O call77 hq <| aH H G O λh H G Y=>bG O call75 (l9 SM) <| aH H G O λh H G Y=>qA H O O O O O O O G.1 ?_ ?_
     .have:=iQ (f:=jV.cs) (l:=a.fields) (i:=j)
      show(_+1)*(152+1)<=140737488355328;omega
     clear H G;intro x' h H G n_;replace G:aG hb h 8 x' ((a.fields.take j).map jV.cs++[jV.cs b]):=by unfold jV.cs;rw[e1];exact G
     obtain⟨pz,rfl⟩:=ck G;replace G:=G.pE;refine bm [0] H G O λh H G Y=>?_;refine again (j+1,_) ?_ (HQ.mk O ⟨O,O,O,O,O,O,O,O,O,vi (wI (by omega)),trivial⟩) ⟨H,by simp only;omega,?_⟩
     .simp only;omega
     .simp only;rw[gi Ra];exact G
    .have eG:¬ j <fl.length:=by simpa using bZ
     obtain rfl:j=fl.length:=by omega
     refine aH H G O λh H G Y=>?_;rw[iR SJ]at G;exact done y O ⟨H,G⟩
   .clear H;rintro y h ⟨H,G⟩;refine jK 0 [.str a.kind,.str a.doc,.str a.name,.one (bS 2 (a.cJ.map kl.cs)),.one (bS 1 (a.ifaces.map aM)),.one (bS 8 (a.fields.map jV.cs)),.one (bS 1 (a.types.map aM)),.ao] H O O ⟨.refl _,.refl _,.refl _,.refl _,.refl _,G.ku,.refl _,.refl _,trivial⟩ λh H Y=>?_;clear G;refine ah H O λh H Y=>dz O O O O O hN O O O <| ib 92 O <| ah H O λh H Y=>aC 124 (λq:Nat×AV=>el.length -q.1) (λq=>[(0,.one (.vec tk 1 es)),(3,x),(11,.vec tk 1 es),(12,.int .i64 (es.length:Nat)),(13,.int .i64 (i:Nat)),(6,.ptr d 0),(92,kN),(93,.int .i64 (el.length:Nat)),(94,.int .i64 (q.1:Nat))])
     (λq h'=>HI hb [] h' [(d,[.str a.kind,.str a.doc,.str a.name,.one (bS 2 (a.cJ.map kl.cs)),.one (bS 1 (a.ifaces.map aM)),.one (bS 8 (a.fields.map jV.cs)),.one (bS 1 (a.types.map aM)),q.2])]/\q.1<=el.length/\bJ hb h' 3 q.2 ((a.enums.take q.1).map cg.cs))
     (λq:AV=>[(0,.one (.vec tk 1 es)),(3,x),(11,.vec tk 1 es),(12,.int .i64 (es.length:Nat)),(13,.int .i64 (i:Nat)),(6,.ptr d 0)])
     (λq h'=>HI hb [] h' [(d,[.str a.kind,.str a.doc,.str a.name,.one (bS 2 (a.cJ.map kl.cs)),.one (bS 1 (a.ifaces.map aM)),.one (bS 8 (a.fields.map jV.cs)),.one (bS 1 (a.types.map aM)),q])]/\bJ hb h' 3 q (a.enums.map cg.cs)) (0,.ao) O ⟨H,by omega,.nil⟩ ?_ ?_
    .clear H again done;rintro⟨j,y⟩ h ⟨H,hj,G⟩ again done;simp only at G hj;refine aH H G O λh H G Y=>af O (λbZ=>?_) λbZ=>?_
     .have eG:j <el.length:=by simpa using bZ
      refine aH H G O λh H G Y=>?_;obtain⟨uy,rfl⟩:∃tk,kN= .vec tk 1 el:=j8 hN (by intro q;rw[q]at eG;simp at eG);obtain⟨b,v2,Ra,hf,SK⟩:=gu Lv eG;obtain⟨ds2,IF,rfl,SM⟩:=SK;refine ba (ag.indexAddr O O O O O O (Int.natCast_nonneg _) (by rw[Int.toNat_natCast];exact hf)) O ?_;refine rW O (λ_=>rfl) O (λ_=>rfl) O <| bm [0] H G O λh H G Y=>bG O call75 (l9 SM) <| aH H G O λh H G Y=>qA H O O O O O O O G.1 ?_ ?_
      .have:=iQ (f:=cg.cs) (l:=a.enums) (i:=j)
       show(_+1)*(56+1)<=140737488355328;omega
      clear H G;intro x' h H G n_;replace G:aG hb h 3 x' ((a.enums.take j).map cg.cs++[cg.cs b]):=by exact G
      obtain⟨pz,rfl⟩:=ck G;replace G:=G.pE;refine bm [0] H G O λh H G Y=>?_;refine again (j+1,_) ?_ (HQ.mk O ⟨O,O,O,O,O,O,O,O,vi (wI (by omega)),trivial⟩) ⟨H,by simp only;omega,?_⟩
      .simp only;omega
      .simp only;rw[gi Ra];exact G
     .have eG:¬ j <el.length:=by simpa using bZ
      obtain rfl:j=el.length:=by omega
      refine aH H G O λh H G Y=>?_;rw[iR YX]at G;exact done y O ⟨H,G⟩
    .clear H;rintro y h ⟨H,G⟩;refine jK 0 (Def.cs a) H O O ⟨.refl _,.refl _,.refl _,.refl _,.refl _,.refl _,.refl _,G.ku,trivial⟩ λh H Y=>?_;clear G;refine an [0] H O λh H Y=>have G0:=G0.kp H.kp;have H0:=H0.same H.kp;eK H0 O O O O O O O G0.1 ?_ ?_
     .have:=iQ (f:=Def.cs) (l:=l) (i:=i)
      show(_+1)*(168+1)<=140737488355328;omega
     clear H H0 G0;intro x' h H G n_;replace G:aG h0 h 8 x' ((l.take i).map Def.cs++[Def.cs a]):=G;replace G:=G.pE;refine aH H G O λh H G Y=>?_;refine again (i+1,x') ?_ (HQ.mk O ⟨O,O,O,O,vi (wI (by omega)),trivial⟩) ⟨H,by simp only;omega,?_⟩
     .simp only;omega
     .simp only;rw[gi IE];exact G
  .have ax:¬ i <es.length:=by simpa using aT
   obtain rfl:i=es.length:=by omega
   refine ah H O λh H Y=>?_;rw[iR tM]at G0;exact done x O ⟨H0.same H.kp,G0.kp H.kp⟩
 .clear H;rintro x h ⟨H,G⟩;exact aH H G O λh H G Y=>ab [] H O ⟨H.kp,G.qe⟩
end
section
variable {h h0:AH}
theorem Cu {a:bY} {y:AV} (hP:MO a y):∀h0:AH,aP prog 11 [y] h0 (.agg a.cs) h0:=by
 intro h0;refine aP.pure (.agg _ a.pure) ?_;obtain⟨x0,x1,x2,x3,x4,x5,rest,rfl,hp0,dJ,iy,AJ,Us⟩:=hP;obtain⟨es,hE,hb,hl⟩:=iy.out;have tM:=hl.len;refine az (n:=81) (rs:=[.cell 2 27]) [] ⟨func11,O,O,O⟩ O <| have H:HI h0 [] h0 []:=HI.nil;ah H O λh H Y=>?_;refine bG O call33 (nV hp0) <| ah H O λh H Y=>bG O call33 (nV dJ) <| ah H O λh H Y=>bG O call34 (ye AJ) <| ah H O λh H Y=>bG O call34 (ye Us) ?_;obtain⟨d3,hd3⟩:∃d,d=h.n:=⟨_,O⟩;refine an [1] H O λh H Y=>dz O O O O O hE O O O <| ib 33 O <| ah H O λh H Y=>?_;rw[<-hd3]at H;rw[<-hd3];refine aC 81 (λq:Nat×AV=>es.length -q.1) (λq=>[(0,.ref none (.one x0:: .one x1:: .one x2:: .one x3:: .one x4:: .one x5::rest)),(2,.ptr h0.n 0),(3,.ptr d3 0),(33,x2),(34,.int .i64 (es.length:Nat)),(35,.int .i64 (q.1:Nat))])
  (λq h'=>HI h0 [] h' [(h0.n,[.ao,.ao,.ao,.ao,.ao]),(d3,[.one (bS 3 (a.defs.map av.cs)),.one (bS 3 (a.exts.map av.cs)),q.2,.one (bS 8 (a.types.map Def.cs)),.one (bS 8 (a.aK.map Def.cs))])]/\q.1<=es.length/\bJ h0 h' 5 q.2 ((a.cJ.take q.1).map dn.cs))
  (λq:AV=>[(0,.ref none (.one x0:: .one x1:: .one x2:: .one x3:: .one x4:: .one x5::rest)),(2,.ptr h0.n 0),(3,.ptr d3 0)])
  (λq h'=>HI h0 [] h' [(h0.n,[.ao,.ao,.ao,.ao,.ao]),(d3,[.one (bS 3 (a.defs.map av.cs)),.one (bS 3 (a.exts.map av.cs)),q,.one (bS 8 (a.types.map Def.cs)),.one (bS 8 (a.aK.map Def.cs))])]/\bJ h0 h' 5 q (a.cJ.map dn.cs)) (0,.ao) O ⟨H,by omega,.nil⟩ ?_ ?_
 .clear H;rintro⟨i,x⟩ hb ⟨H0,hi,G0⟩ again done;simp only at G0 hi;have H:HI hb [] hb []:=HI.nil;refine ah H O λh H Y=>af O (λaT=>?_) λaT=>?_
  .have ax:i <es.length:=by simpa using aT
   refine ah H O λh H Y=>?_;obtain⟨tk,rfl⟩:∃tk,x2= .vec tk 1 es:=j8 hE (by intro q;rw[q]at ax;simp at ax);obtain⟨e,v,IE,ha,hv⟩:=gu hl ax;obtain⟨xs,c3,ls,IF,rfl,BG,YY⟩:=hv;obtain⟨ll,hL,hLb,hLl⟩:=YY.out;obtain rfl:=Hc hLl;refine ba (ag.indexAddr O O O O O O (Int.natCast_nonneg _) (by rw[Int.toNat_natCast];exact ha)) O ?_;refine rW O (λ_=>rfl) O (λ_=>rfl) O <| ah H O λh H Y=>bG O call35 (rR BG) ?_;obtain⟨d,hd⟩:∃d,d=h.n:=⟨_,O⟩;refine an [0] H O λh H Y=>dz O O O O O hL O O O <| ib 60 O <| ah H O λh H Y=>?_;rw[<-hd]at H;rw[<-hd];refine aC 81 (λq:Nat×AV=>(e.sf.map aM).length -q.1) (λq=>[(0,.ref none (.one x0:: .one x1:: .one (.vec tk 1 es):: .one x3:: .one x4:: .one x5::rest)),(2,.ptr h0.n 0),(3,.ptr d3 0),(33,.vec tk 1 es),(34,.int .i64 (es.length:Nat)),(35,.int .i64 (i:Nat)),(6,.ptr d 0),(60,ls),(61,.int .i64 ((e.sf.map aM).length:Nat)),(62,.int .i64 (q.1:Nat))])
    (λq h'=>HI hb [] h' [(d,[.str e.doc,.str e.name,.one (bS 7 (e.args.map aW.cs)),q.2,.bool e.rep])]/\q.1<=(e.sf.map aM).length/\bJ hb h' 1 q.2 ((e.sf.take q.1).map aM))
    (λq:AV=>[(0,.ref none (.one x0:: .one x1:: .one (.vec tk 1 es):: .one x3:: .one x4:: .one x5::rest)),(2,.ptr h0.n 0),(3,.ptr d3 0),(33,.vec tk 1 es),(34,.int .i64 (es.length:Nat)),(35,.int .i64 (i:Nat)),(6,.ptr d 0)])
    (λq h'=>HI hb [] h' [(d,[.str e.doc,.str e.name,.one (bS 7 (e.args.map aW.cs)),q,.bool e.rep])]/\bJ hb h' 1 q (e.sf.map aM)) (0,.ao) O ⟨H,by omega,.nil⟩ ?_ ?_
   .clear H again done;rintro⟨j,y⟩ h ⟨H,hj,G⟩ again done;simp only at G hj;refine aH H G O λh H G Y=>af O (λbZ=>?_) λbZ=>?_
    .have eG:j <(e.sf.map aM).length:=by simpa using bZ
     refine aH H G O λh H G Y=>?_;obtain⟨uy,rfl⟩:∃tk,ls= .vec tk 1 (e.sf.map aM):=j8 hL (by intro q;rw[q]at eG;simp at eG);obtain⟨b,Ra⟩:∃b,e.sf[j]? =some b:=⟨_,List.getElem?_eq_getElem (by simpa using eG)⟩;refine ba (ag.indexAddr O O O O O O (Int.natCast_nonneg _) (by rw[Int.toNat_natCast];exact(show(e.sf.map aM)[j]? =some [.str b] by rw[List.getElem?_map,Ra];rfl))) rfl ?_;refine bm [0] H G O λh H G Y=>eK H O O O O O O O G.1 ?_ ?_
     .have:=iQ (f:=aM) (l:=e.sf) (i:=j)
      show(_+1)*(16+1)<=140737488355328;omega
     clear H G;intro x' h H G n_;replace G:aG hb h 1 x' ((e.sf.take j).map aM++[aM b]):=by exact G
     obtain⟨pz,rfl⟩:=ck G;replace G:=G.pE;refine bm [0] H G O λh H G Y=>?_;refine again (j+1,_) ?_ (HQ.mk O ⟨O,O,O,O,O,O,O,O,O,vi (wI (by omega)),trivial⟩) ⟨H,by simp only;omega,?_⟩
     .simp only;omega
     .simp only;rw[gi Ra];exact G
    .have eG:¬ j <(e.sf.map aM).length:=by simpa using bZ
     obtain rfl:j=(e.sf.map aM).length:=by omega
     refine aH H G O λh H G Y=>?_;rw[iR (by simp)]at G;exact done y O ⟨H,G⟩
   .clear H;rintro y h ⟨H,G⟩;refine jK 0 (dn.cs e) H O O ⟨.refl _,.refl _,.refl _,G.ku,.refl _,trivial⟩ λh H Y=>?_;clear G;replace G0:=G0.kp H.kp;replace H:=H0.comb H;clear H0;refine bm [1,2] H G0 O λh H G0 Y=>eK H O O O O O O O G0.1 ?_ ?_
    .have:=iQ (f:=dn.cs) (l:=a.cJ) (i:=i)
     show(_+1)*(88+1)<=140737488355328;omega
    clear H G0;intro x' h H G n_;replace G:aG h0 h 5 x' ((a.cJ.take i).map dn.cs++[dn.cs e]):=G;obtain⟨pz,rfl⟩:=ck G;replace G:=G.pE;refine bm [1] H G O λh H G Y=>?_;refine again (i+1,_) ?_ (HQ.mk O ⟨O,O,O,O,O,vi (wI (by omega)),trivial⟩) ⟨H.take (k:=2),by simp only;omega,?_⟩
    .simp only;omega
    .simp only;rw[gi IE];exact G
  .have ax:¬ i <es.length:=by simpa using aT
   obtain rfl:i=es.length:=by omega
   refine ah H O λh H Y=>?_;rw[iR tM]at G0;exact done x O ⟨H0.same H.kp,G0.kp H.kp⟩
 .clear H;rintro x h ⟨H,G⟩;refine jK 1 a.cs H O O ⟨.refl _,.refl _,G.ku,.refl _,.refl _,trivial⟩ λh H Y=>?_;clear G;exact an [1,0] H O λh H Y=>ab [0] H O ⟨H.kp,λ_ _ _ h=>h⟩
end
section
variable {L:ak->Nat->Option (Int×ak×Nat)} {s:ak} {h h0:AH}
def MT:List AV:=[.ao,.ao,.ao,.ao,.ao]
theorem zT (R:cM L) (hs:s.length<=1048576) (hT:h0.aV=bQ):al prog 6 [.str s] h0 (λv h'=>Kp [] h0 h'/\((gD (some (jz L s 0))=none/\v= .cN [.agg MT,.bool false])\/∃a y,gD (some (jz L s 0))=some a/\MO a y/\v= .cN [.agg a.cs,.bool true])):=by
 refine az (n:=18) (rs:=[.cell 2 27,.tmp 3]) [] ⟨func6,O,O,O⟩ O <| have H:HI h0 [] h0 []:=HI.nil;aS [9] [] H O λh H Y=>?_;refine ae O call10 (JZ R hs (by rw[H.kp.aV];exact hT)) ?_;rintro v h2 ⟨kp,hr⟩;replace H:=H.same kp;rcases hr with⟨e,x,rfl⟩|⟨od,D,e,rfl,hD⟩
 .exact an [91,0] H O λh H Y=>ab [0] H O ⟨H.kp,.inl ⟨e,O⟩⟩
 .exact an [90] H O λh H Y=>aF O call11 (Cu hD) <| an [0] H O λh H Y=>ab [0] H O ⟨H.kp,.inr ⟨od,_,e,hD,O⟩⟩
end
end
section
variable {P:Program} {lt:LT} {h h0 h1 h':AH} {ids:List Nat} {V V':View} {fr aB:ay} {ks:List Kt} {C:Exit->ay->AH->Prop} {f:FuncId}
theorem fe {o:Oper} {ops l:List Oper} {D:List Nat} {t d:Tmp} {tt:TypeId} {z:AV} {es:List (List AV)} {k:Nat} (sz:Nat) (ha:mR o.op=some (.tmp t,tt)) (hk:Am.pn P tt=some k) (jh:Nat.beq k (AV.ao).pn=true) (hw:au ops (fr.bf t (.v z)) o.guard=some true) (ex:fr.f t= .v (.one z)) (hz:aY sz z=some es) (hd:o.dst=some d) (Py:Nat.beq d t=false) (hn:Nat.blt t fr.n=true)
 (K:XS P lt C (.ops ops l D) ks (fr.bf d (.v (.int .i64 es.length))) h):XS P lt C (.ops ops (o::l) D) ks fr h:=by
 refine AL.any (jc:=fr.bf d (.v (.int .i64 es.length))) (h1:=h) (λg0 w0 a w Q K S hK=>?_) K;have S':=AS.slot ex qR _ _ _ _ S;have ev:(fr.bf t (.v z)).ev (.tmp t)= .v z:=by simp only[ay.ev,ay.bf,Nat.beq_refl];rw[if_pos (Nat.blt_eq.mp hn)]
 have st:ag P lt ops o (fr.bf t (.v z)) h (.v (.int .i64 es.length)) h:=by
  refine ag.pure hw (λh=>?_) (by rw[hd];rfl) (λh=>uU ha) h;rw[uT ha];unfold BA;rw[ev]
  cases z with
  |ao=>
   injection hz with hz
   subst hz;simp only[hk,jh];rfl
  |vec tk s e=>
   simp only[aY]at hz;split at hz
   .injection hz with hz
    subst hz;simp only[hk,show Nat.beq k (AV.vec tk s e).pn=true from jh];rfl
   .cases hz
  |_=>cases hz
 refine st (fr.bf t (.v z)) O O (λ_ _=>rfl) g0 w0 a w Q K S' (λa' w' S2=>hK a' w' ?_);rw[hd]at S2;have S3:=AS.slot (t:=t) (x:=z) (y:= .one z) (by
  simp only[ay.put,ay.bf];have:Nat.beq t d=false:=by cases q:Nat.beq t d with|false=>rfl|true=>have:=Nat.eq_of_beq_eq_true q;subst this;rw[Nat.beq_refl]at Py;cases Py
  rw[this,Nat.beq_refl]) (AQ hz) _ _ _ _ S2
 have e:((fr.bf t (.v z)).put (some d) (.v (.int .i64 es.length))).bf t (.v (.one z))=fr.bf d (.v (.int .i64 es.length)):=by
  simp only[ay.put,ay.bf]
  congr 1
  funext j
  cases q:Nat.beq j t with
  |true=>
   have:=Nat.eq_of_beq_eq_true q
   subst this;have:Nat.beq j d=false:=by cases q:Nat.beq j d with|false=>rfl|true=>have:=Nat.eq_of_beq_eq_true q;subst this;rw[Nat.beq_refl]at Py;cases Py
   rw[this];exact ex.symm
  |false=>rfl
 rw[e]at S3;exact S3
theorem cn (sz:Nat) (es:List (List AV)):aY sz (bS sz es)=some es:=by cases es with|nil=>rfl|cons c r=>simp[bS,aY]
theorem VR.SN {g:Gh} {w:World} {sz:Nat} {es:List (List AV)} {v:Value} (r:VR g w (.one (bS sz es)) v):es.length <2^63/\∀c∈es,c.length=sz:=by cases r with|one _ _ r=>cases es with|nil=>exact⟨by decide,λ_ h=>by simp at h⟩|cons c l=>cases r with|vec _ _ _ ad cap vs hs hc hv ho hm hn dY=>refine⟨Nat.lt_of_le_of_lt hn dY,λc hc=>?_⟩;obtain⟨i,hi,rfl⟩:=List.mem_iff_getElem.1 hc;exact hs i hi
theorem aP.V4 {args:List AV} {v:AV} {sz:Nat} {es:List (List AV)} (i:Nat) (ha:args[i]? =some (.one (bS sz es))) (H:es.length <2^63->(∀c∈es,c.length=sz)->aP P f args h v h'):aP P f args h v h':=by intro g w vs R nC;obtain⟨hi,e⟩:=List.getElem?_eq_some_iff.1 ha;have:=nC.2 i hi;rw[e]at this;exact H this.SN.1 this.SN.2 g w vs R nC
theorem SO {v:AV} {k:Int} {r:ak} {sz:Nat} {es:List (List AV)} {y:AV} (H:es.length <2^63->aP P f [.agg [.int .i64 k,.str r,.one (bS sz es)],y] h v h'):aP P f [.agg [.int .i64 k,.str r,.one (bS sz es)],y] h v h':=by
 intro g w vs R nC;have:=nC.2 0 (by simp);simp only[List.getElem_cons_zero]at this;generalize hq:vs.getD 0 undef=q at this
 cases this with|agg _ us hn hv ho=>exact H (hv 2 (by simp)).SN.1 g w vs R nC
theorem qX {sz i:Nat} {es:List (List AV)} (h:i <es.length):bS sz es= .vec .none sz es:=by cases es with|nil=>simp at h|cons c r=>rfl
end
def Hd (P:Program) (F:FuncId) (es:List (List AV)):Prop:=∀c∈es,∀h,aP P F [.agg c,.agg c] h (.bool true) h
section
attribute [local irreducible] AC AL AW AD aP
section
variable {h h0:AH}
def HO (g:Nat->AV):Nat->Nat->List AV
 |0,_=>[]
 |n+1,k=>g k::HO g n (k+1)
theorem mkL:∀{n:Nat} {c:List AV} {k:Nat},c.length=n->∃g:Nat->AV,c=HO g n k
 |0,[],_,_=>⟨λ_=> .bq,O⟩
 |n+1,x::c,k,h=>by
  obtain⟨g,hg⟩:=mkL (n:=n) (c:=c) (k:=k+1) (by simpa using h);have e:∀(m j:Nat),k <j->HO (λi=>if i=k then x else g i) m j=HO g m j:=λm=>by induction m with|zero=>intro j _;rfl|succ m ih=>intro j hj;simp only[HO];rw[if_neg (by omega),ih _ (by omega)]
  exact⟨λi=>if i=k then x else g i,by simp only[HO,if_true];rw[e _ _ (by omega),<-hg]⟩
theorem dh {N sz:Nat} (hN:(N,sz)∈[(12,3),(14,5),(16,8),(36,2),(38,2),(40,7),(44,8),(46,3),(78,4),(81,3),(129,3)]) {F:FuncId} {es:List (List AV)} (hf:eF prog F) (hF:Hd prog F es) (h0:AH):aP prog N [.one (bS sz es),.one (bS sz es),.pG F []] h0 (.bool true) h0:=by
 simp only[List.mem_cons,Prod.mk.injEq,List.not_mem_nil,or_false]at hN;rcases hN with⟨rfl,rfl⟩|⟨rfl,rfl⟩|⟨rfl,rfl⟩|⟨rfl,rfl⟩|⟨rfl,rfl⟩|⟨rfl,rfl⟩|⟨rfl,rfl⟩|⟨rfl,rfl⟩|⟨rfl,rfl⟩|⟨rfl,rfl⟩|⟨rfl,rfl⟩
 all_goals
  refine aP.V4 0 O λhb hlen=>aP.pure (.bool _) ?_;refine az (n:=30) (rs:=[.tmp 6]) [] ⟨by first|exact func12|exact func14|exact func16|exact func36|exact func38|exact func40|exact func44|exact func46|exact func78|exact func81|exact func129,O,O,O⟩ O ?_;have H:HI h0 [] h0 []:=HI.nil;refine ah H O λh H Y=>fe _ O O O O O (cn _ es) O O O <| ah H O λh H Y=>fe _ O O O O O (cn _ es) O O O <| ah H O λh H Y=>af O (λaT=>?_) λaT=>?_
  .simp at aT
  refine ah H O λh H Y=>fe _ O O O O O (cn _ es) O O O <| ib 0 O <| ib 1 O <| ah H O λh H Y=>aC 30 (λi:Nat=>es.length -i) (λi=>[(0,bS _ es),(1,bS _ es),(2,.pG F []),(14,.int .i64 (es.length:Nat)),(15,.int .i64 (i:Nat))]) (λi h'=>HI h0 [] h' []/\i<=es.length) (λ_:Unit=>[]) (λ_ h'=>HI h0 [] h' []) 0 O ⟨H,by omega⟩ ?_ ?_
  .clear H;rintro i h ⟨H,hi⟩ again done;refine ah H O λh H Y=>af O (λbZ=>?_) λbZ=>?_
   .have ax:i <es.length:=by simpa using bZ
    obtain⟨c,hc⟩:∃c,es[i]? =some c:=⟨_,List.getElem?_eq_getElem ax⟩;have hm:=List.mem_of_getElem? hc;have hq:=hF c hm;obtain⟨g,hg⟩:=mkL (k:=0) (hlen c hm);simp only[HO]at hg;subst hg;rw[qX ax]at again|-;refine ah H O λh H Y=>bp (ag.indexAddr O O O O O O (Int.natCast_nonneg _) (by rw[Int.toNat_natCast];exact hc)) O ?_;refine ah H O λh H Y=>bp (ag.indexAddr O O O O O O (Int.natCast_nonneg _) (by rw[Int.toNat_natCast];exact hc)) O ?_;refine ah H O λh H Y=>bG O hf hq <| an [90] H O λh H Y=>?_;exact again (i+1) (by omega) (HQ.mk O ⟨O,O,O,O,vi (wI (by omega)),trivial⟩) ⟨H,by omega⟩
   .exact ah H O λh H Y=>done () O H
  .clear H;rintro⟨⟩ h H;exact ah H O λh H Y=>ab [] H O ⟨H.kp,λ_ _ _ h=>h⟩
theorem sx {F:FuncId} {es:List (List AV)} (hf:eF prog F) (hF:∀c∈es,∃s:ak,c=[.str s]/\∀h,aP prog F [.str s,.str s] h (.bool true) h):∀h0:AH,aP prog 42 [.one (bS 1 es),.one (bS 1 es),.pG F []] h0 (.bool true) h0:=by
 intro h0;refine aP.V4 0 O λhb hlen=>?_;refine aP.pure (.bool _) <| have hE:=cn 1 es;az (n:=30) (rs:=[.tmp 6]) [] ⟨func42,O,O,O⟩ O ?_;have H:HI h0 [] h0 []:=HI.nil;refine ah H O λh H Y=>fe 1 O O O O O hE O O O <| ah H O λh H Y=>fe 1 O O O O O hE O O O <| ah H O λh H Y=>af O (λaT=>?_) λaT=>?_
 .simp at aT
 refine ah H O λh H Y=>fe 1 O O O O O hE O O O <| ib 0 O <| ib 1 O <| ah H O λh H Y=>aC 30 (λi:Nat=>es.length -i) (λi=>[(0,bS 1 es),(1,bS 1 es),(2,.pG F []),(14,.int .i64 (es.length:Nat)),(15,.int .i64 (i:Nat))]) (λi h'=>HI h0 [] h' []/\i<=es.length) (λ_:Unit=>[]) (λ_ h'=>HI h0 [] h' []) 0 O ⟨H,by omega⟩ ?_ ?_
 .clear H;rintro i h ⟨H,hi⟩ again done;refine ah H O λh H Y=>af O (λbZ=>?_) λbZ=>?_
  .have ax:i <es.length:=by simpa using bZ
   obtain⟨c,hc⟩:∃c,es[i]? =some c:=⟨_,List.getElem?_eq_getElem ax⟩;have hm:=List.mem_of_getElem? hc;obtain⟨c0,rfl,hq⟩:=hF c hm;rw[qX ax]at again|-;refine ah H O λh H Y=>bp (ag.indexAddr O O O O O O (Int.natCast_nonneg _) (by rw[Int.toNat_natCast];exact hc)) O ?_;refine ah H O λh H Y=>bp (ag.indexAddr O O O O O O (Int.natCast_nonneg _) (by rw[Int.toNat_natCast];exact hc)) O ?_;refine ah H O λh H Y=>bG O hf hq <| an [90] H O λh H Y=>?_;exact again (i+1) (by omega) (HQ.mk O ⟨O,O,O,O,vi (wI (by omega)),trivial⟩) ⟨H,by omega⟩
  .exact ah H O λh H Y=>done () O H
 .clear H;rintro⟨⟩ h H;exact ah H O λh H Y=>ab [] H O ⟨H.kp,λ_ _ _ h=>h⟩
end
section
variable {h h0:AH}
theorem dx {α:Type} {F:FuncId} {f:α->List AV} {l:List α} (h:∀a∈l,∀h0,aP prog F [.agg (f a),.agg (f a)] h0 (.bool true) h0):Hd prog F (l.map f):=λc hc=>by obtain⟨a,ha,rfl⟩:=List.mem_map.1 hc;exact h a ha
theorem MU (s:ak):∀h0:AH,aP prog 43 [.str s,.str s] h0 (.bool true) h0:=by intro h0;refine aP.pure (.bool _) ?_;refine az (n:=8) (rs:=[.tmp 4]) [] ⟨func43,O,O,O⟩ O <| have H:HI h0 [] h0 []:=HI.nil;ah H O λh H Y=>?_;exact ab [] H O ⟨H.kp,λ_ _ _ h=>by simpa[iY]using h⟩
theorem yg {l:List ak}:∀c∈l.map aM,∃s:ak,c=[.str s]/\∀h0,aP prog 43 [.str s,.str s] h0 (.bool true) h0:=λc hc=>by obtain⟨a,_,rfl⟩:=List.mem_map.1 hc;exact⟨a,O,MU a⟩
theorem Cv:∀(N:Nat) (a:gn),SizeOf.sizeOf a <N->∀h0:AH,aP prog 80 [.agg a.cs,.agg a.cs] h0 (.bool true) h0:=by
 intro N
 induction N with
 |zero=>intro a h;omega
 |succ N ih=>
 intro a hN h0;obtain⟨n,e,b⟩:=a;have hS:Hd prog 80 (e.map gn.cs):=dx λb hb=>ih b (by
  have:=List.sizeOf_lt_of_mem hb
  simp at hN;omega)
 rw[gn.fO];refine aP.pure (.bool _) ?_;refine az (n:=28) (rs:=[.tmp 4]) [] ⟨func80,O,O,O⟩ O <| have H:HI h0 [] h0 []:=HI.nil;aS [2,3] [] H O λh H Y=>?_;refine aj O (λhb=>by simp at hb) (λ_=>?_);refine ah H O λh H Y=>fe 3 O O O O O (cn 3 _) O O O <| ah H O λh H Y=>aj O (λhz=>?_) (λhz=>?_)
 .refine ah H O λh H Y=>af O (λhb=>?_) λhb=>?_
  .simp at hb
  exact ah H O λh H Y=>aF O call129 (dh (by decide) call80 hS) <| ah H O λh H Y=>ab [] H O ⟨H.kp,λ_ _ _ h=>h⟩
 .exact an [90] H O λh H Y=>aF O call129 (dh (by decide) call80 hS) <| ah H O λh H Y=>ab [] H O ⟨H.kp,λ_ _ _ h=>h⟩
theorem vL (a:gn):∀h0:AH,aP prog 80 [.agg a.cs,.agg a.cs] h0 (.bool true) h0:=Cv _ a (Nat.lt_succ_self _)
theorem yZ {P:Program} {lt:LT} {h:AH} {fr:ay} {ks:List Kt} {C:Exit->ay->AH->Prop} (t:Tmp) {x y:AV} (ht:fr.f t= .v x) (e:ee x y) {ops l:List Oper} {D:List Nat} (K:XS P lt C (.ops ops l D) ks (fr.bf t (.v y)) h):XS P lt C (.ops ops l D) ks fr h:=yW (AS.slot ht e) K
theorem EB {k:Int} {r:ak} {ks:List (ak×dM)} (ih:∀b∈ks,∀h0:AH,aP prog 82 [.agg b.2.cs,.agg b.2.cs] h0 (.bool true) h0):∀h0:AH,aP prog 82 [.agg (dM.mk k r ks).cs,.agg (dM.mk k r ks).cs] h0 (.bool true) h0:=by
 intro h0;rw[dM.fO];refine SO λhlb=>?_
 by_cases h8:k=8
 .subst h8;refine aP.pure (.bool _) ?_;refine az (n:=76) (rs:=[.tmp 4]) [] ⟨func82,O,O,O⟩ O <| have H:HI h0 [] h0 []:=HI.nil;aS [2,3] [] H O λh H Y=>?_;refine aj O (λhb=>by first|(cases hb;done)|(simp at hb;done)) (λ_=>?_);refine ah H O λh H Y=>fe 4 O O O O O (cn 4 _) O O O <| ah H O λh H Y=>fe 4 O O O O O (cn 4 _) O O O <| ah H O λh H Y=>af O (λhb=>?_) λhb=>?_
  .simp at hb
  refine ah H O λh H Y=>aj O (λhb=>by first|(cases hb;done)|(simp at hb;done)) (λ_=>?_);refine ah H O λh H Y=>aj O (λhb=>by first|(cases hb;done)|(simp at hb;done)) (λ_=>?_);refine an [90] H O λh H Y=>fe 4 O O O O O (cn 4 _) O O O <| yZ 2 O (ee.refs (cs:=[.int .i64 8,.str r,.one (bS 4 (ks.map bD))]) (dH:=[.int .i64 8,.str r,bS 4 (ks.map bD)]) ⟨.refl _,.refl _,.un _,trivial⟩) <| yZ 3 O (ee.refs (cs:=[.int .i64 8,.str r,.one (bS 4 (ks.map bD))]) (dH:=[.int .i64 8,.str r,bS 4 (ks.map bD)]) ⟨.refl _,.refl _,.un _,trivial⟩) <| ah H O λh H Y=>aC 76 (λi:Nat=>(ks.map bD).length -i) (λi=>[(2,.ref none [.int .i64 8,.str r,bS 4 (ks.map bD)]),(3,.ref none [.int .i64 8,.str r,bS 4 (ks.map bD)]),(37,.int .i64 ((ks.map bD).length:Nat)),(38,.int .i64 (i:Nat))]) (λi h'=>HI h0 [] h' []/\i<=(ks.map bD).length) (λ_:Unit=>[]) (λ_ h'=>HI h0 [] h' []) 0 O ⟨H,by omega⟩ ?_ ?_
  .clear H;rintro i h ⟨H,hi⟩ again done;refine ah H O λh H Y=>af O (λbZ=>?_) λbZ=>?_
   .have ax:i <(ks.map bD).length:=by simpa using bZ
    obtain⟨b,wk⟩:∃b,ks[i]? =some b:=⟨_,List.getElem?_eq_getElem (by simpa using ax)⟩;have hq:=ih b (List.mem_of_getElem? wk);obtain⟨k1,r1,x1,e1⟩:=b.2.shape;rw[e1]at hq;have hc:(ks.map bD)[i]? =some [.str b.1,.int .i64 k1,.str r1,.one x1]:=by rw[List.getElem?_map,wk];show some (AV.str b.1::b.2.cs)=_;rw[e1]
    rw[qX ax]at again|-;refine ah H O λh H Y=>aR O (λhb=>by first|(cases hb;done)|(simp at hb;done)|(simp[h8,h9]at hb;done)) (λ_=>?_);refine ah H O λh H Y=>aR O (λhb=>by first|(cases hb;done)|(simp at hb;done)|(simp[h8,h9]at hb;done)) (λ_=>?_);refine ah H O λh H Y=>bp (ag.indexAddr O O O O O O (Int.natCast_nonneg _) (by rw[Int.toNat_natCast];exact hc)) O ?_;refine ah H O λh H Y=>bp (ag.indexAddr O O O O O O (Int.natCast_nonneg _) (by rw[Int.toNat_natCast];exact hc)) O ?_;refine ah H O λh H Y=>bG O call82 hq <| an [90] H O λh H Y=>?_;exact again (i+1) (by omega) (HQ.mk O ⟨O,O,O,vi (wI (by omega)),trivial⟩) ⟨H,by omega⟩
   .exact ah H O λh H Y=>done () O H
  .clear H;rintro⟨⟩ h H;exact ah H O λh H Y=>ab [] H O ⟨H.kp,λ_ _ _ h=>h⟩
 by_cases h9:k=9
 .subst h9;refine aP.pure (.bool _) ?_;refine az (n:=76) (rs:=[.tmp 4]) [] ⟨func82,O,O,O⟩ O <| have H:HI h0 [] h0 []:=HI.nil;aS [2,3] [] H O λh H Y=>?_;refine aj O (λhb=>by first|(cases hb;done)|(simp at hb;done)) (λ_=>?_);refine ah H O λh H Y=>fe 4 O O O O O (cn 4 _) O O O <| ah H O λh H Y=>fe 4 O O O O O (cn 4 _) O O O <| ah H O λh H Y=>af O (λhb=>?_) λhb=>?_
  .simp at hb
  refine ah H O λh H Y=>aj O (λ_=>?_) (λhb=>by first|(cases hb;done)|(simp at hb;done));refine ah H O λh H Y=>aj O (λhb=>by first|(cases hb;done)|(simp at hb;done)) (λ_=>?_);refine an [90] H O λh H Y=>fe 4 O O O O O (cn 4 _) O O O <| yZ 2 O (ee.refs (cs:=[.int .i64 9,.str r,.one (bS 4 (ks.map bD))]) (dH:=[.int .i64 9,.str r,bS 4 (ks.map bD)]) ⟨.refl _,.refl _,.un _,trivial⟩) <| yZ 3 O (ee.refs (cs:=[.int .i64 9,.str r,.one (bS 4 (ks.map bD))]) (dH:=[.int .i64 9,.str r,bS 4 (ks.map bD)]) ⟨.refl _,.refl _,.un _,trivial⟩) <| ah H O λh H Y=>aC 76 (λi:Nat=>(ks.map bD).length -i) (λi=>[(2,.ref none [.int .i64 9,.str r,bS 4 (ks.map bD)]),(3,.ref none [.int .i64 9,.str r,bS 4 (ks.map bD)]),(37,.int .i64 ((ks.map bD).length:Nat)),(38,.int .i64 (i:Nat))]) (λi h'=>HI h0 [] h' []/\i<=(ks.map bD).length) (λ_:Unit=>[]) (λ_ h'=>HI h0 [] h' []) 0 O ⟨H,by omega⟩ ?_ ?_
  .clear H;rintro i h ⟨H,hi⟩ again done;refine ah H O λh H Y=>af O (λbZ=>?_) λbZ=>?_
   .have ax:i <(ks.map bD).length:=by simpa using bZ
    obtain⟨b,wk⟩:∃b,ks[i]? =some b:=⟨_,List.getElem?_eq_getElem (by simpa using ax)⟩;have hq:=ih b (List.mem_of_getElem? wk);obtain⟨k1,r1,x1,e1⟩:=b.2.shape;rw[e1]at hq;have hc:(ks.map bD)[i]? =some [.str b.1,.int .i64 k1,.str r1,.one x1]:=by rw[List.getElem?_map,wk];show some (AV.str b.1::b.2.cs)=_;rw[e1]
    rw[qX ax]at again|-;refine ah H O λh H Y=>aR O (λ_=>?_) (λhb=>by first|(cases hb;done)|(simp at hb;done));refine ah H O λh H Y=>bp (ag.indexAddr O O O O O O (Int.natCast_nonneg _) (by rw[Int.toNat_natCast];exact hc)) O ?_;refine ah H O λh H Y=>bp (ag.indexAddr O O O O O O (Int.natCast_nonneg _) (by rw[Int.toNat_natCast];exact hc)) O ?_;refine ah H O λh H Y=>aR O (λhb=>by first|(cases hb;done)|(simp at hb;done)|(simp[h8,h9]at hb;done)) (λ_=>?_);refine ah H O λh H Y=>bp (ag.indexAddr O O O O O O (Int.natCast_nonneg _) (by rw[Int.toNat_natCast];exact hc)) O ?_;refine ah H O λh H Y=>bp (ag.indexAddr O O O O O O (Int.natCast_nonneg _) (by rw[Int.toNat_natCast];exact hc)) O ?_;refine ah H O λh H Y=>bG O call82 hq <| an [90] H O λh H Y=>?_;exact again (i+1) (by omega) (HQ.mk O ⟨O,O,O,vi (wI (by omega)),trivial⟩) ⟨H,by omega⟩
   .exact ah H O λh H Y=>done () O H
  .clear H;rintro⟨⟩ h H;exact ah H O λh H Y=>ab [] H O ⟨H.kp,λ_ _ _ h=>h⟩
 refine aP.pure (.bool _) ?_;refine az (n:=76) (rs:=[.tmp 4]) [] ⟨func82,O,O,O⟩ O <| have H:HI h0 [] h0 []:=HI.nil;aS [2,3] [] H O λh H Y=>?_;refine aj O (λhb=>by first|(cases hb;done)|(simp at hb;done)) (λ_=>?_);refine ah H O λh H Y=>fe 4 O O O O O (cn 4 _) O O O <| ah H O λh H Y=>fe 4 O O O O O (cn 4 _) O O O <| ah H O λh H Y=>af O (λhb=>?_) λhb=>?_
 .simp at hb
 refine ah H O λh H Y=>aj O (λ_=>?_) (λhb=>by simp[h8]at hb);refine ah H O λh H Y=>aj O (λ_=>?_) (λhb=>by simp[h9]at hb);refine ah H O λh H Y=>af O (λhb=>?_) λhb=>?_
 .simp at hb
 refine ah H O λh H Y=>fe 4 O O O O O (cn 4 _) O O O <| yZ 2 O (ee.refs (cs:=[.int .i64 k,.str r,.one (bS 4 (ks.map bD))]) (dH:=[.int .i64 k,.str r,bS 4 (ks.map bD)]) ⟨.refl _,.refl _,.un _,trivial⟩) <| yZ 3 O (ee.refs (cs:=[.int .i64 k,.str r,.one (bS 4 (ks.map bD))]) (dH:=[.int .i64 k,.str r,bS 4 (ks.map bD)]) ⟨.refl _,.refl _,.un _,trivial⟩) <| ah H O λh H Y=>aC 76 (λi:Nat=>(ks.map bD).length -i) (λi=>[(2,.ref none [.int .i64 k,.str r,bS 4 (ks.map bD)]),(3,.ref none [.int .i64 k,.str r,bS 4 (ks.map bD)]),(37,.int .i64 ((ks.map bD).length:Nat)),(38,.int .i64 (i:Nat))]) (λi h'=>HI h0 [] h' []/\i<=(ks.map bD).length) (λ_:Unit=>[]) (λ_ h'=>HI h0 [] h' []) 0 O ⟨H,by omega⟩ ?_ ?_
 .clear H;rintro i h ⟨H,hi⟩ again done;refine ah H O λh H Y=>af O (λbZ=>?_) λbZ=>?_
  .have ax:i <(ks.map bD).length:=by simpa using bZ
   obtain⟨b,wk⟩:∃b,ks[i]? =some b:=⟨_,List.getElem?_eq_getElem (by simpa using ax)⟩;have hq:=ih b (List.mem_of_getElem? wk);obtain⟨k1,r1,x1,e1⟩:=b.2.shape;rw[e1]at hq;have hc:(ks.map bD)[i]? =some [.str b.1,.int .i64 k1,.str r1,.one x1]:=by rw[List.getElem?_map,wk];show some (AV.str b.1::b.2.cs)=_;rw[e1]
   rw[qX ax]at again|-;refine ah H O λh H Y=>aR O (λhb=>by first|(cases hb;done)|(simp at hb;done)|(simp[h8,h9]at hb;done)) (λ_=>?_);refine ah H O λh H Y=>aR O (λhb=>by first|(cases hb;done)|(simp at hb;done)|(simp[h8,h9]at hb;done)) (λ_=>?_);refine ah H O λh H Y=>bp (ag.indexAddr O O O O O O (Int.natCast_nonneg _) (by rw[Int.toNat_natCast];exact hc)) O ?_;refine ah H O λh H Y=>bp (ag.indexAddr O O O O O O (Int.natCast_nonneg _) (by rw[Int.toNat_natCast];exact hc)) O ?_;refine ah H O λh H Y=>bG O call82 hq <| an [90] H O λh H Y=>?_;exact again (i+1) (by omega) (HQ.mk O ⟨O,O,O,vi (wI (by omega)),trivial⟩) ⟨H,by omega⟩
  .exact ah H O λh H Y=>done () O H
 .clear H;rintro⟨⟩ h H;exact ah H O λh H Y=>ab [] H O ⟨H.kp,λ_ _ _ h=>h⟩
theorem Cw:∀(N:Nat) (a:dM),SizeOf.sizeOf a <N->∀h0:AH,aP prog 82 [.agg a.cs,.agg a.cs] h0 (.bool true) h0:=by
 intro N
 induction N with
 |zero=>intro a h;omega
 |succ N ih=>
 intro a hN;obtain⟨k,r,ks⟩:=a;refine EB λb hb=>ih b.2 ?_;have:=G8 (k:=k) (r:=r) hb;omega
theorem qf (a:dM):∀h0:AH,aP prog 82 [.agg a.cs,.agg a.cs] h0 (.bool true) h0:=Cw _ a (Nat.lt_succ_self _)
end
section
variable {h h0:AH}
theorem EC (a:gx):∀h0:AH,aP prog 79 [.agg a.cs,.agg a.cs] h0 (.bool true) h0:=by intro h0;refine aP.pure (.bool _) ?_;have hq:=qf a.v;obtain⟨n1,x1,b1,e1⟩:=a.v.shape;rw[e1]at hq;unfold gx.cs;rw[e1];refine az (n:=17) (rs:=[.tmp 4]) [] ⟨func79,O,O,O⟩ O <| have H:HI h0 [] h0 []:=HI.nil;aS [2,3] [] H O λh H Y=>?_;refine aj O (λ_=>?_) (λhb=>by first|(cases hb;done)|(simp at hb;done));refine ah H O λh H Y=>aF O call82 (hq) <| ah H O λh H Y=>?_;exact ab [] H O ⟨H.kp,λ_ _ _ h=>by simpa[iY]using h⟩
theorem kK (a:kl):∀h0:AH,aP prog 37 [.agg a.cs,.agg a.cs] h0 (.bool true) h0:=by intro h0;refine aP.pure (.bool _) ?_;refine az (n:=17) (rs:=[.tmp 4]) [] ⟨func37,O,O,O⟩ O <| have H:HI h0 [] h0 []:=HI.nil;aS [2,3] [] H O λh H Y=>?_;refine aj O (λ_=>?_) (λhb=>by first|(cases hb;done)|(simp at hb;done));refine ah H O λh H Y=>aF O call78 (dh (by decide) call79 (dx λb _=>EC b)) <| ah H O λh H Y=>?_;exact ab [] H O ⟨H.kp,λ_ _ _ h=>by simpa[iY]using h⟩
theorem qg (a:aW):∀h0:AH,aP prog 41 [.agg a.cs,.agg a.cs] h0 (.bool true) h0:=by intro h0;refine aP.pure (.bool _) ?_;have hq:=vL a.t;obtain⟨n1,x1,b1,e1⟩:=a.t.shape;rw[e1]at hq;unfold aW.cs;rw[e1];refine az (n:=38) (rs:=[.tmp 4]) [] ⟨func41,O,O,O⟩ O <| have H:HI h0 [] h0 []:=HI.nil;aS [2,3] [] H O λh H Y=>?_;refine aj O (λ_=>?_) (λhb=>by first|(cases hb;done)|(simp at hb;done));refine ah H O λh H Y=>aj O (λ_=>?_) (λhb=>by first|(cases hb;done)|(simp at hb;done));refine ah H O λh H Y=>aF O call80 (hq) <| ah H O λh H Y=>aj O (λ_=>?_) (λhb=>by first|(cases hb;done)|(simp at hb;done));refine ah H O λh H Y=>aF O call81 (dh (by decide) call82 (dx λb _=>qf b)) <| ah H O λh H Y=>aj O (λ_=>?_) (λhb=>by first|(cases hb;done)|(simp at hb;done));refine ah H O λh H Y=>aF O call36 (dh (by decide) call37 (dx λb _=>kK b)) <| ah H O λh H Y=>?_;exact ab [] H O ⟨H.kp,λ_ _ _ h=>by simpa[iY]using h⟩
theorem ED (a:jV):∀h0:AH,aP prog 45 [.agg a.cs,.agg a.cs] h0 (.bool true) h0:=by intro h0;refine aP.pure (.bool _) ?_;have hq:=vL a.t;obtain⟨n1,x1,b1,e1⟩:=a.t.shape;rw[e1]at hq;unfold jV.cs;rw[e1];refine az (n:=45) (rs:=[.tmp 4]) [] ⟨func45,O,O,O⟩ O <| have H:HI h0 [] h0 []:=HI.nil;aS [2,3] [] H O λh H Y=>?_;refine aj O (λ_=>?_) (λhb=>by first|(cases hb;done)|(simp at hb;done));refine ah H O λh H Y=>aj O (λ_=>?_) (λhb=>by first|(cases hb;done)|(simp at hb;done));refine ah H O λh H Y=>aF O call40 (dh (by decide) call41 (dx λb _=>qg b)) <| ah H O λh H Y=>aj O (λ_=>?_) (λhb=>by first|(cases hb;done)|(simp at hb;done));refine ah H O λh H Y=>aF O call81 (dh (by decide) call82 (dx λb _=>qf b)) <| ah H O λh H Y=>aj O (λ_=>?_) (λhb=>by first|(cases hb;done)|(simp at hb;done));refine ah H O λh H Y=>aF O call80 (hq) <| ah H O λh H Y=>aj O (λ_=>?_) (λhb=>by first|(cases hb;done)|(simp at hb;done));refine ah H O λh H Y=>aF O call36 (dh (by decide) call37 (dx λb _=>kK b)) <| ah H O λh H Y=>?_;exact ab [] H O ⟨H.kp,λ_ _ _ h=>by simpa[iY]using h⟩
theorem Cx (a:cg):∀h0:AH,aP prog 47 [.agg a.cs,.agg a.cs] h0 (.bool true) h0:=by intro h0;refine aP.pure (.bool _) ?_;refine az (n:=24) (rs:=[.tmp 4]) [] ⟨func47,O,O,O⟩ O <| have H:HI h0 [] h0 []:=HI.nil;aS [2,3] [] H O λh H Y=>?_;refine aj O (λ_=>?_) (λhb=>by first|(cases hb;done)|(simp at hb;done));refine ah H O λh H Y=>aj O (λ_=>?_) (λhb=>by first|(cases hb;done)|(simp at hb;done));refine ah H O λh H Y=>aF O call36 (dh (by decide) call37 (dx λb _=>kK b)) <| ah H O λh H Y=>?_;exact ab [] H O ⟨H.kp,λ_ _ _ h=>by simpa[iY]using h⟩
theorem vM (a:Def):∀h0:AH,aP prog 17 [.agg a.cs,.agg a.cs] h0 (.bool true) h0:=by intro h0;refine aP.pure (.bool _) ?_;refine az (n:=59) (rs:=[.tmp 4]) [] ⟨func17,O,O,O⟩ O <| have H:HI h0 [] h0 []:=HI.nil;aS [2,3] [] H O λh H Y=>?_;refine aj O (λ_=>?_) (λhb=>by first|(cases hb;done)|(simp at hb;done));refine ah H O λh H Y=>aj O (λ_=>?_) (λhb=>by first|(cases hb;done)|(simp at hb;done));refine ah H O λh H Y=>aj O (λ_=>?_) (λhb=>by first|(cases hb;done)|(simp at hb;done));refine ah H O λh H Y=>aF O call36 (dh (by decide) call37 (dx λb _=>kK b)) <| ah H O λh H Y=>aj O (λ_=>?_) (λhb=>by first|(cases hb;done)|(simp at hb;done));refine ah H O λh H Y=>aF O call42 (sx call43 yg) <| ah H O λh H Y=>aj O (λ_=>?_) (λhb=>by first|(cases hb;done)|(simp at hb;done));refine ah H O λh H Y=>aF O call44 (dh (by decide) call45 (dx λb _=>ED b)) <| ah H O λh H Y=>aj O (λ_=>?_) (λhb=>by first|(cases hb;done)|(simp at hb;done));refine ah H O λh H Y=>aF O call42 (sx call43 yg) <| ah H O λh H Y=>aj O (λ_=>?_) (λhb=>by first|(cases hb;done)|(simp at hb;done));refine ah H O λh H Y=>aF O call46 (dh (by decide) call47 (dx λb _=>Cx b)) <| ah H O λh H Y=>?_;exact ab [] H O ⟨H.kp,λ_ _ _ h=>by simpa[iY]using h⟩
theorem yi (a:dn):∀h0:AH,aP prog 15 [.agg a.cs,.agg a.cs] h0 (.bool true) h0:=by intro h0;refine aP.pure (.bool _) ?_;refine az (n:=38) (rs:=[.tmp 4]) [] ⟨func15,O,O,O⟩ O <| have H:HI h0 [] h0 []:=HI.nil;aS [2,3] [] H O λh H Y=>?_;refine aj O (λ_=>?_) (λhb=>by first|(cases hb;done)|(simp at hb;done));refine ah H O λh H Y=>aj O (λ_=>?_) (λhb=>by first|(cases hb;done)|(simp at hb;done));refine ah H O λh H Y=>aF O call40 (dh (by decide) call41 (dx λb _=>qg b)) <| ah H O λh H Y=>aj O (λ_=>?_) (λhb=>by first|(cases hb;done)|(simp at hb;done));refine ah H O λh H Y=>aF O call42 (sx call43 yg) <| ah H O λh H Y=>aj O (λ_=>?_) (λhb=>by first|(cases hb;done)|(simp at hb;done));refine ah H O λh H Y=>?_;exact ab [] H O ⟨H.kp,λ_ _ _ h=>by simpa[iY]using h⟩
theorem He (a b a2 b2:ByteArray) (ha:a.data.toList=a2.data.toList) (hb:b.data.toList=b2.data.toList) (w:World):(Op.equal 130 (.agg #[.string a,.string b]) (.agg #[.string a2,.string b2])).run prog w= .ok true w:=by
 obtain⟨d,hd⟩:∃d,Op.equal 130 (.agg #[.string a,.string b]) (.agg #[.string a2,.string b2])=Op.equalIn (d+1+1) 130 (.agg #[.string a,.string b]) (.agg #[.string a2,.string b2]):=⟨9998,O⟩;have h9:prog.underlying 9=some .string:=rfl;have hs:prog.stoodInHeld 130=false:=by decide+kernel
 have hf:(prog.fieldsOf 130).toList=[{name:= "Op",type:=9,offset:=0,embedded:=false,tag:= "",pkgPath:= "",byteOffset:=0},{name:= "T",type:=9,offset:=1,embedded:=false,tag:= "",pkgPath:= "",byteOffset:=16}]:=rfl;have p0:∀(x y:Value),(part 9 #[x,y] 0).run prog w= .ok x w:=λx y=>rfl
 have p1:∀(x y:Value),(part 9 #[x,y] 1).run prog w= .ok y w:=λx y=>rfl
 rw[hd,run_equalIn_struct w _ 130 _ _ O hs,hf];simp only[Op.eqFields];have n1:("Op" ≠ "_"):=by decide
 have n2:("T" ≠ "_"):=by decide
 rw[if_pos n1,if_pos n2];simp only[Sem.run_bind,p0,p1,Result.andThen_ok,run_equalIn_string w _ _ _ _ h9,xi,ha,hb,decide_true,Bool.not_true,Bool.false_eq_true,if_false,Sem.run_ite,Sem.run_pure]
theorem J5 (x y:Operand) (xs ys:Array Value) (w:World):(eqGuard .eql 130 x y (.agg xs) (.agg ys)).run prog w= .ok () w:=by
 have:prog.eqGuardType prog.depth 130=false:=by decide+kernel
 simp only[eqGuard,Bool.not_true,Bool.false_eq_true,if_false,Sem.run_ite,Sem.run_bind,run_program,Result.andThen_ok,this,Bool.not_false,if_true,Sem.run_pure]
theorem EE {g:Gh} {w:World} {a b:ak} {v:Value} (h:VR g w (.agg [.str a,.str b]) v):∃x y:ByteArray,v= .agg #[.string x,.string y]/\x.data.toList=a/\y.data.toList=b:=by
 cases h with
 |agg _ vs hn hv ho=>
  obtain⟨l⟩:=vs
  match l,hn with
  |[p,q],_=>
   have h0:=hv 0 (by simp)
   have h1:=hv 1 (by simp)
   simp at h0 h1
   cases h0 with|str x=>cases h1 with|str y=>exact⟨x,y,O,O,O⟩
theorem Hf (a:fD):∀h0:AH,aP prog 39 [.agg a.cs,.agg a.cs] h0 (.bool true) h0:=by
 intro h0;refine aP.pure (.bool _) ?_;refine az (n:=8) (rs:=[.tmp 4]) [] ⟨func39,O,O,O⟩ O <| have H:HI h0 [] h0 []:=HI.nil;aS [2,3] [] H O λh H Y=>?_;refine ba (d:=7) (s:= .v (.bool true)) (λh=>ag.raw O λg w ρ R hv=>?_) O ?_
 .have h1:=hv (.tmp 5) (by simp[Op.operands]) _ O
  have h2:=hv (.tmp 6) (by simp[Op.operands]) _ O
  obtain⟨x1,y1,e1,q1,q2⟩:=EE (a:=a.op) (b:=a.t) h1;obtain⟨x2,y2,e2,q3,q4⟩:=EE (a:=a.op) (b:=a.t) h2;refine⟨.bool true,g,w,?_,.refl _ _,R,.bool _⟩;have:=He x1 y1 x2 y2 (q1.trans q3.symm) (q2.trans q4.symm) w;simp only[execOp,Sem.run_bind,e1,e2,J5,Result.andThen_ok,binOp,this,Sem.run_pure]
 exact ah H O λh H Y=>ab [] H O ⟨H.kp,λ_ _ _ h=>h⟩
theorem rT (a:av):∀h0:AH,aP prog 13 [.agg a.cs,.agg a.cs] h0 (.bool true) h0:=by intro h0;refine aP.pure (.bool _) ?_;refine az (n:=24) (rs:=[.tmp 4]) [] ⟨func13,O,O,O⟩ O <| have H:HI h0 [] h0 []:=HI.nil;aS [2,3] [] H O λh H Y=>?_;refine aj O (λ_=>?_) (λhb=>by first|(cases hb;done)|(simp at hb;done));refine ah H O λh H Y=>aF O call36 (dh (by decide) call37 (dx λb _=>kK b)) <| ah H O λh H Y=>aj O (λ_=>?_) (λhb=>by first|(cases hb;done)|(simp at hb;done));refine ah H O λh H Y=>aF O call38 (dh (by decide) call39 (dx λb _=>Hf b)) <| ah H O λh H Y=>?_;exact ab [] H O ⟨H.kp,λ_ _ _ h=>by simpa[iY]using h⟩
theorem yj (a:bY):∀h0:AH,aP prog 7 [.agg a.cs,.agg a.cs] h0 (.bool true) h0:=by intro h0;refine aP.pure (.bool _) ?_;refine az (n:=38) (rs:=[.tmp 4]) [] ⟨func7,O,O,O⟩ O <| have H:HI h0 [] h0 []:=HI.nil;aS [2,3] [] H O λh H Y=>?_;refine aF O call12 (dh (by decide) call13 (dx λb _=>rT b)) <| ah H O λh H Y=>aj O (λ_=>?_) (λhb=>by first|(cases hb;done)|(simp at hb;done));refine ah H O λh H Y=>aF O call12 (dh (by decide) call13 (dx λb _=>rT b)) <| ah H O λh H Y=>aj O (λ_=>?_) (λhb=>by first|(cases hb;done)|(simp at hb;done));refine ah H O λh H Y=>aF O call14 (dh (by decide) call15 (dx λb _=>yi b)) <| ah H O λh H Y=>aj O (λ_=>?_) (λhb=>by first|(cases hb;done)|(simp at hb;done));refine ah H O λh H Y=>aF O call16 (dh (by decide) call17 (dx λb _=>vM b)) <| ah H O λh H Y=>aj O (λ_=>?_) (λhb=>by first|(cases hb;done)|(simp at hb;done));refine ah H O λh H Y=>aF O call16 (dh (by decide) call17 (dx λb _=>vM b)) <| ah H O λh H Y=>?_;exact ab [] H O ⟨H.kp,λ_ _ _ h=>by simpa[iY]using h⟩
end
def jE (t:Tok) (c:List AV):Prop:=∃a b e f:Int,c=[.int .i64 ((t.k:Int) -1),.str t.v,.int .i64 a,.int .i64 b,.int .i64 e,.int .i64 f]
def NW (t:Tok):Prop:=t.v∈[rq,br,fJ,cQ,bz]->t.k=16
def RC (z:AV) (d:Nat) (b s e a:Bool):List AV:=[z,.int .i64 (d:Nat),.bool b,.bool s,.bool e,.bool a]
def kT:Tok:=⟨1,[]⟩
def TS (s:Bool) (o:Option (List Tok)) (b:Bool) (es:List (List AV)):Prop:=
 match o with
 |none=>b=true
 |some L=>b=false/\es.length<=1048576/\∃ts,L=ts++[kT]/\bx jE ts es/\(∀t∈ts,2<=t.k)/\(s=true->∀t∈ts,NW t)
def RB (h:AH) (x:Nat) (o:Option (List Tok)) (d:Nat) (s e a:Bool):Prop:=x <h.n/\∃tk es b,h.get x=some (.cells (RC (.vec tk 6 es) d b s e a))/\TS s o b es
def fq (o:Option (List Tok)) (k:Nat):Bool:=match o with
 |none=>false
 |some L=>decide (bC L=k)
def wR (o:Option (List Tok)):Option (List Tok):=match o with
 |none=>none
 |some L=>if bC L=1 then none else some L.tail
def wq (o:Option (List Tok)):Tok:=match o with
 |none=>kT
 |some L=>⟨bC L,dN L⟩
theorem TS.cases {s b:Bool} {L:List Tok} {es:List (List AV)} (h:TS s (some L) b es):
 b=false/\((L=[kT]/\es=[])\/∃t ts c cs,L=t::(ts++[kT])/\es=c::cs/\jE t c/\2<=t.k/\TS s (some (ts++[kT])) false cs):=by
 obtain⟨hb,hl,ts,rfl,hR,hk,hn⟩:=h;refine⟨hb,?_⟩
 cases ts with
 |nil=>cases es with|nil=>exact .inl ⟨O,O⟩|cons=>exact hR.elim
 |cons t ts=>cases es with|nil=>exact hR.elim|cons c cs=>refine .inr ⟨t,ts,c,cs,O,O,hR.1,hk t (by simp),O,?_,ts,O,hR.2,λt ht=>hk t (by simp[ht]),λe t ht=>hn e t (by simp[ht])⟩;simp at hl;omega
theorem RB.of {h0 h:AH} {x:Nat} {ids:List Nat} {o:Option (List Tok)} {d:Nat} {s e a b:Bool} {tk:Tk} {es:List (List AV)} {V:View} (H:HI h0 ids h ((x,RC (.vec tk 6 es) d b s e a)::V)) (T:TS s o b es):RB h x o d s e a:=⟨H.at_.2,tk,es,b,H.at_.1,T⟩
theorem HI.o0 {h0 h:AH} {x:Nat} {cs:List AV} {V:View} (H:HI h0 [x] h ((x,cs)::V)) (hg:h0.get x=some (.cells cs)):Kp [] h0 h:=
 ⟨H.kp.n,λk hk _=>by
  by_cases e:k=x
  .subst e;exact H.at_.1.trans hg.symm
  .exact H.kp.get k hk (by simpa using e),H.kp.nt,H.kp.bV,H.kp.aV⟩
section
variable {h h0:AH} {x d k:Nat} {o:Option (List Tok)} {s e a:Bool}
theorem fF (S:RB h0 x o d s e a) (hk:1<=k):al prog 21 [.ptr x 0,.int .i64 (k:Nat)] h0 (λv h'=>Kp [] h0 h'/\v= .bool (fq o (k+1))):=by
 obtain⟨hx,tk,es,b,hg,T⟩:=S;refine az (n:=29) (rs:=[.tmp 4]) [] ⟨func21,O,O,O⟩ O ?_;have H:HI h0 [x] h0 [(x,RC (.vec tk 6 es) d b s e a)]:=HI.one hg hx
 cases o with
 |none=>obtain rfl:b=true:=T;exact an [0,92,92] H O λh H Y=>ab [] H O ⟨H.o0 hg,O⟩
 |some L=>
  obtain⟨rfl,⟨rfl,rfl⟩|⟨t,ts,c,cs,rfl,rfl,⟨p1,p2,p3,p4,rfl⟩,jh,_⟩⟩:=T.cases
  .refine an [0,92,0] H O λh H Y=>aj O (λhb=>by simp at hb) (λ_=>?_);refine ah H O λh H Y=>ab [] H O ⟨H.o0 hg,?_⟩;show AV.bool false= .bool (decide (1=k+1));rw[decide_eq_false (by omega)]
  .refine an [0,92,0] H O λh H Y=>aj O (λ_=>?_) (λhb=>by simp at hb);refine an [0] H O λh H Y=>ba (ag.indexAddr O O O O O O (Int.le_refl 0) O) O <| ah H O λh H Y=>ab [] H O ⟨H.o0 hg,?_⟩;show AV.bool (decide ((t.k:Int) -1=(k:Int)))= .bool (decide (t.k=k+1))
   congr 1
   simp only[decide_eq_decide];omega
end
section
variable {h h0:AH} {x d k:Nat} {o:Option (List Tok)} {s e a:Bool}
theorem gw (S:RB h0 x o d s e a):al prog 24 [.ptr x 0] h0 (λv h'=>Kp [x] h0 h'/\RB h' x (wR o) d s e a/\∃c,v= .agg c/\jE (wq o) c):=by
 obtain⟨hx,tk,es,b,hg,T⟩:=S;refine az (n:=35) (rs:=[.cell 2 71]) [] ⟨func24,O,O,O⟩ O ?_;have H:HI h0 [x] h0 [(x,RC (.vec tk 6 es) d b s e a)]:=HI.one hg hx;have fin:∀{h:AH} {b':Bool} {c:List AV} {pz:Tk} {cA:List (List AV)} {V:View},HI h0 [x] h ((x,RC (.vec pz 6 cA) d b' s e a)::V)->TS s (wR o) b' cA->jE (wq o) c->Kp [x] h0 h/\RB h x (wR o) d s e a/\∃c',AV.agg c= .agg c'/\jE (wq o) c':=λH T C=>⟨H.kp,.of H T,_,O,C⟩
 cases o with
 |none=>obtain rfl:b=true:=T;exact an [0,92,91,0,1] H O λh H Y=>ab [1] H O (fin H O ⟨0,0,0,0,O⟩)
 |some L=>
  obtain⟨rfl,⟨rfl,rfl⟩|⟨t,ts,c,cs,rfl,rfl,⟨p1,p2,p3,p4,rfl⟩,jh,T2⟩⟩:=T.cases
  .exact an [0,92,0,91,0,1] H O λh H Y=>ab [1] H O (fin H O ⟨0,0,0,0,O⟩)
  .refine an [0,92,0] H O λh H Y=>af O (λhb=>?_) λhb=>?_
   .simp at hb;omega
   refine an [0] H O λh H Y=>ba (ag.indexAddr O O O O O O (Int.le_refl 0) O) O <| an [2,0] H O λh H Y=>ba (ag.sliceFrom (n:=1) O O O O O O (by simp)) O <| an [0,2,1] H O λh H Y=>ab [1] H O (fin H ?_ ⟨p1,p2,p3,p4,O⟩);show TS s (if t.k=1 then none else some (ts++[kT])) false cs;rw[if_neg (by omega)];exact T2
end
theorem qi {t:Tok} {r:List Tok} {k:Nat}:fq (some (t::r)) k=decide (t.k=k):=rfl
theorem Cy {k:Nat}:fq (some []) k=decide (0=k):=rfl
theorem nW {t:Tok} {r:List Tok}:wR (some (t::r))=if t.k=1 then none else some r:=rfl
theorem vN {o:Option (List Tok)} {k:Nat} (hk:2<=k):((bB k).on o).map (·.2)=if fq o k=true then wR o else o:=by
 cases o with
 |none=>rfl
 |some L=>
  cases L with
  |nil=>rw[Cy,if_neg (by rw[decide_eq_true_eq];omega)];rfl
  |cons t r=>
   rw[qi,nW]
   by_cases h:t.k=k
   .rw[if_pos (by rw[decide_eq_true_eq];exact h),if_neg (by omega)];simp[Pa.on,bB,h]
   .rw[if_neg (by rw[decide_eq_true_eq];exact h)];simp[Pa.on,bB,h]
theorem MV {o:Option (List Tok)} {k:Nat} (hk:2<=k):dO ((bB k).on o) λb=>fq o k=b:=λb r h=>by
 cases o with
 |none=>cases h
 |some L=>
  cases L with
  |nil=>
   rw[Cy,decide_eq_false (by omega)];simp only[Pa.on,bB]at h;injection h with h
   injection h
  |cons t r=>
   rw[qi];simp only[Pa.on,bB]at h
   by_cases h1:t.k=k
   .rw[if_pos h1]at h;injection h with h
    injection h with h2 h3
    rw[<-h2];exact decide_eq_true h1
   .rw[if_neg h1]at h;injection h with h
    injection h with h2 h3
    rw[<-h2];exact decide_eq_false h1
theorem yk {o:Option (List Tok)} {k:Nat} (hk:2<=k):((aE k).on o).map (·.2)=if fq o k=true then wR o else none:=by
 cases o with
 |none=>rfl
 |some L=>
  cases L with
  |nil=>rw[Cy,if_neg (by rw[decide_eq_true_eq];omega)];rfl
  |cons t r=>
   rw[qi,nW]
   by_cases h:t.k=k
   .rw[if_pos (by rw[decide_eq_true_eq];exact h),if_neg (by omega)];simp[Pa.on,aE,h]
   .rw[if_neg (by rw[decide_eq_true_eq];exact h)];simp[Pa.on,aE,h]
theorem SR {o:Option (List Tok)} {k:Nat} {w:ak} {r:List Tok} (h:(aE k).on o=some (w,r)):w=(wq o).v:=by
 cases o with
 |none=>cases h
 |some L=>
  cases L with
  |nil=>cases h
  |cons t r=>
   simp only[Pa.on,aE]at h;split at h
   .injection h with h
    injection h with h1 h2
    exact h1.symm
   .cases h
section
variable {h h0:AH} {x d k:Nat} {o:Option (List Tok)} {s e a:Bool}
theorem RB.at_ (S:RB h0 x o d s e a):∃tk es b,HI h0 [x] h0 [(x,RC (.vec tk 6 es) d b s e a)]/\TS s o b es:=by obtain⟨hx,tk,es,b,hg,T⟩:=S;exact⟨tk,es,b,HI.one hg hx,T⟩
theorem RB.hi (S:RB h x o d s e a) (hx:x <h0.n) (k:Kp [x] h0 h):∃tk es b,HI h0 [x] h [(x,RC (.vec tk 6 es) d b s e a)]/\TS s o b es:=by obtain⟨hx',tk,es,b,hg,T⟩:=S;exact⟨tk,es,b,⟨⟨⟨hg,hx',by simp⟩,trivial⟩,k,by simp⟩,T⟩
theorem fP (S:RB h0 x o d s e a) (hk:1<=k):al prog 51 [.ptr x 0,.int .i64 (k:Nat)] h0 (λv h'=>Kp [x] h0 h'/\RB h' x (((bB (k+1)).on o).map (·.2)) d s e a/\v= .bool (fq o (k+1))):=by
 have hx:=S.1
 obtain⟨tk,es,b,H,T⟩:=S.at_;refine az (n:=10) (rs:=[.tmp 4]) [] ⟨func51,O,O,O⟩ O <| ah H O λh H Y=>ae O call21 (fF (.of H T) hk) ?_;rintro v h2 ⟨kp,rfl⟩;replace H:=H.same kp;refine ah H O λh H Y=>?_;rw[vN (by omega)];refine af O (λhb=>?_) λhb=>?_
 .refine ah H O λh H Y=>ae O call24 (gw (.of H T)) ?_;rintro v h3 ⟨kp,S3,c,rfl,C⟩;obtain⟨wS,wo,b3,H3,T3⟩:=S3.hi hx (H.kp.trans kp);clear H;have H:=H3;refine ah H O λh H Y=>?_;rw[if_pos hb];exact ab [] H O ⟨H.kp,.of H T3,by rw[hb];rfl⟩
 .refine ah H O λh H Y=>?_;rw[if_neg (by rw[hb];simp)];exact ab [] H O ⟨H.kp,.of H T,by rw[hb];rfl⟩
theorem dB (S:RB h0 x o d s e a) (hk:1<=k):al prog 56 [.ptr x 0,.int .i64 (k:Nat)] h0 (λv h'=>Kp [x] h0 h'/\RB h' x (((aE (k+1)).on o).map (·.2)) d s e a/\∃w,v= .str w/\dO ((aE (k+1)).on o) λa=>a=w):=by
 have hx:=S.1
 obtain⟨tk,es,b,H,T⟩:=S.at_;refine az (n:=15) (rs:=[.tmp 4]) [] ⟨func56,O,O,O⟩ O <| ah H O λh H Y=>ae O call21 (fF (.of H T) hk) ?_;rintro v h2 ⟨kp,rfl⟩;replace H:=H.same kp;refine ah H O λh H Y=>?_;rw[yk (by omega)];refine af O (λhb=>?_) λhb=>?_
 .have dk:fq o (k+1)=false:=by simpa using hb
  refine an [0] H O λh H Y=>ae O call24 (gw (o:=none) (.of H O)) ?_;rintro v h3 ⟨kp,S3,c,rfl,⟨p1,p2,p3,p4,rfl⟩⟩;obtain⟨wS,wo,b3,H3,T3⟩:=S3.hi hx (H.kp.trans kp);clear H;have H:=H3;refine ah H O λh H Y=>?_;rw[if_neg (by rw[dk];simp)];refine ab [] H O ⟨H.kp,.of H T3,_,O,λa l e=>?_⟩;have:=yk (o:=o) (k:=k+1) (by omega);rw[e,if_neg (by rw[dk];simp)]at this
  cases this
 .have dk:fq o (k+1)=true:=by simpa using hb
  refine ah H O λh H Y=>ae O call24 (gw (.of H T)) ?_;rintro v h3 ⟨kp,S3,c,rfl,⟨p1,p2,p3,p4,rfl⟩⟩;obtain⟨wS,wo,b3,H3,T3⟩:=S3.hi hx (H.kp.trans kp);clear H;have H:=H3;refine ah H O λh H Y=>?_;rw[if_pos dk];exact ab [] H O ⟨H.kp,.of H T3,_,O,λa l e=>SR e⟩
theorem bg (S:RB h0 x o d s e a):al prog 52 [.ptr x 0] h0 (λv h'=>Kp [x] h0 h'/\RB h' x ((ar.on o).map (·.2)) d s e a/\∃w,v= .str w/\dO (ar.on o) λa=>a=w):=by
 have hx:=S.1
 obtain⟨tk,es,b,H,T⟩:=S.at_;refine az (n:=5) (rs:=[.tmp 2]) [] ⟨func52,O,O,O⟩ O <| ah H O λh H Y=>ae O call56 (dB (k:=15) (.of H T) (by omega)) ?_;rintro v h3 ⟨kp,S3,w,rfl,hw⟩;obtain⟨wS,wo,b3,H3,T3⟩:=S3.hi hx (H.kp.trans kp);clear H;have H:=H3;exact ah H O λh H Y=>ab [] H O ⟨H.kp,.of H T3,_,O,hw⟩
end
def rC (o:Option (List Tok)) (w:ak):Bool:=match o with
 |none=>false
 |some L=>decide (bC L=16/\dN L=w)
theorem MW {o:Option (List Tok)} {w:ak}:((cF w).on o).map (·.2)=if rC o w=true then wR o else none:=by
 cases o with
 |none=>rfl
 |some L=>
  cases L with
  |nil=>rfl
  |cons t r=>
   have e:rC (some (t::r)) w=decide (t.k=16/\t.v=w):=rfl
   rw[e,nW]
   by_cases h:t.k=16/\t.v=w
   .rw[if_pos (by rw[decide_eq_true_eq];exact h),if_neg (by omega)];simp[Pa.on,cF,h]
   .rw[if_neg (by rw[decide_eq_true_eq];exact h)];simp only[Pa.on,cF,if_neg h];rfl
theorem MX {o:Option (List Tok)} {w:ak} (h:fq o 16=false):rC o w=false:=by cases o with|none=>rfl|some L=>simp only[fq,decide_eq_false_iff_not]at h;simp only[rC,decide_eq_false_iff_not];exact λq=>h q.1
section
variable {h h0:AH} {x d k:Nat} {o:Option (List Tok)} {s e a:Bool} {w:ak}
theorem u6 (S:RB h0 x o d s e a):al prog 23 [.ptr x 0,.str w] h0 (λv h'=>Kp [] h0 h'/\v= .bool (rC o w)):=by
 have hx:=S.1
 obtain⟨tk,es,b,H,T⟩:=S.at_;have hg:=H.at_.1;refine az (n:=18) (rs:=[.tmp 4]) [] ⟨func23,O,O,O⟩ O <| ah H O λh H Y=>ae O call21 (fF (k:=15) (.of H T) (by omega)) ?_;rintro v h2 ⟨kp,rfl⟩;replace H:=H.same kp;refine ah H O λh H Y=>aj O (λhb=>?_) (λhb=>?_)
 .cases o with
  |none=>cases hb
  |some L=>
   obtain⟨rfl,⟨rfl,rfl⟩|⟨t,ts,c,cs,rfl,rfl,⟨p1,p2,p3,p4,rfl⟩,jh,T2⟩⟩:=T.cases
   .simp[fq,bC,kT]at hb
   .have hk:t.k=16:=of_decide_eq_true hb
    refine an [0] H O λh H Y=>ba (ag.indexAddr O O O O O O (Int.le_refl 0) O) O <| ah H O λh H Y=>ab [] H O ⟨H.o0 hg,?_⟩;show AV.bool (decide (t.v=w))= .bool (decide (t.k=16/\t.v=w));simp[hk]
 .refine ah H O λh H Y=>ab [] H O ⟨H.o0 hg,?_⟩;rw[MX hb];rfl
theorem jb (S:RB h0 x o d s e a):al prog 26 [.ptr x 0,.str w] h0 (λv h'=>Kp [x] h0 h'/\RB h' x (if rC o w=true then wR o else o) d s e a/\v= .bool (rC o w)):=by
 have hx:=S.1
 obtain⟨tk,es,b,H,T⟩:=S.at_;refine az (n:=10) (rs:=[.tmp 4]) [] ⟨func26,O,O,O⟩ O <| ah H O λh H Y=>ae O call23 (u6 (w:=w) (.of H T)) ?_;rintro v h2 ⟨kp,rfl⟩;replace H:=H.same kp;refine ah H O λh H Y=>af O (λhb=>?_) λhb=>?_
 .refine ah H O λh H Y=>ae O call24 (gw (.of H T)) ?_;rintro v h3 ⟨kp,S3,c,rfl,C⟩;obtain⟨wS,wo,b3,H3,T3⟩:=S3.hi hx (H.kp.trans kp);clear H;have H:=H3;refine ah H O λh H Y=>?_;rw[if_pos hb];exact ab [] H O ⟨H.kp,.of H T3,by rw[hb];rfl⟩
 .refine ah H O λh H Y=>?_;rw[if_neg (by rw[hb];simp)];exact ab [] H O ⟨H.kp,.of H T,by rw[hb];rfl⟩
theorem Cz (S:RB h0 x o d s e a):al prog 58 [.ptr x 0,.str w] h0 (λv h'=>Kp [x] h0 h'/\RB h' x (((cF w).on o).map (·.2)) d s e a):=by
 have hx:=S.1
 obtain⟨tk,es,b,H,T⟩:=S.at_;refine az (n:=11) (rs:=[]) [] ⟨func58,O,O,O⟩ O <| ah H O λh H Y=>ae O call26 (jb (w:=w) (.of H T)) ?_;rintro v h2 ⟨kp,S3,rfl⟩;obtain⟨wS,wo,b3,H3,T3⟩:=S3.hi hx (H.kp.trans kp);clear H;have H:=H3;refine ah H O λh H Y=>?_;rw[MW];refine af O (λhb=>?_) λhb=>?_
 .have dk:rC o w=false:=by simpa using hb
  refine an [0] H O λh H Y=>?_;rw[if_neg (by rw[dk];simp)];exact cy [] H O ⟨H.kp,.of H O⟩
 .have dk:rC o w=true:=by simpa using hb
  refine ah H O λh H Y=>?_;rw[if_pos dk]at T3|-;exact cy [] H O ⟨H.kp,.of H T3⟩
theorem yl (S:RB h0 x o d s e a) (hd:d<=1048576):al prog 137 [.ptr x 0] h0 (λv h'=>Kp [x] h0 h'/\RB h' x (if d <1000 then o else none) (d+1) s e a):=by
 have hx:=S.1
 obtain⟨tk,es,b,H,T⟩:=S.at_;refine az (n:=17) (rs:=[]) [] ⟨func137,O,O,O⟩ O <| an [0,0,0] H O λh H Y=>?_;have ew:IntKind.i64.wrap ((d:Int)+1)=((d+1:Nat):Int):=wI (by omega);refine af O (λhb=>?_) λhb=>?_
 .have:¬ d <1000:=by
   rw[ew]at hb;simp at hb;omega
  rw[if_neg this];refine an [0] H O λh H Y=>cy [] H O ⟨H.kp,?_⟩;have H':HI h0 [x] h [(x,RC (.vec tk 6 es) (d+1) true s e a)]:=by unfold RC;rw[<-ew];exact H
  exact .of H' O
 .have:d <1000:=by
   rw[ew]at hb;simp at hb;omega
  rw[if_pos this];refine ah H O λh H Y=>cy [] H O ⟨H.kp,?_⟩;have H':HI h0 [x] h [(x,RC (.vec tk 6 es) (d+1) b s e a)]:=by unfold RC;rw[<-ew];exact H
  exact .of H' T
theorem Hg (S:RB h0 x o (d+1) s e a) (hd:d<=1048576):al prog 138 [.ptr x 0] h0 (λv h'=>Kp [x] h0 h'/\RB h' x o d s e a):=by
 have hx:=S.1
 obtain⟨tk,es,b,H,T⟩:=S.at_;refine az (n:=9) (rs:=[]) [] ⟨func138,O,O,O⟩ O <| an [0,0] H O λh H Y=>?_;have ew:IntKind.i64.wrap (((d+1:Nat):Int) -1)=(d:Int):=wI (by omega);refine cy [] H O ⟨H.kp,?_⟩;have H':HI h0 [x] h [(x,RC (.vec tk 6 es) d b s e a)]:=by unfold RC;rw[<-ew];exact H
 exact .of H' T
end
theorem EF {n d:Nat} {o:Option (List Tok)} (hk:fq o 11=true):(cK (n+1) d).on o=
 (((cK n (d+1)).on (if d <1000 then((bB 11).on o).map (·.2)else none)).bind λp=>((aE 12) p.2).bind λq=>(bB 2 q.2).map λr=>(.mk [] [p.1] r.1,r.2)):=by
 cases o with
 |none=>cases hk
 |some L=>
  have hk:bC L=11:=of_decide_eq_true hk
  cases L with
  |nil=>cases hk
  |cons t r=>
   have vp:t.k=11:=hk
   have eH:((bB 11).on (some (t::r))).map (·.2)=some r:=by simp[Pa.on,bB,vp]
   rw[eH];show cK (n+1) d (t::r)=_;simp only[cK,if_pos hk,List.tail_cons]
   by_cases hd:d <1000
   .simp only[if_pos hd,Pa.on];generalize cK n (d+1) r=y
    cases y with
    |none=>rfl
    |some p=>
     simp only[Option.bind_some];generalize aE 12 p.2=y
     cases y with
     |none=>rfl
     |some q=>
      simp only[Option.bind_some];generalize bB 2 q.2=y
      cases y<;>rfl
   .simp only[if_neg hd];rfl
theorem EG {n d:Nat} {o:Option (List Tok)} (hk:fq o 11=false):(cK (n+1) d).on o=
 ((ar.on o).bind λp=>(bB 2 p.2).map λr=>(.mk p.1 [] r.1,r.2)):=by
 cases o with
 |none=>rfl
 |some L=>
  have hk:¬ bC L=11:=of_decide_eq_false hk
  show cK (n+1) d L=_
  simp only[cK,if_neg hk,Pa.on];generalize ar L=y
  cases y with
  |none=>rfl
  |some p=>
   simp only[Option.bind_some];generalize bB 2 p.2=y
   cases y<;>rfl
theorem SU {X:Option (gn×List Tok)} {j k:Nat} {f:gn->Bool->gn}:(X.bind λp=>((aE k) p.2).bind λq=>(bB j q.2).map λr=>(f p.1 r.1,r.2)).map (·.2)=((bB j).on (((aE k).on (X.map (·.2))).map (·.2))).map (·.2):=by
 cases X with
 |none=>rfl
 |some p=>
  show((aE k p.2).bind λq=>(bB j q.2).map λr=>(f p.1 r.1,r.2)).map (·.2)=((bB j).on ((aE k p.2).map (·.2))).map (·.2)
  generalize aE k p.2=y
  cases y with
  |none=>rfl
  |some q=>
   show((bB j q.2).map λr=>(f p.1 r.1,r.2)).map (·.2)=(bB j q.2).map (·.2)
   generalize bB j q.2=y
   cases y<;>rfl
theorem PI {X:Option (ak×List Tok)} {j:Nat} {f:ak->Bool->gn}:(X.bind λp=>(bB j p.2).map λr=>(f p.1 r.1,r.2)).map (·.2)=((bB j).on (X.map (·.2))).map (·.2):=by
 cases X with
 |none=>rfl
 |some p=>
  show((bB j p.2).map λr=>(f p.1 r.1,r.2)).map (·.2)=(bB j p.2).map (·.2)
  generalize bB j p.2=y
  cases y<;>rfl
theorem PJ {X:Option (gn×List Tok)} {j k:Nat} {f:gn->Bool->gn} {t:gn} {l:List Tok} (h:(X.bind λp=>((aE k) p.2).bind λq=>(bB j q.2).map λr=>(f p.1 r.1,r.2))=some (t,l)):
 ∃p,X=some p/\∃q,aE k p.2=some q/\∃r,bB j q.2=some r/\t=f p.1 r.1:=by
 obtain⟨p,e1,h⟩:=Option.bind_eq_some_iff.1 h;obtain⟨q,e2,h⟩:=Option.bind_eq_some_iff.1 h;obtain⟨r,e3,h⟩:=Option.map_eq_some_iff.1 h;injection h with h1 h2
 exact⟨p,e1,q,e2,r,e3,h1.symm⟩
theorem MY {X:Option (ak×List Tok)} {j:Nat} {f:ak->Bool->gn} {t:gn} {l:List Tok} (h:(X.bind λp=>(bB j p.2).map λr=>(f p.1 r.1,r.2))=some (t,l)):
 ∃p,X=some p/\∃r,bB j p.2=some r/\t=f p.1 r.1:=by
 obtain⟨p,e1,h⟩:=Option.bind_eq_some_iff.1 h;obtain⟨r,e3,h⟩:=Option.map_eq_some_iff.1 h;injection h with h1 h2
 exact⟨p,e1,r,e3,h1.symm⟩
section
variable {h h0:AH} {x d k:Nat} {o:Option (List Tok)} {s e a:Bool} {w:ak}
theorem IG {n:Nat} (dk:fq o 11=false) (S:RB h0 x o d s e a):al prog 95 [.ptr x 0] h0 (λv h'=>Kp [x] h0 h'/\RB h' x (((cK (n+1) d).on o).map (·.2)) d s e a/\∃t:gn,v= .agg t.cs/\dO ((cK (n+1) d).on o) λt'=>t'=t):=by
 have hx:=S.1
 obtain⟨tk,es,b,H,T⟩:=S.at_;refine az (n:=24) (rs:=[.cell 2 135]) [] ⟨func95,O,O,O⟩ O <| an [2] H O λh H Y=>ae O call51 (fP (k:=10) (.of H T) (by omega)) ?_;rintro v h2 ⟨kp,⟨zl,AY,AZ,b1,eM,T1⟩,rfl⟩;replace H:=H.aA kp eM;refine ah H O λh H Y=>af O (λhb=>?_) λhb=>?_
 .exact absurd hb (by rw[dk];simp)
 .have eo:((bB 11).on o).map (·.2)=o:=by rw[vN (by omega),if_neg (by rw[dk];simp)]
  rw[eo]at T1;refine ah H O λh H Y=>ae O call52 (bg (.of H T1)) ?_;rintro v h2 ⟨kp,⟨pC,uy,lT,b2,bI,T2⟩,w2,rfl,SK⟩;replace H:=H.aA kp bI;refine an [2] H O λh H Y=>ae O call51 (fP (k:=1) (.of H T2) (by omega)) ?_;rintro v h2 ⟨kp,⟨K7,IH,FJ,b6,su,T6⟩,rfl⟩;replace H:=H.aA kp su;refine TW 4 [2] H O λh H Y=>?_;refine jK 2 (gn.mk w2 [] (fq ((ar.on o).map (·.2)) 2)).cs H O (by rw[gn.fO];rfl) (by rw[gn.fO];exact⟨.refl _,.one _,.refl _,trivial⟩) ?_
  clear H;intro h H Y;refine an [2,1] H O λh H Y=>?_;refine ab [1] H O ⟨H.kp,?_,_,by rw[gn.fO];rfl,?_⟩
  .rw[EG dk];exact(congrArg (λo'=>RB h x o' d s e a) (PI (j:=2) (f:=λp r=>gn.mk p [] r))).mpr (RB.of H T6)
  .rw[EG dk];intro t' l e;obtain⟨p,e1,r,e3,e4⟩:=MY (f:=λp r=>gn.mk p [] r) e;have h1:=SK p.1 p.2 e1;have h2:=MV (o:=(ar.on o).map (·.2)) (k:=2) (by omega) r.1 r.2 (by
    rw[e1];exact e3)
   rw[e4,h1,h2]
theorem EH:∀(n d:Nat) (o:Option (List Tok)) (h0:AH),(o=none\/(1<=n/\n+d=1001))->d<=1001->RB h0 x o d s e a->
 al prog 95 [.ptr x 0] h0 (λv h'=>Kp [x] h0 h'/\RB h' x (((cK n d).on o).map (·.2)) d s e a/\∃t:gn,v= .agg t.cs/\dO ((cK n d).on o) λt'=>t'=t):=by
 intro n
 induction n with
 |zero=>intro d o h0 hn hd S;obtain rfl:o=none:=hn.elim id (λh=>absurd h.1 (by omega));exact IG (n:=0) O S
 |succ n ih=>
  intro d o h0 hn hd S
  cases hk:fq o 11 with
  |false=>exact IG hk S
  |true=>
   have hx:=S.1
   obtain⟨tk,es,b,H,T⟩:=S.at_;refine az (n:=24) (rs:=[.cell 2 135]) [] ⟨func95,O,O,O⟩ O <| an [2] H O λh H Y=>ae O call51 (fP (k:=10) (.of H T) (by omega)) ?_;rintro v h2 ⟨kp,⟨zl,AY,AZ,b1,eM,T1⟩,rfl⟩;replace H:=H.aA kp eM;refine ah H O λh H Y=>af O (λhb=>?_) λhb=>?_
   .refine ah H O λh H Y=>ae O call137 (yl (.of H T1) (by omega)) ?_;rintro v h2 ⟨kp,S2⟩;have Ru:(if d <1000 then((bB 11).on o).map (·.2)else none)=none\/(1<=n/\n+(d+1)=1001):=by
     by_cases q:d <1000
     .rcases hn with rfl|⟨_,hn⟩
      .cases hb
      .exact .inr ⟨by omega,by omega⟩
     .rw[if_neg q];exact .inl O
    obtain⟨pC,uy,lT,b2,bI,T2⟩:=S2;replace H:=H.aA kp bI;refine ah H rfl λh H Y=>ae rfl call95 (ih (d+1) _ _ Ru (by rcases hn with rfl|⟨_,hn⟩;(cases hb);omega) (.of H T2)) ?_;rintro v h2 ⟨kp,⟨AO,wS,wo,b3,bF,T3⟩,t3,rfl,hv3⟩;replace H:=H.aA kp bF;obtain⟨n1,x1,b1,e1⟩:=t3.shape;rw[e1];refine an [2] H O λh H Y=>ae O call56 (dB (k:=11) (.of H T3) (by omega)) ?_;rintro v h2 ⟨kp,⟨Xi,vO,mr,b4,jj,T4⟩,w4,rfl,hv4⟩;replace H:=H.aA kp jj;refine ah H O λh H Y=>ae O call138 (Hg (.of H T4) (by omega)) ?_;rintro v h2 ⟨kp,⟨Ew,Dl,rB,b5,mw,T5⟩⟩;replace H:=H.aA kp mw;refine ah H O λh H Y=>ae O call51 (fP (k:=1) (.of H T5) (by omega)) ?_;rintro v h2 ⟨kp,⟨K7,IH,FJ,b6,su,T6⟩,rfl⟩;replace H:=H.aA kp su;refine TW 4 [2] H O λh H Y=>?_;refine jK 2 (gn.mk [] [t3] (fq (((aE 12).on (((cK n (d+1)).on (if d <1000 then((bB 11).on o).map (·.2)else none)).map (·.2))).map (·.2)) 2)).cs H O (by rw[gn.fO];rfl) (by rw[gn.fO];refine⟨.refl _,bj ?_,.refl _,trivial⟩;show ee _ (.vec .none 3 [t3.cs]);rw[e1];exact j9) ?_
    clear H;intro h H Y;refine an [2,1] H O λh H Y=>?_;refine ab [1] H O ⟨H.kp,?_,_,by rw[gn.fO];rfl,?_⟩
    .rw[EF hb];exact(congrArg (λo'=>RB h x o' d s e a) (SU (j:=2) (k:=12) (f:=λp r=>gn.mk [] [p] r))).mpr (RB.of H T6)
    .rw[EF hb];intro t' l e;obtain⟨p,e1,q,e2,r,e3,e4⟩:=PJ (f:=λp r=>gn.mk [] [p] r) e;have h1:=hv3 p.1 p.2 e1;have h2:=MV (o:=((aE 12).on (((cK n (d+1)).on (if d <1000 then((bB 11).on o).map (·.2)else none)).map (·.2))).map (·.2)) (k:=2) (by omega) r.1 r.2 (by
      rw[e1];show(bB 2).on ((aE 12 p.2).map (·.2))=_;rw[e2];exact e3)
     rw[e4,h1,h2]
   .exact absurd hb (by rw[hk];simp)
end
section
variable {h h0:AH}
theorem tN (w:ak):∀h0:AH,aP prog 98 [.str w] h0 (.int .i64 (jx w)) h0:=by
 intro h0;refine aP.pure (.int _ _) ?_;refine az (n:=9) (rs:=[.tmp 2]) [] ⟨func98,O,O,O⟩ O <| have H:HI h0 [] h0 []:=HI.nil;ah H O λh H Y=>?_;have fin:∀{h:AH} {k k':Int} {V:View},HI h0 [] h V->k=k'->Kp [] h0 h/\∀(g:Gh) (w:World) (u:Value),VR g w (.int .i64 k) u->VR g w (.int .i64 k') u:=λH e=>⟨H.kp,by rw[e];exact λ_ _ _ h=>h⟩
 refine af O (λh1=>?_) λh1=>?_
 .have e1:w=Gx:=of_decide_eq_true h1
  refine ah H O λh H Y=>af O (λh2=>?_) λh2=>?_
  .exact ah H O λh H Y=>ab [] H O (fin H (by subst e1;rfl))
  .exact absurd h1 (by rw[h2];simp)
 .have e1:w≠Gx:=of_decide_eq_false h1
  refine ah H O λh H Y=>af O (λh2=>?_) λh2=>?_
  .have e2:w=B8:=of_decide_eq_true h2
   exact ah H O λh H Y=>ab [] H O (fin H (by subst e2;rfl))
  .have e2:w≠B8:=of_decide_eq_false h2
   refine ah H O λh H Y=>af O (λh3=>?_) λh3=>?_
   .have e3:w=Gz:=of_decide_eq_true h3
    exact ah H O λh H Y=>ab [] H O (fin H (by subst e3;rfl))
   .have e3:w≠Gz:=of_decide_eq_false h3
    exact ah H O λh H Y=>ab [] H O (fin H (by simp[jx,e1,e2,e3]))
end
def rU (w:ak):ak:=if w=dt then gS else if w=eN then eJ else if w=bh then cp else if w=eO then jw else if w=fW then lV else if w=ff then cG else[]
abbrev EI:List ak:=[qP,j2,fN,qQ,cR,eu,eA,cS,nR,gS,eJ,dP,cT,cp,jw,lV,ig,cG,cl]
section
variable {h h0:AH}
theorem J6 (w:ak):∀h0:AH,aP prog 60 [.str w] h0 (.str (rU w)) h0:=by
 intro h0;refine aP.pure (.str _) <| az (n:=16) (rs:=[.tmp 2]) [] ⟨func60,O,O,O⟩ O ?_;have H:HI h0 [] h0 []:=HI.nil;have fin:∀{h:AH} {k k':ak} {V:View},HI h0 [] h V->k=k'->Kp [] h0 h/\∀(g:Gh) (w:World) (u:Value),VR g w (.str k) u->VR g w (.str k') u:=λH e=>⟨H.kp,by rw[e];exact λ_ _ _ h=>h⟩
 refine ah H O λh H Y=>af O (λh0=>?_) λh0=>?_
 .have e0:w=dt:=of_decide_eq_true h0
  exact ah H O λh H Y=>ab [] H O (fin H (by subst e0;rfl))
 .have e0:w≠dt:=of_decide_eq_false h0
  refine ah H O λh H Y=>af O (λh1=>?_) λh1=>?_
  .have e1:w=eN:=of_decide_eq_true h1
   exact ah H O λh H Y=>ab [] H O (fin H (by subst e1;rfl))
  .have e1:w≠eN:=of_decide_eq_false h1
   refine ah H O λh H Y=>af O (λh2=>?_) λh2=>?_
   .have e2:w=bh:=of_decide_eq_true h2
    exact ah H O λh H Y=>ab [] H O (fin H (by subst e2;rfl))
   .have e2:w≠bh:=of_decide_eq_false h2
    refine ah H O λh H Y=>af O (λh3=>?_) λh3=>?_
    .have e3:w=eO:=of_decide_eq_true h3
     exact ah H O λh H Y=>ab [] H O (fin H (by subst e3;rfl))
    .have e3:w≠eO:=of_decide_eq_false h3
     refine ah H O λh H Y=>af O (λh4=>?_) λh4=>?_
     .have e4:w=fW:=of_decide_eq_true h4
      exact ah H O λh H Y=>ab [] H O (fin H (by subst e4;rfl))
     .have e4:w≠fW:=of_decide_eq_false h4
      refine ah H O λh H Y=>af O (λh5=>?_) λh5=>?_
      .have e5:w=ff:=of_decide_eq_true h5
       exact ah H O λh H Y=>ab [] H O (fin H (by subst e5;rfl))
      .have e5:w≠ff:=of_decide_eq_false h5
       exact ah H O λh H Y=>ab [] H O (fin H (by simp[rU,e0,e1,e2,e3,e4,e5]))
theorem qY (w:ak):∀h0:AH,aP prog 59 [.str w] h0 (.bool (decide (w∈EI))) h0:=by
 intro h0;refine aP.pure (.bool _) <| az (n:=25) (rs:=[.tmp 2]) [] ⟨func59,O,O,O⟩ O ?_;have H:HI h0 [] h0 []:=HI.nil;have fin:∀{h:AH} {k k':Bool} {V:View},HI h0 [] h V->k=k'->Kp [] h0 h/\∀(g:Gh) (w:World) (u:Value),VR g w (.bool k) u->VR g w (.bool k') u:=λH e=>⟨H.kp,by rw[e];exact λ_ _ _ h=>h⟩
 refine ah H O λh H Y=>af O (λh0=>?_) λh0=>?_
 .have e0:w=qP:=of_decide_eq_true h0
  refine ah H O λh H Y=>af O (λg0=>?_) λg0=>?_
  .exact ah H O λh H Y=>ab [] H O (fin H (by subst e0;decide))
  .exact absurd h0 (by rw[g0];simp)
 .have e0:w≠qP:=of_decide_eq_false h0
  refine ah H O λh H Y=>af O (λh1=>?_) λh1=>?_
  .have e1:w=j2:=of_decide_eq_true h1
   refine ah H O λh H Y=>af O (λg1=>?_) λg1=>?_
   .exact ah H O λh H Y=>ab [] H O (fin H (by subst e1;decide))
   .exact absurd h1 (by rw[g1];simp)
  .have e1:w≠j2:=of_decide_eq_false h1
   refine ah H O λh H Y=>af O (λh2=>?_) λh2=>?_
   .have e2:w=fN:=of_decide_eq_true h2
    refine ah H O λh H Y=>af O (λg2=>?_) λg2=>?_
    .exact ah H O λh H Y=>ab [] H O (fin H (by subst e2;decide))
    .exact absurd h2 (by rw[g2];simp)
   .have e2:w≠fN:=of_decide_eq_false h2
    refine ah H O λh H Y=>af O (λh3=>?_) λh3=>?_
    .have e3:w=qQ:=of_decide_eq_true h3
     refine ah H O λh H Y=>af O (λg3=>?_) λg3=>?_
     .exact ah H O λh H Y=>ab [] H O (fin H (by subst e3;decide))
     .exact absurd h3 (by rw[g3];simp)
    .have e3:w≠qQ:=of_decide_eq_false h3
     refine ah H O λh H Y=>af O (λh4=>?_) λh4=>?_
     .have e4:w=cR:=of_decide_eq_true h4
      refine ah H O λh H Y=>af O (λg4=>?_) λg4=>?_
      .exact ah H O λh H Y=>ab [] H O (fin H (by subst e4;decide))
      .exact absurd h4 (by rw[g4];simp)
     .have e4:w≠cR:=of_decide_eq_false h4
      refine ah H O λh H Y=>af O (λh5=>?_) λh5=>?_
      .have e5:w=eu:=of_decide_eq_true h5
       refine ah H O λh H Y=>af O (λg5=>?_) λg5=>?_
       .exact ah H O λh H Y=>ab [] H O (fin H (by subst e5;decide))
       .exact absurd h5 (by rw[g5];simp)
      .have e5:w≠eu:=of_decide_eq_false h5
       refine ah H O λh H Y=>af O (λh6=>?_) λh6=>?_
       .have e6:w=eA:=of_decide_eq_true h6
        refine ah H O λh H Y=>af O (λg6=>?_) λg6=>?_
        .exact ah H O λh H Y=>ab [] H O (fin H (by subst e6;decide))
        .exact absurd h6 (by rw[g6];simp)
       .have e6:w≠eA:=of_decide_eq_false h6
        refine ah H O λh H Y=>af O (λh7=>?_) λh7=>?_
        .have e7:w=cS:=of_decide_eq_true h7
         exact ah H O λh H Y=>ab [] H O (fin H (by subst e7;decide))
        .have e7:w≠cS:=of_decide_eq_false h7
         refine ah H O λh H Y=>af O (λh8=>?_) λh8=>?_
         .have e8:w=nR:=of_decide_eq_true h8
          refine ah H O λh H Y=>af O (λg8=>?_) λg8=>?_
          .exact ah H O λh H Y=>ab [] H O (fin H (by subst e8;decide))
          .exact absurd h8 (by rw[g8];simp)
         .have e8:w≠nR:=of_decide_eq_false h8
          refine ah H O λh H Y=>af O (λh9=>?_) λh9=>?_
          .have e9:w=gS:=of_decide_eq_true h9
           refine ah H O λh H Y=>af O (λg9=>?_) λg9=>?_
           .exact ah H O λh H Y=>ab [] H O (fin H (by subst e9;decide))
           .exact absurd h9 (by rw[g9];simp)
          .have e9:w≠gS:=of_decide_eq_false h9
           refine ah H O λh H Y=>af O (λrl=>?_) λrl=>?_
           .have Ot:w=eJ:=of_decide_eq_true rl
            refine ah H O λh H Y=>af O (λg10=>?_) λg10=>?_
            .exact ah H O λh H Y=>ab [] H O (fin H (by subst Ot;decide))
            .exact absurd rl (by rw[g10];simp)
           .have Ot:w≠eJ:=of_decide_eq_false rl
            refine ah H O λh H Y=>af O (λL3=>?_) λL3=>?_
            .have Uk:w=dP:=of_decide_eq_true L3
             refine ah H O λh H Y=>af O (λg11=>?_) λg11=>?_
             .exact ah H O λh H Y=>ab [] H O (fin H (by subst Uk;decide))
             .exact absurd L3 (by rw[g11];simp)
            .have Uk:w≠dP:=of_decide_eq_false L3
             refine ah H O λh H Y=>af O (λJs=>?_) λJs=>?_
             .have Pf:w=cT:=of_decide_eq_true Js
              refine ah H O λh H Y=>af O (λg12=>?_) λg12=>?_
              .exact ah H O λh H Y=>ab [] H O (fin H (by subst Pf;decide))
              .exact absurd Js (by rw[g12];simp)
             .have Pf:w≠cT:=of_decide_eq_false Js
              refine ah H O λh H Y=>af O (λta=>?_) λta=>?_
              .have Ul:w=cp:=of_decide_eq_true ta
               refine ah H O λh H Y=>af O (λg13=>?_) λg13=>?_
               .exact ah H O λh H Y=>ab [] H O (fin H (by subst Ul;decide))
               .exact absurd ta (by rw[g13];simp)
              .have Ul:w≠cp:=of_decide_eq_false ta
               refine ah H O λh H Y=>af O (λQ0=>?_) λQ0=>?_
               .have Um:w=jw:=of_decide_eq_true Q0
                refine ah H O λh H Y=>af O (λg14=>?_) λg14=>?_
                .exact ah H O λh H Y=>ab [] H O (fin H (by subst Um;decide))
                .exact absurd Q0 (by rw[g14];simp)
               .have Um:w≠jw:=of_decide_eq_false Q0
                refine ah H O λh H Y=>af O (λL5=>?_) λL5=>?_
                .have Pg:w=lV:=of_decide_eq_true L5
                 refine ah H O λh H Y=>af O (λg15=>?_) λg15=>?_
                 .exact ah H O λh H Y=>ab [] H O (fin H (by subst Pg;decide))
                 .exact absurd L5 (by rw[g15];simp)
                .have Pg:w≠lV:=of_decide_eq_false L5
                 refine ah H O λh H Y=>af O (λL6=>?_) λL6=>?_
                 .have Un:w=ig:=of_decide_eq_true L6
                  refine ah H O λh H Y=>af O (λg16=>?_) λg16=>?_
                  .exact ah H O λh H Y=>ab [] H O (fin H (by subst Un;decide))
                  .exact absurd L6 (by rw[g16];simp)
                 .have Un:w≠ig:=of_decide_eq_false L6
                  refine ah H O λh H Y=>af O (λL7=>?_) λL7=>?_
                  .have Uo:w=cG:=of_decide_eq_true L7
                   refine ah H O λh H Y=>af O (λg17=>?_) λg17=>?_
                   .exact ah H O λh H Y=>ab [] H O (fin H (by subst Uo;decide))
                   .exact absurd L7 (by rw[g17];simp)
                  .have Uo:w≠cG:=of_decide_eq_false L7
                   refine ah H O λh H Y=>af O (λOo=>?_) λOo=>?_
                   .have Ph:w=cl:=of_decide_eq_true Oo
                    exact ah H O λh H Y=>ab [] H O (fin H (by subst Ph;decide))
                   .have Ph:w≠cl:=of_decide_eq_false Oo
                    exact ah H O λh H Y=>ab [] H O (fin H (by simp[e0,e1,e2,e3,e4,e5,e6,e7,e8,e9,Ot,Uk,Pf,Ul,Um,Pg,Un,Uo,Ph]))
end
def Lt (c:Nat) (o' o:Option (List Tok)):Prop:=∀l',o'=some l'->∃l,o=some l/\l'.length+c<=l.length
theorem Lt.refl {o:Option (List Tok)}:Lt 0 o o:=λl' e=>⟨l',e,by omega⟩
theorem Lt.none {c:Nat} {o:Option (List Tok)}:Lt c none o:=λl' e=>by cases e
theorem Lt.trans {a b:Nat} {o1 o2 o3:Option (List Tok)} (h:Lt a o2 o1) (k:Lt b o3 o2):Lt (a+b) o3 o1:=λl' e=>by obtain⟨l2,e2,h2⟩:=k l' e;obtain⟨l1,e1,h1⟩:=h l2 e2;exact⟨l1,e1,by omega⟩
theorem Lt.le {a b:Nat} {o1 o2:Option (List Tok)} (h:Lt a o2 o1) (hb:b<=a):Lt b o2 o1:=λl' e=>by obtain⟨l,e1,h1⟩:=h l' e;exact⟨l,e1,by omega⟩
theorem Lt.nx {o:Option (List Tok)} (ho:o≠some []):Lt 1 (wR o) o:=λl' e=>by
 cases o with
 |none=>cases e
 |some L=>
  cases L with
  |nil=>exact absurd O ho
  |cons t r=>
   rw[nW]at e;split at e
   .cases e
   .injection e with e
    subst e;exact⟨_,O,by simp⟩
theorem TS.ne {s b:Bool} {o:Option (List Tok)} {es:List (List AV)} (h:TS s o b es):o≠some []:=by rintro rfl;obtain⟨_,_,ts,e,_⟩:=h;simp at e
theorem RB.ne {h:AH} {x d:Nat} {o:Option (List Tok)} {s e a:Bool} (S:RB h x o d s e a):o≠some []:=by obtain⟨_,_,_,_,_,T⟩:=S;exact T.ne
def SQ {α:Type} (x d:Nat) (s e a:Bool) (h0:AH) (o:Option (List Tok)) (c:Nat) (R:Option (α×List Tok)) (C:α->AV) (v:AV) (h':AH):Prop:=Kp [x] h0 h'/\∃o' s',RB h' x o' d s' e a/\Lt c o' o/\∃t,v=C t/\(s'=true->s=true/\o'=R.map (·.2)/\dO R λt'=>t'=t)
theorem V5 {o:Option (List Tok)}:(fv.on o).map (·.2)=if(fq o 19||fq o 20)=true then wR o else o:=by
 cases o with
 |none=>rfl
 |some L=>
  cases L with
  |nil=>rfl
  |cons t r=>
   rw[qi,qi,nW];show(fv (t::r)).map (·.2)=_;unfold fv
   by_cases h:t.k=19\/t.k=20
   .rw[if_pos (show bC (t::r)=19\/bC (t::r)=20 from h),if_pos (by simpa using h),if_neg (by omega)];rfl
   .rw[if_neg (show ¬ (bC (t::r)=19\/bC (t::r)=20) from h),if_neg (by simpa using h)];rfl
theorem V6 {o:Option (List Tok)}:dO (fv.on o) λw=>w=if(fq o 19||fq o 20)=true then(wq o).v else[]:=λw l e=>by
 cases o with
 |none=>cases e
 |some L=>
  replace e:fv L=some (w,l):=e;unfold fv at e
  by_cases h:bC L=19\/bC L=20
  .rw[if_pos h]at e;injection e with e
   injection e with e1 e2
   rw[if_pos (by simpa[fq]using h),<-e1];rfl
  .rw[if_neg h]at e;injection e with e
   injection e with e1 e2
   rw[if_neg (by simpa[fq]using h),<-e1]
section
variable {h h0:AH} {x d k:Nat} {o:Option (List Tok)} {s e a:Bool} {w:ak}
theorem tO (S:RB h0 x o d s e a):al prog 22 [.ptr x 0] h0 (λv h'=>Kp [x] h0 h'/\RB h' x ((fv.on o).map (·.2)) d s e a/\∃w,v= .str w/\dO (fv.on o) λt=>t=w):=by
 have hx:=S.1
 obtain⟨tk,es,b,H,T⟩:=S.at_;have hv:=V6 (o:=o);rw[V5];refine az (n:=12) (rs:=[.tmp 2]) [] ⟨func22,O,O,O⟩ O <| ah H O λh H Y=>ae O call21 (fF (k:=18) (.of H T) (by omega)) ?_;rintro v h2 ⟨kp,rfl⟩;replace H:=H.same kp;refine ah H O λh H Y=>aj O (λh1=>?_) (λh1=>?_)
 .refine an [91] H O λh H Y=>ae O call24 (gw (.of H T)) ?_;rintro v h3 ⟨kp,⟨AO,wS,wo,b3,bF,T3⟩,c,rfl,⟨p1,p2,p3,p4,rfl⟩⟩;replace H:=H.aA kp bF;refine ah H O λh H Y=>?_;have hq:(fq o 19||fq o 20)=true:=by rw[h1];rfl
  rw[if_pos hq]at hv|-;exact ab [] H O ⟨H.kp,.of H T3,_,O,hv⟩
 .refine ah H O λh H Y=>ae O call21 (fF (k:=19) (.of H T) (by omega)) ?_;rintro v h2 ⟨kp,rfl⟩;replace H:=H.same kp;refine ah H O λh H Y=>af O (λh2=>?_) λh2=>?_
  .refine ah H O λh H Y=>ae O call24 (gw (.of H T)) ?_;rintro v h3 ⟨kp,⟨AO,wS,wo,b3,bF,T3⟩,c,rfl,⟨p1,p2,p3,p4,rfl⟩⟩;replace H:=H.aA kp bF;refine ah H O λh H Y=>?_;have Ue:fq o 20=true:=h2;have hq:(fq o 19||fq o 20)=true:=by rw[Ue];simp
   rw[if_pos hq]at hv|-;exact ab [] H O ⟨H.kp,.of H T3,_,O,hv⟩
  .refine ah H O λh H Y=>?_;have Ue:fq o 20=false:=h2;have hq:¬ (fq o 19||fq o 20)=true:=by rw[h1,Ue];simp
   rw[if_neg hq]at hv|-;exact ab [] H O ⟨H.kp,.of H T,_,O,hv⟩
end
section
attribute [local irreducible] bE
theorem II {α:Type} {p:Pa α} {k:Nat} {o:Option (List Tok)}:(dv p k).on o=((p.on (((bB k).on o).map (·.2))).bind λy=>(bE p k dX y.2).map λq=>(y.1::q.1,q.2)):=by
 cases o with
 |none=>rfl
 |some L=>
  show(dv p k) L=((p.on ((bB k L).map (·.2))).bind λy=>(bE p k dX y.2).map λq=>(y.1::q.1,q.2))
  unfold dv Pa.andThen;generalize bB k L=y
  cases y with
  |none=>rfl
  |some y=>
   show _=((p y.2).bind λy=>(bE p k dX y.2).map λq=>(y.1::q.1,q.2))
   simp only;generalize p y.2=z
   cases z with
   |none=>rfl
   |some z=>
    simp only[Option.bind_some];generalize bE p k dX z.2=u
    cases u<;>rfl
theorem J7 {o:Option (List Tok)} (h:fq o 9=true):cj.on o=(dv ar 15).on (((bB 9).on o).map (·.2)):=by
 cases o with
 |none=>cases h
 |some L=>
  cases L with
  |nil=>cases h
  |cons t r=>
   have hk:t.k=9:=of_decide_eq_true h
   show cj (t::r)=(dv ar 15).on ((bB 9 (t::r)).map (·.2))
   have e:bB 9 (t::r)=some (true,r):=by simp only[bB,if_pos hk]
   unfold cj Pa.andThen;rw[e];rfl
theorem J8 {o:Option (List Tok)} (h:fq o 9=false) (ho:o≠some []):cj.on o=o.map λl=>([],l):=by
 cases o with
 |none=>rfl
 |some L=>
  cases L with
  |nil=>exact absurd O ho
  |cons t r=>
   have hk:¬ t.k=9:=of_decide_eq_false h
   show cj (t::r)=_
   have e:bB 9 (t::r)=some (false,t::r):=by simp only[bB,if_neg hk]
   unfold cj Pa.andThen;rw[e];rfl
theorem TS.len {s b:Bool} {L:List Tok} {es:List (List AV)} (h:TS s (some L) b es):L.length<=1048577:=by obtain⟨_,hl,ts,rfl,hR,_⟩:=h;have:=hR.len;simp;omega
theorem CA {l:List Tok} {k:Nat} (hk:2<=k) (h:fq (some l) k=true):bC l=k/\((bB k).on (some l)).map (·.2)=some l.tail:=by
 have h1:bC l=k:=of_decide_eq_true h
 refine⟨h1,?_⟩;rw[vN hk,if_pos h];simp only[wR];rw[if_neg (by omega)]
section
variable {h h0:AH} {x d k:Nat} {o:Option (List Tok)} {s e a:Bool} {w:ak}
theorem CC (S:RB h0 x o d s e a):al prog 64 [.ptr x 0] h0 (λv h'=>Kp [x] h0 h'/\RB h' x ((cj.on o).map (·.2)) d s e a/\∃bs:List ak,v= .one (bS 1 (bs.map aM))/\bs.length<=2097152/\dO (cj.on o) λt=>t=bs):=by
 refine al.obj (Q:=λv h'=>Kp [x] h0 h'/\RB h' x ((cj.on o).map (·.2)) d s e a/\∃bs:List ak,ee v (.one (bS 1 (bs.map aM)))/\bs.length<=2097152/\dO (cj.on o) λt=>t=bs) ?_ (λv h' q=>by obtain⟨k,S,bs,h1,h2⟩:=q;exact .inl ⟨_,h1,k,S,bs,O,h2⟩)
 have hx:=S.1;have cv:=S.ne;obtain⟨tk,es,b,H,T⟩:=S.at_;refine az (n:=22) (rs:=[.tmp 2]) [] ⟨func64,O,O,O⟩ O <| ah H O λh H Y=>ae O call51 (fP (k:=8) (.of H T) (by omega)) ?_;rintro v h2 ⟨kp,⟨zl,AY,AZ,b1,eM,T1⟩,rfl⟩;replace H:=H.aA kp eM;refine ah H O λh H Y=>af O (λhb=>?_) λhb=>?_
 .have dk:fq o 9=false:=by simpa using hb
  refine ah H O λh H Y=>?_;have eo:((bB 9).on o).map (·.2)=o:=by rw[vN (by omega),if_neg (by rw[dk];simp)]
  rw[eo]at T1;rw[J8 dk cv];refine ab [] H O ⟨H.kp,?_,[],jD (λ_ _ _ h=>h) (.inl O),Nat.zero_le _,λt l e=>?_⟩
  .have:(o.map λl=>(([]:List ak),l)).map (·.2)=o:=by cases o<;>rfl
   rw[this];exact .of H T1
  .cases o with|none=>cases e|some L=>injection e with e;injection e with e1 e2;exact e1.symm
 .have dk:fq o 9=true:=by simpa using hb
  rw[J7 dk,II];generalize K8:((bB 9).on o).map (·.2)=o1 at*;refine ah H O λh H Y=>ae O call51 (fP (k:=14) (.of H T1) (by omega)) ?_;rintro v h2 ⟨kp,⟨pC,uy,lT,b2,bI,T2⟩,rfl⟩;replace H:=H.aA kp bI;generalize vZ:((bB (14+1)).on o1).map (·.2)=o2 at*;refine ah H O λh H Y=>ae O call52 (bg (.of H T2)) ?_;rintro v h2 ⟨kp,⟨AO,wS,wo,b3,bF,T3⟩,w,rfl,hw⟩;replace H:=H.aA kp bF;generalize iX:(ar.on o2).map (·.2)=o3 at*;refine ah H O λh H Y=>eK H O O O O O O O (.inl ⟨O,O⟩) (by show(0+1)*(16+1)<=140737488355328;omega) ?_;clear H;intro x' h H G n_;replace G:aG h0 h 1 x' ([]++[aM w]):=G;replace G:=G.pE;refine aH H G O λh H G Y=>aC 22 (λq:Option (List Tok)×List ak×AV=>match q.1 with|none=>0|some l=>l.length+1) (λq=>[(0,.ptr x 0),(3,q.2.2)])
   (λq h'=>∃tk es b,HI h0 [x] h' [(x,RC (.vec tk 6 es) d b s e a)]/\TS s q.1 b es/\bJ h0 h' 1 q.2.2 ((w::q.2.1).map aM)/\q.2.1.length<=1048579/\((q.1=none/\(bE ar 15 dX).on o3=none)\/∃l0,o3=some l0/\tF ar 15 l0 q.1 (q.1.map λ_=>q.2.1)))
   (λq:Option (List Tok)×List ak×AV=>[(0,.ptr x 0),(3,q.2.2)])
   (λq h'=>∃tk es b,HI h0 [x] h' [(x,RC (.vec tk 6 es) d b s e a)]/\TS s q.1 b es/\bJ h0 h' 1 q.2.2 ((w::q.2.1).map aM)/\q.2.1.length<=1048579/\(bE ar 15 dX).on o3=q.1.map λl=>(q.2.1,l)) (o3,[],x') O ⟨wS,wo,b3,H,T3,G,Nat.zero_le _,?_⟩ ?_ ?_
  .cases o3 with|none=>exact .inl ⟨O,O⟩|some l=>exact .inr ⟨l,O,tF.start (by have:=T3.len;omega)⟩
  .clear H G;rintro⟨o4,bs,x4⟩ h ⟨vO,mr,b4,H,T4,G,jR,lp⟩ again done;simp only at T4 G jR lp;refine aH H G O λh H G Y=>ae O call51 (fP (k:=14) (.of H T4) (by omega)) ?_;rintro v h2 ⟨kp,⟨Ew,Dl,rB,b5,mw,T5⟩,rfl⟩;replace H:=H.aA kp mw;replace G:=G.kp kp;refine aH H G O λh H G Y=>af O (λhq=>?_) λhq=>?_
   .cases o4 with
    |none=>cases hq
    |some l=>
     obtain⟨hl,e5⟩:=CA (by omega) hq;rw[e5]at T5;rcases lp with⟨q,_⟩|⟨l0,e0,lp⟩
     .cases q
     have zL:=lp;obtain⟨nn,Ow,q1,q2,q3,_⟩:=zL;injection q1 with q1
     subst q1;refine aH H G O λh H G Y=>ae O call52 (bg (.of H T5)) ?_;rintro v h2 ⟨kp,⟨K7,IH,FJ,b6,su,T6⟩,w6,rfl,MZ⟩;replace H:=H.aA kp su;replace G:=G.kp kp;refine aH H G O λh H G Y=>eK H O O O O O O O G.1 ?_ ?_
     .have e9:((w::bs).map aM).length=bs.length+1:=by simp
      have q3':bs.length<=1048578:=Nat.le_trans (Nat.le_add_right _ l.length) q3
      show(((w::bs).map aM).length+1)*(16+1)<=140737488355328
      rw[e9];omega
     clear H G;intro x7 h H G n_;replace G:aG h0 h 1 x7 ((w::bs).map aM++[aM w6]):=G;replace G:=G.pE;refine aH H G O λh H G Y=>?_;refine again ((ar l.tail).map (·.2),bs++[w6],x7) ?_ O ⟨IH,FJ,b6,H,T6,by simpa using G,(by have:=Nat.le_trans (Nat.le_add_right bs.length l.length) q3;simp;omega),.inr ⟨l0,e0,?_⟩⟩
     .show(match(ar l.tail).map (·.2)with|none=>0|some l=>l.length+1) <l.length+1
      cases hg:ar l.tail with
      |none=>simp
      |some y=>
       have:=aq 16 _ _ _ hg
       have:=fw l
       simp;omega
     .have tG:tF ar 15 l0 ((ar l.tail).map (·.2)) ((ar l.tail).bind λx=>((some l).map λ_=>bs).map λbs=>bs++[x.1]):=lp.step (aq 16) hl
      cases hg:ar l.tail with|none=>rw[hg]at tG;exact tG|some y=>rw[hg]at tG;have:=MZ y.1 y.2 hg;rw[<-this];exact tG
   .have e5:((bB 15).on o4).map (·.2)=o4:=by rw[vN (by omega),if_neg (by rw[show fq o4 15=false from hq];simp)]
    have V7:TS s o4 b5 rB:=e5▸T5
    refine aH H G O λh H G Y=>done (o4,bs,x4) O ⟨Dl,rB,b5,H,V7,G,jR,?_⟩;rcases lp with⟨rfl,q⟩|⟨l0,rfl,lp⟩
    .exact q
    .cases o4 with
     |none=>exact lp.1
     |some l=>
      obtain⟨Ow,q1,q2⟩:=lp.stop (of_decide_eq_false hq);injection q1 with q1
      subst q1;exact q2
  .clear H G;rintro⟨o4,bs,x4⟩ h ⟨vO,mr,b4,H,T4,G,jR,hs⟩;simp only at T4 G jR hs;refine aH H G O λh H G Y=>?_;have key:(((ar.on o2).bind λy=>(bE ar 15 dX y.2).map λq=>(y.1::q.1,q.2)):Option (List ak×List Tok))=o4.map λl=>(w::bs,l):=by
    cases hg:ar.on o2 with
    |none=>
     rw[hg]at iX;subst iX
     cases o4 with|none=>rfl|some l=>cases hs
    |some y=>
     have YZ:=hw y.1 y.2 hg
     rw[hg]at iX;subst iX;show(bE ar 15 dX y.2).map _=_;rw[show bE ar 15 dX y.2=o4.map λl=>(bs,l) from hs,YZ]
     cases o4<;>rfl
   rw[key];refine ab [] H O ⟨H.kp,?_,w::bs,G.qe,by simp;omega,λt l e=>?_⟩
   .have:(o4.map λl=>(w::bs,l)).map (·.2)=o4:=by cases o4<;>rfl
    rw[this];exact .of H T4
   .cases o4 with|none=>cases e|some l=>injection e with e;injection e with e1 e2;exact e1.symm
end
end
section
attribute [local irreducible] bE
theorem Lt.dR {α:Type} {g:Pa α} (h:ru g) {o:Option (List Tok)}:Lt 0 ((g.on o).map (·.2)) o:=λl' e=>by
 cases o with
 |none=>cases e
 |some L=>
  cases hg:g L with
  |none=>
   have:g.on (some L)=Option.none:=hg
   rw[this]at e
   cases e
  |some y=>
   have:g.on (some L)=some y:=hg
   rw[this]at e;injection e with e
   subst e;exact⟨L,O,h L y.1 y.2 hg⟩
theorem M0 {o:Option (List Tok)} (h:rC o br=true):cE.on o=(dv ar 4).on (wR o):=by
 cases o with
 |none=>cases h
 |some L=>
  have h2:bC L=16/\dN L=br:=of_decide_eq_true h
  show cE L=(dv ar 4).on (if bC L=1 then none else some L.tail)
  rw[if_neg (by omega)];unfold cE;rw[if_pos h2.2];rfl
theorem M1 {o:Option (List Tok)} {b:Bool} {es:List (List AV)} (h:rC o br=false) (T:TS true o b es):cE.on o=o.map λl=>([],l):=by
 cases o with
 |none=>rfl
 |some L=>
  have h2:¬ (bC L=16/\dN L=br):=of_decide_eq_false h
  obtain⟨_,_,ts,rfl,hR,hk,hn⟩:=T;have h3:dN (ts++[kT])≠br:=by
   intro q
   cases ts with
   |nil=>cases q
   |cons t ts=>
    have:=hn O t (by simp) (by rw[show t.v=br from q];simp)
    exact h2 ⟨this,q⟩
  show cE (ts++[kT])=_;unfold cE;rw[if_neg h3];rfl
section
variable {h h0:AH} {x d k:Nat} {o:Option (List Tok)} {s e a:Bool} {w:ak}
theorem vP (S:RB h0 x o d s e a):al prog 61 [.ptr x 0] h0 (λv h'=>Kp [x] h0 h'/\∃o' s',RB h' x o' d s' e a/\Lt 0 o' o/\∃bs:List ak,v= .one (bS 1 (bs.map aM))/\bs.length<=2097152/\(s'=true->s=true/\o'=(cE.on o).map (·.2)/\dO (cE.on o) λt=>t=bs)):=by
 refine al.obj (Q:=λv h'=>Kp [x] h0 h'/\∃o' s',RB h' x o' d s' e a/\Lt 0 o' o/\∃bs:List ak,ee v (.one (bS 1 (bs.map aM)))/\bs.length<=2097152/\(s'=true->s=true/\o'=(cE.on o).map (·.2)/\dO (cE.on o) λt=>t=bs)) ?_ (λv h' q=>by obtain⟨k,o',s',S,hl,bs,h1,h2⟩:=q;exact .inl ⟨_,h1,k,o',s',S,hl,bs,O,h2⟩)
 have hx:=S.1;have cv:=S.ne;obtain⟨tk,es,b,H,T⟩:=S.at_;refine az (n:=27) (rs:=[.tmp 2]) [] ⟨func61,O,O,O⟩ O <| ah H O λh H Y=>ae O call26 (jb (w:=br) (.of H T)) ?_;rintro v h2 ⟨kp,⟨zl,AY,AZ,b1,eM,T1⟩,rfl⟩;replace H:=H.aA kp eM;refine ah H O λh H Y=>af O (λhb=>?_) λhb=>?_
 .have dk:rC o br=false:=by simpa using hb
  refine ah H O λh H Y=>?_;rw[if_neg (by rw[dk];simp)]at T1;refine ab [] H O ⟨H.kp,o,s,.of H T1,.refl,[],jD (λ_ _ _ h=>h) (.inl O),Nat.zero_le _,λhs=>⟨hs,?_⟩⟩;subst hs;rw[M1 dk T1];refine⟨by cases o<;>rfl,λt l e=>?_⟩
  cases o with|none=>cases e|some L=>injection e with e;injection e with e1 e2;exact e1.symm
 .have dk:rC o br=true:=by simpa using hb
  have ax:Lt 0 (((dv ar 4).on (wR o)).map (·.2)) o:=((Lt.nx cv).trans (Lt.dR (ox (aq 16) 4).dR)).le (by omega)
  rw[M0 dk];rw[if_pos dk]at T1;rw[II]at ax|-;generalize K8:wR o=o1 at*;refine ah H O λh H Y=>ae O call51 (fP (k:=3) (.of H T1) (by omega)) ?_;rintro v h2 ⟨kp,⟨pC,uy,lT,b2,bI,T2⟩,rfl⟩;replace H:=H.aA kp bI;generalize vZ:((bB (3+1)).on o1).map (·.2)=o2 at*;refine ah H O λh H Y=>ae O call52 (bg (.of H T2)) ?_;rintro v h2 ⟨kp,⟨AO,wS,wo,b3,bF,T3⟩,w,rfl,hw⟩;replace H:=H.aA kp bF;generalize iX:(ar.on o2).map (·.2)=o3 at*;refine ah H O λh H Y=>eK H O O O O O O O (.inl ⟨O,O⟩) (by show(0+1)*(16+1)<=140737488355328;omega) ?_;clear H;intro x' h H G n_;replace G:aG h0 h 1 x' ([]++[aM w]):=G;replace G:=G.pE;refine aH H G O λh H G Y=>aC 27 (λq:Option (List Tok)×List ak×AV=>match q.1 with|none=>0|some l=>l.length+1) (λq=>[(0,.ptr x 0),(3,q.2.2)])
   (λq h'=>∃tk es b,HI h0 [x] h' [(x,RC (.vec tk 6 es) d b s e a)]/\TS s q.1 b es/\bJ h0 h' 1 q.2.2 ((w::q.2.1).map aM)/\q.2.1.length<=1048579/\((q.1=none/\(bE ar 4 dX).on o3=none)\/∃l0,o3=some l0/\tF ar 4 l0 q.1 (q.1.map λ_=>q.2.1)))
   (λq:Option (List Tok)×List ak×AV=>[(0,.ptr x 0),(3,q.2.2)])
   (λq h'=>∃tk es b,HI h0 [x] h' [(x,RC (.vec tk 6 es) d b s e a)]/\TS s q.1 b es/\bJ h0 h' 1 q.2.2 ((w::q.2.1).map aM)/\q.2.1.length<=1048579/\(bE ar 4 dX).on o3=q.1.map λl=>(q.2.1,l)) (o3,[],x') O ⟨wS,wo,b3,H,T3,G,Nat.zero_le _,?_⟩ ?_ ?_
  .cases o3 with|none=>exact .inl ⟨O,O⟩|some l=>exact .inr ⟨l,O,tF.start (by have:=T3.len;omega)⟩
  .clear H G;rintro⟨o4,bs,x4⟩ h ⟨vO,mr,b4,H,T4,G,jR,lp⟩ again done;simp only at T4 G jR lp;refine aH H G O λh H G Y=>ae O call51 (fP (k:=3) (.of H T4) (by omega)) ?_;rintro v h2 ⟨kp,⟨Ew,Dl,rB,b5,mw,T5⟩,rfl⟩;replace H:=H.aA kp mw;replace G:=G.kp kp;refine aH H G O λh H G Y=>af O (λhq=>?_) λhq=>?_
   .cases o4 with
    |none=>cases hq
    |some l=>
     obtain⟨hl,e5⟩:=CA (by omega) hq;rw[e5]at T5;rcases lp with⟨q,_⟩|⟨l0,e0,lp⟩
     .cases q
     have zL:=lp;obtain⟨nn,Ow,q1,q2,q3,_⟩:=zL;injection q1 with q1
     subst q1;refine aH H G O λh H G Y=>ae O call52 (bg (.of H T5)) ?_;rintro v h2 ⟨kp,⟨K7,IH,FJ,b6,su,T6⟩,w6,rfl,MZ⟩;replace H:=H.aA kp su;replace G:=G.kp kp;refine aH H G O λh H G Y=>eK H O O O O O O O G.1 ?_ ?_
     .have e9:((w::bs).map aM).length=bs.length+1:=by simp
      have q3':bs.length<=1048578:=Nat.le_trans (Nat.le_add_right _ l.length) q3
      show(((w::bs).map aM).length+1)*(16+1)<=140737488355328
      rw[e9];omega
     clear H G;intro x7 h H G n_;replace G:aG h0 h 1 x7 ((w::bs).map aM++[aM w6]):=G;replace G:=G.pE;refine aH H G O λh H G Y=>?_;refine again ((ar l.tail).map (·.2),bs++[w6],x7) ?_ O ⟨IH,FJ,b6,H,T6,by simpa using G,(by have:=Nat.le_trans (Nat.le_add_right bs.length l.length) q3;simp;omega),.inr ⟨l0,e0,?_⟩⟩
     .show(match(ar l.tail).map (·.2)with|none=>0|some l=>l.length+1) <l.length+1
      cases hg:ar l.tail with
      |none=>simp
      |some y=>
       have:=aq 16 _ _ _ hg
       have:=fw l
       simp;omega
     .have tG:tF ar 4 l0 ((ar l.tail).map (·.2)) ((ar l.tail).bind λx=>((some l).map λ_=>bs).map λbs=>bs++[x.1]):=lp.step (aq 16) hl
      cases hg:ar l.tail with|none=>rw[hg]at tG;exact tG|some y=>rw[hg]at tG;have:=MZ y.1 y.2 hg;rw[<-this];exact tG
   .have e5:((bB 4).on o4).map (·.2)=o4:=by rw[vN (by omega),if_neg (by rw[show fq o4 4=false from hq];simp)]
    have V7:TS s o4 b5 rB:=e5▸T5
    refine aH H G O λh H G Y=>done (o4,bs,x4) O ⟨Dl,rB,b5,H,V7,G,jR,?_⟩;rcases lp with⟨rfl,q⟩|⟨l0,rfl,lp⟩
    .exact q
    .cases o4 with
     |none=>exact lp.1
     |some l=>
      obtain⟨Ow,q1,q2⟩:=lp.stop (of_decide_eq_false hq);injection q1 with q1
      subst q1;exact q2
  .clear H G;rintro⟨o4,bs,x4⟩ h ⟨vO,mr,b4,H,T4,G,jR,hs⟩;simp only at T4 G jR hs;refine aH H G O λh H G Y=>?_;have key:(((ar.on o2).bind λy=>(bE ar 4 dX y.2).map λq=>(y.1::q.1,q.2)):Option (List ak×List Tok))=o4.map λl=>(w::bs,l):=by
    cases hg:ar.on o2 with
    |none=>
     rw[hg]at iX;subst iX
     cases o4 with|none=>rfl|some l=>cases hs
    |some y=>
     have YZ:=hw y.1 y.2 hg
     rw[hg]at iX;subst iX;show(bE ar 4 dX y.2).map _=_;rw[show bE ar 4 dX y.2=o4.map λl=>(bs,l) from hs,YZ]
     cases o4<;>rfl
   have e4:(o4.map λl=>(w::bs,l)).map (·.2)=o4:=by cases o4<;>rfl
   rw[key,e4]at ax;rw[key];refine ae O call21 (fF (k:=15) (.of H T4) (by omega)) ?_;rintro v h2 ⟨kp,rfl⟩;replace H:=H.same kp;refine ah H O λh H Y=>af O (λhq=>?_) λhq=>?_
   .refine an [0] H O λh H Y=>?_;have Y0:TS false o4 b4 mr:=by
     cases o4 with|none=>exact T4|some l=>obtain⟨q1,q2,ts,q3,q4,q5,q6⟩:=T4;exact⟨q1,q2,ts,q3,q4,q5,λh=>by cases h⟩
    exact ab [] H O ⟨H.kp,o4,false,.of H Y0,ax,w::bs,G.qe,(by simp;omega),λh=>by cases h⟩
   .refine ah H O λh H Y=>ab [] H O ⟨H.kp,o4,s,.of H T4,ax,w::bs,G.qe,(by simp;omega),λhs=>⟨hs,e4.symm,λt l e=>?_⟩⟩
    cases o4 with|none=>cases e|some l=>injection e with e;injection e with e1 e2;exact e1.symm
end
end
section
variable {h h0:AH}
theorem Hh (a:Def) (hb:a.cJ.length<=4294967296/\a.ifaces.length<=4294967296/\a.fields.length<=4294967296/\a.types.length<=4294967296/\a.enums.length<=4294967296):∀h0:AH,aP prog 50 [.agg a.cs] h0 (.bool a.bH) h0:=by
 intro h0;refine aP.pure (.bool _) ?_;refine az (n:=23) (rs:=[.tmp 2]) [] ⟨func50,O,O,O⟩ O <| have H:HI h0 [] h0 []:=HI.nil;aS [1] [] H O λh H Y=>?_;refine fe 2 O O O O O (cn 2 _) O O O <| ah H O λh H Y=>fe 1 O O O O O (cn 1 _) O O O <| ah H O λh H Y=>fe 8 O O O O O (cn 8 _) O O O <| ah H O λh H Y=>fe 1 O O O O O (cn 1 _) O O O <| ah H O λh H Y=>fe 3 O O O O O (cn 3 _) O O O <| ah H O λh H Y=>ab [] H O ⟨H.kp,?_⟩;have M3:∀{α:Type} (l:List α),l.isEmpty=decide (l.length=0):=λl=>by cases l<;>rfl
 have e:a.bH=decide (IntKind.i64.wrap (IntKind.i64.wrap (IntKind.i64.wrap (IntKind.i64.wrap (((a.cJ.map kl.cs).length:Int)+((a.ifaces.map aM).length:Int))+((a.fields.map jV.cs).length:Int))+((a.types.map aM).length:Int))+((a.enums.map cg.cs).length:Int))=0):=by simp only[List.length_map];rw[wrap_i64 (n:=(a.cJ.length:Int)+(a.ifaces.length:Int)) (by omega) (by omega),wrap_i64 (n:=(a.cJ.length:Int)+(a.ifaces.length:Int)+(a.fields.length:Int)) (by omega) (by omega),wrap_i64 (n:=(a.cJ.length:Int)+(a.ifaces.length:Int)+(a.fields.length:Int)+(a.types.length:Int)) (by omega) (by omega),wrap_i64 (by omega) (by omega)];unfold Def.bH;rw[M3,M3,M3,M3,M3,Bool.eq_iff_iff];simp only[Bool.and_eq_true,decide_eq_true_eq];omega
 rw[e];exact λ_ _ _ h=>h
end
section
theorem PL {α:Type} {g:Pa α} {k:Nat} {l l':List Tok} (h:aQ g k dX l=some ([],l')) (hk:¬ bC l=k):False:=by
 obtain⟨n,hn⟩:∃n,dX=n+1:=⟨8388607,O⟩;rw[hn]at h;simp only[aQ,if_neg hk]at h;split at h
 .cases h
 .split at h
  .cases h
  .injection h with h
   injection h with h1 h2
   cases h1
attribute [local irreducible] aQ
def mo (o:Option (List Tok)):Nat:=match o with
 |none=>0
 |some l=>l.length+1
theorem tP {o5:Option (List Tok)} {l:List Tok} (h:Lt 1 o5 (some l)):mo o5 <mo (some l):=by
 cases o5 with
 |none=>exact Nat.succ_pos _
 |some l5=>
  obtain⟨l6,e6,h6⟩:=h l5 O;injection e6 with e6
  subst e6;simp only[mo];omega
def FL {α:Type} (g:Pa α) (k:Nat) (o1 o4:Option (List Tok)) (bs:List α):Prop:=match o1 with
 |none=>o4=none
 |some l1=>zg g k l1 o4 (o4.map λ_=>bs)
theorem FL.step {α:Type} {g:Pa α} {k:Nat} {o1 o5:Option (List Tok)} {l:List Tok} {bs:List α} {t:α} (h:FL g k o1 (some l) bs) (hd:j6 g) (hk:¬ bC l=k) (e:o5=(g.on (some l)).map (·.2)) (hv:dO (g.on (some l)) λt'=>t'=t):FL g k o1 o5 (bs++[t]):=by
 cases o1 with
 |none=>cases h
 |some l1=>
  have lp:zg g k l1 ((g l).map (·.2)) ((g l).bind λx=>((some l).map λ_=>bs).map λbs=>bs++[x.1]):=zg.step hd h hk
  subst e;show zg g k l1 ((g l).map (·.2)) (((g l).map (·.2)).map λ_=>bs++[t])
  cases hg:g l with|none=>rw[hg]at lp;exact lp|some y=>rw[hg]at lp;have:=hv y.1 y.2 hg;rw[<-this];exact lp
theorem EJ {α:Type} {g:Pa α} {sk ek:Nat} {o o1 o4:Option (List Tok)} {bs:List α} (hs:1<=sk) (he:1<=ek) (hk:fq o (sk+1)=true) (K8:((aE (sk+1)).on o).map (·.2)=o1) (h1:fq o1 (ek+1)=false) (ka:o4=none\/fq o4 (ek+1)=true) (lp:FL g (ek+1) o1 o4 bs):
 ((aE (ek+1)).on o4).map (·.2)=((ca (sk+1) (ek+1) g).on o).map (·.2)/\dO ((ca (sk+1) (ek+1) g).on o) λt=>t=bs:=by
 cases o with
 |none=>cases hk
 |some L=>
  have vp:bC L=sk+1:=of_decide_eq_true hk
  rw[yk (by omega),if_pos hk]at K8;have e1:o1=some L.tail:=by rw[<-K8];exact if_neg (show ¬ bC L=1 by omega)
  subst e1;have uu:¬ bC L.tail=ek+1:=of_decide_eq_false h1;have e:(ca (sk+1) (ek+1) g).on (some L)=match aQ g (ek+1) dX L.tail with|none=>none|some (acc,l1)=>if acc.isEmpty then none else some (acc,l1.tail):=if_pos vp
  rw[e]
  cases o4 with
  |none=>
   have:aQ g (ek+1) dX L.tail=none:=lp.1
   rw[this];exact⟨O,λt l e=>by cases e⟩
  |some l=>
   have hl:bC l=ek+1:=of_decide_eq_true (ka.resolve_left (by simp))
   obtain⟨Ow,q1,q2⟩:=zg.stop (lp:zg g (ek+1) L.tail (some l) ((some l).map λ_=>bs)) hl;injection q1 with q1
   subst q1;rw[q2];have cv:bs.isEmpty=false:=by cases bs with|nil=>exact(PL q2 uu).elim|cons=>rfl
   simp only[cv];have hm:((aE (ek+1)).on (some l)).map (·.2)=some l.tail:=by rw[yk (by omega),if_pos (by rw[show fq (some l) (ek+1)=decide (bC l=ek+1) from O,decide_eq_true hl])];exact if_neg (show ¬ bC l=1 by omega)
   rw[hm];exact⟨O,λt l2 e=>by injection e with e;injection e with e1 e2;exact e1.symm⟩
section
variable {h h0:AH} {x d k:Nat} {o:Option (List Tok)} {s e a:Bool} {w:ak} {ids:List Nat}
theorem nY {α:Type} (g:Pa α) (dec:j6 g) {m:Nat} {f:FuncId} {eV:List AV} (hf:eF prog f) (hp:x∈ids) (J:List α->AH->Prop) (hJ:∀bs h h',J bs h->Kp [x] h h'->J bs h')
 (Ur:∀o s bs h,RB h x o d s e a->J bs h->bs.length<=1048578->m<=h.nt->al prog f eV h (λv h'=>Kp ids (h.aw m) h'/\v= .cN []/\∃o' s' t,RB h' x o' d s' e a/\Lt 1 o' o/\J (bs++[t]) h'/\(s'=true->s=true/\o'=(g.on o).map (·.2)/\dO (g.on o) λt'=>t'=t)))
 (S:RB h0 x o d s e a) {sk ek:Nat} (hs:1<=sk) (he:1<=ek) (j:J [] h0) (hm:m<=h0.nt):
 al prog 54 [.ptr x 0,.int .i64 (sk:Nat),.int .i64 (ek:Nat),.pG f eV] h0 (λv h'=>Kp ids (h0.aw m) h'/\v= .cN []/\∃o' s' bs,RB h' x o' d s' e a/\Lt 0 o' o/\J bs h'/\(s'=true->s=true/\(fq o (sk+1)=true->o'=((ca (sk+1) (ek+1) g).on o).map (·.2)/\dO ((ca (sk+1) (ek+1) g).on o) λt=>t=bs))):=by
 have cv:=S.ne
 obtain⟨hx,tk,es,b,hg,T⟩:=S;refine az (n:=36) (rs:=[]) [] ⟨func54,O,O,O⟩ O ?_;have H:HI (h0.aw m) ids h0 [(x,RC (.vec tk 6 es) d b s e a)]:=⟨⟨⟨hg,hx,by simp⟩,trivial⟩,⟨Nat.le_refl _,λ_ _ _=>rfl,hm,λ_ _=>rfl,O⟩,λe he=>by rw[List.mem_singleton]at he;subst he;exact .inl hp⟩;refine dZ H O λh H Y kq=>have j:=hJ _ _ _ j kq;ae O call56 (dB (k:=sk) (.of H T) hs) ?_;rintro v h2 ⟨kp,⟨zl,AY,AZ,b1,eM,T1⟩,w1,rfl,nv⟩;replace H:=H.aA kp eM;replace j:=hJ _ _ _ j kp;generalize K8:((aE (sk+1)).on o).map (·.2)=o1 at*;refine dZ H O λh H Y kq=>?_;replace j:=hJ _ _ _ j kq;refine ae O call21 (fF (.of H T1) he) ?_;rintro v h2 ⟨kp,rfl⟩;replace H:=H.same kp;replace j:=hJ _ _ _ j kp.Gt;refine dZ H O λh H Y kq=>?_;replace j:=hJ _ _ _ j kq;have jF:Lt 0 o1 o:=K8▸Lt.dR (aq _).dR;have zL:FL g (ek+1) o1 o1 []:=by cases o1 with|none=>rfl|some l1=>exact zg.start (by have:=T1.len;omega)
 refine af O (λhb=>?_) λhb=>?_
 .refine yX [0,0] H O λh H Y kq=>?_;replace j:=hJ _ _ _ j kq;refine aC 36 (λq:Option (List Tok)×Bool×List α=>mo q.1) (λq=>[(0,.ptr x 0),(2,.int .i64 (ek:Nat)),(3,.pG f eV)])
   (λq h'=>∃tk es b,HI (h0.aw m) ids h' [(x,RC (.vec tk 6 es) d b q.2.1 e a)]/\TS q.2.1 q.1 b es/\J q.2.2 h'/\Lt 0 q.1 o1/\(∀l,q.1=some l->q.2.2.length+l.length<=1048578)/\(q.2.1=true->s=true/\fq o1 (ek+1)=false/\FL g (ek+1) o1 q.1 q.2.2))
   (λq:Option (List Tok)×Bool×List α=>[(0,.ptr x 0),(2,.int .i64 (ek:Nat))])
   (λq h'=>∃tk es b,HI (h0.aw m) ids h' [(x,RC (.vec tk 6 es) d b q.2.1 e a)]/\TS q.2.1 q.1 b es/\J q.2.2 h'/\Lt 0 q.1 o1/\(q.1=none\/fq q.1 (ek+1)=true)/\(q.2.1=true->s=true/\fq o1 (ek+1)=false/\FL g (ek+1) o1 q.1 q.2.2)) (none,false,[]) O ⟨_,_,_,H,O,j,.none,(λl e=>by cases e),(λh=>by cases h)⟩ ?_ ?_
  .clear H j;rintro⟨o4,s4,bs⟩ h ⟨vO,mr,b4,H,T4,j,ax,jP,hS⟩ again done;simp only at T4 j ax jP hS
   cases o4 with
   |none=>obtain rfl:b4=true:=T4;refine yX [0,92,90] H O λh H Y kq=>?_;replace j:=hJ _ _ _ j kq;exact done (none,s4,bs) O ⟨_,_,_,H,O,j,ax,.inl O,hS⟩
   |some l=>
    obtain rfl:b4=false:=T4.1;refine yX [0,92] H O λh H Y kq=>?_;replace j:=hJ _ _ _ j kq;refine ae O call21 (fF (.of H T4) he) ?_;rintro v h2 ⟨kp,rfl⟩;replace H:=H.same kp;replace j:=hJ _ _ _ j kp.Gt;refine dZ H O λh H Y kq=>?_;replace j:=hJ _ _ _ j kq;refine af O (λhq=>?_) λhq=>?_
    .have u7:fq (some l) (ek+1)=false:=by simpa using hq
     refine dZ H O λh H Y kq=>?_;replace j:=hJ _ _ _ j kq;have jN:=jP l O;refine wZ O O O hf O (Ur _ _ bs _ (.of H T4) j (by omega) H.kp.nt) ?_;rintro v h2 ⟨kp,rfl,o5,s5,t5,⟨Ew,Dl,rB,b5,mw,T5⟩,mz,j5,J9⟩;replace H:=H.GD kp mw;replace j:=j5;refine dZ H O λh H Y kq=>?_;replace j:=hJ _ _ _ j kq;refine again (o5,s5,bs++[t5]) ?_ O ⟨_,_,_,H,T5,j,(ax.trans mz).le (by omega),?_,?_⟩
     .exact tP mz
     .intro l5 e5;obtain⟨l6,e6,h6⟩:=mz l5 e5;injection e6 with e6
      subst e6;simp;omega
     .intro KZ;obtain⟨q1,q2,q3⟩:=J9 KZ;obtain⟨r1,r2,r3⟩:=hS q1;exact⟨r1,r2,r3.step dec (of_decide_eq_false u7) q2 q3⟩
    .have u7:fq (some l) (ek+1)=true:=by simpa using hq
     refine dZ H O λh H Y kq=>?_;replace j:=hJ _ _ _ j kq;exact done (some l,s4,bs) O ⟨_,_,_,H,T4,j,ax,.inr u7,hS⟩
  .clear H j;rintro⟨o4,s4,bs⟩ h ⟨vO,mr,b4,H,T4,j,ax,ka,hS⟩;simp only at T4 j ax ka hS;refine dZ H O λh H Y kq=>?_;replace j:=hJ _ _ _ j kq;refine ae O call56 (dB (k:=ek) (.of H T4) he) ?_;rintro v h2 ⟨kp,⟨Ew,Dl,rB,b5,mw,T5⟩,w5,rfl,V8⟩;replace H:=H.aA kp mw;replace j:=hJ _ _ _ j kp;refine dZ H O λh H Y kq=>?_;replace j:=hJ _ _ _ j kq;refine cy [] H O ⟨H.kp,O,_,s4,bs,.of H T5,(jF.trans (ax.trans (Lt.dR (aq _).dR))).le (by omega),j,λMQ=>?_⟩;obtain⟨r1,r2,r3⟩:=hS MQ;refine⟨r1,λhk=>?_⟩;exact EJ (sk:=sk) hs he hk K8 r2 ka r3
 .refine dZ H O λh H Y kq=>?_;replace j:=hJ _ _ _ j kq;refine aC 36 (λq:Option (List Tok)×Bool×List α=>mo q.1) (λq=>[(0,.ptr x 0),(2,.int .i64 (ek:Nat)),(3,.pG f eV)])
   (λq h'=>∃tk es b,HI (h0.aw m) ids h' [(x,RC (.vec tk 6 es) d b q.2.1 e a)]/\TS q.2.1 q.1 b es/\J q.2.2 h'/\Lt 0 q.1 o1/\(∀l,q.1=some l->q.2.2.length+l.length<=1048578)/\(q.2.1=true->s=true/\fq o1 (ek+1)=false/\FL g (ek+1) o1 q.1 q.2.2))
   (λq:Option (List Tok)×Bool×List α=>[(0,.ptr x 0),(2,.int .i64 (ek:Nat))])
   (λq h'=>∃tk es b,HI (h0.aw m) ids h' [(x,RC (.vec tk 6 es) d b q.2.1 e a)]/\TS q.2.1 q.1 b es/\J q.2.2 h'/\Lt 0 q.1 o1/\(q.1=none\/fq q.1 (ek+1)=true)/\(q.2.1=true->s=true/\fq o1 (ek+1)=false/\FL g (ek+1) o1 q.1 q.2.2)) (o1,s,[]) O ⟨_,_,_,H,T1,j,.refl,(λl e=>by have e:o1=some l:=e;subst e;have:=T1.len;simp;omega),λh=>⟨h,by simpa using hb,zL⟩⟩ ?_ ?_
  .clear H j;rintro⟨o4,s4,bs⟩ h ⟨vO,mr,b4,H,T4,j,ax,jP,hS⟩ again done;simp only at T4 j ax jP hS
   cases o4 with
   |none=>obtain rfl:b4=true:=T4;refine yX [0,92,90] H O λh H Y kq=>?_;replace j:=hJ _ _ _ j kq;exact done (none,s4,bs) O ⟨_,_,_,H,O,j,ax,.inl O,hS⟩
   |some l=>
    obtain rfl:b4=false:=T4.1;refine yX [0,92] H O λh H Y kq=>?_;replace j:=hJ _ _ _ j kq;refine ae O call21 (fF (.of H T4) he) ?_;rintro v h2 ⟨kp,rfl⟩;replace H:=H.same kp;replace j:=hJ _ _ _ j kp.Gt;refine dZ H O λh H Y kq=>?_;replace j:=hJ _ _ _ j kq;refine af O (λhq=>?_) λhq=>?_
    .have u7:fq (some l) (ek+1)=false:=by simpa using hq
     refine dZ H O λh H Y kq=>?_;replace j:=hJ _ _ _ j kq;have jN:=jP l O;refine wZ O O O hf O (Ur _ _ bs _ (.of H T4) j (by omega) H.kp.nt) ?_;rintro v h2 ⟨kp,rfl,o5,s5,t5,⟨Ew,Dl,rB,b5,mw,T5⟩,mz,j5,J9⟩;replace H:=H.GD kp mw;replace j:=j5;refine dZ H O λh H Y kq=>?_;replace j:=hJ _ _ _ j kq;refine again (o5,s5,bs++[t5]) ?_ O ⟨_,_,_,H,T5,j,(ax.trans mz).le (by omega),?_,?_⟩
     .exact tP mz
     .intro l5 e5;obtain⟨l6,e6,h6⟩:=mz l5 e5;injection e6 with e6
      subst e6;simp;omega
     .intro KZ;obtain⟨q1,q2,q3⟩:=J9 KZ;obtain⟨r1,r2,r3⟩:=hS q1;exact⟨r1,r2,r3.step dec (of_decide_eq_false u7) q2 q3⟩
    .have u7:fq (some l) (ek+1)=true:=by simpa using hq
     refine dZ H O λh H Y kq=>?_;replace j:=hJ _ _ _ j kq;exact done (some l,s4,bs) O ⟨_,_,_,H,T4,j,ax,.inr u7,hS⟩
  .clear H j;rintro⟨o4,s4,bs⟩ h ⟨vO,mr,b4,H,T4,j,ax,ka,hS⟩;simp only at T4 j ax ka hS;refine dZ H O λh H Y kq=>?_;replace j:=hJ _ _ _ j kq;refine ae O call56 (dB (k:=ek) (.of H T4) he) ?_;rintro v h2 ⟨kp,⟨Ew,Dl,rB,b5,mw,T5⟩,w5,rfl,V8⟩;replace H:=H.aA kp mw;replace j:=hJ _ _ _ j kp;refine dZ H O λh H Y kq=>?_;replace j:=hJ _ _ _ j kq;refine cy [] H O ⟨H.kp,O,_,s4,bs,.of H T5,(jF.trans (ax.trans (Lt.dR (aq _).dR))).le (by omega),j,λMQ=>?_⟩;obtain⟨r1,r2,r3⟩:=hS MQ;refine⟨r1,λhk=>?_⟩;exact EJ (sk:=sk) hs he hk K8 r2 ka r3
end
end
end
section
variable {P:Program} {lt:LT} {C:Exit->ay->AH->Prop} {h h0 hb:AH} {fr:ay} {ks:List Kt} {ids:List Nat} {V V' V0 V1:View}
def Y1 (P:Program) (lt:LT) (ops:List Oper) (h:AH) (C:Exit->ay->AH->Prop) (ks:List Kt) (aD:List po) (hs:List AH) (aB:ay) (h':AH):Prop:=∃kinds p,aD.map (·.kind)=kinds/\uJ ops kinds=true/\BM (pQ ops []) (dm 0 kinds) (dm 0 kinds).length 0 kinds=p/\mG P lt ops aD (h::hs) p/\XS P lt C (.ext .normal) ks aB h'
theorem xa {id:Nat} {ops:List Oper} (hm:P.follows .mixedOrders=true) (H:AD P lt ops ops fr h 0 (Y1 P lt ops h C ks)):XS P lt C (.code (.region id ops.toArray true)) ks fr h:=AC.drawn hm H
theorem AD.V9 {o:Oper} {ops l:List Oper} {s x:Operand} {t:TypeId} {sz gl k:Nat} {xs y:AV} {es ys:List (List AV)} {d:Tmp} {K:List po->List AH->ay->AH->Prop} (H:HI h0 ids h V) (ha:cD o.op=some (s,x,t)) (hw:au ops fr o.guard=some true) (hi:cC P t=some (sz,gl))
 (kN:fr.ev s= .v xs) (ex:fr.ev x= .v y) (hy:aY sz y=some ys) (hd:o.dst=some d) (hG:aG h0 h sz xs es) (dK:(es.length+ys.length)*(gl+1)<=140737488355328)
 (T:∀x' h',HI h0 ids h' V->aG h0 h' sz x' (es++ys)->h'.n=h.n->AD P lt ops l (fr.bf d (.v x')) h' (k+1) λaD hs aB h2=>K (⟨o,fr,.v x',2,k⟩::aD) (h'::hs) aB h2):AD P lt ops (o::l) fr h k K:=by
 obtain⟨x',h',st,k1,k2,k3,k4⟩:=BU (lt:=lt) H ha hw hi kN ex hy hG dK;exact AD.LA st hd (T x' h' k1 k2 k3)
end
section
attribute [local irreducible] AC AL AW AD aP
section
attribute [local irreducible] aQ aU
def IJ {α:Type} (g:Pa α) (k:Nat) (o o':Option (List Tok)) (vs:List α):Prop:=o'=(((aQ g k dX).on o).map (·.2)).map List.tail/\dO ((aQ g k dX).on o) λt=>t=vs
theorem EK {α:Type} {g:Pa α} {k:Nat} {o o4:Option (List Tok)} {vs:List α} (hk:2<=k) (ka:o4=none\/fq o4 k=true) (lp:FL g k o o4 vs):IJ g k o (((aE k).on o4).map (·.2)) vs:=by
 cases o with
 |none=>obtain rfl:o4=none:=lp;exact⟨O,λt l e=>by cases e⟩
 |some L=>
  cases o4 with
  |none=>
   have:aQ g k dX L=none:=lp.1
   refine⟨?_,λt l e=>?_⟩
   .show none=((aQ g k dX L).map (·.2)).map List.tail
    rw[this];rfl
   .replace e:aQ g k dX L=some (t,l):=e;rw[this]at e
    cases e
  |some l=>
   have hl:bC l=k:=of_decide_eq_true (ka.resolve_left (by simp))
   obtain⟨Ow,q1,q2⟩:=zg.stop (lp:zg g k L (some l) ((some l).map λ_=>vs)) hl;injection q1 with q1
   subst q1;refine⟨?_,λt l2 e=>?_⟩
   .rw[yk hk,if_pos (show fq (some l) k=true from decide_eq_true hl)];show(if bC l=1 then none else some l.tail)=((aQ g k dX L).map (·.2)).map List.tail;rw[q2,if_neg (show ¬ bC l=1 by omega)];rfl
   .replace e:aQ g k dX L=some (t,l2):=e;rw[q2]at e;injection e with e
    injection e with e1 e2
    exact e1.symm
section
variable {h h0:AH} {x d k n:Nat} {o:Option (List Tok)} {s e a fixed fx:Bool} {w:ak} {ids:List Nat}
abbrev sy (v:dM):ak×dM:=([],v)
theorem Ka (Y2:∀(o:Option (List Tok)) (s:Bool) (h:AH),(o=none\/(1<=n/\n+(d+1)=1001))->RB h x o (d+1) s e a->al prog 93 [.ptr x 0,.bool fixed] h (SQ x (d+1) s e a h o 1 ((aU n fx (d+1)).on o) λt=> .agg t.cs))
 (hd:d<=1001) (hn:o=none\/n+1+d=1001) (S:RB h0 x o d s e a):
 al prog 135 [.ptr x 0,.bool fixed] h0 (λv h'=>Kp [x] h0 h'/\∃o' s',RB h' x o' d s' e a/\Lt 0 o' o/\∃vs:List dM,v= .agg (dM.mk 8 [] (vs.map sy)).cs/\(s'=true->s=true/\IJ (aU n fx (d+1)) 12 (if d <1000 then o else none) o' vs)):=by
 have hx:=S.1
 obtain⟨tk,es,b,H,T⟩:=S.at_;refine az (n:=33) (rs:=[.cell 4 202]) [] ⟨func135,O,O,O⟩ O <| an [2] H O λh H Y=>ae O call137 (yl (.of H T) (by omega)) ?_;rintro v h2 ⟨kp,⟨zl,AY,AZ,b1,eM,T1⟩⟩;replace H:=H.aA kp eM;have jF:Lt 0 (if d <1000 then o else none) o:=by split;exact .refl;exact .none
 have vZ:(if d <1000 then o else none)=none\/n+1+d=1001/\d <1000:=by
  by_cases q:d <1000
  .rw[if_pos q];exact hn.imp id λh=>⟨h,q⟩
  .exact .inl (if_neg q)
 generalize(if d <1000 then o else none)=o2 at*;refine ah H O λh H Y=>?_;have zL:FL (aU n fx (d+1)) 12 o2 o2 []:=by cases o2 with|none=>rfl|some l1=>exact zg.start (by have:=T1.len;omega)
 refine aC 33 (λq:Option (List Tok)×Bool×List dM×AV=>mo q.1) (λq=>[(0,.ptr x 0),(1,.bool fixed),(4,.ptr h0.n 0),(5,.ptr (h0.n+1) 0)])
  (λq h'=>∃tk es b,HI h0 [x] h' [(x,RC (.vec tk 6 es) (d+1) b q.2.1 e a),(h0.n,[.int .i64 0,.str [],.ao]),(h0.n+1,[.int .i64 8,.str [],q.2.2.2])]/\TS q.2.1 q.1 b es/\bJ h0 h' 4 q.2.2.2 ((q.2.2.1.map sy).map bD)/\Lt 0 q.1 o2/\(∀l,q.1=some l->q.2.2.1.length+l.length<=1048578)/\(q.2.1=true->s=true/\FL (aU n fx (d+1)) 12 o2 q.1 q.2.2.1))
  (λq:Option (List Tok)×Bool×List dM×AV=>[(0,.ptr x 0),(4,.ptr h0.n 0),(5,.ptr (h0.n+1) 0)])
  (λq h'=>∃tk es b,HI h0 [x] h' [(x,RC (.vec tk 6 es) (d+1) b q.2.1 e a),(h0.n,[.int .i64 0,.str [],.ao]),(h0.n+1,[.int .i64 8,.str [],q.2.2.2])]/\TS q.2.1 q.1 b es/\bJ h0 h' 4 q.2.2.2 ((q.2.2.1.map sy).map bD)/\Lt 0 q.1 o2/\(q.1=none\/fq q.1 12=true)/\(q.2.1=true->s=true/\FL (aU n fx (d+1)) 12 o2 q.1 q.2.2.1))
  (o2,s,[],.ao) O ⟨_,_,_,H,T1,.nil,.refl,(λl e=>by have e:o2=some l:=e;subst e;have:=T1.len;simp;omega),λh=>⟨h,zL⟩⟩ ?_ ?_
 .clear H;rintro⟨o4,s4,vs,y⟩ h ⟨vO,mr,b4,H,T4,G,ax,jP,hS⟩ again done;simp only at T4 G ax jP hS
  cases o4 with
  |none=>obtain rfl:b4=true:=T4;exact bm [0,92,90] H G O λh H G Y=>done (none,s4,vs,y) O ⟨_,_,_,H,O,G,ax,.inl O,hS⟩
  |some l=>
   obtain rfl:b4=false:=T4.1;refine bm [0,92] H G O λh H G Y=>ae O call21 (fF (k:=11) (.of H T4) (by omega)) ?_;rintro v h2 ⟨kp,rfl⟩;replace H:=H.same kp;replace G:=G.kp kp;refine aH H G O λh H G Y=>af O (λhq=>?_) λhq=>?_
   .have u7:fq (some l) 12=false:=by simpa using hq
    have jN:=jP l O
    refine Af 3 [] [] H G O λh H G Y=>xa mx <| AD.run 1 O <| AD.eP O O O O O H.hv.2.2.1.1 O O <| AD.run 2 O ?_;have Y3:(some l:Option (List Tok))=none\/(1<=n/\n+(d+1)=1001):=by
     rcases vZ with rfl|⟨q1,q2⟩
     .obtain⟨l2,e2,_⟩:=ax l rfl
      cases e2
     .exact .inr ⟨by omega,by omega⟩
    refine AD.gP O O call93 (Y2 _ _ _ Y3 (.of H T4)) O ?_;rintro v h2 ⟨kp,o5,s5,⟨Ew,Dl,rB,b5,mw,T5⟩,mz,t5,FK,J9⟩;replace H:=H.aA kp mw;replace G:=G.kp kp;obtain⟨k1,r1,x1,e1⟩:=t5.shape;replace FK:v= .agg t5.cs:=FK;rw[e1]at FK;subst FK;have dJ:=H.hv.2.2.1.1;refine AD.run 2 O <| AD.V9 H O O O O O O O G.1 ?_ ?_
    .have e9:((vs.map sy).map bD).length=vs.length:=by simp
     show(((vs.map sy).map bD).length+1)*(64+1)<=140737488355328
     rw[e9];omega
    clear H G;intro x' h H G n_;replace G:aG h0 h 4 x' ((vs.map sy).map bD++[bD (sy t5)]):=by unfold bD;rw[e1];exact G
    obtain⟨pz,rfl⟩:=ck G;replace G:=G.pE;refine AD.run 1 O <| have H2:=H.ku (j:=2) (dH:=[.int .i64 8,.str [],.vec pz 4 ((vs.map sy).map bD++[bD (sy t5)])]) O O;AD.v8 (ag.j1 O O O O O O H.hv.2.2.1.1 O O) O ?_;replace G:=G.eq (h1:=h.set (h0.n+1) (.cells [.int .i64 8,.str [],.vec pz 4 ((vs.map sy).map bD++[bD (sy t5)])])) O O;clear H;have H:=H2;clear H2;refine AD.nil ⟨[0,1,0,0,2,0,0,2,0,2],_,O,by decide+kernel,O,⟨λe hk e1 e2=>?_,trivial⟩,?_⟩
    .injection e1 with e1
     injection e2 with e2
     subst e1 e2;exact ag.eP O O O O O dJ O
    refine aH H G O λh H G Y=>?_;refine again (o5,s5,vs++[t5],_) ?_ O ⟨_,_,_,H,T5,by simpa using G,(ax.trans mz).le (by omega),?_,?_⟩
    .exact tP mz
    .intro l5 e5;obtain⟨l6,e6,h6⟩:=mz l5 e5;injection e6 with e6
     subst e6;simp;omega
    .intro KZ;obtain⟨q1,q2,q3⟩:=J9 KZ;obtain⟨r1,r2⟩:=hS q1;exact⟨r1,r2.step (kI _ _ _) (of_decide_eq_false u7) q2 q3⟩
   .have u7:fq (some l) 12=true:=by simpa using hq
    exact aH H G O λh H G Y=>done (some l,s4,vs,y) O ⟨_,_,_,H,T4,G,ax,.inr u7,hS⟩
 .clear H;rintro⟨o4,s4,vs,y⟩ h ⟨vO,mr,b4,H,T4,G,ax,ka,hS⟩;simp only at T4 G ax ka hS;refine aH H G O λh H G Y=>ae O call56 (dB (k:=11) (.of H T4) (by omega)) ?_;rintro v h2 ⟨kp,⟨Ew,Dl,rB,b5,mw,T5⟩,w5,rfl,V8⟩;replace H:=H.aA kp mw;replace G:=G.kp kp;refine aH H G O λh H G Y=>ae O call138 (Hg (.of H T5) (by omega)) ?_;rintro v h2 ⟨kp,⟨K7,IH,FJ,b6,su,T6⟩⟩;replace H:=H.aA kp su;replace G:=G.kp kp;refine Af 2 [] [] H G O λh H G Y=>?_;refine jK 2 (dM.mk 8 [] (vs.map sy)).cs H O (by rw[dM.fO];rfl) (by rw[dM.fO];exact⟨.refl _,.refl _,G.ku,trivial⟩) λh H Y=>?_;clear G;refine an [2,1] H O λh H Y=>?_;have eG:Lt 0 (((aE 12).on o4).map (·.2)) o:=(jF.trans (ax.trans (Lt.dR (aq 12).dR))).le (by omega);exact ab [1] H O ⟨H.kp,_,s4,.of H T6,eG,vs,by rw[dM.fO];rfl,λMQ=>⟨(hS MQ).1,EK (by omega) ka (hS MQ).2⟩⟩
end
end
section
attribute [local irreducible] aQ aU
theorem Lt.dec {α:Type} {g:Pa α} (h:j6 g) {o:Option (List Tok)}:Lt 1 ((g.on o).map (·.2)) o:=λl' e=>by
 cases o with
 |none=>cases e
 |some L=>
  cases hg:g L with
  |none=>
   have:g.on (some L)=Option.none:=hg
   rw[this]at e
   cases e
  |some y=>
   have:g.on (some L)=some y:=hg
   rw[this]at e;injection e with e
   subst e;exact⟨L,O,h L y.1 y.2 hg⟩
section
variable {h h0:AH} {x d k n:Nat} {o:Option (List Tok)} {s e a fixed fx:Bool} {w:ak} {ids:List Nat}
section
attribute [local irreducible] aE
theorem PM {g:Pa dM}:((ot g).on o).map (·.2)=((g.on (((aE 8).on ((ar.on o).map (·.2))).map (·.2))).map (·.2)):=Ci (x:=ar) (λo=>((g.on (((aE 8).on o).map (·.2))).map (·.2))) O λa r=>Ci (x:=(aE 8)) (λo=>((g.on o).map (·.2))) O λa r=>Ci (x:=g) (λo=>o) O λa r=>rfl
end
theorem EL (Y2:∀(o:Option (List Tok)) (s:Bool) (h:AH),(o=none\/(1<=n/\n+(d+1)=1001))->RB h x o (d+1) s e a->al prog 93 [.ptr x 0,.bool fixed] h (SQ x (d+1) s e a h o 1 ((aU n fx (d+1)).on o) λt=> .agg t.cs))
 (hd:d<=1001) (hn:o=none\/n+1+d=1001) (S:RB h0 x o d s e a):
 al prog 136 [.ptr x 0,.bool fixed] h0 (λv h'=>Kp [x] h0 h'/\∃o' s',RB h' x o' d s' e a/\Lt 0 o' o/\∃vs:List (ak×dM),v= .agg (dM.mk 9 [] vs).cs/\(s'=true->s=true/\IJ (ot (aU n fx (d+1))) 14 (if d <1000 then o else none) o' vs)):=by
 have hx:=S.1
 obtain⟨tk,es,b,H,T⟩:=S.at_;refine az (n:=39) (rs:=[.cell 4 202]) [] ⟨func136,O,O,O⟩ O <| an [2] H O λh H Y=>ae O call137 (yl (.of H T) (by omega)) ?_;rintro v h2 ⟨kp,⟨zl,AY,AZ,b1,eM,T1⟩⟩;replace H:=H.aA kp eM;have jF:Lt 0 (if d <1000 then o else none) o:=by split;exact .refl;exact .none
 have vZ:(if d <1000 then o else none)=none\/n+1+d=1001/\d <1000:=by
  by_cases q:d <1000
  .rw[if_pos q];exact hn.imp id λh=>⟨h,q⟩
  .exact .inl (if_neg q)
 generalize(if d <1000 then o else none)=o2 at*;refine ah H O λh H Y=>?_;have zL:FL (ot (aU n fx (d+1))) 14 o2 o2 []:=by cases o2 with|none=>rfl|some l1=>exact zg.start (by have:=T1.len;omega)
 refine aC 39 (λq:Option (List Tok)×Bool×List (ak×dM)×AV=>mo q.1) (λq=>[(0,.ptr x 0),(1,.bool fixed),(4,.ptr h0.n 0),(5,.ptr (h0.n+1) 0)])
  (λq h'=>∃tk es b,HI h0 [x] h' [(x,RC (.vec tk 6 es) (d+1) b q.2.1 e a),(h0.n,[.int .i64 0,.str [],.ao]),(h0.n+1,[.int .i64 9,.str [],q.2.2.2])]/\TS q.2.1 q.1 b es/\bJ h0 h' 4 q.2.2.2 (q.2.2.1.map bD)/\Lt 0 q.1 o2/\(∀l,q.1=some l->q.2.2.1.length+l.length<=1048578)/\(q.2.1=true->s=true/\FL (ot (aU n fx (d+1))) 14 o2 q.1 q.2.2.1))
  (λq:Option (List Tok)×Bool×List (ak×dM)×AV=>[(0,.ptr x 0),(4,.ptr h0.n 0),(5,.ptr (h0.n+1) 0)])
  (λq h'=>∃tk es b,HI h0 [x] h' [(x,RC (.vec tk 6 es) (d+1) b q.2.1 e a),(h0.n,[.int .i64 0,.str [],.ao]),(h0.n+1,[.int .i64 9,.str [],q.2.2.2])]/\TS q.2.1 q.1 b es/\bJ h0 h' 4 q.2.2.2 (q.2.2.1.map bD)/\Lt 0 q.1 o2/\(q.1=none\/fq q.1 14=true)/\(q.2.1=true->s=true/\FL (ot (aU n fx (d+1))) 14 o2 q.1 q.2.2.1))
  (o2,s,[],.ao) O ⟨_,_,_,H,T1,.nil,.refl,(λl e=>by have e:o2=some l:=e;subst e;have:=T1.len;simp;omega),λh=>⟨h,zL⟩⟩ ?_ ?_
 .clear H;rintro⟨o4,s4,vs,y⟩ h ⟨vO,mr,b4,H,T4,G,ax,jP,hS⟩ again done;simp only at T4 G ax jP hS
  cases o4 with
  |none=>obtain rfl:b4=true:=T4;exact bm [0,92,90] H G O λh H G Y=>done (none,s4,vs,y) O ⟨_,_,_,H,O,G,ax,.inl O,hS⟩
  |some l=>
   obtain rfl:b4=false:=T4.1;refine bm [0,92] H G O λh H G Y=>ae O call21 (fF (k:=13) (.of H T4) (by omega)) ?_;rintro v h2 ⟨kp,rfl⟩;replace H:=H.same kp;replace G:=G.kp kp;refine aH H G O λh H G Y=>af O (λhq=>?_) λhq=>?_
   .have u7:fq (some l) 14=false:=by simpa using hq
    have jN:=jP l O
    refine aH H G O λh H G Y=>ae O call52 (bg (.of H T4)) ?_;rintro v h2 ⟨kp,⟨KY,Wa,Wb,b7,xG,T7⟩,w7,rfl,Uu⟩;replace H:=H.aA kp xG;replace G:=G.kp kp;have lt7:Lt 1 ((ar.on (some l)).map (·.2)) (some l):=Lt.dec (aq 16);generalize WZ:(ar.on (some l)).map (·.2)=o7 at*;refine aH H G O λh H G Y=>ae O call56 (dB (k:=7) (.of H T7) (by omega)) ?_;rintro v h2 ⟨kp,⟨CD,CE,A0,b8,nL,T8⟩,w8,rfl,Uv⟩;replace H:=H.aA kp nL;replace G:=G.kp kp;have lt8:Lt 0 (((aE 8).on o7).map (·.2)) o7:=Lt.dR (aq 8).dR;generalize X1:((aE (7+1)).on o7).map (·.2)=o8 at*;refine Af 2 [] [] H G O λh H G Y=>xa mx <| AD.run 1 O <| AD.eP O O O O O H.hv.2.2.1.1 O O <| AD.run 3 O ?_;have Y3:o8=none\/(1<=n/\n+(d+1)=1001):=by
     rcases vZ with rfl|⟨q1,q2⟩
     .obtain⟨l2,e2,_⟩:=ax l rfl
      cases e2
     .exact .inr ⟨by omega,by omega⟩
    refine AD.gP O O call93 (Y2 _ _ _ Y3 (.of H T8)) O ?_;rintro v h2 ⟨kp,o5,s5,⟨Ew,Dl,rB,b5,mw,T5⟩,Wc,t5,FK,J9⟩;have mz:Lt 1 o5 (some l):=((lt7.trans lt8).trans Wc).le (by omega);replace H:=H.aA kp mw;replace G:=G.kp kp;obtain⟨k1,r1,x1,e1⟩:=t5.shape;replace FK:v= .agg t5.cs:=FK;rw[e1]at FK;subst FK;have dJ:=H.hv.2.2.1.1;refine AD.run 2 O <| AD.V9 H O O O O O O O G.1 ?_ ?_
    .have e9:(vs.map bD).length=vs.length:=by simp
     show((vs.map bD).length+1)*(64+1)<=140737488355328
     rw[e9];omega
    clear H G;intro x' h H G n_;replace G:aG h0 h 4 x' (vs.map bD++[bD (w7,t5)]):=by unfold bD;rw[e1];exact G
    obtain⟨pz,rfl⟩:=ck G;replace G:=G.pE;refine AD.run 1 O <| have H2:=H.ku (j:=2) (dH:=[.int .i64 9,.str [],.vec pz 4 (vs.map bD++[bD (w7,t5)])]) O O;AD.v8 (ag.j1 O O O O O O H.hv.2.2.1.1 O O) O ?_;replace G:=G.eq (h1:=h.set (h0.n+1) (.cells [.int .i64 9,.str [],.vec pz 4 (vs.map bD++[bD (w7,t5)])])) O O;clear H;have H:=H2;clear H2;refine AD.nil ⟨[0,1,0,0,0,2,0,0,2,0,2],_,O,by decide+kernel,O,⟨λe hk e1 e2=>?_,trivial⟩,?_⟩
    .injection e1 with e1
     injection e2 with e2
     subst e1 e2;exact ag.eP O O O O O dJ O
    refine aH H G O λh H G Y=>?_;refine again (o5,s5,vs++[(w7,t5)],_) ?_ O ⟨_,_,_,H,T5,by simpa using G,(ax.trans mz).le (by omega),?_,?_⟩
    .exact tP mz
    .intro l5 e5;obtain⟨l6,e6,h6⟩:=mz l5 e5;injection e6 with e6
     subst e6;simp;omega
    .intro KZ;obtain⟨q1,q2,q3⟩:=J9 KZ;obtain⟨r1,r2⟩:=hS q1;refine⟨r1,r2.step (tw (kI _ _ _).dR) (of_decide_eq_false u7) ?_ ?_⟩
     .rw[PM,WZ,show((aE 8).on o7).map (·.2)=o8 from X1];exact q2
     .intro t' l' e;obtain⟨a2,r2,e2,e⟩:=cx (x:=ar) e;have s2:((ar.on (some l)).map (·.2))=some r2:=by rw[e2];rfl
      have w2:=Uu _ _ e2;obtain⟨a3,r3,e3,e⟩:=cx (x:=(aE 8)) e;rw[<-s2,WZ]at e3;have s3:(((aE 8).on o7).map (·.2))=some r3:=by rw[e3];rfl
      obtain⟨a4,r4,e4,e⟩:=cx (x:=aU n fx (d+1)) e;rw[<-s3,show((aE 8).on o7).map (·.2)=o8 from X1]at e4;have w4:=q3 _ _ e4;injection e with e
      injection e with Sk YH
      rw[<-Sk,w2,w4]
   .have u7:fq (some l) 14=true:=by simpa using hq
    exact aH H G O λh H G Y=>done (some l,s4,vs,y) O ⟨_,_,_,H,T4,G,ax,.inr u7,hS⟩
 .clear H;rintro⟨o4,s4,vs,y⟩ h ⟨vO,mr,b4,H,T4,G,ax,ka,hS⟩;simp only at T4 G ax ka hS;refine aH H G O λh H G Y=>ae O call56 (dB (k:=13) (.of H T4) (by omega)) ?_;rintro v h2 ⟨kp,⟨Ew,Dl,rB,b5,mw,T5⟩,w5,rfl,V8⟩;replace H:=H.aA kp mw;replace G:=G.kp kp;refine aH H G O λh H G Y=>ae O call138 (Hg (.of H T5) (by omega)) ?_;rintro v h2 ⟨kp,⟨K7,IH,FJ,b6,su,T6⟩⟩;replace H:=H.aA kp su;replace G:=G.kp kp;refine Af 2 [] [] H G O λh H G Y=>?_;refine jK 2 (dM.mk 9 [] vs).cs H O (by rw[dM.fO];rfl) (by rw[dM.fO];exact⟨.refl _,.refl _,G.ku,trivial⟩) λh H Y=>?_;clear G;refine an [2,1] H O λh H Y=>?_;have eG:Lt 0 (((aE 14).on o4).map (·.2)) o:=(jF.trans (ax.trans (Lt.dR (aq 14).dR))).le (by omega);exact ab [1] H O ⟨H.kp,_,s4,.of H T6,eG,vs,by rw[dM.fO];rfl,λMQ=>⟨(hS MQ).1,EK (by omega) ka (hS MQ).2⟩⟩
end
end
section
attribute [local irreducible] aQ
theorem ee.agg {cs dH:List AV} (hs:fZ cs dH):ee (.agg cs) (.agg dH):=λg w v h=>by cases h with|agg _ vs hn hv ho=>obtain⟨k1,k2⟩:=hs.get;exact .agg dH vs (hn.trans k1.symm) (λi hi=>k2 i (by omega) hi g w _ (hv i (by omega)) (ho i (by omega))) (λi hi=>ho i (by omega))
theorem nh {k:Int} {r:ak}:ee (.agg [.int .i64 k,.str r,.ao]) (.agg (dM.mk k r []).cs):=by rw[dM.fO];exact ee.agg ⟨.refl _,.refl _,.one _,trivial⟩
theorem mS {o:Option (List Tok)} {K:Nat} (h:(wq o).k=K) (hK:2<=K):∃t r,o=some (t::r)/\t.k=K/\(wq o).v=t.v/\wR o=some r:=by
 cases o with
 |none=>simp[wq,kT]at h;omega
 |some L=>
  cases L with
  |nil=>simp[wq,bC]at h;omega
  |cons t r=>
   have hk:t.k=K:=h
   refine⟨t,r,O,hk,O,?_⟩;rw[nW,if_neg (by omega)]
theorem M4 {n d:Nat} {fx:Bool} {t:Tok} {r:List Tok} (hk:t.k=11):(aU (n+1) fx d).on (some (t::r))=((aQ (aU n fx (d+1)) 12 dX).on (if d <1000 then some r else none)).map λp=>(.mk 8 [] (p.1.map sy),p.2.tail):=by
 show aU (n+1) fx d (t::r)=_
 simp only[aU,if_pos hk]
 by_cases hd:d <1000
 .rw[if_pos hd,if_pos hd];unfold gC;rw[if_pos (show bC (t::r)=11 from hk)];show _=(aQ (aU n fx (d+1)) 12 dX r).map _;simp only[List.tail_cons];generalize aQ (aU n fx (d+1)) 12 dX r=y
  cases y<;>rfl
 .rw[if_neg hd,if_neg hd];rfl
theorem PN {n d:Nat} {fx:Bool} {t:Tok} {r:List Tok} (hk:t.k=13):(aU (n+1) fx d).on (some (t::r))=((aQ (ot (aU n fx (d+1))) 14 dX).on (if d <1000 then some r else none)).map λp=>(.mk 9 [] p.1,p.2.tail):=by
 show aU (n+1) fx d (t::r)=_
 have vp:¬ t.k=11:=by omega
 simp only[aU,if_neg vp,if_pos hk]
 by_cases hd:d <1000
 .rw[if_pos hd,if_pos hd];unfold gC;rw[if_pos (show bC (t::r)=13 from hk)];show _=(aQ (ot (aU n fx (d+1))) 14 dX r).map _;simp only[List.tail_cons];generalize aQ (ot (aU n fx (d+1))) 14 dX r=y
  cases y<;>rfl
 .rw[if_neg hd,if_neg hd];rfl
theorem PO {n d:Nat} {fx:Bool} {o:Option (List Tok)} (h:(wq o).k≠3/\(wq o).k≠17/\(wq o).k≠18/\(wq o).k≠19/\(wq o).k≠20/\(wq o).k≠16/\(wq o).k≠11/\(wq o).k≠13):(aU (n+1) fx d).on o=none:=by cases o with|none=>rfl|some L=>cases L with|nil=>simp[Pa.on,aU]|cons t r=>obtain⟨h1,h2,h3,h4,h5,h6,h7,h8⟩:=h;replace h1:t.k≠3:=h1;replace h2:t.k≠17:=h2;replace h3:t.k≠18:=h3;replace h4:t.k≠19:=h4;replace h5:t.k≠20:=h5;replace h6:t.k≠16:=h6;replace h7:t.k≠11:=h7;replace h8:t.k≠13:=h8;simp[Pa.on,aU,h1,h2,h3,h4,h5,h6,h7,h8]
theorem A5 {α:Type} {g:Pa α} {k:Nat} {o2 o':Option (List Tok)} {vs:List α} {f:List α->dM} (h:IJ g k o2 o' vs):o'=(((aQ g k dX).on o2).map λp=>(f p.1,p.2.tail)).map (·.2)/\dO (((aQ g k dX).on o2).map λp=>(f p.1,p.2.tail)) λt=>t=f vs:=by
 obtain⟨h1,h2⟩:=h
 cases hg:(aQ g k dX).on o2 with
 |none=>rw[hg]at h1;exact⟨h1,λt l e=>by cases e⟩
 |some p=>
  rw[hg]at h1;refine⟨h1,λt l e=>?_⟩;injection e with e
  injection e with e1 e2
  rw[<-e1,h2 p.1 p.2 hg]
section
variable {h h0:AH} {x d k n:Nat} {o:Option (List Tok)} {s e a fixed fx:Bool} {w:ak} {ids:List Nat}
theorem EM:∀(n d:Nat) (o:Option (List Tok)) (s:Bool) (h0:AH),(fx=fixed\/(fixed=true/\a=true))->(o=none\/(1<=n/\n+d=1001))->d<=1001->RB h0 x o d s e a->
 al prog 93 [.ptr x 0,.bool fixed] h0 (SQ x d s e a h0 o 1 ((aU n fx d).on o) λt=> .agg t.cs):=by
 intro n
 induction n with
 |zero=>
  intro d o s h0 J1 hn hd S;obtain rfl:o=none:=hn.elim id (λh=>absurd h.1 (by omega));refine al.obj (Q:=λv h'=>Kp [x] h0 h'/\∃o' s',RB h' x o' d s' e a/\Lt 1 o' none/\∃t:dM,ee v (.agg t.cs)/\(s'=true->s=true/\o'=((aU 0 fx d).on none).map (·.2)/\dO ((aU 0 fx d).on none) λt'=>t'=t)) ?_ (λv h' q=>by obtain⟨k,o',s',S,hl,bs,h1,h2⟩:=q;exact .inl ⟨_,h1,k,o',s',S,hl,bs,O,h2⟩)
  obtain⟨tk,es,b,H,T⟩:=S.at_;refine az (n:=75) (rs:=[.cell 4 202]) [] ⟨func93,O,O,O⟩ O <| ah H O λh H Y=>ae O call24 (gw (.of H T)) ?_;rintro v h2 ⟨kp,⟨zl,AY,AZ,b1,eM,T1⟩,c,rfl,⟨p1,p2,p3,p4,rfl⟩⟩;replace H:=H.aA kp eM;refine an [2,2] H O λh H Y=>?_;refine cX O ?_;refine ah H O λh H Y=>?_;refine cX O ?_;refine ah H O λh H Y=>?_;refine cX O ?_;refine ah H O λh H Y=>?_;refine cX O ?_;refine ah H O λh H Y=>?_;refine cX O ?_;refine ah H O λh H Y=>?_;refine cX O ?_;refine ah H O λh H Y=>?_;refine cX O ?_;refine ah H O λh H Y=>?_;refine cX O ?_;refine an [0,1] H O λh H Y=>?_;exact ab [1] H O ⟨H.kp,none,s,.of H O,.none,_,nh,λhs=>⟨hs,O,λt l e=>by cases e⟩⟩
 |succ n ih=>
 intro d o s h0 J1 hn hd S;refine al.obj (Q:=λv h'=>Kp [x] h0 h'/\∃o' s',RB h' x o' d s' e a/\Lt 1 o' o/\∃t:dM,ee v (.agg t.cs)/\(s'=true->s=true/\o'=((aU (n+1) fx d).on o).map (·.2)/\dO ((aU (n+1) fx d).on o) λt'=>t'=t)) ?_ (λv h' q=>by obtain⟨k,o',s',S,hl,bs,h1,h2⟩:=q;exact .inl ⟨_,h1,k,o',s',S,hl,bs,O,h2⟩)
 have hx:=S.1;have cv:=S.ne;obtain⟨tk,es,b,H,T⟩:=S.at_;refine az (n:=75) (rs:=[.cell 4 202]) [] ⟨func93,O,O,O⟩ O <| ah H O λh H Y=>ae O call24 (gw (.of H T)) ?_;rintro v h2 ⟨kp,⟨zl,AY,AZ,b1,eM,T1⟩,c,rfl,⟨p1,p2,p3,p4,rfl⟩⟩;replace H:=H.aA kp eM;have jF:Lt 1 (wR o) o:=Lt.nx cv;refine an [2,2] H O λh H Y=>af O (λY4=>?_) λY4=>?_
 .have hK:(wq o).k=3:=by have:=of_decide_eq_true Y4;omega
  obtain⟨t,r,rfl,hk,hv,Hi⟩:=mS hK (by omega);have ev:(aU (n+1) fx d).on (some (t::r))=(if fx=true then none else(ar r).map λp=>(dM.mk 0 p.1 [],p.2)):=by
   show aU (n+1) fx d (t::r)=_
   simp only[aU];rw[if_neg (by omega),if_neg (by omega),if_pos hk]
   cases fx with
   |true=>rfl
   |false=>
    show(match ar r with|some (s,r')=>some (dM.mk 0 s [],r')|none=>none)=(ar r).map λp=>(dM.mk 0 p.1 [],p.2)
    generalize ar r=y
    cases y<;>rfl
  refine ah H O λh H Y=>?_
  cases fixed with
  |true=>
   refine jI O <| an [0] H O λh H Y=>aj O (λsd=>?_) (λsd=>?_)
   .refine an [0,0,0] H O λh H Y=>ae O call52 (bg (o:=none) (s:= !a) (.of H O)) ?_;rintro v h2 ⟨kp,⟨KY,Wa,Wb,b7,xG,T7⟩,w7,rfl,Uu⟩;replace H:=H.aA kp xG;refine an [1] H O λh H Y=>ab [1] H O ⟨H.kp,none, !a,.of H T7,.none,_,nh,λhs=>⟨sd,?_⟩⟩;have Y5:fx=true:=by rcases J1 with h|⟨_,h⟩;exact h;rw[h]at hs;cases hs
    rw[ev,if_pos Y5];exact⟨O,λt l e=>by cases e⟩
   .refine an [0,0] H O λh H Y=>ae O call52 (bg (o:=none) (s:=false) (.of H O)) ?_;rintro v h2 ⟨kp,⟨KY,Wa,Wb,b7,xG,T7⟩,w7,rfl,Uu⟩;replace H:=H.aA kp xG;refine an [1] H O λh H Y=>?_;exact ab [1] H O ⟨H.kp,none,false,.of H T7,.none,_,nh,λhs=>by cases hs⟩
  |false=>
   refine cX O ?_;have hf:fx=false:=by rcases J1 with h|⟨h,_⟩;exact h;cases h
   subst hf;refine ah H O λh H Y=>ae O call52 (bg (.of H T1)) ?_;rintro v h2 ⟨kp,⟨KY,Wa,Wb,b7,xG,T7⟩,w7,rfl,Uu⟩;replace H:=H.aA kp xG;refine an [1] H O λh H Y=>?_;rw[Hi]at T7 Uu jF;refine ab [1] H O ⟨H.kp,_,s,.of H T7,(jF.trans (Lt.dR (aq 16).dR)).le (by omega),_,nh,λhs=>⟨hs,?_⟩⟩;rw[ev];show((ar r).map (·.2))=((ar r).map λp=>(dM.mk 0 p.1 [],p.2)).map (·.2)/\dO ((ar r).map λp=>(dM.mk 0 p.1 [],p.2)) λt'=>t'=dM.mk 0 w7 []
   cases hg:ar r with
   |none=>exact⟨O,λt l e=>by cases e⟩
   |some p=>
    refine⟨O,λt l e=>?_⟩;injection e with e
    injection e with e1 e2
    rw[<-e1,Uu p.1 p.2 hg]
 .refine ah H O λh H Y=>af O (λL6=>?_) λL6=>?_
  .have hK:(wq o).k=17:=by have:=of_decide_eq_true L6;omega
   obtain⟨t,r,rfl,hk,hv,Hi⟩:=mS hK (by omega);refine an [2,1] H O λh H Y=>ab [1] H O ⟨H.kp,_,s,.of H T1,jF,_,nh,λhs=>⟨hs,?_⟩⟩;have e:(aU (n+1) fx d).on (some (t::r))=some (.mk 1 t.v [],r):=by
    show aU (n+1) fx d (t::r)=_
    simp[aU,hk]
   rw[e];exact⟨Hi,λt' l e=>by injection e with e;injection e with e1 e2;rw[<-e1,hv]⟩
  .refine ah H O λh H Y=>af O (λL7=>?_) λL7=>?_
   .have hK:(wq o).k=18:=by have:=of_decide_eq_true L7;omega
    obtain⟨t,r,rfl,hk,hv,Hi⟩:=mS hK (by omega);refine an [2,1] H O λh H Y=>ab [1] H O ⟨H.kp,_,s,.of H T1,jF,_,nh,λhs=>⟨hs,?_⟩⟩;have e:(aU (n+1) fx d).on (some (t::r))=some (.mk 2 t.v [],r):=by
     show aU (n+1) fx d (t::r)=_
     simp[aU,hk]
    rw[e];exact⟨Hi,λt' l e=>by injection e with e;injection e with e1 e2;rw[<-e1,hv]⟩
   .refine ah H O λh H Y=>af O (λOo=>?_) λOo=>?_
    .have hK:(wq o).k=19:=by have:=of_decide_eq_true Oo;omega
     obtain⟨t,r,rfl,hk,hv,Hi⟩:=mS hK (by omega);refine an [2,1] H O λh H Y=>ab [1] H O ⟨H.kp,_,s,.of H T1,jF,_,nh,λhs=>⟨hs,?_⟩⟩;have e:(aU (n+1) fx d).on (some (t::r))=some (.mk 3 t.v [],r):=by
      show aU (n+1) fx d (t::r)=_
      simp[aU,hk]
     rw[e];exact⟨Hi,λt' l e=>by injection e with e;injection e with e1 e2;rw[<-e1,hv]⟩
    .refine ah H O λh H Y=>af O (λVp=>?_) λVp=>?_
     .have hK:(wq o).k=20:=by have:=of_decide_eq_true Vp;omega
      obtain⟨t,r,rfl,hk,hv,Hi⟩:=mS hK (by omega);refine an [2,1] H O λh H Y=>ab [1] H O ⟨H.kp,_,s,.of H T1,jF,_,nh,λhs=>⟨hs,?_⟩⟩;have e:(aU (n+1) fx d).on (some (t::r))=some (.mk 4 t.v [],r):=by
       show aU (n+1) fx d (t::r)=_
       simp[aU,hk]
      rw[e];exact⟨Hi,λt' l e=>by injection e with e;injection e with e1 e2;rw[<-e1,hv]⟩
     .refine ah H O λh H Y=>af O (λL5=>?_) λL5=>?_
      .have hK:(wq o).k=16:=by have:=of_decide_eq_true L5;omega
       obtain⟨t,r,rfl,hk,hv,Hi⟩:=mS hK (by omega);refine an [2] H O λh H Y=>bG O call98 (tN _) <| an [2,1] H O λh H Y=>ab [1] H O ⟨H.kp,_,s,.of H T1,jF,_,nh,λhs=>⟨hs,?_⟩⟩;have e:(aU (n+1) fx d).on (some (t::r))=some (.mk (jx t.v) t.v [],r):=by
        show aU (n+1) fx d (t::r)=_
        simp[aU,hk]
       rw[e];exact⟨Hi,λt' l e=>by injection e with e;injection e with e1 e2;rw[<-e1,hv]⟩
      .refine ah H O λh H Y=>af O (λrl=>?_) λrl=>?_
       .have hK:(wq o).k=11:=by have:=of_decide_eq_true rl;omega
        obtain⟨t,r,rfl,hk,hv,Hi⟩:=mS hK (by omega);have Uc:n+1+d=1001:=hn.elim (λh=>by cases h) (λh=>h.2);refine ah H O λh H Y=>ae O call135 (Ka (n:=n) (fx:=fx) (λo s h hn S=>ih (d+1) o s h J1 hn (by omega) S) hd (.inr Uc) (.of H T1)) ?_;rintro v h2 ⟨kp,o',s',⟨K7,IH,FJ,b6,su,T6⟩,Y6,vs,Oz,Wd⟩;replace H:=H.aA kp su;rw[dM.fO]at Oz;subst Oz;refine an [1] H O λh H Y=>?_;refine ab [1] H O ⟨H.kp,o',s',.of H T6,(jF.trans Y6).le (by omega),.mk 8 [] (vs.map sy),by rw[dM.fO];exact λ_ _ _ h=>h,λhs=>?_⟩;obtain⟨q1,q2⟩:=Wd hs;rw[M4 hk];rw[Hi]at q2;exact⟨q1,A5 (f:=λp=> .mk 8 [] (p.map sy)) q2⟩
       .refine ah H O λh H Y=>af O (λJs=>?_) λJs=>?_
        .have hK:(wq o).k=13:=by have:=of_decide_eq_true Js;omega
         obtain⟨t,r,rfl,hk,hv,Hi⟩:=mS hK (by omega);have Uc:n+1+d=1001:=hn.elim (λh=>by cases h) (λh=>h.2);refine ah H O λh H Y=>ae O call136 (EL (n:=n) (fx:=fx) (λo s h hn S=>ih (d+1) o s h J1 hn (by omega) S) hd (.inr Uc) (.of H T1)) ?_;rintro v h2 ⟨kp,o',s',⟨K7,IH,FJ,b6,su,T6⟩,Y6,vs,Oz,Wd⟩;replace H:=H.aA kp su;rw[dM.fO]at Oz;subst Oz;refine an [1] H O λh H Y=>?_;refine ab [1] H O ⟨H.kp,o',s',.of H T6,(jF.trans Y6).le (by omega),.mk 9 [] vs,by rw[dM.fO];exact λ_ _ _ h=>h,λhs=>?_⟩;obtain⟨q1,q2⟩:=Wd hs;rw[PN hk];rw[Hi]at q2;exact⟨q1,A5 (f:=λp=> .mk 9 [] p) q2⟩
        .refine an [0,1] H O λh H Y=>?_;have b3:=of_decide_eq_false Y4;have b16:=of_decide_eq_false L6;have X7:=of_decide_eq_false L7;have b18:=of_decide_eq_false Oo;have b19:=of_decide_eq_false Vp;have b15:=of_decide_eq_false L5;have X0:=of_decide_eq_false rl;have b12:=of_decide_eq_false Js;have e:=PO (n:=n) (d:=d) (fx:=fx) (o:=o) ⟨by omega,by omega,by omega,by omega,by omega,by omega,by omega,by omega⟩;exact ab [1] H O ⟨H.kp,none,s,.of H O,.none,_,nh,λhs=>⟨hs,by rw[e];exact⟨O,λt l e=>by cases e⟩⟩⟩
end
end
end
section
variable {P:Program} {lt:LT} {g:Gh} {w:World} {h:AH} {base:Nat} {lb:Nat->Option Nat} {fr:ay} {a:Act}
theorem IK {w w8:World} {A:Array Value} {e:TypeId} {B:List Value} (hw:w8.heap=w.heap.push (.cells A e (0,0))):(w8.setRow w.heap.size B.toArray).heap=w.heap.push (.cells B.toArray e (0,0)):=by
 have h8:w8.heap[w.heap.size]? =some (.cells A e (0,0)):=by rw[hw];simp
 have p:=iV h8 (us:=B.toArray)
 apply Array.ext_getElem?;intro k
 by_cases hk:k=w.heap.size
 .subst hk;rw[p.at_];simp
 .rw[p.other k hk,hw,Array.getElem?_push,Array.getElem?_push,if_neg hk,if_neg hk]
theorem yn {us zs ns r:List Value} (hl:zs.length=ns.length):(us++zs++r).take us.length++ns++(us++zs++r).drop (us.length+ns.length)=us++ns++r:=by
 congr 1
 .rw[List.append_assoc,List.take_left'];rfl
 .rw[<-hl,<-List.length_append,List.drop_left]
structure SV (P:Program) (g:Gh) (w:World) (h':AH) (aw v sz n:Nat) (els:List (List AV)) (ns:List Value) (run:Result Value):Prop where
 ex:∃b bo cap c Tc w' g',run= .ok (.slice (some ⟨b,bo,none⟩) (n+1) cap) w'/\w'.heap[b]? =some (.cells c Tc (0,0))/\bo+n*sz+sz<=c.size/\
  Ev g w g' (w'.setRow b (c.toList.take (bo+n*sz)++ns++c.toList.drop (bo+n*sz+ns.length)).toArray)/\
  Rel g' (w'.setRow b (c.toList.take (bo+n*sz)++ns++c.toList.drop (bo+n*sz+ns.length)).toArray) h'/\
  VR g' (w'.setRow b (c.toList.take (bo+n*sz)++ns++c.toList.drop (bo+n*sz+ns.length)).toArray) (.vec (.own aw v) sz els) (.slice (some ⟨b,bo,none⟩) (n+1) cap)
theorem EN {t t' ty e:TypeId} {i:TypeInfo} {z:Value} {sz:Nat} (T:OT P t t' e i z sz) (R:Rel g w h) {xs:AV} {vs:Value} {es:List (List AV)} {y:List AV} {aw v:Nat} {h':AH} {wF:Addr} {fB:Nat} (rs:VR g w xs vs)
 (hs:zA h sz xs es aw v h') {zs ns:List Value} (kJ:zs.length=sz) (iC:∀j u,zs[j]? =some u->w.cell? (wF.add j)=some u) (Gd:∀u∈zs,u.oneCell'=true) (Pn:ns.length=sz) (Ah:∀u∈ns,u.oneCell'=true)
 (hy:y.length=sz) (hyv:∀j (hj:j <y.length),VR g w y[j] (ns.getD j undef)) (hb:(es.length+1)*(i.bytes+1)<=140737488355328):
 SV P g w h' aw v sz es.length (es++[y]) ns ((Builtin.append_ #[t,t'] ty #[vs,.slice (some wF) 1 fB]).run P w):=by
 have UU:=T.hs
 subst UU;rw[Nat.mul_succ]at hb;have BF:∀i (hi:i < [y].length),[y][i].length=sz:=λi hi=>by
  have:i=0:=by simpa using hi
  subst this;exact hy
 have RA:∀i j (hi:i < [y].length) (hj:j < [y][i].length),VR g w [y][i][j] (ns.getD (i*sz+j) undef):=λi j hi hj=>by
  have:i=0:=by simpa using hi
  subst this;rw[Nat.zero_mul,Nat.zero_add];exact hyv j hj
 have Lw:ns.length=[y].length*sz:=by simp[Pn]
 have SW:zs.length=1*sz:=by simp[kJ]
 have grow:∀(b:Addr) (cap:Nat) (us:List Value),vs= .slice (some b) es.length cap->cap <es.length+1->us.length=es.length*sz->(∀k u,us[k]? =some u->w.cell? (b.add k)=some u/\u.oneCell'=true/\(b.add k).off <g.ext (b.add k).block)->
  (∀i (hi:i <es.length),es[i].length=sz)->(∀i j (hi:i <es.length) (hj:j <es[i].length),VR g w es[i][j] (us.getD (i*sz+j) undef))->
  ∀nl,((aw=g.nl/\v=0/\nl=g.nl+1/\h'=h.cu)\/(aw <g.nl/\v=g.cur aw+1/\nl=g.nl/\h'=h.bump aw))->
  SV P g w h' aw v sz es.length (es++[y]) ns ((Builtin.append_ #[t',t'] ty #[vs,.slice (some wF) 1 fB]).run P w):=by
  intro b cap us nC dY QN Ol XD XE nl hc;subst nC;have hr:=run_append_grow (P:=P) w t' ty e i z T.ht T.hi T.hz b es.length cap us (by rw[T.gJ];exact QN) (λj u hj=>(Ol j u hj).1) wF 1 fB zs (by rw[T.gJ];exact SW) iC dY (by omega) (growslice_fits dY (by omega));have fH:=grownCap_ge w (es.length+1) cap e;have hle:=grownCap_le_maxLen w (es.length+1) cap e (by simp only[maxLen];omega);simp only[maxLen]at hle;generalize hZ:Builtin.zeroCells z.cells (grownCap w (es.length+1) cap e -(es.length+1))=Z at*;have Y7:Z.toList.length=(grownCap w (es.length+1) cap e -(es.length+1))*sz:=by rw[<-hZ];exact kj T.Ge
  have hA:us.toArray++zs.toArray++Z=(us++zs++Z.toList).toArray:=by apply Array.ext';simp
  rw[hA]at hr;have Uv:(w.drew.alloc (.cells (us++zs++Z.toList).toArray e)).heap=w.heap.push (.cells (us++zs++Z.toList).toArray e (0,0)):=rfl;obtain⟨g',E,R',V⟩:=qG (w':=(w.drew.alloc (.cells (us++zs++Z.toList).toArray e)).setRow w.heap.size (us++ns++Z.toList).toArray) R hc (T:=e) (cap:=grownCap w (es.length+1) cap e) (es:=es) (ys:=[y]) (us:=us) (ns:=ns)
   (zs:=Z.toList) T.h0 (IK Uv) O O O XD BF QN Lw fH (by omega) Y7
   (λu hu=>by obtain⟨k,hk,rfl⟩:=List.getElem_of_mem hu;exact(Ol k _ (List.getElem?_eq_getElem hk)).2.1) Ah XE RA
  have hm:(us++zs++Z.toList).take (0+es.length*sz)++ns++(us++zs++Z.toList).drop (0+es.length*sz+ns.length)=us++ns++Z.toList:=by rw[Nat.zero_add,<-QN];exact yn (by omega)
  refine⟨w.heap.size,0,_,(us++zs++Z.toList).toArray,e,_,g',hr,by rw[Uv];simp,?_,?_,?_,?_⟩
  .simp only[List.size_toArray,List.length_append];omega
  .rw[List.toList_toArray,hm];exact E
  .rw[List.toList_toArray,hm];exact R'
  .rw[List.toList_toArray,hm];exact V
 rcases hs with⟨rfl,rfl,rfl,rfl,rfl⟩|⟨rfl,rfl,rfl,rfl⟩|⟨fk,BG,RD,rfl,rfl⟩
 .cases rs;have hr:=run_append_nil (P:=P) w t' ty e i z T.ht T.hi T.hz wF 1 fB zs (by rw[T.gJ];exact SW) iC (by omega) (by omega) (by simp at hb;omega);have fH:=grownCap_ge w 1 0 e;have hle:=grownCap_le_maxLen w 1 0 e (by simp only[maxLen];simp at hb;omega);simp only[maxLen]at hle;generalize hZ:Builtin.zeroCells z.cells (grownCap w 1 0 e -1)=Z at*;have Y7:Z.toList.length=(grownCap w 1 0 e -1)*sz:=by rw[<-hZ];exact kj T.Ge
  have hA:zs.toArray++Z=([]++zs++Z.toList).toArray:=by apply Array.ext';simp
  rw[hA]at hr;have Uv:(w.drew.alloc (.cells ([]++zs++Z.toList).toArray e)).heap=w.heap.push (.cells ([]++zs++Z.toList).toArray e (0,0)):=rfl;obtain⟨g',E,R',V⟩:=qG (w':=(w.drew.alloc (.cells ([]++zs++Z.toList).toArray e)).setRow w.heap.size ([]++ns++Z.toList).toArray) R (h':=h.cu) (aw:=h.nt) (v:=0) (.inl ⟨R.nt.symm,O,O,O⟩) (T:=e) (cap:=grownCap w 1 0 e) (es:=[]) (ys:=[y]) (us:=[]) (ns:=ns) (zs:=Z.toList) T.h0 (IK Uv) O O O (λi hi=>by simp at hi) BF (by simp) Lw (by simpa using fH) (by omega) (by simpa using Y7) (by simp) Ah (λi j hi=>by simp at hi) RA
  have hm:(([]:List Value)++zs++Z.toList).take (0+0*sz)++ns++(([]:List Value)++zs++Z.toList).drop (0+0*sz+ns.length)=[]++ns++Z.toList:=by
   have:=yn (us:=[]) (zs:=zs) (ns:=ns) (r:=Z.toList) (by omega)
   simpa using this
  refine⟨w.heap.size,0,_,([]++zs++Z.toList).toArray,e,_,g',hr,by rw[Uv];simp,?_,?_,?_,?_⟩
  .simp only[List.size_toArray,List.length_append,List.length_nil];omega
  .rw[List.toList_toArray];simp only[List.length_nil];rw[hm];exact E
  .rw[List.toList_toArray];simp only[List.length_nil];rw[hm];exact R'
  .rw[List.toList_toArray];simp only[List.length_nil];rw[hm];simpa using V
 .have RE:=rs
  cases RE with|vec _ _ _ b cap qC _ _ _ _ _ _ _ ht=>obtain⟨_,_,_,_,h1,us,h2,h3,h4⟩:=nD rs T.h0;simp only[uA]at ht;exact grow b cap us O (by omega) h2 h3 h1 h4 (g.nl+1) (.inl ⟨R.nt.symm,O,O,O⟩)
 ·
  have key:∀tk,(tk= .own aw fk\/tk= .Ld aw fk)->xs= .vec tk sz es->SV P g w (h.bump aw) aw (fk+1) sz es.length (es++[y]) ns ((Builtin.append_ #[t',t'] ty #[vs,.slice (some wF) 1 fB]).run P w):=by
   intro tk KO BG;subst BG;have RE:=rs
   cases RE with
   |vec _ _ _ b cap qC _ _ _ _ _ hn Dz ht=>
    obtain⟨_,_,_,_,h1,us,h2,h3,h4⟩:=nD rs T.h0;obtain⟨ri,XF,Lx⟩:aw <g.nl/\fk<=g.cur aw/\(g.cur aw=fk->es.length <cap->vX g w aw b es.length cap sz):=by
     rcases KO with rfl|rfl
     .exact⟨ht.1,ht.2.1,ht.2.2.1⟩
     .exact ht
    have BH:g.cur aw=fk:=by rw[R.cur aw (by rw[<-R.nt];exact ri)];exact RD
    by_cases gf:es.length+1<=cap
    .obtain⟨f1,f2,f3,c,Tc,f4,f5⟩:=Lx BH (by omega);obtain⟨bb,bo,bs⟩:=b;simp only at f1 f2 f3 f4 f5;subst f1;have xn:bo+es.length*sz+sz<=c.size:=by
      have:(es.length+1)*sz<=cap*sz:=Nat.mul_le_mul_right _ gf
      rw[Nat.add_mul,Nat.one_mul]at this;omega
     have iw:=run_storeCells_at (P:=P) bb (bo+es.length*sz) Tc zs 0 c w f4 (by omega) Gd;simp only[Nat.add_zero]at iw;have hf:=run_firstCells_some (P:=P) w i.size 1 wF 1 fB zs (by rw[T.gJ];exact SW) iC;generalize zp:(c.toList.take (bo+es.length*sz)++zs++c.toList.drop (bo+es.length*sz+zs.length)).toArray=c1 at iw;have Pk:c1.toList.take (bo+es.length*sz)++ns++c1.toList.drop (bo+es.length*sz+ns.length)=c.toList.take (bo+es.length*sz)++ns++c.toList.drop (bo+es.length*sz+ns.length):=by
      have hm:(c.toList.take (bo+es.length*sz)).length=bo+es.length*sz:=by simp;omega
      have:=yn (us:=c.toList.take (bo+es.length*sz)) (zs:=zs) (ns:=ns) (r:=c.toList.drop (bo+es.length*sz+zs.length)) (by omega)
      rw[hm]at this;rw[<-zp,List.toList_toArray,this,kJ,Pn]
     have aay:c1.size=c.size:=by rw[<-zp];simp;omega
     generalize Kb:(c.toList.take (bo+es.length*sz)++ns++c.toList.drop (bo+es.length*sz+ns.length)).toArray=c';have RF:c'.size=c.size:=by rw[<-Kb];simp;omega
     have Ly:∀k,k <bo+es.length*sz->c'[k]? =c[k]? :=λk hk=>by rw[<-Kb];simp only[List.getElem?_toArray];rw[List.append_assoc,List.getElem?_append_left (by simp;omega),List.getElem?_take,if_pos hk,Array.getElem?_toList]
     have RG:∀k (hk:k <ns.length),c'[bo+es.length*sz+k]? =some ns[k]:=λk hk=>by
      rw[<-Kb];simp only[List.getElem?_toArray];have hm:min (bo+es.length*sz) c.size=bo+es.length*sz:=by omega
      rw[List.append_assoc,List.getElem?_append_right (by simp;omega),List.getElem?_append_left (by simp;omega)];simp[hm]
     obtain⟨E,R'⟩:=Dy R ri f2 f4 (iV f4 (us:=c')) RF (n:=bo+(es.length+1)*sz) (by rw[f3];have:=Nat.mul_le_mul_right sz (show es.length<=es.length+1 by omega);omega) (by rw[Nat.add_mul,Nat.one_mul];omega) (λk hk=>Ly k (by omega)) ⟨bb,bo,none⟩;refine⟨bb,bo,cap,c1,Tc,w.setRow bb c1,g.more aw bb (bo+(es.length+1)*sz) ⟨bb,bo,none⟩,?_,setRow_heap w bb c c1 Tc (0,0) f4,by omega,?_⟩
     .simp only[T.gJ]at hf;simp[Builtin.append_,run_underlying T.ht,sizeOf,typeInfo,T.hi,T.gJ,Builtin.lenOf,gf,hf,cL,iw]
     .rw[Pk,Kb,setRow_setRow];refine⟨E,R',?_⟩;have hL:(es++[y]).length=es.length+1:=by simp
      have gJ:∀i (hi:i <(es++[y]).length),(es++[y])[i].length=sz:=by
       intro i hi
       by_cases uu:i <es.length
       .rw[List.getElem_append_left uu];exact h1 i uu
       .rw[List.getElem_append_right (by omega)];exact BF _ _
      have pM:∀k (hk:k <(us++ns).length),(w.setRow bb c').cell? ((⟨bb,bo,none⟩:Addr).add k)=some (us++ns)[k]:=by
       intro k hk;rw[cL];simp only[World.cell?,setRow_heap w bb c c' Tc (0,0) f4,Option.isSome_none,Bool.false_eq_true,if_false]
       by_cases h6:k <us.length
       .have h7:=(h3 k us[k] (List.getElem?_eq_getElem h6)).1
        rw[cL]at h7;simp only[World.cell?,f4,Option.isSome_none,Bool.false_eq_true,if_false]at h7;rw[Ly _ (by omega),h7,List.getElem_append_left h6]
       .have h7:k -us.length <ns.length:=by simp at hk;omega
        have h8:=RG _ h7
        rw[show bo+k=bo+es.length*sz+(k -us.length) by omega,h8,List.getElem_append_right (by omega)]
      have hlen:(us++ns).length=(es.length+1)*sz:=by rw[List.length_append,h2,Pn,Nat.add_mul,Nat.one_mul]
      have ax:∀i j,i <(es++[y]).length->j <sz->i*sz+j <(us++ns).length:=λi j hi hj=>by rw[hlen];exact pN (by simpa using hi) hj
      have V:VR (g.more aw bb (bo+(es.length+1)*sz) ⟨bb,bo,none⟩) (w.setRow bb c') (.vec (.own aw (fk+1)) sz (es++[y])) (.slice (some ⟨bb,bo,none⟩) (es++[y]).length cap):=?_
      .rw[hL]at V;exact V
      refine .vec _ sz _ _ cap (λi j=>(us++ns).getD (i*sz+j) undef) gJ (λi j hi hj=>?_) (λi j hi hj=>?_) (λi j hi hj=>?_) (λi j hi hj=>?_) (by simpa using gf) Dz ?_ (λ_=>⟨c',Tc,setRow_heap w bb c c' Tc (0,0) f4⟩)
      .rw[pM _ (ax i j hi hj),List.getD_eq_getElem?_getD,List.getElem?_eq_getElem (ax i j hi hj)];rfl
      .have rF:j <sz:=by rw[gJ i hi]at hj;exact hj
       refine VR.mono E.toEvc ?_
       by_cases uu:i <es.length
       .have h5:i*sz+j <us.length:=by rw[h2];exact pN uu rF
        have e1:(us++ns).getD (i*sz+j) undef=us.getD (i*sz+j) undef:=by rw[List.getD_eq_getElem?_getD,List.getElem?_append_left h5,List.getD_eq_getElem?_getD]
        have:=h4 i j uu (by rw[h1 i uu];exact rF)
        rw[e1];simpa[List.getElem_append_left uu]using this
       .have UW:i -es.length < [y].length:=by simp at hi;simp;omega
        have h4':es.length*sz<=i*sz:=Nat.mul_le_mul_right _ (by omega)
        have e1:(us++ns).getD (i*sz+j) undef=ns.getD ((i -es.length)*sz+j) undef:=by
         rw[List.getD_eq_getElem?_getD,List.getElem?_append_right (by omega),List.getD_eq_getElem?_getD,h2,Nat.sub_mul]
         congr 2;omega
        have:=RA (i -es.length) j UW (by rw[BF _ UW];exact rF)
        rw[e1];simpa[List.getElem_append_right (show es.length<=i by omega)]using this
      .rw[List.getD_eq_getElem?_getD,List.getElem?_eq_getElem (ax i j hi hj)];have hm:(us++ns)[i*sz+j]'(ax i j hi hj)∈us++ns:=List.getElem_mem _;rcases List.mem_append.1 hm with h5|h5
       .obtain⟨k,hk,jh⟩:=List.getElem_of_mem h5;have:=(h3 k _ (List.getElem?_eq_getElem hk)).2.1;rw[jh]at this;exact this
       .exact Ah _ h5
      .rw[cL];simp only[Gh.more,if_true];have:=ax i j hi hj;omega
      .refine⟨ri,by simp[Gh.more,BH],λ_ _=>⟨O,f2,by simp[Gh.more],c',Tc,setRow_heap w bb c c' Tc (0,0) f4,by simp only;omega⟩,by simp[Gh.more,BH],?_⟩;show g.bl bb=some aw;rw[f2];exact R.Dh aw ri
    .exact grow b cap us O (by omega) h2 h3 h1 h4 g.nl (.inr ⟨ri,by rw[BH],O,O⟩)
  rcases BG with BG|BG
  .exact key _ (.inl O) BG
  .exact key _ (.inr O) BG
theorem EO (w:World) {b c:Nat} (cv:b≠c) (x y:Array Value):(w.setRow b x).setRow c y=(w.setRow c y).setRow b x:=by
 unfold World.setRow
 congr 1
 apply Array.ext_getElem?;intro k;simp only[Array.getElem?_modify]
 by_cases h1:b=k
 .by_cases h2:c=k
  .omega
  .simp[h1,h2]
 .by_cases h2:c=k
  .simp[h1,h2]
  .simp[h1,h2]
end
section
variable {P:Program} {pre tail:List Oper} {Q:Exit->Act->World->Prop} {TL:Act->World->Prop}
def SX (m:Nat) (o:Oper):Bool:=match o.guard with
 |none=>true
 |some (j,_)=>Nat.blt j m
def SY (m:Nat) (pre:List Oper) (o:Oper):Bool:=(List.range m).all λi=>(nG o).contains i||pre.zipIdx.any λp=>Nat.blt i p.2&&(nG p.1).contains i
def IL (pre tail:List Oper):Bool:=
 pre.zipIdx.all (λp=>SX pre.length p.1&&(nG p.1).all λq=>Nat.blt q p.2)&&
 match tail with
 |[]=>false
 |o::r=>SY pre.length pre o&&r.all λo=>(nG o).any λq=>Nat.ble pre.length q
def SZ (Q:Exit->Act->World->Prop) (TL:Act->World->Prop):Exit->Act->World->Prop
 | .normal,a,w=>TL a w
 |e,a,w=>Q e a w
theorem PQ {o:Oper} {a:Act} {w:World} {K:Act->World->Prop}:o.wp P a w K (SZ Q TL)=o.wp P a w K Q:=by
 unfold Oper.wp;generalize(execOp a.eval o).run P w=r
 cases r with|ok n w'=>cases n<;>rfl|halt x w'=>cases x<;>rfl
theorem Hj {ops:Array Oper}:∀(k n:Nat) (l:Array Bool) (a:Act) (w:World),wpAny P .any ops Q n l a w->wpAny P .any ops Q (n+k) l a w:=by
 have one:∀(n:Nat) (l:Array Bool) (a:Act) (w:World),wpAny P .any ops Q n l a w->wpAny P .any ops Q (n+1) l a w:=by
  intro n
  induction n with|zero=>rintro l a w ⟨h1,h2⟩;exact⟨λ_=>h2,λi hi=>by rw[h1]at hi;cases hi⟩|succ n ih=>rintro l a w ⟨h1,h2⟩;exact⟨h1,λi hi=>wpOp_mono (λa w=>ih _ a w) (h2 i hi)⟩
 intro k
 induction k with|zero=>intro n l a w h;exact h|succ k ih=>intro n l a w h;exact one _ _ _ _ (ih n l a w h)
theorem yp {lp:Array Bool} {n:Nat} (i:Nat):(lp++Array.replicate n false).getD i false=lp.getD i false:=by
 simp only[Array.getD_eq_getD_getElem?,Array.getElem?_append,Array.getElem?_replicate]
 by_cases h:i <lp.size
 .rw[if_pos h]
 .rw[if_neg h,Array.getElem?_eq_none (by omega)];split<;>rfl
theorem PS {lp:Array Bool} {n i:Nat} (h:i <lp.size):(lp++Array.replicate n false).setIfInBounds i true=lp.setIfInBounds i true++Array.replicate n false:=by
 apply Array.ext_getElem?;intro k;simp only[Array.getElem?_setIfInBounds,Array.getElem?_append,Array.size_setIfInBounds,Array.size_append,Array.size_replicate]
 by_cases h1:i=k
 .subst h1;rw[if_pos O,if_pos (by omega),if_pos h,if_pos O,if_pos h]
 .rw[if_neg h1,if_neg h1]
theorem mem_zipIdx' {α:Type} {l:List α} {i:Nat} {a:α} (h:l[i]? =some a):(a,i)∈l.zipIdx:=by rw[List.mem_zipIdx_iff_getElem?];exact h
theorem Kc (ok:IL pre tail=true) {k:Nat} (hT:∀a w,TL a w->wpAny P .any (pre++tail).toArray Q k (Array.replicate pre.length true++Array.replicate tail.length false) a w):
 ∀(fuel:Nat) (lp:Array Bool) (a:Act) (w:World),lp.size=pre.length->mZ pre (λi=>lp.getD i false)->wpAny P .any pre.toArray (SZ Q TL) fuel lp a w->wpAny P .any (pre++tail).toArray Q (fuel+k) (lp++Array.replicate tail.length false) a w:=by
 simp only[IL,Bool.and_eq_true]at ok;obtain⟨U4,On⟩:=ok;have pOK:∀i o,pre[i]? =some o->SX pre.length o=true/\∀p∈nG o,p <i:=λi o h=>by
  have:=List.all_eq_true.1 U4 _ (mem_zipIdx' h)
  simp only[Bool.and_eq_true]at this;exact⟨this.1,λp hp=>by have:=List.all_eq_true.1 this.2 p hp;rwa [Nat.blt_eq]at this⟩
 have least:∀(lp:Array Bool),lp.size=pre.length->Region.ready .any pre.toArray lp=[]->lp=Array.replicate pre.length true:=by
  intro lp gJ hr;have all:∀i,i <pre.length->lp.getD i false=true:=by
   intro i
   induction i using Nat.strongRecOn with
   |_ i ih=>
    intro hi
    cases LH:lp.getD i false with
    |true=>rfl
    |false=>
     exfalso;have:i∈Region.ready .any pre.toArray lp:=by
      rw[mem_ready];refine⟨?_,pre[i],by simp[hi],λe he hb=>?_⟩
      .rw[Array.getD_eq_getD_getElem?]at LH|-;rw[Array.getElem?_eq_getElem (by omega)]at LH|-;exact LH
      .have hp:e.on∈nG pre[i]:=List.mem_map.2 ⟨e,List.mem_filter.2 ⟨Array.mem_toList_iff.2 he,hb⟩,O⟩
       have ax:=(pOK i pre[i] (List.getElem?_eq_getElem hi)).2 _ hp
       exact ih e.on ax (by omega)
     rw[hr]at this
     cases this
  apply Array.ext
  .simp[gJ]
  .intro i h1 h2;have:=all i (by omega);rw[Array.getD_eq_getD_getElem?,Array.getElem?_eq_getElem h1]at this;simpa using this
 intro fuel
 induction fuel with
 |zero=>intro lp a w gJ hC ⟨h1,h2⟩;rw[least lp gJ h1];rw[Nat.zero_add];exact hT a w h2
 |succ fuel ih=>
  intro lp a w gJ hC ⟨h1,h2⟩
  cases hr:Region.ready .any pre.toArray lp with
  |nil=>rw[least lp gJ hr,Nat.add_comm];exact Hj _ _ _ _ _ (hT a w (h1 hr))
  |cons q r=>
   have hq:q∈Region.ready .any pre.toArray lp:=by rw[hr];simp
   have lift:∀j,j∈Region.ready .any pre.toArray lp->j∈Region.ready .any (pre++tail).toArray (lp++Array.replicate tail.length false):=by
    intro j hj;rw[mem_ready]at hj|-;obtain⟨g1,o,g2,g3⟩:=hj;have rF:j <pre.length:=by have:=(Array.getElem?_eq_some_iff.1 g2).1;simpa using this
    refine⟨?_,o,?_,λe he hb=>by rw[yp];exact g3 e he hb⟩
    .rw[Array.getD_eq_getD_getElem?,Array.getElem?_append_left (by omega),<-Array.getD_eq_getD_getElem?];exact g1
    .rw[List.getElem?_toArray,List.getElem?_append_left rF];simpa using g2
   have only:∀j,j∈Region.ready .any (pre++tail).toArray (lp++Array.replicate tail.length false)->j∈Region.ready .any pre.toArray lp:=by
    intro j hj;rw[mem_ready]at hj;obtain⟨g1,o,g2,g3⟩:=hj;have Rb:(pre++tail)[j]? =some o:=by simpa using g2
    have g3':∀p∈nG o,lp.getD p false=true:=λp hp=>by
     obtain⟨e,he,rfl⟩:=List.mem_map.1 hp;obtain⟨KP,Ii⟩:=List.mem_filter.1 he;have:=g3 e (Array.mem_toList_iff.1 KP) Ii
     rwa [yp]at this
    by_cases rF:j <pre.length
    .rw[mem_ready];refine⟨?_,o,?_,λe he hb=>by have:=g3 e he hb;rwa [yp]at this⟩
     .rw[Array.getD_eq_getD_getElem?,Array.getElem?_append_left (by omega),<-Array.getD_eq_getD_getElem?]at g1;exact g1
     .rw[List.getElem?_append_left rF]at Rb;simpa using Rb
    .exfalso;rw[List.getElem?_append_right (by omega)]at Rb
     cases tail with
     |nil=>simp at Rb
     |cons t0 tr=>
      simp only[Bool.and_eq_true]at On;obtain⟨hh,ht⟩:=On
      cases hd:j -pre.length with
      |succ n=>
       rw[hd]at Rb;have hm:o∈tr:=List.mem_of_getElem? (by simpa using Rb);have:=List.all_eq_true.1 ht o hm;obtain⟨p,hp,hle⟩:=List.any_eq_true.1 this;have hle:=Nat.le_of_ble_eq_true hle;have:=g3' p hp;rw[Array.getD_eq_getD_getElem?,Array.getElem?_eq_none (by omega)]at this
       cases this
      |zero=>
       rw[hd]at Rb;have e0:t0=o:=by simpa using Rb
       subst e0;have all:∀n i,pre.length -i<=n->i <pre.length->lp.getD i false=true:=by
        intro n
        induction n with
        |zero=>intro i h1 h2;omega
        |succ n ihn=>
         intro i h1 h2;have:=List.all_eq_true.1 hh i (List.mem_range.2 h2);simp only[Bool.or_eq_true]at this;rcases this with h|h
         .exact g3' i (by simpa using h)
         .obtain⟨⟨o',q'⟩,hm,hx⟩:=List.any_eq_true.1 h;simp only[Bool.and_eq_true]at hx;obtain⟨x1,x2⟩:=hx;rw[Nat.blt_eq]at x1;have Oj:=List.mem_zipIdx_iff_getElem?.1 hm;have u7:q' <pre.length:=(List.getElem?_eq_some_iff.1 Oj).1;exact hC q' o' Oj (ihn q' (by omega) u7) i (by simpa using x2)
       rw[mem_ready]at hq;obtain⟨y1,o',y2,_⟩:=hq;have u7:q <pre.length:=by have:=(Array.getElem?_eq_some_iff.1 y2).1;simpa using this
       have:=all _ q (Nat.le_refl _) u7;rw[Array.getD_eq_getD_getElem?,Array.getElem?_eq_getElem (by omega)]at this y1;simp only[Option.getD_some]at this y1;rw[this]at y1
       cases y1
   rw[show fuel+1+k=fuel+k+1 by omega];refine⟨λhe=>?_,λj hj=>?_⟩
   .have:=lift q hq
    rw[he]at this
    cases this
   .have QO:=only j hj
    have hw:=h2 j QO
    rw[mem_ready]at QO;obtain⟨y1,o,y2,y3⟩:=QO;have Xk:pre[j]? =some o:=by simpa using y2
    have rF:j <pre.length:=(List.getElem?_eq_some_iff.1 Xk).1;have y4:(pre++tail).toArray[j]? =some o:=by rw[List.getElem?_toArray,List.getElem?_append_left rF];exact Xk
    have XJ:mZ pre (λi=>(lp.setIfInBounds j true).getD i false):=by
     intro q o' hq hl p QS;show(lp.setIfInBounds j true).getD p false=true;have same:∀x,x≠j->(lp.setIfInBounds j true).getD x false=lp.getD x false:=λx hx=>getD_set_ne false (Ne.symm hx)
     have Y8:(lp.setIfInBounds j true).getD j false=true:=by simp[Array.getD_eq_getD_getElem?,Array.getElem?_setIfInBounds,show j <lp.size by omega]
     by_cases hpj:p=j
     .subst hpj;exact Y8
     .rw[same p hpj]
      by_cases QT:q=j
      .subst QT;rw[Xk]at hq;injection hq with hq
       subst hq;obtain⟨e,he,rfl⟩:=List.mem_map.1 QS;obtain⟨KP,Ii⟩:=List.mem_filter.1 he;exact y3 e (Array.mem_toList_iff.1 KP) Ii
      .have hl:(lp.setIfInBounds j true).getD q false=true:=hl
       rw[same q QT]at hl;exact hC q o' hq hl p QS
    have We:Region.wanted o (yielded (pre++tail).toArray a.tmps)=Region.wanted o (yielded pre.toArray a.tmps):=by
     have hg:=(pOK j o Xk).1
     unfold Region.wanted;unfold SX at hg
     cases hgd:o.guard with|none=>rfl|some p=>obtain⟨i,want⟩:=p;rw[hgd]at hg;simp only[Nat.blt_eq]at hg;simp only[yielded,List.getElem?_toArray,List.getElem?_append_left hg]
    unfold wpOp at hw|-;simp only[y2,y4]at hw|-;rw[We];rw[PS (by omega)];have cont:∀a w,wpAny P .any pre.toArray (SZ Q TL) fuel (lp.setIfInBounds j true) a w->wpAny P .any (pre++tail).toArray Q (fuel+k) (lp.setIfInBounds j true++Array.replicate tail.length false) a w:=λa w h=>ih _ a w (by simpa using gJ) XJ h
    split
    .rename_i nv;rw[if_pos nv,PQ]at hw;exact hw.imp (Oper.wp_mono cont) id
    .rename_i nv;rw[if_neg nv]at hw;exact cont _ _ hw
end
end Go.Am
