import Derived.Test.YtmbeaohkcogohaaGreatDoorS1
set_option maxRecDepth 100000
set_option maxHeartbeats 4000000
set_option linter.unusedVariables false
set_option linter.unusedSimpArgs false
namespace Go.Am
open Go.Proofs Go.Proofs.Tryz
def kindOf (fr:ay) (op:Op):Nat:=
 match op with
 | .alloc _| .box _ _| .store _ _ _| .makeMap _ _| .mapUpdate _ _ _ _| .insert _ _ _ _=>2
 | .load _ x=>match fr.ev x with| .v (.ref _ _)=>0| .lp _ _=>0|_=>1
 | .lookup _ _ _ _=>1
 | .call c=>match c.args.toList with
  |[x]=>match fr.ev x with| .v (.vec _ _ _)=>0| .v (.sl _ _ _ _ _)=>0| .v (.str _)=>0| .v .ao=>0| .v .ph=>0|_=>1
  |_=>0
 |_=>0
section
variable {P:Program} {lt:LT} {h h':AH} {fr aB:ay} {ops l:List Oper} {o:Oper}
theorem xB {op:Op} {s:Slot} (hk:kindOf fr op=0) (hx:fi P fr h op=some s):∀h2,fi P fr h2 op=some s:=by
 intro h2
 cases op<;>simp only[fi]at hx|-<;>try exact hx
 case load t x=>
  simp only[kindOf]at hk;split at hk
  .rename_i id cs e;simp only[rG,e]at hx|-;exact hx
  .rename_i d off e;simp only[rG,e]at hx|-;exact hx
  .cases hk
 case lookup=>simp[kindOf]at hk
 case call c=>
  simp only[kindOf]at hk;unfold DB at hx|-;split at hx
  .rename_i U9;split at hx
   case h_2=>cases hx
   rename_i x t h1 Ue;rw[h1]at hk;simp only at hk;unfold BA at hx|-;split at hx
   case h_2=>cases hx
   rename_i y e;simp only[e]at hk|-
   cases y<;>simp at hk<;>(simp only[AV.len,AV.pn]at hx|-;exact hx)
  .rename_i U9;split at hx
   case h_2=>cases hx
   exact hx
  .rename_i U9;split at hx
   case h_2=>cases hx
   exact hx
  .cases hx
theorem xC {dst:Option Tmp} {op:Op} {s:Slot} (hk:kindOf fr op=0) (hx:gL P lt fr h dst op=some (s,h')):∀h2,gL P lt fr h2 dst op=some (s,h2):=by
 intro h2;have hp:iz P fr h op=some (s,h')->iz P fr h2 op=some (s,h2):=by intro hx;obtain⟨h1,rfl⟩:=lh hx;simp only[iz,xB hk h1 h2]
 cases op<;>simp only[gL]at hx|-<;>try exact hp hx
 case alloc=>simp[kindOf]at hk
 case box=>simp[kindOf]at hk
 case store=>simp[kindOf]at hk
 case mapUpdate=>simp[kindOf]at hk
 case insert=>simp[kindOf]at hk
 case makeMap=>simp[kindOf]at hk
 case buildSlice t n parts=>obtain⟨h1,rfl⟩:=vu hx;simp only[Ap,h1]
theorem Gm {dst:Option Tmp} {op:Op} {s:Slot} (hk:kindOf fr op=1) (hx:gL P lt fr h dst op=some (s,h')):h'=h:=by
 cases op<;>simp only[gL]at hx<;>try exact(lh hx).2
 case alloc=>simp[kindOf]at hk
 case box=>simp[kindOf]at hk
 case store=>simp[kindOf]at hk
 case mapUpdate=>simp[kindOf]at hk
 case insert=>simp[kindOf]at hk
 case makeMap=>simp[kindOf]at hk
 case buildSlice=>simp[kindOf]at hk
def BN (P:Program) (lt:LT) (ops:List Oper) (o:Oper) (fr:ay) (h:AH):Option (Nat×Slot×ay×AH):=
 match au ops fr o.guard with
 |some true=>match gL P lt fr h o.dst o.op with
  |some (s,h')=>match o.dst with
   |some d=>match jY lt (some d) s with|true=>some (kindOf fr o.op,s,fr.bf d s,h')|false=>none
   |none=>some (kindOf fr o.op,s,fr,h')
  |none=>none
 |some false=>match o.dst with|some d=>some (0,.v (.cN []),fr.bf d (.v (.cN [])),h)|none=>some (0,.v (.cN []),fr,h)
 |none=>none
def RN:Nat->Nat
 |0=>0
 |1=>1
 |_=>2
def LJ (k:Nat):Nat->Nat
 |0=>k
 |1=>k
 |_=>k+1
def DS (h:AH) (hs:List AH):Nat->List AH
 |0=>hs
 |1=>hs
 |_=>h::hs
theorem Jo {q:Nat} {s:Slot} {jc:ay} {h1:AH} (hx:BN P lt ops o fr h=some (q,s,jc,h1)) {k:Nat} {aD:List po} {hs:List AH} (T:Tr P lt ops l jc h1 (LJ k q) aD hs aB h'):
 Tr P lt ops (o::l) fr h k (⟨o,fr,s,RN q,k⟩::aD) (DS h1 hs q) aB h':=by
 unfold BN at hx;split at hx
 .rename_i hw;split at hx
  case h_2=>cases hx
  rename_i s1 h2 he;have hx:jY lt o.dst s1=true/\q=kindOf fr o.op/\s1=s/\fr.put o.dst s1=jc/\h2=h1:=by
   split at hx
   .rename_i d hd;split at hx
    case h_2=>cases hx
    rename_i hs;injection hx with hx
    injection hx with hx hy
    injection hy with hy hz
    injection hz with hz hu
    rw[hd];exact⟨hs,hx.symm,hy,by subst hy;exact hz,hu⟩
   .rename_i hd;injection hx with hx
    injection hx with hx hy
    injection hy with hy hz
    injection hz with hz hu
    rw[hd];exact⟨by cases s1<;>rfl,hx.symm,hy,hz,hu⟩
  obtain⟨XN,rfl,rfl,rfl,rfl⟩:=hx;generalize hk:kindOf fr o.op=q at*
  match q with
  |0=>
   have e1:=xC hk he h
   rw[he]at e1;injection e1 with e1
   injection e1 with _ e1
   subst e1;exact .free (λh3=>ag.op hw (xC hk he h3) XN) T
  |1=>
   have:=Gm hk he
   subst this;exact .read (ag.op hw he XN) T
  |q+2=>exact .LA (ag.op hw he XN) T
 .rename_i hw;have hx:q=0/\ .v (.cN [])=s/\fr.put o.dst (.v (.cN []))=jc/\h=h1:=by
   split at hx
   .rename_i d hd;injection hx with hx
    injection hx with hx hy
    injection hy with hy hz
    injection hz with hz hu
    rw[hd];exact⟨hx.symm,hy,hz,hu⟩
   .rename_i hd;injection hx with hx
    injection hx with hx hy
    injection hy with hy hz
    injection hz with hz hu
    rw[hd];exact⟨hx.symm,hy,hz,hu⟩
  obtain⟨rfl,rfl,rfl,rfl⟩:=hx;exact .free (λh3=>ag.off hw) T
 .cases hx
variable {K:List po->List AH->ay->AH->Prop}
theorem AD.nil {k:Nat} (H:K [] [] fr h):AD P lt ops [] fr h k K:=⟨[],[],fr,h,H,.nil⟩
theorem AD.step {q:Nat} {s:Slot} {jc:ay} {h1:AH} {k:Nat} (hx:BN P lt ops o fr h=some (q,s,jc,h1))
 (H:AD P lt ops l jc h1 (LJ k q) λaD hs aB h'=>K (⟨o,fr,s,RN q,k⟩::aD) (DS h1 hs q) aB h'):AD P lt ops (o::l) fr h k K:=by
 obtain⟨aD,hs,aB,h',k',T⟩:=H;exact⟨_,_,_,_,k',Jo hx T⟩
def DT (P:Program) (lt:LT) (ops:List Oper):Nat->List Oper->ay->AH->Nat->Option (List Oper×ay×AH×Nat×List po×List AH)
 |0,l,fr,h,k=>some (l,fr,h,k,[],[])
 |n+1,o::l,fr,h,k=>match BN P lt ops o fr h with
  |some (q,s,jc,h1)=>match DT P lt ops n l jc h1 (LJ k q)with|some (l',aB,h',k',aD,hs)=>some (l',aB,h',k',⟨o,fr,s,RN q,k⟩::aD,DS h1 hs q)|none=>none
  |none=>none
 |_+1,[],_,_,_=>none
theorem BP {h1:AH} {hs BQ:List AH} {q:Nat}:DS h1 hs q++BQ=DS h1 (hs++BQ) q:=by
 match q with
 |0=>rfl
 |1=>rfl
 |q+2=>rfl
theorem AD.run (n:Nat) {k k1:Nat} {l':List Oper} {jc:ay} {h1:AH} {LK:List po} {sd:List AH} (hx:DT P lt ops n l fr h k=some (l',jc,h1,k1,LK,sd))
 (H:AD P lt ops l' jc h1 k1 λaD hs aB h'=>K (LK++aD) (sd++hs) aB h'):AD P lt ops l fr h k K:=by
 induction n generalizing l fr h k K LK sd with
 |zero=>
  simp only[DT]at hx;injection hx with hx
  injection hx with e1 hx
  injection hx with e2 hx
  injection hx with e3 hx
  injection hx with e4 hx
  injection hx with e5 e6
  subst e1 e2 e3 e4 e5 e6;exact H
 |succ n ih=>
  cases l with
  |nil=>simp only[DT]at hx;cases hx
  |cons o l=>
   simp only[DT]at hx;split at hx
   case h_2=>cases hx
   rename_i q s kX h2 hs;split at hx
   case h_2=>cases hx
   rename_i l2 fr3 h3 k3 aac jZ hr;injection hx with hx
   injection hx with e1 hx
   injection hx with e2 hx
   injection hx with e3 hx
   injection hx with e4 hx
   injection hx with e5 e6
   subst e1 e2 e3 e4 e5 e6;refine AD.step hs (ih hr ?_);obtain⟨aD,Dn,aB,h',k',T⟩:=H;exact⟨aD,Dn,aB,h',by rw[BP]at k';exact k',T⟩
theorem AD.free {s:Slot} {k:Nat} (st:∀h,ag P lt ops o fr h s h) {d:Tmp} (hd:o.dst=some d) (H:AD P lt ops l (fr.bf d s) h k λaD hs aB h'=>K (⟨o,fr,s,0,k⟩::aD) hs aB h'):AD P lt ops (o::l) fr h k K:=by obtain⟨aD,hs,aB,h',k',T⟩:=H;exact⟨_,_,_,_,k',.free st (by rw[hd];exact T)⟩
theorem AD.read {s:Slot} {k:Nat} (st:ag P lt ops o fr h s h) {d:Tmp} (hd:o.dst=some d) (H:AD P lt ops l (fr.bf d s) h k λaD hs aB h'=>K (⟨o,fr,s,1,k⟩::aD) hs aB h'):AD P lt ops (o::l) fr h k K:=by obtain⟨aD,hs,aB,h',k',T⟩:=H;exact⟨_,_,_,_,k',.read st (by rw[hd];exact T)⟩
theorem AD.LA {s:Slot} {k:Nat} {h1:AH} (st:ag P lt ops o fr h s h1) {d:Tmp} (hd:o.dst=some d) (H:AD P lt ops l (fr.bf d s) h1 (k+1) λaD hs aB h'=>K (⟨o,fr,s,2,k⟩::aD) (h1::hs) aB h'):AD P lt ops (o::l) fr h k K:=by obtain⟨aD,hs,aB,h',k',T⟩:=H;exact⟨_,_,_,_,k',.LA st (by rw[hd];exact T)⟩
theorem AD.v8 {s:Slot} {k:Nat} {h1:AH} (st:ag P lt ops o fr h s h1) (hd:o.dst=none) (H:AD P lt ops l fr h1 (k+1) λaD hs aB h'=>K (⟨o,fr,s,2,k⟩::aD) (h1::hs) aB h'):AD P lt ops (o::l) fr h k K:=by obtain⟨aD,hs,aB,h',k',T⟩:=H;exact⟨_,_,_,_,k',.LA st (by rw[hd];exact T)⟩
theorem AD.RO {f:FuncId} {args:List AV} {v:AV} {k:Nat} {h1:AH} (hc:eh fr o.op=some (f,args)) (hg:au ops fr o.guard=some true) (hf:∀(vs:Array Value) (w:World),(callFunc f vs).run P w= .ok (.enter f vs) w)
 (H:aP P f args h v h1) {d:Tmp} (hd:o.dst=some d) (T:AD P lt ops l (fr.bf d (.v v)) h1 (k+1) λaD hs aB h'=>K (⟨o,fr,.v v,2,k⟩::aD) (h1::hs) aB h'):AD P lt ops (o::l) fr h k K:=
 AD.LA (ag.call hc hg hf H) hd T
def cC (P:Program) (t:TypeId):Option (Nat×Nat):=
 match P.underlying t with
 |some (.slice e)=>match P.info? e with
  |some i=>match i.zero,i.size with
   |some z,n+1=>match Nat.beq z.cells.size (n+1)with|true=>some (n+1,i.bytes)|false=>none
   |_,_=>none
  |none=>none
 |_=>none
theorem fC {t:TypeId} {sz gl:Nat} (hx:cC P t=some (sz,gl)):∃e i z,OT P t t e i z sz/\i.bytes=gl:=by
 unfold cC at hx;split at hx
 case h_2=>cases hx
 rename_i e he;split at hx
 case h_2=>cases hx
 rename_i i hi;split at hx
 case h_2=>cases hx
 rename_i z n hz hn;split at hx
 case h_2=>cases hx
 rename_i hb;injection hx with hx
 injection hx with hx hy
 subst hx hy;exact⟨e,i,z,⟨he,O,hi,hz,hn,by omega,Nat.eq_of_beq_eq_true hb⟩,O⟩
def cD (op:Op):Option (Operand×Operand×TypeId):=
 match op with
 | .call c=>match c.callee with
  | .builtin .append=>match c.args.toList,c.argTypes.toList with
   |[s,x],[t,t']=>match Nat.beq t t' with|true=>some (s,x,t)|false=>none
   |_,_=>none
  |_=>none
 |_=>none
theorem gM {s x:Operand} {t:TypeId} (hx:cD o.op=some (s,x,t)) (ρ:Operand->Value):(execOp ρ o)=(do pure (.value (<-Builtin.append_ #[t,t] o.type #[ρ s,ρ x])))/\s∈o.op.operands.toList/\x∈o.op.operands.toList:=by
 obtain⟨dst,op,ty,pos,after,guard⟩:=o;simp only at hx|-;unfold cD at hx;split at hx
 case h_2=>cases hx
 rename_i c;obtain⟨callee,args,argTypes⟩:=c;simp only at hx;split at hx
 case h_2=>cases hx
 split at hx
 case h_2=>cases hx
 rename_i s' x' t1 t2 h1 h2;split at hx
 case h_2=>cases hx
 rename_i hb;injection hx with hx
 injection hx with hx hy
 injection hy with hy hz
 subst hx hy hz;have hb:=Nat.eq_of_beq_eq_true hb;subst hb;have h1:args=#[s',x']:=Array.ext' h1;have h2:argTypes=#[t1,t1]:=Array.ext' h2;subst h1 h2;refine⟨?_,by simp[Op.operands,Call.operands],by simp[Op.operands,Call.operands]⟩;simp[execOp,resolve,invoke,builtin]
theorem ag.app {s x:Operand} {t:TypeId} {sz gl:Nat} {xs y:AV} {es ys:List (List AV)} {aw v:Nat} (ha:cD o.op=some (s,x,t)) (hw:au ops fr o.guard=some true) (hi:cC P t=some (sz,gl))
 (kN:fr.ev s= .v xs) (ex:fr.ev x= .v y) (hS:zA h sz xs es aw v h') (hy:aY sz y=some ys) (cv:ys≠[]) (hb:(es.length+ys.length)*(gl+1)<=140737488355328):
 ag P lt ops o fr h (.v (.vec (.own aw v) sz (es++ys))) h':=by
 intro aB hn hl hf g0 w0 a w Q K S hK;obtain⟨r1,r2,r3⟩:=gM ha a.eval;obtain⟨e,i,z,T,rfl⟩:=fC hi;have xD:=lR hn hf;rw[<-fT hn hf]at hw;rw[<-xD s r2]at kN;rw[<-xD x r3]at ex;obtain⟨g,lb,E,R,F⟩:=S;rw[if_pos (cI F hw)];obtain⟨u,g',w',k1,k2,k3,k4⟩:=DA (ty:=o.type) T R (F.cq kN) hS (F.cq ex) hy cv hb;unfold Oper.wp;rw[r1];simp only[Sem.run_bind,k1,Result.andThen_ok,Sem.run_pure];exact hK _ _ ⟨g',lb,E.trans k2,k3,(F.mono k2).put (s:= .v _) k4 O⟩
theorem ag.Va {s x:Operand} {t:TypeId} {sz gl:Nat} {xs y:AV} {es:List (List AV)} (ha:cD o.op=some (s,x,t)) (hw:au ops fr o.guard=some true) (hi:cC P t=some (sz,gl))
 (kN:fr.ev s= .v xs) (ex:fr.ev x= .v y) (hS:aY sz xs=some es) (hy:aY sz y=some []):∀h,ag P lt ops o fr h (.v xs) h:=by
 intro h aB hn hl hf g0 w0 a w Q K S hK;obtain⟨r1,r2,r3⟩:=gM ha a.eval;obtain⟨e,i,z,T,rfl⟩:=fC hi;have xD:=lR hn hf;rw[<-fT hn hf]at hw;rw[<-xD s r2]at kN;rw[<-xD x r3]at ex;obtain⟨g,lb,E,R,F⟩:=S;rw[if_pos (cI F hw)];have k1:=xp (P:=P) (ty:=o.type) T (F.cq kN) hS (F.cq ex) hy;unfold Oper.wp;rw[r1];simp only[Sem.run_bind,k1,Result.andThen_ok,Sem.run_pure];exact hK _ _ ⟨g,lb,E,R,F.put (s:= .v _) (F.cq kN) O⟩
structure mu (lt:LT) (fr aB:ay):Prop where
 n:aB.n=fr.n
 df:aB.df=fr.df
 f:∀k,aB.f k= .gI\/aB.f k=fr.f k
 loc:∀k d off,aB.f k= .lp d off->lt.ki d k=true->aB.loc d=fr.loc d
theorem AS.se {g0:Gh} {w0:World} {a:Act} {w:World} (W:mu lt fr aB) (S:AS lt h fr g0 w0 a w):AS lt h aB g0 w0 a w:=by
 obtain⟨g,lb,E,R,F⟩:=S
 classical
 refine⟨g,λd=>if∃k off,aB.f k= .lp d off/\lt.ki d k=true then lb d else none,E,R,W.df▸F.defers,by rw[W.n];exact F.size,λk hk=>?_,λk d off e=>?_,λd d' b e1 e2=>?_,λd b e=>?_⟩
 .rw[W.n]at hk;rcases W.f k with h|h
  .rw[h];trivial
  .have:=F.slot k hk
   rw[<-h]at this;generalize hs:aB.f k=s at this
   cases s with|v x=>exact this|gI=>trivial|lp d off=>obtain⟨b,h1,h2⟩:=this;refine⟨b,?_,h2⟩;show(if∃k off,aB.f k= .lp d off/\lt.ki d k=true then lb d else none)=some b;rw[if_pos ⟨k,off,hs,F.hold k d off (h▸hs)⟩];exact h1
 .rcases W.f k with h|h
  .rw[h]at e
   cases e
  .rw[h]at e;exact F.hold k d off e
 .split at e1<;>split at e2
  .exact F.OH _ _ _ e1 e2
  .cases e2
  .cases e1
  .cases e1
 .split at e
  .rename_i hk;obtain⟨k,off,hk,hm⟩:=hk;rw[W.loc k d off hk hm];exact F.Jd d b e
  .cases e
def ay.bare (n:Nat) (loc:Nat->List AV):ay:=⟨n,λ_=> .gI,loc,[]⟩
theorem mu.bare {n:Nat} (hn:fr.n=n) {loc:Nat->List AV} (hd:fr.df=[]:=by rfl):mu lt fr (.bare n loc):=⟨hn.symm,hd.symm,λ_=> .inl rfl,λ_ _ _ e _=>by cases e⟩
theorem mu.put {d:Tmp} {s:AV} (W:mu lt fr aB) (hs:fr.f d= .v s):mu lt fr (aB.bf d (.v s)):=by
 refine⟨W.n,W.df,λk=>?_,λk d' off e hm=>?_⟩
 .simp only[ay.bf];split
  .rename_i hb;have hb:=Nat.eq_of_beq_eq_true hb;subst hb;exact .inr hs.symm
  .exact W.f k
 .simp only[ay.bf]at e;split at e
  .cases e
  .exact W.loc k d' off e hm
def ay.zD (fr:ay):List (Nat×AV)->ay
 |[]=>fr
 |(d,x)::r=>(fr.zD r).bf d (.v x)
def holds (fr:ay):List (Nat×AV)->Prop
 |[]=>True
 |(d,x)::r=>fr.f d= .v x/\holds fr r
theorem RH.se {c:Code} {e:Exit} {jc kX:ay} (W:mu lt fr jc) (B:RH P lt c jc h e kX h'):RH P lt c fr h e kX h':=λg0 w0 a w S=>B g0 w0 a w (S.se W)
theorem AC.se {c:Code} {C:Exit->ay->AH->Prop} (W:mu lt fr aB) (H:AC P lt c aB h C):AC P lt c fr h C:=by obtain⟨e,kX,h2,k,r⟩:=H;exact⟨e,kX,h2,k,r.se W⟩
theorem AW.se {c:Code} {C:Exit->ay->AH->Prop} (W:mu lt fr aB) (H:AW P lt c aB h C):AW P lt c fr h C:=by
 obtain⟨n,e,kX,h2,k,r⟩:=H
 cases r with|last b cv=>exact⟨0,e,kX,h2,k,.last (b.se W) cv⟩|more b r=>exact⟨_,e,kX,h2,k,.more (b.se W) r⟩
theorem ag.pure {s:Slot} (hw:au ops fr o.guard=some true) (hx:∀h,fi P fr h o.op=some s) (hs:jY lt o.dst s=true) (hn:∀h,gL P lt fr h o.dst o.op=iz P fr h o.op):∀h,ag P lt ops o fr h s h:=λh=>ag.op hw (by rw[hn h,iz,hx h]) hs
theorem ag.index {t:TypeId} {x i:Operand} {s:List UInt8} {k:IntKind} {n:Int} {c:UInt8} (ho:o.op= .index t x i) (hw:au ops fr o.guard=some true) (ht:P.underlying t=some .string) (ex:fr.ev x= .v (.str s)) (ei:fr.ev i= .v (.int k n)) (h0:0<=n) (hc:s[n.toNat]? =some c):
 ∀h,ag P lt ops o fr h (.v (.int .u8 c.toNat)) h:=
 ag.pure hw (λh=>by rw[ho];simp only[fi,xg,ht,ex,ei,if_pos h0,hc]) O (λh=>by rw[ho];rfl)
theorem ag.indexAddr {t e:TypeId} {x i:Operand} {tk:Tk} {sz:Nat} {elems:List (List AV)} {cs:List AV} {k:IntKind} {n:Int} (ho:o.op= .indexAddr t x i) (hw:au ops fr o.guard=some true) (ht:rY P t=some e) (hz:kW P e=some sz) (ex:fr.ev x= .v (.vec tk sz elems)) (ei:fr.ev i= .v (.int k n)) (h0:0<=n) (hc:elems[n.toNat]? =some cs):
 ∀h,ag P lt ops o fr h (.v (.ref (Lk tk n.toNat) cs)) h:=
 ag.pure hw (λh=>by rw[ho];simp only[fi,jX,ht,ex,ei,hz,h0,and_self,if_true,hc]) O (λh=>by rw[ho];rfl)
end
section
variable {P:Program} {lt:LT} {h:AH} {fr:ay} {ops:List Oper} {o:Oper}
theorem eY {x:Operand} {k:IntKind} {n:Int} {d:Nat} (e:fr.ev x= .v (.int k n)) (h0:0<=n):eL fr (some x) d=some n.toNat:=by simp only[eL,e,if_pos h0]
theorem lS {d:Nat}:eL fr none d=some d:=rfl
theorem ag.jo {t:TypeId} {x:Operand} {lo hi:Option Operand} {s:List UInt8} {l hh:Nat} (ho:o.op= .slice t x lo hi none) (hw:au ops fr o.guard=some true) (ht:P.underlying t=some .string) (ex:fr.ev x= .v (.str s)) (h1:eL fr lo 0=some l) (h2:eL fr hi s.length=some hh) (h3:l<=hh) (h4:hh<=s.length):
 ∀h,ag P lt ops o fr h (.v (.str ((s.take hh).drop l))) h:=
 ag.pure hw (λh=>by rw[ho];simp only[fi,og,ht,ex,h1,h2];rw[if_pos ⟨h3,h4⟩]) O (λh=>by rw[ho];rfl)
theorem ag.sliceTo {t e:TypeId} {x y:Operand} {lo:Option Operand} {tk:Tk} {sz:Nat} {es:List (List AV)} {l hh:Nat} (ho:o.op= .slice t x lo (some y) none) (hw:au ops fr o.guard=some true) (ht:P.underlying t=some (.slice e)) (hz:kW P e=some sz) (ex:fr.ev x= .v (.vec tk sz es)) (h1:eL fr lo 0=some l) (h2:eL fr (some y) es.length=some hh) (h3:l<=hh) (h4:hh<=es.length):
 ∀h,ag P lt ops o fr h (.v (.vec .none sz ((es.take hh).drop l))) h:=
 ag.pure hw (λh=>by rw[ho];simp only[fi,og,ht,ex,h1,h2];rw[if_pos ⟨hz,h3,h4⟩]) O (λh=>by rw[ho];rfl)
end
def al (P:Program) (f:FuncId) (args:List AV) (h:AH) (Q:AV->AH->Prop):Prop:=∃v h',Q v h'/\aP P f args h v h'
def DU (P:Program) (rs:List ResultVar) (Q:AV->AH->Prop):Exit->ay->AH->Prop
 | .normal,fr,h=>∃v,fu P fr h rs=some v/\Q v h
 | .ret,fr,h=>∃v,fu P fr h rs=some v/\Q v h
 |_,_,_=>False
theorem al.of {P:Program} {h:AH} {f:FuncId} {c:Code} {n:Nat} {rs:List ResultVar} {fn:Func} (I:Jl P f c n rs fn) (lt:LT) {args:List AV} {Q:AV->AH->Prop} (hn:Nat.ble args.length n=true)
 (H:AC P lt c (ay.enter n args) h (DU P rs Q)):al P f args h Q:=by
 obtain⟨e,aB,h1,k,r⟩:=H;have key:∀v,fu P aB h1 rs=some v->Q v h1->(∀v2,fu P aB h1 rs=some v2->UZ P rs v2 h1 e aB h1)->al P f args h Q:=by intro v h2 h3 h4;exact⟨v,h1,h3,aP.of I lt hn ⟨e,aB,h1,h4 v h2,r⟩⟩
 cases e with|normal=>obtain⟨v,h2,h3⟩:=k;exact key v h2 h3 λv2 h4=>⟨h4,rfl⟩|ret=>obtain⟨v,h2,h3⟩:=k;exact key v h2 h3 λv2 h4=>⟨h4,O⟩|_=>exact k.elim
def aG (h0 h:AH) (sz:Nat) (x:AV) (es:List (List AV)):Prop:=(x= .ao/\es=[])\/∃aw fk,(x= .vec (.own aw fk) sz es\/x= .vec (.Ld aw fk) sz es)/\h0.nt<=aw/\aw <h.nt/\h.bV aw=fk
theorem wrap_i64 {n:Int} (h0: -9223372036854775808<=n) (h1:n <9223372036854775808):IntKind.i64.wrap n=n:=by unfold IntKind.wrap;simp only[IntKind.signed,IntKind.bits];simp;omega
theorem wI {n m:Int} (h:n=m/\ -9223372036854775808<=n/\n <9223372036854775808):IntKind.i64.wrap n=m:=(wrap_i64 h.2.1 h.2.2).trans h.1
theorem aG.elems {h0 h:AH} {sz:Nat} {x:AV} {es:List (List AV)} (g:aG h0 h sz x es):aY sz x=some es:=by
 rcases g with⟨rfl,rfl⟩|⟨aw,fk,rfl|rfl,h1,h2,h3⟩
 .rfl
 .simp only[aY,cU]
 .simp only[aY,cU]
section
variable {P:Program} {lt:LT} {h:AH} {fr:ay} {ops l:List Oper} {o:Oper}
theorem AL.gP {f:FuncId} {args:List AV} {Q:AV->AH->Prop} {K:ay->AH->Prop} (hc:eh fr o.op=some (f,args)) (hg:au ops fr o.guard=some true) (hf:∀(vs:Array Value) (w:World),(callFunc f vs).run P w= .ok (.enter f vs) w)
 (H:al P f args h Q) {d:Tmp} (hd:o.dst=some d) (T:∀v h1,Q v h1->AL P lt ops l (fr.bf d (.v v)) h1 K):AL P lt ops (o::l) fr h K:=by
 obtain⟨v,h1,q,r⟩:=H;exact AL.call hc hg hf r hd (T v h1 q)
theorem AD.gP {f:FuncId} {args:List AV} {Q:AV->AH->Prop} {k:Nat} {K:List po->List AH->ay->AH->Prop} (hc:eh fr o.op=some (f,args)) (hg:au ops fr o.guard=some true) (hf:∀(vs:Array Value) (w:World),(callFunc f vs).run P w= .ok (.enter f vs) w)
 (H:al P f args h Q) {d:Tmp} (hd:o.dst=some d) (T:∀v h1,Q v h1->AD P lt ops l (fr.bf d (.v v)) h1 (k+1) λaD hs aB h'=>K (⟨o,fr,.v v,2,k⟩::aD) (h1::hs) aB h'):AD P lt ops (o::l) fr h k K:=by
 obtain⟨v,h1,q,r⟩:=H;exact AD.RO hc hg hf r hd (T v h1 q)
end
section
variable {P:Program} {lt:LT} {h:AH} {fr:ay} {ops l:List Oper} {o:Oper}
theorem ag.LL {t:TypeId} {x:Operand} {y:AV} {cs:List AV} (ho:o.op= .box t x) (hw:au ops fr o.guard=some true) (ex:fr.ev x= .v y) (hc:y.cells=some cs):∀h,ag P lt ops o fr h (.v (.ref none cs)) h:=by
 intro h aB hn hl hf g0 w0 a w Q K S hK;have xD:=lR hn hf;rw[<-fT hn hf]at hw;rw[<-xD x (by rw[ho];simp[Op.operands])]at ex;obtain⟨g,lb,E,R,F⟩:=S;rw[if_pos (cI F hw)];have hv:=(F.cq ex).cells hc;obtain⟨E',R'⟩:=qB R (.cells (a.eval x).cells t (0,0)) cs.length (λ_=>⟨_,_,_,O,by rw[hv.1.1];exact Nat.le_refl _⟩);unfold Oper.wp;rw[vn o t x ho];refine hK _ _ ⟨_,lb,E.trans E',R',(F.mono E').put (s:= .v _) (VR.ref none cs _ (λi=>(a.eval x).cells.getD i undef) (λi hi=>?_) (λi hi=>(hv.1.2 i hi).mono E'.toEvc) (λi hi=>hv.2 i hi) (λi hi=>?_) trivial ⟨_,_,by rw[heap_alloc,if_pos O]⟩) O⟩
 .have:=hv.1.1
  rw[cL];simp only[World.cell?,heap_alloc,if_true];simp[Array.getD_eq_getD_getElem?,Array.getElem?_eq_getElem (show i <(a.eval x).cells.size by omega)]
 .rw[cL];simp only[Gh.xt,if_true];omega
end
section
variable {P:Program} {lt:LT} {h:AH} {fr:ay} {ops l:List Oper} {o:Oper}
theorem ag.eP {t:TypeId} {x:Operand} {b:Bool} {n ob off:Nat} {cs:List AV} {y:AV} (ho:o.op= .load t x) (hw:au ops fr o.guard=some true) (ha:xe P t=some b) (hz:kW P t=some n)
 (ex:fr.ev x= .v (.ptr ob off)) (hg:h.get ob=some (.cells cs)) (hy:AV.ld b n cs off=some y):ag P lt ops o fr h (.v y) h:=
 ag.op hw (by rw[ho];simp only[gL,iz,fi,rG,ha,hz,ex,hg,hy]) O
theorem ag.j1 {t:TypeId} {x v:Operand} {n ob off:Nat} {cs jL r:List AV} (ho:o.op= .store t x v) (hw:au ops fr o.guard=some true) (hz:kW P t=some n) (hv:mY fr v=some cs) (hn:Nat.beq cs.length n=true)
 (ex:fr.ev x= .v (.ptr ob off)) (hg:h.get ob=some (.cells jL)) (hb:Nat.ble (off+cs.length) jL.length=true) (hr:jn off cs jL=some r):ag P lt ops o fr h .gI (h.set ob (.cells r)):=
 ag.op hw (by rw[ho];simp only[gL,sU,hz,hv,ex,hn,hg,hb,hr]) O
theorem AD.eP {t:TypeId} {x:Operand} {b:Bool} {n ob off k:Nat} {cs:List AV} {y:AV} {K:List po->List AH->ay->AH->Prop} (ho:o.op= .load t x) (hw:au ops fr o.guard=some true) (ha:xe P t=some b) (hz:kW P t=some n)
 (ex:fr.ev x= .v (.ptr ob off)) (hg:h.get ob=some (.cells cs)) (hy:AV.ld b n cs off=some y) {d:Tmp} (hd:o.dst=some d) (T:AD P lt ops l (fr.bf d (.v y)) h k λaD hs aB h'=>K (⟨o,fr,.v y,1,k⟩::aD) hs aB h'):AD P lt ops (o::l) fr h k K:=
 AD.read (ag.eP ho hw ha hz ex hg hy) hd T
def sV (fr:ay) (o:Op):Option (Operand×List AV):=
 match o with
 | .call c=>match c.callee with
  | .value x=>match fr.FD c.args.toList with|some args=>some (x,args)|none=>none
  |_=>none
 |_=>none
theorem BR {x:Operand} {f:FuncId} {args eV:List AV} (hc:sV fr o.op=some (x,args)) (hx:fr.ev x= .v (.pG f eV)):∃aa,eh fr o.op=some (f,aa)/\aa=args++eV:=by
 unfold sV at hc;split at hc
 case h_2=>cases hc
 rename_i c Oi;split at hc
 case h_2=>cases hc
 rename_i y hy;split at hc
 case h_2=>cases hc
 rename_i aa has;injection hc with hc
 injection hc with h1 h2
 subst h1 h2
 cases eV with|nil=>exact⟨aa,by simp only[eh,Oi,hy,hx,has],by simp⟩|cons a r=>exact⟨aa++a::r,by simp only[eh,Oi,hy,hx,has],O⟩
theorem AL.RP {x:Operand} {f:FuncId} {args eV:List AV} {Q:AV->AH->Prop} {K:ay->AH->Prop} (hc:sV fr o.op=some (x,args)) (hx:fr.ev x= .v (.pG f eV)) (hg:au ops fr o.guard=some true) (hf:∀(vs:Array Value) (w:World),(callFunc f vs).run P w= .ok (.enter f vs) w)
 (H:al P f (args++eV) h Q) {d:Tmp} (hd:o.dst=some d) (T:∀v h1,Q v h1->AL P lt ops l (fr.bf d (.v v)) h1 K):AL P lt ops (o::l) fr h K:=by
 obtain⟨aa,h1,rfl⟩:=BR hc hx;exact AL.gP h1 hg hf H hd T
def Tk.tail:Tk->Tk
 | .own l v=> .Ld l v
 |tk=>tk
theorem ag.sliceFrom {t e:TypeId} {x y:Operand} {tk:Tk} {sz:Nat} {es:List (List AV)} {n:Nat} (ho:o.op= .slice t x (some y) none none) (hw:au ops fr o.guard=some true) (ht:P.underlying t=some (.slice e)) (hz:kW P e=some sz) (ex:fr.ev x= .v (.vec tk sz es)) (h1:eL fr (some y) 0=some n) (h3:n<=es.length):
 ∀h,ag P lt ops o fr h (.v (.vec tk.tail sz (es.drop n))) h:=
 ag.pure hw (λh=>by
  rw[ho];simp only[fi,og,ht,ex,h1,lS];rw[if_pos ⟨hz,h3,Nat.le_refl _⟩]
  cases tk<;>rfl) O (λh=>by rw[ho];rfl)
end
abbrev View:=List (Nat×List AV)
def HV (h:AH):View->Prop
 |[]=>True
 |(o,cs)::r=>(h.get o=some (.cells cs)/\o <h.n/\∀e∈r,e.1≠o)/\HV h r
structure Kp (ids:List Nat) (h0 h:AH):Prop where
 n:h0.n<=h.n
 get:∀k,k <h0.n->k∉ids->h.get k=h0.get k
 nt:h0.nt<=h.nt
 bV:∀l,l <h0.nt->h.bV l=h0.bV l
 aV:h.aV=h0.aV
theorem Kp.refl {ids:List Nat} {h:AH}:Kp ids h h:=⟨Nat.le_refl _,λ_ _ _=>rfl,Nat.le_refl _,λ_ _=>rfl,O⟩
theorem Kp.trans {ids:List Nat} {h0 h1 h2:AH} (a:Kp ids h0 h1) (b:Kp ids h1 h2):Kp ids h0 h2:=⟨Nat.le_trans a.n b.n,λk hk hi=>(b.get k (Nat.lt_of_lt_of_le hk a.n) hi).trans (a.get k hk hi),Nat.le_trans a.nt b.nt,λl hl=>(b.bV l (Nat.lt_of_lt_of_le hl a.nt)).trans (a.bV l hl),b.aV.trans a.aV⟩
theorem Kp.sub {ids jQ:List Nat} {h0 h1:AH} (a:Kp ids h0 h1) (hs:∀i∈ids,i∈jQ\/h0.n<=i):Kp jQ h0 h1:=⟨a.n,λk hk hi=>a.get k hk λhm=>(hs k hm).elim hi (by omega),a.nt,a.bV,a.aV⟩
theorem Kp.step {ids jQ:List Nat} {h0 h1 h2:AH} (a:Kp ids h0 h1) (b:Kp jQ h1 h2) (hs:∀i∈jQ,i∈ids\/h0.n<=i):Kp ids h0 h2:=⟨Nat.le_trans a.n b.n,λk hk hi=>(b.get k (Nat.lt_of_lt_of_le hk a.n) λhm=>(hs k hm).elim hi (by omega)).trans (a.get k hk hi),Nat.le_trans a.nt b.nt,λl hl=>(b.bV l (Nat.lt_of_lt_of_le hl a.nt)).trans (a.bV l hl),b.aV.trans a.aV⟩
structure HI (h0:AH) (ids:List Nat) (h:AH) (V:View):Prop where
 hv:HV h V
 kp:Kp ids h0 h
 new:∀e∈V,e.1∈ids\/h0.n<=e.1
theorem HV.get {h:AH} {V:View} (H:HV h V) {e:Nat×List AV} (he:e∈V):h.get e.1=some (.cells e.2)/\e.1 <h.n:=by
 induction V with
 |nil=>simp at he
 |cons x r ih=>
  obtain⟨o,cs⟩:=x;rcases List.mem_cons.1 he with rfl|he
  .exact⟨H.1.1,H.1.2.1⟩
  .exact ih H.2 he
theorem HV.of {h:AH} {V:View} (hg:∀e∈V,h.get e.1=some (.cells e.2)/\e.1 <h.n) (hd:(V.map (·.1)).Nodup):HV h V:=by induction V with|nil=>trivial|cons x r ih=>obtain⟨o,cs⟩:=x;rw[List.map_cons,List.nodup_cons]at hd;obtain⟨h1,h2⟩:=hg (o,cs) (by simp);exact⟨⟨h1,h2,λe he hx=>hd.1 (List.mem_map.2 ⟨e,he,hx⟩)⟩,ih (λe he=>hg e (by simp[he])) hd.2⟩
theorem HV.nodup {h:AH} {V:View} (H:HV h V):(V.map (·.1)).Nodup:=by induction V with|nil=>exact List.nodup_nil|cons x r ih=>obtain⟨o,cs⟩:=x;rw[List.map_cons,List.nodup_cons];refine⟨λhm=>?_,ih H.2⟩;obtain⟨e,he,hx⟩:=List.mem_map.1 hm;exact H.1.2.2 e he hx
def BS:Nat->Nat->List AV->View->Option View
 |0,o,r,_::V=>some ((o,r)::V)
 |j+1,o,r,e::V=>match BS j o r V with|some V'=>some (e::V')|none=>none
 |_,_,_,[]=>none
def nK:Nat->View->Option (Nat×List AV)
 |0,e::_=>some e
 |j+1,_::V=>nK j V
 |_,[]=>none
theorem jq {j:Nat} {V:View} {e:Nat×List AV} (h:nK j V=some e):e∈V:=by
 induction V generalizing j with
 |nil=>cases j<;>simp[nK]at h
 |cons x r ih=>
  cases j with
  |zero=>simp only[nK]at h;injection h with h;subst h;simp
  |succ j=>exact List.mem_cons_of_mem _ (ih h)
theorem uK {j o:Nat} {r cs:List AV} {V V':View} (hg:nK j V=some (o,cs)) (hs:BS j o r V=some V'):
 V'.map (·.1)=V.map (·.1)/\(o,r)∈V'/\∀e∈V',e=(o,r)\/e∈V:=by
 induction V generalizing j V' with
 |nil=>cases j<;>simp[nK]at hg
 |cons x V ih=>
  cases j with
  |zero=>
   simp only[nK]at hg;injection hg with hg
   subst hg;simp only[BS]at hs;injection hs with hs
   subst hs;exact⟨rfl,by simp,λe he=>by rcases List.mem_cons.1 he with h|h;exact .inl h;exact .inr (List.mem_cons_of_mem _ h)⟩
  |succ j=>
   simp only[nK]at hg;simp only[BS]at hs;split at hs
   case h_2=>cases hs
   rename_i V1 h1;injection hs with hs
   subst hs;obtain⟨k1,k2,k3⟩:=ih hg h1;refine⟨by simp[k1],by simp[k2],λe he=>?_⟩;rcases List.mem_cons.1 he with h|h
   .exact .inr (by simp[h])
   .rcases k3 e h with h|h
    .exact .inl h
    .exact .inr (by simp[h])
theorem HV.set {h:AH} {V V':View} {j o:Nat} {cs r:List AV} (H:HV h V) (hg:nK j V=some (o,cs)) (hs:BS j o r V=some V'):HV (h.set o (.cells r)) V':=by
 obtain⟨k1,k2,k3⟩:=uK hg hs;have KQ:(V'.map (·.1)).Nodup:=by rw[k1];exact H.nodup
 refine HV.of (λe he=>?_) KQ
 by_cases XO:e.1=o
 .have:e=(o,r):=by
   have inj:∀(W:View),(W.map (·.1)).Nodup->∀a∈W,∀b∈W,a.1=b.1->a=b:=by
    intro W
    induction W with
    |nil=>intro _ a ha;simp at ha
    |cons x W ih=>
     intro hn a ha b hb Rv;rw[List.map_cons,List.nodup_cons]at hn;rcases List.mem_cons.1 ha with ha|ha<;>rcases List.mem_cons.1 hb with hb|hb
     .rw[ha,hb]
     .exact absurd (List.mem_map.2 ⟨b,hb,by rw[<-Rv,ha]⟩) hn.1
     .exact absurd (List.mem_map.2 ⟨a,ha,by rw[Rv,hb]⟩) hn.1
     .exact ih hn.2 a ha b hb Rv
   exact inj _ KQ _ he _ k2 XO
  subst this;refine⟨by simp[AH.set],?_⟩;exact(H.get (jq hg)).2
 .rcases k3 e he with h1|h1
  .exact absurd (by rw[h1]) XO
  .obtain⟨q1,q2⟩:=H.get h1;exact⟨by simp only[AH.set];rw[if_neg XO];exact q1,q2⟩
theorem HV.push {h:AH} {V:View} {cs:List AV} (H:HV h V):HV (h.push (.cells cs)) (V++[(h.n,cs)]):=by
 refine HV.of (λe he=>?_) ?_
 .rcases List.mem_append.1 he with he|he
  .obtain⟨q1,q2⟩:=H.get he;exact⟨by simp only[AH.push];rw[if_neg (by omega)];exact q1,by simp only[AH.push];omega⟩
  .rw[List.mem_singleton]at he;subst he;exact⟨by simp[AH.push],by simp[AH.push]⟩
 .rw[List.map_append,List.nodup_append];refine⟨H.nodup,by simp,λx hx y hy=>?_⟩;obtain⟨e,he,rfl⟩:=List.mem_map.1 hx;have:=(H.get he).2;simp at hy;omega
def AH.none:AH:=⟨0,λ_=> .none,0,λ_=>0,λ_=> .none⟩
def LM:Op->Bool
 | .slice .. =>true
 | .indexAddr .. =>true
 | .typeAssert .. =>true
 | .lookup .. =>true
 | .makeMap .. =>true
 | .mapUpdate .. =>true
 | .insert .. =>true
 | .defer .. =>true
 |_=>false
abbrev pq:=Nat×Slot×ay×View×Nat×Option (Nat×Nat)×Option (Int×Nat)
def Ij (P:Program) (lt:LT) (o:Oper) (fr:ay) (V:View) (n:Nat):Option pq:=
 match LM o.op with
 |true=>none
 |false=>match kindOf fr o.op with
  |0=>match fi P fr AH.none o.op with
   |some s=>match o.dst with
    |some d=>match jY lt (some d) s with|true=>some (0,s,fr.bf d s,V,n,none,none)|false=>none
    |none=>none
   |none=>none
  |_=>none
def BT (lt:LT) (dst:Option Tmp) (fr:ay) (V:View) (n:Nat) (cs:Option (List AV)):Option pq:=
 match dst,cs with
 |some d,some cs=>match lt.has d with|none=>some (2,.v (.ptr n 0),fr.bf d (.v (.ptr n 0)),V++[(n,cs)],n+1,none,none)|some l=>some (3,.lp d 0,(fr.uG d l cs).bf d (.lp d 0),V,n,none,none)
 |_,_=>none
def LN (P:Program) (lt:LT) (o:Oper) (t:TypeId) (x:Operand) (fr:ay) (V:View) (n j:Nat):Option pq:=
 match fr.ev x with
 | .v (.ptr ob off)=>match nK j V,xe P t,kW P t,o.dst with
  |some (o',cs),some b,some m,some d=>match AV.ld b m cs off with|some y=>some (1,.v y,fr.bf d (.v y),V,n,some (ob,o'),none)|none=>none
  |_,_,_,_=>none
 |_=>Ij P lt o fr V n
def Gn (P:Program) (lt:LT) (o:Oper) (t:TypeId) (x v:Operand) (fr:ay) (V:View) (n j:Nat):Option pq:=
 match fr.ev x with
 | .v (.ptr ob off)=>match nK j V,kW P t,mY fr v,o.dst with
  |some (o',jL),some m,some cs,none=>match Nat.beq cs.length m,Nat.ble (off+cs.length) jL.length,jn off cs jL with
   |true,true,some r=>match BS j o' r V with|some V'=>some (2,.gI,fr,V',n,some (ob,o'),none)|none=>none
   |_,_,_=>none
  |_,_,_,_=>none
 | .lp _ _=>match pK P fr AH.none t x v,o.dst with|some (s,aB,_),none=>some (3,s,aB,V,n,none,none)|_,_=>none
 |_=>none
def Gp (P:Program) (o:Oper) (t:TypeId) (x i:Operand) (fr:ay) (V:View) (n:Nat):Option pq:=
 match P.underlying t,fr.ev x,fr.ev i,o.dst with
 |some .string,.v (.str s),.v (.int _ m),some d=>some (0,.v (.int .u8 (s.getD m.toNat 0).toNat),fr.bf d (.v (.int .u8 (s.getD m.toNat 0).toNat)),V,n,none,some (m,s.length))
 |_,_,_,_=>none
def RQ (P:Program) (o:Oper) (t:TypeId) (k:Nat) (parts:Array (Nat×Operand)) (fr:ay) (V:View) (n:Nat):Option pq:=
 match gK P fr t k parts,o.dst with
 |some (.v x),some d=>some (0,.v x,fr.bf d (.v x),V,n,none,none)
 |_,_=>none
def RR (lt:LT) (im:List Nat) (o:Oper) (x:Operand) (fr:ay) (V:View) (n:Nat):Option pq:=
 match o.dst with
 |some d=>match im.contains d with
  |true=>match mY fr x with|some cs=>some (0,.v (.ref none cs),fr.bf d (.v (.ref none cs)),V,n,none,none)|none=>none
  |false=>BT lt o.dst fr V n (mY fr x)
 |none=>none
def QV (P:Program) (lt:LT) (im:List Nat) (o:Oper) (fr:ay) (V:View) (n j:Nat):Option pq:=
 match o.op with
 | .load t x=>LN P lt o t x fr V n j
 | .store t x v=>Gn P lt o t x v fr V n j
 | .alloc t=>BT lt o.dst fr V n (xm P t)
 | .box _ x=>RR lt im o x fr V n
 | .index t x i=>Gp P o t x i fr V n
 | .buildSlice t k parts=>RQ P o t k parts fr V n
 |_=>Ij P lt o fr V n
def sW (P:Program) (lt:LT) (im:List Nat) (ops:List Oper) (o:Oper) (fr:ay) (V:View) (n j:Nat):Option pq:=
 match au ops fr o.guard with
 |some true=>QV P lt im o fr V n j
 |some false=>match o.dst with|some d=>some (0,.v (.cN []),fr.bf d (.v (.cN [])),V,n,none,none)|none=>some (0,.v (.cN []),fr,V,n,none,none)
 |none=>none
def RS (p:Option (Nat×Nat)):Prop:=∀a b,p=some (a,b)->a=b
def Vb (p:Option (Int×Nat)):Prop:=∀a b,p=some (a,b)->0<=a/\a <b
def XP (h h':AH) (V V':View) (n':Nat):Prop:=HV h' V'/\h'.n=n'/\(∀h0 ids,HI h0 ids h V->HI h0 ids h' V')/\h'.nt=h.nt/\h'.bV=h.bV/\h.n<=n'/\(V=[]->n'=h.n->V'=[]/\h'=h)
def OX (P:Program) (lt:LT) (ops:List Oper) (o:Oper) (fr:ay) (h:AH) (V:View) (n:Nat):pq->Prop
 |(k,s,aB,V',n',_,_)=>
  (k=0/\aB=fr.put o.dst s/\V'=V/\n'=n/\∀h,ag P lt ops o fr h s h)\/(k=1/\aB=fr.put o.dst s/\V'=V/\n'=n/\ag P lt ops o fr h s h)\/
  (k=2/\aB=fr.put o.dst s/\∃h',ag P lt ops o fr h s h'/\XP h h' V V' n')\/(k=3/\V'=V/\n'=n/\∀h,Ak P lt ops o fr h=some (aB,h))
section
variable {P:Program} {lt:LT} {im:List Nat} {ops l:List Oper} {o:Oper} {fr:ay} {h:AH} {V:View} {n j:Nat}
theorem Gq {op:Op} {dst:Option Tmp} {s:Slot} (hh:LM op=false) (hx:fi P fr h op=some s):gL P lt fr h dst op=some (s,h):=by
 cases op<;>first
  |(cases hh;done)
  |(simp only[gL,iz,hx];done)
  |(simp[fi]at hx;done)
theorem DV {r:pq} (hw:au ops fr o.guard=some true) (hx:Ij P lt o fr V n=some r):OX P lt ops o fr h V n r:=by
 unfold Ij at hx;split at hx
 case h_1=>cases hx
 rename_i hh;split at hx
 case h_2=>cases hx
 rename_i hk;split at hx
 case h_2=>cases hx
 rename_i s hs;split at hx
 case h_2=>cases hx
 rename_i d hd;split at hx
 case h_2=>cases hx
 rename_i ho;injection hx with hx
 subst hx;refine .inl ⟨O,by rw[hd];rfl,rfl,rfl,λh2=>ag.op hw (Gq hh (xB hk hs h2)) (by rw[hd];exact ho)⟩
theorem Aw {r:pq} {cs:Option (List AV)} (hw:au ops fr o.guard=some true) (hv:HV h V) (hn:h.n=n) (Oi:∀h,gL P lt fr h o.dst o.op=qI lt h o.dst cs)
 (Vc:∀h,Gg P lt fr h o.dst o.op=pJ P lt fr h o.dst cs) (hx:BT lt o.dst fr V n cs=some r):OX P lt ops o fr h V n r:=by
 unfold BT at hx;split at hx
 case h_2=>cases hx
 rename_i d cs hd;split at hx
 .rename_i hl;injection hx with hx
  subst hx hn;refine .inr (.inr (.inl ⟨O,by rw[hd];rfl,h.push (.cells cs),ag.op hw (by rw[Oi,hd];simp only[qI,hl]) (by rw[hd];rfl),hv.push,rfl,λh0 ids H=>⟨hv.push,?_,λe he=>?_⟩,rfl,rfl,Nat.le_succ _,λ_ e=>absurd e (Nat.succ_ne_self _)⟩))
  .exact⟨by have:=H.kp.n;simp only[AH.push];omega,λk hk hi=>by have:=H.kp.n;simp only[AH.push];rw[if_neg (by omega)];exact H.kp.get k hk hi,H.kp.nt,H.kp.bV,H.kp.aV⟩
  .rcases List.mem_append.1 he with he|he
   .exact H.new e he
   .rw[List.mem_singleton]at he;subst he;exact .inr H.kp.n
 .rename_i l hl;injection hx with hx
  subst hx;refine .inr (.inr (.inr ⟨O,O,O,λh2=>?_⟩));have RT:=Vc h2;rw[hd]at RT;simp only[Ak,hw,hd,RT,pJ,hl];rw[show jY lt (some d) (.lp d 0)=true from by
   simp only[jY];clear Oi Vc RT hw
   induction lt with
   |nil=>cases hl
   |cons p r ih=>
    obtain⟨d',l'⟩:=p;simp only[LT.has]at hl;simp only[LT.ki]
    by_cases hdd:d'=d
    .rw[if_pos hdd];simp
    .rw[if_neg hdd]at hl|-;exact ih hl]
theorem LP {r:pq} {t:TypeId} {x:Operand} (ho:o.op= .load t x) (hw:au ops fr o.guard=some true) (hv:HV h V) (hx:LN P lt o t x fr V n j=some r) (ht:RS r.2.2.2.2.2.1):OX P lt ops o fr h V n r:=by
 unfold LN at hx;split at hx
 .rename_i ob off ex;split at hx
  case h_2=>cases hx
  rename_i o' cs b m d hg ha hz hd;split at hx
  case h_2=>cases hx
  rename_i y hy;injection hx with hx
  subst hx;have:=ht ob o' O;subst this;exact .inr (.inl ⟨O,by rw[hd];rfl,rfl,rfl,ag.eP ho hw ha hz ex (hv.get (jq hg)).1 hy⟩)
 .exact DV hw hx
theorem Jp {r:pq} {t:TypeId} {x v:Operand} (ho:o.op= .store t x v) (hw:au ops fr o.guard=some true) (hv:HV h V) (hn:h.n=n) (hx:Gn P lt o t x v fr V n j=some r) (ht:RS r.2.2.2.2.2.1):OX P lt ops o fr h V n r:=by
 unfold Gn at hx;split at hx
 .rename_i ob off ex;split at hx
  case h_2=>cases hx
  rename_i o' jL m cs hg hz uq hd;split at hx
  case h_2=>cases hx
  rename_i r' h1 h2 h3;split at hx
  case h_2=>cases hx
  rename_i V' hs;injection hx with hx
  subst hx;have:=ht ob o' O;subst this;have DW:=jq hg;have zy:=hv.set hg hs;obtain⟨k1,k2,k3⟩:=uK hg hs;refine .inr (.inr (.inl ⟨O,by rw[hd];rfl,_,ag.j1 ho hw hz uq h1 ex (hv.get DW).1 h2 h3,zy,hn,λh0 ids H=>⟨zy,⟨H.kp.n,λk hk hi=>?_,H.kp.nt,H.kp.bV,H.kp.aV⟩,λe he=>?_⟩,rfl,rfl,Nat.le_of_eq hn,λe _=>by rw[e]at DW;cases DW⟩))
  .simp only[AH.set];rw[if_neg]
   .exact H.kp.get k hk hi
   .rintro rfl;rcases H.new _ DW with h4|h4
    .exact hi h4
    .simp only at h4;omega
  .rcases k3 e he with h4|h4
   .subst h4;exact H.new (ob,jL) DW
   .exact H.new e h4
 .rename_i d off ex;split at hx
  case h_2=>cases hx
  rename_i s aB h3 hs hd;injection hx with hx
  subst hx;refine .inr (.inr (.inr ⟨O,O,O,λh2=>?_⟩));have:pK P fr h2 t x v=some (s,aB,h2):=by
   unfold pK at hs|-
   cases hz:kW P t with
   |none=>rw[hz]at hs;cases hs
   |some m=>
    cases hc:mY fr v with
    |none=>rw[hz,hc]at hs;cases hs
    |some cs=>
     simp only[hz,hc]at hs|-
     cases hb:Nat.beq cs.length m with
     |false=>rw[hb]at hs;cases hs
     |true=>
      rw[hb,ex]at hs;simp only[ex];simp only at hs
      cases hl:Nat.ble (off+cs.length) (fr.loc d).length with
      |false=>rw[hl]at hs;cases hs
      |true=>
       cases hr:jn off cs (fr.loc d)with
       |none=>rw[hl,hr]at hs;cases hs
       |some r=>
        rw[hl,hr]at hs;injection hs with hs
        injection hs with q1 hs
        injection hs with q2 q3
        subst q1 q2;rfl
  simp only[Ak,hw,ho,Gg,this,hd]
 .cases hx
theorem Jq {r:pq} {t:TypeId} {x i:Operand} (ho:o.op= .index t x i) (hw:au ops fr o.guard=some true) (hx:Gp P o t x i fr V n=some r) (hb:Vb r.2.2.2.2.2.2):OX P lt ops o fr h V n r:=by
 unfold Gp at hx;split at hx
 case h_2=>cases hx
 rename_i s k m d hu ex ei hd;injection hx with hx
 subst hx;obtain⟨h0,h1⟩:=hb m s.length O;have ax:m.toNat <s.length:=by omega
 refine .inl ⟨O,by rw[hd];rfl,rfl,rfl,ag.index ho hw hu ex ei h0 ?_⟩;rw[List.getD_eq_getElem?_getD,List.getElem?_eq_getElem ax];rfl
theorem OY {r:pq} {t:TypeId} {k:Nat} {parts:Array (Nat×Operand)} (ho:o.op= .buildSlice t k parts) (hw:au ops fr o.guard=some true) (hx:RQ P o t k parts fr V n=some r):OX P lt ops o fr h V n r:=by
 unfold RQ at hx;split at hx
 case h_2=>cases hx
 rename_i x d hb hd;injection hx with hx
 subst hx;exact .inl ⟨O,by rw[hd];rfl,rfl,rfl,λh2=>ag.op hw (by rw[ho];simp only[gL,Ap,hb]) O⟩
theorem OZ {x:Operand} {cs:List AV} (hc:mY fr x=some cs):∃y,fr.ev x= .v y/\y.cells=some cs:=by
 unfold mY at hc;split at hc
 case h_2=>cases hc
 rename_i y ey;exact⟨y,ey,hc⟩
theorem O0 {r:pq} {t:TypeId} {x:Operand} (ho:o.op= .box t x) (hw:au ops fr o.guard=some true) (hv:HV h V) (hn:h.n=n) (hx:RR lt im o x fr V n=some r):OX P lt ops o fr h V n r:=by
 unfold RR at hx;split at hx
 case h_2=>cases hx
 rename_i d hd;split at hx
 .split at hx
  case h_2=>cases hx
  rename_i cs hc;injection hx with hx
  subst hx;obtain⟨y,ey,hy⟩:=OZ hc;exact .inl ⟨O,by rw[hd];rfl,rfl,rfl,ag.LL ho hw ey hy⟩
 .exact Aw hw hv hn (λh=>by rw[ho];rfl) (λh=>by rw[ho];rfl) hx
theorem LS {r:pq} (hv:HV h V) (hn:h.n=n) (hx:sW P lt im ops o fr V n j=some r) (ht:RS r.2.2.2.2.2.1) (hb:Vb r.2.2.2.2.2.2):OX P lt ops o fr h V n r:=by
 unfold sW at hx;split at hx
 .rename_i hw;unfold QV at hx;split at hx
  .rename_i ho;exact LP ho hw hv hx ht
  .rename_i ho;exact Jp ho hw hv hn hx ht
  .rename_i ho;exact Aw hw hv hn (λh=>by rw[ho];rfl) (λh=>by rw[ho];rfl) hx
  .rename_i ho;exact O0 ho hw hv hn hx
  .rename_i ho;exact Jq ho hw hx hb
  .rename_i ho;exact OY ho hw hx
  .exact DV hw hx
 .rename_i hw;split at hx
  .rename_i d hd;injection hx with hx
   subst hx;exact .inl ⟨O,by rw[hd];rfl,rfl,rfl,λh=>ag.off hw⟩
  .rename_i hd;injection hx with hx
   subst hx;exact .inl ⟨O,by rw[hd];rfl,rfl,rfl,λh=>ag.off hw⟩
 .cases hx
end
inductive Kt where
 |seq (c:Code)
 |LU (id:Nat)
 |lp (c:Code)
 |za
inductive Dj where
 |code (c:Code)
 |ops (ops l:List Oper) (D:List Nat)
 |eW (ops l:List Oper) (D pre:List Nat)
 |ext(e:Exit)
def kY (P:Program) (lt:LT) (C:Exit->ay->AH->Prop):List Kt->Exit->ay->AH->Prop
 |[]=>C
 | .seq y::ks=>Ib (λfr h=>AC P lt y fr h (kY P lt C ks)) (kY P lt C ks)
 | .LU id::ks=>uH id (kY P lt C ks)
 | .lp c::ks=>Ib (λfr h=>AW P lt c fr h (kY P lt C ks)) (kY P lt C ks)
 | .za::ks=>kY P lt C ks
def sX (ops:List Oper) (kinds:List Nat):Bool:=uJ ops kinds&&(BM (pQ ops []) (dm 0 kinds) (dm 0 kinds).length 0 kinds).isEmpty
def DK (ops:List Oper) (pre:List Nat) (C:ay->AH->Prop):List po->List AH->ay->AH->Prop:=λaD _ aB h'=>sX ops (pre.reverse++aD.map (·.kind))=true/\C aB h'
def XS (P:Program) (lt:LT) (C:Exit->ay->AH->Prop):Dj->List Kt->ay->AH->Prop
 | .code c,ks,fr,h=>AC P lt c fr h (kY P lt C ks)
 | .ops ops l _,ks,fr,h=>AL P lt ops l fr h (kY P lt C ks .normal)
 | .eW ops l _ pre,ks,fr,h=>∀k,AD P lt ops l fr h k (DK ops pre (kY P lt C ks .normal))
 | .ext e,ks,fr,h=>kY P lt C ks e fr h
structure XR where
 cur:Dj
 ks:List Kt
 fr:ay
 V:View
 n:Nat
 tr:List (Nat×Nat)
 ob:List (Int×Nat)
 dr:List (List Oper×List Nat)
def Uf (ops:List Oper) (fr:ay) (g:Option (Nat×Bool)) (D:List Nat):Bool:=
 match g with
 |none=>true
 |some (j,_)=>match DD ops j with
  |some t=>match fr.ev (.tmp t)with| .v (.cN _)=>true|_=>D.contains j
  |none=>D.contains j
def QW:List Nat->Nat
 |[]=>0
 |j::_=>match Nat.ble 90 j with|true=>0|false=>j
def Vd:List Nat->List Nat
 |[]=>[]
 |j::r=>match Nat.ble 90 j with|true=>j::r|false=>r
def nd:List Nat->List Nat
 |[]=>[]
 |j::r=>match Nat.ble 90 j with|true=>j::r|false=>nd r
def XQ:List Nat->Option Bool
 |[]=>none
 |j::_=>match Nat.beq j 91 with|true=>some true|false=>match Nat.beq j 90 with|true=>some false|false=>none
def Ug:List Nat->Option (Nat×Bool)->Option Nat
 |j::_,some (k,_)=>match Nat.beq j 92 with|true=>some k|false=>none
 |_,_=>none
def Ik:Slot->Nat
 | .v (.bool true)=>1
 | .v (.bool false)=>0
 |_=>2
theorem XT {x:Slot} (h:Ik x=1):x= .v (.bool true):=by unfold Ik at h;split at h<;>first|rfl|cases h
theorem XU {x:Slot} (h:Ik x=0):x= .v (.bool false):=by unfold Ik at h;split at h<;>first|rfl|cases h
def kE {α:Type} (x:Option α) (l:List α):List α:=
 match x with
 |none=>l
 |some x=>x::l
def QX {α:Type} (x:Option α) (l:List Nat):List Nat:=
 match x with
 |none=>l
 |some _=>Vd l
def bW (P:Program) (lt:LT) (im:List Nat):Nat->Dj->List Kt->ay->View->Nat->List Nat->List (Nat×Nat)->List (Int×Nat)->List (List Oper×List Nat)->XR
 |0,cur,ks,fr,V,n,_,tr,ob,dr=>⟨cur,ks,fr,V,n,tr,ob,dr⟩
 |f+1,.code c,ks,fr,V,n,hs,tr,ob,dr=>match c with
  | .seq x y=>bW P lt im f (.code x) (.seq y::ks) fr V n hs tr ob dr
  | .region _ ops false=>bW P lt im f (.ops ops.toList ops.toList []) ks fr V n hs tr ob dr
  | .region _ ops true=>bW P lt im f (.eW ops.toList ops.toList [] []) ks fr V n hs tr ob dr
  | .skip=>bW P lt im f (.ext .normal) ks fr V n hs tr ob dr
  | .ret=>bW P lt im f (.ext .ret) ks fr V n hs tr ob dr
  | .exit id=>bW P lt im f (.ext (.exit id)) ks fr V n hs tr ob dr
  | .block id c=>bW P lt im f (.code c) (.LU id::ks) fr V n hs tr ob dr
  | .cond c x y=>match XQ (nd hs)with|some true=>bW P lt im f (.code x) ks fr V n (nd hs).tail ((Ik (fr.ev c),1)::tr) ob dr|some false=>bW P lt im f (.code y) ks fr V n (nd hs).tail ((Ik (fr.ev c),0)::tr) ob dr|none=>⟨.code (.cond c x y),ks,fr,V,n,tr,ob,dr⟩
  |c=>⟨.code c,ks,fr,V,n,tr,ob,dr⟩
 |f+1,.ops ops [] D,ks,fr,V,n,hs,tr,ob,dr=>bW P lt im f (.ext .normal) ks fr V n hs tr ob dr
 |f+1,.ops ops (o::l) D,ks,fr,V,n,hs,tr,ob,dr=>match Uf ops fr o.guard D with
  |false=>match Ug (nd hs) o.guard with|some j=>bW P lt im f (.ops ops (o::l) (j::D)) ks fr V n (nd hs).tail tr ob dr|none=>⟨.ops ops (o::l) D,ks,fr,V,n,tr,ob,dr⟩
  |true=>match sW P lt im ops o fr V n (QW hs)with|none=>⟨.ops ops (o::l) D,ks,fr,V,n,tr,ob,dr⟩|some (_,_,aB,V',n',none,none)=>bW P lt im f (.ops ops l D) ks aB V' n' hs tr ob dr|some (_,_,aB,V',n',some t,none)=>bW P lt im f (.ops ops l D) ks aB V' n' (Vd hs) (t::tr) ob dr|some (_,_,aB,V',n',none,some b)=>bW P lt im f (.ops ops l D) ks aB V' n' hs tr (b::ob) dr|some (_,_,aB,V',n',some t,some b)=>bW P lt im f (.ops ops l D) ks aB V' n' (Vd hs) (t::tr) (b::ob) dr
 |f+1,.eW ops [] D pre,ks,fr,V,n,hs,tr,ob,dr=>bW P lt im f (.ext .normal) ks fr V n hs tr ob ((ops,pre)::dr)
 |f+1,.eW ops (o::l) D pre,ks,fr,V,n,hs,tr,ob,dr=>match Uf ops fr o.guard D with
  |false=>match Ug (nd hs) o.guard with|some j=>bW P lt im f (.eW ops (o::l) (j::D) pre) ks fr V n (nd hs).tail tr ob dr|none=>⟨.eW ops (o::l) D pre,ks,fr,V,n,tr,ob,dr⟩
  |true=>match sW P lt im ops o fr V n (QW hs)with|none=>⟨.eW ops (o::l) D pre,ks,fr,V,n,tr,ob,dr⟩|some (3,_,_,_,_,_,_)=>⟨.eW ops (o::l) D pre,ks,fr,V,n,tr,ob,dr⟩|some (k,_,aB,V',n',none,none)=>bW P lt im f (.eW ops l D (k::pre)) ks aB V' n' hs tr ob dr|some (k,_,aB,V',n',some t,none)=>bW P lt im f (.eW ops l D (k::pre)) ks aB V' n' (Vd hs) (t::tr) ob dr|some (k,_,aB,V',n',none,some b)=>bW P lt im f (.eW ops l D (k::pre)) ks aB V' n' hs tr (b::ob) dr|some (k,_,aB,V',n',some t,some b)=>bW P lt im f (.eW ops l D (k::pre)) ks aB V' n' (Vd hs) (t::tr) (b::ob) dr
 |_+1,.ext e,[],fr,V,n,_,tr,ob,dr=>⟨.ext e,[],fr,V,n,tr,ob,dr⟩
 |f+1,.ext .normal,.seq y::ks,fr,V,n,hs,tr,ob,dr=>bW P lt im f (.code y) ks fr V n hs tr ob dr
 |f+1,.ext e,.seq _::ks,fr,V,n,hs,tr,ob,dr=>bW P lt im f (.ext e) ks fr V n hs tr ob dr
 |f+1,.ext (.exit DF),.LU id::ks,fr,V,n,hs,tr,ob,dr=>match Nat.beq DF id with|true=>bW P lt im f (.ext .normal) ks fr V n hs tr ob dr|false=>bW P lt im f (.ext (.exit DF)) ks fr V n hs tr ob dr
 |f+1,.ext e,.LU _::ks,fr,V,n,hs,tr,ob,dr=>bW P lt im f (.ext e) ks fr V n hs tr ob dr
 |_+1,.ext .normal,.lp c::ks,fr,V,n,_,tr,ob,dr=>⟨.ext .normal,.lp c::ks,fr,V,n,tr,ob,dr⟩
 |f+1,.ext e,.lp _::ks,fr,V,n,hs,tr,ob,dr=>bW P lt im f (.ext e) ks fr V n hs tr ob dr
 |_+1,.ext .normal,.za::ks,fr,V,n,_,tr,ob,dr=>⟨.ext .normal,.za::ks,fr,V,n,tr,ob,dr⟩
 |f+1,.ext e,.za::ks,fr,V,n,hs,tr,ob,dr=>bW P lt im f (.ext e) ks fr V n hs tr ob dr
section
variable {P:Program} {lt:LT} {im:List Nat} {C:Exit->ay->AH->Prop}
theorem Ax {α:Type} {x:α} {y:Option α} {l:List α} (h:x∈l):x∈kE y l:=by cases y with|none=>exact h|some y=>exact List.mem_cons_of_mem _ h
def Sub (tr:List (Nat×Nat)) (ob:List (Int×Nat)) (dr:List (List Oper×List Nat)) (R:XR):Prop:=(∀p∈tr,p∈R.tr)/\(∀p∈ob,p∈R.ob)/\∀p∈dr,p∈R.dr
theorem Sub.refl {cur:Dj} {ks:List Kt} {fr:ay} {V:View} {n:Nat} {tr:List (Nat×Nat)} {ob:List (Int×Nat)} {dr:List (List Oper×List Nat)}:Sub tr ob dr ⟨cur,ks,fr,V,n,tr,ob,dr⟩:=⟨λ_ h=>h,λ_ h=>h,λ_ h=>h⟩
theorem sY:∀(f:Nat) (cur:Dj) (ks:List Kt) (fr:ay) (V:View) (n:Nat) (hs:List Nat) (tr:List (Nat×Nat)) (ob:List (Int×Nat)) (dr:List (List Oper×List Nat)),Sub tr ob dr (bW P lt im f cur ks fr V n hs tr ob dr):=by
 intro f
 induction f with
 |zero=>intro cur ks fr V n hs tr ob dr;simp only[bW];exact .refl
 |succ f ih=>
  intro cur ks fr V n hs tr ob dr;have stop:bW P lt im (f+1) cur ks fr V n hs tr ob dr=⟨cur,ks,fr,V,n,tr,ob,dr⟩->Sub tr ob dr (bW P lt im (f+1) cur ks fr V n hs tr ob dr):=λe=>by rw[e];exact .refl
  have next:∀{eD pA jc V1 n1 sd},bW P lt im (f+1) cur ks fr V n hs tr ob dr=bW P lt im f eD pA jc V1 n1 sd tr ob dr->Sub tr ob dr (bW P lt im (f+1) cur ks fr V n hs tr ob dr):=λe=>by rw[e];exact ih _ _ _ _ _ _ _ _ _
  have step:∀{eD pA jc V1 n1 sd t b},bW P lt im (f+1) cur ks fr V n hs tr ob dr=bW P lt im f eD pA jc V1 n1 sd (kE t tr) (kE b ob) dr->Sub tr ob dr (bW P lt im (f+1) cur ks fr V n hs tr ob dr):=λ{eD pA jc V1 n1 sd t b} e=>by rw[e];have:=ih eD pA jc V1 n1 sd (kE t tr) (kE b ob) dr;exact⟨λp hp=>this.1 p (Ax hp),λp hp=>this.2.1 p (Ax hp),this.2.2⟩
  cases cur with
  |code c=>
   cases c with
   |seq x y=>exact next O
   |region id ops d=>cases d<;>exact next O
   |skip=>exact next O
   |ret=>exact next O
   |exit id=>exact next O
   |block id c=>exact next O
   |cond c x y=>
    cases hd:XQ (nd hs)with
    |none=>exact stop (by simp only[bW,hd])
    |some b=>cases b
             .exact step (t:=some (Ik (fr.ev c),0)) (b:=none) (eD:= .code y) (pA:=ks) (jc:=fr) (V1:=V) (n1:=n) (sd:=(nd hs).tail) (by simp only[bW,hd,kE])
             .exact step (t:=some (Ik (fr.ev c),1)) (b:=none) (eD:= .code x) (pA:=ks) (jc:=fr) (V1:=V) (n1:=n) (sd:=(nd hs).tail) (by simp only[bW,hd,kE])
   |_=>exact stop O
  |ops ops l D=>
   cases l with
   |nil=>exact next O
   |cons o l=>
    cases hg:Uf ops fr o.guard D with
    |false=>cases hd:Ug (nd hs) o.guard with|none=>exact stop (by simp only[bW,hg,hd])|some j=>exact next (sd:=(nd hs).tail) (by simp only[bW,hg,hd];rfl)
    |true=>cases iw:sW P lt im ops o fr V n (QW hs)with|none=>exact stop (by simp only[bW,hg,iw])|some r=>obtain⟨k,s,jc,V1,n1,t,b⟩:=r;exact step (t:=t) (b:=b) (eD:= .ops ops l D) (pA:=ks) (jc:=jc) (V1:=V1) (n1:=n1) (sd:=QX t hs) (by cases t<;>cases b<;>simp only[bW,hg,iw,QX,kE])
  |eW ops l D pre=>
   cases l with
   |nil=>
    have:=ih (.ext .normal) ks fr V n hs tr ob ((ops,pre)::dr)
    exact⟨this.1,this.2.1,λp hp=>this.2.2 p (List.mem_cons_of_mem _ hp)⟩
   |cons o l=>
    cases hg:Uf ops fr o.guard D with
    |false=>cases hd:Ug (nd hs) o.guard with|none=>exact stop (by simp only[bW,hg,hd])|some j=>exact next (sd:=(nd hs).tail) (by simp only[bW,hg,hd];rfl)
    |true=>
     cases iw:sW P lt im ops o fr V n (QW hs)with
     |none=>exact stop (by simp only[bW,hg,iw])
     |some r=>
      obtain⟨k,s,jc,V1,n1,t,b⟩:=r
      by_cases hk:k=3
      .subst hk;exact stop (by simp only[bW,hg,iw])
      .exact step (t:=t) (b:=b) (eD:= .eW ops l D (k::pre)) (pA:=ks) (jc:=jc) (V1:=V1) (n1:=n1) (sd:=QX t hs) (by cases t<;>cases b<;>simp only[bW,hg,iw,QX,kE])
  |ext e=>
   cases ks with
   |nil=>exact stop (by cases e<;>rfl)
   |cons x ks=>
    cases x with
    |seq y=>cases e<;>exact next O
    |LU id=>cases e with
     |exit DF=>
      cases hb:Nat.beq DF id with
      |true=>exact next (eD:= .ext .normal) (pA:=ks) (by show(match Nat.beq DF id with|true=>_|false=>_)=_;rw[hb])
      |false=>exact next (eD:= .ext (.exit DF)) (pA:=ks) (by show(match Nat.beq DF id with|true=>_|false=>_)=_;rw[hb])
     |_=>exact next O
    |lp c=>cases e with|normal=>exact stop O|_=>exact next O
    |za=>cases e with|normal=>exact stop O|_=>exact next O
structure Ve (R:XR):Prop where
 tr:∀p∈R.tr,p.1=p.2
 ob:∀p∈R.ob,0<=p.1/\p.1 <p.2
 dr:∀p∈R.dr,sX p.1 p.2.reverse=true
def Gr (h h':AH) (V V':View) (n':Nat):Prop:=HV h' V'/\h'.n=n'/\(∀h0 ids,HI h0 ids h V->HI h0 ids h' V')/\h'.nt=h.nt/\h'.bV=h.bV/\h.n<=n'/\(V=[]->n'=h.n->V'=[]/\h'=h)
theorem Gr.trans {h h1 h2:AH} {V V1 V2:View} {n1 n2:Nat} (a:Gr h h1 V V1 n1) (b:Gr h1 h2 V1 V2 n2):Gr h h2 V V2 n2:=
 ⟨b.1,b.2.1,λh0 ids H=>b.2.2.1 h0 ids (a.2.2.1 h0 ids H),b.2.2.2.1.trans a.2.2.2.1,b.2.2.2.2.1.trans a.2.2.2.2.1,Nat.le_trans (a.2.1▸a.2.2.2.2.2.1) b.2.2.2.2.2.1,λe1 e2=>by
  have q1:=a.2.2.2.2.2.1
  have q2:=b.2.2.2.2.2.1
  have q3:=a.2.1
  obtain⟨r1,r2⟩:=a.2.2.2.2.2.2 e1 (by omega);obtain⟨r3,r4⟩:=b.2.2.2.2.2.2 r1 (by omega);exact⟨r3,r4.trans r2⟩⟩
theorem AL.jr {o:Oper} {ops l:List Oper} {s:Slot} {h h1:AH} {fr:ay} {K:ay->AH->Prop} (st:ag P lt ops o fr h s h1) (H:AL P lt ops l (fr.put o.dst s) h1 K):AL P lt ops (o::l) fr h K:=AL.any (λg0 w0 a w Q K S hK=>st fr O O (λ_ _=>rfl) g0 w0 a w Q K S hK) H
theorem jt {o:Oper} {ops l:List Oper} {s:Slot} {h h1:AH} {fr:ay} {kd:Nat} {D pre:List Nat} {ks:List Kt} (hk:(kd=0/\h1=h/\∀h,ag P lt ops o fr h s h)\/(kd=1/\h1=h/\ag P lt ops o fr h s h)\/(kd=2/\ag P lt ops o fr h s h1))
 (H:XS P lt C (.eW ops l D (kd::pre)) ks (fr.put o.dst s) h1):XS P lt C (.eW ops (o::l) D pre) ks fr h:=by
 intro k;rcases hk with⟨rfl,rfl,st⟩|⟨rfl,rfl,st⟩|⟨rfl,st⟩
 .obtain⟨aD,hs,aB,h',⟨q1,q2⟩,T⟩:=H k;exact⟨_,_,_,_,⟨by simpa using q1,q2⟩,.free st T⟩
 .obtain⟨aD,hs,aB,h',⟨q1,q2⟩,T⟩:=H k;exact⟨_,_,_,_,⟨by simpa using q1,q2⟩,.read st T⟩
 .obtain⟨aD,hs,aB,h',⟨q1,q2⟩,T⟩:=H (k+1);exact⟨_,_,_,_,⟨by simpa using q1,q2⟩,.LA st T⟩
theorem AC.O1 {id:Nat} {ops:List Oper} {fr:ay} {h:AH} (hm:P.follows .mixedOrders=true) (H:∀k,AD P lt ops ops fr h k (DK ops [] (C .normal))):AC P lt (.region id ops.toArray true) fr h C:=by refine AC.drawn hm ?_;obtain⟨aD,hs,aB,h',⟨q1,q2⟩,T⟩:=H 0;refine⟨aD,hs,aB,h',?_,T⟩;simp only[List.reverse_nil,List.nil_append,sX,Bool.and_eq_true]at q1;exact⟨_,[],O,q1.1,List.isEmpty_iff.1 q1.2,trivial,q2⟩
theorem Il (hm:P.follows .mixedOrders=true):∀(f:Nat) (cur:Dj) (ks:List Kt) (fr:ay) (V:View) (n:Nat) (hs:List Nat) (tr:List (Nat×Nat)) (ob:List (Int×Nat)) (dr:List (List Oper×List Nat)) (h:AH),
 Ve (bW P lt im f cur ks fr V n hs tr ob dr)->HV h V->h.n=n->
 (∀h',Gr h h' V (bW P lt im f cur ks fr V n hs tr ob dr).V (bW P lt im f cur ks fr V n hs tr ob dr).n->XS P lt C (bW P lt im f cur ks fr V n hs tr ob dr).cur (bW P lt im f cur ks fr V n hs tr ob dr).ks (bW P lt im f cur ks fr V n hs tr ob dr).fr h')->
 XS P lt C cur ks fr h:=by
 intro f
 induction f with
 |zero=>intro cur ks fr V n hs tr ob dr h hR hv hn K;exact K h ⟨hv,hn,λ_ _ H=>H,O,O,Nat.le_of_eq hn,λe _=>⟨e,O⟩⟩
 |succ f ih=>
  intro cur ks fr V n hs tr ob dr h hR hv hn K;have stop:bW P lt im (f+1) cur ks fr V n hs tr ob dr=⟨cur,ks,fr,V,n,tr,ob,dr⟩->XS P lt C cur ks fr h:=λe=>by rw[e]at K;exact K h ⟨hv,hn,λ_ _ H=>H,O,O,Nat.le_of_eq hn,λe _=>⟨e,O⟩⟩
  have LV:∀{eD pA sd},bW P lt im (f+1) cur ks fr V n hs tr ob dr=bW P lt im f eD pA fr V n sd tr ob dr->XS P lt C eD pA fr h:=λ{eD pA sd} e=>by rw[e]at K hR;exact ih eD pA fr V n sd tr ob dr h hR hv hn K
  have next:∀{eD pA},bW P lt im (f+1) cur ks fr V n hs tr ob dr=bW P lt im f eD pA fr V n hs tr ob dr->XS P lt C eD pA fr h:=λe=>LV e
  have LW:∀{ops o r} {eD:Nat->Dj},sW P lt im ops o fr V n (QW hs)=some r->
   bW P lt im (f+1) cur ks fr V n hs tr ob dr=bW P lt im f (eD r.1) ks r.2.2.1 r.2.2.2.1 r.2.2.2.2.1 (QX r.2.2.2.2.2.1 hs) (kE r.2.2.2.2.2.1 tr) (kE r.2.2.2.2.2.2 ob) dr->
   OX P lt ops o fr h V n r/\∀h1,Gr h h1 V r.2.2.2.1 r.2.2.2.2.1->XS P lt C (eD r.1) ks r.2.2.1 h1:=λ{ops o r eD} sd e=>by
   rw[e]at K hR;have O2:=sY (P:=P) (lt:=lt) (im:=im) f (eD r.1) ks r.2.2.1 r.2.2.2.1 r.2.2.2.2.1 (QX r.2.2.2.2.2.1 hs) (kE r.2.2.2.2.2.1 tr) (kE r.2.2.2.2.2.2 ob) dr;refine⟨LS hv hn sd (λa b q=>?_) (λa b q=>?_),λh1 XV=>?_⟩
   .exact hR.tr _ (O2.1 (a,b) (by rw[q];simp[kE]))
   .exact hR.ob _ (O2.2.1 (a,b) (by rw[q];simp[kE]))
   .exact ih _ _ _ _ _ _ _ _ _ h1 hR XV.1 XV.2.1 λh' p'=>K h' (XV.trans p')
  have DX:∀{h1:AH} {V1:View} {n1:Nat},V1=V->n1=n->h1=h->Gr h h1 V V1 n1:=λe1 e2 e3=>by subst e1 e2 e3;exact⟨hv,hn,λ_ _ H=>H,O,O,Nat.le_of_eq hn,λe _=>⟨e,O⟩⟩
  cases cur with
  |code c=>
   cases c with
   |seq x y=>exact AC.seq (next (eD:= .code x) (pA:= .seq y::ks) O)
   |region id ops d=>
    obtain⟨l⟩:=ops
    cases d with|false=>exact AC.region (next (eD:= .ops l l []) O)|true=>exact AC.O1 hm (next (eD:= .eW l l [] []) O)
   |skip=>exact AC.skip (next (eD:= .ext .normal) O)
   |ret=>exact AC.ret (next (eD:= .ext .ret) O)
   |exit id=>exact AC.exit (next (eD:= .ext (.exit id)) O)
   |block id c=>exact AC.block (next (eD:= .code c) (pA:= .LU id::ks) O)
   |cond c x y=>
    cases hd:XQ (nd hs)with
    |none=>exact stop (by simp only[bW,hd])
    |some b=>
     cases b with
     |true=>
      have e:bW P lt im (f+1) (.code (.cond c x y)) ks fr V n hs tr ob dr=bW P lt im f (.code x) ks fr V n (nd hs).tail ((Ik (fr.ev c),1)::tr) ob dr:=by simp only[bW,hd]
      rw[e]at K hR;exact AC.ct (XT (hR.tr _ ((sY f (.code x) ks fr V n (nd hs).tail ((Ik (fr.ev c),1)::tr) ob dr).1 (Ik (fr.ev c),1) (by simp)))) (ih _ _ _ _ _ _ _ _ _ h hR hv hn K)
     |false=>
      have e:bW P lt im (f+1) (.code (.cond c x y)) ks fr V n hs tr ob dr=bW P lt im f (.code y) ks fr V n (nd hs).tail ((Ik (fr.ev c),0)::tr) ob dr:=by simp only[bW,hd]
      rw[e]at K hR;exact AC.cf (XU (hR.tr _ ((sY f (.code y) ks fr V n (nd hs).tail ((Ik (fr.ev c),0)::tr) ob dr).1 (Ik (fr.ev c),0) (by simp)))) (ih _ _ _ _ _ _ _ _ _ h hR hv hn K)
   |_=>exact stop O
  |ops ops l D=>
   cases l with
   |nil=>exact AL.nil (next (eD:= .ext .normal) O)
   |cons o l=>
    cases hg:Uf ops fr o.guard D with
    |false=>cases hd:Ug (nd hs) o.guard with|none=>exact stop (by simp only[bW,hg,hd])|some j=>exact LV (eD:= .ops ops (o::l) (j::D)) (sd:=(nd hs).tail) (by simp only[bW,hg,hd])
    |true=>
     cases iw:sW P lt im ops o fr V n (QW hs)with
     |none=>exact stop (by simp only[bW,hg,iw])
     |some r=>
      obtain⟨k,s,jc,V1,n1,t,b⟩:=r;obtain⟨q1,q2⟩:=LW (eD:=λ_=> .ops ops l D) iw (by cases t<;>cases b<;>simp only[bW,hg,iw,QX,kE]);simp only at q2;rcases q1 with⟨rfl,rfl,e1,e2,st⟩|⟨rfl,rfl,e1,e2,st⟩|⟨rfl,rfl,h1,st,p⟩|⟨rfl,e1,e2,st⟩
      .exact AL.jr (st h) (q2 h (DX e1 e2 O))
      .exact AL.jr st (q2 h (DX e1 e2 O))
      .exact AL.jr st (q2 h1 p)
      .exact AL.step (st h) (q2 h (DX e1 e2 O))
  |eW ops l D pre=>
   cases l with
   |nil=>
    have e:bW P lt im (f+1) (.eW ops [] D pre) ks fr V n hs tr ob dr=bW P lt im f (.ext .normal) ks fr V n hs tr ob ((ops,pre)::dr):=rfl
    rw[e]at K hR;have O2:=sY (P:=P) (lt:=lt) (im:=im) f (.ext .normal) ks fr V n hs tr ob ((ops,pre)::dr);intro k;refine⟨[],[],fr,h,⟨?_,ih _ _ _ _ _ _ _ _ _ h hR hv hn K⟩,.nil⟩;have:=hR.dr _ (O2.2.2 (ops,pre) (by simp));simpa using this
   |cons o l=>
    cases hg:Uf ops fr o.guard D with
    |false=>cases hd:Ug (nd hs) o.guard with|none=>exact stop (by simp only[bW,hg,hd])|some j=>exact LV (eD:= .eW ops (o::l) (j::D) pre) (sd:=(nd hs).tail) (by simp only[bW,hg,hd])
    |true=>
     cases iw:sW P lt im ops o fr V n (QW hs)with
     |none=>exact stop (by simp only[bW,hg,iw])
     |some r=>
      obtain⟨k,s,jc,V1,n1,t,b⟩:=r
      by_cases hk:k=3
      .subst hk;exact stop (by simp only[bW,hg,iw])
      .obtain⟨q1,q2⟩:=LW (eD:=λk=> .eW ops l D (k::pre)) iw (by cases t<;>cases b<;>simp only[bW,hg,iw,QX,kE]);simp only at q2;rcases q1 with⟨rfl,rfl,e1,e2,st⟩|⟨rfl,rfl,e1,e2,st⟩|⟨rfl,rfl,h1,st,p⟩|⟨rfl,e1,e2,st⟩
       .exact jt (.inl ⟨O,O,st⟩) (q2 h (DX e1 e2 O))
       .exact jt (.inr (.inl ⟨O,O,st⟩)) (q2 h (DX e1 e2 O))
       .exact jt (.inr (.inr ⟨O,st⟩)) (q2 h1 p)
       .exact absurd O hk
  |ext e=>
   cases ks with
   |nil=>exact stop (by cases e<;>rfl)
   |cons x ks=>
    cases x with
    |seq y=>cases e with|normal=>exact next (eD:= .code y) (pA:=ks) O|ret=>exact next (eD:= .ext _) (pA:=ks) O|exit id=>exact next (eD:= .ext (.exit id)) (pA:=ks) O|_=>exact next (eD:= .ext _) (pA:=ks) O
    |LU id=>cases e with
     |exit DF=>
      show uH id _ (.exit DF) fr h
      cases hb:Nat.beq DF id with
      |true=>simp only[uH,hb];exact next (eD:= .ext .normal) (pA:=ks) (by show(match Nat.beq DF id with|true=>_|false=>_)=_;rw[hb])
      |false=>simp only[uH,hb];exact next (eD:= .ext (.exit DF)) (pA:=ks) (by show(match Nat.beq DF id with|true=>_|false=>_)=_;rw[hb])
     |normal=>exact next (eD:= .ext .normal) (pA:=ks) O
     |ret=>exact next (eD:= .ext .ret) (pA:=ks) O
     |_=>exact next (eD:= .ext _) (pA:=ks) O
    |lp c=>cases e with|normal=>exact stop O|ret=>exact next (eD:= .ext .ret) (pA:=ks) O|exit id=>exact next (eD:= .ext (.exit id)) (pA:=ks) O|_=>exact next (eD:= .ext _) (pA:=ks) O
    |za=>cases e with|normal=>exact stop O|ret=>exact next (eD:= .ext .ret) (pA:=ks) O|exit id=>exact next (eD:= .ext (.exit id)) (pA:=ks) O|_=>exact next (eD:= .ext _) (pA:=ks) O
end
section
variable {P:Program} {lt:LT} {C:Exit->ay->AH->Prop} {h h0:AH} {ids:List Nat} {V:View} {fr aB:ay} {cur dE:Dj} {ks ji:List Kt} {V':View} {n':Nat}
theorem N9 (im:List Nat) (hm:P.follows .mixedOrders=true) {ob:List (Int×Nat)} {dr:List (List Oper×List Nat)}
 (hx:bW P lt im 3000 cur ks fr [] h.n [] [] [] []=⟨dE,ji,aB,V',h.n,[],ob,dr⟩) (hd:(dr.all λp=>sX p.1 p.2.reverse)=true) (hb:∀p∈ob,0<=p.1/\p.1 <p.2)
 (K:XS P lt C dE ji aB h):XS P lt C cur ks fr h:=by
 refine Il (im:=im) hm 3000 cur ks fr [] h.n [] [] [] [] h ⟨?_,?_,?_⟩ trivial O ?_
 .rw[hx];intro p hp;simp at hp
 .rw[hx];exact hb
 .rw[hx];intro p hp;exact List.all_eq_true.1 hd p hp
 .rw[hx];intro h' p;obtain⟨_,rfl⟩:=p.2.2.2.2.2.2 O O;exact K
theorem af {c:Operand} {x y:Code} {b:Bool} (hc:fr.ev c= .v (.bool b)) (ht:b=true->XS P lt C (.code x) ks fr h) (hf:b=false->XS P lt C (.code y) ks fr h):XS P lt C (.code (.cond c x y)) ks fr h:=AC.cond hc ht hf
theorem jI {c:Operand} {x y:Code} (hc:fr.ev c= .v (.bool true)) (H:XS P lt C (.code x) ks fr h):XS P lt C (.code (.cond c x y)) ks fr h:=AC.ct hc H
theorem cX {c:Operand} {x y:Code} (hc:fr.ev c= .v (.bool false)) (H:XS P lt C (.code y) ks fr h):XS P lt C (.code (.cond c x y)) ks fr h:=AC.cf hc H
theorem TV {c:Code} (H:AW P lt c fr h (kY P lt C ks)):XS P lt C (.code (.loop c)) ks fr h:=AC.loop H
theorem I7 {c:Code} (H:XS P lt C (.code c) (.lp c::ks) fr h):AW P lt c fr h (kY P lt C ks):=AW.round H
theorem qL {t:Tmp} {s:Slot} (hf:fr.f t=s):fr.bf t s=fr:=by
 obtain⟨n,f,loc,df⟩:=fr;simp only[ay.bf]
 congr 1
 funext k
 split
 .rename_i hb;have hb:=Nat.eq_of_beq_eq_true hb;subst hb;exact hf.symm
 .rfl
theorem Vf {t:Tmp} {x:AV} (h:fr.ev (.tmp t)= .v x):fr.f t= .v x:=by
 simp only[ay.ev]at h;split at h
 .exact h
 .cases h
theorem aj {o:Oper} {ops l:List Oper} {D:List Nat} {j:Nat} {t:Tmp} {want b:Bool} (hq:(o.guard,DD ops j,fr.ev (.tmp t))=(some (j,want),some t,.v (.bool b)))
 (ht:b=true->XS P lt C (.ops ops (o::l) (j::D)) ks (fr.bf t (.v (.bool true))) h) (hf:b=false->XS P lt C (.ops ops (o::l) (j::D)) ks (fr.bf t (.v (.bool false))) h):XS P lt C (.ops ops (o::l) D) ks fr h:=by
 injection hq with hg hq
 injection hq with hj hb
 have e:=Vf hb
 cases b with|true=>have:=ht O;rw[qL e]at this;exact this|false=>have:=hf O;rw[qL e]at this;exact this
theorem aR {o:Oper} {ops l:List Oper} {D pre:List Nat} {j:Nat} {t:Tmp} {want b:Bool} (hq:(o.guard,DD ops j,fr.ev (.tmp t))=(some (j,want),some t,.v (.bool b)))
 (ht:b=true->XS P lt C (.eW ops (o::l) (j::D) pre) ks (fr.bf t (.v (.bool true))) h) (hf:b=false->XS P lt C (.eW ops (o::l) (j::D) pre) ks (fr.bf t (.v (.bool false))) h):XS P lt C (.eW ops (o::l) D pre) ks fr h:=by
 injection hq with hg hq
 injection hq with hj hb
 have e:=Vf hb
 cases b with|true=>have:=ht O;rw[qL e]at this;exact this|false=>have:=hf O;rw[qL e]at this;exact this
abbrev eF (P:Program) (f:FuncId):Prop:=∀(vs:Array Value) (w:World),(callFunc f vs).run P w= .ok (.enter f vs) w
theorem ae {o:Oper} {ops l:List Oper} {D:List Nat} {f:FuncId} {args:List AV} {Q:AV->AH->Prop} {d:Tmp} (hc:(eh fr o.op,au ops fr o.guard,o.dst)=(some (f,args),some true,some d)) (hf:eF P f)
 (H:al P f args h Q) (K:∀v h1,Q v h1->XS P lt C (.ops ops l D) ks (fr.bf d (.v v)) h1):XS P lt C (.ops ops (o::l) D) ks fr h:=by
 injection hc with hc hg
 injection hg with hg hd
 exact AL.gP hc hg hf H hd K
theorem wZ {o:Oper} {ops l:List Oper} {D:List Nat} {x:Operand} {f:FuncId} {args eV:List AV} {Q:AV->AH->Prop} {d:Tmp} (hc:sV fr o.op=some (x,args)) (hx:fr.ev x= .v (.pG f eV)) (hg:au ops fr o.guard=some true) (hf:eF P f) (hd:o.dst=some d)
 (H:al P f (args++eV) h Q) (K:∀v h1,Q v h1->XS P lt C (.ops ops l D) ks (fr.bf d (.v v)) h1):XS P lt C (.ops ops (o::l) D) ks fr h:=
 AL.RP hc hx hg hf H hd K
theorem jJ {o:Oper} {ops l:List Oper} {D pre:List Nat} {f:FuncId} {args:List AV} {Q:AV->AH->Prop} {d:Tmp} (hc:(eh fr o.op,au ops fr o.guard,o.dst)=(some (f,args),some true,some d)) (hf:eF P f)
 (H:al P f args h Q) (K:∀v h1,Q v h1->XS P lt C (.eW ops l D (2::pre)) ks (fr.bf d (.v v)) h1):XS P lt C (.eW ops (o::l) D pre) ks fr h:=by
 injection hc with hc hg
 injection hg with hg hd
 obtain⟨v,h1,q,r⟩:=H;refine jt (s:= .v v) (h1:=h1) (kd:=2) (.inr (.inr ⟨O,ag.call hc hg hf r⟩)) ?_;rw[hd];exact K v h1 q
theorem QG {o:Oper} {ops l:List Oper} {D pre:List Nat} {f:FuncId} {args:List AV} {v:AV} {d:Tmp} (hc:(eh fr o.op,au ops fr o.guard,o.dst)=(some (f,args),some true,some d)) (hf:eF P f)
 (H:∀h,aP P f args h v h) (K:XS P lt C (.eW ops l D (0::pre)) ks (fr.bf d (.v v)) h):XS P lt C (.eW ops (o::l) D pre) ks fr h:=by
 injection hc with hc hg
 injection hg with hg hd
 refine jt (s:= .v v) (h1:=h) (kd:=0) (.inl ⟨O,O,λh=>ag.call hc hg hf (H h)⟩) ?_;rw[hd];exact K
theorem ba {o:Oper} {ops l:List Oper} {D:List Nat} {s:Slot} {d:Tmp} (st:∀h,ag P lt ops o fr h s h) (hd:o.dst=some d) (K:XS P lt C (.ops ops l D) ks (fr.bf d s) h):XS P lt C (.ops ops (o::l) D) ks fr h:=by refine AL.jr (st h) ?_;rw[hd];exact K
theorem bp {o:Oper} {ops l:List Oper} {D pre:List Nat} {s:Slot} {d:Tmp} (st:∀h,ag P lt ops o fr h s h) (hd:o.dst=some d) (K:XS P lt C (.eW ops l D (0::pre)) ks (fr.bf d s) h):XS P lt C (.eW ops (o::l) D pre) ks fr h:=by refine jt (s:=s) (h1:=h) (kd:=0) (.inl ⟨O,O,st⟩) ?_;rw[hd];exact K
theorem az {f:FuncId} {c:Code} {n:Nat} {rs:List ResultVar} {fn:Func} {args:List AV} {Q:AV->AH->Prop} (lt:LT) (I:Jl P f c n rs fn) (hn:Nat.ble args.length n=true) (H:XS P lt (DU P rs Q) (.code c) [] (ay.enter n args) h):al P f args h Q:=al.of I lt hn H
theorem Rp {rs:List ResultVar} {Q:AV->AH->Prop} {v:AV} (hv:fu P fr h rs=some v) (q:Q v h):XS P lt (DU P rs Q) (.ext .ret) [] fr h:=⟨v,hv,q⟩
theorem WQ {rs:List ResultVar} {Q:AV->AH->Prop} {v:AV} (hv:fu P fr h rs=some v) (q:Q v h):XS P lt (DU P rs Q) (.ext .normal) [] fr h:=⟨v,hv,q⟩
theorem I8 {h1:AH} (G:∀g0 w0 a w,AS lt h fr g0 w0 a w->AS lt h1 aB g0 w0 a w) {c:Code} (H:XS P lt C (.code c) ks aB h1):XS P lt C (.code c) ks fr h:=by obtain⟨e,kX,h2,k,r⟩:=H;exact⟨e,kX,h2,k,λg0 w0 a w S=>r g0 w0 a w (G g0 w0 a w S)⟩
theorem yW {h1:AH} (G:∀g0 w0 a w,AS lt h fr g0 w0 a w->AS lt h1 aB g0 w0 a w) {ops l:List Oper} {D:List Nat} (H:XS P lt C (.ops ops l D) ks aB h1):XS P lt C (.ops ops l D) ks fr h:=by obtain⟨kX,h2,k,r⟩:=H;exact⟨kX,h2,k,λg0 w0 a w Q S hQ=>r g0 w0 a w Q (G g0 w0 a w S) hQ⟩
theorem HI.take {k:Nat} (H:HI h0 ids h V):HI h0 ids h (V.take k):=by refine⟨HV.of (λe he=>H.hv.get (List.mem_of_mem_take he)) ?_,H.kp,λe he=>H.new e (List.mem_of_mem_take he)⟩;have:=H.hv.nodup;rw[List.map_take];exact this.sublist (List.take_sublist _ _)
theorem mu.Vh {n:Nat} {loc:Nat->List AV} {l:List (Nat×AV)} (hn:fr.n=n) (hd:fr.df=[]) (hl:holds fr l):mu lt fr ((ay.bare n loc).zD l):=by induction l with|nil=>exact mu.bare hn hd|cons x l ih=>exact mu.put (ih hl.2) hl.1
def Vi (fr:ay):List (Nat×AV)->List Slot
 |[]=>[]
 |(d,_)::r=>fr.f d::Vi fr r
def Vj:List (Nat×AV)->List Slot
 |[]=>[]
 |(_,x)::r=> .v x::Vj r
theorem holds_of {l:List (Nat×AV)} (h:Vi fr l=Vj l):holds fr l:=by induction l with|nil=>trivial|cons x l ih=>injection h with h1 h2;exact⟨h1,ih h2⟩
abbrev HQ (fr:ay) (n:Nat) (l:List (Nat×AV)):Prop:=(fr.n,fr.df,Vi fr l)=(n,[],Vj l)
theorem HQ.mk {n:Nat} {l:List (Nat×AV)} (h:(fr.n,fr.df)=(n,[])) (hl:holds fr l):HQ fr n l:=by
 injection h with h1 h2
 have:Vi fr l=Vj l:=by
  clear h1 h2
  induction l with|nil=>rfl|cons x l ih=>simp only[Vi,Vj,hl.1,ih hl.2]
 rw[HQ,h1,h2,this]
theorem mu.sl {n:Nat} {loc:Nat->List AV} {l:List (Nat×AV)} (h:HQ fr n l):mu lt fr ((ay.bare n loc).zD l):=by
 injection h with h1 h2
 injection h2 with h2 h3
 exact mu.Vh h1 h2 (holds_of h3)
theorem fg {c:Code} {σ:Type} (m:σ->Nat) (n:Nat) (S:σ->List (Nat×AV)) (I:σ->AH->Prop) (s0:σ) (hl:HQ fr n (S s0)) (hI:I s0 h)
 (step:∀s h,I s h->(∀s' {h' aB},m s' <m s->HQ aB n (S s')->I s' h'->XS P lt C (.ext .normal) (.lp c::ks) aB h')->XS P lt C (.code c) (.lp c::ks) ((ay.bare n λ_=>[]).zD (S s)) h):
 XS P lt C (.code (.loop c)) ks fr h:=by
 have main:∀(k:Nat) (s:σ) (h:AH),m s <k->I s h->AW P lt c ((ay.bare n λ_=>[]).zD (S s)) h (kY P lt C ks):=by
  intro k
  induction k with|zero=>intro s h hk;omega|succ k ih=>intro s h hk hI;exact I7 (step s h hI λs' h' aB hm hl hI'=>AW.se (mu.sl hl) (ih s' h' (by omega) hI'))
 exact AC.loop (AW.se (mu.sl hl) (main _ s0 h (Nat.lt_succ_self _) hI))
theorem ia {o:Oper} {ops l:List Oper} {D:List Nat} {t:TypeId} {x:Operand} {lo hi:Option Operand} {s:List UInt8} {a b:Nat} {d:Tmp} (ho:o.op= .slice t x lo hi none) (hw:au ops fr o.guard=some true) (ht:P.underlying t=some .string) (ex:fr.ev x= .v (.str s))
 (h1:eL fr lo 0=some a) (h2:eL fr hi s.length=some b) (h3:a<=b) (h4:b<=s.length) (hd:o.dst=some d) (K:XS P lt C (.ops ops l D) ks (fr.bf d (.v (.str ((s.take b).drop a)))) h):XS P lt C (.ops ops (o::l) D) ks fr h:=
 ba (ag.jo ho hw ht ex h1 h2 h3 h4) hd K
theorem fR {o:Oper} {ops l:List Oper} {D pre:List Nat} {t:TypeId} {x:Operand} {lo hi:Option Operand} {s:List UInt8} {a b:Nat} {d:Tmp} (ho:o.op= .slice t x lo hi none) (hw:au ops fr o.guard=some true) (ht:P.underlying t=some .string) (ex:fr.ev x= .v (.str s))
 (h1:eL fr lo 0=some a) (h2:eL fr hi s.length=some b) (h3:a<=b) (h4:b<=s.length) (hd:o.dst=some d) (K:XS P lt C (.eW ops l D (0::pre)) ks (fr.bf d (.v (.str ((s.take b).drop a)))) h):XS P lt C (.eW ops (o::l) D pre) ks fr h:=
 bp (ag.jo ho hw ht ex h1 h2 h3 h4) hd K
end
section
variable {P:Program} {lt:LT} {C:Exit->ay->AH->Prop} {h h0 h1:AH} {ids:List Nat} {V:View} {fr aB:ay} {ks:List Kt}
def iY:List AV->AV
 |[x]=>x
 |xs=> .cN xs
def wa (P:Program) (fr:ay) (V:View):List Nat->List ResultVar->Option (List AV×List (Nat×Nat))
 |_,[]=>some ([],[])
 |js,.tmp t::rs=>match fr.ev (.tmp t),wa P fr V js rs with| .v x,some (xs,tr)=>some (x::xs,tr)|_,_=>none
 |js,.cell a t::rs=>match fr.ev (.tmp a),nK (QW js) V,wa P fr V js.tail rs with
  | .v (.ptr ob off),some (o',cs),some (xs,tr)=>match xe P t,kW P t with
   |some b,some m=>match AV.ld b m cs off with|some y=>some (y::xs,(ob,o')::tr)|none=>none
   |_,_=>none
  |_,_,_=>none
theorem oi (H:HV h V):∀{rs:List ResultVar} {js:List Nat} {xs:List AV} {tr:List (Nat×Nat)},wa P fr V js rs=some (xs,tr)->tr.map (·.1)=tr.map (·.2)->oV P fr h rs=some xs
 |[],js,xs,tr,hx,ht=>by simp only[wa]at hx;injection hx with hx;injection hx with h1 h2;subst h1;rfl
 | .tmp t::rs,js,xs,tr,hx,ht=>by
  simp only[wa]at hx;split at hx
  case h_2=>cases hx
  rename_i x QY tr' e1 e2;injection hx with hx
  injection hx with q1 q2
  subst q1 q2;have:=oi H e2 ht;simp only[oV,sR,e1,this]
 | .cell a t::rs,js,xs,tr,hx,ht=>by
  simp only[wa]at hx;split at hx
  case h_2=>cases hx
  rename_i ob off o' cs QY tr' e1 e2 e3;split at hx
  case h_2=>cases hx
  rename_i b m e4 e5;split at hx
  case h_2=>cases hx
  rename_i y e6;injection hx with hx
  injection hx with q1 q2
  subst q1 q2;simp only[List.map_cons,List.cons.injEq]at ht;obtain⟨h1,h2⟩:=ht;subst h1;have:=oi H e3 h2;simp only[oV,sR,rG,e1,e4,e5,(H.get (jq e2)).1,e6,this]
theorem kF {rs:List ResultVar} {xs:List AV} (hd:fr.df=[]) (hx:oV P fr h rs=some xs):fu P fr h rs=some (iY xs):=by
 simp only[fu,hd,gk,hx]
 match xs with
 |[]=>rfl
 |[x]=>rfl
 |_::_::_=>rfl
theorem ab {rs:List ResultVar} {Q:AV->AH->Prop} {xs:List AV} {tr:List (Nat×Nat)} (js:List Nat) (H:HI h0 ids h V) (hx:wa P fr V js rs=some (xs,tr)) (q:Q (iY xs) h) (ht:tr.map (·.1)=tr.map (·.2):=by rfl) (hd:fr.df=[]:=by rfl): XS P lt (DU P rs Q) (.ext .ret) [] fr h:=Rp (kF hd (oi H.hv hx ht)) q
theorem cy {rs:List ResultVar} {Q:AV->AH->Prop} {xs:List AV} {tr:List (Nat×Nat)} (js:List Nat) (H:HI h0 ids h V) (hx:wa P fr V js rs=some (xs,tr)) (q:Q (iY xs) h) (ht:tr.map (·.1)=tr.map (·.2):=by rfl) (hd:fr.df=[]:=by rfl): XS P lt (DU P rs Q) (.ext .normal) [] fr h:=WQ (kF hd (oi H.hv hx ht)) q
theorem Oa {rs:List ResultVar} {Q:AV->AH->Prop} {xs:List AV} (hx:wa P fr [] [] rs=some (xs,[])) (q:Q (iY xs) h) (hd:fr.df=[]:=by rfl):XS P lt (DU P rs Q) (.ext .ret) [] fr h:=Rp (kF hd (oi (V:=[]) trivial hx rfl)) q
theorem I9 {o:Oper} {ops l:List Oper} {D pre:List Nat} {f:FuncId} {args:List AV} {Q:AV->Prop} {d:Tmp} (hc:(eh fr o.op,au ops fr o.guard,o.dst)=(some (f,args),some true,some d)) (hf:eF P f)
 (H:∃v,Q v/\∀h,aP P f args h v h) (K:∀v,Q v->XS P lt C (.eW ops l D (0::pre)) ks (fr.bf d (.v v)) h):XS P lt C (.eW ops (o::l) D pre) ks fr h:=by
 obtain⟨v,q,r⟩:=H;exact QG hc hf r (K v q)
theorem al.pure {f:FuncId} {args:List AV} {v:AV} (H:∀h,al P f args h λv' h'=>v'=v/\h=h'):∀h,aP P f args h v h:=λh=>by obtain⟨v',h',⟨rfl,rfl⟩,r⟩:=H h;exact r
theorem ug {c:Operand} {x y:Code} {b:Bool} (hc:fr.ev c= .v (.bool b)) (hb:b=true) (H:XS P lt C (.code x) ks fr h):XS P lt C (.code (.cond c x y)) ks fr h:=af hc (λ_=>H) (λe=>by rw[hb]at e;cases e)
theorem Rq {c:Operand} {x y:Code} {b:Bool} (hc:fr.ev c= .v (.bool b)) (hb:b=false) (H:XS P lt C (.code y) ks fr h):XS P lt C (.code (.cond c x y)) ks fr h:=af hc (λe=>by rw[hb]at e;cases e) (λ_=>H)
theorem lC {c:Operand} {x y z:Code} {b:Bool} {σ:Type} (n:Nat) (S:σ->List (Nat×AV)) (I:σ->AH->Prop) (hc:fr.ev c= .v (.bool b))
 (ht:b=true->(∀s {h aB},HQ aB n (S s)->I s h->XS P lt C (.ext .normal) (.za:: .seq z::ks) aB h)->XS P lt C (.code x) (.za:: .seq z::ks) fr h)
 (hf:b=false->(∀s {h aB},HQ aB n (S s)->I s h->XS P lt C (.ext .normal) (.za:: .seq z::ks) aB h)->XS P lt C (.code y) (.za:: .seq z::ks) fr h)
 (join:∀s h,I s h->XS P lt C (.code z) ks ((ay.bare n λ_=>[]).zD (S s)) h):XS P lt C (.code (.cond c x y)) (.seq z::ks) fr h:=by
 have J:∀s {h aB},HQ aB n (S s)->I s h->XS P lt C (.ext .normal) (.seq z::ks) aB h:=λs h aB h1 h4=>AC.se (mu.sl h1) (join s h h4)
 exact af hc (λe=>ht e J) (λe=>hf e J)
theorem HI.nil:HI h ids h []:=⟨trivial,.refl,by simp⟩
theorem HI.one {o:Nat} {cs:List AV} (hg:h.get o=some (.cells cs)) (ho:o <h.n):HI h [o] h [(o,cs)]:=⟨⟨⟨hg,ho,by simp⟩,trivial⟩,.refl,by simp⟩
theorem HI.at_ {o:Nat} {cs:List AV} {V:View} (H:HI h0 ids h ((o,cs)::V)):h.get o=some (.cells cs)/\o <h.n:=⟨H.hv.1.1,H.hv.1.2.1⟩
theorem HI.jM {e:Nat×List AV} {o:Nat} {cs:List AV} {V:View} (H:HI h0 ids h (e::(o,cs)::V)):h.get o=some (.cells cs)/\o <h.n:=⟨H.hv.2.1.1,H.hv.2.1.2.1⟩
theorem HI.aA {o:Nat} {cs dH:List AV} {V:View} (H:HI h0 ids h ((o,cs)::V)) (k:Kp [o] h h1) (hg:h1.get o=some (.cells dH)):HI h0 ids h1 ((o,dH)::V):=by
 have KQ:=H.hv.nodup
 refine⟨HV.of (λe he=>?_) KQ,H.kp.step k λi hi=>?_,λe he=>?_⟩
 .rcases List.mem_cons.1 he with rfl|he
  .exact⟨hg,Nat.lt_of_lt_of_le H.at_.2 k.n⟩
  .obtain⟨q1,q2⟩:=H.hv.2.get he;exact⟨(k.get _ q2 (by simpa using H.hv.1.2.2 e he)).trans q1,Nat.lt_of_lt_of_le q2 k.n⟩
 .rw[List.mem_singleton]at hi;subst hi;exact H.new (i,cs) (by simp)
 .rcases List.mem_cons.1 he with rfl|he
  .exact H.new (o,cs) (by simp)
  .exact H.new e (by simp[he])
theorem HI.same {V:View} (H:HI h0 ids h V) (k:Kp [] h h1):HI h0 ids h1 V:=⟨HV.of (λe he=>by obtain⟨q1,q2⟩:=H.hv.get he;exact⟨(k.get _ q2 (by simp)).trans q1,Nat.lt_of_lt_of_le q2 k.n⟩) H.hv.nodup,H.kp.step k (by simp),H.new⟩
theorem Kp.Gt {ids:List Nat} (k:Kp [] h h1):Kp ids h h1:=k.sub (by simp)
theorem aG.kp {hb:AH} {sz:Nat} {x:AV} {es:List (List AV)} {ids:List Nat} (g:aG hb h sz x es) (k:Kp ids h h1):aG hb h1 sz x es:=by
 rcases g with⟨rfl,rfl⟩|⟨aw,fk,hx,q1,q2,q3⟩
 .exact .inl ⟨O,O⟩
 .exact .inr ⟨aw,fk,hx,q1,Nat.lt_of_lt_of_le q2 k.nt,(k.bV aw q2).trans q3⟩
theorem aG.eq {hb:AH} {sz:Nat} {x:AV} {es:List (List AV)} (g:aG hb h sz x es) (e1:h1.nt=h.nt) (e2:h1.bV=h.bV):aG hb h1 sz x es:=by
 rcases g with⟨rfl,rfl⟩|⟨aw,fk,hx,q1,q2,q3⟩
 .exact .inl ⟨O,O⟩
 .exact .inr ⟨aw,fk,hx,q1,by rw[e1];exact q2,by rw[e2];exact q3⟩
theorem vi {k:IntKind} {x y:Int} (h:x=y):Slot.v (.int k x)= .v (.int k y):=by rw[h]
theorem BU {o:Oper} {ops:List Oper} {s x:Operand} {t:TypeId} {sz gl:Nat} {xs y:AV} {es ys:List (List AV)} (H:HI h0 ids h V) (ha:cD o.op=some (s,x,t)) (hw:au ops fr o.guard=some true) (hi:cC P t=some (sz,gl))
 (kN:fr.ev s= .v xs) (ex:fr.ev x= .v y) (hy:aY sz y=some ys) (hG:aG h0 h sz xs es) (dK:(es.length+ys.length)*(gl+1)<=140737488355328):
 ∃x' h',ag P lt ops o fr h (.v x') h'/\HI h0 ids h' V/\aG h0 h' sz x' (es++ys)/\h'.n=h.n/\h'.get=h.get:=by
 by_cases cv:ys=[]
 .subst cv;exact⟨xs,h,ag.Va ha hw hi kN ex hG.elems hy h,H,by rw[List.append_nil];exact hG,O,O⟩
 .have fin:∀(aw v:Nat) (h':AH),zA h sz xs es aw v h'->h'.n=h.n->h'.get=h.get->h'.aV=h.aV->h.nt<=h'.nt->(∀l,l <h0.nt->h'.bV l=h.bV l)->aG h0 h' sz (.vec (.own aw v) sz (es++ys)) (es++ys)->∃x' h',ag P lt ops o fr h (.v x') h'/\HI h0 ids h' V/\aG h0 h' sz x' (es++ys)/\h'.n=h.n/\h'.get=h.get:=by
   intro aw v h' k1 k2 k3 k4 k5 k6 k7;refine⟨_,h',ag.app ha hw hi kN ex k1 hy cv dK,⟨HV.of (λe he=>?_) H.hv.nodup,⟨by rw[k2];exact H.kp.n,λk hk hi=>by rw[k3];exact H.kp.get k hk hi,Nat.le_trans H.kp.nt k5,λl hl=>(k6 l hl).trans (H.kp.bV l hl),k4.trans H.kp.aV⟩,H.new⟩,k7,k2,k3⟩;obtain⟨q1,q2⟩:=H.hv.get he;exact⟨by rw[k3];exact q1,by rw[k2];exact q2⟩
  have wC:=H.kp.nt
  rcases hG with⟨rfl,rfl⟩|⟨aw,fk,hx,q1,q2,q3⟩
  .refine fin h.nt 0 h.cu (.inl ⟨O,O,O,O,O⟩) O O O (Nat.le_succ _) (λl hl=>?_) (.inr ⟨h.nt,0,.inl O,wC,Nat.lt_succ_self _,?_⟩)
   .simp only[AH.cu];rw[beq_false_of_ne (by omega)]
   .simp only[AH.cu];rw[cU]
  .refine fin aw (fk+1) (h.bump aw) (.inr (.inr ⟨fk,hx,q3,O,O⟩)) O O O (Nat.le_refl _) (λl hl=>?_) (.inr ⟨aw,fk+1,.inl O,q1,q2,?_⟩)
   .simp only[AH.bump];rw[beq_false_of_ne (by omega)]
   .simp only[AH.bump];rw[cU,q3]
theorem eK {o:Oper} {ops l:List Oper} {D:List Nat} {s x:Operand} {t:TypeId} {sz gl:Nat} {xs y:AV} {es ys:List (List AV)} {d:Tmp} (H:HI h0 ids h V) (ha:cD o.op=some (s,x,t)) (hw:au ops fr o.guard=some true) (hi:cC P t=some (sz,gl))
 (kN:fr.ev s= .v xs) (ex:fr.ev x= .v y) (hy:aY sz y=some ys) (hd:o.dst=some d) (hG:aG h0 h sz xs es) (dK:(es.length+ys.length)*(gl+1)<=140737488355328)
 (T:∀x' h',HI h0 ids h' V->aG h0 h' sz x' (es++ys)->h'.n=h.n->XS P lt C (.ops ops l D) ks (fr.bf d (.v x')) h'):XS P lt C (.ops ops (o::l) D) ks fr h:=by
 obtain⟨x',h',st,k1,k2,k3,k4⟩:=BU (lt:=lt) H ha hw hi kN ex hy hG dK;refine AL.jr st ?_;rw[hd];exact T x' h' k1 k2 k3
theorem qA {o:Oper} {ops l:List Oper} {D pre:List Nat} {s x:Operand} {t:TypeId} {sz gl:Nat} {xs y:AV} {es ys:List (List AV)} {d:Tmp} (H:HI h0 ids h V) (ha:cD o.op=some (s,x,t)) (hw:au ops fr o.guard=some true) (hi:cC P t=some (sz,gl))
 (kN:fr.ev s= .v xs) (ex:fr.ev x= .v y) (hy:aY sz y=some ys) (hd:o.dst=some d) (hG:aG h0 h sz xs es) (dK:(es.length+ys.length)*(gl+1)<=140737488355328)
 (T:∀x' h',HI h0 ids h' V->aG h0 h' sz x' (es++ys)->h'.n=h.n->XS P lt C (.eW ops l D (2::pre)) ks (fr.bf d (.v x')) h'):XS P lt C (.eW ops (o::l) D pre) ks fr h:=by
 obtain⟨x',h',st,k1,k2,k3,k4⟩:=BU (lt:=lt) H ha hw hi kN ex hy hG dK;refine jt (s:= .v x') (h1:=h') (kd:=2) (.inr (.inr ⟨O,st⟩)) ?_;rw[hd];exact T x' h' k1 k2 k3
end
theorem mx:prog.follows .mixedOrders=true:=by decide+kernel
section
variable {lt:LT} {C:Exit->ay->AH->Prop} {h h0:AH} {ids:List Nat} {V V':View} {fr aB:ay} {cur dE:Dj} {ks ji:List Kt} {n':Nat} {tr:List (Nat×Nat)} {dr:List (List Oper×List Nat)} {ob:List (Int×Nat)}
abbrev ZR (lt:LT) (im:List Nat) (f:Nat) (cur:Dj) (ks:List Kt) (fr:ay) (V:View) (n:Nat) (hs:List Nat) (dE:Dj) (ji:List Kt) (aB:ay) (V':View) (n':Nat) (tr:List (Nat×Nat)) (ob:List (Int×Nat)) (dr:List (List Oper×List Nat)):Prop:=bW prog lt im f cur ks fr V n hs [] [] []=⟨dE,ji,aB,V',n',tr,ob,dr⟩
abbrev ZN (h h':AH) (n:Nat):Prop:=h'.n=n/\h'.nt=h.nt/\h'.bV=h.bV
abbrev ZT (tr:List (Nat×Nat)):Prop:=tr.map (·.1)=tr.map (·.2)
abbrev ZD (dr:List (List Oper×List Nat)):Prop:=(dr.all λp=>sX p.1 p.2.reverse)=true
abbrev ZB (ob:List (Int×Nat)):Prop:=∀p∈ob,0<=p.1/\p.1 <p.2
theorem mB (f:Nat) (im hs:List Nat) (H:HI h0 ids h V) (hx:ZR lt im f cur ks fr V h.n hs dE ji aB V' n' tr ob dr) (hb:ZB ob) (K:∀h',HI h0 ids h' V'->ZN h h' n'->Kp (V.map (·.1)) h h'->XS prog lt C dE ji aB h') (ht:ZT tr) (hd:ZD dr):XS prog lt C cur ks fr h:=by
 unfold ZR at hx;refine Il (im:=im) mx f cur ks fr V h.n hs [] [] [] h ⟨?_,?_,?_⟩ H.hv O ?_
 .rw[hx];intro p hp;clear hx;simp only at hp;unfold ZT at ht
  induction tr with
  |nil=>simp at hp
  |cons x r ih=>
   simp only[List.map_cons,List.cons.injEq]at ht;rcases List.mem_cons.1 hp with rfl|hp
   .exact ht.1
   .exact ih ht.2 hp
 .rw[hx];exact hb
 .rw[hx];intro p hp;exact List.all_eq_true.1 hd p hp
 .rw[hx];intro h' p;exact K h' (p.2.2.1 _ _ H) ⟨p.2.1,p.2.2.2.1,p.2.2.2.2.1⟩ (p.2.2.1 h (V.map (·.1)) ⟨H.hv,.refl,λe he=> .inl (List.mem_map.2 ⟨e,he,O⟩)⟩).kp
theorem ah (H:HI h0 ids h V) (hx:ZR lt [] 3000 cur ks fr V h.n [] dE ji aB V' n' tr [] dr) (K:∀h',HI h0 ids h' V'->ZN h h' n'->XS prog lt C dE ji aB h') (ht:ZT tr:=by rfl) (hd:ZD dr:=by first|rfl|decide+kernel):XS prog lt C cur ks fr h:=mB 3000 [] [] H hx (λ_ h=>nomatch h) (λh' H N _=>K h' H N) ht hd
theorem an (hs:List Nat) (H:HI h0 ids h V) (hx:ZR lt [] 3000 cur ks fr V h.n hs dE ji aB V' n' tr [] dr) (K:∀h',HI h0 ids h' V'->ZN h h' n'->XS prog lt C dE ji aB h') (ht:ZT tr:=by rfl) (hd:ZD dr:=by first|rfl|decide+kernel):XS prog lt C cur ks fr h:=mB 3000 [] hs H hx (λ_ h=>nomatch h) (λh' H N _=>K h' H N) ht hd
theorem aS (im hs:List Nat) (H:HI h0 ids h V) (hx:ZR lt im 3000 cur ks fr V h.n hs dE ji aB V' n' tr [] dr) (K:∀h',HI h0 ids h' V'->ZN h h' n'->XS prog lt C dE ji aB h') (ht:ZT tr:=by rfl) (hd:ZD dr:=by first|rfl|decide+kernel):XS prog lt C cur ks fr h:=mB 3000 im hs H hx (λ_ h=>nomatch h) (λh' H N _=>K h' H N) ht hd
theorem KK (H:HI h0 ids h V) (hx:ZR lt [] 3000 cur ks fr V h.n [] dE ji aB V' n' tr ob dr) (hb:ZB ob) (K:∀h',HI h0 ids h' V'->ZN h h' n'->XS prog lt C dE ji aB h') (ht:ZT tr:=by rfl) (hd:ZD dr:=by first|rfl|decide+kernel):XS prog lt C cur ks fr h:=mB 3000 [] [] H hx hb (λh' H N _=>K h' H N) ht hd
theorem aaC (f:Nat) (H:HI h0 ids h V) (hx:ZR lt [] f cur ks fr V h.n [] dE ji aB V' n' tr ob dr) (hb:ZB ob) (K:∀h',HI h0 ids h' V'->ZN h h' n'->Kp (V.map (·.1)) h h'->XS prog lt C dE ji aB h') (ht:ZT tr:=by rfl) (hd:ZD dr:=by first|rfl|decide+kernel):XS prog lt C cur ks fr h:=mB f [] [] H hx hb K ht hd
theorem UH (f:Nat) (H:HI h0 ids h V) (hx:ZR lt [] f cur ks fr V h.n [] dE ji aB V' n' tr [] dr) (K:∀h',HI h0 ids h' V'->ZN h h' n'->XS prog lt C dE ji aB h') (ht:ZT tr:=by rfl) (hd:ZD dr:=by first|rfl|decide+kernel):XS prog lt C cur ks fr h:=mB f [] [] H hx (λ_ h=>nomatch h) (λh' H N _=>K h' H N) ht hd
theorem TW (f:Nat) (hs:List Nat) (H:HI h0 ids h V) (hx:ZR lt [] f cur ks fr V h.n hs dE ji aB V' n' tr [] dr) (K:∀h',HI h0 ids h' V'->ZN h h' n'->XS prog lt C dE ji aB h') (ht:ZT tr:=by rfl) (hd:ZD dr:=by first|rfl|decide+kernel):XS prog lt C cur ks fr h:=mB f [] hs H hx (λ_ h=>nomatch h) (λh' H N _=>K h' H N) ht hd
theorem dZ (H:HI h0 ids h V) (hx:ZR lt [] 3000 cur ks fr V h.n [] dE ji aB V' n' tr [] dr) (K:∀h',HI h0 ids h' V'->ZN h h' n'->Kp (V.map (·.1)) h h'->XS prog lt C dE ji aB h') (ht:ZT tr:=by rfl) (hd:ZD dr:=by first|rfl|decide+kernel):XS prog lt C cur ks fr h:=mB 3000 [] [] H hx (λ_ h=>nomatch h) K ht hd
theorem yX (hs:List Nat) (H:HI h0 ids h V) (hx:ZR lt [] 3000 cur ks fr V h.n hs dE ji aB V' n' tr [] dr) (K:∀h',HI h0 ids h' V'->ZN h h' n'->Kp (V.map (·.1)) h h'->XS prog lt C dE ji aB h') (ht:ZT tr:=by rfl) (hd:ZD dr:=by first|rfl|decide+kernel):XS prog lt C cur ks fr h:=mB 3000 [] hs H hx (λ_ h=>nomatch h) K ht hd
end
class Nx (h h':AH) (T:Prop) (T':outParam Prop):Prop where
 nx:T->h'.nt=h.nt->h'.bV=h.bV->T'
instance {h h':AH} {hb:AH} {sz:Nat} {x:AV} {es:List (List AV)}:Nx h h' (aG hb h sz x es) (aG hb h' sz x es):=⟨λg=>g.eq⟩
section
variable {lt:LT} {C:Exit->ay->AH->Prop} {h h0:AH} {ids:List Nat} {V V':View} {fr aB:ay} {cur dE:Dj} {ks ji:List Kt} {n':Nat} {tr:List (Nat×Nat)} {dr:List (List Oper×List Nat)} {ob:List (Int×Nat)}
theorem aH {T:Prop} {T':AH->Prop} [∀h',Nx h h' T (T' h')] (H:HI h0 ids h V) (G:T) (hx:ZR lt [] 3000 cur ks fr V h.n [] dE ji aB V' n' tr [] dr) (K:∀h',HI h0 ids h' V'->T' h'->ZN h h' n'->XS prog lt C dE ji aB h') (ht:ZT tr:=by rfl) (hd:ZD dr:=by first|rfl|decide+kernel):XS prog lt C cur ks fr h:=mB 3000 [] [] H hx (λ_ h=>nomatch h) (λh' H N q=>K h' H (Nx.nx G N.2.1 N.2.2) N) ht hd
theorem bm {T:Prop} {T':AH->Prop} [∀h',Nx h h' T (T' h')] (hs:List Nat) (H:HI h0 ids h V) (G:T) (hx:ZR lt [] 3000 cur ks fr V h.n hs dE ji aB V' n' tr [] dr) (K:∀h',HI h0 ids h' V'->T' h'->ZN h h' n'->XS prog lt C dE ji aB h') (ht:ZT tr:=by rfl) (hd:ZD dr:=by first|rfl|decide+kernel):XS prog lt C cur ks fr h:=mB 3000 [] hs H hx (λ_ h=>nomatch h) (λh' H N q=>K h' H (Nx.nx G N.2.1 N.2.2) N) ht hd
theorem jU {T:Prop} {T':AH->Prop} [∀h',Nx h h' T (T' h')] (im hs:List Nat) (H:HI h0 ids h V) (G:T) (hx:ZR lt im 3000 cur ks fr V h.n hs dE ji aB V' n' tr [] dr) (K:∀h',HI h0 ids h' V'->T' h'->ZN h h' n'->XS prog lt C dE ji aB h') (ht:ZT tr:=by rfl) (hd:ZD dr:=by first|rfl|decide+kernel):XS prog lt C cur ks fr h:=mB 3000 im hs H hx (λ_ h=>nomatch h) (λh' H N q=>K h' H (Nx.nx G N.2.1 N.2.2) N) ht hd
theorem Af {T:Prop} {T':AH->Prop} [∀h',Nx h h' T (T' h')] (f:Nat) (im hs:List Nat) (H:HI h0 ids h V) (G:T) (hx:ZR lt im f cur ks fr V h.n hs dE ji aB V' n' tr [] dr) (K:∀h',HI h0 ids h' V'->T' h'->ZN h h' n'->XS prog lt C dE ji aB h') (ht:ZT tr:=by rfl) (hd:ZD dr:=by first|rfl|decide+kernel):XS prog lt C cur ks fr h:=mB f im hs H hx (λ_ h=>nomatch h) (λh' H N q=>K h' H (Nx.nx G N.2.1 N.2.2) N) ht hd
end
abbrev ak:=List UInt8
inductive gn where
 |mk (name:ak) (elem:List gn) (WY:Bool)
inductive dM where
 |mk (kind:Int) (raw:ak) (kids:List (ak×dM))
structure gx where
 name:ak
 v:dM
structure kl where
 name:ak
 args:List gx
structure aW where
 doc:ak
 name:ak
 t:gn
 vY:List dM
 cJ:List kl
structure jV where
 doc:ak
 name:ak
 args:List aW
 vY:List dM
 t:gn
 cJ:List kl
structure cg where
 doc:ak
 name:ak
 cJ:List kl
structure Def where
 kind:ak
 doc:ak
 name:ak
 cJ:List kl
 ifaces:List ak
 fields:List jV
 types:List ak
 enums:List cg
structure dn where
 doc:ak
 name:ak
 args:List aW
 sf:List ak
 rep:Bool
structure fD where
 op:ak
 t:ak
structure av where
 doc:ak
 cJ:List kl
 roots:List fD
structure bY where
 defs:List av
 exts:List av
 cJ:List dn
 types:List Def
 aK:List Def
def RU (sz:Nat) (R:List (List AV)->Prop) (x:AV):Prop:=(x= .ao/\R [])\/∃tk es,x= .vec tk sz es/\es.length<=4294967296/\R es
def bx {α:Type} (R:α->List AV->Prop):List α->List (List AV)->Prop
 |[],[]=>True
 |x::xs,c::cs=>R x c/\bx R xs cs
 |_,_=>False
theorem bx.append {α:Type} {R:α->List AV->Prop} {l l2:List α} {es lT:List (List AV)} (h:bx R l es) (h2:bx R l2 lT):bx R (l++l2) (es++lT):=by
 induction l generalizing es with
 |nil=>cases es with|nil=>exact h2|cons=>exact h.elim
 |cons x l ih=>cases es with|nil=>exact h.elim|cons c es=>exact⟨h.1,ih h.2⟩
theorem aG.form {h0 h:AH} {sz:Nat} {x:AV} {es:List (List AV)} (g:aG h0 h sz x es):x= .ao\/∃tk,x= .vec tk sz es:=by
 rcases g with⟨rfl,rfl⟩|⟨aw,fk,rfl|rfl,_⟩
 .exact .inl O
 .exact .inr ⟨_,O⟩
 .exact .inr ⟨_,O⟩
theorem aG.sl {α:Type} {R:α->List AV->Prop} {h0 h:AH} {sz:Nat} {x:AV} {es:List (List AV)} {l:List α} (g:aG h0 h sz x es) (hR:bx R l es) (hB:es.length<=4294967296):RU sz (bx R l) x:=by
 rcases g with⟨rfl,rfl⟩|⟨aw,fk,rfl|rfl,_⟩
 .exact .inl ⟨O,hR⟩
 .exact .inr ⟨_,es,O,hB,hR⟩
 .exact .inr ⟨_,es,O,hB,hR⟩
section
attribute [local irreducible] AC AL AW AD aP
abbrev dF (s:ak):AV:= .ref none [.str [],.str s,.bool false]
abbrev na (s:ak) (st a e b c d:Int) (rest:List AV):List AV:=dF s:: .int .i64 st:: .int .i64 a:: .int .i64 e:: .int .i64 b:: .int .i64 c:: .int .i64 d::rest
def LO (h:AH) (o:Nat) (s:ak) (st e:Nat) (rest:List AV):Prop:=o <h.n/\s.length<=1048576/\e<=s.length/\∃a b c d:Int,h.get o=some (.cells (na s st a e b c d rest))
theorem LO.mk' {h0 h:AH} {ids:List Nat} {o:Nat} {s:ak} {st e:Nat} {a b c d:Int} {rest:List AV} {V:View} (H:HI h0 ids h ((o,na s st a e b c d rest)::V)) (hs:s.length<=1048576) (he:e<=s.length):LO h o s st e rest:=⟨H.at_.2,hs,he,_,_,_,_,H.at_.1⟩
def rM (c:UInt8):Bool:=48<=c&&c<=57
def fh:ak->Nat
 |[]=>0
 |c::r=>if rM c then fh r+1 else 0
theorem Io (s:ak):fh s<=s.length:=by induction s with|nil=>simp[fh]|cons c r ih=>simp only[fh];split<;>simp<;>omega
theorem ie {h:AH} {o:Nat} {s:ak} {st e:Nat} {rest:List AV} (L:LO h o s st e rest):
 al prog 167 [.ptr o 0] h (λv h'=>v= .int .i64 (fh (s.drop e))/\Kp [o] h h'/\LO h' o s st (e+fh (s.drop e)) rest):=by
 obtain⟨ho,hs,he,a,b,c,d,hg⟩:=L;have hle:e+fh (s.drop e)<=s.length:=by have:=Io (s.drop e);simp at this;omega
 refine az (n:=64) (rs:=[.tmp 2]) [] ⟨func167,O,O,O⟩ O <| ah (HI.one hg ho) O λh1 H1 _=>?_;refine fg (λk:Nat=>s.length -k) 64 (λk=>[(0,.ptr o 0),(3,.int .i64 ((k:Int) -e))]) (λk h'=>e<=k/\k<=s.length/\fh (s.drop e)=(k -e)+fh (s.drop k)/\∃b',HI h [o] h' [(o,na s st a k b' c d rest)]) e (HQ.mk O ⟨O,vi (by omega),trivial⟩) ⟨Nat.le_refl _,he,by simp,b,H1⟩ ?_;rintro k h2 ⟨vw,jh,BW,b2,H2⟩ again;refine ah H2 O λh3 H3 _=>?_;have fin:∀(h4:AH) (b4:Int),HI h [o] h4 [(o,na s st a k b4 c d rest)]->fh (s.drop k)=0->AV.int .i64 ((k:Int) -e)= .int .i64 (fh (s.drop e))/\Kp [o] h h4/\LO h4 o s st (e+fh (s.drop e)) rest:=λh4 b4 H4 h0=>by
  have e1:fh (s.drop e)=k -e:=by omega
  rw[e1];exact⟨by rw[Int.natCast_sub vw],H4.kp,by rw[show e+(k -e)=k by omega];exact LO.mk' H4 hs jh⟩
 refine aR O (λhb=>?_) (λhb=>?_)
 .have ax:k <s.length:=by simpa using hb
  have ic:s.drop k=s[k]::s.drop (k+1):=List.drop_eq_getElem_cons ax
  refine KK H3 O (by simp;exact ax) λh4 H4 _=>?_;refine aR O (λaT=>?_) (λaT=>?_)
  .refine KK H4 O (by simp;exact ax) λh5 H5 _=>?_;refine af O (λbZ=>?_) (λbZ=>?_)
   .refine ah H5 O λh6 H6 _=>?_;rw[wrap_i64 (n:=(k:Int)+1) (by omega) (by omega)]at H6;have hd:rM s[k]=true:=by
     simp[ax]at aT bZ;simp[rM,UInt8.le_iff_toNat_le];omega
    exact again (k+1) (by omega) (HQ.mk O ⟨O,vi (wI (by omega)),trivial⟩) ⟨by omega,by omega,by rw[BW,ic];simp only[fh,hd,if_true];omega,_,H6⟩
   .have hd:rM s[k]=false:=by
     simp[ax]at aT bZ;simp[rM,UInt8.le_iff_toNat_le];omega
    have h0:fh (s.drop k)=0:=by rw[ic];simp only[fh,hd];simp
    exact ah H5 O λh6 H6 _=>ab [] H6 O (fin _ _ H6 h0)
  .have hd:rM s[k]=false:=by
    simp[ax]at aT;simp[rM,UInt8.le_iff_toNat_le];omega
   have h0:fh (s.drop k)=0:=by rw[ic];simp only[fh,hd];simp
   refine ah H4 O λh5 H5 _=>cX O (ah H5 O λh6 H6 _=>?_);exact ab [] H6 O (fin _ _ H6 h0)
 .have fH:s.length<=k:=by simpa using hb
  have h0:fh (s.drop k)=0:=by rw[List.drop_eq_nil_of_le fH];rfl
  refine ah H3 O λh4 H4 _=>aR O (λaT=>by cases aT) (λaT=>?_);refine ah H4 O λh5 H5 _=>cX O (ah H5 O λh6 H6 _=>?_);exact ab [] H6 O (fin _ _ H6 h0)
abbrev XX (k:Int) (v s:ak) (p q r t:Int):AV:= .agg [.int .i64 k,.str v,.int .i64 p,.int .i64 q,.int .i64 r,.int .i64 t,dF s]
def BY (s:ak) (k:Int) (v:ak) (x:AV):Prop:=∃p q r t:Int,x=XX k v s p q r t
theorem aN {h:AH} {o:Nat} {s:ak} {st e:Nat} {rest:List AV} (L:LO h o s st e rest) (k:Int) (v:ak):
 al prog 141 [.ptr o 0,.int .i64 k,.str v] h (λx h'=>(∃t,x= .cN [t,.bu]/\BY s k v t)/\Kp [o] h h'/\LO h' o s st e rest):=by
 obtain⟨ho,hs,he,a,b,c,d,hg⟩:=L;exact az (n:=38) (rs:=[.cell 6 88,.tmp 7]) [] ⟨func141,O,O,O⟩ O <| an [0,0,0,0,0,0,1] (HI.one hg ho) O λh1 H1 _=>ab [1] H1 O ⟨⟨_,O,_,_,_,_,O⟩,H1.kp,LO.mk' H1 hs he⟩
theorem fE {h:AH} {o:Nat} {s:ak} {st e:Nat} {rest:List AV} (L:LO h o s st e rest) (k:Int) (XY:st<=e):
 al prog 140 [.ptr o 0,.int .i64 k] h (λx h'=>(∃t,x= .cN [t,.bu]/\BY s k ((s.take e).drop st) t)/\Kp [o] h h'/\LO h' o s st e rest):=by
 obtain⟨ho,hs,he,a,b,c,d,hg⟩:=L;refine az (n:=27) (rs:=[.cell 4 88,.tmp 5]) [] ⟨func140,O,O,O⟩ O <| ah (HI.one hg ho) O λh1 H1 _=>fR O O O O (eY O (by omega)) (eY O (by omega)) (by simpa using XY) (by simpa using he) O ?_;refine ah H1 O λh2 H2 _=>jJ O call141 (aN (LO.mk' H2 hs he) k _) ?_;rintro x h3 ⟨⟨t,rfl,p,q,r,u,rfl⟩,k3,iX,jZ,iA,a3,b3,c3,d3,bF⟩;exact an [1] (H2.aA k3 bF) O λh4 H4 _=>ab [1] H4 O ⟨⟨_,O,_,_,_,_,O⟩,H4.kp,LO.mk' H4 hs he⟩
def LX (x:AV):Prop:=∃cs,x= .ref none cs
theorem rN (a b:Int) (m:ak):∃x,LX x/\∀h,aP prog 160 [.str [],.int .i64 a,.int .i64 b,.str m,.ao] h x h:=by refine⟨.ref none [.bu,.str m,.ao,.vec .full 2 [[.int .i64 a,.int .i64 b]],.ph,.str []],⟨_,O⟩,al.pure λh=>?_⟩;refine az (n:=26) (rs:=[.tmp 10]) [] ⟨func160,O,O,O⟩ O <| N9 [25] mx O O (by simp) <| cX O (N9 [25] mx O O (by simp) ?_);exact Oa O ⟨O,O⟩
theorem bX {h:AH} {o:Nat} {s:ak} {st e:Nat} {rest:List AV} (L:LO h o s st e rest) (m:ak):
 al prog 147 [.ptr o 0,.str m] h (λx h'=>(∃t y,x= .cN [t,y]/\BY s 0 [] t/\LX y)/\Kp [o] h h'/\LO h' o s st e rest):=by
 obtain⟨ho,hs,he,a,b,c,d,hg⟩:=L;refine az (n:=50) (rs:=[.cell 4 88,.tmp 5]) [] ⟨func147,O,O,O⟩ O <| ah (HI.one hg ho) O λh1 H1 _=>I9 O call160 (rN _ _ m) ?_;rintro x ⟨cs,rfl⟩;exact an [1] H1 O λh3 H3 _=>ab [1] H3 O ⟨⟨_,_,O,⟨_,_,_,_,O⟩,_,O⟩,H3.kp,LO.mk' H3 hs he⟩
abbrev DZ (b:UInt8):List AV:=[.int .u8 b.toNat]
theorem Jr {h:AH} (tk:Tk) (bs:ak) (c:UInt8) (hb:bs.length<=1048576):al prog 204 [.vec tk 1 (bs.map DZ),.int .u8 c.toNat] h (λv h'=>(∃n:Int,v= .int .i64 n/\(decide (n≥0)=bs.contains c))/\Kp [] h h'):=by
 refine az (n:=19) (rs:=[.tmp 4]) [] ⟨func204,O,O,O⟩ O <| ah (HI.nil (ids:=[])) O λh1 H1 _=>fg (λk:Nat=>bs.length -k) 19 (λk=>[(0,.vec tk 1 (bs.map DZ)),(1,.int .u8 c.toNat),(7,.int .i64 bs.length),(8,.int .i64 k)]) (λk h'=>k<=bs.length/\(bs.take k).contains c=false/\HI h [] h' []) 0 (HQ.mk O ⟨O,O,vi (by simp),O,trivial⟩) ⟨Nat.zero_le _,O,H1⟩ ?_;rintro k h2 ⟨vw,jh,H2⟩ again;refine ah H2 O λh3 H3 _=>af O (λhb=>?_) (λhb=>?_)
 .have ax:k <bs.length:=by simpa using hb
  refine ah H3 O λh4 H4 _=>ba (ag.indexAddr (n:=(k:Int)) (cs:=DZ bs[k]) O O O O O O (by omega) (by simp[ax])) O ?_;refine ah H4 O λh5 H5 _=>af O (λhc=>?_) (λhc=>?_)
  .refine ah H5 O λh6 H6 _=>?_;have e:c=bs[k]:=UInt8.toNat_inj.1 (by simp at hc;omega);exact ab [] H6 O ⟨⟨_,O,by simp;rw[e];exact List.getElem_mem ax⟩,H6.kp⟩
  .refine ah H5 O λh6 H6 _=>?_;have e:c≠bs[k]:=λe=>by rw[e]at hc;simp at hc
   refine again (k+1) (by omega) (HQ.mk O ⟨O,O,O,vi (wI (by omega)),trivial⟩) ⟨by omega,?_,H6⟩;rw[List.take_add_one,List.getElem?_eq_getElem ax];simp only[Option.toList_some,List.contains_eq_mem,List.mem_append,List.mem_singleton,decide_eq_false_iff_not,not_or]at jh|-;exact⟨jh,e⟩
 .have fH:bs.length<=k:=by simpa using hb
  refine ah H3 O λh4 H4 _=>?_;rw[List.take_of_length_le fH]at jh;exact ab [] H4 O ⟨⟨_,O,by rw[jh];rfl⟩,H4.kp⟩
theorem BZ {h:AH} (tk:Tk) (bs:ak) (c:UInt8) (hb:bs.length<=1048576):al prog 187 [.vec tk 1 (bs.map DZ),.int .u8 c.toNat] h (λv h'=>v= .bool (bs.contains c)/\Kp [] h h'):=by refine az (n:=9) (rs:=[.tmp 4]) [] ⟨func187,O,O,O⟩ O <| ah (HI.nil (ids:=[])) O λh1 H1 _=>ae O call204 (Jr tk bs c hb) ?_;rintro x h2 ⟨⟨n,rfl,hn⟩,k2⟩;refine ah (H1.same k2) O λh3 H3 _=>?_;exact ab [] H3 O ⟨by show AV.bool _=_;rw[<-hn],H3.kp⟩
def sg (bs:ak):ak->Bool
 |[]=>false
 |c::_=>bs.contains c
def b1 (b:Bool):Nat:=if b then 1 else 0
theorem gQ {h:AH} {o:Nat} {s:ak} {st e:Nat} {rest:List AV} (L:LO h o s st e rest) (tk:Tk) (bs:ak) (jN:bs.length<=1048576):
 al prog 166 [.ptr o 0,.vec tk 1 (bs.map DZ)] h (λv h'=>v= .bool (sg bs (s.drop e))/\Kp [o] h h'/\LO h' o s st (e+b1 (sg bs (s.drop e))) rest):=by
 obtain⟨ho,hs,he,a,b,c,d,hg⟩:=L;refine az (n:=46) (rs:=[.tmp 4]) [] ⟨func166,O,O,O⟩ O <| ah (HI.one hg ho) O λh1 H1 _=>af O (λhb=>?_) (λhb=>?_)
 .have fH:s.length<=e:=by simpa using hb
  refine ah H1 O λh2 H2 _=>?_;rw[List.drop_eq_nil_of_le fH];exact ab [] H2 O ⟨O,H2.kp,LO.mk' H2 hs he⟩
 .have ax:e <s.length:=by simpa using hb
  rw[List.drop_eq_getElem_cons ax];refine KK H1 O (by simp;exact ax) λh2 H2 _=>?_;refine jJ O call187 (BZ tk bs _ jN) ?_;rintro x h3 ⟨rfl,k3⟩;have ec:s.getD (e:Int).toNat 0=s[e]:=by simp[ax]
  rw[ec];refine ah (H2.same k3) O λh4 H4 _=>af O (λhc=>?_) (λhc=>?_)
  .refine ah H4 O λh5 H5 _=>?_;rw[wrap_i64 (n:=(e:Int)+1) (by omega) (by omega)]at H5;simp only[sg,hc,b1,if_true];exact ab [] H5 O ⟨O,H5.kp,LO.mk' H5 hs ax⟩
  .refine ah H4 O λh5 H5 _=>?_;simp only[sg,hc,b1];exact ab [] H5 O ⟨O,H5.kp,LO.mk' H5 hs he⟩
def si (s:ak) (o:Nat) (rest:List AV) (r:Option (Int×ak×Nat)) (x:AV) (h':AH):Prop:=
 match r with
 |some (k,v,e')=>∃t uv,x= .cN [t,.bu]/\BY s k v t/\LO h' o s uv e' rest
 |none=>∃t y uv e',x= .cN [t,.iface 248 y]/\LX y/\BY s 0 [] t/\LO h' o s uv e' rest
def wb (r:ak):Option Nat:=
 let a:=b1 (sg [45] r)
 if sg [48] (r.drop a)then(if fh (r.drop (a+1))=0 then some (a+1)else none)else if fh (r.drop a)=0 then none else some (a+fh (r.drop a))
def wc (r:ak) (a:Nat):Option (Bool×Nat):=if sg [46] (r.drop a)then(if fh (r.drop (a+1))=0 then none else some (true,a+1+fh (r.drop (a+1))))else some (false,a)
def xE (r:ak) (f:Bool) (a:Nat):Option (Bool×Nat):=
 if sg [101,69] (r.drop a)then
  let c:=a+1+b1 (sg [45,43] (r.drop (a+1)))
  if fh (r.drop c)=0 then none else some (true,c+fh (r.drop c))
 else some (f,a)
def we (r:ak):Option (Bool×Nat):=(wb r).bind λa=>(wc r a).bind λp=>xE r p.1 p.2
def iU (s:ak) (st:Nat):Option (Int×ak×Nat):=(we (s.drop st)).map λp=>(if p.1 then 18 else 17,(s.drop st).take p.2,st+p.2)
theorem LY (s:ak) (a b:Nat):s.drop (a+b)=(s.drop a).drop b:=by rw[List.drop_drop]
abbrev gR:List AV:=[.int .i64 0,.str [],.int .i64 0,.int .i64 0,.int .i64 0,.int .i64 0,.bq]
theorem xF {h:AH} {o:Nat} {s:ak} {st:Nat} {rest:List AV} (L:LO h o s st (st+1) rest):
 al prog 144 [.ptr o 0] h (λx h'=>Kp [o] h h'/\si s o rest (iU s st) x h'):=by
 obtain⟨ho,hs,he,a,b,c,d,hg⟩:=L;refine az (n:=99) (rs:=[.cell 2 88,.tmp 3]) [] ⟨func144,O,O,O⟩ O <| ah (HI.one hg ho) O λh1 H1 _=>?_;rw[show IntKind.i64.wrap (((st+1:Nat):Int) -1)=(st:Nat) by rw[wrap_i64 (by omega) (by omega)];omega]at H1;refine ae O call166 (gQ (LO.mk' H1 hs (by omega)) _ [45] (by simp)) ?_;rintro x h2 ⟨rfl,k2,vZ,_,Ii,a2,b2,c2,d2,bI⟩;have H2:=H1.aA k2 bI;clear bI k2 H1 hg;refine ah H2 O λh3 H3 _=>ae O call166 (gQ (LO.mk' H3 hs Ii) _ [48] (by simp)) ?_;rintro x h4 ⟨rfl,k4,ho4,_,O4,a4,b4,c4,d4,jj⟩;have H4:=H3.aA k4 jj;clear jj k4 H3 H2;refine ah H4 O λh5 H5 _=>?_;generalize hr:s.drop st=r at*;have RV:r.length+st=s.length:=by rw[<-hr];simp;omega
 have ic:∀k,s.drop (st+k)=r.drop k:=λk=>by rw[LY,hr]
 generalize hA:b1 (sg [45] r)=A at*;have hA1:A<=1:=by rw[<-hA];unfold b1;split<;>omega
 simp only[Nat.add_assoc,ic]at H5 O4 Ii;have fail:iU s st=none->∀t y,BY s 0 [] t->LX y->∀h',Kp [o] h h'->(∃uv e',LO h' o s uv e' rest)->Kp [o] h h'/\si s o rest (iU s st) (.cN [t,.iface 248 y]) h':=by rintro e t y q1 q2 h' q3 ⟨uv,e',q4⟩;rw[e];exact⟨q3,t,y,uv,e',O,q2,q1,q4⟩
 refine lC 99 (λ_:Nat=>[(0,.ptr o 0),(2,.ptr h.n 0),(3,.bu),(4,.bool false)]) (λk h'=>wb r=some k/\k<=r.length/\∃a b c d,HI h [o] h' [(o,na s st a ((st+k:Nat):Int) b c d rest),(h.n,gR)]) O (λhb done=>?_) (λhb done=>?_) ?_
 .simp only[Nat.add_assoc,ic]at hb;rw[hb,show b1 true=1 from O]at H5 O4;refine ah H5 O λh6 H6 _=>ae O call167 (ie (LO.mk' H6 hs O4)) ?_;rintro x h7 ⟨rfl,k7,WZ,_,W0,a7,b7,c7,d7,xG⟩;have H7:=H6.aA k7 xG;simp only[Nat.add_assoc,ic]at H7 W0;refine ah H7 O λh8 H8 _=>af O (λhc=>?_) (λhc=>?_)
  .refine ah H8 O λh9 H9 _=>?_;have hz:fh (r.drop (A+1))≠0:=by simp only[Nat.add_assoc,ic]at hc;simpa using hc
   simp only[Nat.add_assoc,ic]at H9;rw[show IntKind.i64.wrap (((st+(A+(1+fh (r.drop (A+1)))):Nat):Int) -((fh (r.drop (A+1)):Nat):Int))=((st+(A+1):Nat):Int) by rw[wrap_i64 (by omega) (by omega)];omega]at H9;refine ae O call147 (bX (LO.mk' H9 hs (by omega)) _) ?_;rintro x rl ⟨⟨t,y,rfl,⟨p,q,u,v,rfl⟩,w,rfl⟩,RW,XZ,_,LZ,a10,X0,uw,d10,RX⟩;exact an [1] (H9.aA RW RX) O λL3 wg _=>ab [1] wg O (fail (by unfold iU we wb;simp only[hr,hA,hb,if_true,if_neg hz,Option.bind_none,Option.map_none]) _ _ ⟨_,_,_,_,O⟩ ⟨_,O⟩ _ wg.kp ⟨_,_,LO.mk' wg hs LZ⟩)
  .refine ah H8 O λh9 H9 _=>?_;have hz:fh (r.drop (A+1))=0:=by simp only[Nat.add_assoc,ic]at hc;simpa using hc
   rw[hz]at H9;exact done (A+1) O ⟨by simp only[wb,hA,hb,hz,if_true],by omega,_,_,_,_,H9⟩
 .simp only[Nat.add_assoc,ic]at hb;rw[hb,show b1 false=0 from O]at H5 O4;refine ah H5 O λh6 H6 _=>ae O call167 (ie (LO.mk' H6 hs O4)) ?_;rintro x h7 ⟨rfl,k7,WZ,_,W0,a7,b7,c7,d7,xG⟩;have H7:=H6.aA k7 xG;simp only[Nat.add_assoc,Nat.add_zero,Nat.zero_add,ic]at H7 W0;refine ah H7 O λh8 H8 _=>af O (λhc=>?_) (λhc=>?_)
  .have hz:fh (r.drop A)=0:=by simp only[Nat.add_zero,ic]at hc;simpa using hc
   refine ah H8 O λh9 H9 _=>ae O call147 (bX (LO.mk' H9 hs W0) _) ?_;rintro x rl ⟨⟨t,y,rfl,⟨p,q,u,v,rfl⟩,w,rfl⟩,RW,XZ,_,LZ,a10,X0,uw,d10,RX⟩;exact an [1] (H9.aA RW RX) O λL3 wg _=>ab [1] wg O (fail (by unfold iU we wb;simp[hr,hA,hb,hz]) _ _ ⟨_,_,_,_,O⟩ ⟨_,O⟩ _ wg.kp ⟨_,_,LO.mk' wg hs LZ⟩)
  .have hz:¬ fh (r.drop A)=0:=by simp only[Nat.add_zero,ic]at hc;simpa using hc
   refine ah H8 O λh9 H9 _=>?_;exact done (A+fh (r.drop A)) O ⟨by simp[wb,hA,hb,hz],by omega,_,_,_,_,H9⟩
 .rintro k h6 ⟨hI,W1,a6,b6,c6,d6,H6⟩;refine ah H6 O λh7 H7 _=>ae O call166 (gQ (LO.mk' H7 hs (by omega)) _ [46] (by simp)) ?_;rintro x h8 ⟨rfl,k8,X1,_,W3,a8,b8,c8,d8,nL⟩;have H8:=H7.aA k8 nL;refine ah H8 O λh9 H9 _=>?_;simp only[ic]at H9 W3;refine lC 99 (λp:Bool×Nat=>[(0,.ptr o 0),(2,.ptr h.n 0),(3,.bu),(4,.bool p.1)]) (λp h'=>wc r k=some p/\p.2<=r.length/\∃a b c d,HI h [o] h' [(o,na s st a ((st+p.2:Nat):Int) b c d rest),(h.n,gR)]) O (λhb done=>?_) (λhb done=>?_) ?_
  .rw[ic]at hb;rw[hb,show b1 true=1 from O]at H9 W3;refine ah H9 O λrl zb _=>ae O call167 (ie (LO.mk' zb hs W3)) ?_;rintro x L3 ⟨rfl,X2,aah,_,Vl,a11,b11,c11,d11,X3⟩;have wg:=zb.aA X2 X3;simp only[Nat.add_assoc,ic]at wg Vl;refine ah wg O λJs L4 _=>af O (λhc=>?_) (λhc=>?_)
   .have hz:fh (r.drop (k+1))=0:=by simp only[Nat.add_assoc,ic]at hc;simpa using hc
    refine ah L4 O λta zd _=>ae O call147 (bX (LO.mk' zd hs Vl) _) ?_;rintro x Q0 ⟨⟨t,y,rfl,⟨p,q,u,v,rfl⟩,w,rfl⟩,k14,aai,_,O5,a14,b14,c14,d14,X4⟩;exact an [1] (zd.aA k14 X4) O λL5 O6 _=>ab [1] O6 O (fail (by unfold iU we;rw[hr,hI];simp[wc,hb,hz]) _ _ ⟨_,_,_,_,O⟩ ⟨_,O⟩ _ O6.kp ⟨_,_,LO.mk' O6 hs O5⟩)
   .have hz:¬ fh (r.drop (k+1))=0:=by simp only[Nat.add_assoc,ic]at hc;simpa using hc
    refine ah L4 O λta zd _=>?_;exact done (true,k+1+fh (r.drop (k+1))) O ⟨by simp[wc,hb,hz],by simp only;omega,_,_,_,_,by rw[Nat.add_assoc k];exact zd⟩
  .rw[ic]at hb;rw[hb,show b1 false=0 from O]at H9 W3;refine ah H9 O λrl zb _=>?_;exact done (false,k) O ⟨by simp[wc,hb],W1,_,_,_,_,zb⟩
  .rintro⟨f,k⟩ rl ⟨hF,W1,a10,X0,uw,d10,zb⟩;simp only at W1 zb;have LZ:st+k<=s.length:=by omega
   refine ah zb O λL3 wg _=>ae O call166 (gQ (LO.mk' wg hs LZ) _ [101,69] (by simp)) ?_;rintro x Js ⟨rfl,k12,aaj,_,O7,a12,b12,c12,d12,X5⟩;have L4:=wg.aA k12 X5;refine ah L4 O λta zd _=>?_;simp only[ic]at zd O7;refine lC 99 (λp:Bool×Nat=>[(0,.ptr o 0),(2,.ptr h.n 0),(3,.bu),(4,.bool p.1)]) (λp h'=>xE r f k=some p/\p.2<=r.length/\∃a b c d,HI h [o] h' [(o,na s st a ((st+p.2:Nat):Int) b c d rest),(h.n,gR)]) O (λhb done=>?_) (λhb done=>?_) ?_
   .rw[ic]at hb;rw[hb,show b1 true=1 from O]at zd O7;refine ah zd O λQ0 RY _=>ae O call166 (gQ (LO.mk' RY hs O7) _ [45,43] (by simp)) ?_;rintro x L5 ⟨rfl,k15,aak,_,Vm,a15,b15,c15,d15,X6⟩;have O6:=RY.aA k15 X6;simp only[Nat.add_assoc,ic]at O6 Vm;generalize hB:b1 (sg [45,43] (r.drop (k+1)))=B at*;refine ah O6 O λL6 Q1 _=>ae O call167 (ie (LO.mk' Q1 hs Vm)) ?_;rintro x L7 ⟨rfl,Vn,Vo,_,Jt,a17,X7,c17,d17,L8⟩;have H17:=Q1.aA Vn L8;simp only[Nat.add_assoc,ic]at H17 Jt;refine ah H17 O λOo Oq _=>af O (λhc=>?_) (λhc=>?_)
    .have hz:fh (r.drop (k+(1+B)))=0:=by simp only[Nat.add_assoc,ic]at hc;simpa using hc
     refine ah Oq O λVp W4 _=>ae O call147 (bX (LO.mk' W4 hs Jt) _) ?_;rintro x h20 ⟨⟨t,y,rfl,⟨p,q,u,v,rfl⟩,w,rfl⟩,k20,aal,_,X8,a20,b20,c20,d20,X9⟩;exact an [1] (W4.aA k20 X9) O λD0 Ya _=>ab [1] Ya O (fail (by unfold iU we;rw[hr,hI];simp only[Option.bind_some,hF];simp[xE,hb,hB,Nat.add_assoc,hz]) _ _ ⟨_,_,_,_,O⟩ ⟨_,O⟩ _ Ya.kp ⟨_,_,LO.mk' Ya hs X8⟩)
    .have hz:¬ fh (r.drop (k+(1+B)))=0:=by simp only[Nat.add_assoc,ic]at hc;simpa using hc
     refine ah Oq O λVp W4 _=>?_;exact done (true,k+(1+(B+fh (r.drop (k+(1+B)))))) O ⟨by simp[xE,hb,hB,Nat.add_assoc,hz],by simp only;omega,_,_,_,_,W4⟩
   .rw[ic]at hb;rw[hb,show b1 false=0 from O]at zd O7;refine ah zd O λQ0 RY _=>?_;exact done (f,k) O ⟨by simp[xE,hb],W1,_,_,_,_,RY⟩
   .rintro⟨g,m⟩ Q0 ⟨hE,hmr,a14,b14,c14,d14,RY⟩;simp only at hmr RY;have Jm:iU s st=some (if g then 18 else 17,r.take m,st+m):=by
     unfold iU we;rw[hr,hI];simp only[Option.bind_some,hF,hE,Option.map_some]
    have O5:st+m<=s.length:=by omega
    have rj:(s.take (st+m)).drop st=r.take m:=by rw[List.drop_take,hr,Nat.add_sub_cancel_left]
    refine ah RY O λL5 O6 _=>af O (λhb=>?_) (λhb=>?_)
    .refine ah O6 O λL6 Q1 _=>ae O call140 (fE (LO.mk' Q1 hs O5) _ (by omega)) ?_;rintro x L7 ⟨⟨t,rfl,p,q,u,v,rfl⟩,Vn,Vo,_,Jt,a17,X7,c17,d17,L8⟩;refine an [1] (Q1.aA Vn L8) O λOo Oq _=>ab [1] Oq O ⟨Oq.kp,?_⟩;rw[Jm,if_pos hb];exact⟨_,_,O,⟨_,_,_,_,by rw[<-rj]⟩,LO.mk' Oq hs Jt⟩
    .refine ah O6 O λL6 Q1 _=>ae O call140 (fE (LO.mk' Q1 hs O5) _ (by omega)) ?_;rintro x L7 ⟨⟨t,rfl,p,q,u,v,rfl⟩,Vn,Vo,_,Jt,a17,X7,c17,d17,L8⟩;refine an [1] (Q1.aA Vn L8) O λOo Oq _=>ab [1] Oq O ⟨Oq.kp,?_⟩;rw[Jm,if_neg (by have hb:g=false:=hb;rw[hb];simp)];exact⟨_,_,O,⟨_,_,_,_,by rw[<-rj]⟩,LO.mk' Oq hs Jt⟩
end
end Go.Am
section
open Go.Shelf
namespace Go.Proofs
def Tryz.vy:Go.Shelf.Ren:=⟨λ|197=>172|260=>193|n=>n,λ|9=>9|21=>21|3=>3|4=>4|5=>5|105=>281|119=>334|0=>0|46=>326|139=>337|138=>336|n=>n,λ|3=>1|4=>2|n=>n⟩
theorem Tryz.Ip:Go.Proofs.Lays.n197 prog Tryz.vy:={
 mixed:=by kernel_rfl,
 f197:=func172.trans (congrArg some (by kernel_rfl)),
 f260:=func193.trans (congrArg some (by kernel_rfl)),
 t0:=Tryz.underlying0,
 a0:=Tryz.isAgg0,
 z0:=Tryz.sizeOf0,
 v0:=Tryz.zeroValue0,
 t3:=Tryz.underlying3,
 a3:=Tryz.isAgg3,
 z3:=Tryz.sizeOf3,
 v3:=Tryz.zeroValue3,
 t4:=Tryz.underlying4,
 a4:=Tryz.isAgg4,
 z4:=Tryz.sizeOf4,
 v4:=Tryz.zeroValue4,
 t5:=Tryz.underlying5,
 a5:=Tryz.isAgg5,
 z5:=Tryz.sizeOf5,
 v5:=Tryz.zeroValue5,
 t9:=Tryz.underlying9,
 a9:=Tryz.isAgg9,
 z9:=Tryz.sizeOf9,
 v9:=Tryz.zeroValue9,
 t21:=Tryz.underlying21,
 a21:=Tryz.isAgg21,
 z21:=Tryz.sizeOf21,
 v21:=Tryz.zeroValue21,
 t46:=Tryz.underlying326,
 a46:=Tryz.isAgg326,
 z46:=Tryz.sizeOf326,
 v46:=Tryz.zeroValue326,
 t105:=Tryz.underlying281,
 a105:=Tryz.isAgg281,
 z105:=Tryz.sizeOf281,
 v105:=Tryz.zeroValue281,
 t119:=Tryz.underlying334,
 a119:=Tryz.isAgg334,
 z119:=Tryz.sizeOf334,
 t138:=Tryz.underlying336,
 a138:=Tryz.isAgg336,
 z138:=Tryz.sizeOf336,
 v138:=Tryz.zeroValue336,
 t139:=Tryz.underlying337,
 a139:=Tryz.isAgg337,
 z139:=Tryz.sizeOf337,
 v139:=Tryz.zeroValue337,
 g3:=by kernel_rfl,
 g4:=by kernel_rfl}
end Go.Proofs
end
namespace Go.Am
open Go.Proofs Go.Proofs.Tryz
section
open Go.RowKit
theorem xH {g:Gh} {w w':World} {h:AH} (R:Rel g w h) (b:Below w.heap.size w w'):Ev g w g w'/\Rel g w' h:=by
 have jL:∀k,k <w.heap.size->w'.heap[k]? =w.heap[k]? :=b.block
 have E:Ev g w g w':=⟨⟨b.os,b.tape,b.output,b.size,λ_ _ e=>e,λ_ _ e=> .inl ⟨_,e⟩,λ_ _ e=>e,λ_ _ e=> .inl e,λ_ _ _ e=>e,λa e=>⟨e,jW (jL _ (R.xd (b:=a.block) (by omega)))⟩,Nat.le_refl _,λ_ _=>Nat.le_refl _,λ_ _ _=>⟨O,O⟩,λk c T fz e=>⟨c,by rw[jL _ (jl e)];exact e,O⟩,λ_ _ e=>e,λ_ _ e=> .inl e⟩,λk hk _ _ _=>⟨jL k hk,O⟩⟩
 refine⟨E,λo k e=>?_,R.Bm,R.Ag,λo x e=>?_,R.KN,R.nt,R.cur,λk l e=>?_,R.Dh,R.HN,λk e=>?_,λk c e=>?_,R.iH E.toEvc O⟩
 .obtain⟨h1,h2,h3⟩:=R.uC o k e;exact⟨Nat.lt_of_lt_of_le h1 b.size,h2,h3⟩
 .obtain⟨k,hk,ho⟩:=R.obj o x e;exact⟨k,hk,ho.mono E.toEvc (jL k (R.uC _ _ hk).1) (R.Bn jL k)⟩
 .obtain⟨h1,h2⟩:=R.FT k l e;exact⟨h1,Nat.lt_of_lt_of_le h2 b.size⟩
 .obtain⟨c,T,fz,h1,h2⟩:=R.ext k e;exact⟨c,T,fz,by rw[jL _ (jl h1)];exact h1,h2⟩
 .obtain⟨h1,h2⟩:=R.FC k c e;exact⟨Nat.lt_of_lt_of_le h1 b.size,h2⟩
def bQ (a:Addr):Option Value:=
 match a.spot with
 |some _=>none
 |none=>if a.block=1 then(if a.off <256 then some (.int .u8 (Lib.firstT a.off))else none)
  else if a.block=2 then(if a.off <32 then some (if a.off% 2=0 then .int .u8 (Lib.accLo (a.off/2))else .int .u8 (Lib.accHi (a.off/2)))else none)else none
theorem L9 {g:Gh} {w:World} {h:AH} (R:Rel g w h) (hT:h.aV=bQ):Lib.Utf8Tabs 1 2 w:=by
 refine⟨λc hc=>(R.HO ⟨1,c,none⟩ _ ?_).1,λi hi=>⟨(R.HO ⟨2,2*i,none⟩ _ ?_).1,(R.HO ⟨2,2*i+1,none⟩ _ ?_).1⟩⟩
 .rw[hT];simp[bQ,hc]
 .rw[hT];simp[bQ,show 2*i <32 by omega]
 .rw[hT];simp[bQ,show 2*i+1 <32 by omega,show(2*i+1)% 2=1 by omega,show(2*i+1)/2=i by omega]
def eZ (s:ak):Nat×Nat:=Lib.decodeGo ⟨s.toArray⟩
theorem sj {h:AH} (hT:h.aV=bQ) (s:ak):aP prog 172 [.str s] h (.cN [.int .i32 (eZ s).1,.int .i64 (eZ s).2]) h:=by
 intro g w vs R nC;obtain⟨h1,h2⟩:=nC;have hv:=h2 0 (by simp);obtain⟨v,rfl⟩:∃v,vs=#[v]:=by
  match vs,h1 with
  |⟨[v]⟩,_=>exact⟨v,O⟩
 simp only[List.getElem_cons_zero]at hv;have e0:(#[v]:Array Value).getD 0 undef=v:=rfl;rw[e0]at hv;generalize hs:AV.str s=x at hv
 cases hv<;>cases hs;rename_i b;have eb:(⟨b.data.toList.toArray⟩:ByteArray)=b:=by simp
 have:=Any.utf8_DecodeRuneInString Tryz.Ip b w (L9 R hT);refine Calls.mono this ?_;rintro e w' ⟨rfl,hb⟩;obtain⟨E,R'⟩:=xH R hb;refine⟨_,g,O,E,R',?_⟩;simp only[eZ,eb];exact .cN _ _ O λi hi=>by
  match i,hi with
  |0,_=>exact .int _ _
  |1,_=>exact .int _ _
end
section
attribute [local irreducible] AC AL AW AD aP
theorem vz {h:AH} {o:Nat} {s:ak} {st e:Nat} {rest:List AV} (L:LO h o s st e rest) (hT:h.aV=bQ):
 al prog 165 [.ptr o 0] h (λx h'=>x= .cN [.int .i32 (eZ (s.drop e)).1,.int .i64 (eZ (s.drop e)).2]/\Kp [o] h h'/\LO h' o s st e rest):=by
 obtain⟨ho,hs,he,a,b,c,d,hg⟩:=L;refine az (n:=19) (rs:=[.tmp 2,.tmp 3]) [] ⟨func165,O,O,O⟩ O <| ah (HI.one hg ho) O λh1 H1 _=>fR O O O O (eY O (by omega)) lS (by simpa using he) (Nat.le_refl _) O ?_;refine jJ O call172 (Q:=λv h'=>v=_/\h'=h1) ⟨_,_,⟨O,O⟩,sj (H1.kp.aV.trans hT) _⟩ ?_;rintro v uu ⟨rfl,rfl⟩;refine ah H1 O λh2 H2 _=>ab [] H2 O ⟨?_,H2.kp,LO.mk' H2 hs he⟩;simp[iY]
def pB:ak->Nat
 |[]=>0
 |c::r=>if c=9\/c=32\/c=44\/c=10\/c=13 then 1+pB r else if c=239/\r.take 2=[187,191]then 3+pB (r.drop 2)else 0
termination_by s=>s.length
decreasing_by all_goals(simp;try omega)
theorem Iq {c:UInt8} {r:ak} (hc:c=9\/c=32\/c=44\/c=10\/c=13):pB (c::r)=1+pB r:=by rw[pB,if_pos hc]
theorem xI {c:UInt8} {r:ak} (hc:¬ (c=9\/c=32\/c=44\/c=10\/c=13)) (h2:¬ (c=239/\r.take 2=[187,191])):pB (c::r)=0:=by rw[pB,if_neg hc,if_neg h2]
theorem Ma {r:ak} (h2:r.take 2=[187,191]):pB (239::r)=3+pB (r.drop 2):=by rw[pB,if_neg (by decide),if_pos ⟨O,h2⟩]
theorem RZ (s:ak):pB s<=s.length:=by
 fun_induction pB s with
 |case1=>simp
 |case2 c r h ih=>simp;omega
 |case3 c r h1 h2 ih=>
  have h3:(r.take 2).length=2:=by rw[h2.2];rfl
  simp at h3 ih|-;omega
 |case4=>simp
theorem R6 {h:AH} {o:Nat} {s:ak} {st e:Nat} {rest:List AV} (L:LO h o s st e rest):
 al prog 139 [.ptr o 0] h (λx h'=>Kp [o] h h'/\LO h' o s st (e+pB (s.drop e)) rest):=by
 obtain⟨ho,hs,he,a,b,c,d,hg⟩:=L;have hle:e+pB (s.drop e)<=s.length:=by have:=RZ (s.drop e);simp at this;omega
 refine az (n:=209) (rs:=[]) [] ⟨func139,O,O,O⟩ O <| ah (HI.one hg ho) O λh1 H1 _=>?_;refine fg (λk:Nat=>s.length -k) 209 (λk=>[(0,.ptr o 0)]) (λk h'=>e<=k/\k<=s.length/\pB (s.drop e)=(k -e)+pB (s.drop k)/\∃b c d,HI h [o] h' [(o,na s st a k b c d rest)]) e O ⟨Nat.le_refl _,he,by simp,_,_,_,H1⟩ ?_;rintro k h2 ⟨vw,jh,BW,b2,c2,d2,H2⟩ again;have fin:∀(h4:AH) (b4 c4 d4:Int),HI h [o] h4 [(o,na s st a k b4 c4 d4 rest)]->pB (s.drop k)=0->Kp [o] h h4/\LO h4 o s st (e+pB (s.drop e)) rest:=λh4 b4 c4 d4 H4 h0=>by rw[show e+pB (s.drop e)=k by omega];exact⟨H4.kp,LO.mk' H4 hs jh⟩
 refine ah H2 O λh3 H3 _=>af O (λhb=>?_) (λhb=>?_)
 .have ax:k <s.length:=by simpa using hb
  have ic:s.drop k=s[k]::s.drop (k+1):=List.drop_eq_getElem_cons ax
  have ec:s.getD (k:Int).toNat 0=s[k]:=by simp[ax]
  have step:∀(h4:AH) (b4 c4 d4:Int),(s[k]=9\/s[k]=32\/s[k]=44\/s[k]=10\/s[k]=13)->HI h [o] h4 [(o,na s st a (IntKind.i64.wrap ((k:Int)+1)) b4 c4 d4 rest)]->
   e<=k+1/\k+1<=s.length/\pB (s.drop e)=(k+1 -e)+pB (s.drop (k+1))/\∃b c d,HI h [o] h4 [(o,na s st a ((k+1:Nat):Int) b c d rest)]:=λh4 b4 c4 d4 hc H4=>by
   rw[wrap_i64 (by omega) (by omega)]at H4;exact⟨by omega,by omega,by rw[BW,ic,Iq hc];omega,_,_,_,H4⟩
  refine KK H3 O (by simp;exact ax) λh4 H4 _=>?_;rw[ec];have nat:∀(m:UInt8),decide ((s[k].toNat:Int)=m.toNat)=true->s[k]=m:=λm hm=>UInt8.toNat_inj.1 (by have:=of_decide_eq_true hm;omega)
  have Ju:∀(m:UInt8),decide ((s[k].toNat:Int)=m.toNat)=false->s[k]≠m:=λm hm e=>by rw[e]at hm;have:=of_decide_eq_false hm;omega
  refine af O (λh9=>?_) (λh9=>?_)
  .refine ah H4 O λh5 H5 _=>ug O h9 (ah H5 O λh6 H6 _=>?_);exact again (k+1) (by omega) O (step h6 _ _ _ (.inl (nat 9 h9)) H6)
  .refine ah H4 O λh5 H5 _=>af O (λW5=>?_) (λW5=>?_)
   .refine ah H5 O λh6 H6 _=>ug O W5 (ah H6 O λh7 H7 _=>?_);exact again (k+1) (by omega) O (step h7 _ _ _ (.inr (.inl (nat 32 W5))) H7)
   .refine ah H5 O λh6 H6 _=>af O (λYb=>?_) (λYb=>?_)
    .exact ah H6 O λh7 H7 _=>again (k+1) (by omega) O (step h7 _ _ _ (.inr (.inr (.inl (nat 44 Yb)))) H7)
    .refine ah H6 O λh7 H7 _=>af O (λrl=>?_) (λrl=>?_)
     .exact ah H7 O λh8 H8 _=>again (k+1) (by omega) O (step h8 _ _ _ (.inr (.inr (.inr (.inl (nat 10 rl))))) H8)
     .refine ah H7 O λh8 H8 _=>af O (λta=>?_) (λta=>?_)
      .refine ah H8 O λh9' H9 _=>?_;rw[wrap_i64 (n:=(k:Int)+1) (by omega) (by omega)]at H9;have hw:pB (s.drop e)=(k+1 -e)+pB (s.drop (k+1)):=by rw[BW,ic,Iq (.inr (.inr (.inr (.inr (nat 13 ta)))))];omega
       refine aR O (λaT=>?_) (λaT=>?_)
       .have eG:k+1 <s.length:=by rw[wrap_i64 (n:=(k:Int)+1) (by omega) (by omega)]at aT;simp at aT;omega
        have B2:s.drop (k+1)=s[k+1]::s.drop (k+1+1):=List.drop_eq_getElem_cons eG
        refine KK H9 O (by simp;omega) λR7 zb _=>af O (λhn=>?_) (λhn=>?_)
        .refine ah zb O λO8 wg _=>?_;rw[show IntKind.i64.wrap ((k:Int)+1+1)=((k+1+1:Nat):Int) by rw[wrap_i64 (by omega) (by omega)];omega]at wg;have Ot:s[k+1]=10:=by
          have:=of_decide_eq_true hn
          rw[show((k:Int)+1).toNat=k+1 by omega]at this;simp[eG]at this;exact UInt8.toNat_inj.1 (by have e:(10:UInt8).toNat=10:=rfl;omega)
         exact again (k+1+1) (by omega) O ⟨by omega,by omega,by rw[hw,B2,Iq (.inr (.inr (.inr (.inl Ot))))];omega,_,_,_,wg⟩
        .refine ah zb O λO8 wg _=>?_;exact again (k+1) (by omega) O ⟨by omega,by omega,hw,_,_,_,wg⟩
       .refine ah H9 O λR7 zb _=>cX O (ah zb O λO8 wg _=>?_);exact again (k+1) (by omega) O ⟨by omega,by omega,hw,_,_,_,wg⟩
      .refine ah H8 O λh9' H9 _=>?_;have kZ:¬ (s[k]=9\/s[k]=32\/s[k]=44\/s[k]=10\/s[k]=13):=by
        rintro(e|e|e|e|e)
        .exact Ju 9 h9 e
        .exact Ju 32 W5 e
        .exact Ju 44 Yb e
        .exact Ju 10 rl e
        .exact Ju 13 ta e
       refine af O (λYc=>?_) (λYc=>?_)
       .have eEF:s[k]=239:=nat 239 Yc
        have get:∀j,s.getD ((k:Int)+j).toNat 0=s.getD (k+j.toNat) 0\/j <0:=λj=>by
         by_cases hj:j <0
         .exact .inr hj
         .left;congr 1;omega
        refine ah H9 O λR7 zb _=>?_;rw[wrap_i64 (n:=(k:Int)+2) (by omega) (by omega)];refine aR O (λaT=>?_) (λaT=>?_)
        .have eG:k+2 <s.length:=by simp at aT;omega
         refine KK zb O (by simp;rw[wrap_i64 (by omega) (by omega)];omega) λO8 wg _=>?_;rw[wrap_i64 (n:=(k:Int)+1) (by omega) (by omega)];refine aR O (λbZ=>?_) (λbZ=>?_)
         .refine KK wg O (by simp;rw[wrap_i64 (by omega) (by omega)];omega) λVq L4 _=>?_;have e1:s.getD ((k:Int)+1).toNat 0=s[k+1]:=by rw[show((k:Int)+1).toNat=k+1 by omega];simp[show k+1 <s.length by omega]
          have e2:s.getD (IntKind.i64.wrap ((k:Int)+2)).toNat 0=s[k+2]:=by rw[wrap_i64 (by omega) (by omega),show((k:Int)+2).toNat=k+2 by omega];simp[eG]
          have B2:s.drop (k+1)=s[k+1]::s[k+2]::s.drop (k+3):=by rw[List.drop_eq_getElem_cons (show k+1 <s.length by omega),List.drop_eq_getElem_cons (show k+1+1 <s.length by omega)]
          refine af O (λgp=>?_) (λgp=>?_)
          .refine ah L4 O λJv zd _=>?_;rw[wrap_i64 (n:=(k:Int)+3) (by omega) (by omega)]at zd;have hBB:s[k+1]=187:=by rw[e1]at bZ;have:=of_decide_eq_true bZ;exact UInt8.toNat_inj.1 (by have e:(187:UInt8).toNat=187:=rfl;omega)
           have hBF:s[k+2]=191:=by rw[e2]at gp;have:=of_decide_eq_true gp;exact UInt8.toNat_inj.1 (by have e:(191:UInt8).toNat=191:=rfl;omega)
           exact again (k+3) (by omega) O ⟨by omega,by omega,by rw[BW,ic,eEF,Ma (by rw[B2];simp[hBB,hBF]),List.drop_drop,show k+1+2=k+3 by omega];omega,_,_,_,zd⟩
          .refine ah L4 O λJv zd _=>?_;exact ab [] zd O (fin _ _ _ _ zd (by rw[ic];refine xI kZ λe=>?_;have q:=e.2;rw[B2]at q;simp only[List.take_succ_cons,List.take_zero,List.cons.injEq,and_true]at q;rw[e2,q.2]at gp;exact absurd gp (by decide)))
         .refine ah wg O λVq L4 _=>cX O (ah L4 O λJv zd _=>?_);have e1:s.getD ((k:Int)+1).toNat 0=s[k+1]:=by rw[show((k:Int)+1).toNat=k+1 by omega];simp[show k+1 <s.length by omega]
          have B2:s.drop (k+1)=s[k+1]::s.drop (k+2):=by rw[List.drop_eq_getElem_cons (show k+1 <s.length by omega)]
          exact ab [] zd O (fin _ _ _ _ zd (by
           rw[ic];refine xI kZ λe=>?_;have q:=e.2;rw[B2]at q;injection q with q1 q2
           rw[e1,q1]at bZ;exact absurd bZ (by decide)))
        .refine ah zb O λO8 wg _=>aR O (λbZ=>by cases bZ) (λbZ=>?_);refine ah wg O λVq L4 _=>cX O (ah L4 O λJv zd _=>?_);exact ab [] zd O (fin _ _ _ _ zd (by rw[ic];refine xI kZ λe=>?_;have q:=congrArg List.length e.2;have aT:=of_decide_eq_false aT;simp at q aT;omega))
       .exact ah H9 O λR7 zb _=>ab [] zb O (fin _ _ _ _ zb (by rw[ic];exact xI kZ λe=>Ju 239 Yc e.1))
 .have fH:s.length<=k:=by simpa using hb
  exact ah H3 O λh4 H4 _=>cy [] H4 O (fin _ _ _ _ H4 (by rw[List.drop_eq_nil_of_le fH,pB]))
end
section
variable {P:Program} {lt:LT} {C:Exit->ay->AH->Prop} {h h0 h1:AH} {ids:List Nat} {V:View} {fr aB:ay} {ks:List Kt}
theorem aC {c z:Code} {b:Nat} {σ τ:Type} (n:Nat) (m:σ->Nat) (S:σ->List (Nat×AV)) (I:σ->AH->Prop) (S2:τ->List (Nat×AV)) (I2:τ->AH->Prop) (s0:σ) (hl:HQ fr n (S s0)) (hI:I s0 h)
 (step:∀s h,I s h->(∀s' {h' aB},m s' <m s->HQ aB n (S s')->I s' h'->XS P lt C (.ext .normal) (.lp c:: .LU b:: .za:: .seq z::ks) aB h')->(∀t {h' aB},HQ aB n (S2 t)->I2 t h'->XS P lt C (.ext .normal) (.za:: .seq z::ks) aB h')->XS P lt C (.code c) (.lp c:: .LU b:: .za:: .seq z::ks) ((ay.bare n λ_=>[]).zD (S s)) h)
 (join:∀t h,I2 t h->XS P lt C (.code z) ks ((ay.bare n λ_=>[]).zD (S2 t)) h):
 XS P lt C (.code (.loop c)) (.LU b:: .seq z::ks) fr h:=by
 have J:∀t {h aB},HQ aB n (S2 t)->I2 t h->XS P lt C (.ext .normal) (.za:: .seq z::ks) aB h:=λt h aB h1 h4=>AC.se (mu.sl h1) (join t h h4)
 exact fg (ks:= .LU b:: .za:: .seq z::ks) m n S I s0 hl hI λs h hI again=>step s h hI again J
theorem cV {x z:Code} {τ:Type} (n:Nat) (S2:τ->List (Nat×AV)) (I2:τ->AH->Prop)
 (hx:(∀t {h' aB},HQ aB n (S2 t)->I2 t h'->XS P lt C (.ext .normal) (.za:: .seq z::ks) aB h')->XS P lt C (.code x) (.za:: .seq z::ks) fr h)
 (join:∀t h,I2 t h->XS P lt C (.code z) ks ((ay.bare n λ_=>[]).zD (S2 t)) h):XS P lt C (.code (.seq x z)) ks fr h:=by
 have J:∀t {h' aB},HQ aB n (S2 t)->I2 t h'->XS P lt C (.ext .normal) (.za:: .seq z::ks) aB h':=λt h aB h1 h4=>AC.se (mu.sl h1) (join t h h4)
 exact AC.seq (hx J)
end
theorem lk {s:ak} (h:s≠[]):eZ s=Lib.decodeL s:=by
 have h0:0 <s.length:=List.length_pos_iff.2 h
 unfold eZ Lib.decodeGo;have e:=Lib.decodeL_drop ⟨s.toArray⟩ 0;simp at e;rw[if_neg (by simp[ByteArray.size];omega),e]
theorem Mb:eZ []=(65533,0):=rfl
theorem nO {s:ak} (h:s≠[]):1<=(eZ s).2:=by rw[lk h];exact Lib.decodeL_width s
theorem qM (s:ak):(eZ s).2<=s.length:=by
 by_cases h:s=[]
 .subst h;simp[Mb]
 .rw[lk h];exact Lib.decodeL_le s h
theorem lU {c:UInt8} {r:ak} (h:c.toNat <128):eZ (c::r)=(c.toNat,1):=by rw[lk (by simp)];have e:=Lib.decodeL_drop ⟨(c::r).toArray⟩ 0;simp at e;exact e.trans (Go.decode_ascii ⟨(c::r).toArray⟩ 0 (by simp[ByteArray.size]) h)
theorem Ay {c:UInt8} {r:ak} (h:128<=c.toNat):128<=(eZ (c::r)).1:=by rw[lk (by simp)];have e:=Lib.decodeL_drop ⟨(c::r).toArray⟩ 0;simp at e;rw[e];exact(Go.decode_high ⟨(c::r).toArray⟩ 0 (by simp[ByteArray.size]) h).1
theorem Mc {s:ak} (h:s≠[]) (hv:(eZ s).1≠65533):Lib.encodeRune ((eZ s).1:Int)=s.take (eZ s).2:=by rw[lk h]at hv|-;exact Lib.encode_decode s h λe=>hv e.1
def runN (p:Nat->Bool) (s:ak):Nat:=if h:s=[]then 0 else if p (eZ s).1 then(eZ s).2+runN p (s.drop (eZ s).2)else 0
termination_by s.length
decreasing_by
 have:=nO h
 have:0 <s.length:=List.length_pos_iff.2 h
 simp;omega
theorem tf (p:Nat->Bool):runN p []=0:=by rw[runN,dif_pos O]
theorem D1 {p:Nat->Bool} {s:ak} (h:s≠[]) (hp:p (eZ s).1=true):runN p s=(eZ s).2+runN p (s.drop (eZ s).2):=by rw[runN,dif_neg h,if_pos hp]
theorem Ir {p:Nat->Bool} {s:ak} (hp:p (eZ s).1=false):runN p s=0:=by
 rw[runN];split
 .rfl
 .rw[if_neg (by rw[hp];simp)]
theorem wL (p:Nat->Bool) (s:ak):runN p s<=s.length:=by
 fun_induction runN p s with
 |case1=>simp
 |case2 s h hp ih=>
  have:=qM s
  simp at ih;omega
 |case3=>simp
section
attribute [local irreducible] AC AL AW AD aP
def iK (r:Nat):Bool:=(48<=r&&r<=57)||(65<=r&&r<=90)||(97<=r&&r<=122)||r==95
def oj (r:Nat):Bool:=31 <r||r==9
theorem jv {s:ak} {k:Nat} (h:k <s.length):s.drop k≠[]:=λe=>by have:=congrArg List.length e;simp at this;omega
abbrev LI (h0:AH) (ids:List Nat) (h:AH) (o:Nat) (s:ak) (st:Nat) (k:Int) (rest:List AV) (V:View):Prop:=∃a b c d:Int,HI h0 ids h ((o,na s st a k b c d rest)::V)
theorem LI.at {h0 h:AH} {ids:List Nat} {o:Nat} {s:ak} {st:Nat} {a b c d:Int} {k k':Int} {rest:List AV} {V:View} (H:HI h0 ids h ((o,na s st a k b c d rest)::V)) (e:k=k'):LI h0 ids h o s st k' rest V:=⟨_,_,_,_,e▸H⟩
theorem D2 {p:Nat->Bool} {s:ak} {e k r wd:Nat} (vw:e<=k) (ax:k <s.length) (BW:runN p (s.drop e)=(k -e)+runN p (s.drop k)) (Ou:eZ (s.drop k)=(r,wd)) (hp:p r=true):
 s.length -(k+wd) <s.length -k/\e<=k+wd/\k+wd<=s.length/\runN p (s.drop e)=(k+wd -e)+runN p (s.drop (k+wd)):=by
 have cv:=jv ax
 have p1:=nO cv
 have p2:=qM (s.drop k)
 have p3:=D1 (p:=p) cv (by rw[Ou];exact hp)
 simp only[Ou,List.drop_drop,List.length_drop]at p1 p2 p3;exact⟨by omega,by omega,by omega,by omega⟩
theorem D3 {p:Nat->Bool} {s:ak} {e k r wd:Nat} (vw:e<=k) (BW:runN p (s.drop e)=(k -e)+runN p (s.drop k)) (Ou:eZ (s.drop k)=(r,wd)) (hp:p r=false):e+runN p (s.drop e)=k:=by
 have p3:=Ir (p:=p) (s:=s.drop k) (by rw[Ou];exact hp)
 omega
theorem wh {h0:AH} {o:Nat} {s:ak} {st e:Nat} {rest:List AV} (L:LO h0 o s st e rest) (hT:h0.aV=bQ) (XY:st<=e):
 al prog 142 [.ptr o 0] h0 (λx h'=>(∃t,x= .cN [t,.bu]/\BY s 21 ((s.take (e+runN oj (s.drop e))).drop st) t)/\Kp [o] h0 h'/\LO h' o s st (e+runN oj (s.drop e)) rest):=by
 obtain⟨ho,hs,he,a,b,c,d,hg⟩:=L;have hle:e+runN oj (s.drop e)<=s.length:=by have:=wL oj (s.drop e);simp at this;omega
 refine az (n:=49) (rs:=[.cell 2 88,.tmp 3]) [] ⟨func142,O,O,O⟩ O <| have H:=HI.one hg ho;ah H O λh H Y=>?_;refine aC 49 (λk:Nat=>s.length -k) (λk=>[(0,.ptr o 0),(2,.ptr h0.n 0),(3,.bu)]) (λk h'=>e<=k/\k<=s.length/\runN oj (s.drop e)=(k -e)+runN oj (s.drop k)/\LI h0 [o] h' o s st k rest [(h0.n,gR)]) (λ_=>[(0,.ptr o 0),(2,.ptr h0.n 0),(3,.bu)]) (λ_:Unit=>λh'=>LI h0 [o] h' o s st (e+runN oj (s.drop e):Nat) rest [(h0.n,gR)]) e O ⟨Nat.le_refl _,he,by simp,_,_,_,_,H⟩ ?_ ?_
 .clear H;rintro k h ⟨vw,jh,BW,a,b,c,d,H⟩ again done;refine ah H O λh H Y=>af O (λhb=>?_) λhb=>?_
  .have ax:k <s.length:=by simpa using hb
   refine ah H O λh H Y=>ae O call165 (vz (LO.mk' H hs jh) (H.kp.aV.trans hT)) ?_;rintro x h3 ⟨rfl,k3,iX,jZ,iA,a3,b3,c3,d3,bF⟩;replace H:=H.aA k3 bF;refine ah H O λh H Y=>?_;generalize Ou:eZ (s.drop k)=Yd;obtain⟨r,wd⟩:=Yd;have next:=D2 (p:=oj) vw ax BW Ou
   have Az:=D3 (p:=oj) vw BW Ou;refine aj O (λYe=>?_) λYe=>?_
   .refine an [91] H O λh H Y=>?_;obtain⟨q1,q2,q3,q4⟩:=next (by simp[oj];simp at Ye;omega)
    exact again _ q1 O ⟨q2,q3,q4,LI.at H (by show IntKind.i64.wrap ((k:Int)+wd)=_;rw[wrap_i64 (by omega) (by omega)];omega)⟩
   .refine ah H O λh H Y=>af O (λh9=>?_) λh9=>?_
    .refine ah H O λh H Y=>?_;obtain⟨q1,q2,q3,q4⟩:=next (by simp[oj];simp at h9;omega)
     exact again _ q1 O ⟨q2,q3,q4,LI.at H (by show IntKind.i64.wrap ((k:Int)+wd)=_;rw[wrap_i64 (by omega) (by omega)];omega)⟩
    .exact ah H O λh H Y=>done () O (LI.at H (by rw[Az (by simp[oj];simp at h9 Ye;omega)]))
  .have fH:s.length<=k:=by simpa using hb
   refine ah H O λh H Y=>?_;rw[List.drop_eq_nil_of_le fH,tf]at BW;exact done () O (LI.at H (by omega))
 .clear H;rintro⟨⟩ h ⟨a,b,c,d,H⟩;refine ah H O λh H Y=>ae O call140 (fE (LO.mk' H hs hle) 21 (by omega)) ?_;rintro x h3 ⟨⟨t,rfl,p,q,r,u,rfl⟩,k3,iX,jZ,iA,a3,b3,c3,d3,bF⟩;replace H:=H.aA k3 bF;exact an [1] H O λh H Y=>ab [1] H O ⟨⟨_,O,_,_,_,_,O⟩,H.kp,LO.mk' H hs hle⟩
theorem B4 {h0:AH} {o:Nat} {s:ak} {st e:Nat} {rest:List AV} (L:LO h0 o s st e rest) (hT:h0.aV=bQ) (XY:st<=e):
 al prog 143 [.ptr o 0] h0 (λx h'=>(∃t,x= .cN [t,.bu]/\BY s 16 ((s.take (e+runN iK (s.drop e))).drop st) t)/\Kp [o] h0 h'/\LO h' o s st (e+runN iK (s.drop e)) rest):=by
 obtain⟨ho,hs,he,a,b,c,d,hg⟩:=L;have hle:e+runN iK (s.drop e)<=s.length:=by have:=wL iK (s.drop e);simp at this;omega
 refine az (n:=69) (rs:=[.cell 2 88,.tmp 3]) [] ⟨func143,O,O,O⟩ O <| have H:=HI.one hg ho;ah H O λh H Y=>?_;refine aC 69 (λk:Nat=>s.length -k) (λk=>[(0,.ptr o 0),(2,.ptr h0.n 0),(3,.bu)]) (λk h'=>e<=k/\k<=s.length/\runN iK (s.drop e)=(k -e)+runN iK (s.drop k)/\LI h0 [o] h' o s st k rest [(h0.n,gR)]) (λ_=>[(0,.ptr o 0),(2,.ptr h0.n 0),(3,.bu)]) (λ_:Unit=>λh'=>LI h0 [o] h' o s st (e+runN iK (s.drop e):Nat) rest [(h0.n,gR)]) e O ⟨Nat.le_refl _,he,by simp,_,_,_,_,H⟩ ?_ ?_
 .clear H;rintro k h ⟨vw,jh,BW,a,b,c,d,H⟩ again done;refine ah H O λh H Y=>af O (λhb=>?_) λhb=>?_
  .have ax:k <s.length:=by simpa using hb
   refine ah H O λh H Y=>ae O call165 (vz (LO.mk' H hs jh) (H.kp.aV.trans hT)) ?_;rintro x h3 ⟨rfl,k3,iX,jZ,iA,a3,b3,c3,d3,bF⟩;replace H:=H.aA k3 bF;refine ah H O λh H Y=>?_;generalize Ou:eZ (s.drop k)=Yd;obtain⟨r,wd⟩:=Yd;have next:=D2 (p:=iK) vw ax BW Ou
   have Az:=D3 (p:=iK) vw BW Ou
   repeat'(first|(refine aj O (λdK=>?_) (λdK=>?_)<;>first|(cases dK;done)|refine ah H O λh H Y=>?_)|(refine aR O (λdK=>?_) (λdK=>?_)<;>first|(cases dK;done)|refine ah H O λh H Y=>?_)|(refine jI O ?_;refine ah H O λh H Y=>?_)|(refine cX O ?_;refine ah H O λh H Y=>?_)|(refine af O (λ_=>?_) (λ_=>?_)<;>refine ah H O λh H Y=>?_))
   all_goals try refine done () ?_ ?_;rfl;exact LI.at H (by rw[Az (by clear again done H BW next Az;simp[iK]at*<;>omega)])
   all_goals try
    refine again (k+wd) ?_ ?_ ?_;exact(next (by clear again done H BW next Az;simp[iK]at*<;>omega)).1;rfl;obtain⟨q1,q2,q3,q4⟩:=next (by clear again done H BW next Az;simp[iK]at*<;>omega)
    exact⟨q2,q3,q4,LI.at H (by show IntKind.i64.wrap ((k:Int)+wd)=_;rw[wrap_i64 (by omega) (by omega)];omega)⟩
  .have fH:s.length<=k:=by simpa using hb
   refine ah H O λh H Y=>?_;rw[List.drop_eq_nil_of_le fH,tf]at BW;exact done () O (LI.at H (by omega))
 .clear H;rintro⟨⟩ h ⟨a,b,c,d,H⟩;refine ah H O λh H Y=>ae O call140 (fE (LO.mk' H hs hle) 16 (by omega)) ?_;rintro x h3 ⟨⟨t,rfl,p,q,r,u,rfl⟩,k3,iX,jZ,iA,a3,b3,c3,d3,bF⟩;replace H:=H.aA k3 bF;exact an [1] H O λh H Y=>ab [1] H O ⟨⟨_,O,_,_,_,_,O⟩,H.kp,LO.mk' H hs hle⟩
end
section
open Go.RowKit
section
variable {P:Program} {lt:LT} {g:Gh} {w w':World} {h h0:AH}
def B5 (g:Gh) (w:World) (cap:Nat) (cs:List AV) (vs:Array Value):Prop:=(cs.length<=cap/\cap<=vs.size)/\∀i (hi:i <cs.length),VR g w cs[i] (vs.getD i undef)/\(vs.getD i undef).oneCell'=true
theorem B5.mono {g':Gh} {cap:Nat} (e:Evc g w g' w') {cs:List AV} {vs:Array Value} (r:B5 g w cap cs vs):B5 g' w' cap cs vs:=⟨r.1,λi hi=>⟨(r.2 i hi).1.mono e,(r.2 i hi).2⟩⟩
theorem O9 {o b:Nat} {vs qC:Array Value} {T:TypeId} {dH:List AV} (R:Rel g w h) (hb:g.ob o=some b) (Dp:h.get o≠some .KM/\h.get o≠some .gone) {fz:Nat×Nat} (hw:w.heap[b]? =some (.cells vs T fz)) (hf:fz=(0,0)\/vs.size<=fz.1)
 (p:nA w w' b (.cells qC T fz)) (hs:qC.size=vs.size) {cap:Nat} (hv:B5 g w cap dH qC):Ev g w g w'/\Rel g w' (h.set o (.row cap dH)):=by
 obtain⟨h1,h2,h3⟩:=R.uC o b hb;have h2:=h2 Dp.1 Dp.2;have E:Evc g w g w':=p.UL h2 λc T' fz e=>by
  rw[hw]at e;injection e with e
  injection e with e1 e2 e3
  subst e1 e2 e3;exact⟨qC,O,hs⟩
 refine⟨⟨E,λk _ hk _ _=>⟨p.other k λe=>hk o (e▸hb),O⟩⟩,nA.rel R p h2 (R.HP hb) E _ O O O O (λo' y e=>by simp only[AH.set];split<;>exact⟨_,by first|rfl|exact e⟩) (λo' e=>AH.kC Dp.2 e) λo' y e=>?_⟩;simp only[AH.set]at e;split at e
 .rename_i h4;subst h4;injection e with e
  subst e;exact .inl ⟨hb,qC,T,fz,p.at_,by rw[hs];exact hf,(hv.mono E).1,(hv.mono E).2⟩
 .rename_i h4
  by_cases e':g.ob o'=some b
  .rcases R.Bm _ _ _ e' hb with q|q|q
   .exact absurd q h4
   .rw[e]at q;injection q with q
    subst q;exact .inl ⟨e',qC,T,_,p.at_⟩
   .exact absurd q Dp.2
  .exact .inr ⟨e,e'⟩
theorem B5.write {cap:Nat} {cs ds:List AV} {vs:Array Value} {us:List Value} {off:Nat} (r:B5 g w cap cs vs) (hl:us.length=ds.length) (hd:∀i (hi:i <ds.length),VR g w ds[i] (us.getD i undef)/\(us.getD i undef).oneCell'=true) (h1:off<=cs.length) (h2:off+ds.length<=cap):
 B5 g w cap (cs.take off++ds++cs.drop (off+ds.length)) (vs.toList.take off++us++vs.toList.drop (off+us.length)).toArray/\(vs.toList.take off++us++vs.toList.drop (off+us.length)).toArray.size=vs.size:=by
 obtain⟨hv0,hv⟩:=r.1;have hz:(vs.toList.take off++us++vs.toList.drop (off+us.length)).toArray.size=vs.size:=by simp;omega
 have hL:(cs.take off++ds++cs.drop (off+ds.length)).length<=cap:=by simp;omega
 refine⟨⟨⟨hL,by rw[hz];exact hv⟩,λi hi=>?_⟩,hz⟩;have hg:(vs.toList.take off++us++vs.toList.drop (off+us.length)).toArray.getD i undef=if i <off then vs.getD i undef else if i <off+us.length then us.getD (i -off) undef else vs.getD i undef:=by
  simp only[Array.getD_eq_getD_getElem?,List.getElem?_toArray,List.getElem?_append,List.length_append,List.length_take,Array.length_toList,List.getElem?_take,List.getElem?_drop,Array.getElem?_toList,List.getD_eq_getElem?_getD];have hm:min off vs.size=off:=by omega
  rw[hm]
  by_cases q1:i <off
  .rw[if_pos (by omega),if_pos q1,if_pos q1,if_pos q1]
  .by_cases q2:i <off+us.length
   .rw[if_pos q2,if_neg q1,if_neg q1,if_pos q2]
   .rw[if_neg q2,if_neg q1,if_neg q2]
    congr 2
    omega
 rw[hg];simp only[List.length_append,List.length_take,List.length_drop]at hi;have hm:min off cs.length=off:=by omega
 rw[hm]at hi
 by_cases q1:i <off
 .rw[if_pos q1];have:(cs.take off++ds++cs.drop (off+ds.length))[i]'(by simp;omega)=cs[i]'(by omega):=by
   rw[List.getElem_append_left (by simp;omega),List.getElem_append_left (by simp;omega),List.getElem_take]
  rw[this];exact r.2 i (by omega)
 .rw[if_neg q1]
  by_cases q2:i <off+us.length
  .rw[if_pos q2];have:(cs.take off++ds++cs.drop (off+ds.length))[i]'(by simp;omega)=ds[i -off]'(by omega):=by
    rw[List.getElem_append_left (by simp;omega),List.getElem_append_right (by simp;omega)];simp[hm]
   rw[this];exact hd _ (by omega)
  .rw[if_neg q2];have:(cs.take off++ds++cs.drop (off+ds.length))[i]'(by simp;omega)=cs[i]'(by omega):=by
    rw[List.getElem_append_right (by simp;omega),List.getElem_drop]
    congr 1
    simp;omega
   rw[this];exact r.2 i (by omega)
theorem om {o b cap:Nat} {cs:List AV} (R:Rel g w h) (hg:h.get o=some (.row cap cs)) (hb:g.ob o=some b):∃vs T fz,w.heap[b]? =some (.cells vs T fz)/\(fz=(0,0)\/vs.size<=fz.1)/\B5 g w cap cs vs:=by
 obtain⟨b',dk,vs,T,fz,hw,hf,h1,h2⟩:=R.obj _ _ hg;rw[hb]at dk;injection dk with dk
 subst dk;exact⟨vs,T,fz,hw,hf,h1,h2⟩
theorem tg (b o:Nat) (T:TypeId) (fz:Nat×Nat):∀(vs:List Value) (i:Nat) (cur:Array Value) (w:World),w.heap[b]? =some (.cells cur T fz)->(fz=(0,0)\/cur.size<=fz.1)->o+i+vs.length<=cur.size->(∀v∈vs,v.oneCell'=true)->
 (storeCells ⟨b,o,none⟩ vs i).run P w= .ok () (w.setRow b (cur.toList.take (o+i)++vs++cur.toList.drop (o+i+vs.length)).toArray)
 |[],i,cur,w,hg,_,_,_=>by simp only[storeCells,List.append_nil,List.length_nil,Nat.add_zero,List.take_append_drop,Array.toArray_toList];rw[setRow_self w b cur T fz hg];rfl
 |v::rest,i,cur,w,hg,hf,hl,h1=>by
  have hi:o+i <cur.size:=by simp at hl;omega
  have pM:w.cell? ⟨b,o+i,none⟩=some cur[o+i]:=by simp[World.cell?,hg,hi]
  have Yf:w.frozen? ⟨b,o+i,none⟩=false:=by
   rcases hf with rfl|hf
   .simp[World.frozen?,hg]
   .simp only[World.frozen?,hg];rw[Bool.and_eq_false_iff];left;simp;omega
  have iw:(store ((⟨b,o,none⟩:Addr).add i) v).run P w= .ok () (w.setRow b (cur.setIfInBounds (o+i) v)):=by rw[cL,run_store P w _ v _ (h1 v (by simp)),pM];simp[Yf,setCell_eq_setRow w b (o+i) cur T fz v hg]
  have ih:=tg b o T fz rest (i+1) (cur.setIfInBounds (o+i) v) (w.setRow b (cur.setIfInBounds (o+i) v)) (setRow_heap w b cur _ T _ hg) (by simpa using hf) (by simp at hl|-;omega) (λx hx=>h1 x (by simp[hx]))
  simp only[storeCells,Sem.run_bind,iw,Result.andThen_ok,ih,setRow_setRow]
  congr 3
  have e:=list_seg_step cur.toList (o+i) v rest (by simp at hl|-;omega);simpa[Array.toList_setIfInBounds,Nat.add_assoc]using e
theorem Gu {b:Nat} {vs us:Array Value} {T:TypeId} {fz:Nat×Nat} (hw:w.heap[b]? =some (.cells vs T fz)):nA w (w.setRow b us) b (.cells us T fz):=⟨O,O,O,by simp,setRow_heap w b vs us T fz hw,λk hk=>by simp only[World.setRow,Array.getElem?_modify];rw[if_neg (λe=>hk e.symm)]⟩
theorem lF {o b off cap:Nat} {cs ds:List AV} {us:List Value} {vs:Array Value} {T:TypeId} {fz:Nat×Nat} (R:Rel g w h) (hg:h.get o=some (.row cap cs)) (hb:g.ob o=some b) (hw:w.heap[b]? =some (.cells vs T fz)) (hf:fz=(0,0)\/vs.size<=fz.1) (hc:B5 g w cap cs vs)
 (hl:us.length=ds.length) (hd:∀i (hi:i <ds.length),VR g w ds[i] (us.getD i undef)/\(us.getD i undef).oneCell'=true) (h1:off<=cs.length) (h2:off+ds.length<=cap):
 ∃w',(storeCells ⟨b,off,none⟩ us 0).run P w= .ok () w'/\Ev g w g w'/\Rel g w' (h.set o (.row cap (cs.take off++ds++cs.drop (off+ds.length))))/\w'.heap.size=w.heap.size:=by
 obtain⟨q1,q2⟩:=hc.write hl hd h1 h2;have hcv:=hc.1;have iw:=tg (P:=P) b off T fz us 0 vs w hw hf (by omega) (λv hv=>by obtain⟨i,hi,rfl⟩:=List.getElem_of_mem hv;have:=(hd i (by omega)).2;simpa[List.getD_eq_getElem?_getD,List.getElem?_eq_getElem hi]using this)
 simp only[Nat.add_zero]at iw;obtain⟨E,R'⟩:=O9 R hb (by rw[hg];simp) hw hf (Gu hw) q2 q1;exact⟨_,iw,E,R',by simp⟩
end
end
section
open Go.RowKit
section
variable {P:Program} {lt:LT} {h h':AH} {fr:ay} {ops:List Oper} {o:Oper}
theorem ag.raw {y:AV} (hw:au ops fr o.guard=some true)
 (H:∀(g:Gh) (w:World) (ρ:Operand->Value),Rel g w h->(∀x∈o.op.operands.toList,∀v,fr.ev x= .v v->VR g w v (ρ x))->∃v g' w',(execOp ρ o).run P w= .ok (.value v) w'/\Ev g w g' w'/\Rel g' w' h'/\VR g' w' y v):ag P lt ops o fr h (.v y) h':=by
 intro aB hn hl hf g0 w0 a w Q K S hK;have xD:=lR hn hf;rw[<-fT hn hf]at hw;obtain⟨g,lb,E,R,F⟩:=S;rw[if_pos (cI F hw)];obtain⟨v,g',w',k1,k2,k3,k4⟩:=H g w a.eval R λx hx v hv=>F.cq (by rw[xD x hx];exact hv)
 unfold Oper.wp;rw[k1];exact hK _ _ ⟨g',lb,E.trans k2,k3,(F.mono k2).put (s:= .v y) k4 O⟩
theorem ag.Vr (hd:o.dst=none) (hw:au ops fr o.guard=some true)
 (H:∀(g:Gh) (w:World) (ρ:Operand->Value),Rel g w h->(∀x∈o.op.operands.toList,∀v,fr.ev x= .v v->VR g w v (ρ x))->∃g' w',(execOp ρ o).run P w= .ok .skip w'/\Ev g w g' w'/\Rel g' w' h'):ag P lt ops o fr h .gI h':=by
 intro aB hn hl hf g0 w0 a w Q K S hK;have xD:=lR hn hf;rw[<-fT hn hf]at hw;obtain⟨g,lb,E,R,F⟩:=S;rw[if_pos (cI F hw)];obtain⟨g',w',k1,k2,k3⟩:=H g w a.eval R λx hx v hv=>F.cq (by rw[xD x hx];exact hv)
 unfold Oper.wp;rw[k1];exact hK (a.put o.dst undef) w' ⟨g',lb,E.trans k2,k3,(F.mono k2).put (s:= .gI) trivial (by rw[hd];rfl)⟩
theorem ag.mH {t:TypeId} {x:Operand} {b:Bool} {n ob off:Nat} {cs:List AV} {y:AV} (ho:o.op= .load t x) (hw:au ops fr o.guard=some true) (ha:xe P t=some b) (hz:kW P t=some n)
 (ex:fr.ev x= .v (.ptr ob off)) {cap:Nat} (hg:h.get ob=some (.row cap cs)) (hy:AV.ld b n cs off=some y):ag P lt ops o fr h (.v y) h:=by
 refine ag.raw hw λg w ρ R hx=>?_;have v1:=hx x (by rw[ho];simp[Op.operands]) _ ex;generalize hq:ρ x=p at v1
 cases v1 with
 |ptr _ _ bk hb=>
  obtain⟨vs,T,fz,ze,hf,h1,h2⟩:=om R hg hb;obtain⟨v,k1,k2⟩:=Bq (P:=P) (g:=g) (w:=w) ha hz hy ⟨bk,0,none⟩ (λi=>vs.getD i undef) (λi hi=>by rw[cL];simp only[World.cell?,ze,Option.isSome_none,Bool.false_eq_true,if_false,Nat.zero_add];simp[Array.getD_eq_getD_getElem?,Array.getElem?_eq_getElem (show i <vs.size by omega)]) (λi hi=>(h2 i hi).1) (λi hi=>(h2 i hi).2)
  rw[cL]at k1;refine⟨v,g,w,?_,.refl g w,R,k2⟩;have:(Instr.loadAt t (.pointer (some ⟨bk,off,none⟩))).run P w= .ok v w:=by simpa[Instr.loadAt,Instr.sureAddr]using k1
  simp[execOp,ho,hq,this]
theorem ag.B6 {t:TypeId} {x v:Operand} {n ob off:Nat} {cs ds:List AV} (ho:o.op= .store t x v) (hd:o.dst=none) (hw:au ops fr o.guard=some true) (hz:kW P t=some n) (hv:mY fr v=some ds) (hn:ds.length=n)
 (ex:fr.ev x= .v (.ptr ob off)) {cap:Nat} (hg:h.get ob=some (.row cap cs)) (h1:off<=cs.length) (h2:off+n<=cap):ag P lt ops o fr h .gI (h.set ob (.row cap (cs.take off++ds++cs.drop (off+ds.length)))):=by
 refine ag.Vr hd hw λg w ρ R hx=>?_;have v1:=hx x (by rw[ho];simp[Op.operands]) _ ex;have Ls:sJ g w ds (ρ v).cells:=by
  unfold mY at hv;split at hv
  case h_2=>cases hv
  rename_i y ey;exact(hx v (by rw[ho];simp[Op.operands]) _ ey).cells hv
 generalize hq:ρ x=p at v1
 cases v1 with
 |ptr _ _ bk hb=>
  obtain⟨vs,T,fz,ze,hf,hc⟩:=om R hg hb;have hl:(ρ v).cells.toList.length=ds.length:=by simp[Ls.1.1]
  obtain⟨w',k1,k2,k3,_⟩:=lF (P:=P) R hg hb ze hf hc hl (λi hi=>by
   have:=Ls.1.2 i hi
   have q:=Ls.2 i hi
   have e:(ρ v).cells.toList.getD i undef=(ρ v).cells.getD i undef:=by simp[Array.getD_eq_getD_getElem?,List.getD_eq_getElem?_getD]
   rw[e];exact⟨this,q⟩) (off:=off) h1 (by omega)
  refine⟨g,w',?_,k2,k3⟩;have:(storeVar t ⟨bk,off,none⟩ (ρ v)).run P w= .ok () w':=by simp only[storeVar,Sem.run_bind,run_sizeOf hz,Result.andThen_ok];rw[if_neg (by rw[Ls.1.1,hn];simp)];exact k1
  simp[execOp,ho,Instr.storeAt,Instr.sureAddr,hq,this]
end
end
section
open Go.RowKit
section
variable {g:Gh} {w:World} {h:AH}
def Gh.names (g:Gh) (n N b:Nat):Gh:={g with ob:=λo=>if n<=o/\o<=N then some b else g.ob o}
def AH.rename (h:AH) (N:Nat) (x:mV) (D:Nat->Bool):AH:={h with n:=N+1,get:=λo=>if o=N then some x else if D o then some .gone else h.get o}
theorem Rel.rename {ro N b cap:Nat} {cs:List AV} {D:Nat->Bool} (R:Rel g w h) (KR:h.get ro=some (.row cap cs)) (hb:g.ob ro=some b) (hN:h.n<=N)
 (W6:∀o,h.n<=o->o <N->D o=true) (Is:D ro=true) (hD3:∀o,D o=true->o <h.n->∃cap cs,h.get o=some (.row cap cs)) (hD4:∀o,D o=true->o <N):
 Ev g w (g.names h.n N b) w/\Rel (g.names h.n N b) w (h.rename N (.row cap cs) D):=by
 obtain⟨b',dk,vs,T,fz,hw,hf,h1,h2⟩:=R.obj _ _ KR;rw[hb]at dk;injection dk with dk
 subst dk;obtain⟨q1,q2,q3⟩:=R.uC ro b hb;have q2:=q2 (by rw[KR];simp) (by rw[KR];simp);have jL:∀o b',g.ob o=some b'->(g.names h.n N b).ob o=some b':=λo b' e=>by
  have:=R.Ag o b' e
  simp only[Gh.names];rw[if_neg (by omega)];exact e
 have new:∀o b',(g.names h.n N b).ob o=some b'->(h.n<=o/\o<=N/\b'=b)\/(o <h.n/\g.ob o=some b'):=λo b' e=>by
  simp only[Gh.names]at e;split at e
  .rename_i q;injection e with e;exact .inl ⟨q.1,q.2,e.symm⟩
  .exact .inr ⟨R.Ag o b' e,e⟩
 have E:Ev g w (g.names h.n N b) w:=⟨⟨O,O,O,Nat.le_refl _,jL,λo b' e=>by
  rcases new o b' e with⟨_,_,rfl⟩|⟨_,e⟩
  .exact .inl ⟨ro,hb⟩
  .exact .inl ⟨_,e⟩,λ_ _ e=>e,λ_ _ e=> .inl e,λ_ _ _ e=>e,λa e=>⟨e,O⟩,Nat.le_refl _,λ_ _=>Nat.le_refl _,λ_ _ _=>⟨O,O⟩,λb c T fz e=>⟨c,e,O⟩,λ_ _ e=>e,λ_ _ e=> .inl e⟩,λb hb _ _ _=>⟨O,O⟩⟩
 have gN:(h.rename N (.row cap cs) D).get N=some (.row cap cs):=by simp[AH.rename]
 have gD:∀o,D o=true->(h.rename N (.row cap cs) D).get o=some .gone:=λo e=>by
  have:=hD4 o e
  simp only[AH.rename];rw[if_neg (by omega),if_pos e]
 have gO:∀o,o <h.n->D o=false->(h.rename N (.row cap cs) D).get o=h.get o:=λo e e'=>by simp only[AH.rename];rw[if_neg (by omega),if_neg (by rw[e'];simp)]
 have gB:∀o b',g.ob o=some b'->o <h.n->(D o=true/\∃c T fz,w.heap[b']? =some (.cells c T fz))\/D o=false:=λo b' e e'=>by
  cases hd:D o with
  |false=>exact .inr O
  |true=>
   obtain⟨fB,dH,k⟩:=hD3 o hd e';obtain⟨b2,k1,qC,T',R8,k2,_⟩:=R.obj _ _ k;rw[e]at k1;injection k1 with k1
   subst k1;exact .inl ⟨O,qC,T',R8,k2⟩
 refine⟨E,λo b' e=>?_,λo1 o2 b' e1 e2=>?_,λo b' e=>?_,λo y e=>?_,λo b' e=>?_,R.nt,R.cur,R.FT,R.Dh,R.HN,R.ext,λk c e=>?_,R.iH E.toEvc O⟩
 .rcases new o b' e with⟨_,_,rfl⟩|⟨ax,e⟩
  .exact⟨q1,λ_ _=>q2,q3⟩
  .obtain⟨k1,k2,k3⟩:=R.uC o b' e;refine⟨k1,λf1 f2=>?_,k3⟩;rcases gB o b' e ax with⟨hd,_⟩|hd
   .exact absurd (gD o hd) f2
   .rw[gO o ax hd]at f1 f2;exact k2 f1 f2
 .rcases new o1 b' e1 with⟨a1,a2,rfl⟩|⟨ax,W7⟩
  .rcases Nat.lt_or_ge o1 N with hl|hl
   .exact .inr (.inl (gD o1 (W6 o1 a1 hl)))
   .have:o1=N:=by omega
    subst this;rcases new o2 _ e2 with⟨c1,c2,_⟩|⟨eG,e2⟩
    .rcases Nat.lt_or_ge o2 o1 with Uh|Uh
     .exact .inr (.inr (gD o2 (W6 o2 c1 Uh)))
     .exact .inl (by omega)
    .rcases R.Bm _ _ _ e2 hb with rfl|q|q
     .exact .inr (.inr (gD _ Is))
     .cases hd:D o2 with|true=>exact .inr (.inr (gD _ hd))|false=>exact .inr (.inr (by rw[gO o2 eG hd];exact q))
     .rw[KR]at q
      cases q
  .rcases new o2 b' e2 with⟨c1,c2,rfl⟩|⟨eG,e2⟩
   .rcases Nat.lt_or_ge o2 N with hl|hl
    .exact .inr (.inr (gD o2 (W6 o2 c1 hl)))
    .rcases R.Bm _ _ _ W7 hb with rfl|q|q
     .exact .inr (.inl (gD _ Is))
     .cases hd:D o1 with|true=>exact .inr (.inl (gD _ hd))|false=>exact .inr (.inl (by rw[gO o1 ax hd];exact q))
     .rw[KR]at q
      cases q
   .rcases R.Bm _ _ _ W7 e2 with q|q|q
    .exact .inl q
    .cases hd:D o1 with|true=>exact .inr (.inl (gD _ hd))|false=>exact .inr (.inl (by rw[gO o1 ax hd];exact q))
    .cases hd:D o2 with|true=>exact .inr (.inr (gD _ hd))|false=>exact .inr (.inr (by rw[gO o2 eG hd];exact q))
 .rcases new o b' e with⟨_,a2,_⟩|⟨ax,_⟩
  .simp only[AH.rename];omega
  .simp only[AH.rename];omega
 .by_cases hoN:o=N
  .subst hoN;rw[gN]at e;injection e with e
   subst e;exact⟨b,by simp only[Gh.names];rw[if_pos ⟨hN,Nat.le_refl _⟩],vs,T,fz,hw,hf,h1,λi hi=>⟨(h2 i hi).1.mono E.toEvc,(h2 i hi).2⟩⟩
  .cases hd:D o with
   |true=>
    rw[gD o hd]at e;injection e with e
    subst e;rcases Nat.lt_or_ge o h.n with ax|fH
    .obtain⟨fB,dH,k⟩:=hD3 o hd ax;obtain⟨b2,k1,qC,T',R8,k2,_⟩:=R.obj _ _ k;exact⟨b2,jL _ _ k1,qC,T',R8,k2⟩
    .exact⟨b,by simp only[Gh.names];rw[if_pos ⟨fH,Nat.le_of_lt (hD4 o hd)⟩],vs,T,fz,hw⟩
   |false=>simp only[AH.rename]at e;rw[if_neg hoN,if_neg (by rw[hd];simp)]at e;obtain⟨b2,k1,k2⟩:=R.obj o y e;exact⟨b2,jL _ _ k1,k2.mono E.toEvc O λ_ _=>rfl⟩
 .rcases new o b' e with⟨a1,a2,_⟩|⟨ax,e⟩
  .rcases Nat.lt_or_ge o N with hl|hl
   .exact⟨_,gD o (W6 o a1 hl)⟩
   .have:o=N:=by omega
    subst this;exact⟨_,gN⟩
  .cases hd:D o with|true=>exact⟨_,gD o hd⟩|false=>rw[gO o ax hd];exact R.KN o b' e
 .obtain⟨k1,k2,k3,k4⟩:=R.FC k c e;refine⟨k1,k2,k3,λo e'=>?_⟩;rcases new o k e' with⟨_,_,rfl⟩|⟨_,e'⟩
  .exact k4 _ hb
  .exact k4 _ e'
theorem Rel.said {o:Nat} {x y:mV} (R:Rel g w h) (hx:h.get o=some x) (hf:x≠ .KM/\x≠ .gone) (hy:∀b,g.ob o=some b->OR g w x b->OR g w y b):Rel g w (h.set o y):=by
 refine⟨λo' b e=>?_,λo1 o2 b e1 e2=>?_,R.Ag,λo' z e=>?_,λo' b e=>?_,R.nt,R.cur,R.FT,R.Dh,R.HN,R.ext,R.FC,R.HO⟩
 .obtain⟨k1,k2,k3⟩:=R.uC o' b e;refine⟨k1,λf1 f2=>?_,k3⟩;simp only[AH.set]at f1 f2
  by_cases q:o'=o
  .subst q;exact k2 (by rw[hx];intro e;injection e with e;exact hf.1 e) (by rw[hx];intro e;injection e with e;exact hf.2 e)
  .rw[if_neg q]at f1 f2;exact k2 f1 f2
 .have QK:h.get o≠some .gone:=by rw[hx];intro e;injection e with e;exact hf.2 e
  exact(R.Bm o1 o2 b e1 e2).imp id λq=>q.imp (AH.kC QK) (AH.kC QK)
 .simp only[AH.set]at e;split at e
  .rename_i q;subst q;injection e with e;subst e
   obtain⟨b,k1,k2⟩:=R.obj _ _ hx;exact⟨b,k1,hy b k1 k2⟩
  .exact R.obj o' z e
 .obtain⟨z,hz⟩:=R.KN o' b e;simp only[AH.set];split<;>exact⟨_,by first|rfl|exact hz⟩
end
end
section
open Go.RowKit
section
variable {P:Program} {lt:LT} {h h':AH} {fr:ay} {ops:List Oper} {o:Oper}
abbrev cO (b:UInt8):AV:= .int .u8 b.toNat
def ti (op:Op):Option (Operand×Operand×TypeId×TypeId):=
 match op with
 | .call c=>match c.callee with
  | .builtin .copy=>match c.args.toList,c.argTypes.toList with|[s,x],[t,t']=>some (s,x,t,t')|_,_=>none
  |_=>none
 |_=>none
theorem tj {s x:Operand} {t t':TypeId} (hx:ti o.op=some (s,x,t,t')) (ρ:Operand->Value):(execOp ρ o)=(do pure (.value (<-Builtin.copy_ #[t,t'] o.type #[ρ s,ρ x])))/\s∈o.op.operands.toList/\x∈o.op.operands.toList:=by
 obtain⟨dst,op,ty,pos,after,guard⟩:=o;simp only at hx|-;unfold ti at hx;split at hx
 case h_2=>cases hx
 rename_i c;obtain⟨callee,args,argTypes⟩:=c;simp only at hx;split at hx
 case h_2=>cases hx
 split at hx
 case h_2=>cases hx
 rename_i a1 a2 t1 t2 e1 e2;injection hx with hx
 injection hx with q1 hx
 injection hx with q2 hx
 injection hx with q3 q4
 subst q1 q2 q3 q4;have e1:args=#[a1,a2]:=Array.ext' e1;have e2:argTypes=#[t1,t2]:=Array.ext' e2;subst e1 e2;refine⟨?_,by simp[Op.operands,Call.operands],by simp[Op.operands,Call.operands]⟩;simp[execOp,resolve,invoke,builtin]
theorem ag.Vs {x y:Operand} {dT sT e:TypeId} {ob off n c cap:Nat} {y9:Bool} {cs:List AV} {s:List UInt8} (ha:ti o.op=some (x,y,dT,sT)) (hw:au ops fr o.guard=some true) (ht:P.underlying dT=some (.slice e)) (hz:kW P e=some 1)
 (ex:fr.ev x= .v (.sl ob off n c y9)) (ey:fr.ev y= .v (.str s)) (hg:h.get ob=some (.row cap cs)) (h1:off<=cs.length) (h2:s.length<=n) (h3:off+s.length<=cap):
 ag P lt ops o fr h (.v (.int .i64 s.length)) (h.set ob (.row cap (cs.take off++s.map cO++cs.drop (off+(s.map cO).length)))):=by
 refine ag.raw hw λg w ρ R hx=>?_;obtain⟨r1,r2,r3⟩:=tj ha ρ;have v1:=hx x r2 _ ex;have v2:=hx y r3 _ ey;rw[r1];generalize ρ x=p at v1;generalize ρ y=q at v2
 cases v1 with
 |sl _ _ _ _ _ b rc hb hs hn xb hex dY=>
  generalize R9:AV.str s=sv at v2
  cases v2<;>cases R9;rename_i sb;obtain⟨vs,T,fz,ze,hf,hc⟩:=om R hg hb;obtain⟨w',k1,k2,k3,_⟩:=lF (P:=P) (us:=sb.data.toList.map λb=> .int .u8 b.toNat) (ds:=sb.data.toList.map cO) R hg hb ze hf hc (by simp) (λi hi=>by simp only[List.length_map]at hi;simp only[List.getElem_map,List.getD_eq_getElem?_getD,List.getElem?_map,List.getElem?_eq_getElem hi,Option.map_some,Option.getD_some];exact⟨.int _ _,O⟩) h1 (by simpa using h3)
  refine⟨.int .i64 sb.data.toList.length,g,w',?_,k2,k3,.int _ _⟩;have DG:Nat.min sb.size n=sb.size:=Nat.min_eq_left (by simpa using h2);have KO:List.take sb.size (List.map (λb:UInt8=>Value.int IntKind.u8 (b.toNat:Int)) sb.data.toList)=sb.data.toList.map λb=> .int .u8 b.toNat:=by rw[List.take_of_length_le (by simp)]
  simp[Builtin.copy_,run_underlying ht,Builtin.lenOf,Builtin.firstCells,run_sizeOf hz,DG];rw[KO,k1];simp[Result.andThen,goInt]
def pU (h:AH):AV->Option (List AV)
 | .ao=>some []
 | .sl o off n _ _=>match h.get o with|some (.row _ cs)=>if off+n<=cs.length then some ((cs.drop off).take n)else none|_=>none
 | .vec _ 1 es=>some (es.map λe=>e.headD .bq)
 |_=>none
theorem nP {g:Gh} {w:World} {x:AV} {v:Value} {ys:List AV} (R:Rel g w h) (hs:pU h x=some ys) (r:VR g w x v):
 (v= .slice none 0 0/\ys=[])\/∃ad cap,∃us:List Value,v= .slice (some ad) ys.length cap/\us.length=ys.length/\(∀k u,us[k]? =some u->w.cell? (ad.add k)=some u)/\∀i (hi:i <ys.length),VR g w ys[i] (us.getD i undef)/\(us.getD i undef).oneCell'=true:=by
 unfold pU at hs;split at hs
 case h_1=>injection hs with hs;subst hs;cases r;exact .inl ⟨O,O⟩
 case h_2 ob off n c y9=>
  split at hs
  case h_2=>cases hs
  rename_i cap cs hg;split at hs
  case isFalse=>cases hs
  rename_i hle;injection hs with hs
  subst hs
  cases r with
  |sl _ _ _ _ _ b rc hb Ui hn xb hex dY=>
   obtain⟨vs,T,fz,ze,hf,h1,h2⟩:=om R hg hb;have hL:((cs.drop off).take n).length=n:=by simp;omega
   have hL2:((vs.toList.drop off).take n).length=n:=by simp;omega
   refine .inr ⟨⟨b,off,none⟩,rc,(vs.toList.drop off).take n,by rw[hL],by rw[hL,hL2],λk u hk=>?_,λi hi=>?_⟩
   .rw[cL];have Yg:k <n:=by have:=(List.getElem?_eq_some_iff.1 hk).1;omega
    rw[List.getElem?_take,if_pos Yg,List.getElem?_drop]at hk;simp only[World.cell?,ze,Option.isSome_none,Bool.false_eq_true,if_false];simpa using hk
   .rw[hL]at hi;have e1:((vs.toList.drop off).take n).getD i undef=vs.getD (off+i) undef:=by
     simp only[List.getD_eq_getElem?_getD,List.getElem?_take,if_pos hi,List.getElem?_drop,Array.getD_eq_getD_getElem?,Array.getElem?_toList]
    rw[e1];have:=h2 (off+i) (by omega);simpa using this
 case h_3 tk es=>
  injection hs with hs
  subst hs;have hq:aY 1 (.vec tk 1 es)=some es:=rfl;rcases iW (by omega) r hq with⟨e1,e2⟩|⟨ad,cap,e1,h1,us,h2,h3,h4⟩
  .subst e2;exact .inl ⟨e1,O⟩
  .refine .inr ⟨ad,cap,us,by simpa using e1,by simpa using h2,λk u hk=>(h3 k u hk).1,λi hi=>?_⟩;have vo:i <es.length:=by simpa using hi
   have q1:=h1 i vo;have q2:=h4 i 0 vo (by omega);simp only[Nat.mul_one,Nat.add_zero]at q2;have q3:i <us.length:=by omega
   have q4:=(h3 i us[i] (List.getElem?_eq_getElem q3)).2.1;have e3:us.getD i undef=us[i]:=by simp[List.getD_eq_getElem?_getD,q3]
   rw[e3]at q2|-;refine⟨?_,q4⟩;have e4:(es.map λe=>e.headD .bq)[i]'hi=es[i][0]'(by omega):=by
    simp only[List.getElem_map];have:∀(l:List AV) (hl:l.length=1),l.headD .bq=l[0]'(by omega):=λl hl=>by
     match l,hl with
     |[x],_=>rfl
    exact this _ q1
   rw[e4];exact q2
 case h_4=>cases hs
theorem Md {us:List Value} {ys:List AV} {g:Gh} {w:World} (hl:us.length=ys.length) (h:∀i (hi:i <ys.length),VR g w ys[i] (us.getD i undef)/\(us.getD i undef).oneCell'=true):∀u∈us,u.oneCell'=true:=λu hu=>by obtain⟨i,hi,rfl⟩:=List.getElem_of_mem hu;have:=(h i (by omega)).2;simpa[List.getD_eq_getElem?_getD,List.getElem?_eq_getElem hi]using this
theorem ag.Me {x y:Operand} {yv:AV} {dT sT e:TypeId} {ob off n c cap:Nat} {y9:Bool} {cs ys:List AV} (ha:ti o.op=some (x,y,dT,sT)) (hw:au ops fr o.guard=some true) (ht:P.underlying dT=some (.slice e)) (hz:kW P e=some 1)
 (ex:fr.ev x= .v (.sl ob off n c y9)) (ey:fr.ev y= .v yv) (hs:pU h yv=some ys) (hg:h.get ob=some (.row cap cs)) (h1:off<=cs.length) (h2:ys.length<=n) (h3:off+ys.length<=cap):
 ag P lt ops o fr h (.v (.int .i64 ys.length)) (h.set ob (.row cap (cs.take off++ys++cs.drop (off+ys.length)))):=by
 refine ag.raw hw λg w ρ R hx=>?_;obtain⟨r1,r2,r3⟩:=tj ha ρ;have v1:=hx x r2 _ ex;have v2:=hx y r3 _ ey;rw[r1];generalize ρ x=p at v1;generalize ρ y=q at v2
 cases v1 with
 |sl _ _ _ _ _ b rc hb Ui hn xb hex dY=>
  obtain⟨vs,T,fz,ze,hf,hc⟩:=om R hg hb;rcases nP R hs v2 with⟨rfl,rfl⟩|⟨ad,fB,us,rfl,u1,u2,u3⟩
  .obtain⟨w',k1,k2,k3,_⟩:=lF (P:=P) (us:=[]) (ds:=[]) R hg hb ze hf hc rfl (λi hi=>by simp at hi) h1 (by simpa using h3);refine⟨.int .i64 0,g,w',?_,k2,k3,.int _ _⟩;simp[Builtin.copy_,run_underlying ht,Builtin.lenOf,Builtin.firstCells,run_sizeOf hz];rw[k1];simp[Result.andThen,goInt]
  .obtain⟨w',k1,k2,k3,_⟩:=lF (P:=P) (us:=us) (ds:=ys) R hg hb ze hf hc u1 u3 h1 h3;refine⟨.int .i64 ys.length,g,w',?_,k2,k3,.int _ _⟩;have DG:Nat.min ys.length n=ys.length:=Nat.min_eq_left h2;have hf:=run_firstCells_some (P:=P) w 1 ys.length ad ys.length fB us (by omega) (λj u hj=>u2 j u hj);simp[Builtin.copy_,run_underlying ht,Builtin.lenOf,run_sizeOf hz,DG,hf,k1,goInt]
end
end
section
open Go.RowKit
section
variable {P:Program} {lt:LT} {h h':AH} {fr:ay} {ops:List Oper} {o:Oper}
theorem qN {g:Gh} {w:World} (R:Rel g w h):Ev g w g w.drew/\Rel g w.drew h:=xH R ⟨O,O,O,Nat.le_refl _,λ_ _=>rfl⟩
theorem ag.Sa {s x:Operand} {yv:AV} {t:TypeId} {gl:Nat} {ys:List AV} (ha:cD o.op=some (s,x,t)) (hw:au ops fr o.guard=some true) (hi:cC P t=some (1,gl))
 (es:fr.ev s= .v .ao) (ex:fr.ev x= .v yv) (hs:pU h yv=some ys) (cv:ys≠[]) (hb:ys.length*(gl+1)<=140737488355328):
 ag P lt ops o fr h (.v (.sl h.n 0 ys.length ys.length false)) (h.push (.row ys.length ys)):=by
 refine ag.raw hw λg w ρ R hx=>?_;obtain⟨r1,r2,r3⟩:=gM ha ρ;obtain⟨e,i,z,T,rfl⟩:=fC hi;have v1:=hx s r2 _ es;have v2:=hx x r3 _ ex;rw[r1];generalize ρ s=p at v1;generalize ρ x=q at v2
 cases v1;have h0:0 <ys.length:=List.length_pos_iff.2 cv;rw[Nat.mul_succ]at hb;rcases nP R hs v2 with⟨rfl,rfl⟩|⟨ad,fB,us,rfl,u1,u2,u3⟩
 .exact absurd O cv
 .have hr:=run_append_nil (P:=P) w t o.type e i z T.ht T.hi T.hz ad ys.length fB us (by rw[T.gJ];omega) u2 h0 (by omega) (by omega)
  have fH:=grownCap_ge w ys.length 0 e
  have hle:=grownCap_le_maxLen w ys.length 0 e (by simp only[maxLen];omega)
  simp only[maxLen]at hle;obtain⟨E0,R0⟩:=qN R;have Ge:=T.Ge;have mI:(us.toArray++Builtin.zeroCells z.cells (grownCap w ys.length 0 e -ys.length)).size=grownCap w ys.length 0 e:=by simp[Builtin.zeroCells,Ge];omega
  obtain⟨E,R'⟩:=jm R0 (.cells (us.toArray++Builtin.zeroCells z.cells (grownCap w ys.length 0 e -ys.length)) e) (.row ys.length ys) λg' E=>⟨us.toArray++Builtin.zeroCells z.cells (grownCap w ys.length 0 e -ys.length),e,(0,0),by rw[heap_alloc];simp,.inl O,⟨Nat.le_refl _,by rw[mI];omega⟩,λi hi=>by
   have e1:(us.toArray++Builtin.zeroCells z.cells (grownCap w ys.length 0 e -ys.length)).getD i undef=us.getD i undef:=by simp[Array.getD_eq_getD_getElem?,List.getD_eq_getElem?_getD,Array.getElem?_append,show i <us.length by omega]
   rw[e1];exact⟨((u3 i hi).1.mono E0.toEvc).mono E,(u3 i hi).2⟩⟩
  refine⟨.slice (some ⟨w.heap.size,0,none⟩) ys.length (grownCap w ys.length 0 e),_,_,by simp only[Sem.run_bind,hr,Result.andThen_ok,Sem.run_pure],E0.trans E,R',?_⟩;refine .sl _ _ _ _ _ w.heap.size _ (if_pos O) ⟨_,e,(0,0),by rw[heap_alloc];exact if_pos O,?_⟩ (Nat.le_refl _) fH (λe=>by cases e) (by omega);rw[mI];omega
theorem AH.ext {a b:AH} (h1:a.n=b.n) (h2:∀o,a.get o=b.get o) (h3:a.nt=b.nt) (h4:a.bV=b.bV) (h5:a.aV=b.aV):a=b:=by
 cases a
 cases b;simp only at h1 h3 h4 h5 h2;subst h1 h3 h4 h5
 congr 1
 exact funext h2
theorem ag.Yh {s x:Operand} {yv:AV} {t:TypeId} {gl ob n c cap:Nat} {y9:Bool} {cs ys:List AV} (ha:cD o.op=some (s,x,t)) (hw:au ops fr o.guard=some true) (hi:cC P t=some (1,gl))
 (es:fr.ev s= .v (.sl ob 0 n c y9)) (ex:fr.ev x= .v yv) (hs:pU h yv=some ys) (hg:h.get ob=some (.row cap cs)) (hob:ob <h.n) (hn:n<=cs.length) (cv:ys≠[]) (hb:(n+ys.length)*(gl+1)<=140737488355328):
 ag P lt ops o fr h (.v (.sl h.n 0 (n+ys.length) (n+ys.length) false)) (h.rename h.n (.row (n+ys.length) (cs.take n++ys)) λk=>Nat.beq k ob):=by
 refine ag.raw hw λg w ρ R hx=>?_;obtain⟨r1,r2,r3⟩:=gM ha ρ;obtain⟨e,i,z,T,rfl⟩:=fC hi;have v1:=hx s r2 _ es;have v2:=hx x r3 _ ex;rw[r1];generalize ρ s=p at v1;generalize ρ x=q at v2;rw[Nat.mul_succ]at hb
 cases v1 with
 |sl _ _ _ _ _ b rc Lo Ui hnc xb hex dY=>
  obtain⟨vs,T2,fz,ze,hf,hc⟩:=om R hg Lo;obtain⟨c0,T0,Yi,q1,q2⟩:=Ui;rw[ze]at q1;injection q1 with q1
  injection q1 with q1 q3 q4
  subst q1 q3 q4;have zp:=hc.1;have hL:(cs.take n++ys).length=n+ys.length:=by simp;omega
  rcases nP R hs v2 with⟨rfl,rfl⟩|⟨ad,fB,us,rfl,u1,u2,u3⟩
  .exact absurd O cv
  have hk0:0 <ys.length:=List.length_pos_iff.2 cv;have aam:=Md u1 u3
  by_cases gf:n+ys.length<=rc
  ·
   have R1:Rel g w (h.set ob (.row vs.size cs)):=R.said hg (by simp) λb' dk ho=>by
    rw[Lo]at dk;injection dk with dk
    subst dk;exact⟨vs,T2,fz,ze,hf,⟨by omega,Nat.le_refl _⟩,hc.2⟩
   have eM:(h.set ob (.row vs.size cs)).get ob=some (.row vs.size cs):=by simp[AH.set]
   obtain⟨w',k1,k2,k3,_⟩:=lF (P:=P) (us:=us) (ds:=ys) (off:=n) R1 eM Lo ze hf ⟨⟨by omega,Nat.le_refl _⟩,hc.2⟩ u1 u3 hn (by omega);have bI:((h.set ob (.row vs.size cs)).set ob (.row vs.size (cs.take n++ys++cs.drop (n+ys.length)))).get ob=some (.row vs.size (cs.take n++ys++cs.drop (n+ys.length))):=by simp[AH.set]
   have R3:=k3.said (y:= .row (n+ys.length) (cs.take n++ys)) bI (by simp) λb' dk ho=>by
    obtain⟨qC,T',R8,o1,o2,o3,o4⟩:=ho;rw[Lo]at dk;injection dk with dk
    subst dk;refine⟨qC,T',R8,o1,o2,⟨by omega,?_⟩,λi hi=>?_⟩
    .have:=o3.2
     omega
    .have:=o4 i (by simp at hi|-;omega)
     rwa [List.getElem_append_left hi]at this
   obtain⟨E4,R4⟩:=R3.rename (ro:=ob) (N:=h.n) (b:=b) (cap:=n+ys.length) (cs:=cs.take n++ys) (D:=λk=>Nat.beq k ob) (by simp[AH.set]) Lo (Nat.le_refl _) (λo h1 h2=>by simp only[AH.set]at h1;omega) (Nat.beq_refl _) (λo hd hl=>by
    have:=Nat.eq_of_beq_eq_true hd
    subst this;exact⟨n+ys.length,cs.take n++ys,by simp[AH.set]⟩) (λo hd=>by have:=Nat.eq_of_beq_eq_true hd;omega)
   have hh:(((h.set ob (.row vs.size cs)).set ob (.row vs.size (cs.take n++ys++cs.drop (n+ys.length)))).set ob (.row (n+ys.length) (cs.take n++ys))).rename h.n (.row (n+ys.length) (cs.take n++ys)) (λk=>Nat.beq k ob)=h.rename h.n (.row (n+ys.length) (cs.take n++ys)) λk=>Nat.beq k ob:=by
    refine AH.ext O (λk=>?_) O O O;simp only[AH.rename,AH.set]
    by_cases q1:k=h.n
    .rw[if_pos q1,if_pos q1]
    .rw[if_neg q1,if_neg q1]
     by_cases q2:k=ob
     .subst q2;rw[if_pos (Nat.beq_refl _),if_pos (Nat.beq_refl _)]
     .simp only[beq_false_of_ne q2,Bool.false_eq_true,if_false,if_neg q2]
   rw[hh]at R4;have Yj:=run_firstCells_some (P:=P) w 1 ys.length ad ys.length fB us (by omega) (λj u hj=>u2 j u hj);have gJ:=T.gJ;have sS:(Builtin.append_ #[t,t] o.type #[.slice (some ⟨b,0,none⟩) n rc,.slice (some ad) ys.length fB]).run P w= .ok (.slice (some ⟨b,0,none⟩) (n+ys.length) rc) w':=by simp[Builtin.append_,run_underlying T.ht,sizeOf,typeInfo,T.hi,gJ,Builtin.lenOf,gf,Yj,cL,k1]
   refine⟨.slice (some ⟨b,0,none⟩) (n+ys.length) rc,_,_,by simp only[Sem.run_bind,sS,Result.andThen_ok,Sem.run_pure],k2.trans E4,R4,?_⟩;obtain⟨c1,p1,p2⟩:=k2.shape b _ _ _ ze;exact .sl _ _ _ _ _ b rc (by simp[Gh.names,AH.set]) ⟨c1,_,_,p1,by omega⟩ (Nat.le_refl _) gf (λe=>by cases e) dY
  ·
   have Q2:((vs.toList.take n)).length=n:=by simp;omega
   have hr:=run_append_grow (P:=P) w t o.type e i z T.ht T.hi T.hz ⟨b,0,none⟩ n rc (vs.toList.take n) (by rw[T.gJ,Q2];omega) (λj v hj=>by
    rw[cL];have Ud:j <n:=by have:=(List.getElem?_eq_some_iff.1 hj).1;omega
    rw[List.getElem?_take,if_pos Ud]at hj;simp only[World.cell?,ze,Option.isSome_none,Bool.false_eq_true,if_false,Nat.zero_add];simpa using hj) ad ys.length fB us (by rw[T.gJ];omega) u2 (by omega) (by omega) (growslice_fits (by omega) (by omega))
   have fH:=grownCap_ge w (n+ys.length) rc e
   have hle:=grownCap_le_maxLen w (n+ys.length) rc e (by simp only[maxLen];omega)
   simp only[maxLen]at hle;obtain⟨E0,R0⟩:=qN R;have Ge:=T.Ge;generalize hC:(vs.toList.take n).toArray++us.toArray++Builtin.zeroCells z.cells (grownCap w (n+ys.length) rc e -(n+ys.length))=C at hr;have mI:C.size=grownCap w (n+ys.length) rc e:=by rw[<-hC];simp[Builtin.zeroCells,Ge];omega
   obtain⟨E,R'⟩:=jm R0 (.cells C e) (.row (n+ys.length) (cs.take n++ys)) λg' E=>⟨C,e,(0,0),by rw[heap_alloc];simp,.inl O,⟨by omega,by rw[mI];omega⟩,λi hi=>by
    rw[hL]at hi
    by_cases q:i <n
    .have e1:C.getD i undef=vs.getD i undef:=by
      rw[<-hC];simp[Array.getD_eq_getD_getElem?,Array.getElem?_append,Q2,show i <n by omega,show i <n+us.length by omega,show i <vs.size by omega,show min n vs.size=n by omega]
     rw[e1,List.getElem_append_left (by simp;omega),List.getElem_take];have:=hc.2 i (by omega);exact⟨(this.1.mono E0.toEvc).mono E,this.2⟩
    .have e1:C.getD i undef=us.getD (i -n) undef:=by
      rw[<-hC];simp[Array.getD_eq_getD_getElem?,List.getD_eq_getElem?_getD,Array.getElem?_append,Q2,show ¬ i <n by omega,show i <n+us.length by omega,show min n vs.size=n by omega];rw[List.getElem_append_right (by simp;omega)];simp[show min n vs.size=n by omega,show i -n <us.length by omega]
     rw[e1,List.getElem_append_right (by simp;omega)];have hm:min n cs.length=n:=by omega
     have:=u3 (i -n) (by omega);simp only[List.length_take,hm];exact⟨(this.1.mono E0.toEvc).mono E,this.2⟩⟩
   have R3:=R'.said (o:=ob) (x:= .row cap cs) (y:= .gone) (by simp only[AH.push];rw[if_neg (by omega)];exact hg) (by simp) λb' dk ho=>by obtain⟨qC,T',R8,o1,_⟩:=ho;exact⟨qC,T',R8,o1⟩
   have hh:((h.push (.row (n+ys.length) (cs.take n++ys))).set ob .gone)=h.rename h.n (.row (n+ys.length) (cs.take n++ys)) λk=>Nat.beq k ob:=by
    refine AH.ext O (λk=>?_) O O O;simp only[AH.rename,AH.set,AH.push]
    by_cases q1:k=h.n
    .rw[if_pos q1,if_neg (by omega),if_pos q1]
    .rw[if_neg q1,if_neg q1]
     by_cases q2:k=ob
     .subst q2;rw[if_pos O,if_pos (Nat.beq_refl _)]
     .simp only[beq_false_of_ne q2,Bool.false_eq_true,if_false,if_neg q2]
   rw[hh]at R3;refine⟨.slice (some ⟨w.heap.size,0,none⟩) (n+ys.length) (grownCap w (n+ys.length) rc e),_,_,by simp only[Sem.run_bind,hr,Result.andThen_ok,Sem.run_pure],E0.trans E,R3,?_⟩;refine .sl _ _ _ _ _ w.heap.size _ (if_pos O) ⟨_,e,(0,0),by rw[heap_alloc];exact if_pos O,?_⟩ (Nat.le_refl _) fH (λe=>by cases e) (by omega);rw[mI];omega
end
end
section
open Go.RowKit
section
variable {P:Program} {lt:LT} {h h':AH} {fr:ay} {ops:List Oper} {o:Oper}
theorem qO {s d:TypeId} {x:Operand} (ho:o.op= .convert s d x) (ρ:Operand->Value):(execOp ρ o)=(do pure (.value (<-convert s d (ρ x))))/\x∈o.op.operands.toList:=by obtain⟨dst,op,ty,pos,after,guard⟩:=o;simp only at ho;subst ho;exact⟨O,by simp[Op.operands]⟩
theorem ag.Pb {s d e:TypeId} {x:Operand} {t:List UInt8} (ho:o.op= .convert s d x) (hw:au ops fr o.guard=some true) (hs:P.underlying s=some .string) (hd:P.underlying d=some (.slice e)) (he:P.underlying e=some (.int .u8))
 (ex:fr.ev x= .v (.str t)) (hl:t.length<=1099511627776):ag P lt ops o fr h (.v (.sl h.n 0 t.length t.length false)) (h.push (.row t.length (t.map cO))):=by
 refine ag.raw hw λg w ρ R hx=>?_;obtain⟨r1,r2⟩:=qO ho ρ;have v1:=hx x r2 _ ex;rw[r1];generalize ρ x=p at v1;generalize R9:AV.str t=sv at v1
 cases v1<;>cases R9;rename_i sb;have hr:=run_bytes_of_string (P:=P) w s d e sb hs hd he;have gJ:sb.data.toList.length=sb.size:=by simp
 have fH:=grownCap_ge w sb.size 0 e;have hle:=grownCap_le_maxLen w sb.size 0 e (by simp only[maxLen];omega);simp only[maxLen]at hle;obtain⟨E0,R0⟩:=qN R;generalize hC:bytesRow sb (grownCap w sb.size 0 e)=C at hr;have mI:C.size=grownCap w sb.size 0 e:=by rw[<-hC];simp[bytesRow];omega
 obtain⟨E,R'⟩:=jm R0 (.cells C e (C.size,C.size+1)) (.row sb.data.toList.length (sb.data.toList.map cO)) λg' E=>⟨C,e,(C.size,C.size+1),by rw[heap_alloc];simp,.inr (Nat.le_refl _),⟨by simp,by omega⟩,λi hi=>by
  simp only[List.length_map]at hi;have e1:C.getD i undef= .int .u8 (sb.data.toList[i].toNat):=by rw[<-hC];simp[bytesRow,Array.getD_eq_getD_getElem?,Array.getElem?_append,show i <sb.size by omega]
  rw[e1,List.getElem_map];exact⟨.int _ _,O⟩⟩
 refine⟨.slice (some ⟨w.heap.size,0,none⟩) sb.size (grownCap w sb.size 0 e),_,_,by simp only[Sem.run_bind,hr,Result.andThen_ok,Sem.run_pure],E0.trans E,R',?_⟩;have V:=VR.sl (g:=g.oT h.n w.drew.heap.size) (w:=w.drew.alloc (.cells C e (C.size,C.size+1))) h.n 0 sb.size sb.size false w.heap.size (grownCap w sb.size 0 e) (if_pos O) ⟨_,e,_,by rw[heap_alloc];exact if_pos O,by omega⟩ (Nat.le_refl _) fH (λe=>by cases e) (by omega);rw[<-gJ]at V;simpa using V
theorem ag.toText {s d e:TypeId} {x:Operand} {ob off n c cap:Nat} {y9:Bool} {cs:List AV} {t:List UInt8} (ho:o.op= .convert s d x) (hw:au ops fr o.guard=some true) (hs:P.underlying s=some (.slice e)) (hd:P.underlying d=some .string) (he:P.underlying e=some (.int .u8))
 (ex:fr.ev x= .v (.sl ob off n c y9)) (hg:h.get ob=some (.row cap cs)) (hc:off+n<=cs.length) (ht:(cs.drop off).take n=t.map cO):ag P lt ops o fr h (.v (.str t)) h:=by
 refine ag.raw hw λg w ρ R hx=>?_;obtain⟨r1,r2⟩:=qO ho ρ;have v1:=hx x r2 _ ex;rw[r1];generalize ρ x=p at v1
 cases v1 with
 |sl _ _ _ _ _ b rc hb Ui hn xb hex dY=>
  obtain⟨vs,T,fz,ze,hf,h1,h2⟩:=om R hg hb;have hL:t.length=n:=by
   have:=congrArg List.length ht
   simp at this;omega
  subst hL;have hr:=run_convert_bytes_back (P:=P) w s d e ⟨b,off,none⟩ rc t hs he hd λj hj=>by
   rw[cL];simp only[World.cell?,ze,Option.isSome_none,Bool.false_eq_true,if_false];have q:=h2 (off+j) (by omega);have e1:cs[off+j]'(by omega)=cO t[j]:=by
    have:=congrArg (λl=>l[j]?) ht
    simp only[List.getElem?_take,if_pos hj,List.getElem?_drop,List.getElem?_map,List.getElem?_eq_getElem hj,List.getElem?_eq_getElem (show off+j <cs.length by omega),Option.map_some]at this;injection this
   rw[e1]at q;have q1:=q.1;generalize hv:vs.getD (off+j) undef=v at q1
   cases q1;simpa[Array.getD_eq_getD_getElem?,Array.getElem?_eq_getElem (show off+j <vs.size by omega)]using hv
  exact⟨.string ⟨t.toArray⟩,g,w,by simp only[Sem.run_bind,hr,Result.andThen_ok,Sem.run_pure],.refl g w,R,by have:=VR.str (g:=g) (w:=w) ⟨t.toArray⟩;simpa using this⟩
theorem ag.Pc {s d e:TypeId} {x:Operand} (ho:o.op= .convert s d x) (hw:au ops fr o.guard=some true) (hs:P.underlying s=some (.slice e)) (hd:P.underlying d=some .string) (he:P.underlying e=some (.int .u8))
 (ex:fr.ev x= .v .ao):ag P lt ops o fr h (.v (.str [])) h:=by
 refine ag.raw hw λg w ρ R hx=>?_;obtain⟨r1,r2⟩:=qO ho ρ;have v1:=hx x r2 _ ex;rw[r1];generalize ρ x=p at v1
 cases v1;have hr:=run_convert_bytes_nil (P:=P) (w:=w) s e hs he 0 0 d hd;exact⟨.string .empty,g,w,by simp only[Sem.run_bind,hr,Result.andThen_ok,Sem.run_pure],.refl g w,R,.str ByteArray.empty⟩
def uL (P:Program) (op:Op):Option (Operand×Operand×TypeId×TypeId):=
 match op with
 | .call c=>match c.callee with
  | .builtin .append=>match c.args.toList,c.argTypes.toList with
   |[s,x],[t,t']=>match P.underlying t' with|some (.int _)=>some (s,x,t,t')|_=>none
   |_,_=>none
  |_=>none
 |_=>none
theorem zE {s x:Operand} {t t':TypeId} (hx:uL P o.op=some (s,x,t,t')) (ρ:Operand->Value):(execOp ρ o)=(do pure (.value (<-Builtin.append_ #[t,t'] o.type #[ρ s,ρ x])))/\s∈o.op.operands.toList/\x∈o.op.operands.toList/\∃k,P.underlying t'=some (.int k):=by
 obtain⟨dst,op,ty,pos,after,guard⟩:=o;simp only at hx|-;unfold uL at hx;split at hx
 case h_2=>cases hx
 rename_i c;obtain⟨callee,args,argTypes⟩:=c;simp only at hx;split at hx
 case h_2=>cases hx
 split at hx
 case h_2=>cases hx
 rename_i a1 a2 t1 t2 e1 e2;split at hx
 case h_2=>cases hx
 rename_i k hk;injection hx with hx
 injection hx with q1 hx
 injection hx with q2 hx
 injection hx with q3 q4
 subst q1 q2 q3 q4;have e1:args=#[a1,a2]:=Array.ext' e1;have e2:argTypes=#[t1,t2]:=Array.ext' e2;subst e1 e2;refine⟨?_,by simp[Op.operands,Call.operands],by simp[Op.operands,Call.operands],k,hk⟩;simp[execOp,resolve,invoke,builtin]
theorem Mf {z:Value} {k:Nat} (hz:z= .int .u8 0) (i:Nat) (hi:i <k):(Builtin.zeroCells z.cells k)[i]? =some (.int .u8 0):=by subst hz;simp[Builtin.zeroCells,Value.cells,hi,Nat.mod_one]
theorem ag.Mg {s x:Operand} {t t' e:TypeId} {i:TypeInfo} {k:IntKind} {n:Nat} (ha:uL P o.op=some (s,x,t,t')) (hw:au ops fr o.guard=some true) (ht:P.underlying t=some (.slice e)) (hi:P.info? e=some i) (hz:i.zero=some (.int .u8 0)) (gJ:i.size=1)
 (es:fr.ev s= .v .ao) {m:Int} (ex:fr.ev x= .v (.int k m)) (em:m=n) (h0:0 <n) (hb:n*(i.bytes+1)<=140737488355328):
 ag P lt ops o fr h (.v (.sl h.n 0 n n false)) (h.push (.row n (List.replicate n (.int .u8 0)))):=by
 subst em;refine ag.raw hw λg w ρ R hx=>?_;obtain⟨r1,r2,r3,kn,Yg⟩:=zE ha ρ;have v1:=hx s r2 _ es;have v2:=hx x r3 _ ex;rw[r1];generalize ρ s=p at v1;generalize ρ x=q at v2
 cases v1
 cases v2;rw[Nat.mul_succ]at hb;have hr:=Lib.run_append_nil_zeros (P:=P) w t t' o.type e i (.int .u8 0) k kn ht Yg hi hz n h0 (by omega) (by omega) (by omega);have fH:=grownCap_ge w n 0 e;have hle:=grownCap_le_maxLen w n 0 e (by simp only[maxLen];omega);simp only[maxLen]at hle;obtain⟨E0,R0⟩:=qN R;generalize hC:Builtin.zeroCells (Value.int .u8 0).cells n++Builtin.zeroCells (Value.int .u8 0).cells (grownCap w n 0 e -n)=C at hr;have mI:C.size=grownCap w n 0 e:=by rw[<-hC];simp[Builtin.zeroCells,Value.cells];omega
 obtain⟨E,R'⟩:=jm R0 (.cells C e) (.row n (List.replicate n (.int .u8 0))) λg' E=>⟨C,e,(0,0),by rw[heap_alloc];simp,.inl O,⟨by simp,by omega⟩,λi hi=>by
  simp only[List.length_replicate]at hi;have e1:C.getD i undef= .int .u8 0:=by rw[<-hC,Array.getD_eq_getD_getElem?,Array.getElem?_append,if_pos (by simp[Builtin.zeroCells,Value.cells];exact hi),Mf O i hi];rfl
  rw[e1,List.getElem_replicate];exact⟨.int _ _,O⟩⟩
 refine⟨.slice (some ⟨w.heap.size,0,none⟩) n (grownCap w n 0 e),_,_,by simp only[Sem.run_bind,hr,Result.andThen_ok,Sem.run_pure],E0.trans E,R',?_⟩;exact .sl _ _ _ _ _ w.heap.size _ (if_pos O) ⟨_,e,_,by rw[heap_alloc];exact if_pos O,by rw[mI];omega⟩ (Nat.le_refl _) (by omega) (λe=>by cases e) (by omega)
theorem Jw {t:TypeId} {x y:Operand} (ho:o.op= .makeSlice t x y) (ρ:Operand->Value):(execOp ρ o)=(do pure (.value (<-Instr.makeSlice t (ρ x) (ρ y))))/\x∈o.op.operands.toList/\y∈o.op.operands.toList:=by obtain⟨dst,op,ty,pos,after,guard⟩:=o;simp only at ho;subst ho;exact⟨O,by simp[Op.operands],by simp[Op.operands]⟩
theorem ag.Sb {t e:TypeId} {x y:Operand} {i:TypeInfo} {k k':IntKind} {l c:Nat} (ho:o.op= .makeSlice t x y) (hw:au ops fr o.guard=some true) (ht:P.underlying t=some (.slice e)) (hi:P.info? e=some i) (hz:i.zero=some (.int .u8 0)) (gJ:i.size=1)
 {m m':Int} (ex:fr.ev x= .v (.int k m)) (ey:fr.ev y= .v (.int k' m')) (em:m=l) (em':m'=c) (wi:l<=c) (hb:(i.bytes+1)*c<=140737488355328):
 ag P lt ops o fr h (.v (.sl h.n 0 l c true)) (h.push (.row c (List.replicate c (.int .u8 0)))):=by
 subst em em';refine ag.raw hw λg w ρ R hx=>?_;obtain⟨r1,r2,r3⟩:=Jw ho ρ;have v1:=hx x r2 _ ex;have v2:=hx y r3 _ ey;rw[r1];generalize ρ x=p at v1;generalize ρ y=q at v2
 cases v1
 cases v2;rw[Nat.succ_mul]at hb;have hr:=run_make (P:=P) w t e i (.int .u8 0) ht hi hz k k' l c (by omega) (by omega) (by rw[<-Int.natCast_mul];omega) (by omega);simp only[Int.toNat_natCast,gJ,Nat.mul_one]at hr;obtain⟨E,R'⟩:=jm R (.cells (madeCells (Value.int .u8 0).cells c) e) (.row c (List.replicate c (.int .u8 0))) λg' E=>⟨_,e,(0,0),by rw[heap_alloc];exact if_pos O,.inl O,⟨by simp,by rw[size_madeCells];omega⟩,λi hi=>by
  simp only[List.length_replicate]at hi;have e1:(madeCells (Value.int .u8 0).cells c).getD i undef= .int .u8 0:=by simp[madeCells,Value.cells,Array.getD_eq_getD_getElem?,hi,Nat.mod_one]
  rw[e1,List.getElem_replicate];exact⟨.int _ _,O⟩⟩
 refine⟨.slice (some ⟨w.heap.size,0,none⟩) l c,_,_,by simp only[Sem.run_bind,hr,Result.andThen_ok,Sem.run_pure],E,R',?_⟩;exact .sl _ _ _ _ _ w.heap.size _ (if_pos O) ⟨_,e,_,by rw[heap_alloc];exact if_pos O,by rw[size_madeCells];omega⟩ wi (Nat.le_refl _) (λ_=>rfl) (by omega)
end
end
section
variable {P:Program} {lt:LT} {h h0 h1:AH} {ids:List Nat} {V:View} {fr aB:ay} {ks:List Kt} {C:Exit->ay->AH->Prop}
def oW (P:Program) (f:FuncId) (args:List AV) (h h':AH):Prop:=∀(g:Gh) (w:World) (vs:Array Value),Rel g w h->Df g w args vs->CallsD P f vs .returning w λe u' w'=>(∃v,e= .returned v)/\u'= .returning/\∃g',Ev g w g' w'/\Rel g' w' h'
def Pd (P:Program):List (FuncId×List AV)->AH->AH->Prop
 |[],h,h'=>h=h'
 |(f,args)::r,h,h'=>eF P f/\∃h1,oW P f args h h1/\Pd P r h1 h'
def Mh (P:Program) (rs:List ResultVar) (Q:AV->AH->Prop):Exit->ay->AH->Prop
 | .normal,fr,h=>∃v h2,Pd P fr.df h h2/\gk P fr h2 rs=some v/\Q v h2
 | .ret,fr,h=>∃v h2,Pd P fr.df h h2/\gk P fr h2 rs=some v/\Q v h2
 |_,_,_=>False
theorem Pd.leaves {fn:Func} {rs:List ResultVar} (FF:fn.results.toList=rs) {v:AV} {hf:AH} {g0:Gh} {w0:World} {base:Nat} {lb:Nat->Option Nat} {a:Act}:
 ∀(df:List (FuncId×List AV)) (ds:List Deferred) (g:Gh) (w:World) (h:AH),Pd P df h hf->DR g w df ds->Ev g0 w0 g w->Rel g w h->FR lt g w base lb fr a->gk P fr hf rs=some v->Leaves P fn a.tmps (λe w'=>∃u g',e= .returned u/\Ev g0 w0 g' w'/\Rel g' w' hf/\VR g' w' v u) ds .returning w
 |[],ds,g,w,h,U,D,E,R,F,q=>by simp only[Pd]at U;subst U;simp only[DR]at D;subst D;obtain⟨u,q2,q3⟩:=lQ (fn:=fn) R F (FF▸q);exact⟨u,q2,u,g,O,E,R,q3⟩
 |(f,args)::r,ds,g,w,h,U,D,E,R,F,q=>by obtain⟨hc,h1,U1,U2⟩:=U;obtain⟨us,cs,as_,QI,rfl,d2,rfl,d4⟩:=D;refine leaves_cons (by simp) (by simp only[invoke];exact hc _ w) (CallsD.mono (U1 g w _ R d2) ?_);rintro e u' w' ⟨⟨v',rfl⟩,rfl,g',E',R'⟩;exact Pd.leaves FF r QI g' w' h1 U2 (d4.mono E'.toEvc) (E.trans E') R' (F.mono E') q
theorem al.Sc {f:FuncId} {c:Code} {n:Nat} {rs:List ResultVar} {fn:Func} (I:Jl P f c n rs fn) (lt:LT) {args:List AV} {Q:AV->AH->Prop} (hn:Nat.ble args.length n=true)
 (H:AC P lt c (ay.enter n args) h (Mh P rs Q)):al P f args h Q:=by
 obtain⟨e,aB,h1,k,r⟩:=H;have key:∀v h2,Pd P aB.df h1 h2->gk P aB h2 rs=some v->Q v h2->(e= .normal\/e= .ret)->al P f args h Q:=by
  intro v h2 U q1 q2 he;refine⟨v,h2,q2,λg w vs R nC=>calls_of_wp_defers I.at_ I.body ?_⟩;have hn:=Nat.le_of_ble_eq_true hn;have gJ:=nC.1;have F:FR lt g w w.heap.size (λ_=>none) (ay.enter n args) {tmps:=vs++Array.replicate (fn.ntmps -vs.size) undef,defers:=[]}:=by
   refine⟨O,by simp[ay.enter,I.ntmps];omega,λi hi=>?_,λi d off e=>?_,λ_ _ _ e=>(by cases e),λ_ _ e=>(by cases e)⟩
   .simp only[ay.enter,xu];split
    .rename_i x hx;obtain⟨h1,h2⟩:=List.getElem?_eq_some_iff.1 hx;have:=nC.2 i h1;have e1:(vs++Array.replicate (fn.ntmps -vs.size) undef).getD i undef=vs.getD i undef:=by
      simp[Array.getD_eq_getD_getElem?,Array.getElem?_append,show i <vs.size by omega]
     rw[e1,<-h2];exact this
    .trivial
   .simp only[ay.enter,xu]at e;split at e<;>cases e
  refine wp_mono (r g w _ w ⟨g,_,.refl g w,R,F⟩) ?_;rintro e1 a1 w1 ⟨rfl,g1,lb1,E1,R1,F1⟩;have L:=Pd.leaves (P:=P) (fn:=fn) I.results aB.df a1.defers g1 w1 h1 U F1.defers E1 R1 F1 q1;rcases he with rfl|rfl
  .exact L
  .exact L
 cases e with|normal=>obtain⟨v,h2,q1,q2,q3⟩:=k;exact key v h2 q1 q2 q3 (.inl rfl)|ret=>obtain⟨v,h2,q1,q2,q3⟩:=k;exact key v h2 q1 q2 q3 (.inr O)|_=>exact k.elim
theorem Fz {f:FuncId} {c:Code} {n:Nat} {rs:List ResultVar} {fn:Func} {args:List AV} {Q:AV->AH->Prop} (lt:LT) (I:Jl P f c n rs fn) (hn:Nat.ble args.length n=true) (H:XS P lt (Mh P rs Q) (.code c) [] (ay.enter n args) h):al P f args h Q:=al.Sc I lt hn H
theorem oW.of {f:FuncId} {c:Code} {n:Nat} {rs:List ResultVar} {fn:Func} (I:Jl P f c n rs fn) (lt:LT) {args:List AV} {Q:AH->Prop} (hn:Nat.ble args.length n=true)
 (H:XS P lt (DU P rs λ_ h'=>Q h') (.code c) [] (ay.enter n args) h):∃h',Q h'/\oW P f args h h':=by
 obtain⟨e,aB,h1,k,r⟩:=H;have key:∀v,fu P aB h1 rs=some v->Q h1->(e= .normal\/e= .ret)->∃h',Q h'/\oW P f args h h':=by
  intro v q1 q2 he;refine⟨h1,q2,λg w vs R nC=>CallsD.mono (callsD_of_wp (R:=λe w'=>(∃v,e= .returned v)/\∃g',Ev g w g' w'/\Rel g' w' h1) I.at_ I.body ?_) λe u' w' q=>⟨q.2.1,q.1,q.2.2⟩⟩;have hn:=Nat.le_of_ble_eq_true hn;have gJ:=nC.1;have F:FR lt g w w.heap.size (λ_=>none) (ay.enter n args) {tmps:=vs++Array.replicate (fn.ntmps -vs.size) undef,defers:=[]}:=by
   refine⟨O,by simp[ay.enter,I.ntmps];omega,λi hi=>?_,λi d off e=>?_,λ_ _ _ e=>(by cases e),λ_ _ e=>(by cases e)⟩
   .simp only[ay.enter,xu];split
    .rename_i x hx;obtain⟨h1,h2⟩:=List.getElem?_eq_some_iff.1 hx;have:=nC.2 i h1;have e1:(vs++Array.replicate (fn.ntmps -vs.size) undef).getD i undef=vs.getD i undef:=by
      simp[Array.getD_eq_getD_getElem?,Array.getElem?_append,show i <vs.size by omega]
     rw[e1,<-h2];exact this
    .trivial
   .simp only[ay.enter,xu]at e;split at e<;>cases e
  refine wp_mono (r g w _ w ⟨g,_,.refl g w,R,F⟩) ?_;rintro e1 a1 w1 ⟨rfl,g1,lb1,E1,R1,F1⟩;obtain⟨qd,q1⟩:=mD q1;obtain⟨u,q2,q3⟩:=lQ (fn:=fn) R1 F1 (I.results▸q1);have hd:=F1.defers;rw[qd]at hd;rcases he with rfl|rfl
  .exact⟨hd,u,q2,⟨u,O⟩,g1,E1,R1⟩
  .exact⟨hd,u,q2,⟨u,O⟩,g1,E1,R1⟩
 cases e with|normal=>obtain⟨v,q1,q2⟩:=k;exact key v q1 q2 (.inl rfl)|ret=>obtain⟨v,q1,q2⟩:=k;exact key v q1 q2 (.inr O)|_=>exact k.elim
end
section
variable {P:Program} {lt:LT} {h h0 h1:AH} {ids:List Nat} {V V':View} {fr aB:ay} {ks ji:List Kt} {C:Exit->ay->AH->Prop} {cur dE:Dj} {n':Nat}
def ay.push (fr:ay) (f:FuncId) (args:List AV):ay:={fr with df:=(f,args)::fr.df}
def Mi (fr:ay) (o:Op):Option (FuncId×List AV):=
 match o with
 | .defer c=>match c.callee with
  | .value x=>match fr.ev x,fr.FD c.args.toList with| .v (.pG f eV),some args=>some (f,args++eV)|_,_=>none
  |_=>none
 |_=>none
theorem uj {o:Oper} {ops l:List Oper} {D:List Nat} {f:FuncId} {args:List AV} (hc:Mi fr o.op=some (f,args)) (hg:au ops fr o.guard=some true) (hd:o.dst=none)
 (K:XS P lt C (.ops ops l D) ks (fr.push f args) h):XS P lt C (.ops ops (o::l) D) ks fr h:=by
 refine AL.any (jc:=fr.push f args) (h1:=h) (λg0 w0 a w Q K S hK=>?_) K;obtain⟨g,lb,E,R,F⟩:=S;rw[if_pos (cI F hg)];obtain⟨dst,op,ty,pos,after,guard⟩:=o;simp only at hc hd;subst hd;unfold Mi at hc;split at hc
 case h_2=>cases hc
 rename_i c;split at hc
 case h_2=>cases hc
 rename_i x hx;split at hc
 case h_2=>cases hc
 rename_i f' eV U0 e1 e2;injection hc with hc
 injection hc with q1 q2
 subst q1 q2;have Lz:=By F e2;have v1:=F.cq e1;generalize hq:a.eval x=q at v1;have Jm:∃vs:Array Value,q= .func (.func f') #[] vs/\Df g w eV vs:=by cases v1 with|pG _ _ vs h1 h2=>exact⟨vs,O,h1,h2⟩
 obtain⟨vs,rfl,nC⟩:=Jm;have run:(execOp a.eval {dst:=none,op:= .defer c,type:=ty,pos:=pos,after:=after,guard:=guard}).run P w= .ok (.defer ⟨.fn (.func f') vs,c.args.map a.eval⟩) w:=by simp only[execOp,resolve,hx,hq,Deferred.ofValue,Sem.run_bind,Sem.run_pure,Result.andThen_ok];simp
 unfold Oper.wp;rw[run];refine hK _ _ ⟨g,lb,E,R,?_⟩;refine⟨?_,F.size,F.slot,F.hold,F.OH,F.Jd⟩;exact⟨_,vs,_,a.defers,O,Lz.append nC,O,F.defers⟩
theorem kV {o:Oper} {ops l:List Oper} {D:List Nat} {s:Slot} {d:Tmp} (st:ag P lt ops o fr h s h1) (hd:o.dst=some d) (K:XS P lt C (.ops ops l D) ks (fr.bf d s) h1):XS P lt C (.ops ops (o::l) D) ks fr h:=by refine AL.jr st ?_;rw[hd];exact K
theorem Bl {o:Oper} {ops l:List Oper} {D:List Nat} {s:Slot} (st:ag P lt ops o fr h s h1) (hd:o.dst=none) (K:XS P lt C (.ops ops l D) ks fr h1):XS P lt C (.ops ops (o::l) D) ks fr h:=by refine AL.jr st ?_;rw[hd];exact K
theorem WR {o:Oper} {ops l:List Oper} {D pre:List Nat} {s:Slot} {d:Tmp} (st:ag P lt ops o fr h s h1) (hd:o.dst=some d) (K:XS P lt C (.eW ops l D (2::pre)) ks (fr.bf d s) h1):XS P lt C (.eW ops (o::l) D pre) ks fr h:=by refine jt (s:=s) (h1:=h1) (kd:=2) (.inr (.inr ⟨O,st⟩)) ?_;rw[hd];exact K
theorem yY {o:Oper} {ops l:List Oper} {D pre:List Nat} {s:Slot} {d:Tmp} (st:ag P lt ops o fr h s h) (hd:o.dst=some d) (K:XS P lt C (.eW ops l D (1::pre)) ks (fr.bf d s) h):XS P lt C (.eW ops (o::l) D pre) ks fr h:=by refine jt (s:=s) (h1:=h) (kd:=1) (.inr (.inl ⟨O,O,st⟩)) ?_;rw[hd];exact K
theorem ag.gA {o:Oper} {ops:List Oper} {t e:TypeId} {x:Operand} {lo hi:Option Operand} {ob off n cap l hh:Nat} {y9:Bool} (ho:o.op= .slice t x lo hi none) (hw:au ops fr o.guard=some true) (ht:P.underlying t=some (.slice e)) (hz:kW P e=some 1)
 (ex:fr.ev x= .v (.sl ob off n cap y9)) (h1:eL fr lo 0=some l) (h2:eL fr hi n=some hh) (h3:l<=hh) (h4:hh<=cap) (h5:l <cap\/l=0):∀h,ag P lt ops o fr h (.v (.sl ob (off+l) (hh -l) (cap -l) y9)) h:=
 ag.pure hw (λh=>by rw[ho];simp only[fi,og,ht,ex,h1,h2];rw[if_pos ⟨hz,h3,h4,h5⟩]) O (λh=>by rw[ho];rfl)
theorem ag.Mj {o:Oper} {ops:List Oper} {t e:TypeId} {x:Operand} {lo hi:Option Operand} {m:Nat} (ho:o.op= .slice t x lo hi none) (hw:au ops fr o.guard=some true) (ht:P.underlying t=some (.slice e)) (hz:kW P e=some m)
 (ex:fr.ev x= .v .ao) (h1:eL fr lo 0=some 0) (h2:eL fr hi 0=some 0):∀h,ag P lt ops o fr h (.v .ao) h:=
 ag.pure hw (λh=>by rw[ho];simp only[fi,og,ht,ex,h1,h2,hz]) O (λh=>by rw[ho];rfl)
theorem ag.iZ {o:Oper} {ops:List Oper} {t e:TypeId} {x i:Operand} {ob off len cap:Nat} {y9:Bool} {k:IntKind} {n:Int} (ho:o.op= .indexAddr t x i) (hw:au ops fr o.guard=some true) (ht:rY P t=some e) (hz:kW P e=some 1)
 (ex:fr.ev x= .v (.sl ob off len cap y9)) (ei:fr.ev i= .v (.int k n)) (h0:0<=n) (h1:n <(len:Int)):∀h,ag P lt ops o fr h (.v (.ptr ob (off+n.toNat))) h:=
 ag.pure hw (λh=>by rw[ho];simp only[fi,jX,ht,ex,ei];rw[if_pos ⟨hz,h0,h1⟩]) O (λh=>by rw[ho];rfl)
theorem HI.more {jQ:List Nat} (H:HI h0 ids h V) (hs:∀i∈ids,i∈jQ):HI h0 jQ h V:=⟨H.hv,H.kp.sub λi q=> .inl (hs i q),λe he=>(H.new e he).imp (λq=>hs _ q) id⟩
theorem HI.zF {o:Nat} {x:mV} (H:HI h0 ids h V) (cv:∀e∈V,e.1≠o) (hi:h0.n<=o\/o∈ids):HI h0 ids (h.set o x) V:=
 ⟨HV.of (λe he=>by
  obtain⟨q1,q2⟩:=H.hv.get he;exact⟨by simp only[AH.set];rw[if_neg (cv e he)];exact q1,q2⟩) H.hv.nodup,
  ⟨H.kp.n,λk hk Pe=>by simp only[AH.set];rw[if_neg (by rintro rfl;rcases hi with hi|hi<;>first|omega|exact Pe hi)];exact H.kp.get k hk Pe,H.kp.nt,H.kp.bV,H.kp.aV⟩,H.new⟩
theorem HI.xJ {x:mV} (H:HI h0 ids h V):HI h0 ids (h.push x) V:=
 ⟨HV.of (λe he=>by
  obtain⟨q1,q2⟩:=H.hv.get he;exact⟨by simp only[AH.push];rw[if_neg (by omega)];exact q1,by simp only[AH.push];omega⟩) H.hv.nodup,
  ⟨by have:=H.kp.n;simp only[AH.push];omega,λk hk Pe=>by
   have:=H.kp.n
   simp only[AH.push];rw[if_neg (by omega)];exact H.kp.get k hk Pe,H.kp.nt,H.kp.bV,H.kp.aV⟩,H.new⟩
end
section
attribute [local irreducible] AC AL AW AD aP
def Bx (ids:List Nat) (h h':AH):Prop:=Kp ids h h'/\h'.nt=h.nt/\h'.bV=h.bV
abbrev gg (x:AV) (lr:Int):List AV:=[x,.int .i64 0,.int .i8 lr]
theorem kG {h0:AH} {b r n c k:Nat} {lr:Int} (hb:b <h0.n) (hg:h0.get b=some (.cells (gg (.sl r 0 n c true) lr))) (hn:n<=c) (hc:c <9223372036854775808) (hk:k<=1099511627776):
 al prog 188 [.ptr b 0,.int .i64 k] h0 (λv h'=>Bx [b] h0 h'/\h'.n=h0.n/\((n+k<=c/\v= .cN [.int .i64 n,.bool true]/\h'.get b=some (.cells (gg (.sl r 0 (n+k) c true) lr)))\/(¬ n+k<=c/\v= .cN [.int .i64 0,.bool false]/\h'.get b=some (.cells (gg (.sl r 0 n c true) lr))))):=by
 refine az (n:=33) (rs:=[.tmp 4,.tmp 5]) [] ⟨func188,O,O,O⟩ O <| have H:=HI.one hg hb;ah H O λh H Y=>?_;have e1:=Y.1;have e2:=Y.2.1;have e3:=Y.2.2;refine af O (λej=>?_) λej=>?_
 .have gf:n+k<=c:=by rw[wrap_i64 (by omega) (by omega)]at ej;simp at ej;omega
  refine ah H O λh H Y=>ba (ag.gA O O O O O O (eY O (by rw[wrap_i64 (by omega) (by omega)];omega)) (Nat.zero_le _) (by rw[wrap_i64 (by omega) (by omega)];omega) (.inr O)) O ?_;have ek:(IntKind.i64.wrap ((n:Int)+k)).toNat=n+k:=by rw[wrap_i64 (by omega) (by omega)];omega
  rw[ek];have H1:=H;have a1:=Y.1;have a2:=Y.2.1;have a3:=Y.2.2;refine ah H O λh H Y=>?_;exact ab [] H O ⟨⟨H.kp,by rw[Y.2.1,a2,e2],by rw[Y.2.2,a3,e3]⟩,by rw[Y.1,a1,e1],.inl ⟨gf,O,H.at_.1⟩⟩
 .have kZ:¬ n+k<=c:=by rw[wrap_i64 (by omega) (by omega)]at ej;simp at ej;omega
  refine ah H O λh H Y=>?_;exact ab [] H O ⟨⟨H.kp,by rw[Y.2.1,e2],by rw[Y.2.2,e3]⟩,by rw[Y.1,e1],.inr ⟨kZ,O,H.at_.1⟩⟩
theorem Jx (w:World):CallsD prog 217 #[] .returning w λe u' w'=>e= .returned (.tuple #[])/\u'= .returning/\w'=w:=by
 have hnn:∀w,(binOp .neq 20 .nilIface .nilIface).run prog w= .ok (.bool false) w:=λw=>Lib.run_neq_nil_nil w Tryz.underlying20
 refine callsD_of_wpS func217 O λc₀ cs hu=>?_;apply wpS_seq;apply wpS_region;simp[wpOpsS,go_sem,recoverD,hu,hnn,Exit.thenS,Tryz.f217];refine wpS_cond (t:=false) (by simp[Act.eval,Array.replicate]) ?_;simp only[Bool.false_eq_true,if_false];refine wpS_of_wp (wp_skip ?_)
 cases c₀
 simp_all [bodyPostS,results]
theorem B7 (h:AH):oW prog 217 [] h h:=λg w vs R nC=>by
 have:vs=#[]:=by
  have:=nC.1
  simpa using this
 subst this;exact CallsD.mono (Jx w) λe u' w' ⟨h1,h2,h3⟩=>⟨⟨_,h1⟩,h2,g,by rw[h3];exact .refl g w,by rw[h3];exact R⟩
def W8 (h:AH) (x:AV) (l c:Nat) (es:List AV):Prop:=(x= .ao/\l=0/\c=0/\es=[])\/∃r cap cs,x= .sl r 0 l c true/\r <h.n/\h.get r=some (.row cap cs)/\l<=cs.length/\cs.take l=es/\l<=c
theorem W8.len {h:AH} {x:AV} {l c:Nat} {es:List AV} (S:W8 h x l c es):es.length=l/\l<=c:=by
 rcases S with⟨_,rfl,rfl,rfl⟩|⟨r,cap,cs,_,_,_,h1,rfl,h2⟩
 .exact⟨O,Nat.le_refl _⟩
 .exact⟨by simp;omega,h2⟩
theorem rO {h0:AH} {x:AV} {l c n:Nat} {es:List AV} (S:W8 h0 x l c es) (zf:0 <n) (hc:c<=1099511627776) (hn:n<=1099511627776):
 al prog 207 [x,.int .i64 n] h0 (λv h'=>Bx [] h0 h'/\h'.n=h0.n+1/\∃C cs,v= .sl h0.n 0 l C false/\l+n<=C/\C<=4398046511104/\h'.get h0.n=some (.row C cs)/\cs.length=C/\cs.take l=es):=by
 obtain⟨q1,q2⟩:=S.len;refine Fz (n:=28) (rs:=[.tmp 4]) [] ⟨func207,O,O,O⟩ O <| have H:HI h0 [] h0 []:=HI.nil;ah H O λh H Y=>?_;have e1:=Y.1;have e2:=Y.2.1;have e3:=Y.2.2;refine uj O O O ?_;have key:∀(C:Nat) (fr:ay) (h:AH),True:=λ_ _ _=>trivial
 rcases S with⟨rfl,rfl,rfl,rfl⟩|⟨r,cap,cs,rfl,hr,hg,hl,rfl,wi⟩
 .refine ah H O λh H Y=>have e4:=Y.1;have e5:=Y.2.1;have e6:=Y.2.2;af O (λhb=>?_) λhb=>?_
  .rw[wrap_i64 (n:=((0:Nat):Int)+n) (by omega) (by omega)]at hb;have:=of_decide_eq_true hb;exfalso;rw[wrap_i64 (by omega) (by omega)]at this;omega
  .refine ah H O λh H Y=>have e7:=Y.1;have e8:=Y.2.1;have e9:=Y.2.2;kV (ag.Mg (n:=n) O O O O O O O O (by rw[wrap_i64 (by omega) (by omega)];omega) (by omega) (show n*2<=140737488355328 by omega)) O ?_;replace H:=H.xJ (x:= .row (n) (List.replicate (n) (.int .u8 0)));have g3:(h.push (.row (n) (List.replicate (n) (.int .u8 0)))).get h.n=some (.row (n) (List.replicate (n) (.int .u8 0))):=by simp[AH.push]
   have f1:(h.push (.row (n) (List.replicate (n) (.int .u8 0)))).n=h0.n+1:=by simp only[AH.push];omega
   have f2:(h.push (.row (n) (List.replicate (n) (.int .u8 0)))).nt=h0.nt:=by simp only[AH.push];omega
   have f3:(h.push (.row (n) (List.replicate (n) (.int .u8 0)))).bV=h0.bV:=by simp only[AH.push];rw[e9,e6,e3]
   rw[show h.n=h0.n by omega]at g3|-;generalize h.push (.row (n) (List.replicate (n) (.int .u8 0)))=h at*;refine dZ H O λh4 H4 ⟨m1,m2,m3⟩ k4=>?_;have g5:=(k4.get h0.n (by omega) (by simp)).trans g3;refine kV (ag.Me (ys:=[]) O O O O O O O g5 (Nat.zero_le _) (by omega) (by omega)) O ?_;replace H4:=H4.zF (o:=h0.n) (x:= .row (n) ((List.replicate (n) (AV.int .u8 0)).take 0++([]:List AV)++(List.replicate (n) (AV.int .u8 0)).drop (0+(([]:List AV)).length))) (by simp) (.inl (Nat.le_refl _));have g6:(h4.set h0.n (.row (n) ((List.replicate (n) (AV.int .u8 0)).take 0++([]:List AV)++(List.replicate (n) (AV.int .u8 0)).drop (0+(([]:List AV)).length)))).get h0.n=some (.row (n) ((List.replicate (n) (AV.int .u8 0)).take 0++([]:List AV)++(List.replicate (n) (AV.int .u8 0)).drop (0+(([]:List AV)).length))):=by simp[AH.set]
   have p1:(h4.set h0.n (.row (n) ((List.replicate (n) (AV.int .u8 0)).take 0++([]:List AV)++(List.replicate (n) (AV.int .u8 0)).drop (0+(([]:List AV)).length)))).n=h0.n+1:=by simp only[AH.set];omega
   have p2:(h4.set h0.n (.row (n) ((List.replicate (n) (AV.int .u8 0)).take 0++([]:List AV)++(List.replicate (n) (AV.int .u8 0)).drop (0+(([]:List AV)).length)))).nt=h0.nt:=by simp only[AH.set];omega
   have p3:(h4.set h0.n (.row (n) ((List.replicate (n) (AV.int .u8 0)).take 0++([]:List AV)++(List.replicate (n) (AV.int .u8 0)).drop (0+(([]:List AV)).length)))).bV=h0.bV:=by simp only[AH.set];rw[m3,f3]
   generalize h4.set h0.n (.row (n) ((List.replicate (n) (AV.int .u8 0)).take 0++([]:List AV)++(List.replicate (n) (AV.int .u8 0)).drop (0+(([]:List AV)).length)))=h5 at*;refine dZ H4 O λh6 H6 ⟨m4,m5,m6⟩ k6=>ba (ag.gA O O O O O O (eY O (by omega)) (Nat.zero_le _) (by simp) (.inr O)) O <| dZ H6 O λh7 H7 ⟨m7,m8,m9⟩ k7=>?_;refine⟨_,h7,⟨call217,_,B7 h7,O⟩,O,⟨H7.kp,by rw[m8,m5,p2],by rw[m9,m6,p3]⟩,by omega,n,_,by simp[q1],by omega,by omega,((k7.get h0.n (by omega) (by simp)).trans (k6.get h0.n (by omega) (by simp))).trans g6,by simp,by simp[q1]⟩
 .refine ah H O λh H Y=>have e4:=Y.1;have e5:=Y.2.1;have e6:=Y.2.2;have tail:∀(C:Nat) (fr:ay) (h:AH),l+n<=C->C<=4398046511104->HI h0 [] h []->h.n=h0.n->h.nt=h0.nt->h.bV=h0.bV->h.get r=some (.row cap cs)->True:=λ_ _ _ _ _ _ _ _ _ _=>trivial;af O (λhb=>?_) λhb=>?_
  .have KS:l+n <2*c:=by
    rw[wrap_i64 (n:=(l:Int)+n) (by omega) (by omega),wrap_i64 (n:=2*(c:Int)) (by omega) (by omega)]at hb;simp at hb;omega
   refine ah H O λh H Y=>?_;have e7:=Y.1;have e8:=Y.2.1;have e9:=Y.2.2;have g1:h.get r=some (.row cap cs):=(H.kp.get r hr (by simp)).trans hg;refine kV (ag.Mg (n:=2*c) O O O O O O O O (by rw[wrap_i64 (by omega) (by omega)];omega) (by omega) (show 2*c*2<=140737488355328 by omega)) O ?_;replace H:=H.xJ (x:= .row (2*c) (List.replicate (2*c) (.int .u8 0)));have g2:(h.push (.row (2*c) (List.replicate (2*c) (.int .u8 0)))).get r=some (.row cap cs):=by simp only[AH.push];rw[if_neg (by omega)];exact g1
   have g3:(h.push (.row (2*c) (List.replicate (2*c) (.int .u8 0)))).get h.n=some (.row (2*c) (List.replicate (2*c) (.int .u8 0))):=by simp[AH.push]
   have f1:(h.push (.row (2*c) (List.replicate (2*c) (.int .u8 0)))).n=h0.n+1:=by simp only[AH.push];omega
   have f2:(h.push (.row (2*c) (List.replicate (2*c) (.int .u8 0)))).nt=h0.nt:=by simp only[AH.push];omega
   have f3:(h.push (.row (2*c) (List.replicate (2*c) (.int .u8 0)))).bV=h0.bV:=by simp only[AH.push];rw[e9,e6,e3]
   rw[show h.n=h0.n by omega]at g3|-;generalize h.push (.row (2*c) (List.replicate (2*c) (.int .u8 0)))=h at*;refine dZ H O λh4 H4 ⟨m1,m2,m3⟩ k4=>?_;have g4:=(k4.get r (by omega) (by simp)).trans g2;have g5:=(k4.get h0.n (by omega) (by simp)).trans g3;refine kV (ag.Me (ys:=cs.take l) O O O O O O (by simp only[pU,g4];rw[if_pos (by omega)];simp) g5 (Nat.zero_le _) (by omega) (by omega)) O ?_;replace H4:=H4.zF (o:=h0.n) (x:= .row (2*c) ((List.replicate (2*c) (AV.int .u8 0)).take 0++cs.take l++(List.replicate (2*c) (AV.int .u8 0)).drop (0+(cs.take l).length))) (by simp) (.inl (Nat.le_refl _));have g6:(h4.set h0.n (.row (2*c) ((List.replicate (2*c) (AV.int .u8 0)).take 0++cs.take l++(List.replicate (2*c) (AV.int .u8 0)).drop (0+(cs.take l).length)))).get h0.n=some (.row (2*c) ((List.replicate (2*c) (AV.int .u8 0)).take 0++cs.take l++(List.replicate (2*c) (AV.int .u8 0)).drop (0+(cs.take l).length))):=by simp[AH.set]
   have p1:(h4.set h0.n (.row (2*c) ((List.replicate (2*c) (AV.int .u8 0)).take 0++cs.take l++(List.replicate (2*c) (AV.int .u8 0)).drop (0+(cs.take l).length)))).n=h0.n+1:=by simp only[AH.set];omega
   have p2:(h4.set h0.n (.row (2*c) ((List.replicate (2*c) (AV.int .u8 0)).take 0++cs.take l++(List.replicate (2*c) (AV.int .u8 0)).drop (0+(cs.take l).length)))).nt=h0.nt:=by simp only[AH.set];omega
   have p3:(h4.set h0.n (.row (2*c) ((List.replicate (2*c) (AV.int .u8 0)).take 0++cs.take l++(List.replicate (2*c) (AV.int .u8 0)).drop (0+(cs.take l).length)))).bV=h0.bV:=by simp only[AH.set];rw[m3,f3]
   generalize h4.set h0.n (.row (2*c) ((List.replicate (2*c) (AV.int .u8 0)).take 0++cs.take l++(List.replicate (2*c) (AV.int .u8 0)).drop (0+(cs.take l).length)))=h5 at*;refine dZ H4 O λh6 H6 ⟨m4,m5,m6⟩ k6=>ba (ag.gA O O O O O O (eY O (by omega)) (Nat.zero_le _) (by simp;omega) (.inr O)) O <| dZ H6 O λh7 H7 ⟨m7,m8,m9⟩ k7=>?_;refine⟨_,h7,⟨call217,_,B7 h7,O⟩,O,⟨H7.kp,by rw[m8,m5,p2],by rw[m9,m6,p3]⟩,by omega,2*c,_,by simp[q1],by omega,by omega,((k7.get h0.n (by omega) (by simp)).trans (k6.get h0.n (by omega) (by simp))).trans g6,by simp;omega,by simp[q1]⟩
  .have KS:¬ l+n <2*c:=by
    rw[wrap_i64 (n:=(l:Int)+n) (by omega) (by omega),wrap_i64 (n:=2*(c:Int)) (by omega) (by omega)]at hb;simp at hb;omega
   refine ah H O λh H Y=>?_;have e7:=Y.1;have e8:=Y.2.1;have e9:=Y.2.2;have g1:h.get r=some (.row cap cs):=(H.kp.get r hr (by simp)).trans hg;refine kV (ag.Mg (n:=(l+n)) O O O O O O O O (by rw[wrap_i64 (by omega) (by omega)];omega) (by omega) (show(l+n)*2<=140737488355328 by omega)) O ?_;replace H:=H.xJ (x:= .row ((l+n)) (List.replicate ((l+n)) (.int .u8 0)));have g2:(h.push (.row ((l+n)) (List.replicate ((l+n)) (.int .u8 0)))).get r=some (.row cap cs):=by simp only[AH.push];rw[if_neg (by omega)];exact g1
   have g3:(h.push (.row ((l+n)) (List.replicate ((l+n)) (.int .u8 0)))).get h.n=some (.row ((l+n)) (List.replicate ((l+n)) (.int .u8 0))):=by simp[AH.push]
   have f1:(h.push (.row ((l+n)) (List.replicate ((l+n)) (.int .u8 0)))).n=h0.n+1:=by simp only[AH.push];omega
   have f2:(h.push (.row ((l+n)) (List.replicate ((l+n)) (.int .u8 0)))).nt=h0.nt:=by simp only[AH.push];omega
   have f3:(h.push (.row ((l+n)) (List.replicate ((l+n)) (.int .u8 0)))).bV=h0.bV:=by simp only[AH.push];rw[e9,e6,e3]
   rw[show h.n=h0.n by omega]at g3|-;generalize h.push (.row ((l+n)) (List.replicate ((l+n)) (.int .u8 0)))=h at*;refine dZ H O λh4 H4 ⟨m1,m2,m3⟩ k4=>?_;have g4:=(k4.get r (by omega) (by simp)).trans g2;have g5:=(k4.get h0.n (by omega) (by simp)).trans g3;refine kV (ag.Me (ys:=cs.take l) O O O O O O (by simp only[pU,g4];rw[if_pos (by omega)];simp) g5 (Nat.zero_le _) (by omega) (by omega)) O ?_;replace H4:=H4.zF (o:=h0.n) (x:= .row ((l+n)) ((List.replicate ((l+n)) (AV.int .u8 0)).take 0++cs.take l++(List.replicate ((l+n)) (AV.int .u8 0)).drop (0+(cs.take l).length))) (by simp) (.inl (Nat.le_refl _));have g6:(h4.set h0.n (.row ((l+n)) ((List.replicate ((l+n)) (AV.int .u8 0)).take 0++cs.take l++(List.replicate ((l+n)) (AV.int .u8 0)).drop (0+(cs.take l).length)))).get h0.n=some (.row ((l+n)) ((List.replicate ((l+n)) (AV.int .u8 0)).take 0++cs.take l++(List.replicate ((l+n)) (AV.int .u8 0)).drop (0+(cs.take l).length))):=by simp[AH.set]
   have p1:(h4.set h0.n (.row ((l+n)) ((List.replicate ((l+n)) (AV.int .u8 0)).take 0++cs.take l++(List.replicate ((l+n)) (AV.int .u8 0)).drop (0+(cs.take l).length)))).n=h0.n+1:=by simp only[AH.set];omega
   have p2:(h4.set h0.n (.row ((l+n)) ((List.replicate ((l+n)) (AV.int .u8 0)).take 0++cs.take l++(List.replicate ((l+n)) (AV.int .u8 0)).drop (0+(cs.take l).length)))).nt=h0.nt:=by simp only[AH.set];omega
   have p3:(h4.set h0.n (.row ((l+n)) ((List.replicate ((l+n)) (AV.int .u8 0)).take 0++cs.take l++(List.replicate ((l+n)) (AV.int .u8 0)).drop (0+(cs.take l).length)))).bV=h0.bV:=by simp only[AH.set];rw[m3,f3]
   generalize h4.set h0.n (.row ((l+n)) ((List.replicate ((l+n)) (AV.int .u8 0)).take 0++cs.take l++(List.replicate ((l+n)) (AV.int .u8 0)).drop (0+(cs.take l).length)))=h5 at*;refine dZ H4 O λh6 H6 ⟨m4,m5,m6⟩ k6=>ba (ag.gA O O O O O O (eY O (by omega)) (Nat.zero_le _) (by simp;omega) (.inr O)) O <| dZ H6 O λh7 H7 ⟨m7,m8,m9⟩ k7=>?_;refine⟨_,h7,⟨call217,_,B7 h7,O⟩,O,⟨H7.kp,by rw[m8,m5,p2],by rw[m9,m6,p3]⟩,by omega,(l+n),_,by simp[q1],by omega,by omega,((k7.get h0.n (by omega) (by simp)).trans (k6.get h0.n (by omega) (by simp))).trans g6,by simp;omega,by simp[q1]⟩
theorem ln {h0:AH} {b k:Nat} {lr:Int} (hb:b <h0.n) (hg:h0.get b=some (.cells (gg .ao lr))) (hk0:0 <k) (hk:k<=1099511627776):
 al prog 188 [.ptr b 0,.int .i64 k] h0 (λv h'=>Bx [b] h0 h'/\h'.n=h0.n/\v= .cN [.int .i64 0,.bool false]/\h'.get b=some (.cells (gg .ao lr))):=by
 refine az (n:=33) (rs:=[.tmp 4,.tmp 5]) [] ⟨func188,O,O,O⟩ O <| have H:=HI.one hg hb;ah H O λh H Y=>?_;have e1:=Y.1;have e2:=Y.2.1;have e3:=Y.2.2;refine af O (λej=>?_) λej=>?_
 .exfalso;have:=of_decide_eq_true ej;rw[wrap_i64 (by omega) (by omega)]at this;omega
 .refine ah H O λh H Y=>?_;exact ab [] H O ⟨⟨H.kp,by rw[Y.2.1,e2],by rw[Y.2.2,e3]⟩,by rw[Y.1,e1],O,H.at_.1⟩
theorem xK {h0:AH} {b l:Nat} {x:AV} {lr:Int} (hb:b <h0.n) (hg:h0.get b=some (.cells (gg x lr))) (hx:(x= .ao/\l=0)\/∃r c e,x= .sl r 0 l c e) (hl:l<=1099511627776):
 al prog 205 [.ptr b 0] h0 (λv h'=>Bx [b] h0 h'/\h'.n=h0.n/\v= .int .i64 l/\h'.get b=some (.cells (gg x lr))):=by
 refine az (n:=13) (rs:=[.tmp 2]) [] ⟨func205,O,O,O⟩ O ?_;have H:=HI.one hg hb;rcases hx with⟨rfl,rfl⟩|⟨r,c,e,rfl⟩
 .exact ah H O λh H Y=>ab [] H O ⟨⟨H.kp,Y.2.1,Y.2.2⟩,Y.1,O,H.at_.1⟩
 .refine ah H O λh H Y=>?_;exact ab [] H O ⟨⟨H.kp,Y.2.1,Y.2.2⟩,Y.1,by show AV.int _ _=_;rw[wrap_i64 (by omega) (by omega)];congr 1,H.at_.1⟩
theorem nQ {h0:AH} {b l c n:Nat} {x:AV} {es:List AV} {lr:Int} (hb:b <h0.n) (hg:h0.get b=some (.cells (gg x lr))) (S:W8 h0 x l c es) (zf:0 <n) (hn:n<=64) (hc:c<=1099511627776) (kZ:¬ l+n<=c):
 al prog 189 [.ptr b 0,.int .i64 n] h0 (λv h'=>Bx [b] h0 h'/\h'.n=h0.n+1/\v= .int .i64 l/\∃C ex cap cs,h'.get b=some (.cells (gg (.sl h0.n 0 (l+n) C ex) lr))/\h'.get h0.n=some (.row cap cs)/\cs.take l=es/\l+n<=cs.length/\l+n<=C/\cs.length<=cap):=by
 obtain⟨q1,q2⟩:=S.len;refine az (n:=110) (rs:=[.tmp 4]) [] ⟨func189,O,O,O⟩ O <| have H:=HI.one hg hb;ah H O λh H Y=>?_;have e1:=Y.1;have e2:=Y.2.1;have e3:=Y.2.2;rcases S with⟨rfl,rfl,rfl,rfl⟩|⟨r,cap,cs,rfl,hr,rm,hl,rfl,wi⟩
 .refine ae O call205 (xK (l:=0) H.at_.2 H.at_.1 (.inl ⟨O,O⟩) (by omega)) ?_;rintro v h2 ⟨⟨k2,n2,t2⟩,m2,rfl,g2⟩;replace H:=H.aA k2 g2;refine ah H O λh H Y=>have e4:=Y.1;have e5:=Y.2.1;have e6:=Y.2.2;aj O (λ_=>?_) (λhq=>by cases hq);refine ah H O λh H Y=>have e7:=Y.1;have e8:=Y.2.1;have e9:=Y.2.2;Rq O (by simp) ?_;refine ah H O λh H Y=>have Ot:=Y.1;have Uk:=Y.2.1;have Pf:=Y.2.2;ae O call188 (ln H.at_.2 H.at_.1 zf (by omega)) ?_;rintro v h3 ⟨⟨k3,n3,t3⟩,m3,rfl,g3⟩;replace H:=H.aA k3 g3;refine ah H O λh H Y=>have Ul:=Y.1;have Um:=Y.2.1;have Pg:=Y.2.2;cX O ?_;refine ah H O λh H Y=>have Un:=Y.1;have Uo:=Y.2.1;have Ph:=Y.2.2;aj O (λ_=>?_) (λhq=>by cases hq);refine ah H O λh H Y=>have e19:=Y.1;have e20:=Y.2.1;have Se:=Y.2.2;ug O (by simp;omega) ?_;refine ah H O λh H Y=>have e22:=Y.1;have e23:=Y.2.1;have Vt:=Y.2.2;kV (ag.Sb (l:=n) (c:=64) O O O O O O O O O O hn (show(1+1)*64<=140737488355328 by omega)) O ?_;have gN:(h.push (.row 64 (List.replicate 64 (.int .u8 0)))).get h.n=some (.row 64 (List.replicate 64 (.int .u8 0))):=by simp[AH.push]
  have p1:(h.push (.row 64 (List.replicate 64 (.int .u8 0)))).n=h0.n+1:=by simp only[AH.push];omega
  have p2:(h.push (.row 64 (List.replicate 64 (.int .u8 0)))).nt=h0.nt:=by simp only[AH.push];omega
  have p3:(h.push (.row 64 (List.replicate 64 (.int .u8 0)))).bV=h0.bV:=by simp only[AH.push];rw[Vt,Se,Ph,Pg,t3,Pf,e9,e6,t2,e3]
  replace H:=H.xJ (x:= .row 64 (List.replicate 64 (.int .u8 0)));rw[show h.n=h0.n by omega]at gN|-;generalize h.push (.row 64 (List.replicate 64 (.int .u8 0)))=h at*;refine dZ H O λh7 H7 ⟨f7,f8,f9⟩ k7=>?_;have g7:=(k7.get h0.n (by omega) (by simp;omega)).trans gN;exact ab [] H7 O ⟨⟨H7.kp,by omega,by rw[f9,p3]⟩,by omega,O,64,true,64,List.replicate 64 (.int .u8 0),by rw[Nat.zero_add];exact H7.at_.1,g7,O,by simp;omega,by omega,by simp⟩
 .have rn:r≠b:=λe=>by rw[e,hg]at rm;cases rm
  refine ae O call205 (xK (l:=l) H.at_.2 H.at_.1 (.inr ⟨_,_,_,O⟩) (by omega)) ?_;rintro v h2 ⟨⟨k2,n2,t2⟩,m2,rfl,g2⟩;replace H:=H.aA k2 g2;refine ah H O λh H Y=>have e4:=Y.1;have e5:=Y.2.1;have e6:=Y.2.2;aj O (λXx=>?_) λXx=>?_
  .refine ah H O λh H Y=>have e7:=Y.1;have e8:=Y.2.1;have e9:=Y.2.2;Rq O (by simp) ?_;refine ah H O λh H Y=>have Ot:=Y.1;have Uk:=Y.2.1;have Pf:=Y.2.2;ae O call188 (kG H.at_.2 H.at_.1 wi (by omega) (by omega)) ?_;rintro v h3 ⟨⟨k3,n3,t3⟩,m3,⟨gf,_⟩|⟨_,rfl,g3⟩⟩
   .exact absurd gf kZ
   replace H:=H.aA k3 g3;refine ah H O λh H Y=>have Ul:=Y.1;have Um:=Y.2.1;have Pg:=Y.2.2;cX O ?_;refine ah H O λh H Y=>have Un:=Y.1;have Uo:=Y.2.1;have Ph:=Y.2.2;aj O (λhq=>by cases hq) (λ_=>?_);refine ah H O λh H Y=>have e19:=Y.1;have e20:=Y.2.1;have Se:=Y.2.2;cX O ?_;refine ah H O λh H Y=>have e22:=Y.1;have e23:=Y.2.1;have Vt:=Y.2.2;af O (λVu=>?_) λVu=>?_
   .exfalso;have:=of_decide_eq_true Vu;rw[Int.tdiv_eq_ediv_of_nonneg (by omega),wrap_i64 (n:=(c:Int)/2) (by omega) (by omega),wrap_i64 (by omega) (by omega)]at this;omega
   refine ah H O λh H Y=>have e25:=Y.1;have e26:=Y.2.1;have Yk:=Y.2.2;af O (λVv=>?_) λVv=>?_
   .exfalso;have:=of_decide_eq_true Vv;rw[wrap_i64 (n:=9223372036854775807 -(c:Int)) (by omega) (by omega),wrap_i64 (by omega) (by omega)]at this;omega
   refine ah H O λh H Y=>?_;have e28:=Y.1;have e29:=Y.2.1;have Yl:=Y.2.2;have gr:h.get r=some (.row cap cs):=(H.kp.get r hr (by simpa using rn)).trans rm;refine bp (ag.gA O O O O O (eY O (by omega)) lS (Nat.zero_le _) wi (.inr O)) O ?_;simp only[Int.toNat_zero,Nat.add_zero,Nat.sub_zero];refine dZ H O λh4 H4 ⟨f1,f2,f3⟩ k4=>?_;have Ym:h4.get r=some (.row cap cs):=(k4.get r (by have:=H.kp.n;omega) (by simpa using rn)).trans gr;have G:=rO (n:=n) (x:= .sl r 0 l c true) (l:=l) (c:=c) (es:=cs.take l) (.inr ⟨r,cap,cs,O,by have:=H4.kp.n;omega,Ym,hl,O,wi⟩) zf hc (by omega);have en:(n:Int)=IntKind.i64.wrap (0+(n:Int)):=by rw[wrap_i64 (by omega) (by omega)];omega
   rw[en]at G;refine jJ O call207 G ?_;rintro v h5 ⟨⟨k5,n5,t5⟩,m5,C,Vw,rfl,Yn,hC2,g5,uM,xM⟩;have H5:=H4.same k5;refine dZ H5 O λh6 H6 ⟨f4,f5,f6⟩ k6=>ba (ag.gA O O O O O O (eY O (by rw[wrap_i64 (by omega) (by omega)];omega)) (Nat.zero_le _) (by rw[wrap_i64 (by omega) (by omega)];omega) (.inr O)) O ?_;have ek:(IntKind.i64.wrap ((l:Int)+n)).toNat=l+n:=by rw[wrap_i64 (by omega) (by omega)];omega
   rw[ek];refine dZ H6 O λh7 H7 ⟨f7,f8,f9⟩ k7=>?_;have hN:h4.n=h0.n:=by omega
   have jR:¬ h4.n=b:=by omega
   have g7:h7.get h4.n=some (.row C Vw):=((k7.get h4.n (by omega) (by simpa using jR)).trans (k6.get h4.n (by omega) (by simpa using jR))).trans g5;rw[hN]at g7;have fU:=H7.at_.1;rw[hN]at fU;simp only[Nat.add_zero,Nat.sub_zero,Nat.zero_add]at fU;exact ab [] H7 O ⟨⟨H7.kp,by omega,by rw[f9,f6,t5,f3,Yl,Yk,Vt,Se,Ph,Pg,t3,Pf,e9,e6,t2,e3]⟩,by omega,O,C,false,C,Vw,fU,g7,xM,by omega,Yn,by omega⟩
  .refine ah H O λh H Y=>have e7:=Y.1;have e8:=Y.2.1;have e9:=Y.2.2;cX O ?_;refine ah H O λh H Y=>have Ot:=Y.1;have Uk:=Y.2.1;have Pf:=Y.2.2;ae O call188 (kG H.at_.2 H.at_.1 wi (by omega) (by omega)) ?_;rintro v h3 ⟨⟨k3,n3,t3⟩,m3,⟨gf,_⟩|⟨_,rfl,g3⟩⟩
   .exact absurd gf kZ
   replace H:=H.aA k3 g3;refine ah H O λh H Y=>have Ul:=Y.1;have Um:=Y.2.1;have Pg:=Y.2.2;cX O ?_;refine ah H O λh H Y=>have Un:=Y.1;have Uo:=Y.2.1;have Ph:=Y.2.2;aj O (λhq=>by cases hq) (λ_=>?_);refine ah H O λh H Y=>have e19:=Y.1;have e20:=Y.2.1;have Se:=Y.2.2;cX O ?_;refine ah H O λh H Y=>have e22:=Y.1;have e23:=Y.2.1;have Vt:=Y.2.2;af O (λVu=>?_) λVu=>?_
   .exfalso;have:=of_decide_eq_true Vu;rw[Int.tdiv_eq_ediv_of_nonneg (by omega),wrap_i64 (n:=(c:Int)/2) (by omega) (by omega),wrap_i64 (by omega) (by omega)]at this;omega
   refine ah H O λh H Y=>have e25:=Y.1;have e26:=Y.2.1;have Yk:=Y.2.2;af O (λVv=>?_) λVv=>?_
   .exfalso;have:=of_decide_eq_true Vv;rw[wrap_i64 (n:=9223372036854775807 -(c:Int)) (by omega) (by omega),wrap_i64 (by omega) (by omega)]at this;omega
   refine ah H O λh H Y=>?_;have e28:=Y.1;have e29:=Y.2.1;have Yl:=Y.2.2;have gr:h.get r=some (.row cap cs):=(H.kp.get r hr (by simpa using rn)).trans rm;refine bp (ag.gA O O O O O (eY O (by omega)) lS (Nat.zero_le _) wi (.inr O)) O ?_;simp only[Int.toNat_zero,Nat.add_zero,Nat.sub_zero];refine dZ H O λh4 H4 ⟨f1,f2,f3⟩ k4=>?_;have Ym:h4.get r=some (.row cap cs):=(k4.get r (by have:=H.kp.n;omega) (by simpa using rn)).trans gr;have G:=rO (n:=n) (x:= .sl r 0 l c true) (l:=l) (c:=c) (es:=cs.take l) (.inr ⟨r,cap,cs,O,by have:=H4.kp.n;omega,Ym,hl,O,wi⟩) zf hc (by omega);have en:(n:Int)=IntKind.i64.wrap (0+(n:Int)):=by rw[wrap_i64 (by omega) (by omega)];omega
   rw[en]at G;refine jJ O call207 G ?_;rintro v h5 ⟨⟨k5,n5,t5⟩,m5,C,Vw,rfl,Yn,hC2,g5,uM,xM⟩;have H5:=H4.same k5;refine dZ H5 O λh6 H6 ⟨f4,f5,f6⟩ k6=>ba (ag.gA O O O O O O (eY O (by rw[wrap_i64 (by omega) (by omega)];omega)) (Nat.zero_le _) (by rw[wrap_i64 (by omega) (by omega)];omega) (.inr O)) O ?_;have ek:(IntKind.i64.wrap ((l:Int)+n)).toNat=l+n:=by rw[wrap_i64 (by omega) (by omega)];omega
   rw[ek];refine dZ H6 O λh7 H7 ⟨f7,f8,f9⟩ k7=>?_;have hN:h4.n=h0.n:=by omega
   have jR:¬ h4.n=b:=by omega
   have g7:h7.get h4.n=some (.row C Vw):=((k7.get h4.n (by omega) (by simpa using jR)).trans (k6.get h4.n (by omega) (by simpa using jR))).trans g5;rw[hN]at g7;have fU:=H7.at_.1;rw[hN]at fU;simp only[Nat.add_zero,Nat.sub_zero,Nat.zero_add]at fU;exact ab [] H7 O ⟨⟨H7.kp,by omega,by rw[f9,f6,t5,f3,Yl,Yk,Vt,Se,Ph,Pg,t3,Pf,e9,e6,t2,e3]⟩,by omega,O,C,false,C,Vw,fU,g7,xM,by omega,Yn,by omega⟩
def zG (h:AH) (b:Nat) (ro:Option Nat) (c:Nat) (es:List AV) (lr:Int):Prop:=b <h.n/\((ro=none/\c=0/\es=[]/\h.get b=some (.cells (gg .ao lr)))\/∃r,ro=some r/\r <h.n/\h.get b=some (.cells (gg (.sl r 0 es.length c true) lr))/\h.get r=some (.row c es)/\es.length<=c)
def xN (h0:AH) (b:Nat) (ro:Option Nat) (h:AH) (es:List AV):Prop:=Bx (b::ro.toList) h0 h/\∃N C ex cap cs,h.get b=some (.cells (gg (.sl N 0 es.length C ex) 0))/\h.get N=some (.row cap cs)/\cs.take es.length=es/\es.length<=cs.length/\es.length<=C/\((ro=some N/\h.n=h0.n)\/(N=h0.n/\h.n=h0.n+1))/\∀r,ro=some r->∃cap cs,h.get r=some (.row cap cs)
theorem pV {h0:AH} {b c:Nat} {ro:Option Nat} {es:List AV} {lr:Int} (B:zG h0 b ro c es lr) (ch:Int) (hl:es.length<=1099511627776) (hc:c <9223372036854775808):
 al prog 168 [.ptr b 0,.int .u8 ch] h0 (λv h'=>v= .bu/\xN h0 b ro h' (es++[.int .u8 ch])):=by
 obtain⟨hb,B⟩:=B;refine az (n:=26) (rs:=[.tmp 4]) [] ⟨func168,O,O,O⟩ O ?_;rcases B with⟨rfl,rfl,rfl,hg⟩|⟨r,rfl,hr,hg,rm,wi⟩
 .have H:=HI.one hg hb
  refine ah H O λh H Y=>have e1:=Y.1;have e2:=Y.2.1;have e3:=Y.2.2;ae O call188 (ln (k:=1) H.at_.2 H.at_.1 (by omega) (by omega)) ?_;rintro v h2 ⟨⟨k2,n2,t2⟩,m2,rfl,g2⟩;replace H:=H.aA k2 g2;refine ah H O λh H Y=>have e4:=Y.1;have e5:=Y.2.1;have e6:=Y.2.2;jI O ?_;refine ah H O λh H Y=>?_;have e7:=Y.1;have e8:=Y.2.1;have e9:=Y.2.2;have G:=nQ (n:=1) (l:=0) (c:=0) (es:=[]) H.at_.2 H.at_.1 (.inl ⟨O,O,O,O⟩) (by omega) (by omega) (by omega) (by omega);refine ae O call189 G ?_;rintro v h3 ⟨⟨k3,n3,t3⟩,m3,rfl,C,ex,cap,cs,g3,g4,uM,xM,hC,Mk⟩;replace H:=H.aA k3 g3;have hN:h.n=h0.n:=by omega
  rw[hN]at g3 g4 H;have jR:¬ h0.n=b:=by omega
  refine dZ H O λh4 H4 ⟨f1,f2,f3⟩ k4=>?_;have g5:=(k4.get h0.n (by omega) (by simpa using jR)).trans g4;refine ba (ag.iZ O O O O O O (by omega) (by omega)) O ?_;simp only[Nat.zero_add,Int.toNat_natCast];refine Bl (ag.B6 (ds:=[.int .u8 ch]) O O O O O O O g5 (by omega) (by simp;omega)) O ?_;have g6:(h4.set h0.n (.row cap (cs.take 0++[AV.int .u8 ch]++cs.drop (0+[AV.int .u8 ch].length)))).get h0.n=some (.row cap (cs.take 0++[AV.int .u8 ch]++cs.drop (0+[AV.int .u8 ch].length))):=by simp[AH.set]
  have H5:=(H4.more (jQ:=[b]) (by simp)).zF (o:=h0.n) (x:= .row cap (cs.take 0++[AV.int .u8 ch]++cs.drop (0+[AV.int .u8 ch].length))) (by simp;omega) (.inl (Nat.le_refl _));have p1:(h4.set h0.n (.row cap (cs.take 0++[AV.int .u8 ch]++cs.drop (0+[AV.int .u8 ch].length)))).n=h0.n+1:=by simp only[AH.set];omega
  have p2:(h4.set h0.n (.row cap (cs.take 0++[AV.int .u8 ch]++cs.drop (0+[AV.int .u8 ch].length)))).nt=h0.nt:=by simp only[AH.set];omega
  have p3:(h4.set h0.n (.row cap (cs.take 0++[AV.int .u8 ch]++cs.drop (0+[AV.int .u8 ch].length)))).bV=h0.bV:=by simp only[AH.set];rw[f3,t3,e9,e6,t2,e3]
  generalize h4.set h0.n (.row cap (cs.take 0++[AV.int .u8 ch]++cs.drop (0+[AV.int .u8 ch].length)))=h5 at*;refine dZ H5 O λh7 H7 ⟨f7,f8,f9⟩ k7=>?_;have g7:=(k7.get h0.n (by omega) (by simpa using jR)).trans g6;refine ab [] H7 O ⟨O,⟨H7.kp,by omega,by rw[f9,p3]⟩,h0.n,C,ex,cap,_,?_,g7,?_,by simp,by simp;omega,.inr ⟨O,by omega⟩,λr' e=>by cases e⟩
  .simpa using H7.at_.1
  .rw[uM,List.take_append_of_le_length (by simp),List.take_of_length_le (by simp)]
 .have rn:r≠b:=λe=>by rw[e,hg]at rm;cases rm
  have H:=HI.one hg hb
  refine ah H O λh H Y=>?_;have e1:=Y.1;have e2:=Y.2.1;have e3:=Y.2.2;have gr:h.get r=some (.row c es):=(H.kp.get r hr (by simpa using rn)).trans rm;have T:=kG (k:=1) H.at_.2 H.at_.1 wi hc (by omega);refine ae O call188 T ?_;rintro v h2 ⟨⟨k2,n2,t2⟩,m2,⟨gf,rfl,g2⟩|⟨kZ,rfl,g2⟩⟩
  .replace H:=H.aA k2 g2;refine ah H O λh H Y=>have e4:=Y.1;have e5:=Y.2.1;have e6:=Y.2.2;cX O ?_;refine ah H O λh H Y=>?_;have e7:=Y.1;have e8:=Y.2.1;have e9:=Y.2.2;have FG:h.get r=some (.row c es):=(H.kp.get r hr (by simpa using rn)).trans rm;refine ba (ag.iZ O O O O O O (by omega) (by omega)) O ?_;simp only[Nat.zero_add,Int.toNat_natCast];refine Bl (ag.B6 (ds:=[.int .u8 ch]) O O O O O O O FG (Nat.le_refl _) (by omega)) O ?_;have er:es.take es.length++[AV.int .u8 ch]++es.drop (es.length+[AV.int .u8 ch].length)=es++[.int .u8 ch]:=by
    rw[List.take_of_length_le (Nat.le_refl _),List.drop_eq_nil_of_le (by simp),List.append_nil]
   rw[er];have g3:(h.set r (.row c (es++[.int .u8 ch]))).get r=some (.row c (es++[.int .u8 ch])):=by simp[AH.set]
   have H2:HI h0 [b,r] h [(b,gg (.sl r 0 (es.length+1) c true) 0)]:=H.more (by simp);replace H2:=H2.zF (o:=r) (x:= .row c (es++[.int .u8 ch])) (by simp;omega) (.inr (by simp));have p1:(h.set r (.row c (es++[.int .u8 ch]))).n=h0.n:=by simp only[AH.set];omega
   have p2:(h.set r (.row c (es++[.int .u8 ch]))).nt=h0.nt:=by simp only[AH.set];omega
   have p3:(h.set r (.row c (es++[.int .u8 ch]))).bV=h0.bV:=by simp only[AH.set];rw[e9,e6,t2,e3]
   generalize h.set r (.row c (es++[.int .u8 ch]))=h at*;refine dZ H2 O λh7 H7 ⟨f7,f8,f9⟩ k7=>?_;have g7:=(k7.get r (by omega) (by simpa using rn)).trans g3;refine ab [] H7 O ⟨O,⟨H7.kp,by omega,by rw[f9,p3]⟩,r,c,true,c,es++[.int .u8 ch],?_,g7,by rw[List.take_of_length_le (Nat.le_refl _)],Nat.le_refl _,by simp;omega,.inl ⟨O,by omega⟩,λr' e=>by injection e with e;subst e;exact⟨_,_,g7⟩⟩;simpa using H7.at_.1
  .replace H:=H.aA k2 g2;refine ah H O λh H Y=>have e4:=Y.1;have e5:=Y.2.1;have e6:=Y.2.2;jI O ?_;refine ah H O λh H Y=>?_;have e7:=Y.1;have e8:=Y.2.1;have e9:=Y.2.2;have FG:h.get r=some (.row c es):=(H.kp.get r hr (by simpa using rn)).trans rm;have G:=nQ (n:=1) (l:=es.length) (c:=c) (es:=es) H.at_.2 H.at_.1 (.inr ⟨r,c,es,O,by omega,FG,Nat.le_refl _,List.take_of_length_le (Nat.le_refl _),wi⟩) (by omega) (by omega) (by omega) kZ;refine ae O call189 G ?_;rintro v h3 ⟨⟨k3,n3,t3⟩,m3,rfl,C,ex,cap,cs,g3,g4,uM,xM,hC,Mk⟩;have Vx:=(k3.get r (by omega) (by simpa using rn)).trans FG;replace H:=H.aA k3 g3;have hN:h.n=h0.n:=by omega
   rw[hN]at g3 g4 H;have jR:¬ h0.n=b:=by omega
   refine dZ H O λh4 H4 ⟨f1,f2,f3⟩ k4=>?_;have g5:=(k4.get h0.n (by omega) (by simpa using jR)).trans g4;refine ba (ag.iZ O O O O O O (by omega) (by omega)) O ?_;simp only[Nat.zero_add,Int.toNat_natCast];refine Bl (ag.B6 (ds:=[.int .u8 ch]) O O O O O O O g5 (by omega) (by simp;omega)) O ?_;have gr4:=(k4.get r (by omega) (by simpa using rn)).trans Vx;have gr5:(h4.set h0.n (.row cap (cs.take es.length++[AV.int .u8 ch]++cs.drop (es.length+[AV.int .u8 ch].length)))).get r=some (.row c es):=by simp only[AH.set];rw[if_neg (by omega)];exact gr4
   have g6:(h4.set h0.n (.row cap (cs.take es.length++[AV.int .u8 ch]++cs.drop (es.length+[AV.int .u8 ch].length)))).get h0.n=some (.row cap (cs.take es.length++[AV.int .u8 ch]++cs.drop (es.length+[AV.int .u8 ch].length))):=by simp[AH.set]
   have H5:=(H4.more (jQ:=[b,r]) (by simp)).zF (o:=h0.n) (x:= .row cap (cs.take es.length++[AV.int .u8 ch]++cs.drop (es.length+[AV.int .u8 ch].length))) (by simp;omega) (.inl (Nat.le_refl _));have p1:(h4.set h0.n (.row cap (cs.take es.length++[AV.int .u8 ch]++cs.drop (es.length+[AV.int .u8 ch].length)))).n=h0.n+1:=by simp only[AH.set];omega
   have p2:(h4.set h0.n (.row cap (cs.take es.length++[AV.int .u8 ch]++cs.drop (es.length+[AV.int .u8 ch].length)))).nt=h0.nt:=by simp only[AH.set];omega
   have p3:(h4.set h0.n (.row cap (cs.take es.length++[AV.int .u8 ch]++cs.drop (es.length+[AV.int .u8 ch].length)))).bV=h0.bV:=by simp only[AH.set];rw[f3,t3,e9,e6,t2,e3]
   generalize h4.set h0.n (.row cap (cs.take es.length++[AV.int .u8 ch]++cs.drop (es.length+[AV.int .u8 ch].length)))=h5 at*;refine dZ H5 O λh7 H7 ⟨f7,f8,f9⟩ k7=>?_;have g7:=(k7.get h0.n (by omega) (by simpa using jR)).trans g6;have gr7:=(k7.get r (by omega) (by simpa using rn)).trans gr5;refine ab [] H7 O ⟨O,⟨H7.kp,by omega,by rw[f9,p3]⟩,h0.n,C,ex,cap,_,?_,g7,?_,by simp;omega,by simp;omega,.inr ⟨O,by omega⟩,λr' e=>by injection e with e;subst e;exact⟨_,_,gr7⟩⟩
   .simpa using H7.at_.1
   .rw[uM,List.take_append_of_le_length (by simp),List.take_of_length_le (by simp)]
end
def rp (h:AH) (b:Nat) (ro:Option Nat) (es:List AV):Prop:=b <h.n/\((ro=none/\es=[]/\h.get b=some (.cells (gg .ao 0)))\/∃r,ro=some r/\r <h.n/\h.get b=some (.cells (gg (.sl r 0 es.length es.length false) 0))/\h.get r=some (.row es.length es))
def AH.uN (h:AH) (b:Nat) (ro:Option Nat) (es:List AV):AH:={h with n:=h.n+2,get:=λo=>if o=b then some (.cells (gg (.sl (h.n+1) 0 es.length es.length false) 0))else if o=h.n+1 then some (.row es.length es)else if o=h.n\/ro=some o then some .gone else h.get o}
theorem rp.next {h:AH} {b:Nat} {ro:Option Nat} {es cA:List AV} (B:rp h b ro es):rp (h.uN b ro cA) b (some (h.n+1)) cA:=by
 have hb:=B.1
 refine⟨by simp only[AH.uN];omega,.inr ⟨h.n+1,O,by simp only[AH.uN];omega,by simp[AH.uN],?_⟩⟩;simp only[AH.uN];rw[if_neg (by omega)];simp
theorem rp.see {g:Gh} {w:World} {h:AH} {b:Nat} {ro:Option Nat} {es:List AV} (R:Rel g w h) (B:rp h b ro es):∃c hc,c <9223372036854775808/\zG hc b ro c es 0/\Rel g w hc/\hc.n=h.n/\hc.nt=h.nt/\hc.bV=h.bV/\hc.aV=h.aV/\∀o,o≠b->ro≠some o->hc.get o=h.get o:=by
 obtain⟨hb,⟨rfl,rfl,hg⟩|⟨r,rfl,hr,hg,rm⟩⟩:=B
 .exact⟨0,h,by omega,⟨hb,.inl ⟨O,O,O,hg⟩⟩,R,O,O,O,O,λ_ _ _=>rfl⟩
 .have rn:r≠b:=λe=>by rw[e,hg]at rm;cases rm
  obtain⟨bk,W9,vs,T,hw,hv⟩:=R.obj _ _ hg;obtain⟨rk,Yo,qC,T',fz,Pj,hf,hz,Xa⟩:=R.obj _ _ rm;have v0:=hv.1.2 0 (by simp);simp only[List.getElem_cons_zero]at v0;generalize hq:vs.getD 0 undef=q at v0
  cases v0 with
  |sl _ _ _ _ _ rk' rc ej hs hn xb hex dY=>
   rw[Yo]at ej;injection ej with ej
   subst ej;obtain⟨c0,T0,Yi,q1,q2⟩:=hs;rw[Pj]at q1;injection q1 with q1
   injection q1 with q1 q3 q4
   subst q1 q3 q4;have R1:=R.said (o:=b) (x:= .cells (gg (.sl r 0 es.length es.length false) 0)) (y:= .cells (gg (.sl r 0 es.length rc true) 0)) hg (by simp) λb' dk ho=>by
    rw[W9]at dk;injection dk with dk
    subst dk;refine⟨vs,T,hw,⟨hv.1.1,λi hi=>?_⟩,hv.2⟩
    match i,hi with
    |0,_=>
     show VR g w (.sl r 0 es.length rc true) (vs.getD 0 undef)
     rw[hq];exact .sl _ _ _ _ _ rk rc Yo ⟨qC,T',fz,Pj,q2⟩ xb (Nat.le_refl _) (λ_=>rfl) dY
    |1,_=>exact hv.1.2 1 (by simp)
    |2,_=>exact hv.1.2 2 (by simp)
   have R2:=R1.said (o:=r) (x:= .row es.length es) (y:= .row rc es) (by simp only[AH.set];rw[if_neg rn];exact rm) (by simp) λb' dk ho=>by
    rw[Yo]at dk;injection dk with dk
    subst dk;exact⟨qC,T',fz,Pj,hf,⟨xb,by omega⟩,Xa⟩
   refine⟨rc,(h.set b (.cells (gg (.sl r 0 es.length rc true) 0))).set r (.row rc es),by omega,⟨hb,.inr ⟨r,O,hr,?_,?_,xb⟩⟩,R2,O,O,O,O,λo h1 h2=>?_⟩
   .simp only[AH.set];rw[if_neg (Ne.symm rn)];simp
   .simp[AH.set]
   .simp only[AH.set];rw[if_neg (λe=>h2 (by rw[e])),if_neg h1]
theorem Rel.none {g:Gh} {w:World} {h:AH} (R:Rel g w h) {o:Nat} (ho:h.n<=o):h.get o=none:=by cases e:h.get o with|none=>rfl|some x=>obtain⟨b,hb,_⟩:=R.obj o x e;have:=R.Ag o b hb;omega
theorem rp.write {f:FuncId} {args:List AV} {v:AV} {h:AH} {b:Nat} {ro:Option Nat} {es cA:List AV} (B:rp h b ro es)
 (X:∀c hc,c <9223372036854775808->zG hc b ro c es 0->al prog f args hc λv' h'=>v'=v/\xN hc b ro h' cA):aP prog f args h v (h.uN b ro cA):=by
 intro g w vs R nC;obtain⟨c,hc,Pk,BX,Rc,n1,nt1,Yp,Yq,Yr⟩:=B.see R;obtain⟨v',h2,⟨rfl,⟨kp,nt2,Ys⟩,N,C,ex,cap,cs,g1,g2,t1,t2,t3,hN,gO⟩,r⟩:=X c hc Pk BX;refine Calls.mono (r g w vs Rc nC) ?_;rintro e w' ⟨u,g',rfl,E,R',V⟩;have hb:=B.1;have Gv:N≠b:=λe=>by rw[e,g1]at g2;cases g2
 have hN2:N <h2.n:=by
  rcases Nat.lt_or_ge N h2.n with q|q
  .exact q
  .rw[R'.none q]at g2
   cases g2
 obtain⟨bk,W9,vs1,T1,nv,Up⟩:=R'.obj _ _ g1;have R1:=R'.said (o:=N) (x:= .row cap cs) (y:= .row cA.length cA) g2 (by simp) λb' dk ho=>by
  obtain⟨a1,a2,a3,a4,a5,a6,a7⟩:=ho;refine⟨a1,a2,a3,a4,a5,⟨Nat.le_refl _,by omega⟩,λi hi=>?_⟩;have q:=a7 i (by omega);have e1:cs[i]'(by omega)=cA[i]:=by
   have:=congrArg (λl=>l[i]?) t1
   simp only[List.getElem?_take,if_pos hi,List.getElem?_eq_getElem hi,List.getElem?_eq_getElem (show i <cs.length by omega)]at this;injection this
  rwa [e1]at q
 have gb1:(h2.set N (.row cA.length cA)).get b=some (.cells (gg (.sl N 0 cA.length C ex) 0)):=by simp only[AH.set];rw[if_neg (Ne.symm Gv)];exact g1
 have R2:=R1.said (o:=b) (x:= .cells (gg (.sl N 0 cA.length C ex) 0)) (y:= .cells (gg (.sl N 0 cA.length cA.length false) 0)) gb1 (by simp) λb' dk ho=>by
  obtain⟨Sf,T2,w2,hv⟩:=ho;refine⟨Sf,T2,w2,⟨hv.1.1,λi hi=>?_⟩,hv.2⟩
  match i,hi with
  |0,_=>
   have v0:=hv.1.2 0 (by simp)
   simp only[List.getElem_cons_zero]at v0;show VR g' w' (.sl N 0 cA.length cA.length false) (Sf.getD 0 undef);generalize Sf.getD 0 undef=q at v0
   cases v0 with|sl _ _ _ _ _ rk rc ej hs hn xb hex dY=>exact .sl _ _ _ _ _ rk rc ej hs (Nat.le_refl _) (by omega) (λe=>by cases e) dY
  |1,_=>exact hv.1.2 1 (by simp)
  |2,_=>exact hv.1.2 2 (by simp)
 have Xb:((h2.set N (.row cA.length cA)).set b (.cells (gg (.sl N 0 cA.length cA.length false) 0))).get N=some (.row cA.length cA):=by simp only[AH.set];rw[if_neg Gv];simp
 obtain⟨bN,Pm,_⟩:=R2.obj _ _ Xb;have Pn:((h2.set N (.row cA.length cA)).set b (.cells (gg (.sl N 0 cA.length cA.length false) 0))).n=h2.n:=rfl;have hh2:h2.n<=h.n+1:=by rcases hN with⟨_,q⟩|⟨_,q⟩<;>omega
 have Sg:∀r,ro=some r->r <h.n/\r≠b:=λr e=>by
  rcases B.2 with⟨q,_⟩|⟨r',q,q1,q2,q3⟩
  .rw[q]at e
   cases e
  .rw[q]at e;injection e with e
   subst e;exact⟨q1,λe=>by rw[e,q2]at q3;cases q3⟩
 obtain⟨E4,R4⟩:=R2.rename (ro:=N) (N:=h.n+1) (b:=bN) (cap:=cA.length) (cs:=cA) (D:=λo=>Nat.beq o h.n||(ro==some o)) Xb Pm (by rw[Pn];exact hh2) (λo q1 q2=>by
  rw[Pn]at q1;have:o=h.n:=by rcases hN with⟨_,q⟩|⟨_,q⟩<;>omega
  subst this;simp[Nat.beq_refl])
  (by rcases hN with⟨q,_⟩|⟨q,_⟩
      .simp[q]
      .rw[q,n1];simp[Nat.beq_refl])
  (λo hd ho=>by
   rw[Pn]at ho;simp only[Bool.or_eq_true,beq_iff_eq]at hd;rcases hd with hd|hd
   .have:=Nat.eq_of_beq_eq_true hd
    subst this;rcases hN with⟨_,q⟩|⟨q,_⟩
    .omega
    .exact⟨cA.length,cA,by rw[<-n1,<-q];exact Xb⟩
   .obtain⟨Jy,Xc,q⟩:=gO o hd
    by_cases e:o=N
    .subst e;exact⟨_,_,Xb⟩
    .exact⟨Jy,Xc,by simp only[AH.set];rw[if_neg (Sg o hd).2,if_neg e];exact q⟩)
  (λo hd=>by
   simp only[Bool.or_eq_true,beq_iff_eq]at hd;rcases hd with hd|hd
   .have:=Nat.eq_of_beq_eq_true hd
    omega
   .have:=(Sg o hd).1;omega)
 have gb4:((((h2.set N (.row cA.length cA)).set b (.cells (gg (.sl N 0 cA.length cA.length false) 0))).rename (h.n+1) (.row cA.length cA) λo=>Nat.beq o h.n||(ro==some o)).get b)=some (.cells (gg (.sl N 0 cA.length cA.length false) 0)):=by
  have hD:(Nat.beq b h.n||(ro==some b))=false:=by
   rw[Bool.or_eq_false_iff];refine⟨beq_false_of_ne (by omega),?_⟩
   cases hr:(ro==some b)with|false=>rfl|true=>exact absurd O (Sg b (by simpa using hr)).2
  simp only[AH.rename,AH.set];rw[if_neg (by omega),if_neg (by rw[hD];simp)];simp
 have gNb:∀rk,(g'.names ((h2.set N (.row cA.length cA)).set b (.cells (gg (.sl N 0 cA.length cA.length false) 0))).n (h.n+1) bN).ob N=some rk->rk=bN:=λrk e=>by
  simp only[Gh.names]at e;rw[if_neg (by rw[Pn];omega),Pm]at e;injection e with e
  exact e.symm
 have Yt:(g'.names ((h2.set N (.row cA.length cA)).set b (.cells (gg (.sl N 0 cA.length cA.length false) 0))).n (h.n+1) bN).ob (h.n+1)=some bN:=by simp only[Gh.names];rw[if_pos (by rw[Pn];omega)]
 have R5:=R4.said (o:=b) (y:= .cells (gg (.sl (h.n+1) 0 cA.length cA.length false) 0)) gb4 (by simp) λb' dk ho=>by
  obtain⟨Sf,T2,w2,hv⟩:=ho;refine⟨Sf,T2,w2,⟨hv.1.1,λi hi=>?_⟩,hv.2⟩
  match i,hi with
  |0,_=>
   have v0:=hv.1.2 0 (by simp)
   simp only[List.getElem_cons_zero]at v0;show VR _ w' (.sl (h.n+1) 0 cA.length cA.length false) (Sf.getD 0 undef);generalize Sf.getD 0 undef=q at v0
   cases v0 with
   |sl _ _ _ _ _ rk rc ej hs hn xb hex dY=>
    have:=gNb rk ej
    subst this;exact .sl _ _ _ _ _ rk rc Yt hs (Nat.le_refl _) (by omega) (λe=>by cases e) dY
  |1,_=>exact hv.1.2 1 (by simp)
  |2,_=>exact hv.1.2 2 (by simp)
 have hh:(((h2.set N (.row cA.length cA)).set b (.cells (gg (.sl N 0 cA.length cA.length false) 0))).rename (h.n+1) (.row cA.length cA) λo=>Nat.beq o h.n||(ro==some o)).set b (.cells (gg (.sl (h.n+1) 0 cA.length cA.length false) 0))=h.uN b ro cA:=by
  refine AH.ext O (λo=>?_) (by show h2.nt=h.nt;rw[nt2,nt1]) (by show h2.bV=h.bV;rw[Ys,Yp]) (by show h2.aV=h.aV;rw[kp.aV,Yq]);simp only[AH.set,AH.rename,AH.uN]
  by_cases q1:o=b
  .simp only[if_pos q1]
  simp only[if_neg q1]
  by_cases q2:o=h.n+1
  .simp only[if_pos q2]
  simp only[if_neg q2]
  by_cases q3:o=h.n\/ro=some o
  .rw[if_pos q3,if_pos (by rw[Bool.or_eq_true];rcases q3 with q|q;exact .inl (by rw[q];exact Nat.beq_refl _);exact .inr (by rw[q];simp))]
  have q4:o≠h.n:=λe=>q3 (.inl e)
  have q5:ro≠some o:=λe=>q3 (.inr e)
  rw[if_neg q3,if_neg (by rw[Bool.or_eq_true];rintro(q|q);exact q4 (Nat.eq_of_beq_eq_true q);exact q5 (by simpa using q))];have q6:o≠N:=λe=>by
   rcases hN with⟨q,_⟩|⟨q,_⟩
   .exact q5 (by rw[e];exact q)
   .exact q4 (by rw[e,q,n1])
  rw[if_neg q6];rcases Nat.lt_or_ge o h.n with q|q
  .rw[<-Yr o q1 q5];exact kp.get o (by omega) (by simp[q1];exact q5)
  .rw[R.none q,R'.none (by omega)]
 rw[hh]at R5;exact⟨u,_,O,E.trans E4,R5,V.mono E4.toEvc⟩
section
variable {P:Program} {lt:LT} {h:AH} {fr:ay} {ops:List Oper} {o:Oper}
theorem ag.vA {s x:Operand} {yv:AV} {t:TypeId} {gl ob n c cap:Nat} {y9:Bool} {cs ys:List AV} (ha:cD o.op=some (s,x,t)) (hw:au ops fr o.guard=some true) (hi:cC P t=some (1,gl))
 (es:fr.ev s= .v (.sl ob 0 n c y9)) (ex:fr.ev x= .v yv) (hs:pU h yv=some ys) (hg:h.get ob=some (.row cap cs)) (hn:n<=cs.length) (cv:ys≠[]) (hc:n+ys.length<=c) (dY:n+ys.length<=cap):
 ag P lt ops o fr h (.v (.sl ob 0 (n+ys.length) c y9)) (h.set ob (.row cap (cs.take n++ys++cs.drop (n+ys.length)))):=by
 refine ag.raw hw λg w ρ R hx=>?_;obtain⟨r1,r2,r3⟩:=gM ha ρ;obtain⟨e,i,z,T,rfl⟩:=fC hi;have v1:=hx s r2 _ es;have v2:=hx x r3 _ ex;rw[r1];generalize ρ s=p at v1;generalize ρ x=q at v2
 cases v1 with
 |sl _ _ _ _ _ b rc Lo Ui hnc xb hex Vy=>
  obtain⟨vs,T2,fz,ze,hf,Vz⟩:=om R hg Lo;obtain⟨c0,T0,Yi,q1,q2⟩:=Ui;rw[ze]at q1;injection q1 with q1
  injection q1 with q1 q3 q4
  subst q1 q3 q4;rcases nP R hs v2 with⟨rfl,rfl⟩|⟨ad,VA,us,rfl,u1,u2,u3⟩
  .exact absurd O cv
  have hk0:0 <ys.length:=List.length_pos_iff.2 cv;have gf:n+ys.length<=rc:=by omega
  obtain⟨w',k1,k2,k3,_⟩:=lF (P:=P) (us:=us) (ds:=ys) (off:=n) R hg Lo ze hf Vz u1 u3 hn (by omega);have Yj:=run_firstCells_some (P:=P) w 1 ys.length ad ys.length VA us (by omega) (λj u hj=>u2 j u hj);have gJ:=T.gJ;have sS:(Builtin.append_ #[t,t] o.type #[.slice (some ⟨b,0,none⟩) n rc,.slice (some ad) ys.length VA]).run P w= .ok (.slice (some ⟨b,0,none⟩) (n+ys.length) rc) w':=by simp[Builtin.append_,run_underlying T.ht,sizeOf,typeInfo,T.hi,gJ,Builtin.lenOf,gf,Yj,cL,k1]
  refine⟨.slice (some ⟨b,0,none⟩) (n+ys.length) rc,_,_,by simp only[Sem.run_bind,sS,Result.andThen_ok,Sem.run_pure],k2,k3,?_⟩;obtain⟨c1,p1,p2⟩:=k2.shape b _ _ _ ze;exact .sl _ _ _ _ _ b rc Lo ⟨c1,_,_,p1,by omega⟩ hc xb hex Vy
end
section
variable {P:Program} {lt:LT} {C:Exit->ay->AH->Prop} {h:AH} {fr:ay} {ks:List Kt}
theorem Gw {b z:Code} {e:Exit} (H:kY P lt C (.seq b:: .za:: .seq z::ks) e fr h):kY P lt C (.seq (.seq b z)::ks) e fr h:=by cases e with|normal=>exact AC.seq H|_=>exact H
theorem Ja {a b z:Code} {τ:Type} (n:Nat) (S2:τ->List (Nat×AV)) (I2:τ->AH->Prop)
 (hx:(∀t {h' aB},HQ aB n (S2 t)->I2 t h'->XS P lt C (.ext .normal) (.za:: .seq z::ks) aB h')->XS P lt C (.code a) (.seq b:: .za:: .seq z::ks) fr h)
 (join:∀t h,I2 t h->XS P lt C (.code z) ks ((ay.bare n λ_=>[]).zD (S2 t)) h):XS P lt C (.code (.seq a (.seq b z))) ks fr h:=by
 have J:∀t {h' aB},HQ aB n (S2 t)->I2 t h'->XS P lt C (.ext .normal) (.za:: .seq z::ks) aB h':=λt h aB h1 h4=>AC.se (mu.sl h1) (join t h h4)
 obtain⟨e,jc,h1,k,r⟩:=hx J;exact AC.seq ⟨e,jc,h1,Gw k,r⟩
end
section
attribute [local irreducible] AC AL AW AD aP
def pW (a b:Int):Int:=IntKind.u8.wrap ((BitVec.ofInt 8 a |||BitVec.ofInt 8 b).toNat:Int)
def vB (a b:Int):Int:=IntKind.u8.wrap ((BitVec.ofInt 8 a &&&BitVec.ofInt 8 b).toNat:Int)
theorem wrap_u8 (n:Int):IntKind.u8.wrap n=n% 256:=by simp[IntKind.wrap,IntKind.bits,IntKind.signed]
theorem AA (n:Int):vB (IntKind.u8.wrap n) 63=n% 64:=by
 rw[wrap_u8];have h:∀x:Fin 256,vB (x.val:Int) 63=(x.val:Int)% 64:=by decide
 have:=h ⟨(n% 256).toNat,by omega⟩;simp only[Int.toNat_of_nonneg (Int.emod_nonneg n (by omega:(256:Int)≠0))]at this;rw[this];omega
theorem AB {n:Int} (h0:0<=n) (h1:n <64):pW 128 n=128+n:=by
 have h:∀x:Fin 64,pW 128 (x.val:Int)=128+(x.val:Int):=by decide
 have:=h ⟨n.toNat,by omega⟩
 simpa only[Int.toNat_of_nonneg h0]using this
theorem VB {n:Int} (h0:0<=n) (h1:n <32):pW 192 n=192+n:=by
 have h:∀x:Fin 32,pW 192 (x.val:Int)=192+(x.val:Int):=by decide
 have:=h ⟨n.toNat,by omega⟩
 simpa only[Int.toNat_of_nonneg h0]using this
theorem VC {n:Int} (h0:0<=n) (h1:n <16):pW 224 n=224+n:=by
 have h:∀x:Fin 16,pW 224 (x.val:Int)=224+(x.val:Int):=by decide
 have:=h ⟨n.toNat,by omega⟩
 simpa only[Int.toNat_of_nonneg h0]using this
theorem VD {n:Int} (h0:0<=n) (h1:n <8):pW 240 n=240+n:=by
 have h:∀x:Fin 8,pW 240 (x.val:Int)=240+(x.val:Int):=by decide
 have:=h ⟨n.toNat,by omega⟩
 simpa only[Int.toNat_of_nonneg h0]using this
def cd (l:List Int):List AV:=l.map (.int .u8)
theorem sh {r:Int} (k:Int) (hk:0 <k) (h0:0<=r):r.fdiv k=r/k:=Int.fdiv_eq_ediv_of_nonneg _ (by omega)
theorem Yu {r:Int} (h0:128<=r) (h1:r<=2047):cd (Lib.encodeRuneZ r)=[.int .u8 (pW 192 (IntKind.u8.wrap (r.fdiv 64))),.int .u8 (pW 128 (vB (IntKind.u8.wrap r) 63))]:=by rw[Lib.encodeRuneZ_two h0 h1,sh 64 (by omega) (by omega),wrap_u8,AA,VB (by omega) (by omega),AB (by omega) (by omega)];simp only[cd,List.map_cons,List.map_nil];rw[show r/64% 256=r/64 by omega]
theorem VE {r:Int} (h:(2048<=r/\r <55296)\/(57343 <r/\r<=65535)):cd (Lib.encodeRuneZ r)=[.int .u8 (pW 224 (IntKind.u8.wrap (r.fdiv 4096))),.int .u8 (pW 128 (vB (IntKind.u8.wrap (r.fdiv 64)) 63)),.int .u8 (pW 128 (vB (IntKind.u8.wrap r) 63))]:=by rw[Lib.encodeRuneZ_three h,sh 64 (by omega) (by omega),sh 4096 (by omega) (by omega),wrap_u8,AA,AA,VC (by omega) (by omega),AB (by omega) (by omega),AB (by omega) (by omega)];simp only[cd,List.map_cons,List.map_nil];rw[show r/4096% 256=r/4096 by omega]
theorem Yv {r:Int} (h0:65536<=r) (h1:r<=1114111):cd (Lib.encodeRuneZ r)=[.int .u8 (pW 240 (IntKind.u8.wrap (r.fdiv 262144))),.int .u8 (pW 128 (vB (IntKind.u8.wrap (r.fdiv 4096)) 63)),.int .u8 (pW 128 (vB (IntKind.u8.wrap (r.fdiv 64)) 63)),.int .u8 (pW 128 (vB (IntKind.u8.wrap r) 63))]:=by rw[Lib.encodeRuneZ_four h0 h1,sh 64 (by omega) (by omega),sh 4096 (by omega) (by omega),sh 262144 (by omega) (by omega),wrap_u8,AA,AA,AA,VD (by omega) (by omega),AB (by omega) (by omega),AB (by omega) (by omega),AB (by omega) (by omega)];simp only[cd,List.map_cons,List.map_nil];rw[show r/262144% 256=r/262144 by omega]
section
variable {h0 h:AH} {N n C cap:Nat} {ex:Bool} {cs:List AV} {r:Int}
def Sh (h0:AH) (N n C cap:Nat) (ex:Bool) (cs ys:List AV) (v:AV) (h':AH):Prop:=v= .sl N 0 (n+ys.length) C ex/\Kp [N] h0 h'/\h'.n=h0.n/\h'.nt=h0.nt/\h'.bV=h0.bV/\h'.get N=some (.row cap (cs.take n++ys++cs.drop (n+ys.length)))
theorem rf {P:Program} {lt:LT} {Q:Exit->ay->AH->Prop} {ids:List Nat} {fr:ay} {ks:List Kt} {o:Oper} {ops l:List Oper} {D:List Nat} {d:Tmp} {s x:Operand} {yv:AV} {t:TypeId} {gl:Nat} {ys:List AV} (H:HI h0 ids h []) (hid:N∈ids) (e1:h.n=h0.n) (e2:h.nt=h0.nt) (e3:h.bV=h0.bV) (hg:h.get N=some (.row cap cs))
 (ha:cD o.op=some (s,x,t)) (hw:au ops fr o.guard=some true) (hi:cC P t=some (1,gl))
 (es:fr.ev s= .v (.sl N 0 n C ex)) (ex':fr.ev x= .v yv) (hs:pU h yv=some ys) (cv:ys≠[]) (hd:o.dst=some d) (hn:n<=cs.length) (hC:n+ys.length<=C) (dY:n+ys.length<=cap)
 (K:∀h',HI h0 ids h' []->h'.n=h0.n->h'.nt=h0.nt->h'.bV=h0.bV->h'.get N=some (.row cap (cs.take n++ys++cs.drop (n+ys.length)))->XS P lt Q (.ops ops l D) ks (fr.bf d (.v (.sl N 0 (n+ys.length) C ex))) h'):XS P lt Q (.ops ops (o::l) D) ks fr h:=
 kV (ag.vA ha hw hi es ex' hs hg hn cv hC dY) hd (K _ (H.zF (by simp) (.inr hid)) e1 e2 e3 (by simp[AH.set]))
theorem wj (hg:h0.get N=some (.row cap cs)) (hN:N <h0.n) (hn:n<=cs.length) (hC:n+4<=C) (dY:n+4<=cap) (h1:128<=r) (h2:r<=1114111):
 al prog 212 [.sl N 0 n C ex,.int .i32 r] h0 (Sh h0 N n C cap ex cs (cd (Lib.encodeRuneZ r))):=by
 refine az (n:=78) (rs:=[.tmp 4]) [] ⟨func212,O,O,O⟩ O ?_;have H:HI h0 [N] h0 []:=⟨trivial,.refl,λe he=>by cases he⟩;have e1:h0.n=h0.n:=rfl;have e2:h0.nt=h0.nt:=rfl;have e3:h0.bV=h0.bV:=rfl;have hw:IntKind.u32.wrap r=r:=by simp[IntKind.wrap,IntKind.bits,IntKind.signed];omega
 have hle:=(Lib.encodeRuneZ_length r).2;have jP:(cd (Lib.encodeRuneZ r)).length<=4:=by simpa[cd]using hle
 have jR:cd (Lib.encodeRuneZ r)≠[]:=λe=>by
  have:=(Lib.encodeRuneZ_length r).1
  have h2:(cd (Lib.encodeRuneZ r)).length=0:=by rw[e];rfl
  simp only[cd,List.length_map]at h2;omega
 have fin:∀{h:AH},HI h0 [N] h []->h.n=h0.n->h.nt=h0.nt->h.bV=h0.bV->h.get N=some (.row cap (cs.take n++cd (Lib.encodeRuneZ r)++cs.drop (n+(cd (Lib.encodeRuneZ r)).length)))->Sh h0 N n C cap ex cs (cd (Lib.encodeRuneZ r)) (.sl N 0 (n+(cd (Lib.encodeRuneZ r)).length) C ex) h:=λH a b c d=>⟨O,H.kp,a,b,c,d⟩
 refine dZ H O λh H Y kq=>?_;replace e1:=Y.1.trans e1;replace e2:=Y.2.1.trans e2;replace e3:=Y.2.2.trans e3;replace hg:=(kq.get _ (by omega) (by simp)).trans hg;refine af O (λej=>?_) λej=>?_
 .have l1:r<=2047:=by have:=of_decide_eq_true ej;omega
  refine dZ H O λh H Y kq=>?_;replace e1:=Y.1.trans e1;replace e2:=Y.2.1.trans e2;replace e3:=Y.2.2.trans e3;replace hg:=(kq.get _ (by omega) (by simp)).trans hg;refine rf (ys:=cd (Lib.encodeRuneZ r)) H (by simp) e1 e2 e3 hg O O O O O (by rw[Yu h1 l1];rfl) jR rfl hn (by omega) (by omega) ?_;clear H e1 e2 e3 hg;intro h H e1 e2 e3 hg;refine dZ H O λh H Y kq=>?_;replace e1:=Y.1.trans e1;replace e2:=Y.2.1.trans e2;replace e3:=Y.2.2.trans e3;replace hg:=(kq.get _ (by omega) (by simp)).trans hg;exact ab [] H O (fin H e1 e2 e3 hg)
 have l1:¬ r<=2047:=by have:=of_decide_eq_false ej;omega
 refine dZ H O λh H Y kq=>?_;replace e1:=Y.1.trans e1;replace e2:=Y.2.1.trans e2;replace e3:=Y.2.2.trans e3;replace hg:=(kq.get _ (by omega) (by simp)).trans hg;refine af O (λaT=>?_) λaT=>?_
 .have l2:r <55296:=by have:=of_decide_eq_true aT;omega
  refine dZ H O λh H Y kq=>?_;replace e1:=Y.1.trans e1;replace e2:=Y.2.1.trans e2;replace e3:=Y.2.2.trans e3;replace hg:=(kq.get _ (by omega) (by simp)).trans hg;refine ug O aT ?_;refine dZ H O λh H Y kq=>?_;replace e1:=Y.1.trans e1;replace e2:=Y.2.1.trans e2;replace e3:=Y.2.2.trans e3;replace hg:=(kq.get _ (by omega) (by simp)).trans hg;refine rf (ys:=cd (Lib.encodeRuneZ r)) H (by simp) e1 e2 e3 hg O O O O O (by rw[VE (by omega)];rfl) jR rfl hn (by omega) (by omega) ?_;clear H e1 e2 e3 hg;intro h H e1 e2 e3 hg;refine dZ H O λh H Y kq=>?_;replace e1:=Y.1.trans e1;replace e2:=Y.2.1.trans e2;replace e3:=Y.2.2.trans e3;replace hg:=(kq.get _ (by omega) (by simp)).trans hg;exact ab [] H O (fin H e1 e2 e3 hg)
 have l2:¬ r <55296:=by have:=of_decide_eq_false aT;omega
 refine dZ H O λh H Y kq=>?_;replace e1:=Y.1.trans e1;replace e2:=Y.2.1.trans e2;replace e3:=Y.2.2.trans e3;replace hg:=(kq.get _ (by omega) (by simp)).trans hg;refine aj O (λbZ=>?_) (λbZ=>?_)
 .have l3:57343 <r:=by have:=of_decide_eq_true bZ;omega
  refine dZ H O λh H Y kq=>?_;replace e1:=Y.1.trans e1;replace e2:=Y.2.1.trans e2;replace e3:=Y.2.2.trans e3;replace hg:=(kq.get _ (by omega) (by simp)).trans hg;refine af O (λgp=>?_) λgp=>?_
  .have l4:r<=65535:=by have:=of_decide_eq_true gp;omega
   refine dZ H O λh H Y kq=>?_;replace e1:=Y.1.trans e1;replace e2:=Y.2.1.trans e2;replace e3:=Y.2.2.trans e3;replace hg:=(kq.get _ (by omega) (by simp)).trans hg;refine rf (ys:=cd (Lib.encodeRuneZ r)) H (by simp) e1 e2 e3 hg O O O O O (by rw[VE (by omega)];rfl) jR rfl hn (by omega) (by omega) ?_;clear H e1 e2 e3 hg;intro h H e1 e2 e3 hg;refine dZ H O λh H Y kq=>?_;replace e1:=Y.1.trans e1;replace e2:=Y.2.1.trans e2;replace e3:=Y.2.2.trans e3;replace hg:=(kq.get _ (by omega) (by simp)).trans hg;exact ab [] H O (fin H e1 e2 e3 hg)
  have l4:¬ r<=65535:=by have:=of_decide_eq_false gp;omega
  refine dZ H O λh H Y kq=>?_;replace e1:=Y.1.trans e1;replace e2:=Y.2.1.trans e2;replace e3:=Y.2.2.trans e3;replace hg:=(kq.get _ (by omega) (by simp)).trans hg;refine aj O (λkH=>?_) (λkH=>by have:=of_decide_eq_false kH;omega);refine dZ H O λh H Y kq=>?_;replace e1:=Y.1.trans e1;replace e2:=Y.2.1.trans e2;replace e3:=Y.2.2.trans e3;replace hg:=(kq.get _ (by omega) (by simp)).trans hg;refine af O (λfS=>?_) λfS=>?_
  .refine dZ H O λh H Y kq=>?_;replace e1:=Y.1.trans e1;replace e2:=Y.2.1.trans e2;replace e3:=Y.2.2.trans e3;replace hg:=(kq.get _ (by omega) (by simp)).trans hg;refine rf (ys:=cd (Lib.encodeRuneZ r)) H (by simp) e1 e2 e3 hg O O O O O (by rw[Yv (by omega) h2];rfl) jR rfl hn (by omega) (by omega) ?_;clear H e1 e2 e3 hg;intro h H e1 e2 e3 hg;refine dZ H O λh H Y kq=>?_;replace e1:=Y.1.trans e1;replace e2:=Y.2.1.trans e2;replace e3:=Y.2.2.trans e3;replace hg:=(kq.get _ (by omega) (by simp)).trans hg;exact ab [] H O (fin H e1 e2 e3 hg)
  .exfalso;have:=of_decide_eq_false fS;omega
 have l3:¬ 57343 <r:=by have:=of_decide_eq_false bZ;omega
 refine dZ H O λh H Y kq=>?_;replace e1:=Y.1.trans e1;replace e2:=Y.2.1.trans e2;replace e3:=Y.2.2.trans e3;replace hg:=(kq.get _ (by omega) (by simp)).trans hg;refine cX O ?_;refine dZ H O λh H Y kq=>?_;replace e1:=Y.1.trans e1;replace e2:=Y.2.1.trans e2;replace e3:=Y.2.2.trans e3;replace hg:=(kq.get _ (by omega) (by simp)).trans hg;refine aj O (λkH=>by have:=of_decide_eq_true kH;omega) (λkH=>?_);refine dZ H O λh H Y kq=>?_;replace e1:=Y.1.trans e1;replace e2:=Y.2.1.trans e2;replace e3:=Y.2.2.trans e3;replace hg:=(kq.get _ (by omega) (by simp)).trans hg;refine cX O ?_;refine dZ H O λh H Y kq=>?_;replace e1:=Y.1.trans e1;replace e2:=Y.2.1.trans e2;replace e3:=Y.2.2.trans e3;replace hg:=(kq.get _ (by omega) (by simp)).trans hg;refine rf (ys:=cd (Lib.encodeRuneZ r)) H (by simp) e1 e2 e3 hg O O O O O (by rw[Lib.encodeRuneZ_bad (by omega)];rfl) jR rfl hn (by omega) (by omega) ?_;clear H e1 e2 e3 hg;intro h H e1 e2 e3 hg;refine dZ H O λh H Y kq=>?_;replace e1:=Y.1.trans e1;replace e2:=Y.2.1.trans e2;replace e3:=Y.2.2.trans e3;replace hg:=(kq.get _ (by omega) (by simp)).trans hg;exact ab [] H O (fin H e1 e2 e3 hg)
theorem xO (hg:h0.get N=some (.row cap cs)) (hN:N <h0.n) (hn:n<=cs.length) (hC:n+4<=C) (dY:n+4<=cap) (h1:0<=r) (h2:r<=1114111):
 al prog 194 [.sl N 0 n C ex,.int .i32 r] h0 (Sh h0 N n C cap ex cs (cd (Lib.encodeRuneZ r))):=by
 refine az (n:=16) (rs:=[.tmp 4]) [] ⟨func194,O,O,O⟩ O ?_;have H:HI h0 [N] h0 []:=⟨trivial,.refl,λe he=>by cases he⟩;have e1:h0.n=h0.n:=rfl;have e2:h0.nt=h0.nt:=rfl;have e3:h0.bV=h0.bV:=rfl;have hw:IntKind.u32.wrap r=r:=by simp[IntKind.wrap,IntKind.bits,IntKind.signed];omega
 refine dZ H O λh H Y kq=>?_;replace e1:=Y.1.trans e1;replace e2:=Y.2.1.trans e2;replace e3:=Y.2.2.trans e3;replace hg:=(kq.get _ (by omega) (by simp)).trans hg;refine af O (λej=>?_) λej=>?_
 .have l1:r<=127:=by have:=of_decide_eq_true ej;omega
  have eb:cd (Lib.encodeRuneZ r)=[.int .u8 (IntKind.u8.wrap r)]:=by rw[Lib.encodeRuneZ_one h1 l1,wrap_u8,show r% 256=r by omega];rfl
  refine dZ H O λh H Y kq=>?_;replace e1:=Y.1.trans e1;replace e2:=Y.2.1.trans e2;replace e3:=Y.2.2.trans e3;replace hg:=(kq.get _ (by omega) (by simp)).trans hg;refine rf (ys:=cd (Lib.encodeRuneZ r)) H (by simp) e1 e2 e3 hg O O O O O (by rw[eb];rfl) (by rw[eb];simp) O hn (by rw[eb];simp;omega) (by rw[eb];simp;omega) ?_;clear H e1 e2 e3 hg;intro h H e1 e2 e3 hg;refine dZ H O λh H Y kq=>?_;replace e1:=Y.1.trans e1;replace e2:=Y.2.1.trans e2;replace e3:=Y.2.2.trans e3;replace hg:=(kq.get _ (by omega) (by simp)).trans hg;exact ab [] H O ⟨O,H.kp,e1,e2,e3,hg⟩
 have l1:¬ r<=127:=by have:=of_decide_eq_false ej;omega
 refine dZ H O λh H Y kq=>?_;replace e1:=Y.1.trans e1;replace e2:=Y.2.1.trans e2;replace e3:=Y.2.2.trans e3;replace hg:=(kq.get _ (by omega) (by simp)).trans hg;refine ae O call212 (wj hg (by omega) hn hC dY (by omega) h2) ?_;rintro v h3 ⟨rfl,k3,n3,t3,p3,g3⟩;have H3:HI h0 [N] h3 []:=⟨trivial,H.kp.trans k3,λe he=>by cases he⟩;clear H hg;have H:=H3;have hg:=g3;replace e1:=n3.trans e1;replace e2:=t3.trans e2;replace e3:=p3.trans e3;clear H3 g3;rename_i h4;refine dZ H O λh H Y kq=>?_;replace e1:=Y.1.trans e1;replace e2:=Y.2.1.trans e2;replace e3:=Y.2.2.trans e3;replace hg:=(kq.get _ (by omega) (by simp)).trans hg;exact ab [] H O ⟨O,H.kp,e1,e2,e3,hg⟩
end
end
end Go.Am
