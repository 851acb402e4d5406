import Derived.Test.YtmbeaohkcogohaaGreatDoorS4
set_option maxRecDepth 100000
set_option maxHeartbeats 4000000
set_option linter.unusedVariables false
set_option linter.unusedSimpArgs false
namespace Go.Am
open Go.Proofs Go.Proofs.Tryz
section
variable {P:Program} {lt:LT} {Q:Exit->Act->World->Prop} {K:Act->World->Prop} {ops:Array Oper} {o:Oper} {a:Act} {w w':World} {v:Value} {i:Nat}
theorem sB (ho:ops[i]? =some o) (hg:o.guard=none) (hr:(execOp a.eval o).run P w= .ok (.value v) w') (hK:K (a.put o.dst v) w'):wpOp P ops Q i K a w:=by unfold wpOp;simp only[ho];rw[if_pos (by unfold Region.wanted;rw[hg])];refine .inl ?_;unfold Oper.wp;rw[hr];exact hK
theorem lL (ho:ops[i]? =some o) (hg:o.guard=none) (hr:(execOp a.eval o).run P w= .ok .skip w') (hK:K (a.put o.dst undef) w'):wpOp P ops Q i K a w:=by unfold wpOp;simp only[ho];rw[if_pos (by unfold Region.wanted;rw[hg])];refine .inl ?_;unfold Oper.wp;rw[hr];exact hK
theorem ky {d:Nat} (hd:d <a.tmps.size):(a.put (some d) v).eval (.tmp d)=v:=by simp[Act.eval,Act.put,Array.getD_eq_getD_getElem?,Array.getElem?_setIfInBounds,hd]
theorem gZ {d:Nat} {x:Operand} (hx:x≠ .tmp d):(a.put (some d) v).eval x=a.eval x:=by
 cases x with
 |tmp t=>
  have:d≠t:=λe=>hx (by rw[e])
  simp[Act.eval,Act.put,Array.getD_eq_getD_getElem?,Array.getElem?_setIfInBounds,this]
 |_=>rfl
theorem tQ {t:TypeId} {n b off:Nat} {vs:Array Value} {T:TypeId} (hz:kW P t=some n) (hn:v.cells.size=n) (hw:w.heap[b]? =some (.cells vs T (0,0))) (h1:∀u∈v.cells.toList,u.oneCell'=true) (xn:off+n<=vs.size):
 (storeVar t ⟨b,off,none⟩ v).run P w= .ok () (w.setRow b (vs.toList.take off++v.cells.toList++vs.toList.drop (off+n)).toArray):=by
 have hs:=run_storeCells_at (P:=P) b off T v.cells.toList 0 vs w hw (by simp;omega) h1
 simp only[Nat.add_zero,Array.length_toList]at hs;simp only[storeVar,Sem.run_bind,run_sizeOf hz,Result.andThen_ok];rw[if_neg (by rw[hn];simp)];rw[<-hn];exact hs
theorem oF {t:TypeId} {n b off:Nat} {vs:Array Value} {T:TypeId} {x y:Operand} (ho:o.op= .store t x y) (hx:a.eval x= .pointer (some ⟨b,off,none⟩)) (hy:a.eval y=v) (hz:kW P t=some n) (hn:v.cells.size=n) (hw:w.heap[b]? =some (.cells vs T (0,0))) (h1:∀u∈v.cells.toList,u.oneCell'=true) (xn:off+n<=vs.size):
 (execOp a.eval o).run P w= .ok .skip (w.setRow b (vs.toList.take off++v.cells.toList++vs.toList.drop (off+n)).toArray):=by
 have k1:=tQ (P:=P) hz hn hw h1 xn
 simp only[execOp,ho,Instr.storeAt,hx,hy,Instr.sureAddr,Sem.run_bind,Sem.run_pure,Result.andThen_ok,k1]
theorem CF {t e:TypeId} {sz n cap b bo:Nat} {k:IntKind} {x i:Operand} (ho:o.op= .indexAddr t x i) (ht:P.underlying t=some (.slice e)) (hz:kW P e=some sz) (hx:a.eval x= .slice (some ⟨b,bo,none⟩) (n+1) cap) (hi:a.eval i= .int k (n:Nat)):
 (execOp a.eval o).run P w= .ok (.value (.pointer (some ⟨b,bo+n*sz,none⟩))) w:=by
 simp only[execOp,ho,Instr.indexAt,hx,hi,asIntOf,Sem.run_bind,Sem.run_pure,Result.andThen_ok,run_underlying ht];have h1:(0:Int)<=(n:Nat)/\((n:Nat):Int) <((n+1:Nat):Int):=⟨by omega,by omega⟩;simp only[h1,and_self,if_true,Sem.run_bind,run_sizeOf hz,Result.andThen_ok,Sem.run_pure,cL,Int.toNat_natCast]
end
def IM (m:Nat) (l:List Nat):Array Bool:=l.foldl (λa i=>a.setIfInBounds i true) (Array.replicate m true++Array.replicate 4 false)
def EP (ops:List Oper) (m:Nat) (l:List Nat):List Nat:=Region.ready .any ops.toArray (IM m l)
def CG (ops:List Oper) (m:Nat):Bool:=
 EP ops m []==[m]&&EP ops m [m]==[m+1,m+3]&&EP ops m [m,m+1]==[m+2,m+3]&&EP ops m [m,m+3]==[m+1]&&EP ops m [m,m+1,m+2]==[m+3]&&
 EP ops m [m,m+1,m+3]==[m+2]&&EP ops m [m,m+3,m+1]==[m+2]&&EP ops m [m,m+1,m+2,m+3]==[]&&EP ops m [m,m+1,m+3,m+2]==[]&&EP ops m [m,m+3,m+1,m+2]==[]
theorem yr {m i:Nat} {l:List Nat}:IM m (l++[i])=(IM m l).setIfInBounds i true:=by simp[IM]
section
variable {P:Program} {lt:LT} {Q:Exit->Act->World->Prop} {ops:List Oper} {m:Nat}
section
attribute [local irreducible] IM wpOp
theorem ER (rd:CG ops m=true) {a:Act} {w:World}
 (H:wpOp P ops.toArray Q m (λa w=>
  wpOp P ops.toArray Q (m+1) (λa w=>wpOp P ops.toArray Q (m+2) (λa w=>wpOp P ops.toArray Q (m+3) (λa w=>Q .normal a w) a w) a w/\wpOp P ops.toArray Q (m+3) (λa w=>wpOp P ops.toArray Q (m+2) (λa w=>Q .normal a w) a w) a w) a w/\
  wpOp P ops.toArray Q (m+3) (λa w=>wpOp P ops.toArray Q (m+1) (λa w=>wpOp P ops.toArray Q (m+2) (λa w=>Q .normal a w) a w) a w) a w) a w):
 wpAny P .any ops.toArray Q 4 (IM m []) a w:=by
 simp only[CG,Bool.and_eq_true,beq_iff_eq]at rd;obtain⟨⟨⟨⟨⟨⟨⟨⟨⟨r0,r1⟩,r2⟩,r3⟩,r4⟩,r5⟩,r6⟩,r7⟩,r8⟩,r9⟩:=rd;have fin:∀l,EP ops m l=[]->∀a w,Q .normal a w->wpAny P .any ops.toArray Q 0 (IM m l) a w:=λl h a w q=>⟨h,q⟩
 have one:∀n l i,EP ops m l=[i]->∀a w,wpOp P ops.toArray Q i (wpAny P .any ops.toArray Q n (IM m (l++[i]))) a w->wpAny P .any ops.toArray Q (n+1) (IM m l) a w:=by
  intro n l i h a w q;refine⟨λe=>?_,λj hj=>?_⟩
  .have e:EP ops m l=[]:=e
   rw[h]at e
   cases e
  .have hj:j∈EP ops m l:=hj
   rw[h,List.mem_singleton]at hj;subst hj;rw[<-yr];exact q
 have two:∀n l i k,EP ops m l=[i,k]->∀a w,wpOp P ops.toArray Q i (wpAny P .any ops.toArray Q n (IM m (l++[i]))) a w->wpOp P ops.toArray Q k (wpAny P .any ops.toArray Q n (IM m (l++[k]))) a w->wpAny P .any ops.toArray Q (n+1) (IM m l) a w:=by
  intro n l i k h a w q1 q2;refine⟨λe=>?_,λj hj=>?_⟩
  .have e:EP ops m l=[]:=e
   rw[h]at e
   cases e
  .have hj:j∈EP ops m l:=hj
   rw[h]at hj;simp only[List.mem_cons,List.not_mem_nil,or_false]at hj;rcases hj with rfl|rfl
   .rw[<-yr];exact q1
   .rw[<-yr];exact q2
 refine one 3 [] m r0 a w (wpOp_mono (λa w h=>?_) H);obtain⟨hI,hL⟩:=h;refine two 2 [m] _ _ r1 a w (wpOp_mono (λa w h=>?_) hI) (wpOp_mono (λa w h=>?_) hL)
 .obtain⟨hS,hL⟩:=h;refine two 1 [m,m+1] _ _ r2 a w (wpOp_mono (λa w h=>?_) hS) (wpOp_mono (λa w h=>?_) hL)
  .exact one 0 [m,m+1,m+2] _ r4 a w (wpOp_mono (λa w h=>fin [m,m+1,m+2,m+3] r7 a w h) h)
  .exact one 0 [m,m+1,m+3] _ r5 a w (wpOp_mono (λa w h=>fin [m,m+1,m+3,m+2] r8 a w h) h)
 .refine one 1 [m,m+3] _ r3 a w (wpOp_mono (λa w h=>?_) h);exact one 0 [m,m+3,m+1] _ r6 a w (wpOp_mono (λa w h=>fin [m,m+3,m+1,m+2] r9 a w h) h)
end
theorem Kd {oA oI oS oL:Oper} {fr:ay} {h h':AH} {s x iI vS xL:Operand} {t tI eI tS tL:TypeId} {sz gl:Nat} {xs y:AV} {es:List (List AV)} {zc cs jL Ke:List AV} {aw v d8 d9 B off:Nat} {k:IntKind}
 (rd:CG ops m=true) (o1:ops[m]? =some oA) (o2:ops[m+1]? =some oI) (o3:ops[m+2]? =some oS) (o4:ops[m+3]? =some oL) (g1:oA.guard=none) (g2:oI.guard=none) (g3:oS.guard=none) (g4:oL.guard=none)
 (ha:cD oA.op=some (s,x,t)) (hi:cC P t=some (sz,gl)) (dA:oA.dst=some d8) (S5:fr.ev s= .v xs) (S6:fr.ev x= .v y) (hy:aY sz y=some [zc]) (hS:zA h sz xs es aw v h') (hb:(es.length+1)*(gl+1)<=140737488355328)
 (hI:oI.op= .indexAddr tI (.tmp d8) iI) (dI:oI.dst=some d9) (Y9:P.underlying tI=some (.slice eI)) (Za:kW P eI=some sz) (S8:fr.ev iI= .v (.int k (es.length:Nat))) (ni:iI≠ .tmp d8)
 (Zb:oS.op= .store tS (.tmp d9) vS) (Zc:kW P tS=some sz) (dS:oS.dst=none) (Kf:mY fr vS=some cs) (uq:cs.length=sz) (Zd:vS≠ .tmp d8) (Ze:vS≠ .tmp d9)
 (Xl:oL.op= .store tL xL (.tmp d8)) (Uw:kW P tL=some 1) (dL:oL.dst=none) (Ta:fr.ev xL= .v (.ptr B off)) (pD:h'.get B=some (.cells jL)) (xn:off+1<=jL.length) (Xm:xL≠ .tmp d8) (Zf:xL≠ .tmp d9) (Zg:d8≠d9) (hd8:d8 <fr.n) (hd9:d9 <fr.n)
 (zU:setAt off [.vec (.own aw v) sz (es++[cs])] jL=Ke) {g0:Gh} {w0:World}
 (hQ:∀a w,AS lt (h'.set B (.cells Ke)) ((fr.bf d8 (.v (.vec (.own aw v) sz (es++[cs])))).bf d9 .gI) g0 w0 a w->Q .normal a w) {a:Act} {w:World} (S:AS lt h fr g0 w0 a w):wpAny P .any ops.toArray Q 4 (IM m []) a w:=by
 obtain⟨g,lb,E,R,F⟩:=S;obtain⟨e,i,z,T,rfl⟩:=fC hi;obtain⟨r1,r2,r3⟩:=gM ha a.eval;obtain⟨wF,fB,zs,HT,kJ,iC⟩:∃ad cap zs,a.eval x= .slice (some ad) 1 cap/\(zs:List Value).length=sz/\∀k u,zs[k]? =some u->w.cell? (ad.add k)=some u/\u.oneCell'=true:=by
  rcases iW T.h0 (F.cq S6) hy with⟨_,h1⟩|⟨ad,cap,q1,q2,us,q3,q4,q5⟩
  .cases h1
  .exact⟨ad,cap,us,q1,by simpa using q3,λk u hk=>⟨(q4 k u hk).1,(q4 k u hk).2.1⟩⟩
 have Ls:sJ g w cs (a.eval vS).cells:=by
  unfold mY at Kf;split at Kf
  case h_2=>cases Kf
  rename_i y ey;exact(F.cq ey).cells Kf
 have Tb:(a.eval vS).cells.size=sz:=Ls.1.1.trans uq;have Ah:∀u∈(a.eval vS).cells.toList,u.oneCell'=true:=λu hu=>by
  obtain⟨i,hi,rfl⟩:=List.getElem_of_mem hu;have vo:i <(a.eval vS).cells.size:=by simpa using hi
  have:=Ls.2 i (by omega);simpa[Array.getD_eq_getD_getElem?,vo]using this
 obtain⟨b,bo,cap,c,Tc,w8,g',sS,oY,Zh,E',R',V⟩:=(EN (ty:=oA.type) T R (F.cq S5) hS (wF:=wF) (fB:=fB) kJ (λj u hj=>(iC j u hj).1) (λu hu=>by
  obtain⟨k,hk,rfl⟩:=List.getElem_of_mem hu;exact(iC k _ (List.getElem?_eq_getElem hk)).2) (ns:=(a.eval vS).cells.toList) (by simpa using Tb) Ah uq (λj hj=>by
  have:=Ls.1.2 j hj;simpa[Array.getD_eq_getD_getElem?,List.getD_eq_getElem?_getD]using this) hb).ex
 generalize zp:(c.toList.take (bo+es.length*sz)++(a.eval vS).cells.toList++c.toList.drop (bo+es.length*sz+(a.eval vS).cells.toList.length)).toArray=cc at*;have Kb:(c.toList.take (bo+es.length*sz)++(a.eval vS).cells.toList++c.toList.drop (bo+es.length*sz+sz)).toArray=cc:=by rw[<-zp];simp[Tb]
 have hsv:VR g' (w8.setRow b cc) (.vec (.own aw v) sz (es++[cs])) (.slice (some ⟨b,bo,none⟩) (es.length+1) cap):=V;generalize OS:Value.slice (some ⟨b,bo,none⟩) (es.length+1) cap=sl at*;have PT:sl.cells=#[sl]:=by rw[<-OS];rfl
 have jP:g'.bl b=some aw:=by
  rw[<-OS]at V;generalize hN:es.length+1=N at V
  cases V with|vec _ _ _ _ _ _ _ _ _ _ _ _ _ ht=>exact ht.2.2.2.2
 have F':=F.mono E';have F8:=F'.put (dst:=some d8) (s:= .v (.vec (.own aw v) sz (es++[cs]))) hsv O;have F9:=F8.put (dst:=some d9) (s:= .gI) (v:= .pointer (some ⟨b,bo+es.length*sz,none⟩)) trivial O;obtain⟨bl,Zi,vs,TT,Rd,hcB⟩:=R'.obj B _ pD;have cv:bl≠b:=λe=>by
  have:=(R'.uC B bl Zi).2.2
  rw[e,jP]at this
  cases this
 have hpB:a.eval xL= .pointer (some ⟨bl,off,none⟩):=by
  have:=F'.cq Ta
  generalize a.eval xL=p at this
  cases this with|ptr _ _ bk hb=>rw[Zi]at hb;injection hb with hb;subst hb;rfl
 have aaz:vs.size=jL.length:=hcB.1.1;obtain⟨us,k1,k2,k3⟩:=oh (P:=P) (t:=tL) (off:=off) (v:=sl) (ds:=[.vec (.own aw v) sz (es++[cs])]) Uw O Rd hcB (by
  have:=VR.cells hsv (cs:=[.vec (.own aw v) sz (es++[cs])]) O
  exact this) xn
 have Td:∀u∈sl.cells.toList,u.oneCell'=true:=λu hu=>by
  rw[PT]at hu;have:u=sl:=by simpa using hu
  rw[this,<-OS];rfl
 have hus:(vs.toList.take off++sl.cells.toList++vs.toList.drop (off+1)).toArray=us:=by
  have k4:=tQ (P:=P) (t:=tL) (off:=off) (v:=sl) (n:=1) Uw (by rw[PT];rfl) Rd Td (by omega)
  rw[k1]at k4;injection k4 with _ k4
  have q1:=setRow_heap _ bl vs us TT (0,0) Rd;rw[k4,setRow_heap _ bl vs _ TT (0,0) Rd]at q1;injection q1 with q1
  injection q1 with q1
 have Wf:w8.heap[bl]? =some (.cells vs TT (0,0)):=by rw[<-setRow_other w8 b bl cc cv];exact Rd
 rw[zU]at k3;obtain⟨E'',R''⟩:=Li R' Zi (by rw[pD];simp) Rd (iV Rd) k2 k3;have fin:AS lt (h'.set B (.cells Ke)) ((fr.bf d8 (.v (.vec (.own aw v) sz (es++[cs])))).bf d9 .gI) g0 w0 ((a.put (some d8) sl).put (some d9) (.pointer (some ⟨b,bo+es.length*sz,none⟩))) ((w8.setRow b cc).setRow bl us):=⟨g',lb,(E.trans E').trans E'',R'',F9.mono E''⟩
 have mI:a.tmps.size=fr.n:=F.size;have Zj:(a.put (some d8) sl).tmps.size=fr.n:=by simpa[Act.put]using mI
 have hint:a.eval iI= .int k (es.length:Nat):=by
  have:=F.cq S8
  generalize a.eval iI=p at this
  cases this;rfl
 have evS:((a.put (some d8) sl).put (some d9) (.pointer (some ⟨b,bo+es.length*sz,none⟩))).eval vS=a.eval vS:=by rw[gZ Ze,gZ Zd]
 have ev9:((a.put (some d8) sl).put (some d9) (.pointer (some ⟨b,bo+es.length*sz,none⟩))).eval (.tmp d9)= .pointer (some ⟨b,bo+es.length*sz,none⟩):=ky (by omega);have rI:∀w',(execOp (a.put (some d8) sl).eval oI).run P w'= .ok (.value (.pointer (some ⟨b,bo+es.length*sz,none⟩))) w':=λw'=>CF hI Y9 Za (by rw[ky (by omega),<-OS]) (by rw[gZ ni];exact hint)
 have rS:∀w',w'.heap[b]? =some (.cells c Tc (0,0))->(execOp ((a.put (some d8) sl).put (some d9) (.pointer (some ⟨b,bo+es.length*sz,none⟩))).eval oS).run P w'= .ok .skip (w'.setRow b cc):=λw' Pj=>by rw[<-Kb];exact oF Zb ev9 evS Zc Tb Pj Ah Zh
 have rL8:∀w',w'.heap[bl]? =some (.cells vs TT (0,0))->(execOp (a.put (some d8) sl).eval oL).run P w'= .ok .skip (w'.setRow bl us):=λw' Pj=>by rw[<-hus];exact oF Xl (by rw[gZ Xm];exact hpB) (ky (by omega)) Uw (by rw[PT];rfl) Pj Td (by omega)
 have rL9:∀w',w'.heap[bl]? =some (.cells vs TT (0,0))->(execOp ((a.put (some d8) sl).put (some d9) (.pointer (some ⟨b,bo+es.length*sz,none⟩))).eval oL).run P w'= .ok .skip (w'.setRow bl us):=λw' Pj=>by rw[<-hus];exact oF Xl (by rw[gZ Zf,gZ Xm];exact hpB) (by rw[gZ (λe=>Zg (by injection e)),ky (by omega)]) Uw (by rw[PT];rfl) Pj Td (by omega)
 have last:Q .normal ((a.put (some d8) sl).put (some d9) (.pointer (some ⟨b,bo+es.length*sz,none⟩))) ((w8.setRow b cc).setRow bl us):=hQ _ _ fin;have Re:Q .normal ((a.put (some d8) sl).put (some d9) (.pointer (some ⟨b,bo+es.length*sz,none⟩))) ((w8.setRow bl us).setRow b cc):=by rw[EO w8 cv];exact last
 refine ER rd (sB (v:=sl) (w':=w8) (by simpa using o1) g1 ?_ ?_)
 .rw[r1,HT];simp only[Sem.run_bind,sS,Result.andThen_ok,Sem.run_pure]
 rw[dA];refine⟨sB (by simpa using o2) g2 (rI _) ?_,lL (by simpa using o4) g4 (rL8 _ Wf) ?_⟩
 .rw[dI];refine⟨lL (by simpa using o3) g3 (rS _ oY) ?_,lL (by simpa using o4) g4 (rL9 _ Wf) ?_⟩
  .rw[dS];refine lL (by simpa using o4) g4 (rL9 _ Rd) ?_;rw[dL];exact last
  .rw[dL];refine lL (by simpa using o3) g3 (rS _ (by rw[setRow_other _ _ _ _ cv.symm];exact oY)) ?_;rw[dS];exact Re
 .rw[dL];refine sB (by simpa using o2) g2 (rI _) ?_;rw[dI];refine lL (by simpa using o3) g3 (rS _ (by rw[setRow_other _ _ _ _ cv.symm];exact oY)) ?_;rw[dS];exact Re
def Wg (P:Program) (lt:LT) (pre:List Oper) (h:AH) (TL:ay->AH->Prop) (aD:List po) (hs:List AH) (aB:ay) (h':AH):Prop:=∃kinds p,aD.map (·.kind)=kinds/\uJ pre kinds=true/\BM (pQ pre []) (dm 0 kinds) (dm 0 kinds).length 0 kinds=p/\mG P lt pre aD (h::hs) p/\TL aB h'
def M5 (P:Program) (lt:LT) (ops:List Oper) (m:Nat) (fr:ay) (h Zk:AH) (kX:ay):Prop:=∀(g0:Gh) (w0:World) (Q:Exit->Act->World->Prop),(∀a w,AS lt Zk kX g0 w0 a w->Q .normal a w)->∀a w,AS lt h fr g0 w0 a w->wpAny P .any ops.toArray Q 4 (IM m []) a w
theorem AC.Hk {id:Nat} {pre tail:List Oper} {fr:ay} {h:AH} {C:Exit->ay->AH->Prop} (hm:P.follows .mixedOrders=true) (ht:tail.length=4) (ok:IL pre tail=true)
 (H:AD P lt pre pre fr h 0 (Wg P lt pre h λjc h1=>∃kX h2,M5 P lt (pre++tail) pre.length jc h1 h2 kX/\C .normal kX h2)):AC P lt (.region id (pre++tail).toArray true) fr h C:=by
 obtain⟨aD,hs,aB,h',⟨kinds,p,hk,ok',hp,pd,kX,h2,tl,k⟩,T⟩:=H;subst hp;refine⟨.normal,kX,h2,k,λg0 w0 a w S=>wp_region_any hm ?_⟩;obtain⟨f1,f2,f3,f4,f5⟩:=T.facts 0;obtain⟨g,lb,E,R,F⟩:=S;have xA:∀i,(Array.replicate pre.toArray.size false).getD i false=false:=λi=>by rw[Array.getD_eq_getD_getElem?,Array.getElem?_replicate];split<;>rfl
 have hL:(λi=>(Array.replicate pre.toArray.size false).getD i false)=λ_=>false:=funext xA
 have E1:Ev g w g {w with drawn:=w.drawn+1}:=⟨⟨O,O,O,Nat.le_refl _,λ_ _ e=>e,λ_ _ e=> .inl ⟨_,e⟩,λ_ _ e=>e,λ_ _ e=> .inl e,λ_ _ _ e=>e,λa e=>⟨e,O⟩,Nat.le_refl _,λ_ _=>Nat.le_refl _,λl hl _=>⟨O,O⟩,λb c T fz e=>⟨c,e,O⟩,λ_ _ e=>e,λ_ _ e=> .inl e⟩,λb hb _ _ _=>⟨O,O⟩⟩;have R1:Rel g {w with drawn:=w.drawn+1} h:=by refine⟨R.uC,R.Bm,R.Ag,λo x e=>?_,R.KN,R.nt,R.cur,R.FT,R.Dh,R.HN,R.ext,R.FC,R.iH E1.toEvc O⟩;obtain⟨b,hb,ho⟩:=R.obj o x e;exact⟨b,hb,ho.mono E1.toEvc O λ_ _=>rfl⟩
 have gJ:(pre++tail).toArray.size=pre.length+4:=by simp[ht]
 have Zl:Array.replicate (pre++tail).toArray.size false=Array.replicate pre.length false++Array.replicate tail.length false:=by rw[gJ,ht];apply Array.ext';simp[List.replicate_append_replicate]
 rw[Zl,gJ];refine Kc (TL:=λa w=>AS lt h' aB g0 w0 a w) ok (λa w S=>?_) _ _ _ _ (by simp) ?_ ?_
 .have:=tl g0 w0 (λe a w=>e= .normal/\AS lt h2 kX g0 w0 a w) (λa' w' S'=>⟨O,S'⟩) a w S
  rw[ht];exact this
 .intro j o _ hl;have hl:(Array.replicate pre.length false).getD j false=true:=hl;rw[show(Array.replicate pre.length false).getD j false=false from xA j]at hl
  cases hl
 .refine Au T hk ok' pd (g0:=g0) (w0:=w0) (λa' w' S'=>S') _ _ a _ h (by simp) ?_ ?_ ?_ ?_
  .intro j o _ hl;have hl:(Array.replicate pre.length false).getD j false=true:=hl;rw[show(Array.replicate pre.length false).getD j false=false from xA j]at hl
   cases hl
  .have hL:(λi=>(Array.replicate pre.length false).getD i false)=λ_=>false:=hL
   rw[hL];have:∀r:List Nat,nJ (λ_=>false) r=0:=λr=>by cases r<;>rfl
   rw[this];rfl
  .have hL:(λi=>(Array.replicate pre.length false).getD i false)=λ_=>false:=hL
   rw[hL,iS _ _ _ (λ_ _=>rfl)];exact⟨g,lb,E.trans E1,R1,F.mono E1⟩
  .exact Nat.le_trans (List.length_filter_le _ _) (by simp)
end
section
attribute [local irreducible] AC AL AW AD aP
section
attribute [local irreducible] aQ aU
section
variable {P:Program} {lt:LT} {C:Exit->ay->AH->Prop} {h h0 hb:AH} {fr:ay} {ks:List Kt}
theorem Of {id:Nat} {ops:List Oper} (m:Nat) (hm:P.follows .mixedOrders=true) (ht:(ops.drop m).length=4) (hl:(ops.take m).length=m) (ok:IL (ops.take m) (ops.drop m)=true)
 (H:AD P lt (ops.take m) (ops.take m) fr h 0 (Wg P lt (ops.take m) h λjc h1=>∃kX h2,M5 P lt ops m jc h1 h2 kX/\XS P lt C (.ext .normal) ks kX h2)):XS P lt C (.code (.region id ops.toArray true)) ks fr h:=by
 have e:ops.take m++ops.drop m=ops:=List.take_append_drop m ops
 have key:=AC.Hk (id:=id) (C:=kY P lt C ks) (lt:=lt) (fr:=fr) (h:=h) hm ht ok (by rw[e,hl];exact H)
 rw[e]at key;exact key
theorem M6 {sz:Nat} {xs:AV} {es:List (List AV)} {ids:List Nat} {V:View} (H:HI h0 ids h V) (hG:aG h0 h sz xs es):
 ∃aw v h',zA h sz xs es aw v h'/\HI h0 ids h' V/\h'.n=h.n/\h'.get=h.get/\∀y,aG h0 h' sz (.vec (.own aw v) sz (es++[y])) (es++[y]):=by
 have wC:=H.kp.nt
 have fin:∀(aw v:Nat) (h':AH),zA h sz xs es aw v h'->h'.n=h.n->h'.get=h.get->h'.aV=h.aV->h.nt<=h'.nt->(∀l,l <h0.nt->h'.bV l=h.bV l)->(∀y,aG h0 h' sz (.vec (.own aw v) sz (es++[y])) (es++[y]))->∃aw v h',zA h sz xs es aw v h'/\HI h0 ids h' V/\h'.n=h.n/\h'.get=h.get/\∀y,aG h0 h' sz (.vec (.own aw v) sz (es++[y])) (es++[y]):=by intro aw v h' k1 k2 k3 k4 k5 k6 k7;refine⟨aw,v,h',k1,⟨HV.of (λe he=>?_) H.hv.nodup,⟨by rw[k2];exact H.kp.n,λk hk hi=>by rw[k3];exact H.kp.get k hk hi,Nat.le_trans H.kp.nt k5,λl hl=>(k6 l hl).trans (H.kp.bV l hl),k4.trans H.kp.aV⟩,H.new⟩,k2,k3,k7⟩;obtain⟨q1,q2⟩:=H.hv.get he;exact⟨by rw[k3];exact q1,by rw[k2];exact q2⟩
 rcases hG with⟨rfl,rfl⟩|⟨aw,fk,hx,q1,q2,q3⟩
 .refine fin h.nt 0 h.cu (.inl ⟨O,O,O,O,O⟩) O O O (Nat.le_succ _) (λl hl=>?_) λy=> .inr ⟨h.nt,0,.inl O,wC,Nat.lt_succ_self _,?_⟩
  .simp only[AH.cu];rw[beq_false_of_ne (by omega)]
  .simp only[AH.cu];rw[cU]
 .refine fin aw (fk+1) (h.bump aw) (.inr (.inr ⟨fk,hx,q3,O,O⟩)) O O O (Nat.le_refl _) (λl hl=>?_) λy=> .inr ⟨aw,fk+1,.inl O,q1,q2,?_⟩
  .simp only[AH.bump];rw[beq_false_of_ne (by omega)]
  .simp only[AH.bump];rw[cU,q3]
end
section
variable {h h0 hb h2 h3:AH} {x B d k n sz:Nat} {o:Option (List Tok)} {s e a fixed fx:Bool} {w:ak} {ids:List Nat}
def GB {α:Type} (hb:AH) (B sz:Nat) (enc:α->List AV) (bs:List α) (h:AH):Prop:=B <h.n/\hb.nt<=h.nt/\∃y,h.get B=some (.cells [y])/\bJ hb h sz y (bs.map enc)
theorem GB.kp {α:Type} {enc:α->List AV} (Kg:B≠x):∀(bs:List α) (h h':AH),GB hb B sz enc bs h->Kp [x] h h'->GB hb B sz enc bs h':=by rintro bs h h' ⟨hB,hn,y,hg,G⟩ k;exact⟨Nat.lt_of_lt_of_le hB k.n,Nat.le_trans hn k.nt,y,(k.get B hB (by simpa using Kg)).trans hg,G.kp k⟩
theorem GB.at_ {α:Type} {enc:α->List AV} {bs:List α} (S:RB h x o d s e a) (j:GB hb B sz enc bs h) (Kg:B≠x):
 ∃tk es b y,HI (h.aw hb.nt) [x,B] h [(x,RC (.vec tk 6 es) d b s e a),(B,[y])]/\TS s o b es/\bJ hb h sz y (bs.map enc):=by
 obtain⟨hx,tk,es,b,hg,T⟩:=S;obtain⟨hB,hn,y,pD,G⟩:=j;refine⟨tk,es,b,y,⟨HV.of (λe he=>?_) (by simp[Ne.symm Kg]),⟨Nat.le_refl _,λ_ _ _=>rfl,hn,λ_ _=>rfl,O⟩,λe he=>?_⟩,T,G⟩
 .rcases List.mem_cons.1 he with rfl|he
  .exact⟨hg,hx⟩
  .rw[List.mem_singleton]at he;subst he;exact⟨pD,hB⟩
 .rcases List.mem_cons.1 he with rfl|he
  .exact .inl (by simp)
  .rw[List.mem_singleton]at he;subst he;exact .inl (by simp)
def CB {α:Type} (hb:AH) (B sz:Nat) (enc:α->List AV) (x d:Nat) (e a:Bool) (h:AH) (s:Bool) (o:Option (List Tok)) (R:Option (α×List Tok)) (bs:List α) (v:AV) (h':AH):Prop:=Kp [x,B] (h.aw hb.nt) h'/\v= .cN []/\∃o' s' t,RB h' x o' d s' e a/\Lt 1 o' o/\GB hb B sz enc (bs++[t]) h'/\(s'=true->s=true/\o'=R.map (·.2)/\dO R λt'=>t'=t)
theorem CB.mk {α:Type} {enc:α->List AV} {R:Option (α×List Tok)} {bs:List α} {b s':Bool} {o':Option (List Tok)} {t:α} {tk:Tk} {es:List (List AV)} {y:AV} {V:View} (H:HI (h.aw hb.nt) [x,B] h2 ((x,RC (.vec tk 6 es) d b s' e a)::(B,[y])::V)) (T:TS s' o' b es)
 (hl:Lt 1 o' o) (G:bJ hb h2 sz y ((bs++[t]).map enc)) (hs:s'=true->s=true/\o'=R.map (·.2)/\dO R λt'=>t'=t):CB hb B sz enc x d e a h s o R bs (.cN []) h2:=
 ⟨H.kp,O,o',s',t,.of H T,hl,⟨H.jM.2,H.kp.nt,y,H.jM.1,G⟩,hs⟩
end
section
variable {P:Program} {lt:LT} {h h0 hb:AH} {fr:ay} {ops l:List Oper} {o:Oper}
theorem ag.Te {x:Operand} {d:Tmp} {tt:TypeId} {z:AV} {es:List (List AV)} {k sz:Nat} (ha:mR o.op=some (x,tt)) (hk:Am.pn P tt=some k) (jh:Nat.beq k (AV.ao).pn=true) (hw:au ops fr o.guard=some true) (ex:fr.ev x= .v z) (hz:aY sz z=some es) (hd:o.dst=some d):
 ∀h,ag P lt ops o fr h (.v (.int .i64 es.length)) h:=by
 intro h;refine ag.pure hw (λh=>?_) (by rw[hd];rfl) (λh=>uU ha) h;rw[uT ha];unfold BA;rw[ex]
 cases z with
 |ao=>
  injection hz with hz
  subst hz;simp only[hk,jh];rfl
 |vec tk s e=>
  simp only[aY]at hz;split at hz
  .injection hz with hz
   subst hz;simp only[hk,show Nat.beq k (AV.vec tk s e).pn=true from jh];rfl
  .cases hz
 |_=>cases hz
theorem AD.Te {x:Operand} {d:Tmp} {tt:TypeId} {z:AV} {es:List (List AV)} {k k1 sz:Nat} {K:List po->List AH->ay->AH->Prop} (ha:mR o.op=some (x,tt)) (hk:Am.pn P tt=some k) (jh:Nat.beq k (AV.ao).pn=true) (hw:au ops fr o.guard=some true) (ex:fr.ev x= .v z) (hz:aY sz z=some es) (hd:o.dst=some d)
 (T:AD P lt ops l (fr.bf d (.v (.int .i64 es.length))) h k1 λaD hs aB h'=>K (⟨o,fr,.v (.int .i64 es.length),0,k1⟩::aD) hs aB h'):AD P lt ops (o::l) fr h k1 K:=
 AD.free (ag.Te ha hk jh hw ex hz hd) hd T
end
section
variable {P:Program} {lt:LT} {ops:List Oper} {m:Nat} {X:ay->AH->Prop}
theorem M7 {oA oI oS oL:Oper} {fr:ay} {h h':AH} {s x iI vS xL:Operand} {t tI eI tS tL:TypeId} {sz gl:Nat} {xs y:AV} {es:List (List AV)} {zc cs jL Ke:List AV} {aw v d8 d9 B off:Nat} {k:IntKind}
 (rd:CG ops m=true) (o1:ops[m]? =some oA) (o2:ops[m+1]? =some oI) (o3:ops[m+2]? =some oS) (o4:ops[m+3]? =some oL) (g1:oA.guard=none) (g2:oI.guard=none) (g3:oS.guard=none) (g4:oL.guard=none)
 (ha:cD oA.op=some (s,x,t)) (hi:cC P t=some (sz,gl)) (dA:oA.dst=some d8) (S5:fr.ev s= .v xs) (S6:fr.ev x= .v y) (hy:aY sz y=some [zc]) (hS:zA h sz xs es aw v h') (hb:(es.length+1)*(gl+1)<=140737488355328)
 (hI:oI.op= .indexAddr tI (.tmp d8) iI) (dI:oI.dst=some d9) (Y9:P.underlying tI=some (.slice eI)) (Za:kW P eI=some sz) (S8:fr.ev iI= .v (.int k (es.length:Nat))) (ni:iI≠ .tmp d8)
 (Zb:oS.op= .store tS (.tmp d9) vS) (Zc:kW P tS=some sz) (dS:oS.dst=none) (Kf:mY fr vS=some cs) (uq:cs.length=sz) (Zd:vS≠ .tmp d8) (Ze:vS≠ .tmp d9)
 (Xl:oL.op= .store tL xL (.tmp d8)) (Uw:kW P tL=some 1) (dL:oL.dst=none) (Ta:fr.ev xL= .v (.ptr B off)) (pD:h'.get B=some (.cells jL)) (xn:off+1<=jL.length) (Xm:xL≠ .tmp d8) (Zf:xL≠ .tmp d9) (Zg:d8≠d9) (hd8:d8 <fr.n) (hd9:d9 <fr.n)
 (zU:setAt off [.vec (.own aw v) sz (es++[cs])] jL=Ke)
 (H:X ((fr.bf d8 (.v (.vec (.own aw v) sz (es++[cs])))).bf d9 .gI) (h'.set B (.cells Ke))):∃kX h2,M5 P lt ops m fr h h2 kX/\X kX h2:=
 ⟨_,_,λg0 w0 Q hQ a w S=>Kd rd o1 o2 o3 o4 g1 g2 g3 g4 ha hi dA S5 S6 hy hS hb hI dI Y9 Za S8 ni Zb Zc dS Kf uq Zd Ze Xl Uw dL Ta pD xn Xm Zf Zg hd8 hd9 zU hQ S,H⟩
end
def St {α:Type} (s:Bool) (o:Option (List Tok)) (s':Bool) (o':Option (List Tok)) (R:Option (α×List Tok)) (a:α):Prop:=s'=true->s=true/\o'=R.map (·.2)/\dO R λt'=>t'=a
theorem St.ex {α:Type} {s:Bool} {o o':Option (List Tok)} {R:Option (α×List Tok)} {a:α} (hv:dO R λt'=>t'=a) (e:o'=R.map (·.2):=by rfl):St s o s o' R a:=λhs=>⟨hs,e,hv⟩
theorem St.no {α:Type} {s:Bool} {o o':Option (List Tok)} {R:Option (α×List Tok)} {a:α}:St s o false o' R a:=λhs=>by cases hs
theorem St.ret {α:Type} {s:Bool} {o:Option (List Tok)} {a:α}:St s o s o ((Pa.ret a).on o) a:=λhs=>⟨hs,by cases o<;>rfl,λt l e=>by cases o with|none=>cases e|some L=>injection e with e;injection e with e1 e2;exact e1.symm⟩
theorem St.then {α β:Type} {s s1 s2:Bool} {o o1 o2:Option (List Tok)} {p:Pa α} {f:α->Pa β} {a:α} {b:β} (h1:St s o s1 o1 (p.on o) a) (h2:St s1 o1 s2 o2 ((f a).on o1) b):St s o s2 o2 ((p.andThen f).on o) b:=λhs=>by
 obtain⟨q1,q2,q3⟩:=h2 hs;obtain⟨r1,r2,r3⟩:=h1 q1;refine⟨r1,?_⟩;rw[mO]
 cases hp:p.on o with|none=>rw[hp]at r2;subst r2;exact⟨q2,q3⟩|some y=>rw[hp]at r2;subst r2;have:=r3 y.1 y.2 hp;simp only;rw[this];exact⟨q2,q3⟩
def Wh {α:Type} (x d:Nat) (s e a:Bool) (h0:AH) (o:Option (List Tok)) (c:Nat) (R:Option (List α×List Tok)) (C:List α->AV) (v:AV) (h':AH):Prop:=Kp [x] h0 h'/\∃o' s',RB h' x o' d s' e a/\Lt c o' o/\∃t,v=C t/\t.length<=2097152/\St s o s' o' R t
theorem CB.bd {α:Type} {hb h h':AH} {B sz x d:Nat} {enc:α->List AV} {e a s:Bool} {o:Option (List Tok)} {R:Option (α×List Tok)} {bs:List α} {v:AV} (q:CB hb B sz enc x d e a h s o R bs v h') (jN:bs.length<=1048578):
 Kp [x,B] (h.aw hb.nt) h'/\v= .cN []/\∃o' s' t,RB h' x o' d s' e a/\Lt 1 o' o/\(GB hb B sz enc (bs++[t]) h'/\(bs++[t]).length<=1048579)/\(s'=true->s=true/\o'=R.map (·.2)/\dO R λt'=>t'=t):=by
 obtain⟨q1,q2,o',s',t,q3,q4,q5,q6⟩:=q;exact⟨q1,q2,o',s',t,q3,q4,⟨q5,by simp;omega⟩,q6⟩
section
variable {h h0 hb:AH} {x B d k n:Nat} {o:Option (List Tok)} {s e a fixed fx:Bool} {w:ak} {ids:List Nat}
theorem Hl (J1:fx=fixed\/(fixed=true/\a=true)) (Kg:B≠x) {bs:List gx} (S:RB h x o 0 s e a) (j:GB hb B 4 gx.cs bs h) (jN:bs.length<=1048578):
 al prog 92 [.ref none [.ptr x 0],.ptr B 0,.ref none [.bool fixed]] h (CB hb B 4 gx.cs x 0 e a h s o ((zH fx).on o) bs):=by
 obtain⟨tk,es,b,y,H,T,G⟩:=GB.at_ S j Kg;have cv:=S.ne;have hlen:(bs.map gx.cs).length=bs.length:=by simp
 refine az (n:=18) (rs:=[]) [] ⟨func92,O,O,O⟩ O <| aH H G O λh H G Y=>ae O call52 (bg (.of H T)) ?_;rintro v h2 ⟨kp,⟨zl,AY,AZ,b1,eM,T1⟩,w1,rfl,nv⟩;replace H:=H.aA kp eM;replace G:=G.kp kp;refine aH H G O λh H G Y=>ae O call56 (dB (k:=7) (.of H T1) (by omega)) ?_;rintro v h2 ⟨kp,⟨pC,uy,lT,b2,bI,T2⟩,w2,rfl,pF⟩;replace H:=H.aA kp bI;replace G:=G.kp kp;refine Af 2 [] [] H G O λh H G Y=>Of 8 mx O O (by decide+kernel) ?_;refine AD.eP O O O O O H.jM.1 O O <| AD.run 3 O <| AD.gP O O call93 (EM (fx:=fx) 1001 0 _ _ _ J1 (.inr (by omega)) (by omega) (.of H T2)) O ?_;rintro v h2 ⟨kp,o5,s5,⟨Ew,Dl,rB,b5,mw,T5⟩,mz,t5,FK,J9⟩;replace H:=H.aA kp mw;have dJ:=H.jM.1;replace G:=G.kp kp;obtain⟨k1,r1,x1,e1⟩:=t5.shape;replace FK:v= .agg t5.cs:=FK;rw[e1]at FK;subst FK;refine AD.run 1 O <| AD.Te O O O O O G.1.elems O <| AD.run 1 O ?_;obtain⟨aw,vv,h3,hS,H3,q1,q2,GG⟩:=M6 H (show aG (h.aw hb.nt) _ 4 y _ from G.1);replace GG:=GG (.str w1::[.int .i64 k1,.str r1,.one x1]);have bF:h3.get B=some (.cells [y]):=H3.jM.1;refine AD.nil ⟨[1,0,0,0,2,0,0,0],_,O,by decide+kernel,O,⟨λe hk e1 e2=>?_,trivial⟩,?_⟩
 .injection e1 with e1
  injection e2 with e2
  subst e1 e2;exact ag.eP O O O O O dJ O
 refine M7 (es:=bs.map gx.cs) (cs:= .str w1::[.int .i64 k1,.str r1,.one x1]) (B:=B) (off:=0) (m:=8) (h':=h3) (by decide+kernel) O O O O O O O O O O O O O O hS ?_ O O O O O (by simp) O O O O O (by simp) (by simp) O O O O bF (by simp) (by simp) (by simp) (by decide) (show 16 <18 by decide) (show 17 <18 by decide) O ?_
 .show((bs.map gx.cs).length+1)*(64+1)<=140737488355328
  rw[hlen];omega
 have HH:=H3.ku (j:=1) (dH:=[.vec (.own aw vv) 4 (bs.map gx.cs++[.str w1::[.int .i64 k1,.str r1,.one x1]])]) O O;refine cy [] HH O (CB.mk (t:=⟨w1,t5⟩) HH T5 ?_ ?_ (St.then (.ex nv) (St.then (.ex pF) (St.then J9 .ret))))
 .exact((Lt.dR (aq 16).dR).trans ((Lt.dR (aq 8).dR).trans mz)).le (by omega)
 .have GG':aG (h.aw hb.nt) (h3.set B (.cells [.vec (.own aw vv) 4 (bs.map gx.cs++[.str w1::[.int .i64 k1,.str r1,.one x1]])])) 4 (.vec (.own aw vv) 4 (bs.map gx.cs++[.str w1::[.int .i64 k1,.str r1,.one x1]])) (bs.map gx.cs++[.str w1::[.int .i64 k1,.str r1,.one x1]]):=GG
  have e9:(bs++[(⟨w1,t5⟩:gx)]).map gx.cs=bs.map gx.cs++[.str w1::[.int .i64 k1,.str r1,.one x1]]:=by simp[gx.cs,e1]
  rw[e9];exact GG'.pE
end
end
section
attribute [local irreducible] aQ aU
theorem PU {α:Type} {g:Pa α} {sk ek:Nat} {o:Option (List Tok)} (h:fq o sk=false):(ca sk ek g).on o=o.map λl=>([],l):=by cases o with|none=>rfl|some L=>exact if_neg (of_decide_eq_false h)
theorem St.none_ {α:Type} {g:Pa α} {s:Bool} {sk ek:Nat} {o:Option (List Tok)} (h:fq o sk=false):St s o s o ((ca sk ek g).on o) []:=λhs=>by
 rw[PU h];refine⟨hs,by cases o<;>rfl,λt l e=>?_⟩
 cases o with|none=>cases e|some L=>injection e with e;injection e with e1 e2;exact e1.symm
section
variable {h h0 hb:AH} {x B d k n:Nat} {o:Option (List Tok)} {s e a fixed fx:Bool} {w:ak} {ids:List Nat}
theorem Kh (J1:fx=fixed\/(fixed=true/\a=true)) (S:RB h0 x o 0 s e a):
 al prog 53 [.ptr x 0,.bool fixed] h0 (SQ x 0 s e a h0 o 0 ((pX fx).on o) λt=> .one (bS 4 (t.map gx.cs))):=by
 refine al.obj (Q:=λv h'=>Kp [x] h0 h'/\∃o' s',RB h' x o' 0 s' e a/\Lt 0 o' o/\∃bs:List gx,ee v (.one (bS 4 (bs.map gx.cs)))/\St s o s' o' ((pX fx).on o) bs) ?_ (λv h' q=>by obtain⟨k,o',s',S,hl,bs,h1,h2⟩:=q;exact .inl ⟨_,h1,k,o',s',S,hl,bs,O,h2⟩)
 obtain⟨tk,es,b,H,T⟩:=S.at_;refine az (n:=13) (rs:=[.tmp 4]) [] ⟨func53,O,O,O⟩ O <| aS [2,3] [] H O λh H Y=>ae O call21 (fF (k:=4) (.of H T) (by omega)) ?_;rintro v h2 ⟨kp,rfl⟩;replace H:=H.same kp;refine aS [2,3] [] H O λh H Y=>af O (λhb=>?_) λhb=>?_
 .have dk:fq o 5=false:=by simpa using hb
  exact aS [2,3] [] H O λh H Y=>ab [] H O ⟨H.kp,_,s,.of H T,.refl,[],jD (λ_ _ _ h=>h) (.inl O),.none_ dk⟩
 .have dk:fq o 5=true:=by simpa using hb
  refine aS [2,3] [] H O λh H Y=>?_;have hB:=H.jM;have gX:=H.hv.1.2.2 _ (List.mem_cons_self ..);simp only at gX;refine ae O call54 (nY (ids:=[x,_]) (m:=h0.nt) (zH fx) (tx fx) call92 (by simp) (GB h0 _ 4 gx.cs) (λbs h h'=>GB.kp gX bs h h') (λo s bs h S j jN hm=>Hl J1 gX S j jN) (.of H T) (sk:=4) (ek:=5) (by omega) (by omega) ⟨hB.2,H.kp.nt,_,hB.1,.nil⟩ H.kp.nt) ?_;rintro v h2 ⟨kp,rfl,o4,s4,bs,⟨_,vO,mr,b4,jj,T4⟩,ax,⟨_,_,y,pD,G⟩,hS⟩;replace H:=H.oz kp jj pD;exact aS [2,3] [1] H O λh H Y=>ab [] H O ⟨H.kp,o4,s4,.of H T4,ax,bs,G.qe,λhs=>⟨(hS hs).1,(hS hs).2 dk⟩⟩
end
end
section
attribute [local irreducible] aQ aU bE
def OA {α:Type} (g:Pa α) (k:Nat) (o1 o4:Option (List Tok)) (bs:List α):Prop:=match o1 with
 |none=>o4=none
 |some l1=>tF g k l1 o4 (o4.map λ_=>bs)
theorem OA.start {α:Type} {g:Pa α} {k:Nat} {o:Option (List Tok)} (h:∀l,o=some l->l.length<=1048578):OA g k o o []:=by cases o with|none=>rfl|some l=>exact tF.start (h l O)
theorem OA.step {α:Type} {g:Pa α} {k:Nat} {o1 o5:Option (List Tok)} {l:List Tok} {bs:List α} {t:α} (h:OA g k o1 (some l) bs) (hd:j6 g) (hk:bC l=k) (e:o5=(g.on (some l.tail)).map (·.2)) (hv:dO (g.on (some l.tail)) λt'=>t'=t):OA g k o1 o5 (bs++[t]):=by
 cases o1 with
 |none=>cases h
 |some l1=>
  have lp:tF g k l1 ((g l.tail).map (·.2)) ((g l.tail).bind λx=>((some l).map λ_=>bs).map λbs=>bs++[x.1]):=tF.step hd h hk
  subst e;show tF g k l1 ((g l.tail).map (·.2)) (((g l.tail).map (·.2)).map λ_=>bs++[t])
  cases hg:g l.tail with|none=>rw[hg]at lp;exact lp|some y=>rw[hg]at lp;have:=hv y.1 y.2 hg;rw[<-this];exact lp
theorem OA.stop {α:Type} {g:Pa α} {k:Nat} {o o4:Option (List Tok)} {bs:List α} (h:OA g k o o4 bs) (hk:fq o4 k=false):o4=((bE g k dX).on o).map (·.2)/\dO ((bE g k dX).on o) λt=>t=bs:=by
 cases o with
 |none=>exact⟨h,λt l e=>by cases e⟩
 |some L=>
  cases o4 with
  |none=>
   have:(bE g k dX).on (some L)=none:=h.1
   rw[this];exact⟨O,λt l e=>by cases e⟩
  |some l=>
   obtain⟨Ow,q1,q2⟩:=tF.stop (h:tF g k L (some l) ((some l).map λ_=>bs)) (of_decide_eq_false hk);injection q1 with q1
   subst q1;have:(bE g k dX).on (some L)=some (bs,l):=q2;rw[this];exact⟨O,λt l e=>by injection e with e;injection e with e1 e2;exact e1.symm⟩
section
variable {h h0 hb:AH} {x B d k n:Nat} {o:Option (List Tok)} {s e a fixed fx:Bool} {w:ak} {ids:List Nat}
theorem dU (J1:fx=fixed\/(fixed=true/\a=true)) (S:RB h0 x o 0 s e a):
 al prog 27 [.ptr x 0,.bool fixed] h0 (Wh x 0 s e a h0 o 0 ((fI fx).on o) λt=> .one (bS 2 (t.map kl.cs))):=by
 refine al.obj (Q:=λv h'=>Kp [x] h0 h'/\∃o' s',RB h' x o' 0 s' e a/\Lt 0 o' o/\∃bs:List kl,ee v (.one (bS 2 (bs.map kl.cs)))/\bs.length<=2097152/\St s o s' o' ((fI fx).on o) bs) ?_ (λv h' q=>by obtain⟨k,o',s',S,hl,bs,h1,h2⟩:=q;exact .inl ⟨_,h1,k,o',s',S,hl,bs,O,h2⟩)
 obtain⟨tk,es,b,H,T⟩:=S.at_;refine az (n:=20) (rs:=[.tmp 4]) [] ⟨func27,O,O,O⟩ O <| ah H O λh H Y=>?_;have sw:∀l,o=some l->l.length<=1048578:=λl e=>by subst e;have:=T.len;omega
 refine aC 20 (λq:Option (List Tok)×Bool×List kl×AV=>mo q.1) (λq=>[(0,.ptr x 0),(1,.bool fixed),(5,q.2.2.2)])
  (λq h'=>∃tk es b,HI h0 [x] h' [(x,RC (.vec tk 6 es) 0 b q.2.1 e a)]/\TS q.2.1 q.1 b es/\bJ h0 h' 2 q.2.2.2 (q.2.2.1.map kl.cs)/\q.2.2.1.length<=1048579/\Lt 0 q.1 o/\(∀l,q.1=some l->q.2.2.1.length+l.length<=1048578)/\(q.2.1=true->s=true/\OA (sm fx) 10 o q.1 q.2.2.1))
  (λq:Option (List Tok)×Bool×List kl×AV=>[(0,.ptr x 0),(5,q.2.2.2)])
  (λq h'=>∃tk es b,HI h0 [x] h' [(x,RC (.vec tk 6 es) 0 b q.2.1 e a)]/\TS q.2.1 q.1 b es/\bJ h0 h' 2 q.2.2.2 (q.2.2.1.map kl.cs)/\q.2.2.1.length<=1048579/\Lt 0 q.1 o/\fq q.1 10=false/\(q.2.1=true->s=true/\OA (sm fx) 10 o q.1 q.2.2.1))
  (o,s,[],.ao) O ⟨_,_,_,H,T,.nil,Nat.zero_le _,.refl,(λl e=>by simpa using sw l e),λh=>⟨h,.start sw⟩⟩ ?_ ?_
 .clear H;rintro⟨o4,s4,ds,y⟩ h ⟨vO,mr,b4,H,T4,G,jR,ax,jP,hS⟩ again done;simp only at T4 G jR ax jP hS;refine aH H G O λh H G Y=>ae O call51 (fP (k:=9) (.of H T4) (by omega)) ?_;rintro v h2 ⟨kp,⟨Ew,Dl,rB,b5,mw,T5⟩,rfl⟩;replace H:=H.aA kp mw;replace G:=G.kp kp;refine aH H G O λh H G Y=>af O (λhq=>?_) λhq=>?_
  .cases o4 with
   |none=>cases hq
   |some l=>
    obtain⟨hl,e5⟩:=CA (by omega) hq;rw[e5]at T5;have jN:=jP l O;have Wi:1<=l.length:=by cases l with|nil=>simp[bC]at hl|cons=>simp
    refine aH H G O λh H G Y=>ae O call52 (bg (.of H T5)) ?_;rintro v h2 ⟨kp,⟨K7,IH,FJ,b6,su,T6⟩,w6,rfl,MZ⟩;replace H:=H.aA kp su;replace G:=G.kp kp;refine aH H G O λh H G Y=>ae O call53 (Kh J1 (.of H T6)) ?_;rintro v h2 ⟨kp,o7,s7,⟨KY,Wa,Wb,b7,xG,T7⟩,Zm,ES,rfl,hS7⟩;replace H:=H.aA kp xG;replace G:=G.kp kp;refine aH H G O λh H G Y=>eK H O O O O O O O G.1 ?_ ?_
    .have e9:(ds.map kl.cs).length=ds.length:=by simp
     show((ds.map kl.cs).length+1)*(40+1)<=140737488355328
     rw[e9];omega
    clear H G;intro x7 h H G n_;replace G:aG h0 h 2 x7 (ds.map kl.cs++[kl.cs ⟨w6,ES⟩]):=G;replace G:=G.pE;refine aH H G O λh H G Y=>?_;have Uh:Lt 0 o7 (some l.tail):=((Lt.dR (aq 16).dR).trans Zm).le (by omega);have Zn:Lt 1 o7 (some l):=λl' e=>by
     obtain⟨l6,e6,h6⟩:=Uh l' e;injection e6 with e6
     subst e6;exact⟨l,O,by simp at h6;omega⟩
    refine again (o7,s7,ds++[⟨w6,ES⟩],x7) (tP Zn) O ⟨_,_,_,H,T7,by simpa using G,(by simp;omega),(ax.trans Zn).le (by omega),λl' e=>?_,λhs=>?_⟩
    .obtain⟨l6,e6,h6⟩:=Zn l' e;injection e6 with e6
     subst e6;simp;omega
    .have st:St s4 (some l.tail) s7 o7 ((sm fx).on (some l.tail)) ⟨w6,ES⟩:=St.then (.ex MZ) (St.then hS7 .ret)
     obtain⟨q1,q2,q3⟩:=st hs;obtain⟨r1,r2⟩:=hS q1;exact⟨r1,r2.step (p7 fx) hl q2 q3⟩
  .have e5:((bB 10).on o4).map (·.2)=o4:=by rw[vN (by omega),if_neg (by rw[show fq o4 10=false from hq];simp)]
   have V7:TS s4 o4 b5 rB:=e5▸T5
   exact aH H G O λh H G Y=>done (o4,s4,ds,y) O ⟨_,_,_,H,V7,G,jR,ax,hq,hS⟩
 .clear H;rintro⟨o4,s4,ds,y⟩ h ⟨vO,mr,b4,H,T4,G,jR,ax,ka,hS⟩;simp only at T4 G jR ax ka hS;exact aH H G O λh H G Y=>ab [] H O ⟨H.kp,o4,s4,.of H T4,ax,ds,G.qe,(by omega),λhs=>⟨(hS hs).1,(hS hs).2.stop ka⟩⟩
end
end
section
attribute [local irreducible] aQ aU bE cK
theorem Hm {o:Option (List Tok)} {k:Nat} {b:Bool} (h:fq o k=b) (hk:2<=k:=by omega):dO ((bB k).on o) λt=>t=b:=λt l e=>(MV hk t l e).symm.trans h
section
variable {h h0 hb:AH} {x B d k n:Nat} {o:Option (List Tok)} {s e a fixed fx:Bool} {w:ak} {ids:List Nat}
theorem zV (Kg:B≠x) {bs:List aW} (S:RB h0 x o 0 s e a) (j:GB hb B 7 aW.cs bs h0) (jN:bs.length<=1048578):
 al prog 94 [.ref none [.ptr x 0],.ptr B 0] h0 (CB hb B 7 aW.cs x 0 e a h0 s o (ij.on o) bs):=by
 obtain⟨tk,es,b,y,H,T,G⟩:=GB.at_ S j Kg;replace G:bJ (h0.aw hb.nt) h0 7 y (bs.map aW.cs):=G;have hlen:(bs.map aW.cs).length=bs.length:=by simp
 refine az (n:=27) (rs:=[]) [] ⟨func94,O,O,O⟩ O <| aH H G O λh H G Y=>ae O call22 (tO (.of H T)) ?_;rintro v h2 ⟨kp,⟨zl,AY,AZ,b1,eM,T1⟩,w1,rfl,nv⟩;replace H:=H.aA kp eM;replace G:=G.kp kp;refine bm [2] H G O λh H G Y=>ae O call52 (bg (.of H T1)) ?_;rintro v h2 ⟨kp,⟨pC,uy,lT,b2,bI,T2⟩,w2,rfl,pF⟩;replace H:=H.aA kp bI;replace G:=G.kp kp;refine bm [2] H G O λh H G Y=>ae O call56 (dB (k:=7) (.of H T2) (by omega)) ?_;rintro v h2 ⟨kp,⟨AO,wS,wo,b3,bF,T3⟩,w3,rfl,Ki⟩;replace H:=H.aA kp bF;replace G:=G.kp kp;refine aH H G O λh H G Y=>ae O call95 (EH 1001 0 _ _ (.inr (by omega)) (by omega) (.of H T3)) ?_;rintro v h2 ⟨kp,⟨Xi,vO,mr,b4,jj,T4⟩,t4,rfl,Xn⟩;replace H:=H.aA kp jj;replace G:=G.kp kp;obtain⟨tn,tz,tb,e4⟩:=t4.shape;rw[e4];refine bm [2] H G O λh H G Y=>ae O call51 (fP (k:=8) (.of H T4) (by omega)) ?_;rintro v h2 ⟨kp,⟨Ew,Dl,rB,b5,mw,T5⟩,rfl⟩;replace H:=H.aA kp mw;replace G:=G.kp kp;have l1:Lt 1 _ o:=(((Lt.dR iM).trans (Lt.dec (aq 16))).trans ((Lt.dR (aq 8).dR).trans ((Lt.dR (p5 1001 0).dR).trans (Lt.dR (lY 9))))).le (by omega);refine aH H G O λh H G Y=>af O (λhq=>?_) λhq=>?_
 .refine aH H G O λh H G Y=>ae O call93 (EM (fx:=true) 1001 0 _ _ _ (.inl O) (.inr (by omega)) (by omega) (.of H T5)) ?_;rintro v h2 ⟨kp,o6,s6,⟨K7,IH,FJ,b6,su,T6⟩,Wj,t6,Oz,Wd⟩;replace H:=H.aA kp su;replace G:=G.kp kp;obtain⟨k1,r1,x1,e6⟩:=t6.shape;replace Oz:v= .agg t6.cs:=Oz;rw[e6]at Oz;subst Oz;refine bm [2] H G O λh H G Y=>ae O call27 (dU (fx:=true) (.inl O) (.of H T6)) ?_;rintro v h2 ⟨kp,o8,s8,⟨CD,CE,A0,b8,nL,T8⟩,gH,ds,rfl,nj,py⟩;replace H:=H.aA kp nL;replace G:=G.kp kp;refine fm 2 [.str w1,.str w2,.str tn,.one tz,.bool tb,.one (bS 3 ([t6].map dM.cs)),.ao] H O O ⟨.refl _,.refl _,.refl _,.refl _,.refl _,bj (by simp only[List.map];rw[e6];exact j9),.refl _,trivial⟩ λh H Y=>?_;replace G:=G.eq Y.2.1 Y.2.2;refine bm [2,1,2] H G O λh H G Y=>eK H O O O O O O O G.1 ?_ ?_
  .show((bs.map aW.cs).length+1)*(128+1)<=140737488355328
   rw[hlen];omega
  clear H G;intro x9 h H G n_;replace G:aG (h0.aw hb.nt) h 7 x9 (bs.map aW.cs++[aW.cs ⟨w1,w2,t4,[t6],ds⟩]):=by have:=G;simpa[aW.cs,e4]using this
  obtain⟨lM,rfl⟩:=ck G;replace G:=G.pE;exact bm [1] H G O λh H G Y=>cy [] H O (CB.mk (t:=⟨w1,w2,t4,[t6],ds⟩) H T8 (((l1.trans Wj).trans gH).le (by omega)) (by rw[List.map_append];exact G) (St.then (.ex nv) (St.then (.ex pF) (St.then (.ex Ki) (St.then (.ex Xn) (St.then (p:=pY 9) (St.then (a:=true) (.ex (Hm hq)) (St.then Wd .ret)) (St.then py .ret)))))))
 .refine aH H G O λh H G Y=>ae O call27 (dU (fx:=true) (.inl O) (.of H T5)) ?_;rintro v h2 ⟨kp,o8,s8,⟨CD,CE,A0,b8,nL,T8⟩,gH,ds,rfl,nj,py⟩;replace H:=H.aA kp nL;replace G:=G.kp kp;refine fm 2 [.str w1,.str w2,.str tn,.one tz,.bool tb,.one (bS 3 (([]:List dM).map dM.cs)),.ao] H O O ⟨.refl _,.refl _,.refl _,.refl _,.refl _,bj (λ_ _ _ h=>h),.refl _,trivial⟩ λh H Y=>have G:=G.eq Y.2.1 Y.2.2;bm [2,1,2] H G O λh H G Y=>?_;refine eK H O O O O O O O G.1 ?_ ?_
  .show((bs.map aW.cs).length+1)*(128+1)<=140737488355328
   rw[hlen];omega
  clear H G;intro x9 h H G n_;replace G:aG (h0.aw hb.nt) h 7 x9 (bs.map aW.cs++[aW.cs ⟨w1,w2,t4,[],ds⟩]):=by have:=G;simpa[aW.cs,e4]using this
  obtain⟨lM,rfl⟩:=ck G;replace G:=G.pE;exact bm [1] H G O λh H G Y=>cy [] H O (CB.mk (t:=⟨w1,w2,t4,[],ds⟩) H T8 ((l1.trans gH).le (by omega)) (by rw[List.map_append];exact G) (St.then (.ex nv) (St.then (.ex pF) (St.then (.ex Ki) (St.then (.ex Xn) (St.then (p:=pY 9) (St.then (a:=false) (.ex (Hm hq)) .ret) (St.then py .ret)))))))
end
section
variable {h h0 hb:AH} {x B d k n:Nat} {o:Option (List Tok)} {s e a fixed fx:Bool} {w:ak} {ids:List Nat}
theorem oG {sk ek:Nat} (hs:1<=sk) (he:1<=ek) (S:RB h0 x o 0 s e a):
 al prog 57 [.ptr x 0,.int .i64 (sk:Nat),.int .i64 (ek:Nat)] h0 (Wh x 0 s e a h0 o 0 ((ca (sk+1) (ek+1) ij).on o) λt=> .one (bS 7 (t.map aW.cs))):=by
 refine al.obj (Q:=λv h'=>Kp [x] h0 h'/\∃o' s',RB h' x o' 0 s' e a/\Lt 0 o' o/\∃bs:List aW,ee v (.one (bS 7 (bs.map aW.cs)))/\bs.length<=2097152/\St s o s' o' ((ca (sk+1) (ek+1) ij).on o) bs) ?_ (λv h' q=>by obtain⟨k,o',s',S,hl,bs,h1,h2⟩:=q;exact .inl ⟨_,h1,k,o',s',S,hl,bs,O,h2⟩)
 obtain⟨tk,es,b,H,T⟩:=S.at_;refine az (n:=18) (rs:=[.tmp 6]) [] ⟨func57,O,O,O⟩ O <| aS [3] [] H O λh H Y=>ae O call21 (fF (k:=sk) (.of H T) (by omega)) ?_;rintro v h2 ⟨kp,rfl⟩;replace H:=H.same kp;refine aS [3] [] H O λh H Y=>af O (λhb=>?_) λhb=>?_
 .have dk:fq o (sk+1)=false:=by simpa using hb
  exact aS [3] [] H O λh H Y=>ab [] H O ⟨H.kp,_,s,.of H T,.refl,[],jD (λ_ _ _ h=>h) (.inl O),Nat.zero_le _,.none_ dk⟩
 .have dk:fq o (sk+1)=true:=by simpa using hb
  refine aS [3] [] H O λh H Y=>?_;have hB:=H.jM;have gX:=H.hv.1.2.2 _ (List.mem_cons_self ..);simp only at gX;refine ae O call54 (nY (ids:=[x,_]) (m:=h0.nt) ij mN call94 (by simp) (λbs h=>GB h0 _ 7 aW.cs bs h/\bs.length<=1048579) (λbs h h' j k=>⟨GB.kp gX bs h h' j.1 k,j.2⟩) (λo s bs h S j jN hm=>(zV gX S j.1 jN).mono λv h' q=>q.bd jN) (.of H T) (sk:=sk) (ek:=ek) (by omega) (by omega) ⟨⟨hB.2,H.kp.nt,_,hB.1,.nil⟩,Nat.zero_le _⟩ H.kp.nt) ?_;rintro v h2 ⟨kp,rfl,o4,s4,bs,⟨_,vO,mr,b4,jj,T4⟩,ax,⟨⟨_,_,y,pD,G⟩,A7⟩,hS⟩;replace H:=H.oz kp jj pD;refine aS [3] [1] H O λh H Y=>?_;exact ab [] H O ⟨H.kp,o4,s4,.of H T4,ax,bs,G.qe,by omega,λhs=>⟨(hS hs).1,(hS hs).2 dk⟩⟩
end
end
section
attribute [local irreducible] aQ aU bE cK
section
variable {h h0 hb:AH} {x B d k n:Nat} {o:Option (List Tok)} {s e a fixed fx:Bool} {w:ak} {ids:List Nat}
theorem CH (Kg:B≠x) {bs:List jV} (S:RB h0 x o 0 s e a) (j:GB hb B 8 jV.cs bs h0) (jN:bs.length<=1048578):
 al prog 96 [.ref none [.ptr x 0],.ptr B 0] h0 (CB hb B 8 jV.cs x 0 e a h0 s o (lX.on o) bs):=by
 obtain⟨tk,es,b,y,H,T,G⟩:=GB.at_ S j Kg;replace G:bJ (h0.aw hb.nt) h0 8 y (bs.map jV.cs):=G;have hlen:(bs.map jV.cs).length=bs.length:=by simp
 refine az (n:=24) (rs:=[]) [] ⟨func96,O,O,O⟩ O <| aH H G O λh H G Y=>ae O call22 (tO (.of H T)) ?_;rintro v h2 ⟨kp,⟨zl,AY,AZ,b1,eM,T1⟩,w1,rfl,nv⟩;replace H:=H.aA kp eM;replace G:=G.kp kp;refine bm [2] H G O λh H G Y=>ae O call52 (bg (.of H T1)) ?_;rintro v h2 ⟨kp,⟨pC,uy,lT,b2,bI,T2⟩,w2,rfl,pF⟩;replace H:=H.aA kp bI;replace G:=G.kp kp;refine bm [2] H G O λh H G Y=>ae O call57 (oG (sk:=4) (ek:=5) (by omega) (by omega) (.of H T2)) ?_;rintro v h2 ⟨kp,o3,s3,⟨AO,wS,wo,b3,bF,T3⟩,yu,ES,rfl,M8,M9⟩;replace H:=H.aA kp bF;replace G:=G.kp kp;refine bm [2] H G O λh H G Y=>ae O call56 (dB (k:=7) (.of H T3) (by omega)) ?_;rintro v h2 ⟨kp,⟨Ew,Dl,rB,b5,mw,T5⟩,w5,rfl,V8⟩;replace H:=H.aA kp mw;replace G:=G.kp kp;refine aH H G O λh H G Y=>ae O call95 (EH 1001 0 _ _ (.inr (by omega)) (by omega) (.of H T5)) ?_;rintro v h2 ⟨kp,⟨Xi,vO,mr,b4,jj,T4⟩,t4,rfl,Xn⟩;replace H:=H.aA kp jj;replace G:=G.kp kp;obtain⟨tn,tz,tb,e4⟩:=t4.shape;rw[e4];refine bm [2] H G O λh H G Y=>ae O call27 (dU (fx:=true) (.inl O) (.of H T4)) ?_;rintro v h2 ⟨kp,o8,s8,⟨CD,CE,A0,b8,nL,T8⟩,gH,ds,rfl,nj,py⟩;replace H:=H.aA kp nL;replace G:=G.kp kp;refine fm 2 [.str w1,.str w2,.one (bS 7 (ES.map aW.cs)),.one (bS 3 (([]:List dM).map dM.cs)),.str tn,.one tz,.bool tb,.ao] H O O ⟨.refl _,.refl _,.refl _,bj (λ_ _ _ h=>h),.refl _,.refl _,.refl _,.refl _,trivial⟩ λh H Y=>have G:=G.eq Y.2.1 Y.2.2;bm [2,1,2] H G O λh H G Y=>?_;refine eK H O O O O O O O G.1 ?_ ?_
 .show((bs.map jV.cs).length+1)*(152+1)<=140737488355328
  rw[hlen];omega
 clear H G;intro x9 h H G n_;replace G:aG (h0.aw hb.nt) h 8 x9 (bs.map jV.cs++[jV.cs ⟨w1,w2,ES,[],t4,ds⟩]):=by have:=G;simpa[jV.cs,e4]using this
 obtain⟨lM,rfl⟩:=ck G;replace G:=G.pE;exact bm [1] H G O λh H G Y=>cy [] H O (CB.mk (t:=⟨w1,w2,ES,[],t4,ds⟩) H T8 (((((Lt.dR iM).trans (Lt.dec (aq 16))).trans (yu.trans ((Lt.dR (aq 8).dR).trans (Lt.dR (p5 1001 0).dR)))).trans gH).le (by omega)) (by rw[List.map_append];exact G) (St.then (.ex nv) (St.then (.ex pF) (St.then (p:=lW) M9 (St.then (.ex V8) (St.then (.ex Xn) (St.then py .ret)))))))
end
section
variable {h h0 hb:AH} {x B d k n:Nat} {o:Option (List Tok)} {s e a fixed fx:Bool} {w:ak} {ids:List Nat}
theorem vQ (S:RB h0 x o 0 s e a):
 al prog 62 [.ptr x 0] h0 (Wh x 0 s e a h0 o 0 ((ca (12+1) (13+1) lX).on o) λt=> .one (bS 8 (t.map jV.cs))):=by
 refine al.obj (Q:=λv h'=>Kp [x] h0 h'/\∃o' s',RB h' x o' 0 s' e a/\Lt 0 o' o/\∃bs:List jV,ee v (.one (bS 8 (bs.map jV.cs)))/\bs.length<=2097152/\St s o s' o' ((ca (12+1) (13+1) lX).on o) bs) ?_ (λv h' q=>by obtain⟨k,o',s',S,hl,bs,h1,h2⟩:=q;exact .inl ⟨_,h1,k,o',s',S,hl,bs,O,h2⟩)
 obtain⟨tk,es,b,H,T⟩:=S.at_;refine az (n:=11) (rs:=[.tmp 2]) [] ⟨func62,O,O,O⟩ O <| aS [1] [] H O λh H Y=>ae O call21 (fF (k:=12) (.of H T) (by omega)) ?_;rintro v h2 ⟨kp,rfl⟩;replace H:=H.same kp;refine aS [1] [] H O λh H Y=>af O (λhb=>?_) λhb=>?_
 .have dk:fq o (12+1)=false:=by simpa using hb
  exact aS [1] [] H O λh H Y=>ab [] H O ⟨H.kp,_,s,.of H T,.refl,[],jD (λ_ _ _ h=>h) (.inl O),Nat.zero_le _,.none_ dk⟩
 .have dk:fq o (12+1)=true:=by simpa using hb
  refine aS [1] [] H O λh H Y=>?_;have hB:=H.jM;have gX:=H.hv.1.2.2 _ (List.mem_cons_self ..);simp only at gX;refine ae O call54 (nY (ids:=[x,_]) (m:=h0.nt) lX ow call96 (by simp) (λbs h=>GB h0 _ 8 jV.cs bs h/\bs.length<=1048579) (λbs h h' j k=>⟨GB.kp gX bs h h' j.1 k,j.2⟩) (λo s bs h S j jN hm=>(CH gX S j.1 jN).mono λv h' q=>q.bd jN) (.of H T) (sk:=12) (ek:=13) (by omega) (by omega) ⟨⟨hB.2,H.kp.nt,_,hB.1,.nil⟩,Nat.zero_le _⟩ H.kp.nt) ?_;rintro v h2 ⟨kp,rfl,o4,s4,bs,⟨_,vO,mr,b4,jj,T4⟩,ax,⟨⟨_,_,y,pD,G⟩,A7⟩,hS⟩;replace H:=H.oz kp jj pD;refine aS [1] [1] H O λh H Y=>?_;exact ab [] H O ⟨H.kp,o4,s4,.of H T4,ax,bs,G.qe,by omega,λhs=>⟨(hS hs).1,(hS hs).2 dk⟩⟩
end
end
section
attribute [local irreducible] aQ aU bE cK
theorem Lt.CI {a c:Nat} {o8 o:Option (List Tok)} (h:Lt a o8 (Option.none:Option (List Tok))):Lt c o8 o:=λl' e=>by
 obtain⟨l,e1,_⟩:=h l' e
 cases e1
theorem TS.first {s b:Bool} {o:Option (List Tok)} {es:List (List AV)} {k:Nat} (T:TS s o b es) (h:fq o (k+1+1)=true):∃t ts c cs,o=some (t::ts)/\es=c::cs/\jE t c:=by
 cases o with
 |none=>cases h
 |some L=>
  obtain⟨_,⟨rfl,_⟩|⟨t,ts,c,cs,rfl,e,h1,_,_⟩⟩:=T.cases
  .have:bC [kT]=k+1+1:=of_decide_eq_true h
   simp[bC,kT]at this
  .exact⟨t,_,c,cs,O,e,h1⟩
section
variable {h h0 hb:AH} {x B d k n:Nat} {o:Option (List Tok)} {s e a fixed fx:Bool} {w:ak} {ids:List Nat}
theorem ET (Kg:B≠x) {bs:List cg} (S:RB h0 x o 0 s e a) (j:GB hb B 3 cg.cs bs h0) (jN:bs.length<=1048578):
 al prog 97 [.ref none [.ptr x 0],.ptr B 0] h0 (CB hb B 3 cg.cs x 0 e a h0 s o (pZ.on o) bs):=by
 obtain⟨tk,es,b,y,H,T,G⟩:=GB.at_ S j Kg;replace G:bJ (h0.aw hb.nt) h0 3 y (bs.map cg.cs):=G;have hlen:(bs.map cg.cs).length=bs.length:=by simp
 refine az (n:=35) (rs:=[]) [] ⟨func97,O,O,O⟩ O <| aH H G O λh H G Y=>ae O call22 (tO (.of H T)) ?_;rintro v h2 ⟨kp,⟨zl,AY,AZ,b1,eM,T1⟩,w1,rfl,nv⟩;replace H:=H.aA kp eM;replace G:=G.kp kp;refine bm [2] H G O λh H G Y=>ae O call21 (fF (k:=15) (.of H T1) (by omega)) ?_;rintro v h2 ⟨kp,rfl⟩;replace H:=H.same kp;replace G:=G.kp kp;refine aH H G O λh H G Y=>aj O (λhq=>?_) (λhq=>?_)
 .obtain⟨t,ts,c,cs,hL,hE,⟨p1,p2,p3,p4,hc⟩⟩:=T1.first hq;subst hE hc;refine bm [0] H G O λh H G Y=>ba (ag.indexAddr O O O O O O (Int.le_refl 0) O) O <| aH H G O λh H G Y=>aF O call98 (tN _) <| aH H G O λh H G Y=>af O (λhk=>?_) λhk=>?_
  .refine bm [0,0] H G O λh H G Y=>ae O call52 (bg (.of H (show TS false none true _ from O))) ?_;rintro v h2 ⟨kp,⟨pC,uy,lT,b2,bI,T2⟩,w2,rfl,pF⟩;replace H:=H.aA kp bI;replace G:=G.kp kp;refine bm [2] H G O λh H G Y=>ae O call27 (dU (fx:=true) (.inl O) (.of H T2)) ?_;rintro v h2 ⟨kp,o8,s8,⟨CD,CE,A0,b8,nL,T8⟩,gH,ds,rfl,nj,py⟩;replace H:=H.aA kp nL;replace G:=G.kp kp;refine bm [2,1,2] H G O λh H G Y=>eK H O O O O O O O G.1 ?_ ?_
   .show((bs.map cg.cs).length+1)*(56+1)<=140737488355328
    rw[hlen];omega
   clear H G;intro x9 h H G n_;replace G:aG (h0.aw hb.nt) h 3 x9 (bs.map cg.cs++[cg.cs ⟨w1,w2,ds⟩]):=by have:=G;simpa[cg.cs]using this
   obtain⟨lM,rfl⟩:=ck G;replace G:=G.pE;exact bm [1] H G O λh H G Y=>cy [] H O (CB.mk (t:=⟨w1,w2,ds⟩) H T8 (Lt.CI gH) (by rw[List.map_append];exact G) (λhs=>absurd (py hs).1 (by simp)))
  .refine aH H G O λh H G Y=>ae O call52 (bg (.of H T1)) ?_;rintro v h2 ⟨kp,⟨pC,uy,lT,b2,bI,T2⟩,w2,rfl,pF⟩;replace H:=H.aA kp bI;replace G:=G.kp kp;refine bm [2] H G O λh H G Y=>ae O call27 (dU (fx:=true) (.inl O) (.of H T2)) ?_;rintro v h2 ⟨kp,o8,s8,⟨CD,CE,A0,b8,nL,T8⟩,gH,ds,rfl,nj,py⟩;replace H:=H.aA kp nL;replace G:=G.kp kp;refine bm [2,1,2] H G O λh H G Y=>eK H O O O O O O O G.1 ?_ ?_
   .show((bs.map cg.cs).length+1)*(56+1)<=140737488355328
    rw[hlen];omega
   clear H G;intro x9 h H G n_;replace G:aG (h0.aw hb.nt) h 3 x9 (bs.map cg.cs++[cg.cs ⟨w1,w2,ds⟩]):=by have:=G;simpa[cg.cs]using this
   obtain⟨lM,rfl⟩:=ck G;replace G:=G.pE;exact bm [1] H G O λh H G Y=>cy [] H O (CB.mk (t:=⟨w1,w2,ds⟩) H T8 ((((Lt.dR iM).trans (Lt.dec (aq 16))).trans gH).le (by omega)) (by rw[List.map_append];exact G) (St.then (.ex nv) (St.then (.ex pF) (St.then py .ret))))
 .refine bm [90] H G O λh H G Y=>ae O call52 (bg (.of H T1)) ?_;rintro v h2 ⟨kp,⟨pC,uy,lT,b2,bI,T2⟩,w2,rfl,pF⟩;replace H:=H.aA kp bI;replace G:=G.kp kp;refine bm [2] H G O λh H G Y=>ae O call27 (dU (fx:=true) (.inl O) (.of H T2)) ?_;rintro v h2 ⟨kp,o8,s8,⟨CD,CE,A0,b8,nL,T8⟩,gH,ds,rfl,nj,py⟩;replace H:=H.aA kp nL;replace G:=G.kp kp;refine bm [2,1,2] H G O λh H G Y=>eK H O O O O O O O G.1 ?_ ?_
  .show((bs.map cg.cs).length+1)*(56+1)<=140737488355328
   rw[hlen];omega
  clear H G;intro x9 h H G n_;replace G:aG (h0.aw hb.nt) h 3 x9 (bs.map cg.cs++[cg.cs ⟨w1,w2,ds⟩]):=by have:=G;simpa[cg.cs]using this
  obtain⟨lM,rfl⟩:=ck G;replace G:=G.pE;exact bm [1] H G O λh H G Y=>cy [] H O (CB.mk (t:=⟨w1,w2,ds⟩) H T8 ((((Lt.dR iM).trans (Lt.dec (aq 16))).trans gH).le (by omega)) (by rw[List.map_append];exact G) (St.then (.ex nv) (St.then (.ex pF) (St.then py .ret))))
end
section
variable {h h0 hb:AH} {x B d k n:Nat} {o:Option (List Tok)} {s e a fixed fx:Bool} {w:ak} {ids:List Nat}
theorem Hn (S:RB h0 x o 0 s e a):
 al prog 65 [.ptr x 0] h0 (Wh x 0 s e a h0 o 0 ((ca (12+1) (13+1) pZ).on o) λt=> .one (bS 3 (t.map cg.cs))):=by
 refine al.obj (Q:=λv h'=>Kp [x] h0 h'/\∃o' s',RB h' x o' 0 s' e a/\Lt 0 o' o/\∃bs:List cg,ee v (.one (bS 3 (bs.map cg.cs)))/\bs.length<=2097152/\St s o s' o' ((ca (12+1) (13+1) pZ).on o) bs) ?_ (λv h' q=>by obtain⟨k,o',s',S,hl,bs,h1,h2⟩:=q;exact .inl ⟨_,h1,k,o',s',S,hl,bs,O,h2⟩)
 obtain⟨tk,es,b,H,T⟩:=S.at_;refine az (n:=11) (rs:=[.tmp 2]) [] ⟨func65,O,O,O⟩ O <| aS [1] [] H O λh H Y=>ae O call21 (fF (k:=12) (.of H T) (by omega)) ?_;rintro v h2 ⟨kp,rfl⟩;replace H:=H.same kp;refine aS [1] [] H O λh H Y=>af O (λhb=>?_) λhb=>?_
 .have dk:fq o (12+1)=false:=by simpa using hb
  exact aS [1] [] H O λh H Y=>ab [] H O ⟨H.kp,_,s,.of H T,.refl,[],jD (λ_ _ _ h=>h) (.inl O),Nat.zero_le _,.none_ dk⟩
 .have dk:fq o (12+1)=true:=by simpa using hb
  refine aS [1] [] H O λh H Y=>?_;have hB:=H.jM;have gX:=H.hv.1.2.2 _ (List.mem_cons_self ..);simp only at gX;refine ae O call54 (nY (ids:=[x,_]) (m:=h0.nt) pZ qS call97 (by simp) (λbs h=>GB h0 _ 3 cg.cs bs h/\bs.length<=1048579) (λbs h h' j k=>⟨GB.kp gX bs h h' j.1 k,j.2⟩) (λo s bs h S j jN hm=>(ET gX S j.1 jN).mono λv h' q=>q.bd jN) (.of H T) (sk:=12) (ek:=13) (by omega) (by omega) ⟨⟨hB.2,H.kp.nt,_,hB.1,.nil⟩,Nat.zero_le _⟩ H.kp.nt) ?_;rintro v h2 ⟨kp,rfl,o4,s4,bs,⟨_,vO,mr,b4,jj,T4⟩,ax,⟨⟨_,_,y,pD,G⟩,A7⟩,hS⟩;replace H:=H.oz kp jj pD;refine aS [1] [1] H O λh H Y=>?_;exact ab [] H O ⟨H.kp,o4,s4,.of H T4,ax,bs,G.qe,by omega,λhs=>⟨(hS hs).1,(hS hs).2 dk⟩⟩
end
end
section
attribute [local irreducible] aQ aU bE cK
theorem TS.nw {s b:Bool} {L:List Tok} {es:List (List AV)} (T:TS s (some L) b es) (hs:s=true) (h:dN L∈[rq,br,fJ,cQ,bz]):bC L=16:=by
 obtain⟨_,_,ts,rfl,_,_,hn⟩:=T
 cases ts with|nil=>simp[dN,kT]at h|cons t ts=>exact hn hs t (by simp) h
theorem Na {w:ak} (h:w=fJ\/w=cQ\/w=bz):w∈[rq,br,fJ,cQ,bz]:=by rcases h with rfl|rfl|rfl<;>simp
theorem qZ {L:List Tok} (h:bC L=16):ar L=some (dN L,L.tail):=by
 cases L with
 |nil=>simp[bC]at h
 |cons t r=>
  have hk:t.k=16:=h
  show aE 16 (t::r)=_
  unfold aE;simp only[if_pos hk];rfl
theorem q7 {L:List Tok} (h:¬ bC L=16):ar L=none:=by
 cases L with
 |nil=>rfl
 |cons t r=>
  have hk:¬ t.k=16:=h
  show aE 16 (t::r)=_
  unfold aE;simp only[if_neg hk]
theorem CJ {s b:Bool} {o:Option (List Tok)} {es:List (List AV)} {w:ak} (T:TS s o b es) (hw:dO (ar.on o) λt=>t=w) (h:w=fJ\/w=cQ\/w=bz):St s o s ((ar.on o).map (·.2)) (jd.on o) w:=λhs=>by
 cases o with
 |none=>exact⟨hs,O,λt l e=>by cases e⟩
 |some L=>
  show s=true/\(ar L).map (·.2)=(jd L).map (·.2)/\dO (jd L) λt=>t=w
  by_cases hk:bC L=16
  .have e:=qZ hk
   have hv:dN L=w:=hw _ _ e
   have eo:jd L=some (dN L,L.tail):=if_pos (by rw[hv];exact h)
   rw[e,eo];exact⟨hs,O,λt l e=>by injection e with e;injection e with e1 e2;rw[<-e1];exact hv⟩
  .have e:=q7 hk
   have eo:jd L=none:=if_neg λhv=>hk (T.nw hs (Na hv))
   rw[e,eo];exact⟨hs,O,λt l e=>by cases e⟩
theorem PV {s b:Bool} {o:Option (List Tok)} {es:List (List AV)} {w:ak} (T:TS s o b es) (hw:dO (ar.on o) λt=>t=w) (h:¬ (w=fJ\/w=cQ\/w=bz)):St s o s none (jd.on o) w:=λhs=>by
 cases o with
 |none=>exact⟨hs,O,λt l e=>by cases e⟩
 |some L=>
  have eo:jd L=none:=if_neg λhv=>by
   have hk:=T.nw hs (Na hv)
   have:=hw _ _ (qZ hk)
   exact h (this▸hv)
  show s=true/\none=(jd L).map (·.2)/\dO (jd L) λt=>t=w
  rw[eo];exact⟨hs,O,λt l e=>by cases e⟩
section
variable {h h0 hb:AH} {x B d k n:Nat} {o:Option (List Tok)} {s e a fixed fx:Bool} {w:ak} {ids:List Nat}
theorem EU (Kg:B≠x) {bs:List fD} (S:RB h0 x o 0 s e a) (j:GB hb B 2 fD.cs bs h0) (jN:bs.length<=1048578):
 al prog 55 [.ref none [.ptr x 0],.ptr B 0] h0 (CB hb B 2 fD.cs x 0 e a h0 s o (tp.on o) bs):=by
 obtain⟨tk,es,b,y,H,T,G⟩:=GB.at_ S j Kg;replace G:bJ (h0.aw hb.nt) h0 2 y (bs.map fD.cs):=G;have hlen:(bs.map fD.cs).length=bs.length:=by simp
 refine az (n:=31) (rs:=[]) [] ⟨func55,O,O,O⟩ O <| aH H G O λh H G Y=>ae O call52 (bg (.of H T)) ?_;rintro v h2 ⟨kp,⟨zl,AY,AZ,b1,eM,T1⟩,w1,rfl,nv⟩;replace H:=H.aA kp eM;replace G:=G.kp kp;refine bm [2,2] H G O λh H G Y=>aj O (λhq=>?_) (λhq=>?_)
 .refine bm [2] H G O λh H G Y=>aj O (λhm=>?_) (λhm=>?_)
  .refine bm [2] H G O λh H G Y=>af O (λhu=>?_) λhu=>?_
   .refine bm [0] H G O λh H G Y=>ae O call56 (dB (k:=7) (.of H (show TS s none true _ from O)) (by omega)) ?_;rintro v h2 ⟨kp,⟨AO,wS,wo,b3,bF,T3⟩,w3,rfl,Ki⟩;replace H:=H.aA kp bF;replace G:=G.kp kp;refine aH H G O λh H G Y=>ae O call52 (bg (.of H T3)) ?_;rintro v h2 ⟨kp,⟨pC,uy,lT,b2,bI,T2⟩,w2,rfl,pF⟩;replace H:=H.aA kp bI;replace G:=G.kp kp;refine bm [2,1,2] H G O λh H G Y=>eK H O O O O O O O G.1 ?_ ?_
    .show((bs.map fD.cs).length+1)*(32+1)<=140737488355328
     rw[hlen];omega
    clear H G;intro x9 h H G n_;replace G:aG (h0.aw hb.nt) h 2 x9 (bs.map fD.cs++[fD.cs ⟨w1,w2⟩]):=by have:=G;simpa[fD.cs]using this
    obtain⟨lM,rfl⟩:=ck G;replace G:=G.pE;exact bm [1] H G O λh H G Y=>cy [] H O (CB.mk (t:=⟨w1,w2⟩) H T2 (Lt.CI ((Lt.dR (aq 8).dR).trans (Lt.dR (aq 16).dR))) (by rw[List.map_append];exact G) (St.then (PV T nv (by simp at hq hm hu;exact λh=>h.elim hq λh=>h.elim hm hu)) (St.then (.ex Ki) (St.then (.ex pF) .ret))))
   .refine aH H G O λh H G Y=>ae O call56 (dB (k:=7) (.of H T1) (by omega)) ?_;rintro v h2 ⟨kp,⟨AO,wS,wo,b3,bF,T3⟩,w3,rfl,Ki⟩;replace H:=H.aA kp bF;replace G:=G.kp kp;refine aH H G O λh H G Y=>ae O call52 (bg (.of H T3)) ?_;rintro v h2 ⟨kp,⟨pC,uy,lT,b2,bI,T2⟩,w2,rfl,pF⟩;replace H:=H.aA kp bI;replace G:=G.kp kp;refine bm [2,1,2] H G O λh H G Y=>eK H O O O O O O O G.1 ?_ ?_
    .show((bs.map fD.cs).length+1)*(32+1)<=140737488355328
     rw[hlen];omega
    clear H G;intro x9 h H G n_;replace G:aG (h0.aw hb.nt) h 2 x9 (bs.map fD.cs++[fD.cs ⟨w1,w2⟩]):=by have:=G;simpa[fD.cs]using this
    obtain⟨lM,rfl⟩:=ck G;replace G:=G.pE;exact bm [1] H G O λh H G Y=>cy [] H O (CB.mk (t:=⟨w1,w2⟩) H T2 (((Lt.dec (aq 16)).trans ((Lt.dR (aq 8).dR).trans (Lt.dR (aq 16).dR))).le (by omega)) (by rw[List.map_append];exact G) (St.then (CJ T nv (by simp at hu;exact .inr (.inr hu))) (St.then (.ex Ki) (St.then (.ex pF) .ret))))
  .refine bm [90] H G O λh H G Y=>ae O call56 (dB (k:=7) (.of H T1) (by omega)) ?_;rintro v h2 ⟨kp,⟨AO,wS,wo,b3,bF,T3⟩,w3,rfl,Ki⟩;replace H:=H.aA kp bF;replace G:=G.kp kp;refine aH H G O λh H G Y=>ae O call52 (bg (.of H T3)) ?_;rintro v h2 ⟨kp,⟨pC,uy,lT,b2,bI,T2⟩,w2,rfl,pF⟩;replace H:=H.aA kp bI;replace G:=G.kp kp;refine bm [2,1,2] H G O λh H G Y=>eK H O O O O O O O G.1 ?_ ?_
   .show((bs.map fD.cs).length+1)*(32+1)<=140737488355328
    rw[hlen];omega
   clear H G;intro x9 h H G n_;replace G:aG (h0.aw hb.nt) h 2 x9 (bs.map fD.cs++[fD.cs ⟨w1,w2⟩]):=by have:=G;simpa[fD.cs]using this
   obtain⟨lM,rfl⟩:=ck G;replace G:=G.pE;exact bm [1] H G O λh H G Y=>cy [] H O (CB.mk (t:=⟨w1,w2⟩) H T2 (((Lt.dec (aq 16)).trans ((Lt.dR (aq 8).dR).trans (Lt.dR (aq 16).dR))).le (by omega)) (by rw[List.map_append];exact G) (St.then (CJ T nv (by simp at hm;exact .inr (.inl hm))) (St.then (.ex Ki) (St.then (.ex pF) .ret))))
 .refine aH H G O λh H G Y=>aj O (λhm=>by cases hm) (λ_=>?_);refine bm [90] H G O λh H G Y=>ae O call56 (dB (k:=7) (.of H T1) (by omega)) ?_;rintro v h2 ⟨kp,⟨AO,wS,wo,b3,bF,T3⟩,w3,rfl,Ki⟩;replace H:=H.aA kp bF;replace G:=G.kp kp;refine aH H G O λh H G Y=>ae O call52 (bg (.of H T3)) ?_;rintro v h2 ⟨kp,⟨pC,uy,lT,b2,bI,T2⟩,w2,rfl,pF⟩;replace H:=H.aA kp bI;replace G:=G.kp kp;refine bm [2,1,2] H G O λh H G Y=>eK H O O O O O O O G.1 ?_ ?_
  .show((bs.map fD.cs).length+1)*(32+1)<=140737488355328
   rw[hlen];omega
  clear H G;intro x9 h H G n_;replace G:aG (h0.aw hb.nt) h 2 x9 (bs.map fD.cs++[fD.cs ⟨w1,w2⟩]):=by have:=G;simpa[fD.cs]using this
  obtain⟨lM,rfl⟩:=ck G;replace G:=G.pE;exact bm [1] H G O λh H G Y=>cy [] H O (CB.mk (t:=⟨w1,w2⟩) H T2 (((Lt.dec (aq 16)).trans ((Lt.dR (aq 8).dR).trans (Lt.dR (aq 16).dR))).le (by omega)) (by rw[List.map_append];exact G) (St.then (CJ T nv (by simp at hq;exact .inl hq)) (St.then (.ex Ki) (St.then (.ex pF) .ret))))
end
section
variable {h h0 hb:AH} {x B d k n:Nat} {o:Option (List Tok)} {s e a fixed fx:Bool} {w:ak} {ids:List Nat}
theorem sC (hk:s=true->fq o 13=true) (S:RB h0 x o 0 s e a):
 al prog 28 [.ptr x 0] h0 (SQ x 0 s e a h0 o 0 (nc.on o) λt=> .one (bS 2 (t.map fD.cs))):=by
 refine al.obj (Q:=λv h'=>Kp [x] h0 h'/\∃o' s',RB h' x o' 0 s' e a/\Lt 0 o' o/\∃bs:List fD,ee v (.one (bS 2 (bs.map fD.cs)))/\St s o s' o' (nc.on o) bs) ?_ (λv h' q=>by obtain⟨k,o',s',S,hl,bs,h1,h2⟩:=q;exact .inl ⟨_,h1,k,o',s',S,hl,bs,O,h2⟩)
 obtain⟨tk,es,b,H,T⟩:=S.at_;refine az (n:=8) (rs:=[.tmp 2]) [] ⟨func28,O,O,O⟩ O <| aS [1] [] H O λh H Y=>?_;have hB:=H.jM;have gX:=H.hv.1.2.2 _ (List.mem_cons_self ..);simp only at gX;refine ae O call54 (nY (ids:=[x,_]) (m:=h0.nt) tp lJ call55 (by simp) (GB h0 _ 2 fD.cs) (λbs h h'=>GB.kp gX bs h h') (λo s bs h S j jN hm=>EU gX S j jN) (.of H T) (sk:=12) (ek:=13) (by omega) (by omega) ⟨hB.2,H.kp.nt,_,hB.1,.nil⟩ H.kp.nt) ?_;rintro v h2 ⟨kp,rfl,o4,s4,bs,⟨_,vO,mr,b4,jj,T4⟩,ax,⟨_,_,y,pD,G⟩,hS⟩;replace H:=H.oz kp jj pD;exact aS [1] [1] H O λh H Y=>ab [] H O ⟨H.kp,o4,s4,.of H T4,ax,bs,G.qe,λhs=>⟨(hS hs).1,(hS hs).2 (hk (hS hs).1)⟩⟩
end
end
def aW.La (a:aW):jV:=⟨a.doc,a.name,[],a.vY,a.t,a.cJ⟩
section
attribute [local irreducible] aU cK bE fv aE pY fI
theorem Kj (l:List Tok):ou l=(ij l).map λp=>(p.1.La,p.2):=by
 simp only[ou,ij,Pa.andThen]
 cases fv l with
 |none=>rfl
 |some a=>
  simp only
  cases ar a.2 with
  |none=>rfl
  |some b=>
   simp only
   cases aE 8 b.2 with
   |none=>rfl
   |some c=>
    simp only
    cases gT c.2 with
    |none=>rfl
    |some d=>
     simp only
     cases pY 9 d.2 with
     |none=>rfl
     |some e=>
      simp only
      cases fI true e.2<;>rfl
theorem Kk {α β:Type} {g:Pa α} {g':Pa β} {f:α->β} (hg:∀l,g' l=(g l).map λp=>(f p.1,p.2)) (e:Nat):∀(n:Nat) (l:List Tok),aQ g' e n l=(aQ g e n l).map λp=>(p.1.map f,p.2):=by
 intro n
 induction n with
 |zero=>intro l;rfl
 |succ n ih=>
  intro l;simp only[aQ];split
  .rfl
  .rw[hg]
   cases g l with
   |none=>rfl
   |some a=>
    simp only[Option.map_some];rw[ih]
    cases aQ g e n a.2<;>rfl
theorem Kl {α β:Type} {g:Pa α} {g':Pa β} {f:α->β} (hg:∀l,g' l=(g l).map λp=>(f p.1,p.2)) (s e:Nat) (o:Option (List Tok)):(ca s e g').on o=((ca s e g).on o).map λp=>(p.1.map f,p.2):=by
 cases o with
 |none=>rfl
 |some L=>
  show ca s e g' L=(ca s e g L).map _
  unfold ca;split
  .rw[Kk hg]
   cases aQ g e dX L.tail with|none=>rfl|some a=>simp only[Option.map_some,List.isEmpty_map];split<;>rfl
  .rfl
end
theorem St.map {α β:Type} {s s':Bool} {o o':Option (List Tok)} {R:Option (α×List Tok)} {R':Option (β×List Tok)} {f:α->β} {a:α} (h:St s o s' o' R a) (e:R'=R.map λp=>(f p.1,p.2)):St s o s' o' R' (f a):=λhs=>by
 obtain⟨q1,q2,q3⟩:=h hs;subst e;refine⟨q1,?_,?_⟩
 .rw[q2];cases R<;>rfl
 .intro t l e
  cases R with
  |none=>cases e
  |some p=>
   injection e with e
   injection e with e1 e2
   rw[<-e1,q3 p.1 p.2 O]
section
attribute [local irreducible] aQ aU bE cK
variable {h h0 hb:AH} {x B d k n:Nat} {o:Option (List Tok)} {s e a fixed fx:Bool} {w:ak} {ids:List Nat}
theorem EV (S:RB h0 x o 0 s e a):al prog 63 [.ptr x 0] h0 (Wh x 0 s e a h0 o 0 (tm.on o) λt=> .one (bS 8 (t.map jV.cs))):=by
 refine al.obj (Q:=λv h'=>Kp [x] h0 h'/\∃o' s',RB h' x o' 0 s' e a/\Lt 0 o' o/\∃bs:List jV,ee v (.one (bS 8 (bs.map jV.cs)))/\bs.length<=2097152/\St s o s' o' (tm.on o) bs) ?_ (λv h' q=>by obtain⟨k,o',s',S,hl,bs,h1,h2⟩:=q;exact .inl ⟨_,h1,k,o',s',S,hl,bs,O,h2⟩)
 obtain⟨tk,es,b,H,T⟩:=S.at_;refine az (n:=29) (rs:=[.tmp 2]) [] ⟨func63,O,O,O⟩ O <| ah H O λh H Y=>ae O call57 (oG (sk:=12) (ek:=13) (by omega) (by omega) (.of H T)) ?_;rintro v h2 ⟨kp,o1,s1,⟨zl,AY,AZ,b1,eM,T1⟩,jF,ts,rfl,A7,hS1⟩;replace H:=H.aA kp eM;have hE:=cn 7 (ts.map aW.cs);have vF:(ts.map aW.cs).length=ts.length:=by simp
 have hS:St s o s1 o1 (tm.on o) (ts.map aW.La):=hS1.map (Kl Kj 13 14 o);refine fe 7 O O O O O hE O O O <| ib 7 O ?_;rw[vF];refine ah H O λh H Y=>aC 29 (λq:Nat×AV=>ts.length -q.1) (λq=>[(3,q.2),(7,bS 7 (ts.map aW.cs)),(8,.int .i64 (ts.length:Nat)),(9,.int .i64 (q.1:Nat))])
  (λq h'=>HI h0 [x] h' [(x,RC (.vec AY 6 AZ) 0 b1 s1 e a)]/\q.1<=ts.length/\bJ h0 h' 8 q.2 ((ts.take q.1).map λa=>a.La.cs))
  (λq:AV=>[(3,q)])
  (λq h'=>HI h0 [x] h' [(x,RC (.vec AY 6 AZ) 0 b1 s1 e a)]/\bJ h0 h' 8 q (ts.map λa=>a.La.cs)) (0,.ao) O ⟨H,by omega,.nil⟩ ?_ ?_
 .clear H;rintro⟨i,y⟩ h ⟨H,hi,G⟩ again done;simp only at G hi;refine aH H G O λh H G Y=>af O (λaT=>?_) λaT=>?_
  .have ax:i <ts.length:=by simpa using aT
   have OK:i <(ts.map aW.cs).length:=by omega
   obtain⟨c,hc⟩:∃c,ts[i]? =some c:=⟨_,List.getElem?_eq_getElem ax⟩;have Rt:(ts.map aW.cs)[i]? =some c.cs:=by rw[List.getElem?_map,hc];rfl
   obtain⟨tn,tz,tb,e4⟩:=c.t.shape;have e5:c.cs=[.str c.doc,.str c.name,.str tn,.one tz,.bool tb,.one (bS 3 (c.vY.map dM.cs)),.one (bS 2 (c.cJ.map kl.cs))]:=by unfold aW.cs;rw[e4];rfl
   rw[e5]at Rt;rw[qX OK]at again|-;refine aH H G O λh H G Y=>ba (ag.indexAddr O O O O O O (Int.natCast_nonneg _) (by rw[Int.toNat_natCast];exact Rt)) O ?_;refine Af 18 [] [1,1,1,1,1,1] H G O λh H G Y=>yZ 24 (x:= .agg [.str c.doc,.str c.name,.ao,.one (bS 3 (c.vY.map dM.cs)),.str tn,.one tz,.bool tb,.one (bS 2 (c.cJ.map kl.cs))]) O (y:= .agg [.str c.doc,.str c.name,.one (bS 7 (([]:List aW).map aW.cs)),.one (bS 3 (c.vY.map dM.cs)),.str tn,.one tz,.bool tb,.one (bS 2 (c.cJ.map kl.cs))]) (ee.agg ⟨.refl _,.refl _,bj (λ_ _ _ h=>h),.refl _,.refl _,.refl _,.refl _,.refl _,trivial⟩) <| aH H G O λh H G Y=>eK H O O O O O O O G.1 ?_ ?_
   .have:=iQ (f:=λa:aW=>a.La.cs) (l:=ts) (i:=i)
    show(_+1)*(152+1)<=140737488355328;omega
   clear H G;intro x' h H G n_;replace G:aG h0 h 8 x' ((ts.take i).map (λa=>a.La.cs)++[c.La.cs]):=by
    have e6:c.La.cs=[.str c.doc,.str c.name,.one (bS 7 (([]:List aW).map aW.cs)),.one (bS 3 (c.vY.map dM.cs)),.str tn,.one tz,.bool tb,.one (bS 2 (c.cJ.map kl.cs))]:=by unfold jV.cs aW.La;simp only[e4];rfl
    rw[e6];exact G
   replace G:=G.pE;refine aH H G O λh H G Y=>have HH:=H.take (k:=1);again (i+1,_) ?_ (HQ.mk O ⟨O,O,O,vi (wI (by omega)),trivial⟩) ⟨HH,by simp only;omega,?_⟩
   .simp only;omega
   .simp only;rw[gi hc];exact G
  .have ax:¬ i <ts.length:=by simpa using aT
   obtain rfl:i=ts.length:=by omega
   refine aH H G O λh H G Y=>?_;rw[iR O]at G;exact done y O ⟨H,G⟩
 .clear H;rintro y h ⟨H,G⟩;refine aH H G O λh H G Y=>?_;refine ab [] H O ⟨H.kp,o1,s1,.of H T1,jF,ts.map aW.La,?_,by simpa using A7,hS⟩;have:(ts.map aW.La).map jV.cs=ts.map λa=>a.La.cs:=by simp
  rw[this];exact G.qe
end
section
attribute [local irreducible] aQ aU bE cK
theorem yw {L:List Tok} {w:ak}:cF w L=if bC L=16/\dN L=w then some ((),L.tail)else none:=by cases L with|nil=>exact(if_neg (λh=>by have:=h.1;simp[bC]at this)).symm|cons t r=>rfl
theorem q8 {s:Bool} {o:Option (List Tok)} {w:ak} (hw:dO (ar.on o) λt=>t=w):St s o s ((ar.on o).map (·.2)) ((cF w).on o) ():=λhs=>by
 refine⟨hs,?_,λ_ _ _=>rfl⟩
 cases o with
 |none=>rfl
 |some L=>
  show(ar L).map (·.2)=(cF w L).map (·.2)
  rw[yw]
  by_cases hk:bC L=16
  .have e:=qZ hk
   have hv:dN L=w:=hw _ _ e
   rw[e,if_pos ⟨hk,hv⟩];rfl
  .rw[q7 hk,if_neg λh=>hk h.1];rfl
def Ux (fx:Bool) (doc w:ak):Pa Def:=
 if w=dt then fX doc else if w=eN then fY eN eJ doc else if w=bh then fY bh cp doc
 else if w=eO then ik doc else if w=fW then jy doc else if w=ff then iq fx doc else λ_=>none
theorem gE {α β:Type} {p:Pa α} {f:α->Pa β} {L:List Tok} (h:p L=none):(p.andThen f) L=none:=by unfold Pa.andThen;rw[h]
theorem ga {fx:Bool} {doc w:ak} {o:Option (List Tok)} (hw:dO (ar.on o) λt=>t=w):(bc fx doc).on o=(Ux fx doc w).on o:=by
 cases o with
 |none=>rfl
 |some L=>
  show bc fx doc L=Ux fx doc w L
  by_cases hk:bC L=16
  .have hv:dN L=w:=hw _ _ (qZ hk)
   unfold bc Ux;rw[hv];split;rfl;split;rfl;split;rfl;split;rfl;split;rfl;split;rfl;rfl
  .have kZ:∀w,cF w L=none:=λw=>by rw[yw,if_neg λh=>hk h.1]
   have h1:fX doc L=none:=gE (kZ _)
   have h2:∀w k,fY w k doc L=none:=λw k=>gE (kZ _)
   have h3:ik doc L=none:=gE (kZ _)
   have h4:jy doc L=none:=gE (kZ _)
   have h5:iq fx doc L=none:=gE (kZ _)
   unfold bc Ux;rw[h1,h2,h2,h3,h4,h5];simp only[ite_self];split;exact h1.symm;split;exact(h2 _ _).symm;split;exact(h2 _ _).symm;split;exact h3.symm;split;exact h4.symm;split;exact h5.symm;rfl
theorem St.is {α:Type} {s s':Bool} {o o':Option (List Tok)} {R R':Option (α×List Tok)} {a:α} (h:St s o s' o' R a) (e:R'=R):St s o s' o' R' a:=by rw[e];exact h
def Def.bd (a:Def):Prop:=a.cJ.length<=4294967296/\a.ifaces.length<=4294967296/\a.fields.length<=4294967296/\a.types.length<=4294967296/\a.enums.length<=4294967296
section
variable {h h0 hb:AH} {x B d k n:Nat} {o:Option (List Tok)} {s e a fixed fx:Bool} {w:ak} {ids:List Nat}
theorem EW {doc:ak} (S:RB h0 x o 0 s e false):al prog 30 [.ptr x 0,.str doc] h0 (λv h'=>Kp [x] h0 h'/\∃o' s',RB h' x o' 0 s' e false/\Lt 1 o' o/\∃t:Def,v= .agg t.cs/\t.bd/\St s o s' o' ((bc (!e) doc).on o) t):=by
 obtain⟨tk,es,b,H,T⟩:=S.at_;refine az (n:=67) (rs:=[.cell 4 66]) [] ⟨func30,O,O,O⟩ O <| ah H O λh H Y=>ae O call52 (bg (.of H T)) ?_;rintro v h2 ⟨kp,⟨zl,AY,AZ,b1,eM,T1⟩,w1,rfl,nv⟩;replace H:=H.aA kp eM;refine ah H O λh H Y=>aF O call60 (J6 w1) ?_
 by_cases k1:w1=dt
 .subst k1;rw[show rU dt=gS by decide];refine an [2] H O λh H Y=>ae O call52 (bg (.of H T1)) ?_;rintro v h2 ⟨kp,⟨pC,uy,lT,b2,bI,T2⟩,w2,rfl,pF⟩;replace H:=H.aA kp bI;refine an [2,2] H O λh H Y=>aj O (λhb=>absurd hb (by decide)) (λ_=>?_);refine an [2,90,0,0] H O λh H Y=>ae O call27 (dU (fx:=true) (.inl O) (.of H T2)) ?_;rintro v h2 ⟨kp,o8,s8,⟨CD,CE,A0,b8,nL,T8⟩,gH,ds,rfl,nj,py⟩;replace H:=H.aA kp nL;exact fm 2 [.str gS,.str doc,.str w2,.ao,.one (bS 1 (([]:List ak).map aM)),.one (bS 8 (([]:List jV).map jV.cs)),.one (bS 1 (([]:List ak).map aM)),.one (bS 3 (([]:List cg).map cg.cs))] H O O ⟨.refl _,.refl _,.refl _,.refl _,bj (λ_ _ _ h=>h),bj (λ_ _ _ h=>h),bj (λ_ _ _ h=>h),bj (λ_ _ _ h=>h),trivial⟩ λh H Y=>an [2,0,2,90,90,90,90,90,90,2,1] H O λh H Y=>ab [1] H O ⟨H.kp,o8,s8,.of H T8,((((Lt.dec (aq 16)).trans (Lt.dR (aq 16).dR)).trans gH)).le (by omega),(⟨gS,doc,w2,ds,[],[],[],[]⟩:Def),O,⟨Nat.le_trans nj (by decide),Nat.zero_le _,Nat.zero_le _,Nat.zero_le _,Nat.zero_le _⟩,St.is (R:=(fX doc).on o) (St.then (q8 nv) (St.then (.ex pF) (St.then py .ret))) (ga nv)⟩
 by_cases k2:w1=eN
 .subst k2;rw[show rU eN=eJ by decide];refine an [2] H O λh H Y=>ae O call52 (bg (.of H T1)) ?_;rintro v h2 ⟨kp,⟨pC,uy,lT,b2,bI,T2⟩,w2,rfl,pF⟩;replace H:=H.aA kp bI;refine an [2,2] H O λh H Y=>aj O (λ_=>?_) (λhb=>absurd hb (by decide));refine an [91] H O λh H Y=>ae O call61 (vP (.of H T2)) ?_;rintro v h2 ⟨kp,o3,s3,⟨AO,wS,wo,b3,bF,T3⟩,yu,ifs,rfl,M8,M9⟩;replace H:=H.aA kp bF;refine an [2,0,0] H O λh H Y=>ae O call27 (dU (fx:=true) (.inl O) (.of H T3)) ?_;rintro v h2 ⟨kp,o8,s8,⟨CD,CE,A0,b8,nL,T8⟩,gH,ds,rfl,nj,py⟩;replace H:=H.aA kp nL;refine fm 2 [.str eJ,.str doc,.str w2,.ao,.one (bS 1 (ifs.map aM)),.one (bS 8 (([]:List jV).map jV.cs)),.one (bS 1 (([]:List ak).map aM)),.one (bS 3 (([]:List cg).map cg.cs))] H O O ⟨.refl _,.refl _,.refl _,.refl _,.refl _,bj (λ_ _ _ h=>h),bj (λ_ _ _ h=>h),bj (λ_ _ _ h=>h),trivial⟩ λh H Y=>an [2,0,2,91,91] H O λh H Y=>ae O call62 (vQ (.of H T8)) ?_;rintro v h2 ⟨kp,o9,s9,⟨Tf,lM,Tg,b9,tK,T9⟩,sD,fs,rfl,CK,IN⟩;replace H:=H.aA kp tK;exact an [2,2,1] H O λh H Y=>ab [1] H O ⟨H.kp,o9,s9,.of H T9,((((Lt.dec (aq 16)).trans (Lt.dR (aq 16).dR)).trans (yu.trans gH)).trans sD).le (by omega),(⟨eJ,doc,w2,ds,ifs,fs,[],[]⟩:Def),O,⟨Nat.le_trans nj (by decide),Nat.le_trans M8 (by decide),Nat.le_trans CK (by decide),Nat.zero_le _,Nat.zero_le _⟩,St.is (R:=(fY eN eJ doc).on o) (St.then (q8 nv) (St.then (.ex pF) (St.then (p:=cE) M9 (St.then py (St.then (p:=B9) IN .ret))))) (ga nv)⟩
 by_cases k3:w1=bh
 .subst k3;rw[show rU bh=cp by decide];refine an [2] H O λh H Y=>ae O call52 (bg (.of H T1)) ?_;rintro v h2 ⟨kp,⟨pC,uy,lT,b2,bI,T2⟩,w2,rfl,pF⟩;replace H:=H.aA kp bI;refine an [2,2] H O λh H Y=>aj O (λhb=>absurd hb (by decide)) (λ_=>?_);refine an [2,91] H O λh H Y=>ae O call61 (vP (.of H T2)) ?_;rintro v h2 ⟨kp,o3,s3,⟨AO,wS,wo,b3,bF,T3⟩,yu,ifs,rfl,M8,M9⟩;replace H:=H.aA kp bF;refine an [2,0,0] H O λh H Y=>ae O call27 (dU (fx:=true) (.inl O) (.of H T3)) ?_;rintro v h2 ⟨kp,o8,s8,⟨CD,CE,A0,b8,nL,T8⟩,gH,ds,rfl,nj,py⟩;replace H:=H.aA kp nL;refine fm 2 [.str cp,.str doc,.str w2,.ao,.one (bS 1 (ifs.map aM)),.one (bS 8 (([]:List jV).map jV.cs)),.one (bS 1 (([]:List ak).map aM)),.one (bS 3 (([]:List cg).map cg.cs))] H O O ⟨.refl _,.refl _,.refl _,.refl _,.refl _,bj (λ_ _ _ h=>h),bj (λ_ _ _ h=>h),bj (λ_ _ _ h=>h),trivial⟩ λh H Y=>an [2,0,2,90,91] H O λh H Y=>ae O call62 (vQ (.of H T8)) ?_;rintro v h2 ⟨kp,o9,s9,⟨Tf,lM,Tg,b9,tK,T9⟩,sD,fs,rfl,CK,IN⟩;replace H:=H.aA kp tK;exact an [2,2,1] H O λh H Y=>ab [1] H O ⟨H.kp,o9,s9,.of H T9,((((Lt.dec (aq 16)).trans (Lt.dR (aq 16).dR)).trans (yu.trans gH)).trans sD).le (by omega),(⟨cp,doc,w2,ds,ifs,fs,[],[]⟩:Def),O,⟨Nat.le_trans nj (by decide),Nat.le_trans M8 (by decide),Nat.le_trans CK (by decide),Nat.zero_le _,Nat.zero_le _⟩,St.is (R:=(fY bh cp doc).on o) (St.then (q8 nv) (St.then (.ex pF) (St.then (p:=cE) M9 (St.then py (St.then (p:=B9) IN .ret))))) (ga nv)⟩
 by_cases k4:w1=eO
 .subst k4;rw[show rU eO=jw by decide];refine an [2] H O λh H Y=>ae O call52 (bg (.of H T1)) ?_;rintro v h2 ⟨kp,⟨pC,uy,lT,b2,bI,T2⟩,w2,rfl,pF⟩;replace H:=H.aA kp bI;refine an [2,2] H O λh H Y=>aj O (λhb=>absurd hb (by decide)) (λ_=>?_);refine an [2,90,0,0] H O λh H Y=>ae O call27 (dU (fx:=true) (.inl O) (.of H T2)) ?_;rintro v h2 ⟨kp,o8,s8,⟨CD,CE,A0,b8,nL,T8⟩,gH,ds,rfl,nj,py⟩;replace H:=H.aA kp nL;refine fm 2 [.str jw,.str doc,.str w2,.ao,.one (bS 1 (([]:List ak).map aM)),.one (bS 8 (([]:List jV).map jV.cs)),.one (bS 1 (([]:List ak).map aM)),.one (bS 3 (([]:List cg).map cg.cs))] H O O ⟨.refl _,.refl _,.refl _,.refl _,bj (λ_ _ _ h=>h),bj (λ_ _ _ h=>h),bj (λ_ _ _ h=>h),bj (λ_ _ _ h=>h),trivial⟩ λh H Y=>an [2,0,2,90,90,90,91] H O λh H Y=>ae O call64 (CC (.of H T8)) ?_;rintro v h2 ⟨kp,⟨Tf,lM,Tg,b9,tK,T9⟩,ms,rfl,CK,hw9⟩;replace H:=H.aA kp tK;exact an [2,2,1] H O λh H Y=>ab [1] H O ⟨H.kp,_,s8,.of H T9,((((Lt.dec (aq 16)).trans (Lt.dR (aq 16).dR)).trans gH).trans (Lt.dR tB)).le (by omega),(⟨jw,doc,w2,ds,[],[],ms,[]⟩:Def),O,⟨Nat.le_trans nj (by decide),Nat.zero_le _,Nat.zero_le _,Nat.le_trans CK (by decide),Nat.zero_le _⟩,St.is (R:=(ik doc).on o) (St.then (q8 nv) (St.then (.ex pF) (St.then py (St.then (p:=cj) (.ex hw9) .ret)))) (ga nv)⟩
 by_cases k5:w1=fW
 .subst k5;rw[show rU fW=lV by decide];refine an [2] H O λh H Y=>ae O call52 (bg (.of H T1)) ?_;rintro v h2 ⟨kp,⟨pC,uy,lT,b2,bI,T2⟩,w2,rfl,pF⟩;replace H:=H.aA kp bI;refine an [2,2] H O λh H Y=>aj O (λhb=>absurd hb (by decide)) (λ_=>?_);refine an [2,90,0,0] H O λh H Y=>ae O call27 (dU (fx:=true) (.inl O) (.of H T2)) ?_;rintro v h2 ⟨kp,o8,s8,⟨CD,CE,A0,b8,nL,T8⟩,gH,ds,rfl,nj,py⟩;replace H:=H.aA kp nL;refine fm 2 [.str lV,.str doc,.str w2,.ao,.one (bS 1 (([]:List ak).map aM)),.one (bS 8 (([]:List jV).map jV.cs)),.one (bS 1 (([]:List ak).map aM)),.one (bS 3 (([]:List cg).map cg.cs))] H O O ⟨.refl _,.refl _,.refl _,.refl _,bj (λ_ _ _ h=>h),bj (λ_ _ _ h=>h),bj (λ_ _ _ h=>h),bj (λ_ _ _ h=>h),trivial⟩ λh H Y=>an [2,0,2,90,90,90,90,91] H O λh H Y=>ae O call65 (Hn (.of H T8)) ?_;rintro v h2 ⟨kp,o9,s9,⟨Tf,lM,Tg,b9,tK,T9⟩,sD,vs,rfl,CK,IN⟩;replace H:=H.aA kp tK;exact an [2,2,1] H O λh H Y=>ab [1] H O ⟨H.kp,o9,s9,.of H T9,((((Lt.dec (aq 16)).trans (Lt.dR (aq 16).dR)).trans gH).trans sD).le (by omega),(⟨lV,doc,w2,ds,[],[],[],vs⟩:Def),O,⟨Nat.le_trans nj (by decide),Nat.zero_le _,Nat.zero_le _,Nat.zero_le _,Nat.le_trans CK (by decide)⟩,St.is (R:=(jy doc).on o) (St.then (q8 nv) (St.then (.ex pF) (St.then py (St.then (p:=Ml) IN .ret)))) (ga nv)⟩
 by_cases k6:w1=ff
 .subst k6;rw[show rU ff=cG by decide];refine an [2] H O λh H Y=>ae O call52 (bg (.of H T1)) ?_;rintro v h2 ⟨kp,⟨pC,uy,lT,b2,bI,T2⟩,w2,rfl,pF⟩;replace H:=H.aA kp bI;refine an [2,2] H O λh H Y=>aj O (λhb=>absurd hb (by decide)) (λ_=>?_);refine an [2,90,0,0] H O λh H Y=>ae O call27 (dU (fx:= !e) (by cases e<;>simp) (.of H T2)) ?_;rintro v h2 ⟨kp,o8,s8,⟨CD,CE,A0,b8,nL,T8⟩,gH,ds,rfl,nj,py⟩;replace H:=H.aA kp nL;refine fm 2 [.str cG,.str doc,.str w2,.ao,.one (bS 1 (([]:List ak).map aM)),.one (bS 8 (([]:List jV).map jV.cs)),.one (bS 1 (([]:List ak).map aM)),.one (bS 3 (([]:List cg).map cg.cs))] H O O ⟨.refl _,.refl _,.refl _,.refl _,bj (λ_ _ _ h=>h),bj (λ_ _ _ h=>h),bj (λ_ _ _ h=>h),bj (λ_ _ _ h=>h),trivial⟩ λh H Y=>an [2,0,2,90,90,91] H O λh H Y=>ae O call63 (EV (.of H T8)) ?_;rintro v h2 ⟨kp,o9,s9,⟨Tf,lM,Tg,b9,tK,T9⟩,sD,fs,rfl,CK,IN⟩;replace H:=H.aA kp tK;exact an [2,2,1] H O λh H Y=>ab [1] H O ⟨H.kp,o9,s9,.of H T9,((((Lt.dec (aq 16)).trans (Lt.dR (aq 16).dR)).trans gH).trans sD).le (by omega),(⟨cG,doc,w2,ds,[],fs,[],[]⟩:Def),O,⟨Nat.le_trans nj (by decide),Nat.zero_le _,Nat.le_trans CK (by decide),Nat.zero_le _,Nat.zero_le _⟩,St.is (R:=(iq (!e) doc).on o) (St.then (q8 nv) (St.then (.ex pF) (St.then py (St.then (p:=tm) IN .ret)))) (ga nv)⟩
 have hk:rU w1=[]:=by unfold rU;rw[if_neg k1,if_neg k2,if_neg k3,if_neg k4,if_neg k5,if_neg k6]
 have hTD:Ux (!e) doc w1=λ_=>none:=by unfold Ux;rw[if_neg k1,if_neg k2,if_neg k3,if_neg k4,if_neg k5,if_neg k6]
 rw[hk];refine an [2] H O λh H Y=>ae O call52 (bg (.of H T1)) ?_;rintro v h2 ⟨kp,⟨pC,uy,lT,b2,bI,T2⟩,w2,rfl,pF⟩;replace H:=H.aA kp bI;refine an [2,2] H O λh H Y=>aj O (λhb=>absurd hb (by decide)) (λ_=>?_);refine an [2,90,0,0] H O λh H Y=>ae O call27 (dU (fx:=true) (.inl O) (.of H T2)) ?_;rintro v h2 ⟨kp,o8,s8,⟨CD,CE,A0,b8,nL,T8⟩,gH,ds,rfl,nj,py⟩;replace H:=H.aA kp nL;exact fm 2 [.str [],.str doc,.str w2,.ao,.one (bS 1 (([]:List ak).map aM)),.one (bS 8 (([]:List jV).map jV.cs)),.one (bS 1 (([]:List ak).map aM)),.one (bS 3 (([]:List cg).map cg.cs))] H O O ⟨.refl _,.refl _,.refl _,.refl _,bj (λ_ _ _ h=>h),bj (λ_ _ _ h=>h),bj (λ_ _ _ h=>h),bj (λ_ _ _ h=>h),trivial⟩ λh H Y=>an [2,0,2,90,90,90,90,90,91,0,2,1] H O λh H Y=>ab [1] H O ⟨H.kp,none,s8,.of H (show TS s8 none true _ from O),Lt.none,(⟨[],doc,w2,ds,[],[],[],[]⟩:Def),O,⟨Nat.le_trans nj (by decide),Nat.zero_le _,Nat.zero_le _,Nat.zero_le _,Nat.zero_le _⟩,St.is (R:=none) (λhs=>⟨(py hs).1,O,λt l e=>by cases e⟩) ((ga nv).trans (by rw[hTD];cases o<;>rfl))⟩
end
end
section
attribute [local irreducible] aQ aU bE cK
def Rf (doc:ak):Pa dn:=(aE 10).andThen λ_=>ar.andThen λn=>lW.andThen λES=>(fI true).andThen λ_=>ov.andThen λrep=>(cF rq).andThen λ_=>(dv eE 15).andThen λls=> .ret ⟨doc,n,ES,ls,rep⟩
theorem TS.se {s b:Bool} {o:Option (List Tok)} {es:List (List AV)} (T:TS s o b es):TS false o b es:=by cases o with|none=>exact T|some l=>obtain⟨q1,q2,ts,q3,q4,q5,q6⟩:=T;exact⟨q1,q2,ts,q3,q4,q5,λh=>by cases h⟩
theorem Th {α:Type} {g:Pa α} {k:Nat} {s:Bool} {o:Option (List Tok)} (h:fq o k=false):St s o s o ((bE g k dX).on o) []:=λhs=>by
 cases o with
 |none=>exact⟨hs,O,λt l e=>by cases e⟩
 |some L=>
  have e:bE g k dX L=some ([],L):=by obtain⟨n,hn⟩:∃n,dX=n+1:=⟨8388607,rfl⟩;rw[hn];simp only[bE];rw[if_neg (of_decide_eq_false h)]
  have e':(bE g k dX).on (some L)=some ([],L):=e
  rw[e'];exact⟨hs,O,λt l e=>by injection e with e;injection e with e1 e2;exact e1.symm⟩
theorem Ti {s:Bool} {o:Option (List Tok)}:St s o s (if rC o du=true then wR o else o) (ov.on o) (rC o du):=λhs=>by
 cases o with
 |none=>exact⟨hs,O,λt l e=>by cases e⟩
 |some L=>
  refine⟨hs,?_⟩;show _=(ov L).map (·.2)/\dO (ov L) _;unfold ov
  by_cases h:bC L=16/\dN L=du
  .have e:rC (some L) du=true:=decide_eq_true h
   rw[if_pos e,if_pos h];exact⟨if_neg (show ¬ bC L=1 by omega),λt l e'=>by injection e' with e';injection e' with e1 e2;rw[<-e1,e]⟩
  .have e:rC (some L) du=false:=decide_eq_false h
   rw[if_neg (by rw[e];simp),if_neg h];exact⟨O,λt l e'=>by injection e' with e';injection e' with e1 e2;rw[<-e1,e]⟩
theorem Wk {s:Bool} {w:ak} {o:Option (List Tok)}:St s o s (((cF w).on o).map (·.2)) ((cF w).on o) ():=λhs=>⟨hs,O,λ_ _ _=>rfl⟩
theorem Nb {s:Bool} {w:ak} {o:Option (List Tok)} (hw:dO (ar.on o) λt=>t=w) (h:w∈mJ):St s o s ((ar.on o).map (·.2)) (eE.on o) w:=by refine St.then (.ex hw) ?_;rw[if_pos h];exact .ret
theorem IP {s:Bool} {w:ak} {o:Option (List Tok)} (hw:dO (ar.on o) λt=>t=w) (h:w∉mJ):St s o s none (eE.on o) w:=by refine St.then (.ex hw) ?_;rw[if_neg h];generalize(ar.on o).map (·.2)=q;exact λhs=>⟨hs,by cases q<;>rfl,λt l e=>by cases q<;>cases e⟩
theorem tR {w:ak} (hd:w≠bL):w∈mJ↔w∈EI:=by
 simp only[mJ,EI,List.mem_cons,List.not_mem_nil,or_false];constructor
 .intro h;simp only[hd,or_false]at h;exact h
 .intro h;simp only[hd,or_false];exact h
def FM (sA:Bool) (oA:Option (List Tok)) (first:Bool) (o4:Option (List Tok)) (s4:Bool) (ls:List ak):Prop:=match first with
 |true=>o4=oA/\s4=sA/\ls=[]
 |false=>s4=true->sA=true/\∃a bs,ls=a::bs/\dO (eE.on oA) (λt=>t=a)/\OA eE 15 ((eE.on oA).map (·.2)) o4 bs
theorem FM.first {sA s7 s4:Bool} {oA o7 o4:Option (List Tok)} {ls:List ak} {w:ak} (h:FM sA oA true o4 s4 ls) (hs:St s4 o4 s7 o7 (eE.on o4) w) (hl:∀l,o7=some l->l.length<=1048578):FM sA oA false o7 s7 (ls++[w]):=by obtain⟨rfl,rfl,rfl⟩:=h;intro h7;obtain⟨q1,q2,q3⟩:=hs h7;refine⟨q1,w,[],O,q3,?_⟩;rw[<-q2];exact .start hl
theorem FM.next {sA s7 s4:Bool} {oA o7:Option (List Tok)} {l:List Tok} {ls:List ak} {w:ak} (h:FM sA oA false (some l) s4 ls) (hk:bC l=15) (hs:St s4 (some l.tail) s7 o7 (eE.on (some l.tail)) w):FM sA oA false o7 s7 (ls++[w]):=by intro h7;obtain⟨q1,q2,q3⟩:=hs h7;obtain⟨r1,a,bs,rfl,r2,r3⟩:=h q1;exact⟨r1,a,bs++[w],by simp,r2,r3.step p8 hk q2 q3⟩
theorem FM.stop {sA s4:Bool} {oA o4:Option (List Tok)} {ls:List ak} (h:FM sA oA false o4 s4 ls) (hk:fq o4 15=false):St sA oA s4 o4 ((eE.andThen λa=>Pa.andThen (bE eE 15 dX) λbs=> .ret (a::bs)).on oA) ls:=by
 intro h4;obtain⟨r1,a,bs,rfl,r2,r3⟩:=h h4;have st:St s4 ((eE.on oA).map (·.2)) s4 o4 ((bE eE 15 dX).on ((eE.on oA).map (·.2))) bs:=λhs=>⟨hs,r3.stop hk⟩
 have st2:St s4 oA s4 o4 ((eE.andThen λa=>Pa.andThen (bE eE 15 dX) λbs=> .ret (a::bs)).on oA) (a::bs):=St.then (.ex r2) (St.then st .ret);exact⟨r1,(st2 h4).2⟩
theorem Nc {c:Nat} {o5 o:Option (List Tok)} (h:Lt c o5 o):mo o5<=mo o -c:=by cases o5 with|none=>exact Nat.zero_le _|some l5=>obtain⟨l,rfl,h6⟩:=h l5 rfl;simp only[mo];omega
section
variable {h h0 hb:AH} {x B d k n:Nat} {o:Option (List Tok)} {s e a fixed fx:Bool} {w:ak} {ids:List Nat}
theorem yx {doc:ak} (S:RB h0 x o 0 s e a):al prog 29 [.ptr x 0,.str doc] h0 (SQ x 0 s e a h0 o 0 ((Rf doc).on o) λt=> .agg t.cs):=by
 obtain⟨tk,es,b,H,T⟩:=S.at_;refine az (n:=58) (rs:=[.cell 4 60]) [] ⟨func29,O,O,O⟩ O <| an [2] H O λh H Y=>ae O call56 (dB (k:=9) (.of H T) (by omega)) ?_;rintro v h2 ⟨kp,⟨zl,AY,AZ,b1,eM,T1⟩,w1,rfl,nv⟩;replace H:=H.aA kp eM;refine ah H O λh H Y=>ae O call52 (bg (.of H T1)) ?_;rintro v h2 ⟨kp,⟨pC,uy,lT,b2,bI,T2⟩,w2,rfl,pF⟩;replace H:=H.aA kp bI;refine an [2] H O λh H Y=>ae O call57 (oG (sk:=4) (ek:=5) (by omega) (by omega) (.of H T2)) ?_;rintro v h2 ⟨kp,o3,s3,⟨AO,wS,wo,b3,bF,T3⟩,yu,ES,rfl,M8,M9⟩;replace H:=H.aA kp bF;refine an [2] H O λh H Y=>ae O call21 (fF (k:=9) (.of H T3) (by omega)) ?_;rintro v h2 ⟨kp,rfl⟩;replace H:=H.same kp;refine ah H O λh H Y=>lC 58 (λ_:Option (List Tok)×Bool=>[(0,.ptr x 0),(4,.ptr h0.n 0),(5,.ptr (h0.n+1) 0)])
  (λq h'=>∃tk es b,HI h0 [x] h' [(x,RC (.vec tk 6 es) 0 b q.2 e a),(h0.n,[.str [],.str [],.ao,.ao,.bool false]),(h0.n+1,[.str doc,.str w2,.one (bS 7 (ES.map aW.cs)),.ao,.bool false])]/\TS q.2 q.1 b es/\Lt 0 q.1 o3/\St s3 o3 q.2 q.1 ((fI true).on o3) [])
  rfl (λhb J=>?_) (λhb J=>?_) ?_
 .exact an [0,0] H O λh H Y=>J (none,false) O ⟨_,_,_,H,O,.none,.no⟩
 .exact ah H O λh H Y=>J (o3,s3) O ⟨_,_,_,H,T3,.refl,Th hb⟩
 clear H;rintro⟨o4,s4⟩ h ⟨vO,mr,b4,H,T4,Wl,hS4⟩;simp only at T4 Wl hS4;refine ah H O λh H Y=>ae O call26 (jb (w:=du) (.of H T4)) ?_;rintro v h2 ⟨kp,⟨Ew,Dl,rB,b5,mw,T5⟩,rfl⟩;replace H:=H.aA kp mw;have J9:=Ti (s:=s4) (o:=o4);have mz:Lt 0 (if rC o4 du=true then wR o4 else o4) o4:=by
  split
  .exact(Lt.nx T4.ne).le (by omega)
  .exact .refl
 generalize rC o4 du=rep at*;generalize(if rep=true then wR o4 else o4)=o5 at*;refine an [2] H O λh H Y=>ae O call58 (Cz (w:=rq) (.of H T5)) ?_;rintro v h2 ⟨kp,⟨K7,IH,FJ,b6,su,T6⟩⟩;replace H:=H.aA kp su;refine ah H O λh H Y=>ae O call51 (fP (k:=14) (.of H T6) (by omega)) ?_;rintro v h2 ⟨kp,⟨KY,Wa,Wb,b7,xG,T7⟩,rfl⟩;replace H:=H.aA kp xG;refine ah H O λh H Y=>?_;have Zo:Lt 0 (((bB (14+1)).on (((cF rq).on o5).map (·.2))).map (·.2)) o5:=((Lt.dR (gq rq).dR).trans (Lt.dR (lY 15))).le (by omega);have hSA:∀{s':Bool} {o':Option (List Tok)} {ls:List ak},St s4 (((bB (14+1)).on (((cF rq).on o5).map (·.2))).map (·.2)) s' o' ((eE.andThen λa=>Pa.andThen (bE eE 15 dX) λbs=> .ret (a::bs)).on (((bB (14+1)).on (((cF rq).on o5).map (·.2))).map (·.2))) ls->St s4 o5 s' o' (((cF rq).andThen λ_=>(dv eE 15).andThen λls=> .ret (⟨doc,w2,ES,ls,rep⟩:dn)).on o5) ⟨doc,w2,ES,ls,rep⟩:=λhs=>St.then Wk (St.then (St.then (p:=bB 15) (.ex (Hm O)) hs) .ret)
 generalize(((bB (14+1)).on (((cF rq).on o5).map (·.2))).map (·.2))=oA at*;have Zp:∀l,oA=some l->l.length<=1048577:=λl e=>by subst e;exact T7.len
 refine aC 58 (λq:Bool×Option (List Tok)×Bool×List ak×AV=>mo q.2.1+(bif q.1 then 1 else 0)) (λq=>[(0,.ptr x 0),(4,.ptr h0.n 0),(5,.ptr (h0.n+1) 0),(6,.bool q.1)])
  (λq h'=>∃tk es b,HI h0 [x] h' [(x,RC (.vec tk 6 es) 0 b q.2.2.1 e a),(h0.n,[.str [],.str [],.ao,.ao,.bool false]),(h0.n+1,[.str doc,.str w2,.one (bS 7 (ES.map aW.cs)),q.2.2.2.2,.bool rep])]/\TS q.2.2.1 q.2.1 b es/\bJ h0 h' 1 q.2.2.2.2 (q.2.2.2.1.map aM)/\q.2.2.2.1.length<=1048580/\Lt 0 q.2.1 oA/\(∀l,q.2.1=some l->q.2.2.2.1.length+l.length<=1048579)/\FM s4 oA q.1 q.2.1 q.2.2.1 q.2.2.2.1)
  (λq:Option (List Tok)×Bool×List ak×AV=>[(0,.ptr x 0),(4,.ptr h0.n 0),(5,.ptr (h0.n+1) 0)])
  (λq h'=>∃tk es b,HI h0 [x] h' [(x,RC (.vec tk 6 es) 0 b q.2.1 e a),(h0.n,[.str [],.str [],.ao,.ao,.bool false]),(h0.n+1,[.str doc,.str w2,.one (bS 7 (ES.map aW.cs)),q.2.2.2,.bool rep])]/\TS q.2.1 q.1 b es/\bJ h0 h' 1 q.2.2.2 (q.2.2.1.map aM)/\q.2.2.1.length<=1048580/\Lt 0 q.1 oA/\fq q.1 15=false/\FM s4 oA false q.1 q.2.1 q.2.2.1)
  (true,oA,s4,[],.ao) O ⟨_,_,_,H,T7,.nil,Nat.zero_le _,.refl,(λl e=>by have:=Zp l e;simp;omega),⟨O,O,O⟩⟩ ?_ ?_
 .clear H;rintro⟨first,oq,sq,ls,y⟩ h ⟨vO,mr,b4,H,Tq,G,jR,ax,jP,li⟩ again done;simp only at Tq G jR ax jP li
  cases first with
  |true=>
   refine bm [92,91] H G O λh H G Y=>?_;have YY:ls.length<=1048579:=by obtain⟨_,_,q⟩:=li;rw[q];simp
   refine ae O call52 (bg (.of H Tq)) ?_;rintro v h2 ⟨kp,⟨K7,IH,FJ,b6,su,T6⟩,w6,rfl,MZ⟩;replace H:=H.aA kp su;replace G:=G.kp kp;refine aH H G O λh H G Y=>af O (λhd=>?_) λhd=>?_
   .have Aj:w6=bL:=of_decide_eq_true hd
    refine bm [0] H G O λh H G Y=>aF O call59 (qY w6) <| aH H G O λh H G Y=>af O (λhi=>?_) λhi=>?_
    .refine bm [0,2] H G O λh H G Y=>eK H O O O O O O O G.1 ?_ ?_
     .have e9:(ls.map aM).length=ls.length:=by simp
      show((ls.map aM).length+1)*(16+1)<=140737488355328
      rw[e9];omega
     clear H G;intro x9 h H G n_;replace G:aG h0 h 1 x9 (ls.map aM++[aM w6]):=G;obtain⟨lM,rfl⟩:=ck G;replace G:=G.pE;refine bm [2] H G O λh H G Y=>?_;have yy:Lt 1 none oq:=Lt.none;have fU:∀l2:List Tok,none=some l2->ls.length+1+l2.length<=1048579:=λl2 e=>by obtain⟨l6,e6,h6⟩:=yy l2 e;have:=jP l6 e6;omega
     exact again (false,none,false,ls++[w6],_) (by have:=Nc yy;show mo none+0 <mo oq+1;omega) O ⟨_,_,_,H,(show TS false none true _ from O),by simpa using G,(by simp;omega),(ax.trans yy).le (by omega),(λl2 e=>by have:=fU l2 e;simp;omega),FM.first li (.no) (λl2 e=>by have:=fU l2 e;omega)⟩
    .exact absurd hi (by rw[Aj];decide)
   .have Aj:w6≠bL:=of_decide_eq_false hd
    refine aH H G O λh H G Y=>aF O call59 (qY w6) <| aH H G O λh H G Y=>af O (λhi=>?_) λhi=>?_
    .have vo:w6∉mJ:=λq=>by rw[tR Aj]at q;simp[q]at hi
     refine bm [0,2] H G O λh H G Y=>eK H O O O O O O O G.1 ?_ ?_
     .have e9:(ls.map aM).length=ls.length:=by simp
      show((ls.map aM).length+1)*(16+1)<=140737488355328
      rw[e9];omega
     clear H G;intro x9 h H G n_;replace G:aG h0 h 1 x9 (ls.map aM++[aM w6]):=G;obtain⟨lM,rfl⟩:=ck G;replace G:=G.pE;refine bm [2] H G O λh H G Y=>?_;have yy:Lt 1 none oq:=Lt.none;have fU:∀l2:List Tok,none=some l2->ls.length+1+l2.length<=1048579:=λl2 e=>by obtain⟨l6,e6,h6⟩:=yy l2 e;have:=jP l6 e6;omega
     exact again (false,none,sq,ls++[w6],_) (by have:=Nc yy;show mo none+0 <mo oq+1;omega) O ⟨_,_,_,H,(show TS sq none true _ from O),by simpa using G,(by simp;omega),(ax.trans yy).le (by omega),(λl2 e=>by have:=fU l2 e;simp;omega),FM.first li (IP MZ vo) (λl2 e=>by have:=fU l2 e;omega)⟩
    .have vo:w6∈mJ:=by
      rw[tR Aj]
      by_cases q:w6∈EI
      .exact q
      .simp[q]at hi
     refine bm [2] H G O λh H G Y=>eK H O O O O O O O G.1 ?_ ?_
     .have e9:(ls.map aM).length=ls.length:=by simp
      show((ls.map aM).length+1)*(16+1)<=140737488355328
      rw[e9];omega
     clear H G;intro x9 h H G n_;replace G:aG h0 h 1 x9 (ls.map aM++[aM w6]):=G;obtain⟨lM,rfl⟩:=ck G;replace G:=G.pE;refine bm [2] H G O λh H G Y=>?_;have yy:Lt 1 ((ar.on oq).map (·.2)) oq:=Lt.dec (aq 16);have fU:∀l2:List Tok,(ar.on oq).map (·.2)=some l2->ls.length+1+l2.length<=1048579:=λl2 e=>by obtain⟨l6,e6,h6⟩:=yy l2 e;have:=jP l6 e6;omega
     exact again (false,(ar.on oq).map (·.2),sq,ls++[w6],_) (by have:=Nc yy;show mo ((ar.on oq).map (·.2))+0 <mo oq+1;omega) O ⟨_,_,_,H,T6,by simpa using G,(by simp;omega),(ax.trans yy).le (by omega),(λl2 e=>by have:=fU l2 e;simp;omega),FM.first li (Nb MZ vo) (λl2 e=>by have:=fU l2 e;omega)⟩
  |false=>
   refine bm [92] H G O λh H G Y=>ae O call51 (fP (k:=14) (.of H Tq) (by omega)) ?_;rintro v h2 ⟨kp,⟨CD,CE,A0,b8,nL,T8⟩,rfl⟩;replace H:=H.aA kp nL;replace G:=G.kp kp;refine aH H G O λh H G Y=>af O (λhq=>?_) λhq=>?_
   .cases oq with
    |none=>cases hq
    |some l=>
     obtain⟨hl,e5⟩:=CA (by omega) hq;rw[e5]at T8;have Wi:1<=l.length:=by cases l with|nil=>simp[bC]at hl|cons=>simp
     have Rh:=jP l O;refine aH H G O λh H G Y=>?_;have YY:ls.length<=1048579:=by omega
     refine ae O call52 (bg (.of H T8)) ?_;rintro v h2 ⟨kp,⟨K7,IH,FJ,b6,su,T6⟩,w6,rfl,MZ⟩;replace H:=H.aA kp su;replace G:=G.kp kp;refine aH H G O λh H G Y=>af O (λhd=>?_) λhd=>?_
     .have Aj:w6=bL:=of_decide_eq_true hd
      refine bm [0] H G O λh H G Y=>aF O call59 (qY w6) <| aH H G O λh H G Y=>af O (λhi=>?_) λhi=>?_
      .refine bm [0,2] H G O λh H G Y=>eK H O O O O O O O G.1 ?_ ?_
       .have e9:(ls.map aM).length=ls.length:=by simp
        show((ls.map aM).length+1)*(16+1)<=140737488355328
        rw[e9];omega
       clear H G;intro x9 h H G n_;replace G:aG h0 h 1 x9 (ls.map aM++[aM w6]):=G;obtain⟨lM,rfl⟩:=ck G;replace G:=G.pE;refine bm [2] H G O λh H G Y=>?_;have yy:Lt 1 none (some l):=Lt.none;have fU:∀l2:List Tok,none=some l2->ls.length+1+l2.length<=1048579:=λl2 e=>by obtain⟨l6,e6,h6⟩:=yy l2 e;have:=jP l6 e6;omega
       exact again (false,none,false,ls++[w6],_) (show mo none+0 <mo (some l)+0 from tP yy) O ⟨_,_,_,H,(show TS false none true _ from O),by simpa using G,(by simp;omega),(ax.trans yy).le (by omega),(λl2 e=>by have:=fU l2 e;simp;omega),FM.next li hl (.no)⟩
      .exact absurd hi (by rw[Aj];decide)
     .have Aj:w6≠bL:=of_decide_eq_false hd
      refine aH H G O λh H G Y=>aF O call59 (qY w6) <| aH H G O λh H G Y=>af O (λhi=>?_) λhi=>?_
      .have vo:w6∉mJ:=λq=>by rw[tR Aj]at q;simp[q]at hi
       refine bm [0,2] H G O λh H G Y=>eK H O O O O O O O G.1 ?_ ?_
       .have e9:(ls.map aM).length=ls.length:=by simp
        show((ls.map aM).length+1)*(16+1)<=140737488355328
        rw[e9];omega
       clear H G;intro x9 h H G n_;replace G:aG h0 h 1 x9 (ls.map aM++[aM w6]):=G;obtain⟨lM,rfl⟩:=ck G;replace G:=G.pE;refine bm [2] H G O λh H G Y=>?_;have yy:Lt 1 none (some l):=Lt.none;have fU:∀l2:List Tok,none=some l2->ls.length+1+l2.length<=1048579:=λl2 e=>by obtain⟨l6,e6,h6⟩:=yy l2 e;have:=jP l6 e6;omega
       exact again (false,none,sq,ls++[w6],_) (show mo none+0 <mo (some l)+0 from tP yy) O ⟨_,_,_,H,(show TS sq none true _ from O),by simpa using G,(by simp;omega),(ax.trans yy).le (by omega),(λl2 e=>by have:=fU l2 e;simp;omega),FM.next li hl (IP MZ vo)⟩
      .have vo:w6∈mJ:=by
        rw[tR Aj]
        by_cases q:w6∈EI
        .exact q
        .simp[q]at hi
       refine bm [2] H G O λh H G Y=>eK H O O O O O O O G.1 ?_ ?_
       .have e9:(ls.map aM).length=ls.length:=by simp
        show((ls.map aM).length+1)*(16+1)<=140737488355328
        rw[e9];omega
       clear H G;intro x9 h H G n_;replace G:aG h0 h 1 x9 (ls.map aM++[aM w6]):=G;obtain⟨lM,rfl⟩:=ck G;replace G:=G.pE;refine bm [2] H G O λh H G Y=>?_;have yy:Lt 1 ((ar.on (some l.tail)).map (·.2)) (some l):=(λl2 e2=>by obtain⟨l6,e6,h6⟩:=(Lt.dec (aq 16):Lt 1 ((ar.on (some l.tail)).map (·.2)) (some l.tail)) l2 e2;injection e6 with e6;subst e6;exact⟨l,O,by simp at h6;omega⟩);have fU:∀l2:List Tok,(ar.on (some l.tail)).map (·.2)=some l2->ls.length+1+l2.length<=1048579:=λl2 e=>by obtain⟨l6,e6,h6⟩:=yy l2 e;have:=jP l6 e6;omega
       exact again (false,(ar.on (some l.tail)).map (·.2),sq,ls++[w6],_) (show mo ((ar.on (some l.tail)).map (·.2))+0 <mo (some l)+0 from tP yy) O ⟨_,_,_,H,T6,by simpa using G,(by simp;omega),(ax.trans yy).le (by omega),(λl2 e=>by have:=fU l2 e;simp;omega),FM.next li hl (Nb MZ vo)⟩
   .have e5:((bB 15).on oq).map (·.2)=oq:=by rw[vN (by omega),if_neg (by rw[show fq oq 15=false from hq];simp)]
    have T8':TS sq oq b8 A0:=e5▸T8
    exact aH H G O λh H G Y=>done (oq,sq,ls,y) O ⟨_,_,_,H,T8',G,jR,ax,hq,li⟩
 .clear H;rintro⟨oq,sq,ls,y⟩ h ⟨vO,mr,b4,H,Tq,G,jR,ax,ka,li⟩;simp only at Tq G jR ax ka li;refine jK 2 (dn.cs ⟨doc,w2,ES,ls,rep⟩) H O O ⟨.refl _,.refl _,.refl _,G.ku,.refl _,trivial⟩ λh H Y=>?_;clear G;exact an [2,1] H O λh H Y=>ab [1] H O ⟨H.kp,oq,sq,.of H Tq,(((Lt.dR (aq 10).dR).trans (Lt.dR (aq 16).dR)).trans ((yu.trans Wl).trans ((mz.trans Zo).trans ax))).le (by omega),(⟨doc,w2,ES,ls,rep⟩:dn),O,St.then (.ex nv) (St.then (.ex pF) (St.then (p:=lW) M9 (St.then hS4 (St.then J9 (hSA (li.stop ka))))))⟩
end
end
section
variable {P:Program} {lt:LT} {C:Exit->ay->AH->Prop} {h h0 h1 hb:AH} {fr:ay} {ks:List Kt} {ids:List Nat} {V:View} {o:Oper} {ops l:List Oper}
def Uy (h0 h:AH) (sz:Nat) (z:AV) (es:List (List AV)):Option Nat->Prop
 |none=>z= .ao/\es=[]
 |some aw=>∃fk,z= .vec (.own aw fk) sz es/\h0.nt<=aw/\aw <h.nt/\h.bV aw=fk/\es≠[]
def IQ (h0 h:AH) (zs:List (Nat×AV×List (List AV))) (ls:List (Option Nat)):Prop:=zs.length=ls.length/\(∀(i sz:Nat) (z:AV) (es:List (List AV)) (lo:Option Nat),zs[i]? =some (sz,z,es)->ls[i]? =some lo->Uy h0 h sz z es lo)/\∀i j a:Nat,i≠j->ls[i]? =some (some a)->ls[j]? =some (some a)->False
theorem Uy.up {sz:Nat} {z:AV} {es:List (List AV)} {lo:Option Nat} (g:Uy h0 h sz z es lo) (hn:h.nt<=h1.nt) (ht:∀a,lo=some a->a <h.nt->h1.bV a=h.bV a):Uy h0 h1 sz z es lo:=by cases lo with|none=>exact g|some a=>obtain⟨fk,q1,q2,q3,q4,q5⟩:=g;exact⟨fk,q1,q2,Nat.lt_of_lt_of_le q3 hn,(ht a O q3).trans q4,q5⟩
theorem IQ.up {zs:List (Nat×AV×List (List AV))} {ls:List (Option Nat)} (g:IQ h0 h zs ls) (hn:h.nt<=h1.nt) (ht:∀a,a <h.nt->h1.bV a=h.bV a):IQ h0 h1 zs ls:=⟨g.1,λi sz z es lo q1 q2=>(g.2.1 i sz z es lo q1 q2).up hn λa _ h=>ht a h,g.2.2⟩
def SG (h0 h:AH) (z0 z1 z2 z3 z4:AV) (sc:bY):Prop:=∃ls,IQ h0 h [(3,z0,sc.defs.map av.cs),(3,z1,sc.exts.map av.cs),(5,z2,sc.cJ.map dn.cs),(8,z3,sc.types.map Def.cs),(8,z4,sc.aK.map Def.cs)] ls
variable {z0 z1 z2 z3 z4:AV} {sc:bY}
theorem SG.eq (g:SG h0 h z0 z1 z2 z3 z4 sc) (e1:h1.nt=h.nt) (e2:h1.bV=h.bV):SG h0 h1 z0 z1 z2 z3 z4 sc:=by obtain⟨ls,g⟩:=g;exact⟨ls,g.up (by rw[e1];exact Nat.le_refl _) λa _=>by rw[e2]⟩
instance {h h':AH} {h0:AH} {z0 z1 z2 z3 z4:AV} {sc:bY}:Nx h h' (SG h0 h z0 z1 z2 z3 z4 sc) (SG h0 h' z0 z1 z2 z3 z4 sc):=⟨λg=>g.eq⟩
theorem SG.kp (g:SG h0 h z0 z1 z2 z3 z4 sc) (k:Kp ids h h1):SG h0 h1 z0 z1 z2 z3 z4 sc:=by obtain⟨ls,g⟩:=g;exact⟨ls,g.up k.nt λa h=>k.bV a h⟩
theorem SG.base {Uz:AH} (g:SG h0 h z0 z1 z2 z3 z4 sc) (e:Uz.nt=h0.nt):SG Uz h z0 z1 z2 z3 z4 sc:=by
 obtain⟨ls,g1,g2,g3⟩:=g;refine⟨ls,g1,λi sz z es lo q1 q2=>?_,g3⟩;have:=g2 i sz z es lo q1 q2
 cases lo with|none=>exact this|some a=>obtain⟨fk,r1,r2,r3,r4⟩:=this;exact⟨fk,r1,by rw[e];exact r2,r3,r4⟩
theorem IQ.app {zs:List (Nat×AV×List (List AV))} {ls:List (Option Nat)} (i:Nat) {s x:Operand} {t:TypeId} {sz gl:Nat} {z:AV} {es:List (List AV)} {c:List AV} {tk:Tk} (H:HI h0 ids h V) (g:IQ h0 h zs ls) (hz:zs[i]? =some (sz,z,es))
 (ha:cD o.op=some (s,x,t)) (hw:au ops fr o.guard=some true) (hi:cC P t=some (sz,gl)) (kN:fr.ev s= .v z) (ex:fr.ev x= .v (.vec tk sz [c])) (dK:(es.length+1)*(gl+1)<=140737488355328):
 ∃pz h',ag P lt ops o fr h (.v (.vec pz sz (es++[c]))) h'/\HI h0 ids h' V/\h'.n=h.n/\h'.get=h.get/\∃Lb,IQ h0 h' (zs.set i (sz,.vec pz sz (es++[c]),es++[c])) Lb:=by
 obtain⟨g1,g2,g3⟩:=g;have ax:i <zs.length:=(List.getElem?_eq_some_iff.1 hz).1;obtain⟨lo,sw⟩:∃lo,ls[i]? =some lo:=⟨_,List.getElem?_eq_getElem (by omega)⟩;have hy:aY sz (.vec tk sz [c])=some [c]:=by simp[aY]
 have wC:=H.kp.nt;have fin:∀(aw v:Nat) (h':AH),zA h sz z es aw v h'->h'.n=h.n->h'.get=h.get->h'.aV=h.aV->h.nt<=h'.nt->h0.nt<=aw->aw <h'.nt->h'.bV aw=v->(∀l,l <h.nt->l≠aw->h'.bV l=h.bV l)->(∀j a,j≠i->ls[j]? =some (some a)->a≠aw)->(∀l,l <h0.nt->h'.bV l=h.bV l)->
  ∃pz h',ag P lt ops o fr h (.v (.vec pz sz (es++[c]))) h'/\HI h0 ids h' V/\h'.n=h.n/\h'.get=h.get/\∃Lb,IQ h0 h' (zs.set i (sz,.vec pz sz (es++[c]),es++[c])) Lb:=by
  intro aw v h' k1 k2 k3 k4 k5 k6 k7 k8 k9 RW X2;refine⟨.own aw v,h',ag.app ha hw hi kN ex k1 hy (by simp) dK,⟨HV.of (λe he=>?_) H.hv.nodup,⟨by rw[k2];exact H.kp.n,λk hk hi=>by rw[k3];exact H.kp.get k hk hi,Nat.le_trans H.kp.nt k5,λl hl=>(X2 l hl).trans (H.kp.bV l hl),k4.trans H.kp.aV⟩,H.new⟩,k2,k3,ls.set i (some aw),?_,?_,?_⟩
  .obtain⟨q1,q2⟩:=H.hv.get he;exact⟨by rw[k3];exact q1,by rw[k2];exact q2⟩
  .simpa using g1
  .intro j WW z' cA G4 q1 q2
   by_cases hj:i=j
   .subst hj;rw[List.getElem?_set_self (by omega)]at q1 q2;injection q1 with q1
    injection q2 with q2
    injection q1 with e1 q1
    injection q1 with e2 e3
    subst e1 e2 e3 q2;exact⟨v,O,k6,k7,k8,by simp⟩
   .rw[List.getElem?_set_ne hj]at q1 q2;exact(g2 j WW z' cA G4 q1 q2).up k5 λa e ha=>k9 a ha (RW j a (Ne.symm hj) (by rw[q2,e]))
  .intro p q a Tj e1 e2
   by_cases hp:i=p
   .subst hp;rw[List.getElem?_set_self (by omega)]at e1;injection e1 with e1
    injection e1 with e1
    rw[List.getElem?_set_ne Tj]at e2;exact RW q a (Ne.symm Tj) e2 e1.symm
   .rw[List.getElem?_set_ne hp]at e1
    by_cases hq:i=q
    .subst hq;rw[List.getElem?_set_self (by omega)]at e2;injection e2 with e2
     injection e2 with e2
     exact RW p a Tj e1 e2.symm
    .rw[List.getElem?_set_ne hq]at e2;exact g3 p q a Tj e1 e2
 have hl:=g2 i sz z es lo hz sw
 cases lo with
 |none=>
  obtain⟨rfl,rfl⟩:=hl;refine fin h.nt 0 h.cu (.inl ⟨O,O,O,O,O⟩) O O O (Nat.le_succ _) wC (Nat.lt_succ_self _) ?_ (λl hl cv=>?_) (λj a hj e=>?_) λl hl=>?_
  .simp only[AH.cu];rw[cU]
  .simp only[AH.cu];rw[beq_false_of_ne cv]
  .obtain⟨y,hy⟩:∃y,zs[j]? =some y:=⟨_,List.getElem?_eq_getElem (by have:=(List.getElem?_eq_some_iff.1 e).1;omega)⟩;obtain⟨_,_,_,q3,_⟩:=g2 j y.1 y.2.1 y.2.2 _ hy e;omega
  .simp only[AH.cu];rw[beq_false_of_ne (by omega)]
 |some aw=>
  obtain⟨fk,rfl,q2,q3,q4,_⟩:=hl;refine fin aw (fk+1) (h.bump aw) (.inr (.inr ⟨fk,.inl O,q4,O,O⟩)) O O O (Nat.le_refl _) q2 q3 ?_ (λl hl cv=>?_) (λj a hj e ea=>?_) λl hl=>?_
  .simp only[AH.bump];rw[cU,q4]
  .simp only[AH.bump];rw[beq_false_of_ne cv]
  .subst ea;exact g3 j i a hj e sw
  .simp only[AH.bump];rw[beq_false_of_ne (by omega)]
theorem mU (i:Nat) {zs:List (Nat×AV×List (List AV))} {D pre:List Nat} {s x:Operand} {t:TypeId} {sz gl:Nat} {z:AV} {es:List (List AV)} {c:List AV} {tk:Tk} {d:Tmp} (H:HI h0 ids h V) (g:∃ls,IQ h0 h zs ls) (hz:zs[i]? =some (sz,z,es))
 (ha:cD o.op=some (s,x,t)) (hw:au ops fr o.guard=some true) (hi:cC P t=some (sz,gl)) (kN:fr.ev s= .v z) (ex:fr.ev x= .v (.vec tk sz [c])) (hd:o.dst=some d) (dK:(es.length+1)*(gl+1)<=140737488355328)
 (T:∀pz h',HI h0 ids h' V->(∃ls,IQ h0 h' (zs.set i (sz,.vec pz sz (es++[c]),es++[c])) ls)->h'.n=h.n->XS P lt C (.eW ops l D (2::pre)) ks (fr.bf d (.v (.vec pz sz (es++[c])))) h'):XS P lt C (.eW ops (o::l) D pre) ks fr h:=by
 obtain⟨ls,g⟩:=g;obtain⟨pz,h',st,k1,k2,k3,Lb,k4⟩:=IQ.app (lt:=lt) i H g hz ha hw hi kN ex dK;exact WR st hd (T pz h' k1 ⟨Lb,k4⟩ k2)
end
section
variable {h h0 hb:AH} {x y d k n:Nat} {o:Option (List Tok)} {s e a:Bool} {sc:bY}
theorem Km (S:RB h0 x o d s e a):∃h',(Kp [x] h0 h'/\RB h' x o d s false a)/\oW prog 49 [.ref none [.ptr x 0]] h0 h':=by obtain⟨tk,es,b,H,T⟩:=S.at_;exact oW.of (Q:=λh'=>Kp [x] h0 h'/\RB h' x o d s false a) (n:=4) (rs:=[]) ⟨func49,O,O,O⟩ [] O <| an [0] H O λh H Y=>cy [] H O ⟨H.kp,.of H T⟩
def PW (hb h:AH) (y:Nat) (sc:bY):Prop:=y <h.n/\hb.nt<=h.nt/\∃z0 z1 z2 z3 z4,h.get y=some (.cells [z0,z1,z2,z3,z4])/\SG hb h z0 z1 z2 z3 z4 sc
theorem PW.at_ (S:RB h x o d s e a) (j:PW hb h y sc) (FN:y≠x):
 ∃tk es b z0 z1 z2 z3 z4,HI (h.aw hb.nt) [x,y] h [(x,RC (.vec tk 6 es) d b s e a),(y,[z0,z1,z2,z3,z4])]/\TS s o b es/\SG (h.aw hb.nt) h z0 z1 z2 z3 z4 sc:=by
 obtain⟨hx,tk,es,b,hg,T⟩:=S;obtain⟨hB,hn,z0,z1,z2,z3,z4,pD,G⟩:=j;refine⟨tk,es,b,z0,z1,z2,z3,z4,⟨HV.of (λe he=>?_) (by simp[Ne.symm FN]),⟨Nat.le_refl _,λ_ _ _=>rfl,hn,λ_ _=>rfl,O⟩,λe he=>?_⟩,T,G.base O⟩
 .rcases List.mem_cons.1 he with rfl|he
  .exact⟨hg,hx⟩
  .rw[List.mem_singleton]at he;subst he;exact⟨pD,hB⟩
 .rcases List.mem_cons.1 he with rfl|he
  .exact .inl (by simp)
  .rw[List.mem_singleton]at he;subst he;exact .inl (by simp)
def bY.bd (N:Nat) (a:bY):Prop:=a.defs.length<=N/\a.exts.length<=N/\a.cJ.length<=N/\a.types.length<=N/\a.aK.length<=N
theorem bY.bd.add {N:Nat} {a:bY} (h:a.bd N) (i:Item):(i.add a).bd (N+1):=by
 obtain⟨h1,h2,h3,h4,h5⟩:=h
 cases i<;>refine⟨?_,?_,?_,?_,?_⟩<;>simp only[Item.add,List.length_append,List.length_singleton]<;>omega
def DQ (hb:AH) (x y:Nat) (s:Bool) (h:AH) (o:Option (List Tok)) (sc:bY) (R:Option (Item×List Tok)) (v:AV) (h':AH):Prop:=Kp [x,y] (h.aw hb.nt) h'/\v= .cN []/\∃o' s' i,RB h' x o' 0 s' false false/\Lt 0 o' o/\PW hb h' y (i.add sc)/\St s o s' o' R i
end
section
theorem sE {h h2 hb:AH} {x y:Nat} {o':Option (List Tok)} {s' b:Bool} {tk:Tk} {es:List (List AV)} {z0 z1 z2 z3 z4:AV} {V:View} {sc:bY} (FN:y≠x) (H:HI (h.aw hb.nt) [x,y] h2 ((x,RC (.vec tk 6 es) 0 b s' true false)::(y,[z0,z1,z2,z3,z4])::V)) (T:TS s' o' b es)
 (G:SG (h.aw hb.nt) h2 z0 z1 z2 z3 z4 sc):∃h7,(Kp [x,y] (h.aw hb.nt) h7/\RB h7 x o' 0 s' false false/\PW hb h7 y sc)/\oW prog 49 [.ref none [.ptr x 0]] h2 h7:=by
 obtain⟨h7,⟨KV,S7⟩,D⟩:=Km (.of H T);have kp:Kp [x,y] (h.aw hb.nt) h7:=H.kp.trans (KV.sub (by simp));exact⟨h7,⟨kp,S7,Nat.lt_of_lt_of_le H.jM.2 KV.n,kp.nt,z0,z1,z2,z3,z4,(KV.get y H.jM.2 (by simpa using FN)).trans H.jM.1,(G.kp KV).base O⟩,D⟩
theorem yz {o:Option (List Tok)} {w:ak} (h:rC o w=true):∃L,o=some L/\bC L=16/\dN L=w:=by cases o with|none=>cases h|some L=>exact⟨L,O,of_decide_eq_true h⟩
theorem yA {o:Option (List Tok)} (h:rC o da=true):kQ.on o=(j4.andThen λd=> .ret (.exts d)).on o:=by obtain⟨L,rfl,h1,h2⟩:=yz h;exact if_pos h2
theorem PY {o:Option (List Tok)} (h1:rC o bK=false) (h2:rC o da=false):kQ.on o=(gU.andThen λd=> .ret (.aK d)).on o:=by
 cases o with
 |none=>rfl
 |some L=>
  have n1:¬ (bC L=16/\dN L=bK):=of_decide_eq_false h1
  have n2:¬ (bC L=16/\dN L=da):=of_decide_eq_false h2
  show kQ L=(gU.andThen λd=> .ret (.aK d)) L
  by_cases hk:bC L=16
  .unfold kQ;rw[if_neg λq=>n2 ⟨hk,q⟩,if_neg λq=>n1 ⟨hk,q⟩]
  .have kZ:∀w,cF w L=none:=λw=>by rw[yw,if_neg λh=>hk h.1]
   have e1:(gU.andThen λd=>Pa.ret (Item.aK d)) L=none:=gE (gE (by
    have:=ga (fx:=false) (doc:=[]) (o:=some L) (w:=[]) (λt l e=>by rw[show ar.on (some L)=none from q7 hk]at e;cases e)
    exact this.trans O))
   have e2:(j4.andThen λd=>Pa.ret (Item.exts d)) L=none:=gE (gE (gE (kZ _)))
   have e3:(Ca.andThen λ_=>Pa.ret Item.none) L=none:=gE (gE (gE (kZ _)))
   unfold kQ;split
   .rw[e2,e1]
   .split
    .rw[e3,e1]
    .rfl
theorem wT {s:Bool} {o:Option (List Tok)} {w:ak} (h:rC o w=true):St s o s (wR o) ((cF w).on o) ():=λhs=>⟨hs,by rw[MW,if_pos h],λ_ _ _=>rfl⟩
theorem IS {α:Type} {em:α->Bool} {s:Bool} {o:Option (List Tok)} {d:α} (h:s=true->o=none\/em d=false):St s o s o (Pa.on (if em d=true then(λ_=>none:Pa α)else Pa.ret d) o) d:=λhs=>by
 rcases h hs with rfl|h
 .exact⟨hs,O,λt l e=>by cases e⟩
 .rw[if_neg (by rw[h];simp)];exact St.ret hs
theorem Nd {s s':Bool} {o o':Option (List Tok)} {rs:List fD} (hk:fq o 13=true) (h:St s o s' o' (nc.on o) rs) (hs:s'=true):o'=none\/rs≠[]:=by
 obtain⟨_,q2,q3⟩:=h hs
 cases o with
 |none=>cases hk
 |some L=>
  have vp:bC L=13:=of_decide_eq_true hk
  cases hR:nc.on (some L)with
  |none=>rw[hR]at q2;exact .inl q2
  |some p=>
   right;have e1:=q3 p.1 p.2 hR;have e:nc L=some p:=hR;unfold nc ca at e;rw[if_pos vp]at e;split at e
   .cases e
   .split at e
    .cases e
    .rename_i cv;injection e with e
     subst e;simp only at e1;rw[<-e1];intro q;rw[q]at cv;exact cv O
attribute [local irreducible] aQ aU bE cK
section
variable {h h0 hb:AH} {x y d k n:Nat} {o:Option (List Tok)} {s e a:Bool} {sc:bY}
theorem qk (FN:y≠x) (S:RB h0 x o 0 s false false) (j:PW hb h0 y sc) (A7:sc.bd 2097152):al prog 25 [.ptr x 0,.ptr y 0] h0 (DQ hb x y s h0 o sc (kQ.on o)):=by
 obtain⟨tk,es,b,z0,z1,z2,z3,z4,H,T,G⟩:=PW.at_ S j FN;refine Fz (n:=77) (rs:=[]) [] ⟨func25,O,O,O⟩ O <| jU [2] [0] H G O λh H G Y=>uj O O O <| jU [2] [] H G O λh H G Y=>ae O call23 (u6 (w:=bK) (.of H T)) ?_;rintro v h2 ⟨kp,rfl⟩;replace H:=H.same kp;replace G:=G.kp kp;refine jU [2] [] H G O λh H G Y=>af O (λhw=>?_) λhw=>?_
 .refine jU [2] [0,0] H G O λh H G Y=>?_;obtain⟨h7,⟨k7,S7,j7⟩,D⟩:=sE (sc:=sc) FN H (show TS false none true _ from O) G;exact oR O call49 ⟨h7,⟨k7,O,none,false,.none,S7,.none,j7,.no⟩,D⟩ O
 .refine jU [2] [] H G O λh H G Y=>ae O call26 (jb (w:=da) (.of H T)) ?_;rintro v h2 ⟨kp,⟨zl,AY,AZ,b1,eM,T1⟩,rfl⟩;replace H:=H.aA kp eM;replace G:=G.kp kp;refine jU [2] [] H G O λh H G Y=>af O (λHo=>?_) λHo=>?_
  .rw[if_pos Ho]at T1;have jF:Lt 0 (wR o) o:=(Lt.nx S.ne).le (by omega);refine jU [2] [] H G O λh H G Y=>ae O call27 (dU (fx:=true) (.inl O) (.of H T1)) ?_;rintro v h2 ⟨kp,o8,s8,⟨CD,CE,A0,b8,nL,T8⟩,gH,ds,rfl,nj,py⟩;replace H:=H.aA kp nL;replace G:=G.kp kp;refine jU [2] [2] H G O λh H G Y=>ae O call21 (fF (k:=12) (.of H T8) (by omega)) ?_;rintro v h2 ⟨kp,rfl⟩;replace H:=H.same kp;replace G:=G.kp kp;refine fm 2 [.str [],.one (bS 2 (ds.map kl.cs)),.one (bS 2 (([]:List fD).map fD.cs))] H O O ⟨.refl _,.refl _,bj (λ_ _ _ h=>h),trivial⟩ λh H Y=>have G:=G.eq Y.2.1 Y.2.2;jU [2] [] H G O λh H G Y=>?_;refine af O (λhq=>?_) λhq=>?_
   .refine jU [2] [] H G O λh H G Y=>ae O call28 (sC (λ_=>hq) (.of H T8)) ?_;rintro v h2 ⟨kp,o9,s9,⟨Tf,lM,Tg,b9,tK,T9⟩,sD,rs,rfl,IN⟩;replace H:=H.aA kp tK;replace G:=G.kp kp;refine jU [2] [2,1,2] H G O λh H G Y=>mU 1 H G O O O O O O O ?_ ?_
    .have:=A7.2.1
     have e9:(sc.exts.map av.cs).length=(sc.exts).length:=by simp
     show((sc.exts.map av.cs).length+1)*(64+1)<=140737488355328
     rw[e9];omega
    clear H G;intro lM h H G n_;replace G:SG (h0.aw hb.nt) h z0 (.vec lM 3 (sc.exts.map av.cs++[av.cs ⟨[],ds,rs⟩])) z2 z3 z4 (Item.add sc (.exts ⟨[],ds,rs⟩)):=by obtain⟨ls,G⟩:=G;refine⟨ls,?_⟩;simp only[Item.add,List.map_append,List.map_cons,List.map_nil];exact G
    refine jU [2] [1] H G O λh H G Y=>?_;have hD:St s o s9 o9 ((dw []).on o) (⟨[],ds,rs⟩:av):=St.then (wT Ho) (St.then py (St.then (p:=nc) IN .ret));have hE:s9=true->o9=none\/(⟨[],ds,rs⟩:av).bH=false:=λhs=>(Nd hq IN hs).imp id λh=>by cases rs with|nil=>exact absurd O h|cons=>simp[av.bH]
    obtain⟨h7,⟨k7,S7,j7⟩,D⟩:=sE (sc:=Item.add sc (.exts ⟨[],ds,rs⟩)) FN H T9 G;exact oR O call49 ⟨h7,⟨k7,O,o9,s9,.exts ⟨[],ds,rs⟩,S7,((jF.trans gH).trans sD).le (by omega),j7,St.is (St.then (p:=j4) (St.then (p:=dw []) hD (IS (em:=av.bH) hE)) .ret) (yA Ho)⟩,D⟩ O
   .refine jU [2] [2] H G O λh H G Y=>fe 2 O O O O O (cn 2 _) O O O <| jU [2] [] H G O λh H G Y=>af O (λhz=>?_) λhz=>?_
    .refine jU [2] [0,0,1,2] H G O λh H G Y=>mU 1 H G O O O O O O O ?_ ?_
     .have:=A7.2.1
      have e9:(sc.exts.map av.cs).length=(sc.exts).length:=by simp
      show((sc.exts.map av.cs).length+1)*(64+1)<=140737488355328
      rw[e9];omega
     clear H G;intro lM h H G n_;replace G:SG (h0.aw hb.nt) h z0 (.vec lM 3 (sc.exts.map av.cs++[av.cs ⟨[],ds,[]⟩])) z2 z3 z4 (Item.add sc (.exts ⟨[],ds,[]⟩)):=by obtain⟨ls,G⟩:=G;refine⟨ls,?_⟩;simp only[Item.add,List.map_append,List.map_cons,List.map_nil];exact G
     refine jU [2] [1] H G O λh H G Y=>?_;obtain⟨h7,⟨k7,S7,j7⟩,D⟩:=sE (sc:=Item.add sc (.exts ⟨[],ds,[]⟩)) FN H (show TS false none true _ from O) G;exact oR O call49 ⟨h7,⟨k7,O,none,false,.exts ⟨[],ds,[]⟩,S7,.none,j7,.no⟩,D⟩ O
    .refine jU [2] [1,2] H G O λh H G Y=>mU 1 H G O O O O O O O ?_ ?_
     .have:=A7.2.1
      have e9:(sc.exts.map av.cs).length=(sc.exts).length:=by simp
      show((sc.exts.map av.cs).length+1)*(64+1)<=140737488355328
      rw[e9];omega
     clear H G;intro lM h H G n_;replace G:SG (h0.aw hb.nt) h z0 (.vec lM 3 (sc.exts.map av.cs++[av.cs ⟨[],ds,[]⟩])) z2 z3 z4 (Item.add sc (.exts ⟨[],ds,[]⟩)):=by obtain⟨ls,G⟩:=G;refine⟨ls,?_⟩;simp only[Item.add,List.map_append,List.map_cons,List.map_nil];exact G
     refine jU [2] [1] H G O λh H G Y=>?_;have hD:St s o s8 o8 ((dw []).on o) (⟨[],ds,[]⟩:av):=St.then (wT Ho) (St.then py (St.then (p:=nc) (.none_ hq) .ret));have hE:s8=true->o8=none\/(⟨[],ds,[]⟩:av).bH=false:=λhs=> .inr (by cases ds with|nil=>simp at hz|cons=>simp[av.bH])
     obtain⟨h7,⟨k7,S7,j7⟩,D⟩:=sE (sc:=Item.add sc (.exts ⟨[],ds,[]⟩)) FN H T8 G;exact oR O call49 ⟨h7,⟨k7,O,o8,s8,.exts ⟨[],ds,[]⟩,S7,(jF.trans gH).le (by omega),j7,St.is (St.then (p:=j4) (St.then (p:=dw []) hD (IS (em:=av.bH) hE)) .ret) (yA Ho)⟩,D⟩ O
  .rw[if_neg (by rw[show rC o da=false from Ho];simp)]at T1;refine jU [2] [] H G O λh H G Y=>ae O call30 (EW (doc:=[]) (.of H T1)) ?_;rintro v h2 ⟨kp,o8,s8,⟨CD,CE,A0,b8,nL,T8⟩,gH,df,rfl,hdb,py⟩;replace H:=H.aA kp nL;replace G:=G.kp kp;refine jU [2] [2,0] H G O λh H G Y=>?_;have hex:kQ.on o=(gU.andThen λd=> .ret (.aK d)).on o:=PY hw Ho;have sD:Lt 0 o8 o:=gH.le (by omega)
   cases o8 with
   |none=>
    obtain rfl:b8=true:=T8;refine aj O (λhb=>by cases hb) (λ_=>?_);refine jU [2] [90,1,2] H G O λh H G Y=>mU 4 H G O O O O O O O ?_ ?_
    .have:=A7.2.2.2.2
     have e9:(sc.aK.map Def.cs).length=(sc.aK).length:=by simp
     show((sc.aK.map Def.cs).length+1)*(168+1)<=140737488355328
     rw[e9];omega
    clear H G;intro lM h H G n_;replace G:SG (h0.aw hb.nt) h z0 z1 z2 z3 (.vec lM 8 (sc.aK.map Def.cs++[Def.cs df])) (Item.add sc (.aK df)):=by obtain⟨ls,G⟩:=G;refine⟨ls,?_⟩;simp only[Item.add,List.map_append,List.map_cons,List.map_nil];exact G
    refine jU [2] [1] H G O λh H G Y=>?_;obtain⟨h7,⟨k7,S7,j7⟩,D⟩:=sE (sc:=Item.add sc (.aK df)) FN H (show TS s8 none true _ from O) G;exact oR O call49 ⟨h7,⟨k7,O,none,s8,.aK df,S7,.none,j7,St.is (St.then (p:=gU) (St.then (p:=bc false []) py (IS (em:=Def.bH) λ_=> .inl O)) .ret) hex⟩,D⟩ O
   |some l8=>
    obtain rfl:b8=false:=T8.1;refine aj O (λ_=>?_) (λhb=>by cases hb);refine jU [2] [2] H G O λh H G Y=>aF O call50 (Hh df hdb) <| jU [2] [] H G O λh H G Y=>af O (λhe=>?_) λhe=>?_
    .refine jU [2] [0,0,1,2] H G O λh H G Y=>mU 4 H G O O O O O O O ?_ ?_
     .have:=A7.2.2.2.2
      have e9:(sc.aK.map Def.cs).length=(sc.aK).length:=by simp
      show((sc.aK.map Def.cs).length+1)*(168+1)<=140737488355328
      rw[e9];omega
     clear H G;intro lM h H G n_;replace G:SG (h0.aw hb.nt) h z0 z1 z2 z3 (.vec lM 8 (sc.aK.map Def.cs++[Def.cs df])) (Item.add sc (.aK df)):=by obtain⟨ls,G⟩:=G;refine⟨ls,?_⟩;simp only[Item.add,List.map_append,List.map_cons,List.map_nil];exact G
     refine jU [2] [1] H G O λh H G Y=>?_;obtain⟨h7,⟨k7,S7,j7⟩,D⟩:=sE (sc:=Item.add sc (.aK df)) FN H (show TS false none true _ from O) G;exact oR O call49 ⟨h7,⟨k7,O,none,false,.aK df,S7,.none,j7,.no⟩,D⟩ O
    .refine jU [2] [1,2] H G O λh H G Y=>mU 4 H G O O O O O O O ?_ ?_
     .have:=A7.2.2.2.2
      have e9:(sc.aK.map Def.cs).length=(sc.aK).length:=by simp
      show((sc.aK.map Def.cs).length+1)*(168+1)<=140737488355328
      rw[e9];omega
     clear H G;intro lM h H G n_;replace G:SG (h0.aw hb.nt) h z0 z1 z2 z3 (.vec lM 8 (sc.aK.map Def.cs++[Def.cs df])) (Item.add sc (.aK df)):=by obtain⟨ls,G⟩:=G;refine⟨ls,?_⟩;simp only[Item.add,List.map_append,List.map_cons,List.map_nil];exact G
     refine jU [2] [1] H G O λh H G Y=>?_;obtain⟨h7,⟨k7,S7,j7⟩,D⟩:=sE (sc:=Item.add sc (.aK df)) FN H T8 G;exact oR O call49 ⟨h7,⟨k7,O,some l8,s8,.aK df,S7,sD,j7,St.is (St.then (p:=gU) (St.then (p:=bc false []) py (IS (em:=Def.bH) λ_=> .inr (by simpa using he))) .ret) hex⟩,D⟩ O
end
end
section
section
variable {P:Program} {lt:LT} {C:Exit->ay->AH->Prop} {h:AH} {fr:ay} {ks:List Kt}
variable {h0:AH} {ids:List Nat} {V:View} {o:Oper} {ops l:List Oper}
theorem AD.qj (i:Nat) {zs:List (Nat×AV×List (List AV))} {s x:Operand} {t:TypeId} {sz gl k:Nat} {z:AV} {es:List (List AV)} {c:List AV} {tk:Tk} {d:Tmp} {K:List po->List AH->ay->AH->Prop} (H:HI h0 ids h V) (g:∃ls,IQ h0 h zs ls) (hz:zs[i]? =some (sz,z,es))
 (ha:cD o.op=some (s,x,t)) (hw:au ops fr o.guard=some true) (hi:cC P t=some (sz,gl)) (kN:fr.ev s= .v z) (ex:fr.ev x= .v (.vec tk sz [c])) (hd:o.dst=some d) (dK:(es.length+1)*(gl+1)<=140737488355328)
 (T:∀pz h',HI h0 ids h' V->(∃ls,IQ h0 h' (zs.set i (sz,.vec pz sz (es++[c]),es++[c])) ls)->h'.n=h.n->AD P lt ops l (fr.bf d (.v (.vec pz sz (es++[c])))) h' (k+1) λaD hs aB h2=>K (⟨o,fr,.v (.vec pz sz (es++[c])),2,k⟩::aD) (h'::hs) aB h2):AD P lt ops (o::l) fr h k K:=by
 obtain⟨ls,g⟩:=g;obtain⟨pz,h',st,k1,k2,k3,Lb,k4⟩:=IQ.app (lt:=lt) i H g hz ha hw hi kN ex dK;exact AD.LA st hd (T pz h' k1 ⟨Lb,k4⟩ k2)
end
def PZ (hb:AH) (x y:Nat) (s:Bool) (h:AH) (o:Option (List Tok)) (sc:bY) (R:Option (Item×List Tok)) (v:AV) (h':AH):Prop:=Kp [x,y] (h.aw hb.nt) h'/\v= .cN []/\∃o' s' i,RB h' x o' 0 s' false false/\Lt 1 o' o/\PW hb h' y (i.add sc)/\St s o s' o' R i
theorem PZ.mk {h h2 hb:AH} {x y:Nat} {s:Bool} {o o':Option (List Tok)} {s' b:Bool} {tk:Tk} {es:List (List AV)} {z0 z1 z2 z3 z4:AV} {V:View} {sc:bY} {R:Option (Item×List Tok)} {i:Item} (H:HI (h.aw hb.nt) [x,y] h2 ((x,RC (.vec tk 6 es) 0 b s' false false)::(y,[z0,z1,z2,z3,z4])::V)) (T:TS s' o' b es)
 (G:SG (h.aw hb.nt) h2 z0 z1 z2 z3 z4 (i.add sc)) (hl:Lt 1 o' o) (hs:St s o s' o' R i):PZ hb x y s h o sc R (.cN []) h2:=
 ⟨H.kp,O,o',s',i,.of H T,hl,⟨H.jM.2,H.kp.nt,z0,z1,z2,z3,z4,H.jM.1,G.base O⟩,hs⟩
theorem Tl {o:Option (List Tok)} (h:(fq o 19||fq o 20)=false):fv.on o=o.map λl=>([],l):=by cases o with|none=>rfl|some L=>simp only[Bool.or_eq_false_iff]at h;have h1:¬ bC L=19:=of_decide_eq_false h.1;have h2:¬ bC L=20:=of_decide_eq_false h.2;exact if_neg (by omega)
theorem EX {o:Option (List Tok)} {w:ak} (h:rC o fM=true) (hw:w=[]):(iL w).on o=kQ.on (wR o):=by obtain⟨L,rfl,h1,h2⟩:=yz h;subst hw;show iL [] L=kQ.on (if bC L=1 then none else some L.tail);rw[if_neg (by omega)];unfold iL;rw[if_pos h1,h2,if_neg (by decide),if_neg (by decide),if_pos O,if_pos O];rfl
theorem EY {o:Option (List Tok)} {w:ak} (h:rC o da=true):(iL w).on o=((dw w).andThen λd=> .ret (.defs d)).on o:=by obtain⟨L,rfl,h1,h2⟩:=yz h;show iL w L=_;unfold iL;rw[if_pos h1,if_pos h2];rfl
theorem yB {o:Option (List Tok)} {w:ak} (h:rC o bK=true):(iL w).on o=((mK w).andThen λd=> .ret (.cJ d)).on o:=by obtain⟨L,rfl,h1,h2⟩:=yz h;show iL w L=_;unfold iL;rw[if_pos h1,h2,if_neg (by decide),if_pos O];rfl
theorem Hp {fx:Bool} {w:ak} {L:List Tok} (hk:¬ bC L=16):bc fx w L=none:=by
 have:=ga (fx:=fx) (doc:=w) (o:=some L) (w:=[]) (λt l e=>by rw[show ar.on (some L)=none from q7 hk]at e;cases e)
 exact this.trans O
theorem Kn {o:Option (List Tok)} {w:ak} (h1:rC o fM=false) (h2:rC o da=false) (h3:rC o bK=false):(iL w).on o=((bc true w).andThen λd=> .ret (.types d)).on o:=by
 cases o with
 |none=>rfl
 |some L=>
  have n1:¬ (bC L=16/\dN L=fM):=of_decide_eq_false h1
  have n2:¬ (bC L=16/\dN L=da):=of_decide_eq_false h2
  have n3:¬ (bC L=16/\dN L=bK):=of_decide_eq_false h3
  show iL w L=((bc true w).andThen λd=> .ret (.types d)) L
  unfold iL
  by_cases hk:bC L=16
  .rw[if_pos hk,if_neg λq=>n2 ⟨hk,q⟩,if_neg λq=>n3 ⟨hk,q⟩,if_neg λq=>n1 ⟨hk,q⟩]
  .rw[if_neg hk];exact(gE (Hp hk)).symm
attribute [local irreducible] aQ aU bE cK
section
variable {h h0 hb:AH} {x y d k n:Nat} {o:Option (List Tok)} {s e a:Bool} {sc:bY}
theorem wu (FN:y≠x) (S:RB h0 x o 0 s false false) (j:PW hb h0 y sc) (A7:sc.bd 2097152):al prog 9 [.ptr x 0,.ptr y 0] h0 (PZ hb x y s h0 o sc (fj.on o)):=by
 have cv:=S.ne
 obtain⟨tk,es,b,z0,z1,z2,z3,z4,H,T,G⟩:=PW.at_ S j FN;refine az (n:=83) (rs:=[]) [] ⟨func9,O,O,O⟩ O <| cV 83 (λ_:Unit=>[(0,.ptr x 0),(1,.ptr y 0),(4,.bool (fq o 19||fq o 20))]) (λ_ h'=>HI (h0.aw hb.nt) [x,y] h' [(x,RC (.vec tk 6 es) 0 b s false false),(y,[z0,z1,z2,z3,z4])]/\SG (h0.aw hb.nt) h' z0 z1 z2 z3 z4 sc) (λJ=>?_) ?_
 .refine aH H G O λh H G Y=>ae O call21 (fF (k:=18) (.of H T) (by omega)) ?_;rintro v h2 ⟨kp,rfl⟩;replace H:=H.same kp;replace G:=G.kp kp;refine aH H G O λh H G Y=>aj O (λhq=>?_) (λhq=>?_)
  .exact aH H G O λh H G Y=>J () (HQ.mk O ⟨O,O,by rw[show fq o 19=true from hq];rfl,trivial⟩) ⟨H,G⟩
  .refine aH H G O λh H G Y=>ae O call21 (fF (k:=19) (.of H T) (by omega)) ?_;rintro v h2 ⟨kp,rfl⟩;replace H:=H.same kp;replace G:=G.kp kp;exact aH H G O λh H G Y=>J () (HQ.mk O ⟨O,O,by rw[show fq o 19=false from hq];rfl,trivial⟩) ⟨H,G⟩
 clear H G;rintro⟨⟩ h ⟨H,G⟩;refine aH H G O λh H G Y=>ae O call22 (tO (.of H T)) ?_;rintro v h2 ⟨kp,⟨zl,AY,AZ,b1,eM,T1⟩,w1,rfl,nv⟩;replace H:=H.aA kp eM;replace G:=G.kp kp;have jF:Lt 0 ((fv.on o).map (·.2)) o:=Lt.dR iM;have Tm:=T1.ne;generalize K8:(fv.on o).map (·.2)=o1 at*;have Xo:∀{s':Bool} {o':Option (List Tok)} {i:Item},St s o1 s' o' ((iL w1).on o1) i->St s o s' o' (fj.on o) i:=λhs=>St.then (p:=fv) (.ex nv K8.symm) hs
 refine aH H G O λh H G Y=>ae O call23 (u6 (w:=fM) (.of H T1)) ?_;rintro v h2 ⟨kp,rfl⟩;replace H:=H.same kp;replace G:=G.kp kp;refine aH H G O λh H G Y=>af O (λXp=>?_) λXp=>?_
 .refine aH H G O λh H G Y=>af O (λhd=>?_) λhd=>?_
  .refine bm [0,0] H G O λh H G Y=>ae O call24 (gw (o:=none) (s:=false) (.of H (show TS false none true _ from O))) ?_;rintro v h2 ⟨kp,⟨pC,uy,lT,b2,bI,T2⟩,c,rfl,hc⟩;replace H:=H.aA kp bI;replace G:=G.kp kp;obtain⟨p1,p2,p3,p4,rfl⟩:=hc;refine aH H G O λh H G Y=>ae O call25 (qk (hb:=hb) FN (.of H T2) ⟨H.jM.2,H.kp.nt,z0,z1,z2,z3,z4,H.jM.1,G.base O⟩ A7) ?_;rintro v h2 ⟨kp,rfl,o3,s3,i3,⟨_,wS,wo,b3,bF,T3⟩,yu,⟨_,_,y0,y1,y2,y3,y4,Wm,Gy⟩,M9⟩;replace H:=H.oz kp bF Wm;replace G:=Gy.base (Uz:=h0.aw hb.nt) O;exact aH H G O λh H G Y=>cy [] H O (PZ.mk H T3 G (Lt.CI yu) (λhs=>absurd (M9 hs).1 (by simp)))
  .refine aH H G O λh H G Y=>ae O call24 (gw (.of H T1)) ?_;rintro v h2 ⟨kp,⟨pC,uy,lT,b2,bI,T2⟩,c,rfl,hc⟩;replace H:=H.aA kp bI;replace G:=G.kp kp;obtain⟨p1,p2,p3,p4,rfl⟩:=hc;refine aH H G O λh H G Y=>ae O call25 (qk (hb:=hb) FN (.of H T2) ⟨H.jM.2,H.kp.nt,z0,z1,z2,z3,z4,H.jM.1,G.base O⟩ A7) ?_;rintro v h2 ⟨kp,rfl,o3,s3,i3,⟨_,wS,wo,b3,bF,T3⟩,yu,⟨_,_,y0,y1,y2,y3,y4,Wm,Gy⟩,M9⟩;replace H:=H.oz kp bF Wm;replace G:=Gy.base (Uz:=h0.aw hb.nt) O;refine aH H G O λh H G Y=>?_;have hw0:w1=[]:=by
    obtain⟨L1,e1,_,_⟩:=yz Xp;rw[Tl hd]at K8 nv
    cases o with|none=>rw[<-K8]at e1;cases e1|some L=>exact(nv [] L O).symm
   exact cy [] H O (PZ.mk H T3 G ((jF.trans ((Lt.nx Tm).trans yu)).le (by omega)) (Xo (M9.is (EX Xp hw0))))
 .refine aH H G O λh H G Y=>ae O call26 (jb (w:=da) (.of H T1)) ?_;rintro v h2 ⟨kp,⟨pC,uy,lT,b2,bI,T2⟩,rfl⟩;replace H:=H.aA kp bI;replace G:=G.kp kp;refine aH H G O λh H G Y=>af O (λHo=>?_) λHo=>?_
  .rw[if_pos Ho]at T2;have eG:Lt 1 (wR o1) o1:=Lt.nx Tm;refine aH H G O λh H G Y=>ae O call27 (dU (fx:=true) (.inl O) (.of H T2)) ?_;rintro v h2 ⟨kp,o8,s8,⟨CD,CE,A0,b8,nL,T8⟩,gH,ds,rfl,nj,py⟩;replace H:=H.aA kp nL;replace G:=G.kp kp;refine bm [2] H G O λh H G Y=>ae O call21 (fF (k:=12) (.of H T8) (by omega)) ?_;rintro v h2 ⟨kp,rfl⟩;replace H:=H.same kp;replace G:=G.kp kp;refine aH H G O λh H G Y=>af O (λhq=>?_) λhq=>?_
   .refine bm [0] H G O λh H G Y=>ae O call28 (sC (s:=false) (λh=>by cases h) (.of H T8.se)) ?_;rintro v h2 ⟨kp,o9,s9,⟨Tf,lM,Tg,b9,tK,T9⟩,sD,rs,rfl,IN⟩;replace H:=H.aA kp tK;replace G:=G.kp kp;refine bm [2,1,2] H G O λh H G Y=>mU 0 H G O O O O O O O ?_ ?_
    .have:=A7.1
     have e9:(sc.defs.map av.cs).length=(sc.defs).length:=by simp
     show((sc.defs.map av.cs).length+1)*(64+1)<=140737488355328
     rw[e9];omega
    clear H G;intro lM h H G n_;replace G:SG (h0.aw hb.nt) h (.vec lM 3 (sc.defs.map av.cs++[av.cs ⟨w1,ds,rs⟩])) z1 z2 z3 z4 (Item.add sc (.defs ⟨w1,ds,rs⟩)):=by obtain⟨ls,G⟩:=G;refine⟨ls,?_⟩;simp only[Item.add,List.map_append,List.map_cons,List.map_nil];exact G
    exact bm [1] H G O λh H G Y=>cy [] H O (PZ.mk (i:= .defs ⟨w1,ds,rs⟩) H T9 G (((jF.trans eG).trans (gH.trans sD)).le (by omega)) (λhs=>absurd (IN hs).1 (by simp)))
   .have u7:fq o8 13=true:=by simpa using hq
    refine aH H G O λh H G Y=>ae O call28 (sC (λ_=>u7) (.of H T8)) ?_;rintro v h2 ⟨kp,o9,s9,⟨Tf,lM,Tg,b9,tK,T9⟩,sD,rs,rfl,IN⟩;replace H:=H.aA kp tK;replace G:=G.kp kp;refine bm [2,1,2] H G O λh H G Y=>mU 0 H G O O O O O O O ?_ ?_
    .have:=A7.1
     have e9:(sc.defs.map av.cs).length=(sc.defs).length:=by simp
     show((sc.defs.map av.cs).length+1)*(64+1)<=140737488355328
     rw[e9];omega
    clear H G;intro lM h H G n_;replace G:SG (h0.aw hb.nt) h (.vec lM 3 (sc.defs.map av.cs++[av.cs ⟨w1,ds,rs⟩])) z1 z2 z3 z4 (Item.add sc (.defs ⟨w1,ds,rs⟩)):=by obtain⟨ls,G⟩:=G;refine⟨ls,?_⟩;simp only[Item.add,List.map_append,List.map_cons,List.map_nil];exact G
    exact bm [1] H G O λh H G Y=>have hD:St s o1 s9 o9 ((dw w1).on o1) (⟨w1,ds,rs⟩:av):=St.then (wT Ho) (St.then py (St.then (p:=nc) IN .ret));cy [] H O (PZ.mk (i:= .defs ⟨w1,ds,rs⟩) H T9 G (((jF.trans eG).trans (gH.trans sD)).le (by omega)) (Xo (St.is (St.then (p:=dw w1) hD .ret) (EY Ho))))
  .rw[if_neg (by rw[show rC o1 da=false from Ho];simp)]at T2;refine aH H G O λh H G Y=>ae O call26 (jb (w:=bK) (.of H T2)) ?_;rintro v h2 ⟨kp,⟨AO,wS,wo,b3,bF,T3⟩,rfl⟩;replace H:=H.aA kp bF;replace G:=G.kp kp;refine aH H G O λh H G Y=>af O (λUA=>?_) λUA=>?_
   .rw[if_pos UA]at T3;have eG:Lt 1 (wR o1) o1:=Lt.nx Tm;refine xa mx <| AD.run 4 O <| AD.eP O O O O O H.jM.1 O O <| AD.run 2 O <| AD.gP O O call29 (yx (doc:=w1) (.of H T3)) O ?_;rintro v h2 ⟨kp,o8,s8,⟨CD,CE,A0,b8,nL,T8⟩,gH,dd,rfl,py⟩;replace H:=H.aA kp nL;replace G:=G.kp kp;have dJ:=H.jM.1;refine AD.run 1 O <| AD.qj 2 H G O O O O O O O ?_ ?_
    .have:=A7.2.2.1
     have e9:(sc.cJ.map dn.cs).length=(sc.cJ).length:=by simp
     show((sc.cJ.map dn.cs).length+1)*(88+1)<=140737488355328
     rw[e9];omega
    clear G;intro lM h9 H9 G9 n9;refine AD.run 2 O <| AD.v8 (ag.j1 O O O O O O H9.jM.1 O O) O ?_;have zb:=H9.ku (j:=1) (dH:=[z0,z1,(.vec lM 5 (sc.cJ.map dn.cs++[dn.cs dd])),z3,z4]) O O;have G:SG (h0.aw hb.nt) h9 z0 z1 (.vec lM 5 (sc.cJ.map dn.cs++[dn.cs dd])) z3 z4 (Item.add sc (.cJ dd)):=by obtain⟨ls,G9⟩:=G9;refine⟨ls,?_⟩;simp only[Item.add,List.map_append,List.map_cons,List.map_nil];exact G9
    replace G:=G.eq (h1:=h9.set y (.cells [z0,z1,(.vec lM 5 (sc.cJ.map dn.cs++[dn.cs dd])),z3,z4])) O O;refine AD.nil ⟨[0,0,0,0,1,0,0,2,0,2,0,0,2],_,O,by decide+kernel,O,⟨λe hk e1 e2=>?_,trivial⟩,?_⟩
    .injection e1 with e1
     injection e2 with e2
     subst e1 e2;exact ag.eP O O O O O dJ O
    clear H;have H:=zb;exact aH H G O λh H G Y=>have hD:St s o1 s8 o8 ((mK w1).on o1) dd:=St.then (wT UA) (p:=cF bK) (f:=λ_=>Rf w1) py;cy [] H O (PZ.mk (i:= .cJ dd) H T8 G (((jF.trans eG).trans gH).le (by omega)) (Xo (St.is (St.then (p:=mK w1) hD .ret) (yB UA))))
   .rw[if_neg (by rw[show rC o1 bK=false from UA];simp)]at T3;refine xa mx <| AD.run 4 O <| AD.eP O O O O O H.jM.1 O O <| AD.run 2 O <| AD.gP O O call30 (EW (doc:=w1) (.of H T3)) O ?_;rintro v h2 ⟨kp,o8,s8,⟨CD,CE,A0,b8,nL,T8⟩,gH,dd,rfl,hdb,py⟩;replace H:=H.aA kp nL;replace G:=G.kp kp;have dJ:=H.jM.1;refine AD.run 1 O <| AD.qj 3 H G O O O O O O O ?_ ?_
    .have:=A7.2.2.2.1
     have e9:(sc.types.map Def.cs).length=(sc.types).length:=by simp
     show((sc.types.map Def.cs).length+1)*(168+1)<=140737488355328
     rw[e9];omega
    clear G;intro lM h9 H9 G9 n9;refine AD.run 2 O <| AD.v8 (ag.j1 O O O O O O H9.jM.1 O O) O ?_;have zb:=H9.ku (j:=1) (dH:=[z0,z1,z2,(.vec lM 8 (sc.types.map Def.cs++[Def.cs dd])),z4]) O O;have G:SG (h0.aw hb.nt) h9 z0 z1 z2 (.vec lM 8 (sc.types.map Def.cs++[Def.cs dd])) z4 (Item.add sc (.types dd)):=by obtain⟨ls,G9⟩:=G9;refine⟨ls,?_⟩;simp only[Item.add,List.map_append,List.map_cons,List.map_nil];exact G9
    replace G:=G.eq (h1:=h9.set y (.cells [z0,z1,z2,(.vec lM 8 (sc.types.map Def.cs++[Def.cs dd])),z4])) O O;refine AD.nil ⟨[0,0,0,0,1,0,0,2,0,2,0,0,2],_,O,by decide+kernel,O,⟨λe hk e1 e2=>?_,trivial⟩,?_⟩
    .injection e1 with e1
     injection e2 with e2
     subst e1 e2;exact ag.eP O O O O O dJ O
    clear H;have H:=zb;exact aH H G O λh H G Y=>cy [] H O (PZ.mk (i:= .types dd) H T8 G ((jF.trans gH).le (by omega)) (Xo (St.is (St.then (p:=bc true w1) py .ret) (Kn Xp Ho UA))))
end
end
def OQ (TP:List Tok->Prop) (FP:Prop) (h0:AH) (v:AV) (h':AH):Prop:=Kp [] h0 h'/\∃x z ok s,v= .cN [.ptr x 0,.bool ok]/\h0.n<=x/\x <h'.n/\h'.get x=some (.cells (RC z 0 false s false false))/\(ok=false->s=true->FP)/\(ok=true->∃es ts,((z= .ao/\es=[])\/∃tk,z= .vec tk 6 es)/\es.length<=1048576/\bx jE ts es/\(∀t∈ts,2<=t.k)/\(s=true->(∀t∈ts,NW t)/\TP ts))
def UB (L0:List Tok) (sc:bY):Option (List Tok)->Prop
 |none=>db dX kS L0=none
 |some l=>∃n,l.length <n/\db dX kS L0=db n sc l
theorem UB.step {L0 l:List Tok} {sc:bY} {o5:Option (List Tok)} {i:Item} (h:UB L0 sc (some l)) (hk:bC l≠1) (hd:j6 fj) (e:o5=(fj.on (some l)).map (·.2)) (hv:dO (fj.on (some l)) λt=>t=i):UB L0 (i.add sc) o5:=by
 obtain⟨n,hn,he⟩:=h;obtain⟨n,rfl⟩:∃m,n=m+1:=⟨n -1,by omega⟩;simp only[db,if_neg hk]at he;subst e;show UB L0 (i.add sc) ((fj l).map (·.2))
 cases hg:fj l with|none=>rw[hg]at he;exact he|some y=>rw[hg]at he;have:=hv y.1 y.2 hg;rw[<-this];have hl:=hd l y.1 y.2 hg;exact⟨n,by simp only;omega,he⟩
theorem Uy.ku {h0 h:AH} {sz:Nat} {z:AV} {es:List (List AV)} {lo:Option Nat} (g:Uy h0 h sz z es lo):KT z (.one (bS sz es)):=by
 cases lo with
 |none=>obtain⟨rfl,rfl⟩:=g;exact bj λ_ _ _ h=>h
 |some a=>
  obtain⟨fk,rfl,_,_,_,this⟩:=g
  cases es with|nil=>exact absurd O this|cons c r=>exact bj j9
theorem SG.nil {h0 h:AH}:SG h0 h .ao .ao .ao .ao .ao kS:=by
 refine⟨[none,none,none,none,none],O,λi sz z es lo q1 q2=>?_,λi j a OU q1 q2=>?_⟩
 .match i with|0|1|2|3|4=>simp at q1 q2;obtain⟨rfl,rfl,rfl⟩:=q1;subst q2;exact⟨O,O⟩|i+5=>simp at q1
 .match i with|0|1|2|3|4=>simp at q1|i+5=>simp at q1
theorem SG.D4 {h0 h:AH} {z0 z1 z2 z3 z4:AV} {sc:bY} (g:SG h0 h z0 z1 z2 z3 z4 sc):fZ [z0,z1,z2,z3,z4] sc.cs:=by
 obtain⟨ls,g1,g2,_⟩:=g;have at_:∀(i sz:Nat) (z:AV) (es:List (List AV)),i <5->[(3,z0,sc.defs.map av.cs),(3,z1,sc.exts.map av.cs),(5,z2,sc.cJ.map dn.cs),(8,z3,sc.types.map Def.cs),(8,z4,sc.aK.map Def.cs)][i]? =some (sz,z,es)->KT z (.one (bS sz es)):=λi sz z es hi q=>by
  have hl:i <ls.length:=by rw[<-g1];exact hi
  exact(g2 i sz z es _ q (List.getElem?_eq_getElem hl)).ku
 exact⟨at_ 0 _ _ _ (by omega) O,at_ 1 _ _ _ (by omega) O,at_ 2 _ _ _ (by omega) O,at_ 3 _ _ _ (by omega) O,at_ 4 _ _ _ (by omega) O,trivial⟩
section
attribute [local irreducible] aQ aU bE cK db
variable {h h0 hb:AH} {x y d k n:Nat} {o:Option (List Tok)} {s e a:Bool} {w:ak}
theorem u9 {TP:List Tok->Prop} {FP:Prop} (Wn:∀h,Kp [] h0 h->al prog 8 [.str w] h (OQ TP FP h)):
 al prog 5 [.str w] h0 (λv h'=>Kp [] h0 h'/\∃cs ok sr,v= .cN [.agg cs,.bool ok,.bool sr]/\(∃c0 c1 c2 c3 c4,cs=[c0,c1,c2,c3,c4])/\(ok=false->sr=true->FP\/∃ts,TP ts/\gD (some (ts++[kT]))=none)/\(ok=true->∃sc:bY,cs=sc.cs/\(sr=true->∃ts,TP ts/\gD (some (ts++[kT]))=some sc))):=by
 refine az (n:=55) (rs:=[.cell 2 27,.tmp 3,.tmp 4]) [] ⟨func5,O,O,O⟩ O <| have H:HI h0 [] h0 []:=HI.nil;ah H O λh H Y=>?_;refine ae O call8 (Wn _ H.kp) ?_;rintro v h2 ⟨kp,x,z,ok,sr,rfl,zl,pC,hgx,hF,hT⟩;replace H:=H.same kp;have hxy:x≠h0.n:=by omega
 have H2:HI h0 [] h2 [(x,RC z 0 false sr false false),(h0.n,[.ao,.ao,.ao,.ao,.ao])]:=by
  refine⟨HV.of (λe he=>?_) (by simp[hxy]),H.kp,λe he=>?_⟩
  .rcases List.mem_cons.1 he with rfl|he
   .exact⟨hgx,pC⟩
   .rw[List.mem_singleton]at he;subst he;exact H.at_
  .rcases List.mem_cons.1 he with rfl|he
   .exact .inr (by show h0.n<=x;omega)
   .rw[List.mem_singleton]at he;subst he;exact .inr (Nat.le_refl _)
 clear H;have H:=H2;clear H2
 cases ok with
 |false=>refine an [91,0,1] H O λh H Y=>?_;exact ab [1] H O ⟨H.kp,_,false,sr,O,⟨_,_,_,_,_,O⟩,λ_ hs=> .inl (hF O hs),λh=>by cases h⟩
 |true=>
  obtain⟨es,ts,hz,wJ,hR,jh,Cb⟩:=hT O;rcases hz with⟨rfl,rfl⟩|⟨tk,rfl⟩
  .refine an [90,0,91,1] H O λh H Y=>?_;exact ab [1] H O ⟨H.kp,_,false,false,O,⟨_,_,_,_,_,O⟩,(λ_ hs=>by cases hs),λh=>by cases h⟩
  refine an [90,0] H O λh H Y=>af O (λhe=>?_) λhe=>?_
  .refine an [1] H O λh H Y=>?_;exact ab [1] H O ⟨H.kp,_,false,false,O,⟨_,_,_,_,_,O⟩,(λ_ hs=>by cases hs),λh=>by cases h⟩
  refine ah H O λh H Y=>?_;have hL:(ts++[kT]).length<=1048577:=by have:=hR.len;simp;omega
  have T0:TS sr (some (ts++[kT])) false es:=⟨O,wJ,ts,O,hR,jh,λh=>(Cb h).1⟩;refine aC 55 (λq:Option (List Tok)×Bool×bY×(AV×AV×AV×AV×AV)=>mo q.1) (λq=>[(2,.ptr h0.n 0),(5,.ptr x 0)])
   (λq h'=>∃tk es b,HI h0 [] h' [(x,RC (.vec tk 6 es) 0 b q.2.1 false false),(h0.n,[q.2.2.2.1,q.2.2.2.2.1,q.2.2.2.2.2.1,q.2.2.2.2.2.2.1,q.2.2.2.2.2.2.2])]/\TS q.2.1 q.1 b es/\SG h0 h' q.2.2.2.1 q.2.2.2.2.1 q.2.2.2.2.2.1 q.2.2.2.2.2.2.1 q.2.2.2.2.2.2.2 q.2.2.1/\(∀l,q.1=some l->∃N,q.2.2.1.bd N/\N+l.length<=1048578)/\(q.2.1=true->sr=true/\UB (ts++[kT]) q.2.2.1 q.1))
   (λq:Option (List Tok)×Bool×bY×(AV×AV×AV×AV×AV)=>[(2,.ptr h0.n 0),(5,.ptr x 0)])
   (λq h'=>∃tk es b,HI h0 [] h' [(x,RC (.vec tk 6 es) 0 b q.2.1 false false),(h0.n,[q.2.2.2.1,q.2.2.2.2.1,q.2.2.2.2.2.1,q.2.2.2.2.2.2.1,q.2.2.2.2.2.2.2])]/\TS q.2.1 q.1 b es/\SG h0 h' q.2.2.2.1 q.2.2.2.2.1 q.2.2.2.2.2.1 q.2.2.2.2.2.2.1 q.2.2.2.2.2.2.2 q.2.2.1/\(∀l,q.1=some l->bC l=1)/\(q.2.1=true->sr=true/\UB (ts++[kT]) q.2.2.1 q.1))
   (some (ts++[kT]),sr,kS,(.ao,.ao,.ao,.ao,.ao)) O ⟨_,_,_,H,T0,.nil,(λl e=>⟨0,⟨by simp[kS],by simp[kS],by simp[kS],by simp[kS],by simp[kS]⟩,by injection e with e;subst e;omega⟩),λh=>⟨h,dX,by rw[wM];omega,O⟩⟩ ?_ ?_
  .clear H;rintro⟨o4,s4,sc,z0,z1,z2,z3,z4⟩ h ⟨vO,mr,b4,H,T4,G,jP,hS⟩ again done;simp only at H T4 G jP hS
   cases o4 with
   |none=>obtain rfl:b4=true:=T4;exact bm [0,92,90] H G O λh H G Y=>done (none,s4,sc,z0,z1,z2,z3,z4) O ⟨_,_,_,H,O,G,(λl e=>by cases e),hS⟩
   |some l=>
    obtain rfl:b4=false:=T4.1;have Y0:=T4;obtain⟨_,aad,ts4,Xj,UC,YS,_⟩:=Y0;refine bm [0,92,0] H G O λh H G Y=>af O (λhq=>?_) λhq=>?_
    .have cv:mr≠[]:=by rintro rfl;simp at hq
     have hk:bC l≠1:=by
      cases ts4 with
      |nil=>cases mr with|nil=>exact absurd O cv|cons=>exact UC.elim
      |cons t r=>rw[Xj];have:=YS t (by simp);show t.k≠1;omega
     obtain⟨N,Pm,hN⟩:=jP l O;have A7:sc.bd 2097152:=⟨by have:=Pm.1;omega,by have:=Pm.2.1;omega,by have:=Pm.2.2.1;omega,by have:=Pm.2.2.2.1;omega,by have:=Pm.2.2.2.2;omega⟩;refine aH H G O λh H G Y=>ae O call9 (wu (hb:=h0) (Ne.symm hxy) (.of H T4) ⟨H.jM.2,H.kp.nt,z0,z1,z2,z3,z4,H.jM.1,G⟩ A7) ?_;rintro v h2 ⟨kp,rfl,o5,s5,i5,⟨_,Dl,rB,b5,mw,T5⟩,mz,⟨_,_,y0,y1,y2,y3,y4,Wm,Gy⟩,J9⟩;replace H:=H.oz kp mw Wm;replace G:=Gy;refine aH H G O λh H G Y=>again (o5,s5,i5.add sc,y0,y1,y2,y3,y4) (tP mz) O ⟨_,_,_,H,T5,G,λl5 e5=>?_,λhs=>?_⟩
     .obtain⟨l6,e6,h6⟩:=mz l5 e5;injection e6 with e6
      subst e6;exact⟨N+1,Pm.add i5,by omega⟩
     .obtain⟨q1,q2,q3⟩:=J9 hs;exact⟨(hS q1).1,(hS q1).2.step hk uQ q2 q3⟩
    .have cv:mr=[]:=by
      cases mr with|nil=>rfl|cons=>simp at hq
     subst cv;have hk:bC l=1:=by cases ts4 with|nil=>rw[Xj];rfl|cons=>exact UC.elim
     exact aH H G O λh H G Y=>done (some l,s4,sc,z0,z1,z2,z3,z4) O ⟨_,_,_,H,T4,G,(λl' e=>by injection e with e;subst e;exact hk),hS⟩
  .clear H;rintro⟨o4,s4,sc,z0,z1,z2,z3,z4⟩ h ⟨vO,mr,b4,H,T4,G,ka,hS⟩;simp only at H T4 G ka hS
   cases o4 with|none=>obtain rfl:b4=true:=T4;refine bm [0,91,0,1] H G O λh H G Y=>?_;exact ab [1] H rfl ⟨H.kp,_,false,s4,rfl,⟨_,_,_,_,_,rfl⟩,λ_ hs=> .inr ⟨ts,(Cb (hS hs).1).2,(hS hs).2⟩,λh=>by cases h⟩|some l=>obtain rfl:b4=false:=T4.1;refine bm [0] H G O λh H G Y=>cX O ?_;refine jK 1 sc.cs H O O G.D4 λh H Y=>an [1,0,1] H O λh H Y=>ab [1] H O ⟨H.kp,_,true,s4,O,⟨_,_,_,_,_,O⟩,(λh=>by cases h),λ_=>⟨sc,O,λhs=>⟨ts,(Cb (hS hs).1).2,?_⟩⟩⟩;obtain⟨n,hn,he⟩:=(hS hs).2;show db dX kS (ts++[kT])=some sc;rw[he];obtain⟨n,rfl⟩:∃m,n=m+1:=⟨n -1,by omega⟩;simp only[db,if_pos (ka l O)]
end
abbrev gb:List ak:=[rq,br,fJ,cQ,bz]
def Zq (Nf:List Tok->Prop) (FP:Prop) (h0:AH) (v:AV) (h':AH):Prop:=Kp [] h0 h'/\∃z ok sr es ts,v= .cN [z,.bool ok,.bool sr]/\((z= .ao/\es=[])\/∃tk,z= .vec tk 6 es)/\es.length<=1048576/\bx jE ts es/\(∀t∈ts,2<=t.k)/\(∀t∈ts,t.v∈gb->t.k=16\/t.k=19\/t.k=20\/t.k=21)/\(sr=true->(ok=true->Nf ts)/\(ok=false->FP))
section
variable {h h0 hb:AH}
theorem Ng (s:ak) (tk:Tk) (ws:List ak) (hb:ws.length<=1048576):∀h0:AH,aP prog 19 [.str s,.vec tk 1 (ws.map aM)] h0 (.bool (decide (s∈ws))) h0:=by
 intro h0;refine aP.pure (.bool _) <| az (n:=17) (rs:=[.tmp 4]) [] ⟨func19,O,O,O⟩ O ?_;have H:HI h0 [] h0 []:=HI.nil;have vF:(ws.map aM).length=ws.length:=by simp
 refine ah H O λh H Y=>?_;rw[vF];refine aC 17 (λi:Nat=>ws.length -i) (λi=>[(0,.str s),(7,.vec tk 1 (ws.map aM)),(8,.int .i64 (ws.length:Nat)),(9,.int .i64 (i:Nat))]) (λi h'=>HI h0 [] h' []/\i<=ws.length/\s∉ws.take i) (λ_:Unit=>[]) (λ_ h'=>HI h0 [] h' []/\s∉ws) 0 O ⟨H,by omega,by simp⟩ ?_ ?_
 .clear H;rintro i h ⟨H,hi,F4⟩ again done;refine ah H O λh H Y=>af O (λbZ=>?_) λbZ=>?_
  .have ax:i <ws.length:=by simpa using bZ
   obtain⟨c,hc⟩:∃c,ws[i]? =some c:=⟨_,List.getElem?_eq_getElem ax⟩;have Rt:(ws.map aM)[i]? =some [.str c]:=by rw[List.getElem?_map,hc];rfl
   refine ah H O λh H Y=>ba (ag.indexAddr O O O O O O (Int.natCast_nonneg _) (by rw[Int.toNat_natCast];exact Rt)) O ?_;refine ah H O λh H Y=>af O (λhq=>?_) λhq=>?_
   .have u7:c=s:=of_decide_eq_true hq
    refine ah H O λh H Y=>ab [] H O ⟨H.kp,λg w u hu=>?_⟩;have:decide (s∈ws)=true:=decide_eq_true (u7▸List.mem_of_getElem? hc);rw[this];exact hu
   .have u7:c≠s:=of_decide_eq_false hq
    refine ah H O λh H Y=>?_;refine again (i+1) (by omega) (HQ.mk O ⟨O,O,O,vi (wI (by omega)),trivial⟩) ⟨H,by omega,?_⟩;rw[List.take_add_one,hc];simp only[Option.toList_some,List.mem_append,List.mem_singleton,not_or];exact⟨F4,Ne.symm u7⟩
  .have ax:¬ i <ws.length:=by simpa using bZ
   refine ah H O λh H Y=>done () O ⟨H,?_⟩
   rwa [List.take_of_length_le (by omega)]at F4
 .clear H;rintro⟨⟩ h ⟨H,hn⟩;refine ah H O λh H Y=>ab [] H O ⟨H.kp,λg w u hu=>?_⟩;have:decide (s∈ws)=false:=decide_eq_false hn;rw[this];exact hu
theorem vc {α:Type} {R:α->List AV->Prop}:∀{l:List α} {es:List (List AV)} {i:Nat},bx R l es->i <es.length->∃a c,l[i]? =some a/\es[i]? =some c/\R a c
 |[],[],i,_,h=>by simp at h
 |a::l,c::es,0,⟨h1,_⟩,_=>⟨a,c,O,O,h1⟩
 |a::l,c::es,i+1,⟨_,h⟩,hi=>by obtain⟨b,v,q0,q1,q2⟩:=vc h (by simpa using hi);exact⟨b,v,by simpa using q0,by simpa using q1,q2⟩
 |[],_::_,_,h,_=>h.elim
 |_::_,[],_,h,_=>h.elim
theorem ql {α:Type} {R:α->List AV->Prop} {a:α} {c:List AV}:∀{l:List α} {es:List (List AV)},bx R l es->R a c->bx R (l++[a]) (es++[c])
 |[],[],_,h=>⟨h,trivial⟩
 |_::_,_::_,⟨h1,h2⟩,h=>⟨h1,ql h2 h⟩
 |[],_::_,h,_=>h.elim
 |_::_,[],h,_=>h.elim
def bare (ts:List Tok):List Tok:=ts.filter λt=> !(t.k==21)
theorem EZ {z:AV} {es:List (List AV)} {ts:List Tok} (hz:(z= .ao/\es=[])\/∃tk,z= .vec tk 6 es) (wJ:es.length<=1048576) (hR:bx jE ts es) (hk:∀t∈ts,2<=t.k):
 al prog 20 [z] h0 (λv h'=>Kp [] h0 h'/\∃cA,((v= .ao/\cA=[])\/∃tk,v= .vec tk 6 cA)/\cA.length<=1048576/\bx jE (bare ts) cA):=by
 have vF:=hR.len
 rcases hz with⟨rfl,rfl⟩|⟨tk,rfl⟩
 .obtain rfl:ts=[]:=by cases ts with|nil=>rfl|cons=>exact hR.elim
  refine az (n:=21) (rs:=[.tmp 2]) [] ⟨func20,O,O,O⟩ O <| have H:HI h0 [] h0 []:=HI.nil;ah H O λh H Y=>?_;refine aC 21 (λ_:Unit=>0) (λ_=>[(3,.ao),(7,.int .i64 0),(8,.int .i64 0)]) (λ_ h'=>HI h0 [] h' []) (λ_:Unit=>[(3,.ao)]) (λ_ h'=>HI h0 [] h' []) () O H ?_ ?_
  .clear H;rintro⟨⟩ h H again done;exact an [90] H O λh H Y=>done () O H
  .clear H;rintro⟨⟩ h H;refine ah H O λh H Y=>?_;exact ab [] H O ⟨H.kp,[],.inl ⟨O,O⟩,by simp,trivial⟩
 refine az (n:=21) (rs:=[.tmp 2]) [] ⟨func20,O,O,O⟩ O <| have H:HI h0 [] h0 []:=HI.nil;ah H O λh H Y=>?_;refine aC 21 (λq:Nat×AV×List (List AV)=>es.length -q.1) (λq=>[(3,q.2.1),(6,.vec tk 6 es),(7,.int .i64 (es.length:Nat)),(8,.int .i64 (q.1:Nat))])
  (λq h'=>HI h0 [] h' []/\q.1<=es.length/\aG h0 h' 6 q.2.1 q.2.2/\q.2.2.length<=q.1/\bx jE (bare (ts.take q.1)) q.2.2)
  (λq:AV×List (List AV)=>[(3,q.1)])
  (λq h'=>HI h0 [] h' []/\aG h0 h' 6 q.1 q.2/\q.2.length<=es.length/\bx jE (bare ts) q.2) (0,.ao,[]) O ⟨H,by omega,.inl ⟨O,O⟩,by simp,trivial⟩ ?_ ?_
 .clear H;rintro⟨i,y,out⟩ h ⟨H,hi,G,Q2,hO⟩ again done;simp only at G hi Q2 hO;refine aH H G O λh H G Y=>af O (λaT=>?_) λaT=>?_
  .have ax:i <es.length:=by simpa using aT
   obtain⟨t,c,ht,hc,p1,p2,p3,p4,rfl⟩:=vc hR ax;have KO:bare (ts.take (i+1))=bare (ts.take i)++bare [t]:=by rw[List.take_add_one,ht];simp[bare]
   have h2:=hk t (List.mem_of_getElem? ht);refine aH H G O λh H G Y=>ba (ag.indexAddr O O O O O O (Int.natCast_nonneg _) (by rw[Int.toNat_natCast];exact hc)) O ?_;refine bm [0,0] H G O λh H G Y=>af O (λhq=>?_) λhq=>?_
   .have Tn:t.k≠21:=by
     have:¬ ((t.k:Int) -1=20):=by simpa using hq
     omega
    refine bm [0] H G O λh H G Y=>eK H O O O O O O O G ?_ ?_
    .show(out.length+1)*(56+1)<=140737488355328;omega
    clear H G;intro x' h H G n_;refine aH H G O λh H G Y=>have HH:=H.take (k:=0);again (i+1,_,_) (by simp only;omega) (HQ.mk O ⟨O,O,O,vi (wI (by omega)),trivial⟩) ⟨HH,by simp only;omega,G,by simp;omega,?_⟩;simp only;rw[KO];have:bare [t]=[t]:=by simp[bare,Tn]
    rw[this];exact ql hO ⟨p1,p2,p3,p4,O⟩
   .have Tn:t.k=21:=by
     have:(t.k:Int) -1=20:=by simpa using hq
     omega
    refine aH H G O λh H G Y=>have HH:=H.take (k:=0);again (i+1,y,out) (by simp only;omega) (HQ.mk O ⟨O,O,O,vi (wI (by omega)),trivial⟩) ⟨HH,by simp only;omega,G,by simp only;omega,?_⟩;simp only;rw[KO];have:bare [t]=[]:=by simp[bare,Tn]
    rw[this,List.append_nil];exact hO
  .have ax:¬ i <es.length:=by simpa using aT
   obtain rfl:i=es.length:=by omega
   refine aH H G O λh H G Y=>done (y,out) O ⟨H,G,Q2,?_⟩;rw[vF,List.take_length]at hO;exact hO
 .clear H;rintro⟨y,out⟩ h ⟨H,G,Q2,hO⟩;simp only at G Q2 hO;refine aH H G O λh H G Y=>?_;refine ab [] H O ⟨H.kp,out,?_,by omega,hO⟩;rcases G with⟨rfl,rfl⟩|⟨aw,fk,hx,_⟩
  .exact .inl ⟨O,O⟩
  .exact .inr (hx.elim (λh=>⟨_,h⟩) (λh=>⟨_,h⟩))
end
section
variable {h h0 hb:AH}
theorem tT {Nf:List Tok->Prop} {FP:Prop} {h2:AH} {x:Nat} {z:AV} {ok sr s':Bool} {cA:List (List AV)} {ts:List Tok} (H:HI h0 [] h2 [(x,RC z 0 false s' false false)]) (hz:(z= .ao/\cA=[])\/∃tk,z= .vec tk 6 cA) (wJ:cA.length<=1048576) (hR:bx jE (bare ts) cA)
 (hk:∀t∈ts,2<=t.k) (hw:∀t∈ts,t.v∈gb->t.k=16\/t.k=19\/t.k=20\/t.k=21) (hs:sr=true->(ok=true->Nf ts)/\(ok=false->FP)) (Dn:s'=true->sr=true/\∀t∈ts,(t.k=19\/t.k=20)->t.v∉gb):
 OQ (λP7=>∃ts,P7=bare ts/\Nf ts) FP h0 (.cN [.ptr x 0,.bool ok]) h2:=by
 refine⟨H.kp,x,z,ok,s',O,(H.new _ (List.mem_cons_self ..)).resolve_left (by simp),H.at_.2,H.at_.1,λho h=>(hs (Dn h).1).2 ho,λho=>⟨cA,bare ts,hz,wJ,hR,λt ht=>hk t ((List.mem_filter.1 ht).1),λh=>⟨λt ht hv=>?_,ts,O,(hs (Dn h).1).1 ho⟩⟩⟩;obtain⟨h1,h2⟩:=List.mem_filter.1 ht;have h3:t.k≠21:=by simpa using h2
 rcases hw t h1 hv with h4|h4|h4|h4
 .exact h4
 .exact absurd hv ((Dn h).2 t h1 (.inl h4))
 .exact absurd hv ((Dn h).2 t h1 (.inr h4))
 .exact absurd h4 h3
theorem Nh {Nf:List Tok->Prop} {FP:Prop} {w:ak} (Zr:∀h,Kp [] h0 h->al prog 18 [.str w] h (Zq Nf FP h)):al prog 8 [.str w] h0 (OQ (λP7=>∃ts,P7=bare ts/\Nf ts) FP h0):=by
 refine az (n:=42) (rs:=[.tmp 2,.tmp 3]) [] ⟨func8,O,O,O⟩ O <| have H:HI h0 [] h0 []:=HI.nil;ah H O λh H Y=>?_;refine ae O call18 (Zr _ H.kp) ?_;rintro v h2 ⟨kp,z,ok,sr,es,ts,rfl,hz,wJ,hR,hk,hw,hs⟩;replace H:=H.same kp;have vF:=hR.len;rcases hz with⟨rfl,rfl⟩|⟨tk,rfl⟩
 .obtain rfl:ts=[]:=by cases ts with|nil=>rfl|cons=>exact hR.elim
  refine ah H O λh H Y=>aC 42 (λ_:Unit=>0) (λ_=>[(4,.ao),(5,.bool ok),(6,.bool sr),(16,.int .i64 0),(17,.int .i64 0)]) (λ_ h'=>HI h0 [] h' []) (λ_:Unit=>[(4,.ao),(5,.bool ok),(6,.bool sr)]) (λ_ h'=>HI h0 [] h' []) () O H ?_ ?_
  .clear H;rintro⟨⟩ h H again done;exact an [90] H O λh H Y=>done () O H
  .clear H;rintro⟨⟩ h H;refine ah H O λh H Y=>ae O call20 (EZ (ts:=[]) (.inl ⟨O,O⟩) (by simp) hR hk) ?_;rintro v h2 ⟨kp,cA,HM,Ni,Wo⟩;replace H:=H.same kp;rcases HM with⟨rfl,rfl⟩|⟨pz,rfl⟩
   .exact ah H O λh H Y=>ab [] H O (tT H (.inl ⟨O,O⟩) Ni Wo hk hw hs (λh=>⟨h,by simp⟩))
   .exact ah H O λh H Y=>ab [] H O (tT H (.inr ⟨_,O⟩) Ni Wo hk hw hs (λh=>⟨h,by simp⟩))
 .refine ah H O λh H Y=>aC 42 (λq:Nat×Bool=>es.length -q.1) (λq=>[(4,.vec tk 6 es),(5,.bool ok),(6,.bool q.2),(15,.vec tk 6 es),(16,.int .i64 (es.length:Nat)),(17,.int .i64 (q.1:Nat))])
   (λq h'=>HI h0 [] h' []/\q.1<=es.length/\(q.2=true->sr=true/\∀t∈ts.take q.1,(t.k=19\/t.k=20)->t.v∉gb))
   (λq:Bool=>[(4,.vec tk 6 es),(5,.bool ok),(6,.bool q)])
   (λq h'=>HI h0 [] h' []/\(q=true->sr=true/\∀t∈ts,(t.k=19\/t.k=20)->t.v∉gb)) (0,sr) O ⟨H,by omega,λh=>⟨h,by simp⟩⟩ ?_ ?_
  .clear H;rintro⟨i,s4⟩ h ⟨H,hi,hS⟩ again done;simp only at hi hS;refine ah H O λh H Y=>af O (λaT=>?_) λaT=>?_
   .have ax:i <es.length:=by simpa using aT
    obtain⟨t,c,ht,hc,p1,p2,p3,p4,rfl⟩:=vc hR ax;have h2k:=hk t (List.mem_of_getElem? ht);have next:∀s5:Bool,(s5=true->s4=true/\((t.k=19\/t.k=20)->t.v∉gb))->(s5=true->sr=true/\∀t∈ts.take (i+1),(t.k=19\/t.k=20)->t.v∉gb):=λs5 h5 KZ=>by
     obtain⟨r1,r2⟩:=hS (h5 KZ).1;refine⟨r1,λu hu=>?_⟩;rw[List.take_add_one,ht]at hu;simp only[Option.toList_some,List.mem_append,List.mem_singleton]at hu;rcases hu with hu|rfl
     .exact r2 u hu
     .exact(h5 KZ).2
    refine ah H O λh H Y=>ba (ag.indexAddr O O O O O O (Int.natCast_nonneg _) (by rw[Int.toNat_natCast];exact hc)) O ?_;refine an [0,0] H O λh H Y=>aj O (λhq=>?_) (λhq=>?_)
    .have Zs:(t.k:Int) -1=18:=of_decide_eq_true hq
     refine an [92,0] H O λh H Y=>aF O call19 (Ng t.v _ gb (by simp)) <| ah H O λh H Y=>af O (λOB=>?_) λOB=>?_
     .exact ah H O λh H Y=>have HH:=H.take (k:=0);again (i+1,false) (by simp only;omega) (HQ.mk O ⟨O,O,O,O,O,vi (wI (by omega)),trivial⟩) ⟨HH,by simp only;omega,λh=>by cases h⟩
     .have To:t.v∉gb:=by simpa using OB
      exact ah H O λh H Y=>have HH:=H.take (k:=0);again (i+1,s4) (by simp only;omega) (HQ.mk O ⟨O,O,O,O,O,vi (wI (by omega)),trivial⟩) ⟨HH,by simp only;omega,next s4 λh=>⟨h,λ_=>To⟩⟩
    .have Zs:¬ (t.k:Int) -1=18:=of_decide_eq_false hq
     refine an [0] H O λh H Y=>aj O (λpj=>?_) (λpj=>?_)
     .refine an [0] H O λh H Y=>aF O call19 (Ng t.v _ gb (by simp)) <| ah H O λh H Y=>af O (λOB=>?_) λOB=>?_
      .exact ah H O λh H Y=>have HH:=H.take (k:=0);again (i+1,false) (by simp only;omega) (HQ.mk O ⟨O,O,O,O,O,vi (wI (by omega)),trivial⟩) ⟨HH,by simp only;omega,λh=>by cases h⟩
      .have To:t.v∉gb:=by simpa using OB
       exact ah H O λh H Y=>have HH:=H.take (k:=0);again (i+1,s4) (by simp only;omega) (HQ.mk O ⟨O,O,O,O,O,vi (wI (by omega)),trivial⟩) ⟨HH,by simp only;omega,next s4 λh=>⟨h,λ_=>To⟩⟩
     .have aaA:¬ (t.k:Int) -1=19:=by simpa using pj
      exact an [90] H O λh H Y=>have HH:=H.take (k:=0);again (i+1,s4) (by simp only;omega) (HQ.mk O ⟨O,O,O,O,O,vi (wI (by omega)),trivial⟩) ⟨HH,by simp only;omega,next s4 λh=>⟨h,λhh=>absurd hh (by omega)⟩⟩
   .have ax:¬ i <es.length:=by simpa using aT
    obtain rfl:i=es.length:=by omega
    refine ah H O λh H Y=>?_;rw[vF,List.take_length]at hS;exact done s4 O ⟨H,hS⟩
  .clear H;rintro s4 h ⟨H,hS⟩;refine ah H O λh H Y=>ae O call20 (EZ (.inr ⟨tk,O⟩) wJ hR hk) ?_;rintro v h2 ⟨kp,cA,HM,Ni,Wo⟩;replace H:=H.same kp;rcases HM with⟨rfl,rfl⟩|⟨pz,rfl⟩
   .exact ah H O λh H Y=>ab [] H O (tT H (.inl ⟨O,O⟩) Ni Wo hk hw hs hS)
   .exact ah H O λh H Y=>ab [] H O (tT H (.inr ⟨_,O⟩) Ni Wo hk hw hs hS)
end
end
abbrev mb (s:ak):Nat×Nat:=Lib.decodeL s
def tU (r:Int):ak:=(Utf8.encode r).data.toList
def gy:Nat->ak->List Int
 |0,_=>[]
 |n+1,s=>if s=[]then[]else((mb s).1:Int)::gy n (s.drop (mb s).2)
def bw (s:ak):List Int:=gy s.length s
def dD (r:Int):List AV:=[.int .i32 r]
def dG (rs:List Int):ak:=(rs.map tU).flatten
theorem tV (s:ByteArray):∀(n i:Nat) (acc:Array Value),Conv.runesFrom s n i acc=acc++((gy n (s.data.toList.drop i)).map (Value.int .i32)).toArray
 |0,i,acc=>by simp[Conv.runesFrom,gy]
 |n+1,i,acc=>by
  unfold Conv.runesFrom gy;have gJ:s.data.toList.length=s.size:=by simp
  by_cases h:i <s.size
  .have cv:s.data.toList.drop i≠[]:=by
    intro e;have:=congrArg List.length e;simp at this;omega
   rw[if_pos h,if_neg cv];simp only;have e1:mb (s.data.toList.drop i)=Utf8.decode s i:=Lib.decodeL_drop s i;rw[tV s n,e1,List.drop_drop];simp
  .have he:s.data.toList.drop i=[]:=List.drop_of_length_le (by omega)
   rw[if_neg h,if_pos he];simp
theorem mc:∀(n:Nat) (s:ak),(gy n s).length<=n
 |0,s=>by simp[gy]
 |n+1,s=>by
  unfold gy;split
  .simp
  .simp;exact mc n _
theorem P8 (rs:List Int):(runesBytes rs).data.toList=dG rs:=by
 have:∀(rs:List Int) (b:ByteArray),(rs.foldl (λr n=>r++Utf8.encode n) b).data.toList=b.data.toList++dG rs:=by
  intro rs
  induction rs with|nil=>intro b;simp[dG]|cons r rs ih=>intro b;rw[List.foldl_cons,ih];simp[dG,tU]
 rw[runesBytes,this];rfl
section
variable {P:Program} {lt:LT} {h:AH} {fr:ay} {ops:List Oper} {o:Oper}
theorem ag.Qa {s d e:TypeId} {x:Operand} {t:ak} (ho:o.op= .convert s d x) (hw:au ops fr o.guard=some true) (hs:P.underlying s=some .string) (hd:P.underlying d=some (.slice e)) (he:P.underlying e=some (.int .i32))
 (ex:fr.ev x= .v (.str t)) (hl:t.length<=1099511627776):∀h,ag P lt ops o fr h (.v (.vec .none 1 ((bw t).map dD))) h:=by
 intro h;refine ag.raw hw λg w ρ R hx=>?_;obtain⟨r1,r2⟩:=qO ho ρ;have v1:=hx x r2 _ ex;rw[r1];generalize ρ x=p at v1;generalize R9:AV.str t=sv at v1
 cases v1<;>cases R9;rename_i sb;have gJ:sb.data.toList.length=sb.size:=by simp
 have hrf:Conv.runesFrom sb sb.size 0 #[]=((bw sb.data.toList).map (Value.int .i32)).toArray:=by rw[tV];simp[bw]
 have hn:(bw sb.data.toList).length<=sb.size:=by rw[<-gJ];exact mc _ _
 have hr:=run_runes_of_string (P:=P) w s d e sb hs hd he (by rw[hrf];simp;omega);rw[hrf]at hr;generalize bw sb.data.toList=rs at*;simp only[List.size_toArray,List.length_map]at hr;have fH:=grownCap_ge w rs.length 0 e;have hle:=grownCap_le_maxLen w rs.length 0 e (by simp only[maxLen];omega);simp only[maxLen]at hle;obtain⟨E0,R0⟩:=qN R;generalize hC:((rs.map (Value.int .i32)).toArray++Array.replicate (grownCap w rs.length 0 e -rs.length) (Value.int .i32 0))=C at hr;have mI:C.size=grownCap w rs.length 0 e:=by rw[<-hC];simp;omega
 have XC:∀i (hi:i <rs.length),C[i]? =some (.int .i32 rs[i]):=λi hi=>by rw[<-hC,Array.getElem?_append_left (by simpa using hi)];simp[hi]
 obtain⟨E,R'⟩:=qB R0 (.cells C e (0,0)) rs.length (λ_=>⟨C,e,(0,0),O,by omega⟩);have pM:∀i j,i <(rs.map dD).length->j <1->(w.drew.alloc (.cells C e (0,0))).cell? ((⟨w.heap.size,0,none⟩:Addr).add (i*1+j))=some (.int .i32 (rs.getD i 0)):=by
  intro i j hi hj;obtain rfl:j=0:=by omega
  have vo:i <rs.length:=by simpa using hi
  rw[cL];simp only[World.cell?,heap_alloc];rw[if_pos (show w.heap.size=w.drew.heap.size from O)];simp[XC i vo,List.getD,vo]
 refine⟨.slice (some ⟨w.heap.size,0,none⟩) rs.length (grownCap w rs.length 0 e),_,_,by simp only[Sem.run_bind,hr,Result.andThen_ok,Sem.run_pure],E0.trans E,R',?_⟩;have V:=VR.vec (g:=g.xt w.drew.heap.size rs.length) (w:=w.drew.alloc (.cells C e (0,0))) .none 1 (rs.map dD) ⟨w.heap.size,0,none⟩ (grownCap w rs.length 0 e) (λi j=> .int .i32 (rs.getD i 0)) (λi hi=>by simp[dD]) pM (λi j hi hj=>by
  have vo:i <rs.length:=by simpa using hi
  have rF:j=0:=by simp[dD]at hj;omega
  subst rF;simp only[List.getElem_map,dD,List.getElem_cons_zero];have:rs.getD i 0=rs[i]:=by simp[List.getD,vo]
  rw[this];exact .int _ _) (λi j hi hj=>rfl) (λi j hi hj=>by
  have vo:i <rs.length:=by simpa using hi
  rw[cL];show 0+(i*1+j) <(g.xt w.drew.heap.size rs.length).ext w.heap.size;have:(g.xt w.drew.heap.size rs.length).ext w.heap.size=rs.length:=if_pos O;rw[this];omega) (by simpa using fH) (by omega) trivial (λ_=>⟨C,e,by rw[heap_alloc];exact if_pos O⟩)
 simpa using V
theorem ag.wU {s d e:TypeId} {x:Operand} {tk:Tk} {rs:List Int} (ho:o.op= .convert s d x) (hw:au ops fr o.guard=some true) (hs:P.underlying s=some (.slice e)) (hd:P.underlying d=some .string) (he:P.underlying e=some (.int .i32))
 (ex:fr.ev x= .v (.vec tk 1 (rs.map dD))):∀h,ag P lt ops o fr h (.v (.str (dG rs))) h:=by
 intro h;refine ag.raw hw λg w ρ R hx=>?_;obtain⟨r1,r2⟩:=qO ho ρ;have v1:=hx x r2 _ ex;rw[r1];generalize ρ x=p at v1;generalize wJ:rs.map dD=es at v1
 cases v1 with
 |vec _ _ _ ad cap vs Dn hc hv _ _ _ _ _ _=>
  subst wJ;have hr:=run_convert_runes (P:=P) w s d e ad (rs.map dD).length cap rs (by simp) hs he hd λj hj=>by
   have h1:=hc j 0 (by simpa using hj) (by omega)
   have h2:=hv j 0 (by simpa using hj) (by simp[dD])
   rw[show j*1+0=j by omega]at h1;simp only[List.getElem_map,dD,List.getElem_cons_zero]at h2;rw[h1];generalize vs j 0=u at h2
   cases h2;simp[List.getD,hj]
  refine⟨.string (runesBytes (rs.take (rs.map dD).length)),g,w,by simp only[Sem.run_bind,hr,Result.andThen_ok,Sem.run_pure],.refl g w,R,?_⟩;have e1:rs.take (rs.map dD).length=rs:=by simp
  rw[e1,<-P8];exact .str _
theorem ag.Nj {s d e:TypeId} {x:Operand} (ho:o.op= .convert s d x) (hw:au ops fr o.guard=some true) (hs:P.underlying s=some (.slice e)) (hd:P.underlying d=some .string) (he:P.underlying e=some (.int .i32))
 (ex:fr.ev x= .v .ao):∀h,ag P lt ops o fr h (.v (.str [])) h:=by
 intro h;refine ag.raw hw λg w ρ R hx=>?_;obtain⟨r1,r2⟩:=qO ho ρ;have v1:=hx x r2 _ ex;rw[r1];generalize ρ x=p at v1
 cases v1;have hr:=run_convert_runes_nil (P:=P) w s d e 0 0 hs he hd;exact⟨.string .empty,g,w,by simp only[Sem.run_bind,hr,Result.andThen_ok,Sem.run_pure],.refl g w,R,.str ByteArray.empty⟩
end
section
attribute [local irreducible] AC AL AW AD aP
def jf (r:Int):Bool:=r==9||r==10||r==13||decide (32<=r)
def jG (r:Int):Bool:=r==95||(decide (97<=r)&&decide (r<=122))||(decide (65<=r)&&decide (r<=90))
def gj (r:Int):Bool:=decide (48<=r)&&decide (r<=57)
def me (r:Int):Nat:=if r=33 then 1 else if r=36 then 2 else if r=38 then 3 else if r=40 then 4 else if r=41 then 5 else if r=58 then 7 else if r=61 then 8 else if r=64 then 9 else if r=91 then 10 else if r=93 then 11 else if r=123 then 12 else if r=125 then 13 else if r=124 then 14 else 0
def iD (r:Int):Int:=if gj r then r -48 else if 97<=r/\r<=102 then r -97+10 else if 65<=r/\r<=70 then r -65+10 else -1
section
variable {h h0:AH}
theorem rD {h:AH} {k k':Bool} {V:View} (H:HI h0 [] h V) (e:k=k'):Kp [] h0 h/\∀(g:Gh) (w:World) (u:Value),VR g w (.bool k) u->VR g w (.bool k') u:=⟨H.kp,by rw[e];exact λ_ _ _ h=>h⟩
theorem CL {h:AH} {k k':Int} {V:View} (H:HI h0 [] h V) (e:k=k'):Kp [] h0 h/\∀(g:Gh) (w:World) (u:Value),VR g w (.int .i64 k) u->VR g w (.int .i64 k') u:=⟨H.kp,by rw[e];exact λ_ _ _ h=>h⟩
theorem kL (r:Int):∀h0:AH,aP prog 88 [.int .i32 r] h0 (.bool (gj r)) h0:=by
 intro h0;refine aP.pure (.bool _) ?_;refine az (n:=9) (rs:=[.tmp 2]) [] ⟨func88,O,O,O⟩ O <| have H:HI h0 [] h0 []:=HI.nil;ah H O λh H Y=>?_;refine aj O (λhb=>?_) (λhb=>?_)
 .exact ah H O λh H Y=>ab [] H O (rD H (by simp at hb;simp[gj,hb]))
 .exact ah H O λh H Y=>ab [] H O (rD H (by simp at hb;simp[gj];omega))
theorem oH (r:Int):∀h0:AH,aP prog 83 [.int .i32 r] h0 (.bool (jf r)) h0:=by
 intro h0;refine aP.pure (.bool _) ?_;refine az (n:=17) (rs:=[.tmp 2]) [] ⟨func83,O,O,O⟩ O <| have H:HI h0 [] h0 []:=HI.nil;ah H O λh H Y=>?_;refine aj O (λhb=>?_) (λhb=>?_)
 .exact an [92,92] H O λh H Y=>ab [] H O (rD H (by simp at hb;simp[jf,hb]))
 .refine ah H O λh H Y=>aj O (λaT=>?_) (λaT=>?_)
  .exact an [92] H O λh H Y=>ab [] H O (rD H (by simp at aT;simp[jf,aT]))
  .refine ah H O λh H Y=>aj O (λbZ=>?_) (λbZ=>?_)
   .exact ah H O λh H Y=>ab [] H O (rD H (by simp at bZ;simp[jf,bZ]))
   .exact ah H O λh H Y=>ab [] H O (rD H (by simp at hb aT bZ;simp[jf,hb,aT,bZ]))
theorem qm (r:Int):∀h0:AH,aP prog 87 [.int .i32 r] h0 (.bool (jG r)) h0:=by
 intro h0;refine aP.pure (.bool _) ?_;refine az (n:=21) (rs:=[.tmp 2]) [] ⟨func87,O,O,O⟩ O <| have H:HI h0 [] h0 []:=HI.nil;ah H O λh H Y=>?_
 repeat'(first|(refine aj O (λdK=>?_) (λdK=>?_)<;>first|(cases dK;done)|refine ah H O λh H Y=>?_)|(refine aR O (λdK=>?_) (λdK=>?_)<;>first|(cases dK;done)|refine ah H O λh H Y=>?_)|(refine jI O ?_;refine ah H O λh H Y=>?_)|(refine cX O ?_;refine ah H O λh H Y=>?_)|(refine af O (λ_=>?_) (λ_=>?_)<;>refine ah H O λh H Y=>?_))
 all_goals exact ab [] H O (rD H (by clear H;rw[Bool.eq_iff_iff];simp[jG]at*<;>omega))
theorem E3 (r:Int):∀h0:AH,aP prog 85 [.int .i32 r] h0 (.int .i64 (me r)) h0:=by
 intro h0;refine aP.pure (.int _ _) ?_;refine az (n:=30) (rs:=[.tmp 2]) [] ⟨func85,O,O,O⟩ O <| have H:HI h0 [] h0 []:=HI.nil;ah H O λh H Y=>?_
 repeat'(first|(refine aj O (λdK=>?_) (λdK=>?_)<;>first|(cases dK;done)|refine ah H O λh H Y=>?_)|(refine aR O (λdK=>?_) (λdK=>?_)<;>first|(cases dK;done)|refine ah H O λh H Y=>?_)|(refine jI O ?_;refine ah H O λh H Y=>?_)|(refine cX O ?_;refine ah H O λh H Y=>?_)|(refine af O (λ_=>?_) (λ_=>?_)<;>refine ah H O λh H Y=>?_))
 all_goals exact ab [] H O (CL H (by clear H;simp at*;simp_all [me]))
theorem wrap_i32 {n:Int} (h0: -2147483648<=n) (h1:n <2147483648):IntKind.i32.wrap n=n:=by simp only[IntKind.wrap,IntKind.bits,IntKind.signed];simp;omega
theorem Qb (r:Int) (hr:0<=r/\r<=1114111):∀h0:AH,aP prog 164 [.int .i32 r] h0 (.int .i64 (iD r)) h0:=by
 intro h0;refine aP.pure (.int _ _) <| az (n:=31) (rs:=[.tmp 2]) [] ⟨func164,O,O,O⟩ O ?_;have H:HI h0 [] h0 []:=HI.nil;have a1:IntKind.i64.wrap (IntKind.i32.wrap (r -48))=r -48:=by rw[wrap_i32 (by omega) (by omega),wrap_i64 (by omega) (by omega)]
 have a2:IntKind.i64.wrap (IntKind.i64.wrap (IntKind.i32.wrap (r -97))+10)=r -97+10:=by rw[wrap_i32 (by omega) (by omega),wrap_i64 (n:=r -97) (by omega) (by omega),wrap_i64 (by omega) (by omega)]
 have a3:IntKind.i64.wrap (IntKind.i64.wrap (IntKind.i32.wrap (r -65))+10)=r -65+10:=by rw[wrap_i32 (by omega) (by omega),wrap_i64 (n:=r -65) (by omega) (by omega),wrap_i64 (by omega) (by omega)]
 refine ah H O λh H Y=>aF O call88 (kL r) <| ah H O λh H Y=>af O (λhd=>?_) λhd=>?_
 .exact ah H O λh H Y=>ab [] H O (CL H (by rw[a1];unfold iD;rw[if_pos hd]))
 .refine ah H O λh H Y=>?_;have Aj:¬ gj r=true:=by rw[hd];simp
  repeat'(first|(refine aj O (λdK=>?_) (λdK=>?_)<;>first|(cases dK;done)|refine ah H O λh H Y=>?_)|(refine aR O (λdK=>?_) (λdK=>?_)<;>first|(cases dK;done)|refine ah H O λh H Y=>?_)|(refine jI O ?_;refine ah H O λh H Y=>?_)|(refine cX O ?_;refine ah H O λh H Y=>?_)|(refine af O (λ_=>?_) (λ_=>?_)<;>refine ah H O λh H Y=>?_))
  all_goals(refine ab [] H O (CL H ?_);clear H;(try rw[a2]);(try rw[a3]);unfold iD;rw[if_neg Aj];clear a1 a2 a3;simp at*;(repeat' split)<;>omega)
end
abbrev jk (rs:List Int) (k:Int) (z:AV) (s:Bool) (seen line fr:Int):List AV:=[.vec .none 1 (rs.map dD),.int .i64 k,z,.bool s,.int .i64 seen,.int .i64 line,.int .i64 fr]
def pk (rs:List Int) (i:Nat):Int:=rs.getD i 0
theorem lz {rs:List Int} {i:Nat} (h:i <rs.length):(rs.map dD)[i]? =some [.int .i32 (pk rs i)]:=by rw[List.getElem?_map,List.getElem?_eq_getElem h];simp[dD,pk,List.getD,h]
theorem tW {rs:List Int} {i:Nat} (h:rs.length<=i):pk rs i=0:=by simp[pk,List.getD,h]
section
variable {h h0 hb:AH} {o k:Nat} {rs:List Int} {z:AV} {s:Bool} {seen:Nat} {line fr:Int}
theorem bn (hg:h0.get o=some (.cells (jk rs k z s seen line fr))) (ho:o <h0.n) (hl:rs.length<=1048576) (hk:k<=2097152) {n:Nat} (hn:n<=8):
 al prog 86 [.ptr o 0,.int .i64 (n:Nat)] h0 (λv h'=>Kp [] h0 h'/\v= .int .i32 (pk rs (k+n))):=by
 refine az (n:=29) (rs:=[.tmp 4]) [] ⟨func86,O,O,O⟩ O ?_;have H:HI h0 [o] h0 [(o,jk rs k z s seen line fr)]:=HI.one hg ho;have hw:IntKind.i64.wrap ((k:Int)+(n:Int))=((k+n:Nat):Int):=wI (by omega);refine ah H O λh H Y=>af O (λhb=>?_) λhb=>?_
 .have ax:k+n <rs.length:=by
   have:=of_decide_eq_true hb
   rw[hw]at this;simp at this;omega
  refine ah H O λh H Y=>bp (ag.indexAddr O O O O O O (by rw[hw];exact Int.natCast_nonneg _) (by rw[hw,Int.toNat_natCast];exact lz ax)) O ?_;exact ah H O λh H Y=>ab [] H O ⟨H.o0 hg,O⟩
 .have fH:rs.length<=k+n:=by
   have:=of_decide_eq_false hb
   rw[hw]at this;simp at this;omega
  refine ah H O λh H Y=>ab [] H O ⟨H.o0 hg,?_⟩;rw[tW fH];rfl
def ef:List Int->Nat
 |[]=>0
 |r::l=>if gj r then ef l+1 else 0
theorem CM:∀l:List Int,ef l<=l.length
 |[]=>by simp[ef]
 |r::l=>by simp only[ef];split<;>simp;exact CM l
theorem lA {rs:List Int} {i:Nat} (h:i <rs.length):rs.drop i=pk rs i::rs.drop (i+1):=by rw[List.drop_eq_getElem_cons h];simp[pk,List.getD,h]
theorem lB (hg:h0.get o=some (.cells (jk rs k z s seen line fr))) (ho:o <h0.n) (hl:rs.length<=1048576) (hk:k<=rs.length):
 al prog 131 [.ptr o 0] h0 (λv h'=>Kp [o] h0 h'/\v= .bool (decide (0 <ef (rs.drop k)))/\h'.get o=some (.cells (jk rs (k+ef (rs.drop k):Nat) z s seen line fr))):=by
 refine az (n:=24) (rs:=[.tmp 2]) [] ⟨func131,O,O,O⟩ O <| have H:HI h0 [o] h0 [(o,jk rs k z s seen line fr)]:=HI.one hg ho;ah H O λh H Y=>?_;refine aC 24 (λq:Nat=>rs.length -q) (λq=>[(0,.ptr o 0),(3,.int .i64 (k:Nat))])
  (λq h'=>HI h0 [o] h' [(o,jk rs q z s seen line fr)]/\k<=q/\q<=rs.length/\ef (rs.drop k)=(q -k)+ef (rs.drop q))
  (λ_:Unit=>[(0,.ptr o 0),(3,.int .i64 (k:Nat))])
  (λ_ h'=>HI h0 [o] h' [(o,jk rs (k+ef (rs.drop k):Nat) z s seen line fr)]) k O ⟨H,Nat.le_refl _,hk,by omega⟩ ?_ ?_
 .clear H;rintro q h ⟨H,Ez,pj,hd⟩ again done;refine ah H O λh H Y=>ae O call86 (bn H.at_.1 H.at_.2 hl (by omega) (n:=0) (by omega)) ?_;rintro v h2 ⟨kp,rfl⟩;replace H:=H.same kp;refine ah H O λh H Y=>aF O call88 (kL _) <| ah H O λh H Y=>af O (λhb=>?_) λhb=>?_
  .have ax:q <rs.length:=by
    rcases Nat.lt_or_ge q rs.length with h|h
    .exact h
    .rw[tW (by omega)]at hb
     cases hb
   refine ah H O λh H Y=>?_;rw[lA ax]at hd;simp only[ef]at hd;rw[if_pos (by simpa using hb)]at hd;refine again (q+1) (by omega) O ⟨?_,by omega,by omega,by omega⟩;have e:IntKind.i64.wrap ((q:Int)+1)=((q+1:Nat):Int):=wI (by omega);rw[<-e];exact H
  .refine ah H O λh H Y=>?_;have h0:ef (rs.drop q)=0:=by
    rcases Nat.lt_or_ge q rs.length with h|h
    .rw[lA h];simp only[ef];exact if_neg (by simpa using hb)
    .rw[List.drop_of_length_le h];rfl
   refine done () O ?_;rw[show k+ef (rs.drop k)=q by omega];exact H
 .clear H;rintro⟨⟩ h H;refine ah H O λh H Y=>ab [] H O ⟨H.kp,?_,H.at_.1⟩;show AV.bool (decide (((k+ef (rs.drop k):Nat):Int) >(k:Int)))=_
  congr 1
  simp only[decide_eq_decide];omega
end
section
variable {h h0 hb:AH} {o k:Nat} {rs:List Int} {z:AV} {s:Bool} {seen:Nat} {line fr:Int}
theorem E5 (hg:h0.get o=some (.cells (jk rs k z s seen line fr))) (ho:o <h0.n) (hl:rs.length<=1048576) (pa:seen<=rs.length) {to:Nat} (hto:to<=rs.length):
 al prog 130 [.ptr o 0,.int .i64 (to:Nat)] h0 (λv h'=>Kp [o] h0 h'/\v= .cN []/\∃(Nk:Nat) (Nl aB:Int),Nk<=rs.length/\h'.get o=some (.cells (jk rs k z s Nk Nl aB))):=by
 refine az (n:=79) (rs:=[]) [] ⟨func130,O,O,O⟩ O <| have H:HI h0 [o] h0 [(o,jk rs k z s seen line fr)]:=HI.one hg ho;ah H O λh H Y=>?_;refine fg (λq:Nat×Int×Int=>rs.length -q.1) 79 (λq=>[(0,.ptr o 0),(1,.int .i64 (to:Nat))])
  (λq h'=>HI h0 [o] h' [(o,jk rs k z s (q.1:Nat) q.2.1 q.2.2)]/\q.1<=rs.length)
  (seen,line,fr) O ⟨H,pa⟩ ?_
 .clear H;rintro⟨q,li,fo⟩ h ⟨H,hq⟩ again;simp only at H hq;have e1:IntKind.i64.wrap ((q:Int)+1)=((q+1:Nat):Int):=wI (by omega);have OC:∀{h:AH} {kX:ay} {li fo:Int} {ks:List Kt},q <rs.length->HI h0 [o] h [(o,jk rs k z s (IntKind.i64.wrap ((q:Int)+1)) li fo)]->HI h0 [o] h [(o,jk rs k z s ((q+1:Nat):Int) li fo)]:=λ_ H=>by rw[<-e1];exact H
  refine ah H O λh H Y=>af O (λhb=>?_) λhb=>?_
  .have ax:q <rs.length:=by
    have:=of_decide_eq_true hb
    omega
   refine ah H O λh H Y=>bp (ag.indexAddr O O O O O O (Int.natCast_nonneg _) (by rw[Int.toNat_natCast];exact lz ax)) O ?_;refine ah H O λh H Y=>have tail:True:=trivial;aR O (λaT=>?_) (λaT=>?_)
   .refine ah H O λh H Y=>aR O (λbZ=>?_) (λbZ=>?_)
    .have eG:q+1 <rs.length:=by
      have:decide (IntKind.i64.wrap ((q:Int)+1) <((rs.map dD).length:Nat))=true:=bZ
      rw[e1]at this;simp at this;omega
     refine ah H O λh H Y=>bp (ag.indexAddr O O O O O O (by rw[e1];exact Int.natCast_nonneg _) (by rw[e1,Int.toNat_natCast];exact lz eG)) O ?_;refine ah H O λh H Y=>af O (λgp=>?_) λgp=>?_
     .refine ah H O λh H Y=>?_;exact again (q+1,li,fo) (by simp only;omega) O ⟨OC (kX:=ay.enter 0 []) (ks:=[]) ax H,by simp only;omega⟩
     .refine ah H O λh H Y=>aj O (λkH=>?_) (λkH=>?_)
      .refine an [91] H O λh H Y=>?_;exact again (q+1,_,_) (by simp only;omega) O ⟨OC (kX:=ay.enter 0 []) (ks:=[]) ax H,by simp only;omega⟩
      .refine ah H O λh H Y=>af O (λfS=>?_) λfS=>?_
       .refine ah H O λh H Y=>?_;exact again (q+1,_,_) (by simp only;omega) O ⟨OC (kX:=ay.enter 0 []) (ks:=[]) ax H,by simp only;omega⟩
       .refine ah H O λh H Y=>?_;exact again (q+1,_,_) (by simp only;omega) O ⟨OC (kX:=ay.enter 0 []) (ks:=[]) ax H,by simp only;omega⟩
    .refine an [90] H O λh H Y=>aj O (λkH=>?_) (λkH=>?_)
     .refine an [91] H O λh H Y=>?_;exact again (q+1,_,_) (by simp only;omega) O ⟨OC (kX:=ay.enter 0 []) (ks:=[]) ax H,by simp only;omega⟩
     .refine ah H O λh H Y=>af O (λfS=>?_) λfS=>?_
      .refine ah H O λh H Y=>?_;exact again (q+1,_,_) (by simp only;omega) O ⟨OC (kX:=ay.enter 0 []) (ks:=[]) ax H,by simp only;omega⟩
      .refine ah H O λh H Y=>?_;exact again (q+1,_,_) (by simp only;omega) O ⟨OC (kX:=ay.enter 0 []) (ks:=[]) ax H,by simp only;omega⟩
   .refine ah H O λh H Y=>aR O (λbZ=>by cases bZ) (λ_=>?_);refine an [90] H O λh H Y=>aj O (λkH=>?_) (λkH=>?_)
    .refine an [91] H O λh H Y=>?_;exact again (q+1,_,_) (by simp only;omega) O ⟨OC (kX:=ay.enter 0 []) (ks:=[]) ax H,by simp only;omega⟩
    .refine ah H O λh H Y=>af O (λfS=>?_) λfS=>?_
     .refine ah H O λh H Y=>?_;exact again (q+1,_,_) (by simp only;omega) O ⟨OC (kX:=ay.enter 0 []) (ks:=[]) ax H,by simp only;omega⟩
     .refine ah H O λh H Y=>?_;exact again (q+1,_,_) (by simp only;omega) O ⟨OC (kX:=ay.enter 0 []) (ks:=[]) ax H,by simp only;omega⟩
  .exact ah H O λh H Y=>cy [] H O ⟨H.kp,O,q,li,fo,hq,H.at_.1⟩
end
def qo (hb h:AH) (o:Nat) (rs:List Int) (k:Nat) (s:Bool) (ts:List Tok):Prop:=o <h.n/\hb.nt<=h.nt/\∃z es line fr,∃seen:Nat,h.get o=some (.cells (jk rs k z s seen line fr))/\aG hb h 6 z es/\bx jE ts es/\seen<=rs.length
section
variable {h h0 h1 hb:AH} {o k:Nat} {rs:List Int} {z:AV} {s:Bool} {seen:Nat} {line fr:Int} {ts:List Tok}
theorem qo.at_ (L:qo hb h o rs k s ts):∃z es line fr,∃seen:Nat,HI (h.aw hb.nt) [o] h [(o,jk rs k z s seen line fr)]/\aG (h.aw hb.nt) h 6 z es/\bx jE ts es/\seen<=rs.length:=by
 obtain⟨ho,hn,z,es,line,fr,seen,hg,G,hR,hs⟩:=L;refine⟨z,es,line,fr,seen,⟨HV.of (λe he=>?_) (by simp),⟨Nat.le_refl _,λ_ _ _=>rfl,hn,λ_ _=>rfl,O⟩,λe he=>?_⟩,G,hR,hs⟩
 .rw[List.mem_singleton]at he;subst he;exact⟨hg,ho⟩
 .rw[List.mem_singleton]at he;subst he;exact .inl (by simp)
theorem qo.mk' {es:List (List AV)} {V:View} (H:HI (h0.aw hb.nt) [o] h ((o,jk rs k z s seen line fr)::V)) (G:aG (h0.aw hb.nt) h 6 z es) (hR:bx jE ts es) (hs:seen<=rs.length):qo hb h o rs k s ts:=⟨H.at_.2,H.kp.nt,z,es,line,fr,seen,H.at_.1,G,hR,hs⟩
theorem kc (L:qo hb h0 o rs k s ts) (hl:rs.length<=1048576) (yf:ts.length<=1048576) {kind start:Nat} {w:ak} (iw:start<=rs.length):
 al prog 84 [.ptr o 0,.int .i64 (kind:Nat),.str w,.int .i64 (start:Nat)] h0 (λv h'=>Kp [o] (h0.aw hb.nt) h'/\v= .cN []/\qo hb h' o rs k s (ts++[⟨kind+1,w⟩])):=by
 obtain⟨z,es,line,fr,seen,H,G,hR,pa⟩:=L.at_;have vF:=hR.len;refine az (n:=39) (rs:=[]) [] ⟨func84,O,O,O⟩ O <| aH H G O λh H G Y=>ae O call130 (E5 H.at_.1 H.at_.2 hl pa iw) ?_;rintro v h2 ⟨kp,rfl,Nk,Nl,aB,Zt,JB⟩;replace H:=H.aA kp JB;replace G:=G.kp kp;refine aH H G O λh H G Y=>qA H O O O O O O O G ?_ ?_
 .show(es.length+1)*(56+1)<=140737488355328;omega
 clear H G;intro x9 h H G n_;obtain⟨lM,rfl⟩:=ck G;refine aH H G O λh H G Y=>cy [] H O ⟨H.kp,O,qo.mk' H G (ql hR ⟨start,k,Nl,IntKind.i64.wrap (IntKind.i64.wrap (start -aB)+1),?_⟩) Zt⟩;have:(((kind+1:Nat):Int) -1)=(kind:Int):=by omega
 simp only[this];rfl
end
def nI (rs:List Int) (a:Nat):Option Nat:=if pk rs a=48/\gj (pk rs (a+1))=true then none else if ef (rs.drop a)=0 then none else some (a+ef (rs.drop a))
def nF (rs:List Int) (a:Nat):Option (Bool×Nat):=if pk rs a=46 then(if ef (rs.drop (a+1))=0 then none else some (true,a+1+ef (rs.drop (a+1))))else some (false,a)
def nX (rs:List Int) (c:Nat):Option (Bool×Nat):=if ef (rs.drop c)=0 then none else some (true,c+ef (rs.drop c))
def nE (rs:List Int) (f:Bool) (a:Nat):Option (Bool×Nat):=if pk rs a=101\/pk rs a=69 then nX rs (if pk rs (a+1)=43\/pk rs (a+1)=45 then a+2 else a+1)else some (f,a)
def sF (rs:List Int) (k:Nat):Option (Bool×Nat):=(nI rs (if pk rs k=45 then k+1 else k)).bind λa=>(nF rs a).bind λp=>nE rs p.1 p.2
theorem pb {rs:List Int} {i:Nat} (h:pk rs i≠0):i <rs.length:=by
 rcases Nat.lt_or_ge i rs.length with h'|h'
 .exact h'
 .exact absurd (tW h') h
theorem q9 (rs:List Int) {a:Nat} (h:a<=rs.length):a+ef (rs.drop a)<=rs.length:=by
 have:=CM (rs.drop a)
 simp at this;omega
theorem CN {h h0:AH} {ids:List Nat} {o a c:Nat} {rs:List Int} {z:AV} {s:Bool} {seen line fr:Int} {V:View} (H:HI h0 ids h ((o,jk rs (IntKind.i64.wrap ((a:Int)+(c:Nat))) z s seen line fr)::V)) (ha:a<=2097152) (hc:c<=2097152):HI h0 ids h ((o,jk rs ((a+c:Nat):Int) z s seen line fr)::V):=by
 have e:IntKind.i64.wrap ((a:Int)+(c:Nat))=((a+c:Nat):Int):=wI (by omega)
 rw[<-e];exact H
def TQ (hb:AH) (o:Nat) (rs:List Int) (k:Nat) (s:Bool) (ts:List Tok) (h0:AH) (P:Option (List Tok×Nat)) (v:AV) (h':AH):Prop:=
 Kp [o] (h0.aw hb.nt) h'/\∃r s',v= .bool r/\
  (r=true->∃k' new,qo hb h' o rs k' s' (ts++new)/\k <k'/\k'<=rs.length/\new.length<=1/\(∀t∈new,2<=t.k/\(t.v∈gb->t.k=16\/t.k=19\/t.k=20\/t.k=21))/\(s'=true->s=true/\P=some (new,k')))/\
  (r=false->(∃a z seen line fr,o <h'.n/\h'.get o=some (.cells (jk rs a z s' seen line fr)))/\(s'=true->s=true/\P=none))
theorem TQ.no {hb h0 h:AH} {o k:Nat} {rs:List Int} {s s':Bool} {ts:List Tok} {P:Option (List Tok×Nat)} {a:Int} {z:AV} {seen line fr:Int} {V:View} (H:HI (h0.aw hb.nt) [o] h ((o,jk rs a z s' seen line fr)::V)) (hP:s'=true->s=true/\P=none):TQ hb o rs k s ts h0 P (.bool false) h:=⟨H.kp,false,s',O,(λh=>by cases h),λ_=>⟨⟨a,z,seen,line,fr,H.at_.2,H.at_.1⟩,hP⟩⟩
theorem TQ.yes {hb h0 h:AH} {o k k':Nat} {rs:List Int} {s s':Bool} {ts new:List Tok} {P:Option (List Tok×Nat)} (K:Kp [o] (h0.aw hb.nt) h) (L:qo hb h o rs k' s' (ts++new)) (h1:k <k') (h2:k'<=rs.length) (h3:new.length<=1) (h4:∀t∈new,2<=t.k/\(t.v∈gb->t.k=16\/t.k=19\/t.k=20\/t.k=21)) (hP:s'=true->s=true/\P=some (new,k')):TQ hb o rs k s ts h0 P (.bool true) h:=⟨K,true,s',O,(λ_=>⟨k',new,L,h1,h2,h3,h4,hP⟩),λh=>by cases h⟩
theorem Nn {r:Int} (h0:0<=r) (h1:r <128):tU r=[UInt8.ofNat r.toNat]:=by
 unfold tU Utf8.encode Utf8.valid;have:(decide (0<=r)&&decide (r <55296)||decide (57344<=r)&&decide (r<=1114111))=true:=by simp;omega
 simp only[this,if_true];rw[if_pos (by omega)]
theorem Ko (r:Int) (l:List Int):dG (r::l)=tU r++dG l:=by simp[dG]
theorem No {rs:List Int} {k e:Nat} (h:k <e) (he:e<=rs.length):(rs.take e).drop k=pk rs k::(rs.take e).drop (k+1):=by
 rw[List.drop_eq_getElem_cons (by simp;omega)]
 congr 1
 simp[pk,List.getD,show k <rs.length by omega]
theorem Np {r:Int} {l:List Int} (h:r=45\/(48<=r/\r<=57)):dG (r::l)∉gb:=by
 rw[Ko,Nn (by omega) (by omega)];have hb:(UInt8.ofNat r.toNat).toNat=r.toNat:=by simp;omega
 intro hm;simp only[gb,List.mem_cons,List.not_mem_nil,or_false,List.cons_append,List.nil_append,List.cons.injEq]at hm;rcases hm with⟨hm,_⟩|⟨hm,_⟩|⟨hm,_⟩|⟨hm,_⟩|⟨hm,_⟩<;>(rw[hm]at hb;simp at hb;omega)
theorem Nq {rs:List Int} {a:Nat} (h:ef (rs.drop a)≠0):gj (pk rs a)=true/\a <rs.length:=by
 rcases Nat.lt_or_ge a rs.length with h'|h'
 .rw[lA h']at h;simp only[ef]at h;split at h
  .exact⟨by assumption,h'⟩
  .exact absurd O h
 .rw[List.drop_of_length_le h']at h;exact absurd O h
section
variable {P:Program} {lt:LT} {h:AH} {fr:ay} {ops:List Oper} {o:Oper}
theorem ag.E6 {t e:TypeId} {x lo hi:Operand} {rs:List Int} {k e':Nat} (ho:o.op= .slice t x (some lo) (some hi) none) (hw:au ops fr o.guard=some true) (ht:P.underlying t=some (.slice e)) (hz:kW P e=some 1) (ex:fr.ev x= .v (.vec .none 1 (rs.map dD)))
 (h1:fr.ev lo= .v (.int .i64 (k:Nat))) (h2:fr.ev hi= .v (.int .i64 (e':Nat))) (h3:k<=e') (h4:e'<=rs.length):∀h,ag P lt ops o fr h (.v (.vec .none 1 (((rs.take e').drop k).map dD))) h:=by
 have:=ag.sliceTo (P:=P) (lt:=lt) (ops:=ops) ho hw ht hz ex (l:=k) (hh:=e') (by rw[eY h1 (Int.natCast_nonneg _),Int.toNat_natCast]) (by rw[eY h2 (Int.natCast_nonneg _),Int.toNat_natCast]) h3 (by simpa using h4)
 rw[<-List.map_take,<-List.map_drop]at this;exact this
end
section
variable {h h0 hb:AH} {o k:Nat} {rs:List Int} {z:AV} {s:Bool} {seen:Nat} {line fr:Int} {ts:List Tok}
theorem CO (L:qo hb h0 o rs k s ts) (hl:rs.length<=1048576) (yf:ts.length<=1048576) (hk:k <rs.length) (h0k:pk rs k=45\/gj (pk rs k)=true):
 al prog 89 [.ptr o 0] h0 (TQ hb o rs k s ts h0 ((sF rs k).map λp=>([⟨if p.1 then 18 else 17,dG ((rs.take p.2).drop k)⟩],p.2))):=by
 obtain⟨z,es,line,fr,seen,H,G,hR,pa⟩:=L.at_;have vF:=hR.len;refine az (n:=104) (rs:=[.tmp 2]) [] ⟨func89,O,O,O⟩ O <| aH H G O λh H G Y=>ae O call86 (bn H.at_.1 H.at_.2 hl (by omega) (n:=0) (by omega)) ?_;rintro v h2 ⟨kp,rfl⟩;replace H:=H.same kp;replace G:=G.kp kp;refine aH H G O λh H G Y=>lC 104 (λa:Nat=>[(0,.ptr o 0),(2,.bool false),(3,.int .i64 (k:Nat)),(4,.int .i64 16)]) (λa h'=>HI (h0.aw hb.nt) [o] h' [(o,jk rs a z s seen line fr)]/\aG (h0.aw hb.nt) h' 6 z es/\a=(if pk rs k=45 then k+1 else k)) O (λej J=>?_) (λej J=>?_) ?_
 .have hm:pk rs k=45:=of_decide_eq_true ej
  refine aH H G O λh H G Y=>?_;exact J (k+1) O ⟨CN (c:=1) H (by omega) (by omega),G,by rw[if_pos hm]⟩
 .have hm:¬ pk rs k=45:=of_decide_eq_false ej
  refine aH H G O λh H G Y=>?_;exact J k O ⟨H,G,by rw[if_neg hm]⟩
 clear H G;rintro a h ⟨H,G,ha⟩;have Dm:a<=k+1/\k<=a:=by rw[ha];split<;>omega
 have hP:sF rs k=(nI rs a).bind λa=>(nF rs a).bind λp=>nE rs p.1 p.2:=by unfold sF;rw[ha]
 have OD:nI rs a=none->(sF rs k).map (λp=>([(⟨if p.1 then 18 else 17,dG ((rs.take p.2).drop k)⟩:Tok)],p.2))=none:=λe=>by rw[hP,e];rfl
 refine cV 104 (λq:Nat=>[(0,.ptr o 0),(2,.bool false),(3,.int .i64 (k:Nat)),(4,.int .i64 16)]) (λq h'=>HI (h0.aw hb.nt) [o] h' [(o,jk rs q z s seen line fr)]/\aG (h0.aw hb.nt) h' 6 z es/\nI rs a=some q/\a <q/\q<=rs.length) (λJ=>?_) ?_
 .refine aH H G O λh H G Y=>ae O call86 (bn H.at_.1 H.at_.2 hl (by omega) (n:=0) (by omega)) ?_;rintro v h2 ⟨kp,rfl⟩;replace H:=H.same kp;replace G:=G.kp kp;refine aH H G O λh H G Y=>?_;have dg:∀{h:AH},ef (rs.drop a)<=rs.length:=λ{_}=>by have:=CM (rs.drop a);simp at this;omega
  refine aj O (λhz=>?_) (λhz=>?_)
  .have HM:pk rs a=48:=of_decide_eq_true hz
   have Zu:a <rs.length:=pb (by omega)
   refine aH H G O λh H G Y=>ae O call86 (bn H.at_.1 H.at_.2 hl (by omega) (n:=1) (by omega)) ?_;rintro v h2 ⟨kp,rfl⟩;replace H:=H.same kp;replace G:=G.kp kp;refine aH H G O λh H G Y=>aF O call88 (kL _) <| aH H G O λh H G Y=>aj O (λhd=>?_) (λhd=>?_)
   .have Aj:gj (pk rs (a+1))=true:=by simpa using hd
    exact bm [91] H G O λh H G Y=>ab [] H O (TQ.no H λhs=>⟨hs,OD (by unfold nI;rw[if_pos ⟨HM,Aj⟩])⟩)
   .have Aj:¬ (pk rs a=48/\gj (pk rs (a+1))=true):=by
     have:gj (pk rs (a+1))=false:=by simpa using hd
     rw[this];simp
    refine aH H G O λh H G Y=>ae O call131 (lB H.at_.1 H.at_.2 hl (by omega)) ?_;rintro v h2 ⟨kp,rfl,xG⟩;replace H:=H.aA kp xG;replace G:=G.kp kp;refine aH H G O λh H G Y=>have hle:=q9 rs (Nat.le_of_lt Zu);af O (λaT=>?_) λaT=>?_
    .have Hq:ef (rs.drop a)=0:=by simp at aT;omega
     exact aH H G O λh H G Y=>ab [] H O (TQ.no H λhs=>⟨hs,OD (by unfold nI;rw[if_neg Aj,if_pos Hq])⟩)
    .have Hq:¬ ef (rs.drop a)=0:=by simp at aT;omega
     refine aH H G O λh H G Y=>?_;exact J _ O ⟨H,G,by unfold nI;rw[if_neg Aj,if_neg Hq],by omega,hle⟩
  .have HM:¬ (pk rs a=48/\gj (pk rs (a+1))=true):=λq=>of_decide_eq_false hz q.1
   refine bm [92] H G O λh H G Y=>ae O call131 (lB H.at_.1 H.at_.2 hl (by omega)) ?_;rintro v h2 ⟨kp,rfl,xG⟩;replace H:=H.aA kp xG;replace G:=G.kp kp;refine aH H G O λh H G Y=>?_;have hle:=q9 rs (show a<=rs.length by omega);refine af O (λaT=>?_) λaT=>?_
   .have Hq:ef (rs.drop a)=0:=by simp at aT;omega
    exact aH H G O λh H G Y=>ab [] H O (TQ.no H λhs=>⟨hs,OD (by unfold nI;rw[if_neg HM,if_pos Hq])⟩)
   .have Hq:¬ ef (rs.drop a)=0:=by simp at aT;omega
    refine aH H G O λh H G Y=>?_;exact J _ O ⟨H,G,by unfold nI;rw[if_neg HM,if_neg Hq],by omega,hle⟩
 clear H G;rintro q h ⟨H,G,hY,haq,hq⟩;have Zv:sF rs k=(nF rs q).bind λp=>nE rs p.1 p.2:=by rw[hP,hY];rfl
 clear OD;have OD:nF rs q=none->(sF rs k).map (λp=>([(⟨if p.1 then 18 else 17,dG ((rs.take p.2).drop k)⟩:Tok)],p.2))=none:=λe=>by rw[Zv,e];rfl
 refine cV 104 (λp:Bool×Nat=>[(0,.ptr o 0),(2,.bool false),(3,.int .i64 (k:Nat)),(4,.int .i64 ((if p.1=true then 17 else 16:Nat):Int))]) (λp h'=>HI (h0.aw hb.nt) [o] h' [(o,jk rs p.2 z s seen line fr)]/\aG (h0.aw hb.nt) h' 6 z es/\nF rs q=some p/\q<=p.2/\p.2<=rs.length) (λJ=>?_) ?_
 .refine aH H G O λh H G Y=>ae O call86 (bn H.at_.1 H.at_.2 hl (by omega) (n:=0) (by omega)) ?_;rintro v h2 ⟨kp,rfl⟩;replace H:=H.same kp;replace G:=G.kp kp;refine aH H G O λh H G Y=>af O (λbZ=>?_) λbZ=>?_
  .have Qc:pk rs q=46:=of_decide_eq_true bZ
   have pj:q <rs.length:=pb (by omega)
   refine aH H G O λh H G Y=>?_;replace H:=CN (c:=1) H (by omega) (by omega);refine ae O call131 (lB H.at_.1 H.at_.2 hl (by omega)) ?_;rintro v h2 ⟨kp,rfl,xG⟩;replace H:=H.aA kp xG;replace G:=G.kp kp;refine aH H G O λh H G Y=>?_;have hle:=q9 rs (show q+1<=rs.length by omega);refine af O (λgp=>?_) λgp=>?_
   .have Hq:ef (rs.drop (q+1))=0:=by simp at gp;omega
    exact aH H G O λh H G Y=>ab [] H O (TQ.no H λhs=>⟨hs,OD (by unfold nF;rw[if_pos Qc,if_pos Hq])⟩)
   .have Hq:¬ ef (rs.drop (q+1))=0:=by simp at gp;omega
    refine aH H G O λh H G Y=>?_;exact J (true,q+1+ef (rs.drop (q+1))) O ⟨H,G,by unfold nF;rw[if_pos Qc,if_neg Hq],by simp only;omega,hle⟩
  .have Qc:¬ pk rs q=46:=of_decide_eq_false bZ
   refine aH H G O λh H G Y=>?_;exact J (false,q) O ⟨H,G,by unfold nF;rw[if_neg Qc],Nat.le_refl _,hq⟩
 clear H G OD;rintro⟨f,q2⟩ h ⟨H,G,hF,UD,pj⟩;simp only at H UD pj;have Zw:sF rs k=nE rs f q2:=by rw[Zv,hF];rfl
 clear hP Zv;have OD:nE rs f q2=none->(sF rs k).map (λp=>([(⟨if p.1 then 18 else 17,dG ((rs.take p.2).drop k)⟩:Tok)],p.2))=none:=λe=>by rw[Zw,e];rfl
 refine cV 104 (λp:Bool×Nat=>[(0,.ptr o 0),(2,.bool false),(3,.int .i64 (k:Nat)),(4,.int .i64 ((if p.1=true then 17 else 16:Nat):Int))]) (λp h'=>HI (h0.aw hb.nt) [o] h' [(o,jk rs p.2 z s seen line fr)]/\aG (h0.aw hb.nt) h' 6 z es/\nE rs f q2=some p/\q2<=p.2/\p.2<=rs.length) (λJ=>?_) ?_
 .refine cV 104 (λb:Bool=>[(0,.ptr o 0),(2,.bool false),(3,.int .i64 (k:Nat)),(4,.int .i64 ((if f=true then 17 else 16:Nat):Int)),(52,.bool b)])
   (λb h'=>HI (h0.aw hb.nt) [o] h' [(o,jk rs q2 z s seen line fr)]/\aG (h0.aw hb.nt) h' 6 z es/\(b=true↔(pk rs q2=101\/pk rs q2=69))) (λJ2=>?_) ?_
  .refine aH H G O λh H G Y=>ae O call86 (bn H.at_.1 H.at_.2 hl (by omega) (n:=0) (by omega)) ?_;rintro v h2 ⟨kp,rfl⟩;replace H:=H.same kp;replace G:=G.kp kp;refine aH H G O λh H G Y=>aj O (λhe=>?_) (λhe=>?_)
   .refine aH H G O λh H G Y=>?_;exact J2 true O ⟨H,G,by have:pk rs q2=101:=of_decide_eq_true he;simp[this]⟩
   .refine aH H G O λh H G Y=>ae O call86 (bn H.at_.1 H.at_.2 hl (by omega) (n:=0) (by omega)) ?_;rintro v h2 ⟨kp,rfl⟩;replace H:=H.same kp;replace G:=G.kp kp;refine aH H G O λh H G Y=>?_;exact J2 _ O ⟨H,G,by have:¬ pk rs q2=101:=of_decide_eq_false he;simp[this]⟩
  clear H G;rintro b h ⟨H,G,Tp⟩;refine af O (λkH=>?_) λkH=>?_
  .have Ts:=Tp.1 kH
   have OM:q2 <rs.length:=pb (by omega)
   refine Af 17 [] [] H G O λh H G Y=>?_;replace H:=CN (c:=1) H (by omega) (by omega);refine cV 104 (λc:Nat=>[(0,.ptr o 0),(2,.bool false),(3,.int .i64 (k:Nat)),(4,.int .i64 17)]) (λc h'=>HI (h0.aw hb.nt) [o] h' [(o,jk rs c z s seen line fr)]/\aG (h0.aw hb.nt) h' 6 z es/\c=if pk rs (q2+1)=43\/pk rs (q2+1)=45 then q2+2 else q2+1) (λJ3=>?_) ?_
   .refine cV 104 (λb:Bool=>[(0,.ptr o 0),(2,.bool false),(3,.int .i64 (k:Nat)),(4,.int .i64 17),(67,.bool b)])
     (λb h'=>HI (h0.aw hb.nt) [o] h' [(o,jk rs (q2+1:Nat) z s seen line fr)]/\aG (h0.aw hb.nt) h' 6 z es/\(b=true↔(pk rs (q2+1)=43\/pk rs (q2+1)=45))) (λJ4=>?_) ?_
    .refine aH H G O λh H G Y=>ae O call86 (bn H.at_.1 H.at_.2 hl (by omega) (n:=0) (by omega)) ?_;rintro v h2 ⟨kp,rfl⟩;replace H:=H.same kp;replace G:=G.kp kp;refine aH H G O λh H G Y=>aj O (λhe=>?_) (λhe=>?_)
     .refine aH H G O λh H G Y=>?_;exact J4 true O ⟨H,G,by have:pk rs (q2+1)=43:=of_decide_eq_true he;simp[this]⟩
     .refine aH H G O λh H G Y=>ae O call86 (bn H.at_.1 H.at_.2 hl (by omega) (n:=0) (by omega)) ?_;rintro v h2 ⟨kp,rfl⟩;replace H:=H.same kp;replace G:=G.kp kp;refine aH H G O λh H G Y=>?_;exact J4 _ O ⟨H,G,by have:¬ pk rs (q2+1)=43:=of_decide_eq_false he;simp[this]⟩
    clear H G;rintro b2 h ⟨H,G,jN⟩;refine af O (λfS=>?_) λfS=>?_
    .refine aH H G O λh H G Y=>?_;exact J3 (q2+2) O ⟨CN (a:=q2+1) (c:=1) H (by omega) (by omega),G,by rw[if_pos (jN.1 fS)]⟩
    .refine aH H G O λh H G Y=>?_;exact J3 (q2+1) O ⟨H,G,by rw[if_neg λq=>by rw[jN.2 q]at fS;cases fS]⟩
   clear H G;rintro c h ⟨H,G,hc⟩;have Ji:c<=q2+2/\q2+1<=c:=by rw[hc];split<;>omega
   have Xq:c<=rs.length:=by
    rw[hc];split
    .rename_i h;have:=pb (rs:=rs) (i:=q2+1) (by omega);omega
    .omega
   have hX:nE rs f q2=nX rs c:=by unfold nE;rw[if_pos Ts,<-hc]
   refine aH H G O λh H G Y=>ae O call131 (lB H.at_.1 H.at_.2 hl (by omega)) ?_;rintro v h2 ⟨kp,rfl,xG⟩;replace H:=H.aA kp xG;replace G:=G.kp kp;refine aH H G O λh H G Y=>have hle:=q9 rs Xq;af O (λfU=>?_) λfU=>?_
   .have Hq:ef (rs.drop c)=0:=by simp at fU;omega
    exact aH H G O λh H G Y=>ab [] H O (TQ.no H λhs=>⟨hs,OD (by rw[hX];unfold nX;rw[if_pos Hq])⟩)
   .have Hq:¬ ef (rs.drop c)=0:=by simp at fU;omega
    refine aH H G O λh H G Y=>?_;exact J (true,c+ef (rs.drop c)) O ⟨H,G,by rw[hX];unfold nX;rw[if_neg Hq],by simp only;omega,hle⟩
  .have Ts:¬ (pk rs q2=101\/pk rs q2=69):=λq=>by rw[Tp.2 q]at kH;cases kH
   refine aH H G O λh H G Y=>?_;exact J (f,q2) O ⟨H,G,by unfold nE;rw[if_neg Ts],Nat.le_refl _,pj⟩
 clear H G OD;rintro⟨g,e⟩ h ⟨H,G,hE,hqe,he⟩;simp only at H hqe he;have hP4:sF rs k=some (g,e):=by rw[Zw,hE]
 clear Zw;have hke:k <e:=by omega
 refine cV 104 (λs':Bool=>[(0,.ptr o 0),(3,.int .i64 (k:Nat)),(4,.int .i64 ((if g=true then 17 else 16:Nat):Int))]) (λs' h'=>HI (h0.aw hb.nt) [o] h' [(o,jk rs e z s' seen line fr)]/\aG (h0.aw hb.nt) h' 6 z es/\(s'=true->s=true)) (λJ=>?_) ?_
 .refine aH H G O λh H G Y=>ae O call86 (bn H.at_.1 H.at_.2 hl (by omega) (n:=0) (by omega)) ?_;rintro v h2 ⟨kp,rfl⟩;replace H:=H.same kp;replace G:=G.kp kp;refine aH H G O λh H G Y=>aF O call87 (qm _) <| aH H G O λh H G Y=>aj O (λsd=>?_) (λsd=>?_)
  .refine bm [91] H G O λh H G Y=>?_;exact J false O ⟨H,G,λh=>by cases h⟩
  .refine aH H G O λh H G Y=>ae O call86 (bn H.at_.1 H.at_.2 hl (by omega) (n:=0) (by omega)) ?_;rintro v h2 ⟨kp,rfl⟩;replace H:=H.same kp;replace G:=G.kp kp;refine aH H G O λh H G Y=>af O (λBQ=>?_) λBQ=>?_
   .refine aH H G O λh H G Y=>?_;exact J false O ⟨H,G,λh=>by cases h⟩
   .exact aH H G O λh H G Y=>J s O ⟨H,G,id⟩
 clear H G;rintro s' h ⟨H,G,Dn⟩;refine aH H G O λh H G Y=>bp (ag.E6 (k:=k) (e':=e) O O O O O O O (by omega) he) O <| aH H G O λh H G Y=>bp (ag.wU O O O O O O) O <| aH H G O λh H G Y=>jJ O call84 (kc (hb:=hb) (kind:=if g=true then 17 else 16) (start:=k) (qo.mk' H G hR pa) hl yf (by omega)) ?_;rintro v h2 ⟨kp,rfl,_,_,z2,lT,vR,kX,vT,bI,G2,Hr,nk⟩;replace H:=H.GD kp bI;replace G:aG (h0.aw hb.nt) h2 6 z2 lT:=G2;refine aH H G O λh H G Y=>?_;have hPf:(sF rs k).map (λp=>([(⟨if p.1 then 18 else 17,dG ((rs.take p.2).drop k)⟩:Tok)],p.2))=some ([⟨(if g=true then 17 else 16)+1,dG ((rs.take e).drop k)⟩],e):=by rw[hP4];cases g<;>rfl
 refine ab [] H O (TQ.yes H.kp (qo.mk' H G Hr nk) hke he (by simp) (λt ht=>?_) λh=>⟨Dn h,hPf⟩);rw[List.mem_singleton]at ht;subst ht;refine⟨by simp only;split<;>omega,λhw=>absurd hw ?_⟩;simp only;rw[No hke he];exact Np (h0k.imp id λh=>by simp[gj]at h;exact h)
end
def hx (rs:List Int):Nat->Nat->Int->Option Int
 |0,_,acc=>some acc
 |m+1,q,acc=>if iD (pk rs q) <0 then none else hx rs m (q+1) (16*acc+iD (pk rs q))
def qp (r:Int):Option Int:=if r=34\/r=92\/r=47 then some r else if r=98 then some 8 else if r=102 then some 12 else if r=110 then some 10 else if r=114 then some 13 else if r=116 then some 9 else none
def qq (rs:List Int) (k:Nat):Option (Int×Nat):=match qp (pk rs k)with
 |some c=>some (c,k+1)
 |none=>if pk rs k=117 then(if pk rs (k+1)=123 then some (0,0)else(hx rs 4 (k+1) 0).map λn=>if 55296<=n/\n <57344 then(0,0)else(n,k+5))else none
theorem tX {r:Int} (h:¬ iD r <0):0<=iD r/\iD r<=15/\r≠0:=by
 unfold iD at*;split at h
 .rename_i hd;simp[gj]at hd;rw[if_pos (by simp[gj];omega)];omega
 .rename_i hd;rw[if_neg hd];split at h
  .rename_i h2;rw[if_pos h2];omega
  .rename_i h2;rw[if_neg h2];split at h
   .rename_i h3;rw[if_pos h3];omega
   .omega
section
variable {h h0 hb:AH} {o k:Nat} {rs:List Int} {z:AV} {s:Bool} {seen:Nat} {line fr:Int} {ts:List Tok}
def EQ (o:Nat) (rs:List Int) (k:Nat) (s:Bool) (z:AV) (seen:Nat) (line fr:Int) (h0:AH) (v:AV) (h':AH):Prop:=Kp [o] h0 h'/\∃c ok s' a,v= .cN [.int .i32 c,.bool ok]/\h'.get o=some (.cells (jk rs a z s' seen line fr))/\(ok=true->∃k':Nat,a=k'/\k <k'/\k'<=rs.length/\0<=c/\c<=1114111/\(s'=true->s=true/\qq rs k=some (c,k')))/\(ok=false->s'=true->s=true/\qq rs k=none)
theorem CP (hg:h0.get o=some (.cells (jk rs k z s seen line fr))) (ho:o <h0.n) (hl:rs.length<=1048576) (hk:k<=rs.length) (FF:∀i,0<=pk rs i/\pk rs i<=1114111):
 al prog 134 [.ptr o 0] h0 (EQ o rs k s z seen line fr h0):=by
 refine az (n:=70) (rs:=[.tmp 2,.tmp 3]) [] ⟨func134,O,O,O⟩ O <| have H:HI h0 [o] h0 [(o,jk rs k z s seen line fr)]:=HI.one hg ho;ah H O λh H Y=>?_;refine ae O call86 (bn H.at_.1 H.at_.2 hl (by omega) (n:=0) (by omega)) ?_;rintro v h2 ⟨kp,rfl⟩;replace H:=H.same kp;have yes:∀{h:AH} {c c':Int},HI h0 [o] h [(o,jk rs (IntKind.i64.wrap ((k:Int)+1)) z s seen line fr)]->qp (pk rs k)=some c'->c=c'->pk rs k≠0->(0<=c/\c<=1114111)->EQ o rs k s z seen line fr h0 (.cN [.int .i32 c,.bool true]) h:=λH e ec cv hc=>by subst ec;have H':=CN (c:=1) H (by omega) (by omega);exact⟨H'.kp,_,true,s,_,O,H'.at_.1,λ_=>⟨k+1,O,by omega,pb cv,hc.1,hc.2,λhs=>⟨hs,by unfold qq;rw[e]⟩⟩,λh=>by cases h⟩
 refine ah H O λh H Y=>have ne:∀{n:Nat} {m:Int},decide (pk rs (k+0)=m)=false->pk rs k≠m:=λh=>of_decide_eq_false h;af O (λc1=>?_) (λc1=>?_)
 .have e:pk rs k=34:=of_decide_eq_true c1
  exact ah H O λh H Y=>ug O c1 <| ah H O λh H Y=>ab [] H O (yes H (c':=pk rs k) (by unfold qp;rw[if_pos (.inl e)]) O (by omega) (FF _))
 refine ah H O λh H Y=>af O (λc2=>?_) (λc2=>?_)
 .have e:pk rs k=92:=of_decide_eq_true c2
  exact ah H O λh H Y=>ug O c2 <| ah H O λh H Y=>ab [] H O (yes H (c':=pk rs k) (by unfold qp;rw[if_pos (.inr (.inl e))]) O (by omega) (FF _))
 refine ah H O λh H Y=>af O (λc3=>?_) (λc3=>?_)
 .have e:pk rs k=47:=of_decide_eq_true c3
  exact ah H O λh H Y=>ab [] H O (yes H (c':=pk rs k) (by unfold qp;rw[if_pos (.inr (.inr e))]) O (by omega) (FF _))
 have n0:¬ (pk rs k=34\/pk rs k=92\/pk rs k=47):=λq=>by rcases q with q|q|q;exact of_decide_eq_false c1 q;exact of_decide_eq_false c2 q;exact of_decide_eq_false c3 q
 refine ah H O λh H Y=>af O (λd0=>?_) (λd0=>?_)
 .have e:pk rs k=98:=of_decide_eq_true d0
  exact ah H O λh H Y=>ab [] H O (yes H (c':=8) (by unfold qp;rw[if_neg n0,if_pos e]) O (by omega) (by omega))
 have m0:¬ pk rs k=98:=of_decide_eq_false d0;refine ah H O λh H Y=>af O (λd1=>?_) (λd1=>?_)
 .have e:pk rs k=102:=of_decide_eq_true d1
  exact ah H O λh H Y=>ab [] H O (yes H (c':=12) (by unfold qp;rw[if_neg n0,if_neg m0,if_pos e]) O (by omega) (by omega))
 have m1:¬ pk rs k=102:=of_decide_eq_false d1;refine ah H O λh H Y=>af O (λd2=>?_) (λd2=>?_)
 .have e:pk rs k=110:=of_decide_eq_true d2
  exact ah H O λh H Y=>ab [] H O (yes H (c':=10) (by unfold qp;rw[if_neg n0,if_neg m0,if_neg m1,if_pos e]) O (by omega) (by omega))
 have m2:¬ pk rs k=110:=of_decide_eq_false d2;refine ah H O λh H Y=>af O (λd3=>?_) (λd3=>?_)
 .have e:pk rs k=114:=of_decide_eq_true d3
  exact ah H O λh H Y=>ab [] H O (yes H (c':=13) (by unfold qp;rw[if_neg n0,if_neg m0,if_neg m1,if_neg m2,if_pos e]) O (by omega) (by omega))
 have m3:¬ pk rs k=114:=of_decide_eq_false d3;refine ah H O λh H Y=>af O (λd4=>?_) (λd4=>?_)
 .have e:pk rs k=116:=of_decide_eq_true d4
  exact ah H O λh H Y=>ab [] H O (yes H (c':=9) (by unfold qp;rw[if_neg n0,if_neg m0,if_neg m1,if_neg m2,if_neg m3,if_pos e]) O (by omega) (by omega))
 have m4:¬ pk rs k=116:=of_decide_eq_false d4;refine ah H O λh H Y=>?_;have hn:qp (pk rs k)=none:=by unfold qp;rw[if_neg n0,if_neg m0,if_neg m1,if_neg m2,if_neg m3,if_neg m4]
 have hE:qq rs k=if pk rs k=117 then(if pk rs (k+1)=123 then some (0,0)else(hx rs 4 (k+1) 0).map λn=>if 55296<=n/\n <57344 then(0,0)else(n,k+5))else none:=by unfold qq;rw[hn]
 have no:∀{h:AH} {a:Int} {c:Int} {s':Bool} {V:View},HI h0 [o] h ((o,jk rs a z s' seen line fr)::V)->(s'=true->s=true/\qq rs k=none)->EQ o rs k s z seen line fr h0 (.cN [.int .i32 c,.bool false]) h:=λH hs=>⟨H.kp,_,false,_,_,O,H.at_.1,(λh=>by cases h),λ_=>hs⟩
 refine af O (λc4=>?_) (λc4=>?_)
 .have e:pk rs k=117:=of_decide_eq_true c4
  have vw:k <rs.length:=pb (by omega)
  rw[if_pos e]at hE;refine ah H O λh H Y=>?_;have H2:=CN (c:=1) H (by omega) (by omega);clear H;have H:=H2;clear H2;refine ae O call86 (bn H.at_.1 H.at_.2 hl (by omega) (n:=0) (by omega)) ?_;rintro v h2 ⟨kp,rfl⟩;replace H:=H.same kp;refine ah H O λh H Y=>af O (λhbr=>?_) λhbr=>?_
  .exact ah H O λh H Y=>ab [] H O (no H λh=>by cases h)
  have Zx:¬ pk rs (k+1)=123:=of_decide_eq_false hbr;rw[if_neg Zx]at hE;refine ah H O λh H Y=>aC 70 (λq:Nat×Int=>4 -q.1) (λq=>[(0,.ptr o 0),(5,.int .i64 q.2),(40,.int .i64 (q.1:Nat))])
   (λq h'=>HI h0 [o] h' [(o,jk rs ((k+1+q.1:Nat):Int) z s seen line fr)]/\q.1<=4/\0<=q.2/\q.2 <16^q.1/\k+1+q.1<=rs.length/\hx rs 4 (k+1) 0=hx rs (4 -q.1) (k+1+q.1) q.2)
   (λn:Int=>[(0,.ptr o 0),(5,.int .i64 n)])
   (λn h'=>HI h0 [o] h' [(o,jk rs ((k+5:Nat):Int) z s seen line fr)]/\0<=n/\n <65536/\k+5<=rs.length/\hx rs 4 (k+1) 0=some n) (0,0) O ⟨H,by omega,by omega,by simp,by simp only;omega,O⟩ ?_ ?_
  .clear H;rintro⟨i,n⟩ h ⟨H,hi,zf,Ah,Pe,UE⟩ again done;simp only at H hi zf Ah Pe UE;refine ah H O λh H Y=>af O (λgp=>?_) λgp=>?_
   .have ax:i <4:=by have:=of_decide_eq_true gp;omega
    refine ah H O λh H Y=>ae O call86 (bn H.at_.1 H.at_.2 hl (by omega) (n:=0) (by omega)) ?_;rintro v h2 ⟨kp,rfl⟩;replace H:=H.same kp;refine ah H O λh H Y=>aF O call164 (Qb _ (FF _)) <| ah H O λh H Y=>?_;have h4:hx rs (4 -i) (k+1+i) n=if iD (pk rs (k+1+i)) <0 then none else hx rs (4 -(i+1)) (k+1+(i+1)) (16*n+iD (pk rs (k+1+i))):=by obtain⟨m,hm⟩:∃m,4 -i=m+1:=⟨3 -i,by omega⟩;rw[hm,show 4 -(i+1)=m by omega];rfl
    refine af O (λTt=>?_) λTt=>?_
    .have IT:iD (pk rs (k+1+i)) <0:=of_decide_eq_true Tt
     exact ah H O λh H Y=>ab [] H O (no H λh=>⟨h,by rw[hE,UE,h4,if_pos IT];rfl⟩)
    .have IT:¬ iD (pk rs (k+1+i)) <0:=of_decide_eq_false Tt
     obtain⟨r1,r2,r3⟩:=tX IT;have eG:=pb r3;have hp:(16:Int)^(i+1)=16*16^i:=by rw[Int.pow_succ];omega
     have AJ:(16:Int)^i<=4096:=by
      have:i=0\/i=1\/i=2\/i=3:=by omega
      rcases this with rfl|rfl|rfl|rfl<;>decide
     have nv:IntKind.i64.wrap (16*n)=16*n:=wrap_i64 (by omega) (by omega);have pF:IntKind.i64.wrap (IntKind.i64.wrap (16*n)+iD (pk rs (k+1+i)))=16*n+iD (pk rs (k+1+i)):=by rw[nv,wrap_i64 (by omega) (by omega)]
     refine ah H O λh H Y=>?_;refine again (i+1,16*n+iD (pk rs (k+1+i))) (by simp only;omega) (HQ.mk O ⟨O,vi pF,vi (wI (by omega)),trivial⟩) ⟨CN (a:=k+1+i) (c:=1) H (by omega) (by omega),by simp only;omega,by simp only;omega,by simp only;rw[hp];omega,by simp only;omega,?_⟩;simp only;rw[UE,h4,if_neg IT]
   .have ax:¬ i <4:=by have:=of_decide_eq_false gp;omega
    obtain rfl:i=4:=by omega
    refine ah H O λh H Y=>?_;exact done n O ⟨H,zf,by simpa using Ah,Pe,UE⟩
  .clear H;rintro n h ⟨H,zf,Ah,hkl,UE⟩;have hP:¬ (55296<=n/\n <57344)->qq rs k=some (n,k+5):=λhns=>by rw[hE,UE];show some (if _ then _ else _)=_;rw[if_neg hns]
   have hw:IntKind.i32.wrap n=n:=wrap_i32 (by omega) (by omega);have fin:∀{h:AH} {s':Bool},HI h0 [o] h [(o,jk rs ((k+5:Nat):Int) z s' seen line fr)]->(s'=true->s=true/\¬ (55296<=n/\n <57344))->EQ o rs k s z seen line fr h0 (.cN [.int .i32 (IntKind.i32.wrap n),.bool true]) h:=λH hs=>by rw[hw];exact⟨H.kp,_,true,_,_,O,H.at_.1,λ_=>⟨k+5,O,by omega,hkl,zf,by omega,λh=>⟨(hs h).1,hP (hs h).2⟩⟩,λh=>by cases h⟩
   refine ah H O λh H Y=>aj O (λsd=>?_) (λsd=>?_)
   .refine ah H O λh H Y=>af O (λBQ=>?_) λBQ=>?_
    .exact ah H O λh H Y=>ab [] H O (fin H λh=>by cases h)
    .have l2:¬ n <57344:=of_decide_eq_false BQ
     exact ah H O λh H Y=>ab [] H O (fin H λh=>⟨h,by omega⟩)
   .have l1:¬ 55296<=n:=of_decide_eq_false sd
    exact an [90] H O λh H Y=>ab [] H O (fin H λh=>⟨h,by omega⟩)
 .have e:¬ pk rs k=117:=of_decide_eq_false c4
  rw[if_neg e]at hE;exact ah H O λh H Y=>ab [] H O (no H λh=>⟨h,hE⟩)
end
def Kq (k:Nat) (p:List Int×Nat):List Tok×Nat:=if p.2=0 then([⟨0,[]⟩],k+1)else([⟨19,dG p.1⟩],p.2)
def jS (rs:List Int):Nat->Nat->List Int->Option (List Int×Nat)
 |0,_,_=>none
 |f+1,q,acc=>if rs.length<=q then none else if pk rs q=34 then some (acc,q+1)else if pk rs q=10\/pk rs q=13\/jf (pk rs q)=false then none
  else if pk rs q=92 then(qq rs (q+1)).bind λp=>if p.2=0 then some ([],0)else jS rs f p.2 (acc++[p.1])else jS rs f (q+1) (acc++[pk rs q])
theorem IU {rs:List Int} {k:Nat} {p:Int×Nat} (he:qq rs k=some p) (h0:¬ p.2=0):k <p.2:=by
 unfold qq at he;split at he
 .injection he with he
  rw[<-he];simp
 .split at he
  .split at he
   .injection he with he
    rw[<-he]at h0;exact absurd O h0
   .cases hh:hx rs 4 (k+1) 0 with
    |none=>rw[hh]at he;cases he
    |some n=>
     rw[hh]at he;injection he with he
     replace he:(if 55296<=n/\n <57344 then(0,0)else(n,k+5))=p:=he
     by_cases hs:55296<=n/\n <57344
     .rw[if_pos hs]at he;rw[<-he]at h0;exact absurd O h0
     .rw[if_neg hs]at he;rw[<-he];simp only;omega
  .cases he
theorem A8 {rs:List Int}:∀(f g q:Nat) (acc:List Int),rs.length <f+q->rs.length <g+q->jS rs f q acc=jS rs g q acc:=by
 intro f
 induction f with
 |zero=>
  intro g q acc hf hg
  cases g with|zero=>rfl|succ g=>show none=_;unfold jS;rw[if_pos (by omega)]
 |succ f ih=>
  intro g q acc hf hg
  cases g with
  |zero=>show _=none;unfold jS;rw[if_pos (by omega)]
  |succ g=>
   unfold jS;split;rfl;split;rfl;split;rfl;split
   .cases he:qq rs (q+1)with
    |none=>rfl
    |some p=>
     show(if p.2=0 then _ else _)=(if p.2=0 then _ else _)
     by_cases h0:p.2=0
     .rw[if_pos h0,if_pos h0]
     rw[if_neg h0,if_neg h0];have:q+1 <p.2:=IU he h0;exact ih g p.2 _ (by omega) (by omega)
   .exact ih g (q+1) _ (by omega) (by omega)
section
variable {P:Program} {lt:LT} {h h0 hb:AH} {fr:ay} {ops:List Oper} {o:Oper}
theorem ag.yC {s d e:TypeId} {x:Operand} {y:AV} {rs:List Int} (g:aG h0 h 1 y (rs.map dD)) (ho:o.op= .convert s d x) (hw:au ops fr o.guard=some true) (hs:P.underlying s=some (.slice e)) (hd:P.underlying d=some .string) (he:P.underlying e=some (.int .i32))
 (ex:fr.ev x= .v y):∀h,ag P lt ops o fr h (.v (.str (dG rs))) h:=by
 rcases g with⟨rfl,hn⟩|⟨aw,fk,hx,_⟩
 .obtain rfl:rs=[]:=by simpa using hn
  exact ag.Nj ho hw hs hd he ex
 .obtain⟨tk,rfl⟩:∃tk,y= .vec tk 1 (rs.map dD):=hx.elim (λh=>⟨_,h⟩) (λh=>⟨_,h⟩);exact ag.wU ho hw hs hd he ex
end
section
variable {h h0 h2 hb:AH} {o k:Nat} {rs:List Int} {z:AV} {s:Bool} {seen:Nat} {line fr:Int} {ts:List Tok}
theorem qo.view (K:Kp [o] (h0.aw hb.nt) h2) (L:qo hb h2 o rs k s ts):∃z es line fr,∃seen:Nat,HI (h0.aw hb.nt) [o] h2 [(o,jk rs k z s seen line fr)]/\aG (h0.aw hb.nt) h2 6 z es/\bx jE ts es/\seen<=rs.length:=by
 obtain⟨ho,hn,z,es,line,fr,seen,hg,G,hR,hs⟩:=L;refine⟨z,es,line,fr,seen,⟨HV.of (λe he=>?_) (by simp),K,λe he=>?_⟩,G,hR,hs⟩
 .rw[List.mem_singleton]at he;subst he;exact⟨hg,ho⟩
 .rw[List.mem_singleton]at he;subst he;exact .inl (by simp)
theorem CQ (L:qo hb h0 o rs k s ts) (hl:rs.length<=1048576) (yf:ts.length<=1048576) (hk:k <rs.length) (FF:∀i,0<=pk rs i/\pk rs i<=1114111):
 al prog 91 [.ptr o 0] h0 (TQ hb o rs k s ts h0 ((jS rs (rs.length+1) (k+1) []).map (Kq k))):=by
 obtain⟨ho,hn,z,es,line,fr,seen,hg,G0,hR,pa⟩:=L;have vF:=hR.len;refine az (n:=84) (rs:=[.tmp 2]) [] ⟨func91,O,O,O⟩ O ?_;have H:HI h0 [o] h0 [(o,jk rs k z s seen line fr)]:=HI.one hg ho;have no:∀{h:AH} {a:Int} {s':Bool},HI h0 [o] h [(o,jk rs a z s' seen line fr)]->(s'=true->s=true/\jS rs (rs.length+1) (k+1) []=none)->TQ hb o rs k s ts h0 ((jS rs (rs.length+1) (k+1) []).map (Kq k)) (.bool false) h:=λH hs=>⟨H.kp.nS hn,false,_,O,(λh=>by cases h),λ_=>⟨⟨_,_,_,_,_,H.at_.2,H.at_.1⟩,λh=>⟨(hs h).1,by rw[(hs h).2];rfl⟩⟩⟩
 refine ah H O λh H Y=>?_;have H2:=CN (c:=1) H (by omega) (by omega);clear H;have H:=H2;clear H2;refine aC 84 (λq:Nat×Bool×List Int×AV=>rs.length -q.1) (λq=>[(0,.ptr o 0),(2,.bool false),(3,.int .i64 (k:Nat)),(4,q.2.2.2)])
  (λq h'=>HI h0 [o] h' [(o,jk rs (q.1:Nat) z q.2.1 seen line fr)]/\aG h0 h' 1 q.2.2.2 (q.2.2.1.map dD)/\k <q.1/\q.1<=rs.length/\q.2.2.1.length<=q.1/\(q.2.1=true->s=true/\jS rs (rs.length+1) (k+1) []=jS rs (rs.length+1) q.1 q.2.2.1))
  (λ_:Bool=>[])
  (λs' h'=>∃q:Nat,HI h0 [o] h' [(o,jk rs (q:Nat) z s' seen line fr)]/\(s'=true->s=true/\jS rs (rs.length+1) (k+1) []=none)) (k+1,s,[],.ao) O ⟨H,.inl ⟨O,O⟩,by simp only;omega,by simp only;omega,by simp,λh=>⟨h,O⟩⟩ ?_ ?_
 .clear H;rintro⟨q,s4,acc,y⟩ h ⟨H,G,Ez,pj,Dm,hS⟩ again done;simp only at H G Ez pj Dm hS;have iw:∀{X:Option (List Int×Nat)},jS rs (rs.length+1) q acc=X->s4=true->s=true/\jS rs (rs.length+1) (k+1) []=X:=λe h=>⟨(hS h).1,(hS h).2.trans e⟩
  refine aH H G O λh H G Y=>af O (λej=>?_) λej=>?_
  .have ax:q <rs.length:=by have:=of_decide_eq_true ej;simp at this;omega
   have eg:jS rs (rs.length+1) q acc=if pk rs q=34 then some (acc,q+1)else if pk rs q=10\/pk rs q=13\/jf (pk rs q)=false then none
    else if pk rs q=92 then(qq rs (q+1)).bind λp=>if p.2=0 then some ([],0)else jS rs rs.length p.2 (acc++[p.1])else jS rs rs.length (q+1) (acc++[pk rs q]):=by
    show(if rs.length<=q then none else _)=_
    rw[if_neg (by omega)]
   refine aH H G O λh H G Y=>bp (ag.indexAddr O O O O O O (Int.natCast_nonneg _) (by rw[Int.toNat_natCast];exact lz ax)) O ?_;refine aH H G O λh H G Y=>?_;have H2:=CN (c:=1) H (by omega) (by omega);clear H;have H:=H2;clear H2;refine af O (λHs=>?_) λHs=>?_
   .have e:pk rs q=34:=of_decide_eq_true Hs
    rw[if_pos e]at eg;refine aH H G O λh H G Y=>ba (ag.yC G O O O O O O) O ?_;refine aH H G O λh H G Y=>have wC:=H.kp.nt;ae O call84 (kc (hb:=hb) (kind:=18) (start:=k) ⟨H.at_.2,by omega,z,es,line,fr,seen,H.at_.1,G0.kp H.kp,hR,pa⟩ hl yf (by omega)) ?_;rintro v h2 ⟨kp,rfl,L2⟩;obtain⟨z2,lT,vR,kX,vT,H2,G2,Hr,nk⟩:=qo.view ((H.kp.nS hn).aw kp) L2;clear H G;have H:=H2;have G:=G2;clear H2 G2;refine aH H G O λh H G Y=>ab [] H O (TQ.yes H.kp (qo.mk' H G Hr nk) (by omega) (by omega) (by simp) (λt ht=>?_) λh=>⟨(iw eg h).1,by rw[(iw eg h).2];rfl⟩);rw[List.mem_singleton]at ht;subst ht;exact⟨by simp,λ_=> .inr (.inl O)⟩
   .have e:¬ pk rs q=34:=of_decide_eq_false Hs
    rw[if_neg e]at eg;refine aH H G O λh H G Y=>aj O (λrl=>?_) (λrl=>?_)
    .have e1:pk rs q=10:=of_decide_eq_true rl
     rw[if_pos (.inl e1)]at eg;exact bm [92,91] H G O λh H G Y=>ab [] H O (no H (iw eg))
    have e1:¬ pk rs q=10:=of_decide_eq_false rl;refine aH H G O λh H G Y=>aj O (λta=>?_) (λta=>?_)
    .have e2:pk rs q=13:=of_decide_eq_true ta
     rw[if_pos (.inr (.inl e2))]at eg;exact bm [91] H G O λh H G Y=>ab [] H O (no H (iw eg))
    have e2:¬ pk rs q=13:=of_decide_eq_false ta;refine aH H G O λh H G Y=>aF O call83 (oH _) <| aH H G O λh H G Y=>af O (λCb=>?_) λCb=>?_
    .have e3:jf (pk rs q)=false:=by simpa using Cb
     rw[if_pos (.inr (.inr e3))]at eg;exact aH H G O λh H G Y=>ab [] H O (no H (iw eg))
    have e3:¬ jf (pk rs q)=false:=by simpa using Cb
    rw[if_neg λq=>by rcases q with q|q|q;exact e1 q;exact e2 q;exact e3 q]at eg;refine aH H G O λh H G Y=>af O (λRi=>?_) λRi=>?_
    .have e4:pk rs q=92:=of_decide_eq_true Ri
     rw[if_pos e4]at eg;refine aH H G O λh H G Y=>ae O call134 (CP H.at_.1 H.at_.2 hl (by omega) FF) ?_;rintro v h2 ⟨kp,c,ok,s5,a5,rfl,mw,Wp,kZ⟩;replace H:=H.aA kp mw;replace G:=G.kp kp;refine aH H G O λh H G Y=>?_
     cases ok with
     |false=>refine jI O <| aH H G O λh H G Y=>ab [] H O (no H λh=>?_);obtain⟨q1,q2⟩:=kZ O h;rw[q2]at eg;exact iw eg q1
     |true=>
      obtain⟨k',rfl,vw,jh,SE,Pk,hP⟩:=Wp O;refine cX O <| aH H G O λh H G Y=>eK H O O O O O O O G ?_ ?_
      .show((acc.map dD).length+1)*(4+1)<=140737488355328
       simp;omega
      clear H G;intro x9 h H G n_;refine aH H G O λh H G Y=>?_;refine again (k',s5,acc++[c],x9) (by simp only;omega) O ⟨H,by simpa[dD]using G,by simp only;omega,jh,by simp;omega,λh=>?_⟩;obtain⟨q1,q2⟩:=hP h;rw[q2]at eg;replace eg:jS rs (rs.length+1) q acc=if k'=0 then some ([],0)else jS rs rs.length k' (acc++[c]):=eg
      rw[if_neg (by omega)]at eg;have q3:=iw eg q1;exact⟨q3.1,q3.2.trans (A8 _ _ _ _ (by omega) (by omega))⟩
    .have e4:¬ pk rs q=92:=of_decide_eq_false Ri
     rw[if_neg e4]at eg;refine aH H G O λh H G Y=>eK H O O O O O O O G ?_ ?_
     .show((acc.map dD).length+1)*(4+1)<=140737488355328
      simp;omega
     clear H G;intro x9 h H G n_;refine aH H G O λh H G Y=>?_;exact again (q+1,s4,acc++[pk rs q],x9) (by simp only;omega) O ⟨H,by simpa[dD]using G,by simp only;omega,by simp only;omega,by simp;omega,λh=>⟨(iw eg h).1,(iw eg h).2.trans (A8 _ _ _ _ (by omega) (by omega))⟩⟩
  .have fH:rs.length<=q:=by have:=of_decide_eq_false ej;simp at this;omega
   exact aH H G O λh H G Y=>done s4 O ⟨q,H,iw (if_pos fH)⟩
 .clear H;rintro s' h ⟨q,H,hS⟩;exact ah H O λh H Y=>ab [] H O (no H hS)
end
def wv (r:Int):Bool:=r==65279||r==32||r==44||r==9||r==10||r==13
def fb (p:Int->Bool):List Int->Nat
 |[]=>0
 |r::l=>if p r then fb p l+1 else 0
def iE (r:Int):Bool:=decide (r≠10)&&decide (r≠13)&&jf r
def fA (r:Int):Bool:=jG r||gj r
def E6 (rs:List Int) (k e:Nat):ak:=dG ((rs.take e).drop k)
def mf (BK:List Int->Nat->Option (List Tok×Nat)) (rs:List Int) (k:Nat):Option (List Tok×Nat):=
 if wv (pk rs k)=true then some ([],k+1)
 else if pk rs k=35 then some ([⟨21,E6 rs k (k+fb iE (rs.drop k))⟩],k+fb iE (rs.drop k))
 else if 0 <me (pk rs k)then some ([⟨me (pk rs k)+1,[]⟩],k+1)
 else if pk rs k=46 then(if pk rs (k+1)=46/\pk rs (k+2)=46 then some ([⟨7,[]⟩],k+3)else none)
 else if jG (pk rs k)=true then some ([⟨16,E6 rs k (k+fb fA (rs.drop k))⟩],k+fb fA (rs.drop k))
 else if pk rs k=45\/gj (pk rs k)=true then(sF rs k).map λp=>([⟨if p.1 then 18 else 17,dG ((rs.take p.2).drop k)⟩],p.2)
 else if pk rs k=34/\pk rs (k+1)=34/\pk rs (k+2)=34 then BK rs k
 else if pk rs k=34 then(jS rs (rs.length+1) (k+1) []).map (Kq k)
 else none
theorem IV (p:Int->Bool):∀l:List Int,fb p l<=l.length
 |[]=>by simp[fb]
 |r::l=>by simp only[fb];split<;>simp;exact IV p l
theorem A9 (p:Int->Bool) (rs:List Int) {a:Nat} (h:a<=rs.length):a+fb p (rs.drop a)<=rs.length:=by
 have:=IV p (rs.drop a)
 simp at this;omega
theorem mg {p:Int->Bool} {rs:List Int} {q:Nat} (h:q <rs.length) (hp:p (pk rs q)=true):fb p (rs.drop q)=fb p (rs.drop (q+1))+1:=by rw[lA h];simp only[fb];rw[if_pos hp]
theorem CS {p:Int->Bool} {rs:List Int} {q:Nat} (hp:q <rs.length->p (pk rs q)=false):fb p (rs.drop q)=0:=by
 rcases Nat.lt_or_ge q rs.length with h|h
 .rw[lA h];simp only[fb];rw[if_neg (by rw[hp h];simp)]
 .rw[List.drop_of_length_le h];rfl
section
variable {h h0 h2 h3 hb:AH} {o k k2:Nat} {rs:List Int} {z:AV} {s s2:Bool} {seen:Nat} {line fr:Int} {ts:List Tok} {P:Option (List Tok×Nat)} {v:AV}
theorem qo.kp (L:qo hb h o rs k s ts) (kp:Kp [] h h2):qo hb h2 o rs k s ts:=by obtain⟨ho,hn,z,es,line,fr,seen,hg,G,hR,hs⟩:=L;exact⟨Nat.lt_of_lt_of_le ho kp.n,Nat.le_trans hn kp.nt,z,es,line,fr,seen,(kp.get o ho (by simp)).trans hg,G.kp kp,hR,hs⟩
theorem TQ.Tu (q:TQ hb o rs k s ts h0 P v h2) (kp:Kp [] h2 h3):TQ hb o rs k s ts h0 P v h3:=by
 obtain⟨K,r,s',hv,hy,kZ⟩:=q;refine⟨K.aw ⟨kp.n,λk hk hi=>kp.get k hk (by simp),Nat.le_trans K.nt kp.nt,λl hl=>kp.bV l (Nat.lt_of_lt_of_le hl K.nt),kp.aV⟩,r,s',hv,λh=>?_,λh=>?_⟩
 .obtain⟨k',new,L,q⟩:=hy h;exact⟨k',new,L.kp kp,q⟩
 .obtain⟨⟨a,z,seen,line,fr,h1,h2⟩,q⟩:=kZ h;exact⟨⟨a,z,seen,line,fr,Nat.lt_of_lt_of_le h1 kp.n,(kp.get o h1 (by simp)).trans h2⟩,q⟩
theorem TQ.from_ (K:Kp [o] h0 h) (hn:hb.nt<=h0.nt) (q:TQ hb o rs k s ts h P v h2):TQ hb o rs k s ts h0 P v h2:=⟨(K.nS hn).aw q.1,q.2⟩
theorem TQ.cells (q:TQ hb o rs k s ts h0 P v h2):o <h2.n/\∃cs,h2.get o=some (.cells cs):=by
 obtain⟨K,r,s',hv,hy,kZ⟩:=q
 cases r with|true=>obtain⟨k',new,⟨ho,_,z,es,line,fr,seen,hg,_⟩,_⟩:=hy rfl;exact⟨ho,_,hg⟩|false=>obtain⟨⟨a,z,seen,line,fr,h1,h2⟩,q⟩:=kZ rfl;exact⟨h1,_,h2⟩
theorem TQ.bool (q:TQ hb o rs k s ts h0 P v h2):∃r,v= .bool r:=by obtain⟨K,r,s',hv,_⟩:=q;exact⟨r,hv⟩
end
section
variable {h h0 hb:AH} {o k:Nat} {rs:List Int} {z:AV} {s:Bool} {seen:Nat} {line fr:Int} {ts:List Tok}
theorem E7 {BK:List Int->Nat->Option (List Tok×Nat)} (Tv:∀h,qo hb h o rs k s ts->pk rs k=34->pk rs (k+1)=34->pk rs (k+2)=34->al prog 90 [.ptr o 0] h (TQ hb o rs k s ts h (BK rs k)))
 (L:qo hb h0 o rs k s ts) (hl:rs.length<=1048576) (yf:ts.length<=1048576) (hk:k <rs.length) (FF:∀i,0<=pk rs i/\pk rs i<=1114111):
 al prog 48 [.ptr o 0] h0 (TQ hb o rs k s ts h0 (mf BK rs k)):=by
 have L0:=L
 obtain⟨ho,hn,z,es,line,fr,seen,hg,G0,hR,pa⟩:=L;have vF:=hR.len;refine az (n:=232) (rs:=[.tmp 2]) [] ⟨func48,O,O,O⟩ O ?_;have H:HI h0 [o] h0 [(o,jk rs k z s seen line fr)]:=HI.one hg ho;have Wq:∀{h:AH} {s':Bool},HI h0 [o] h [(o,jk rs (IntKind.i64.wrap ((k:Int)+1)) z s' seen line fr)]->wv (pk rs k)=true->(s'=true->s=true)->TQ hb o rs k s ts h0 (mf BK rs k) (.bool true) h:=λH hi hs=>by
  have H':=CN (c:=1) H (by omega) (by omega)
  exact TQ.yes (k':=k+1) (new:=[]) (H'.kp.nS hn) ⟨H'.at_.2,Nat.le_trans hn H'.kp.nt,z,es,line,fr,seen,H'.at_.1,G0.kp H'.kp,by simpa using hR,pa⟩ (by omega) (by omega) (by simp) (by simp) λh=>⟨hs h,by unfold mf;rw[if_pos hi]⟩
 refine ah H O λh H Y=>bp (ag.indexAddr O O O O O O (Int.natCast_nonneg _) (by rw[Int.toNat_natCast];exact lz hk)) O ?_;refine UH 11 H O λh H Y=>cV 232 (λb:Bool=>[(0,.ptr o 0),(3,.int .i32 (pk rs k)),(4,.int .i64 (k:Nat)),(19,.bool b)]) (λb h'=>HI h0 [o] h' [(o,jk rs k z s seen line fr)]/\b=wv (pk rs k)) (λJ=>?_) ?_
 .refine ah H O λh H Y=>?_
  repeat'(refine aj O (λdK=>?_) (λdK=>?_)<;>first|(cases dK;done)|refine ah H O λh H Y=>?_)
  all_goals refine J _ O ⟨H,?_⟩
  all_goals(clear H J Wq;rw[Bool.eq_iff_iff];simp at*;simp_all [wv])
 clear H;rintro b h ⟨H,hbi⟩;refine af O (λhI=>?_) λhI=>?_
 .have hi:wv (pk rs k)=true:=by rw[<-hbi];exact hI
  refine ah H O λh H Y=>aj O (λhbm=>?_) (λhbm=>?_)
  .refine ah H O λh H Y=>af O (λyD=>?_) λyD=>?_
   .exact ah H O λh H Y=>ab [] H O (Wq H hi λh=>by cases h)
   .exact ah H O λh H Y=>ab [] H O (Wq H hi id)
  .exact an [90] H O λh H Y=>ab [] H O (Wq H hi id)
 have n1:¬ wv (pk rs k)=true:=by rw[<-hbi,hI];simp
 clear Wq;refine ah H O λh H Y=>af O (λOE=>?_) λOE=>?_
 .have e2:pk rs k=35:=of_decide_eq_true OE
  have hC:=A9 iE rs (Nat.le_of_lt hk)
  have Tw:∀q,q <rs.length->iE (pk rs q)=false->k<=q->fb iE (rs.drop k)=(q -k)+fb iE (rs.drop q)->q=k+fb iE (rs.drop k):=λq h1 h2 h3 h4=>by
   have:=CS (p:=iE) (rs:=rs) (q:=q) λ_=>h2
   omega
  have yD:0 <fb iE (rs.drop k):=by rw[mg hk (by rw[e2];decide)];omega
  refine ah H O λh H Y=>aC 232 (λq:Nat=>rs.length -q) (λq=>[(0,.ptr o 0),(3,.int .i32 (pk rs k)),(4,.int .i64 (k:Nat))])
   (λq h'=>HI h0 [o] h' [(o,jk rs (q:Nat) z s seen line fr)]/\k<=q/\q<=rs.length/\fb iE (rs.drop k)=(q -k)+fb iE (rs.drop q))
   (λ_:Unit=>[(0,.ptr o 0),(3,.int .i32 (pk rs k)),(4,.int .i64 (k:Nat))])
   (λ_ h'=>HI h0 [o] h' [(o,jk rs ((k+fb iE (rs.drop k):Nat):Int) z s seen line fr)]) k O ⟨H,Nat.le_refl _,Nat.le_of_lt hk,by omega⟩ ?_ ?_
  .clear H;rintro q h ⟨H,Ez,pj,sS⟩ again done;have stop:∀{h:AH} {aB:ay},True:=λ{_ _}=>trivial
   have next:iE (pk rs q)=true->q <rs.length->fb iE (rs.drop k)=(q+1 -k)+fb iE (rs.drop (q+1)):=λhp ax=>by
    have:=mg ax hp
    omega
   refine ah H O λh H Y=>aR O (λej=>?_) (λej=>?_)
   .have ax:q <rs.length:=by
     have:decide ((q:Int) <((rs.map dD).length:Nat))=true:=ej
     simp at this;omega
    refine ah H O λh H Y=>bp (ag.indexAddr O O O O O O (Int.natCast_nonneg _) (by rw[Int.toNat_natCast];exact lz ax)) O ?_;refine ah H O λh H Y=>aR O (λaT=>?_) (λaT=>?_)
    .have d2:pk rs q≠10:=by simpa using aT
     refine ah H O λh H Y=>bp (ag.indexAddr O O O O O O (Int.natCast_nonneg _) (by rw[Int.toNat_natCast];exact lz ax)) O ?_;refine ah H O λh H Y=>aR O (λbZ=>?_) (λbZ=>?_)
     .have d3:pk rs q≠13:=by simpa using bZ
      refine ah H O λh H Y=>bp (ag.indexAddr O O O O O O (Int.natCast_nonneg _) (by rw[Int.toNat_natCast];exact lz ax)) O ?_;refine ah H O λh H Y=>bG O call83 (oH _) <| ah H O λh H Y=>af O (λgp=>?_) λgp=>?_
      .have d4:iE (pk rs q)=true:=by
        have:jf (pk rs q)=true:=by simpa using gp
        simp[iE,d2,d3,this]
       refine ah H O λh H Y=>?_;exact again (q+1) (by omega) O ⟨CN (c:=1) H (by omega) (by omega),by omega,by omega,next d4 ax⟩
      .have d4:iE (pk rs q)=false:=by
        have:jf (pk rs q)=false:=by simpa using gp
        simp[iE,this]
       refine ah H O λh H Y=>done () O ?_;rw[<-Tw q ax d4 Ez sS];exact H
     .have d3:iE (pk rs q)=false:=by
       have:pk rs q=13:=by simpa using bZ
       simp[iE,this]
      refine an [90] H O λh H Y=>done () O ?_;rw[<-Tw q ax d3 Ez sS];exact H
    .have d2:iE (pk rs q)=false:=by
      have:pk rs q=10:=by simpa using aT
      simp[iE,this]
     refine an [92,90] H O λh H Y=>done () O ?_;rw[<-Tw q ax d2 Ez sS];exact H
   .have fH:rs.length<=q:=by
     have:decide ((q:Int) <((rs.map dD).length:Nat))=false:=ej
     simp at this;omega
    refine an [92,92,90] H O λh H Y=>done () O ?_;have:fb iE (rs.drop q)=0:=by rw[List.drop_of_length_le fH];rfl
    rw[show k+fb iE (rs.drop k)=q by omega];exact H
  clear H;rintro⟨⟩ h H;refine ah H O λh H Y=>bp (ag.E6 (k:=k) (e':=k+fb iE (rs.drop k)) O O O O O O O (by omega) hC) O <| ah H O λh H Y=>bp (ag.wU O O O O O O) O <| ah H O λh H Y=>jJ O call84 (kc (hb:=hb) (kind:=20) (start:=k) ⟨H.at_.2,Nat.le_trans hn H.kp.nt,z,es,line,fr,seen,H.at_.1,G0.kp H.kp,hR,pa⟩ hl yf (by omega)) ?_;rintro v h2 ⟨kp,rfl,L2⟩;obtain⟨z2,lT,vR,kX,vT,H2,G,Hr,nk⟩:=qo.view ((H.kp.nS hn).aw kp) L2;clear H;have H:=H2;clear H2;refine aH H G O λh H G Y=>ab [] H O (TQ.yes H.kp (qo.mk' H G Hr nk) (by omega) hC (by simp) (λt ht=>?_) λh=>⟨h,by unfold mf;rw[if_neg n1,if_pos e2];rfl⟩);rw[List.mem_singleton]at ht;subst ht;exact⟨by simp<;>omega,λ_=> .inr (.inr (.inr O))⟩
 have n2:¬ pk rs k=35:=of_decide_eq_false OE;refine ah H O λh H Y=>aF O call85 (E3 _) <| ah H O λh H Y=>af O (λUb=>?_) λUb=>?_
 .have e3:0 <me (pk rs k):=by
   have:decide ((me (pk rs k):Int) >0)=true:=Ub
   simpa using this
  refine ah H O λh H Y=>?_;have H2:=CN (c:=1) H (by omega) (by omega);clear H;have H:=H2;clear H2;refine aF O call85 (E3 _) <| ah H O λh H Y=>ae O call84 (kc (hb:=hb) (kind:=me (pk rs k)) (start:=k) ⟨H.at_.2,Nat.le_trans hn H.kp.nt,z,es,line,fr,seen,H.at_.1,G0.kp H.kp,hR,pa⟩ hl yf (by omega)) ?_;rintro v h2 ⟨kp,rfl,L2⟩;obtain⟨z2,lT,vR,kX,vT,H2,G,Hr,nk⟩:=qo.view ((H.kp.nS hn).aw kp) L2;clear H;have H:=H2;clear H2;refine aH H G O λh H G Y=>ab [] H O (TQ.yes H.kp (qo.mk' H G Hr nk) (by omega) (by omega) (by simp) (λt ht=>?_) λh=>⟨h,by unfold mf;rw[if_neg n1,if_neg n2,if_pos e3]⟩);rw[List.mem_singleton]at ht;subst ht;exact⟨by simp<;>omega,λh=>absurd h (by simp[gb])⟩
 have n3:¬ 0 <me (pk rs k):=by
  have:decide ((me (pk rs k):Int) >0)=false:=Ub
  simpa using this
 refine ah H O λh H Y=>af O (λRj=>?_) λRj=>?_
 .have e4:pk rs k=46:=of_decide_eq_true Rj
  have no4:¬ (pk rs (k+1)=46/\pk rs (k+2)=46)->mf BK rs k=none:=λq=>by unfold mf;rw[if_neg n1,if_neg n2,if_neg n3,if_pos e4,if_neg q]
  refine cV 232 (λ_:Unit=>[(0,.ptr o 0),(4,.int .i64 (k:Nat))]) (λ_ h'=>HI h0 [o] h' [(o,jk rs k z s seen line fr)]/\pk rs (k+1)=46/\pk rs (k+2)=46) (λJ=>?_) ?_
  .refine ah H O λh H Y=>ae O call86 (bn H.at_.1 H.at_.2 hl (by omega) (n:=1) (by omega)) ?_;rintro v h2 ⟨kp,rfl⟩;replace H:=H.same kp;refine ah H O λh H Y=>aj O (λdJ=>?_) (λdJ=>?_)
   .have d1:¬ pk rs (k+1)=46:=by simpa using dJ
    exact an [91] H O λh H Y=>ab [] H O ⟨H.kp.nS hn,false,s,O,(λh=>by cases h),λ_=>⟨⟨_,_,_,_,_,H.at_.2,H.at_.1⟩,λh=>⟨h,no4 λq=>d1 q.1⟩⟩⟩
   .have d1:pk rs (k+1)=46:=by simpa using dJ
    refine ah H O λh H Y=>ae O call86 (bn H.at_.1 H.at_.2 hl (by omega) (n:=2) (by omega)) ?_;rintro v h2 ⟨kp,rfl⟩;replace H:=H.same kp;refine ah H O λh H Y=>af O (λiy=>?_) λiy=>?_
    .have d2:¬ pk rs (k+2)=46:=by simpa using iy
     exact ah H O λh H Y=>ab [] H O ⟨H.kp.nS hn,false,s,O,(λh=>by cases h),λ_=>⟨⟨_,_,_,_,_,H.at_.2,H.at_.1⟩,λh=>⟨h,no4 λq=>d2 q.2⟩⟩⟩
    .have d2:pk rs (k+2)=46:=by simpa using iy
     exact ah H O λh H Y=>J () O ⟨H,d1,d2⟩
  clear H;rintro⟨⟩ h ⟨H,d1,d2⟩;have jh:=pb (rs:=rs) (i:=k+2) (by omega);refine ah H O λh H Y=>?_;have H2:=CN (c:=3) H (by omega) (by omega);clear H;have H:=H2;clear H2;refine ae O call84 (kc (hb:=hb) (kind:=6) (start:=k) ⟨H.at_.2,Nat.le_trans hn H.kp.nt,z,es,line,fr,seen,H.at_.1,G0.kp H.kp,hR,pa⟩ hl yf (by omega)) ?_;rintro v h2 ⟨kp,rfl,L2⟩;obtain⟨z2,lT,vR,kX,vT,H2,G,Hr,nk⟩:=qo.view ((H.kp.nS hn).aw kp) L2;clear H;have H:=H2;clear H2;refine aH H G O λh H G Y=>ab [] H O (TQ.yes H.kp (qo.mk' H G Hr nk) (by omega) (by omega) (by simp) (λt ht=>?_) λh=>⟨h,by unfold mf;rw[if_neg n1,if_neg n2,if_neg n3,if_pos e4,if_pos ⟨d1,d2⟩]⟩);rw[List.mem_singleton]at ht;subst ht;exact⟨by simp<;>omega,λh=>absurd h (by simp[gb])⟩
 have n4:¬ pk rs k=46:=of_decide_eq_false Rj;refine ah H O λh H Y=>aF O call87 (qm _) <| ah H O λh H Y=>af O (λiw=>?_) λiw=>?_
 .have e5:jG (pk rs k)=true:=iw
  have hC:=A9 fA rs (Nat.le_of_lt hk)
  have yD:0 <fb fA (rs.drop k):=by rw[mg hk (by simp[fA,e5])];omega
  refine ah H O λh H Y=>aC 232 (λq:Nat=>rs.length -q) (λq=>[(0,.ptr o 0),(4,.int .i64 (k:Nat))])
   (λq h'=>HI h0 [o] h' [(o,jk rs (q:Nat) z s seen line fr)]/\k<=q/\q<=rs.length/\fb fA (rs.drop k)=(q -k)+fb fA (rs.drop q))
   (λ_:Unit=>[(0,.ptr o 0),(4,.int .i64 (k:Nat))])
   (λ_ h'=>HI h0 [o] h' [(o,jk rs ((k+fb fA (rs.drop k):Nat):Int) z s seen line fr)]) k O ⟨H,Nat.le_refl _,Nat.le_of_lt hk,by omega⟩ ?_ ?_
  .clear H;rintro q h ⟨H,Ez,pj,sS⟩ again done;have Zy:fA (pk rs q)=true->q <rs.length:=λhp=>by
    rcases Nat.lt_or_ge q rs.length with h|h
    .exact h
    .rw[tW h]at hp
     cases hp
   have next:fA (pk rs q)=true->fb fA (rs.drop k)=(q+1 -k)+fb fA (rs.drop (q+1)):=λhp=>by
    have:=mg (Zy hp) hp
    omega
   refine ah H O λh H Y=>ae O call86 (bn H.at_.1 H.at_.2 hl (by omega) (n:=0) (by omega)) ?_;rintro v h2 ⟨kp,rfl⟩;replace H:=H.same kp;refine ah H O λh H Y=>aF O call87 (qm _) <| ah H O λh H Y=>aj O (λej=>?_) (λej=>?_)
   .have d1:fA (pk rs q)=true:=by
     have:jG (pk rs q)=true:=ej
     simp[fA,this]
    have:=Zy d1
    refine an [91] H O λh H Y=>?_;exact again (q+1) (by omega) O ⟨CN (c:=1) H (by omega) (by omega),by omega,by omega,next d1⟩
   .have d1:jG (pk rs q)=false:=ej
    refine ah H O λh H Y=>ae O call86 (bn H.at_.1 H.at_.2 hl (by omega) (n:=0) (by omega)) ?_;rintro v h2 ⟨kp,rfl⟩;replace H:=H.same kp;refine ah H O λh H Y=>aF O call88 (kL _) <| ah H O λh H Y=>af O (λaT=>?_) λaT=>?_
    .have d2:fA (pk rs q)=true:=by
      have:gj (pk rs q)=true:=aT
      simp[fA,this]
     have:=Zy d2
     refine ah H O λh H Y=>?_;exact again (q+1) (by omega) O ⟨CN (c:=1) H (by omega) (by omega),by omega,by omega,next d2⟩
    .have d2:fA (pk rs q)=false:=by
      have:gj (pk rs q)=false:=aT
      simp[fA,d1,this]
     have:=CS (p:=fA) (rs:=rs) (q:=q) λ_=>d2
     refine ah H O λh H Y=>done () O ?_;rw[show k+fb fA (rs.drop k)=q by omega];exact H
  clear H;rintro⟨⟩ h H;refine ah H O λh H Y=>bp (ag.E6 (k:=k) (e':=k+fb fA (rs.drop k)) O O O O O O O (by omega) hC) O <| ah H O λh H Y=>bp (ag.wU O O O O O O) O <| ah H O λh H Y=>jJ O call84 (kc (hb:=hb) (kind:=15) (start:=k) ⟨H.at_.2,Nat.le_trans hn H.kp.nt,z,es,line,fr,seen,H.at_.1,G0.kp H.kp,hR,pa⟩ hl yf (by omega)) ?_;rintro v h2 ⟨kp,rfl,L2⟩;obtain⟨z2,lT,vR,kX,vT,H2,G,Hr,nk⟩:=qo.view ((H.kp.nS hn).aw kp) L2;clear H;have H:=H2;clear H2;refine aH H G O λh H G Y=>ab [] H O (TQ.yes H.kp (qo.mk' H G Hr nk) (by omega) hC (by simp) (λt ht=>?_) λh=>⟨h,by unfold mf;rw[if_neg n1,if_neg n2,if_neg n3,if_neg n4,if_pos e5];rfl⟩);rw[List.mem_singleton]at ht;subst ht;exact⟨by simp<;>omega,λ_=> .inl O⟩
 have n5:¬ jG (pk rs k)=true:=by rw[show jG (pk rs k)=false from iw];simp
 refine cV 232 (λb:Bool=>[(0,.ptr o 0),(3,.int .i32 (pk rs k)),(4,.int .i64 (k:Nat)),(203,.bool b)]) (λb h'=>HI h0 [o] h' [(o,jk rs k z s seen line fr)]/\(b=true↔(pk rs k=45\/gj (pk rs k)=true))) (λJ=>?_) ?_
 .refine ah H O λh H Y=>aj O (λej=>?_) (λej=>?_)
  .have d1:pk rs k=45:=of_decide_eq_true ej
   refine ah H O λh H Y=>?_;exact J true O ⟨H,by simp[d1]⟩
  .have d1:¬ pk rs k=45:=of_decide_eq_false ej
   refine ah H O λh H Y=>aF O call88 (kL _) <| ah H O λh H Y=>?_;exact J _ O ⟨H,by simp[d1]⟩
 clear H;rintro b h ⟨H,jR⟩;refine af O (λRk=>?_) λRk=>?_
 .have e6:=jR.1 Rk
  have eT:mf BK rs k=(sF rs k).map λp=>([⟨if p.1 then 18 else 17,dG ((rs.take p.2).drop k)⟩],p.2):=by unfold mf;rw[if_neg n1,if_neg n2,if_neg n3,if_neg n4,if_neg n5,if_pos e6]
  rw[eT];refine ah H O λh H Y=>ae O call89 (CO (hb:=hb) ⟨H.at_.2,Nat.le_trans hn H.kp.nt,z,es,line,fr,seen,H.at_.1,G0.kp H.kp,hR,pa⟩ hl yf hk e6) ?_;rintro v h2 q;have q':=TQ.from_ H.kp hn q;obtain⟨vZ,Pr,bI⟩:=q.cells;obtain⟨r2,rfl⟩:=q.bool;clear H;have H:HI h2 [o] h2 [(o,Pr)]:=HI.one bI vZ;exact ah H O λh H Y=>ab [] H O (q'.Tu (H.o0 bI))
 have n6:¬ (pk rs k=45\/gj (pk rs k)=true):=λq=>by rw[jR.2 q]at Rk;cases Rk
 refine cV 232 (λb:Bool=>[(0,.ptr o 0),(3,.int .i32 (pk rs k)),(4,.int .i64 (k:Nat)),(212,.bool b)]) (λb h'=>HI h0 [o] h' [(o,jk rs k z s seen line fr)]/\(b=true↔(pk rs k=34/\pk rs (k+1)=34/\pk rs (k+2)=34))) (λJ=>?_) ?_
 .refine ah H O λh H Y=>aj O (λej=>?_) (λej=>?_)
  .have d1:pk rs k=34:=of_decide_eq_true ej
   refine ah H O λh H Y=>ae O call86 (bn H.at_.1 H.at_.2 hl (by omega) (n:=1) (by omega)) ?_;rintro v h2 ⟨kp,rfl⟩;replace H:=H.same kp;refine ah H O λh H Y=>aj O (λaT=>?_) (λaT=>?_)
   .have d2:pk rs (k+1)=34:=by simpa using aT
    refine ah H O λh H Y=>ae O call86 (bn H.at_.1 H.at_.2 hl (by omega) (n:=2) (by omega)) ?_;rintro v h2 ⟨kp,rfl⟩;replace H:=H.same kp;refine ah H O λh H Y=>?_;exact J _ O ⟨H,by simp[d1,d2]⟩
   .have d2:¬ pk rs (k+1)=34:=by simpa using aT
    refine ah H O λh H Y=>?_;exact J false O ⟨H,by simp[d2]⟩
  .have d1:¬ pk rs k=34:=of_decide_eq_false ej
   refine an [92] H O λh H Y=>?_;exact J false O ⟨H,by simp[d1]⟩
 clear H;rintro b3 h ⟨H,Rh⟩;refine af O (λUD=>?_) λUD=>?_
 .have e7:=Rh.1 UD
  have eT:mf BK rs k=BK rs k:=by unfold mf;rw[if_neg n1,if_neg n2,if_neg n3,if_neg n4,if_neg n5,if_neg n6,if_pos e7]
  rw[eT];refine ah H O λh H Y=>ae O call90 (Tv _ ⟨H.at_.2,Nat.le_trans hn H.kp.nt,z,es,line,fr,seen,H.at_.1,G0.kp H.kp,hR,pa⟩ e7.1 e7.2.1 e7.2.2) ?_;rintro v h2 q;have q':=TQ.from_ H.kp hn q;obtain⟨vZ,Pr,bI⟩:=q.cells;obtain⟨r2,rfl⟩:=q.bool;clear H;have H:HI h2 [o] h2 [(o,Pr)]:=HI.one bI vZ;exact ah H O λh H Y=>ab [] H O (q'.Tu (H.o0 bI))
 have n7:¬ (pk rs k=34/\pk rs (k+1)=34/\pk rs (k+2)=34):=λq=>by rw[Rh.2 q]at UD;cases UD
 refine ah H O λh H Y=>af O (λZz=>?_) λZz=>?_
 .have e8:pk rs k=34:=of_decide_eq_true Zz
  have eT:mf BK rs k=(jS rs (rs.length+1) (k+1) []).map (Kq k):=by unfold mf;rw[if_neg n1,if_neg n2,if_neg n3,if_neg n4,if_neg n5,if_neg n6,if_neg n7,if_pos e8]
  rw[eT];refine ah H O λh H Y=>ae O call91 (CQ (hb:=hb) ⟨H.at_.2,Nat.le_trans hn H.kp.nt,z,es,line,fr,seen,H.at_.1,G0.kp H.kp,hR,pa⟩ hl yf hk FF) ?_;rintro v h2 q;have q':=TQ.from_ H.kp hn q;obtain⟨vZ,Pr,bI⟩:=q.cells;obtain⟨r2,rfl⟩:=q.bool;clear H;have H:HI h2 [o] h2 [(o,Pr)]:=HI.one bI vZ;exact ah H O λh H Y=>ab [] H O (q'.Tu (H.o0 bI))
 have n8:¬ pk rs k=34:=of_decide_eq_false Zz;refine ah H O λh H Y=>?_;exact ab [] H O ⟨H.kp.nS hn,false,s,O,(λh=>by cases h),λ_=>⟨⟨_,_,_,_,_,H.at_.2,H.at_.1⟩,λh=>⟨h,by unfold mf;rw[if_neg n1,if_neg n2,if_neg n3,if_neg n4,if_neg n5,if_neg n6,if_neg n7,if_neg n8]⟩⟩⟩
end
def tY (BK:List Int->Nat->Option (List Tok×Nat)) (rs:List Int):Nat->Nat->Option (List Tok)
 |0,_=>none
 |f+1,k=>if rs.length<=k then some []else(mf BK rs k).bind λp=>if p.1=[⟨0,[]⟩]then some p.1 else(tY BK rs f p.2).map λl=>p.1++l
def zW (BK:List Int->Nat->Option (List Tok×Nat)) (rs:List Int):Option (List Tok):=tY BK rs (rs.length+1) 0
theorem yE:∀(n:Nat) (s:ak) (i:Nat),0<=pk (gy n s) i/\pk (gy n s) i<=1114111
 |0,s,i=>by simp[gy,pk]
 |n+1,s,i=>by
  unfold gy;split
  .simp[pk]
  .cases i with
   |zero=>
    have:(mb s).1<=1114111:=by rw[mb,Lib.decodeL_N];exact Lib.decodeN_rune_le _ _ _ _ _ (UInt8.toNat_lt _)
    simp only[pk,List.getD_cons_zero];omega
   |succ i=>
    have:=yE n (s.drop (mb s).2) i
    simpa[pk]using this
section
variable {h h0 hb:AH} {o k:Nat} {s:ak}
theorem Kp.Wr {h0 h:AH} (k:Kp [h0.n] h0 h):Kp [] h0 h:=⟨k.n,λi hi _=>k.get i hi (by simp;omega),k.nt,k.bV,k.aV⟩
theorem Qd {BK:List Int->Nat->Option (List Tok×Nat)} (hs:s.length<=1048576)
 (hBK:∀k new k',BK (bw s) k=some (new,k')->k <k')
 (Tv:∀h hb o k sr ts,qo hb h o (bw s) k sr ts->k <(bw s).length->ts.length<=1048576->pk (bw s) k=34->pk (bw s) (k+1)=34->pk (bw s) (k+2)=34->al prog 90 [.ptr o 0] h (TQ hb o (bw s) k sr ts h (BK (bw s) k))):
 al prog 18 [.str s] h0 (Zq (λts=>zW BK (bw s)=some ts) (zW BK (bw s)=none) h0):=by
 have RV:(bw s).length<=1048576:=Nat.le_trans (mc _ _) hs
 have FF:∀i,0<=pk (bw s) i/\pk (bw s) i<=1114111:=yE _ _
 refine az (n:=35) (rs:=[.tmp 2,.tmp 3,.tmp 4]) [] ⟨func18,O,O,O⟩ O <| have H:HI h0 [h0.n] h0 []:=HI.nil;ah H O λh H Y=>?_;have e1:=Y.1;refine ba (ag.Qa O O O O O O (by omega)) O ?_;generalize bw s=rs at*;refine ah H O λh H Y=>?_;rw[e1]at H|-;refine aC 35 (λq:Nat×Bool×List Tok=>rs.length -q.1) (λq=>[(5,.ptr h0.n 0)])
  (λq h'=>∃z es line fr,∃seen:Nat,HI (h0.aw h0.nt) [h0.n] h' [(h0.n,jk rs (q.1:Nat) z q.2.1 seen line fr)]/\aG (h0.aw h0.nt) h' 6 z es/\bx jE q.2.2 es/\seen<=rs.length/\q.1<=rs.length/\q.2.2.length<=q.1/\(∀t∈q.2.2,2<=t.k/\(t.v∈gb->t.k=16\/t.k=19\/t.k=20\/t.k=21))/\(q.2.1=true->∃f,rs.length <f+q.1/\zW BK rs=(tY BK rs f q.1).map λl=>q.2.2++l))
  (λq:Bool×List Tok=>[(5,.ptr h0.n 0)])
  (λq h'=>∃z es line fr,∃seen k:Nat,HI (h0.aw h0.nt) [h0.n] h' [(h0.n,jk rs (k:Nat) z q.1 seen line fr)]/\aG (h0.aw h0.nt) h' 6 z es/\bx jE q.2 es/\q.2.length<=1048576/\(∀t∈q.2,2<=t.k/\(t.v∈gb->t.k=16\/t.k=19\/t.k=20\/t.k=21))/\(q.1=true->zW BK rs=some q.2))
  (0,true,[]) O ⟨.ao,[],1,0,0,H,.inl ⟨O,O⟩,trivial,by omega,by simp only;omega,by simp,by simp,λ_=>⟨rs.length+1,by simp only;omega,by unfold zW;cases tY BK rs (rs.length+1) 0<;>rfl⟩⟩ ?_ ?_
 .clear H;rintro⟨q,sr,ts⟩ h ⟨z,es,line,fr,seen,H,G,hR,pa,hq,J0,Tx,hS⟩ again done;simp only at H G hR hq J0 Tx hS;refine aH H G O λh H G Y=>af O (λej=>?_) λej=>?_
  .have ax:q <rs.length:=by
    have:decide ((q:Int) <((rs.map dD).length:Nat))=true:=ej
    simp at this;omega
   refine aH H G O λh H G Y=>have LQ:qo (h0.aw h0.nt) h h0.n rs q sr ts:=⟨H.at_.2,H.kp.nt,z,es,line,fr,seen,H.at_.1,G,hR,pa⟩;ae O call48 (E7 (hb:=h0.aw h0.nt) (λh L e1 e2 e3=>Tv h _ _ _ _ _ L ax (by omega) e1 e2 e3) LQ RV (by omega) ax FF) ?_;rintro v h2 ⟨kp,r,s5,rfl,hy,kZ⟩
   cases r with
   |true=>
    obtain⟨k',new,⟨_,_,z2,lT,vR,kX,vT,bI,G2,Hr,nk⟩,vw,jh,Lv,hnk,hP⟩:=hy O;replace H:=H.GD kp bI;replace G:aG (h0.aw h0.nt) h2 6 z2 lT:=G2;refine bm [90] H G O λh H G Y=>?_;refine again (k',s5,ts++new) (by simp only;omega) O ⟨z2,lT,vR,kX,vT,H,G,Hr,nk,jh,by simp;omega,λt ht=>?_,λh=>?_⟩
    .rcases List.mem_append.1 ht with ht|ht
     .exact Tx t ht
     .exact hnk t ht
    .obtain⟨q1,q2⟩:=hP h;obtain⟨f,hf,he⟩:=hS q1;obtain⟨f,rfl⟩:∃g,f=g+1:=⟨f -1,by omega⟩;refine⟨f,by simp only;omega,?_⟩;rw[he];simp only[tY];have QK:¬ new=[⟨0,[]⟩]:=λe=>by
      have:=(hnk ⟨0,[]⟩ (by rw[e];simp)).1
      simp at this
     rw[if_neg (by omega),q2];simp only[Option.bind_some];rw[if_neg QK];simp only[Option.map_map]
     congr 1
     funext l
     simp
   |false=>obtain⟨⟨a5,z5,aae,aaf,fr5,ho5,mw⟩,hP⟩:=kZ rfl;replace H:=H.GD kp mw;refine an [91] H O λh H Y=>?_;refine ab [] H O ⟨Kp.Wr H.kp,.ao,false,s5,[],[],O,.inl ⟨O,O⟩,by simp,trivial,by simp,by simp,λh=>⟨(λh=>by cases h),λ_=>?_⟩⟩;obtain⟨q1,q2⟩:=hP h;obtain⟨f,hf,he⟩:=hS q1;obtain⟨f,rfl⟩:∃g,f=g+1:=⟨f -1,by omega⟩;rw[he];simp only[tY];rw[if_neg (by omega),q2];rfl
  .have fH:rs.length<=q:=by
    have:decide ((q:Int) <((rs.map dD).length:Nat))=false:=ej
    simp at this;omega
   refine aH H G O λh H G Y=>?_;refine done (sr,ts) O ⟨z,es,line,fr,seen,q,H,G,hR,by simp only;omega,Tx,λh=>?_⟩;obtain⟨f,hf,he⟩:=hS h;obtain⟨f,rfl⟩:∃g,f=g+1:=⟨f -1,by omega⟩;rw[he];simp only[tY];rw[if_pos fH];simp
 .clear H;rintro⟨sr,ts⟩ h ⟨z,es,line,fr,seen,k,H,G,hR,J0,Tx,hS⟩;simp only at H G hR J0 Tx hS;have vF:=hR.len;refine aH H G O λh H G Y=>?_;refine ab [] H O ⟨Kp.Wr H.kp,z,true,sr,es,ts,O,?_,by omega,hR,λt ht=>(Tx t ht).1,λt ht=>(Tx t ht).2,λh=>⟨λ_=>hS h,λh=>by cases h⟩⟩;rcases G with⟨rfl,rfl⟩|⟨aw,fk,hx,_⟩
  .exact .inl ⟨O,O⟩
  .exact .inr (hx.elim (λh=>⟨_,h⟩) (λh=>⟨_,h⟩))
end
end
section
variable {P:Program} {lt:LT} {h:AH} {fr:ay} {ops:List Oper} {o:Oper} {g:Gh} {w:World}
theorem Ht {t:TypeId} {x:Operand} (ho:o.op= .range t x) (ρ:Operand->Value):(execOp ρ o)=(do pure (.value (<-Instr.range t (ρ x))))/\x∈o.op.operands.toList:=by obtain⟨dst,op,ty,pos,after,guard⟩:=o;simp only at ho;subst ho;exact⟨O,by simp[Op.operands]⟩
theorem ag.CT {t:TypeId} {x:Operand} {s:ak} (ho:o.op= .range t x) (hw:au ops fr o.guard=some true) (ht:P.underlying t=some .string) (ex:fr.ev x= .v (.str s)):ag P lt ops o fr h (.v (.ptr h.n 0)) (h.push (.iter s 0)):=by
 refine ag.raw hw λg w ρ R hx=>?_;obtain⟨r1,r2⟩:=Ht ho ρ;have v1:=hx x r2 _ ex;rw[r1];generalize ρ x=p at v1;generalize R9:AV.str s=sv at v1
 cases v1<;>cases R9;rename_i sb;have hr:=run_range_string (P:=P) w t sb ht;obtain⟨E,R'⟩:=jm R (.stringIter sb 0) (.iter sb.data.toList 0) λg' E=>by
  show(w.alloc _).heap[w.heap.size]? =_
  rw[heap_alloc,if_pos O]
 exact⟨.pointer (some ⟨w.heap.size,0,none⟩),_,_,by simp only[Sem.run_bind,hr,Result.andThen_ok,Sem.run_pure];rfl,E,R',.ptr _ _ _ (by simp[Gh.oT])⟩
theorem Nr {w':World} {ob b pos pos':Nat} {s:ak} (R:Rel g w h) (hb:g.ob ob=some b) (hg:h.get ob=some (.iter s pos)) (hw:w.heap[b]? =some (.stringIter ⟨s.toArray⟩ pos)) (p:nA w w' b (.stringIter ⟨s.toArray⟩ pos')):Ev g w g w'/\Rel g w' (h.set ob (.iter s pos')):=by
 obtain⟨h1,h2,h3⟩:=R.uC ob b hb;have h2:=h2 (by rw[hg];simp) (by rw[hg];simp);have E:Evc g w g w':=p.UL h2 λc T' fz e=>by rw[hw]at e;cases e
 refine⟨⟨E,λk _ hk _ _=>⟨p.other k λe=>hk ob (e▸hb),O⟩⟩,nA.rel R p h2 (R.HP hb) E _ O O O O (λo' y e=>by simp only[AH.set];split<;>exact⟨_,by first|rfl|exact e⟩) (λo' e=>AH.kC (by rw[hg];simp) e) λo' y e=>?_⟩;simp only[AH.set]at e;split at e
 .rename_i h4;subst h4;injection e with e
  subst e;exact .inl ⟨hb,p.at_⟩
 .rename_i h4
  by_cases e':g.ob o'=some b
  .rcases R.Bm _ _ _ e' hb with q|q|q
   .exact absurd q h4
   .obtain⟨b2,aT,c,T,fz,hc⟩:=R.obj _ _ q;rw[e']at aT;injection aT with aT
    subst aT;rw[hw]at hc
    cases hc
   .rw[hg]at q
    cases q
  .exact .inr ⟨e,e'⟩
theorem Ba {x:Operand} (ho:o.op= .next x true) (ρ:Operand->Value):(execOp ρ o)=(do pure (.value (<-Instr.next (ρ x) true o.type)))/\x∈o.op.operands.toList:=by obtain⟨dst,op,ty,pos,after,guard⟩:=o;simp only at ho;subst ho;exact⟨O,by simp[Op.operands]⟩
theorem ag.IW {x:Operand} {ob pos:Nat} {s:ak} (ho:o.op= .next x true) (hw:au ops fr o.guard=some true) (ex:fr.ev x= .v (.ptr ob 0)) (hg:h.get ob=some (.iter s pos)) (hp:pos <s.length):
 ag P lt ops o fr h (.v (.cN [.bool true,.int .i64 (pos:Nat),.int .i32 ((mb (s.drop pos)).1:Nat)])) (h.set ob (.iter s (pos+(mb (s.drop pos)).2))):=by
 refine ag.raw hw λg w ρ R hx=>?_;obtain⟨r1,r2⟩:=Ba ho ρ;have v1:=hx x r2 _ ex;rw[r1];generalize ρ x=p at v1
 cases v1 with
 |ptr _ _ b hb=>
  obtain⟨b',dk,OF⟩:=R.obj _ _ hg;rw[hb]at dk;injection dk with dk
  subst dk;replace OF:w.heap[b]? =some (.stringIter ⟨s.toArray⟩ pos):=OF;have hd:Utf8.decode ⟨s.toArray⟩ pos=mb (s.drop pos):=by
   have:=Lib.decodeL_drop ⟨s.toArray⟩ pos
   simpa using this.symm
  have gJ:pos <(⟨s.toArray⟩:ByteArray).size:=by show pos <s.toArray.size;simpa using hp
  have ax:=jl OF;have p1:=pO (o':= .stringIter ⟨s.toArray⟩ (pos+(mb (s.drop pos)).2)) OF;obtain⟨E,R'⟩:=Nr R hb hg OF p1;refine⟨.tuple #[.bool true,.int .i64 pos,.int .i32 (mb (s.drop pos)).1],_,_,?_,E,R',?_⟩
  .simp only[Instr.next,getObj,setObj,Sem.run_bind,Sem.run,OF,Result.andThen,gJ,if_true,hd];simp[goInt]
  .exact .cN _ _ O λi hi=>by
    match i,hi with
    |0,_=>exact .bool _
    |1,_=>exact .int _ _
    |2,_=>exact .int _ _
theorem ag.Qe {x:Operand} {ob pos:Nat} {s:ak} (ho:o.op= .next x true) (hw:au ops fr o.guard=some true) (ex:fr.ev x= .v (.ptr ob 0)) (hg:h.get ob=some (.iter s pos)) (hp:s.length<=pos):
 ag P lt ops o fr h (.v (.cN [.bool false])) h:=by
 refine ag.raw hw λg w ρ R hx=>?_;obtain⟨r1,r2⟩:=Ba ho ρ;have v1:=hx x r2 _ ex;rw[r1];generalize ρ x=p at v1
 cases v1 with
 |ptr _ _ b hb=>
  obtain⟨b',dk,OF⟩:=R.obj _ _ hg;rw[hb]at dk;injection dk with dk
  subst dk;replace OF:w.heap[b]? =some (.stringIter ⟨s.toArray⟩ pos):=OF;have gJ:¬ pos <(⟨s.toArray⟩:ByteArray).size:=by show ¬ pos <s.toArray.size;simpa using hp
  refine⟨.tuple #[.bool false],g,w,?_,.refl g w,R,?_⟩
  .simp[Instr.next,getObj,Sem.run,OF,gJ]
  .exact .cN _ _ O λi hi=>by
    match i,hi with
    |0,_=>exact .bool _
end
theorem yF {u:ak}:1<=(mb u).2:=by rw[mb,Lib.decodeL_N];exact Lib.decodeN_ge1 _ _ _ _ _
theorem E8:∀(n m:Nat) (u:ak),u.length<=n->u.length<=m->gy n u=gy m u:=by
 intro n
 induction n with
 |zero=>
  intro m u h1 h2;obtain rfl:u=[]:=by simpa using h1
  cases m<;>simp[gy]
 |succ n ih=>
  intro m u h1 h2
  cases m with
  |zero=>
   obtain rfl:u=[]:=by simpa using h2
   simp[gy]
  |succ m=>
   unfold gy;split
   .rfl
   .rename_i cv;have hl:0 <u.length:=List.length_pos_iff.2 cv;have:=yF (u:=u);rw[ih m (u.drop (mb u).2) (by simp;omega) (by simp;omega)]
theorem oJ {u:ak} (h:u≠[]):bw u=((mb u).1:Int)::bw (u.drop (mb u).2):=by
 have hl:0 <u.length:=List.length_pos_iff.2 h
 have:=yF (u:=u)
 unfold bw;obtain⟨n,hn⟩:∃n,u.length=n+1:=⟨u.length -1,by omega⟩;rw[hn];show(if u=[]then[]else _)=_;rw[if_neg h,E8 n (u.drop (mb u).2).length _ (by simp;omega) (by omega)]
section
attribute [local irreducible] AC AL AW AD aP
def At (h:AH) (o:Nat) (x:mV):Prop:=h.get o=some x/\o <h.n
theorem At.kp {h h':AH} {o:Nat} {x:mV} (j:At h o x) (k:Kp [] h h'):At h' o x:=⟨(k.get o j.2 (by simp)).trans j.1,Nat.lt_of_lt_of_le j.2 k.n⟩
class Nz (h h':AH) (T:Prop) (T':outParam Prop):Prop where
 nz:T->Kp [] h h'->T'
instance {h h':AH} {o:Nat} {x:mV}:Nz h h' (At h o x) (At h' o x):=⟨λg=>g.kp⟩
section
variable {lt:LT} {C:Exit->ay->AH->Prop} {h h0:AH} {ids:List Nat} {V V':View} {fr aB:ay} {cur dE:Dj} {ks ji:List Kt} {n':Nat} {tr:List (Nat×Nat)} {dr:List (List Oper×List Nat)} {ob:List (Int×Nat)}
theorem di {T:Prop} {T':AH->Prop} [∀h',Nz h h' T (T' h')] (H:HI h0 ids h []) (G:T) (hx:ZR lt [] 3000 cur ks fr [] h.n [] dE ji aB V' n' tr [] dr) (K:∀h',HI h0 ids h' V'->T' h'->ZN h h' n'->XS prog lt C dE ji aB h') (ht:ZT tr:=by rfl) (hd:ZD dr:=by first|rfl|decide+kernel):XS prog lt C cur ks fr h:=mB 3000 [] [] H hx (λ_ h=>nomatch h) (λh' H N q=>K h' H (Nz.nz G q) N) ht hd
theorem nr {T:Prop} {T':AH->Prop} [∀h',Nz h h' T (T' h')] (hs:List Nat) (H:HI h0 ids h []) (G:T) (hx:ZR lt [] 3000 cur ks fr [] h.n hs dE ji aB V' n' tr [] dr) (K:∀h',HI h0 ids h' V'->T' h'->ZN h h' n'->XS prog lt C dE ji aB h') (ht:ZT tr:=by rfl) (hd:ZD dr:=by first|rfl|decide+kernel):XS prog lt C cur ks fr h:=mB 3000 [] hs H hx (λ_ h=>nomatch h) (λh' H N q=>K h' H (Nz.nz G q) N) ht hd
theorem Og {T:Prop} {T':AH->Prop} [∀h',Nz h h' T (T' h')] (im hs:List Nat) (H:HI h0 ids h []) (G:T) (hx:ZR lt im 3000 cur ks fr [] h.n hs dE ji aB V' n' tr ob dr) (dK:ZB ob) (K:∀h',HI h0 ids h' V'->T' h'->ZN h h' n'->XS prog lt C dE ji aB h') (ht:ZT tr:=by rfl) (hd:ZD dr:=by first|rfl|decide+kernel):XS prog lt C cur ks fr h:=mB 3000 im hs H hx dK (λh' H N q=>K h' H (Nz.nz G q) N) ht hd
theorem TX {T:Prop} {T':AH->Prop} [∀h',Nz h h' T (T' h')] (f:Nat) (im hs:List Nat) (H:HI h0 ids h []) (G:T) (hx:ZR lt im f cur ks fr [] h.n hs dE ji aB V' n' tr [] dr) (K:∀h',HI h0 ids h' V'->T' h'->ZN h h' n'->XS prog lt C dE ji aB h') (ht:ZT tr:=by rfl) (hd:ZD dr:=by first|rfl|decide+kernel):XS prog lt C cur ks fr h:=mB f im hs H hx (λ_ h=>nomatch h) (λh' H N q=>K h' H (Nz.nz G q) N) ht hd
end
theorem At.set {h:AH} {o:Nat} {x y:mV} (j:At h o x):At (h.set o y) o y:=⟨by simp[AH.set],j.2⟩
theorem At.push {h:AH} {x:mV}:At (h.push x) h.n x:=⟨by simp[AH.push],by simp[AH.push]⟩
def oK (s:ak):Bool:=decide (s.length<=1048576)&&(bw s).all λr=>r !=65533&&decide (r<=65535)
section
variable {P:Program} {lt:LT} {C:Exit->ay->AH->Prop} {h h0:AH} {ids:List Nat} {V:View} {fr:ay} {ks:List Kt} {o:Oper} {ops l:List Oper} {D:List Nat} {x:Operand} {s:ak} {d:Tmp}
theorem FA {t:TypeId} (H:HI h0 ids h V) (ho:o.op= .range t x) (hw:au ops fr o.guard=some true) (ht:P.underlying t=some .string) (ex:fr.ev x= .v (.str s)) (hd:o.dst=some d)
 (K:∀it h',h0.n<=it->(∀e∈V,e.1≠it)->HI h0 ids h' V->At h' it (.iter s 0)->XS P lt C (.ops ops l D) ks (fr.bf d (.v (.ptr it 0))) h'):XS P lt C (.ops ops (o::l) D) ks fr h:=
 kV (ag.CT ho hw ht ex) hd (K _ _ H.kp.n (λe he=>by have:=(H.hv.get he).2;omega) H.xJ At.push)
theorem Jc {it q:Nat} (H:HI h0 ids h V) (ho:o.op= .next x true) (hw:au ops fr o.guard=some true) (ex:fr.ev x= .v (.ptr it 0)) (hd:o.dst=some d) (j:At h it (.iter s q)) (hi:h0.n<=it) (hV:∀e∈V,e.1≠it)
 (K1:q <s.length->∀(r:Int) h',r=(mb (s.drop q)).1->HI h0 ids h' V->At h' it (.iter s (q+(mb (s.drop q)).2))->XS P lt C (.ops ops l D) ks (fr.bf d (.v (.cN [.bool true,.int .i64 (q:Nat),.int .i32 r]))) h')
 (K2:s.length<=q->XS P lt C (.ops ops l D) ks (fr.bf d (.v (.cN [.bool false]))) h):XS P lt C (.ops ops (o::l) D) ks fr h:=by
 by_cases hq:q <s.length
 .exact kV (ag.IW ho hw ex j.1 hq) hd (K1 hq _ _ O (H.zF hV (.inl hi)) j.set)
 .exact kV (ag.Qe ho hw ex j.1 (by omega)) hd (K2 (by omega))
end
section
variable {h h0:AH}
theorem Kr (s:ak):∀h0:AH,aP prog 4 [.str s] h0 (.bool (oK s)) h0:=by
 intro h0;refine aP.pure (.bool _) ?_;refine az (n:=19) (rs:=[.tmp 2]) [] ⟨func4,O,O,O⟩ O <| have H:HI h0 [] h0 []:=HI.nil;ah H O λh H Y=>?_;refine af O (λhb=>?_) λhb=>?_
 .have hlen:¬ s.length<=1048576:=by have:=of_decide_eq_true hb;omega
  exact ah H O λh H Y=>ab [] H O (rD H (by simp[oK,hlen]))
 .have hlen:s.length<=1048576:=by have:=of_decide_eq_false hb;omega
  have e0:oK s=(bw s).all λr=>r !=65533&&decide (r<=65535):=by simp[oK,hlen]
  refine ah H O λh H Y=>FA H O O O O O ?_;clear H;intro it h ho _ H j;refine di H j O λh H j Y=>fg (λq:Nat=>s.length -q) 19 (λ_=>[(9,.ptr it 0)]) (λq h'=>HI h0 [] h' []/\At h' it (.iter s q)/\oK s=(bw (s.drop q)).all λr=>r !=65533&&decide (r<=65535)) 0 O ⟨H,j,e0⟩ ?_
  clear H j e0;rintro q h ⟨H,j,e⟩ again;refine di H j O λh H j Y=>Jc H O O O O j ho (by simp) (λhq=>?_) (λhq=>?_)
  .have cv:s.drop q≠[]:=by simp;omega
   have hd:=yF (u:=s.drop q)
   rw[oJ cv,List.drop_drop,List.all_cons]at e;clear H j;intro r h hr H j;rw[<-hr]at e;refine nr [91] H j O λh H j Y=>aj O (λaT=>?_) (λaT=>?_)
   .have bZ:r=65533:=of_decide_eq_true aT
    exact nr [91] H j O λh H j Y=>ab [] H O (rD H (by rw[e];simp[bZ]))
   .have bZ:¬ r=65533:=of_decide_eq_false aT
    refine di H j O λh H j Y=>af O (λgp=>?_) λgp=>?_
    .have kH:65535 <r:=of_decide_eq_true gp
     exact di H j O λh H j Y=>ab [] H O (rD H (by rw[e];simp;omega))
    .have kH:¬ 65535 <r:=of_decide_eq_false gp
     refine di H j O λh H j Y=>again _ ?_ O ⟨H,j,?_⟩
     .omega
     .rw[e];simp[bZ];omega
  .rw[List.drop_of_length_le hq]at e;exact nr [90] H j O λh H j Y=>ab [] H O (rD H e.symm)
end
def tZ (c:UInt8):Bool:=c==32||c==9
def lead (s:ak):Nat:=(s.takeWhile tZ).length
theorem E9:lead []=0:=rfl
theorem vd (c:UInt8) (s:ak):lead (c::s)=if tZ c then lead s+1 else 0:=by unfold lead;rw[List.takeWhile_cons];split<;>simp
theorem ua (s:ak):lead s<=s.length:=by induction s with|nil=>exact Nat.le_refl _|cons c s ih=>rw[vd];split<;>simp<;>omega
theorem Ns {c d:UInt8} {n:Int} (hd:(d.toNat:Int)=n):decide ((c.toNat:Int)=n)=(c==d):=by
 rw[Bool.eq_iff_iff];simp only[decide_eq_true_eq,beq_iff_eq];constructor
 .intro h;exact UInt8.toNat_inj.1 (by omega)
 .intro h;rw[h];exact hd
theorem CU {s:ak} {q:Nat} (h:q <s.length):s.getD ((q:Nat):Int).toNat 0=s[q]:=by rw[Int.toNat_natCast,List.getD_eq_getElem?_getD,List.getElem?_eq_getElem h];rfl
theorem kf {s:ak} {q:Nat} (hq:q <s.length) (d:UInt8) {b:Bool} (h:decide (((s.getD ((q:Nat):Int).toNat 0).toNat:Int)=(d.toNat:Int))=b):(s[q]==d)=b:=by rw[CU hq,Ns O]at h;exact h
section
variable {h h0:AH}
theorem kM (s:ak) (hs:s.length<=4611686018427387904):∀h0:AH,aP prog 163 [.str s] h0 (.int .i64 (lead s)) h0:=by
 intro h0;refine aP.pure (.int _ _) ?_;refine az (n:=23) (rs:=[.tmp 2]) [] ⟨func163,O,O,O⟩ O <| have H:HI h0 [] h0 []:=HI.nil;ah H O λh H Y=>?_;refine fg (λq:Nat=>s.length -q) 23 (λq=>[(0,.str s),(3,.int .i64 q)]) (λq h'=>HI h0 [] h' []/\lead s=q+lead (s.drop q)) 0 O ⟨H,by simp⟩ ?_
 clear H;rintro q h ⟨H,e⟩ again;refine ah H O λh H Y=>aj O (λhb=>?_) (λhb=>?_)
 .have hq:q <s.length:=by have:=of_decide_eq_true hb;omega
  have ic:s.drop q=s[q]::s.drop (q+1):=List.drop_eq_getElem_cons hq
  rw[ic,vd]at e;have e1:IntKind.i64.wrap ((q:Int)+1)=((q+1:Nat):Int):=wI (by omega);have go:∀{h:AH},HI h0 [] h []->tZ s[q]=true->HI h0 [] h []/\lead s=(q+1)+lead (s.drop (q+1)):=λH hw=>⟨H,by rw[e,if_pos hw];omega⟩
  refine KK H O (by simp;exact hq) λh H Y=>?_;refine aj O (λaT=>?_) (λaT=>?_)
  .replace aT:=kf hq 32 aT;have hw:tZ s[q]=true:=by simp[tZ,aT]
   exact an [91] H O λh H Y=>again (q+1) (by omega) (HQ.mk O ⟨O,vi e1,trivial⟩) (go H hw)
  .replace aT:=kf hq 32 aT;refine KK H O (by simp;exact hq) λh H Y=>?_;refine af O (λbZ=>?_) λbZ=>?_
   .replace bZ:=kf hq 9 bZ;have hw:tZ s[q]=true:=by simp[tZ,bZ]
    exact ah H O λh H Y=>again (q+1) (by omega) (HQ.mk O ⟨O,vi e1,trivial⟩) (go H hw)
   .replace bZ:=kf hq 9 bZ;rw[if_neg (by simp[tZ,aT,bZ])]at e;exact ah H O λh H Y=>ab [] H O (CL H (by rw[e];simp))
 .have hq:s.length<=q:=by have:=of_decide_eq_false hb;omega
  rw[List.drop_of_length_le hq,E9]at e;exact an [90] H O λh H Y=>ab [] H O (CL H (by rw[e];simp))
end
end
end Go.Am
