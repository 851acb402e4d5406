import Derived.Test.YtmbeaohkcogohaaGreatDoorS5
set_option maxRecDepth 100000
set_option maxHeartbeats 4000000
set_option linter.unusedVariables false
set_option linter.unusedSimpArgs false
namespace Go.Am
open Go.Proofs Go.Proofs.Tryz
section
variable {P:Program} {lt:LT} {h:AH} {fr:ay} {ops:List Oper} {o:Oper}
theorem ag.Qf {s x:Operand} {yv:AV} {t:TypeId} {gl:Nat} {ys:List AV} (ha:cD o.op=some (s,x,t)) (hw:au ops fr o.guard=some true) (hi:cC P t=some (1,gl))
 (es:fr.ev s= .v (.vec .full 1 [])) (ex:fr.ev x= .v yv) (hs:pU h yv=some ys) (cv:ys≠[]) (hb:ys.length*(gl+1)<=140737488355328):
 ag P lt ops o fr h (.v (.sl h.n 0 ys.length ys.length false)) (h.push (.row ys.length ys)):=by
 refine ag.raw hw λg w ρ R hx=>?_;obtain⟨r1,r2,r3⟩:=gM ha ρ;obtain⟨e,i,z,T,rfl⟩:=fC hi;have v1:=hx s r2 _ es;have v2:=hx x r3 _ ex;rw[r1];generalize ρ s=p at v1;generalize ρ x=q at v2
 cases v1 with
 |vec _ _ _ SF Jy SH hs0 SE hv0 ho0 WV zf VV Q5 hz0=>
 replace Q5:Jy=0:=Q5;subst Q5;have h0:0 <ys.length:=List.length_pos_iff.2 cv;rw[Nat.mul_succ]at hb;rcases nP R hs v2 with⟨rfl,rfl⟩|⟨ad,fB,us,rfl,u1,u2,u3⟩
 .exact absurd O cv
 .have hr:=run_append_grow (P:=P) w t o.type e i z T.ht T.hi T.hz SF 0 0 [] (by simp) (λj v hj=>by simp at hj) ad ys.length fB us (by rw[T.gJ];omega) u2 (by omega) (by omega) (growslice_fits (by simp only[Nat.zero_add];omega) (by simp only[Nat.zero_add];omega))
  rw[Nat.zero_add]at hr;have fH:=grownCap_ge w ys.length 0 e;have hle:=grownCap_le_maxLen w ys.length 0 e (by simp only[maxLen];omega);simp only[maxLen]at hle;obtain⟨E0,R0⟩:=qN R;have Ge:=T.Ge;generalize hC:([]:List Value).toArray++us.toArray++Builtin.zeroCells z.cells (grownCap w ys.length 0 e -ys.length)=C at hr;have mI:C.size=grownCap w ys.length 0 e:=by rw[<-hC];simp[Builtin.zeroCells,Ge];omega
  obtain⟨E,R'⟩:=jm R0 (.cells C e) (.row ys.length ys) λg' E=>⟨C,e,(0,0),by rw[heap_alloc];simp,.inl O,⟨Nat.le_refl _,by rw[mI];omega⟩,λi hi=>by
   have e1:C.getD i undef=us.getD i undef:=by rw[<-hC];simp[Array.getD_eq_getD_getElem?,List.getD_eq_getElem?_getD,Array.getElem?_append,show i <us.length by omega]
   rw[e1];exact⟨((u3 i hi).1.mono E0.toEvc).mono E,(u3 i hi).2⟩⟩
  refine⟨.slice (some ⟨w.heap.size,0,none⟩) ys.length (grownCap w ys.length 0 e),_,_,by simp only[List.length_nil,Sem.run_bind,hr,Result.andThen_ok,Sem.run_pure],E0.trans E,R',?_⟩;refine .sl _ _ _ _ _ w.heap.size _ (if_pos O) ⟨_,e,(0,0),by rw[heap_alloc];exact if_pos O,?_⟩ (Nat.le_refl _) fH (λe=>by cases e) (by omega);rw[mI];omega
end
def vf (h0 h:AH) (y:AV) (cs:List AV):Prop:=((y= .vec .full 1 []\/y= .ao)/\cs=[])\/∃r,y= .sl r 0 cs.length cs.length false/\At h r (.row cs.length cs)/\h0.n<=r
section
variable {P:Program} {lt:LT} {C:Exit->ay->AH->Prop} {h h0 h':AH} {ids:List Nat} {V:View} {fr:ay} {ks:List Kt} {o:Oper} {ops l:List Oper} {D:List Nat} {d:Tmp} {y:AV} {cs:List AV}
theorem vf.kp (R:vf h0 h y cs) (k:Kp [] h h'):vf h0 h' y cs:=by
 rcases R with q|⟨r,q1,q2,q3⟩
 .exact .inl q
 .exact .inr ⟨r,q1,q2.kp k,q3⟩
instance {h h':AH} {h0:AH} {y:AV} {cs:List AV}:Nz h h' (vf h0 h y cs) (vf h0 h' y cs):=⟨λg=>g.kp⟩
theorem HI.ZA {ob c:Nat} {x:mV} {rs:List AV} (H:HI h0 ids h V) (hg:h.get ob=some (.row c rs)) (hi:h0.n<=ob):HI h0 ids (h.rename h.n x λk=>Nat.beq k ob) V:=by
 have hn:=H.kp.n
 refine⟨HV.of (λe he=>?_) H.hv.nodup,⟨by simp only[AH.rename];omega,λk hk Pe=>?_,H.kp.nt,H.kp.bV,H.kp.aV⟩,H.new⟩
 .obtain⟨q1,q2⟩:=H.hv.get he;have cv:e.1≠ob:=λe'=>by rw[e',hg]at q1;cases q1
  simp only[AH.rename];rw[if_neg (by omega),if_neg (by rw[beq_false_of_ne cv];simp)];exact⟨q1,by omega⟩
 .have cv:k≠ob:=by omega
  simp only[AH.rename];rw[if_neg (by omega),if_neg (by rw[beq_false_of_ne cv];simp)];exact H.kp.get k hk Pe
theorem y5 {s x:Operand} {yv:AV} {t:TypeId} {gl:Nat} {ys:List AV} (H:HI h0 ids h V) (R:vf h0 h y cs) (ha:cD o.op=some (s,x,t)) (hw:au ops fr o.guard=some true) (hi:cC P t=some (1,gl))
 (es:fr.ev s= .v y) (ex:fr.ev x= .v yv) (hs:pU h yv=some ys) (cv:ys≠[]) (hd:o.dst=some d) (hb:(cs.length+ys.length)*(gl+1)<=140737488355328)
 (K:∀y' h',HI h0 ids h' V->vf h0 h' y' (cs++ys)->h'.n=h.n+1->y'= .sl h.n 0 (cs++ys).length (cs++ys).length false->XS P lt C (.ops ops l D) ks (fr.bf d (.v y')) h'):XS P lt C (.ops ops (o::l) D) ks fr h:=by
 rcases R with⟨q,rfl⟩|⟨r,rfl,⟨q1,q2⟩,q3⟩
 .have st:ag P lt ops o fr h (.v (.sl h.n 0 ys.length ys.length false)) (h.push (.row ys.length ys)):=by
   rcases q with rfl|rfl
   .exact ag.Qf ha hw hi es ex hs cv (by simpa using hb)
   .exact ag.Sa ha hw hi es ex hs cv (by simpa using hb)
  exact kV st hd (K _ _ H.xJ (.inr ⟨h.n,O,At.push,H.kp.n⟩) O O)
 .have st:=ag.Yh ha hw hi es ex hs q1 q2 (Nat.le_refl _) cv hb (lt:=lt)
  rw[List.take_length]at st;refine kV st hd (K _ _ (H.ZA q1 q3) (.inr ⟨h.n,by simp,⟨by simp[AH.rename],by simp[AH.rename]⟩,H.kp.n⟩) O (by simp))
end
section
attribute [local irreducible] AC AL AW AD aP
def lN:Bool->ak->ak->List ak
 |_,cur,[]=>[cur]
 |cr,cur,c::r=>if c=10 then(if cr then lN false cur r else cur::lN false [] r)else if c=13 then cur::lN true [] r else lN false (cur++[c]) r
theorem Ty {r:ak} (h:∀c t,r=c::t->c≠10):lN true [] r=lN false [] r:=by cases r with|nil=>rfl|cons c r=>unfold lN;rw[if_neg (h c r O),if_neg (h c r O)]
theorem yG {s:ak} {a i:Nat} (ha:a<=i) (hi:i <s.length):(s.take (i+1)).drop a=(s.take i).drop a++[s[i]]:=by rw[List.take_succ_eq_append_getElem hi,List.drop_append_of_le_length (by simp;omega)]
theorem drop_take_self {s:ak} {i:Nat}:(s.take i).drop i=[]:=by simp
section
variable {P:Program} {lt:LT} {C:Exit->ay->AH->Prop} {h h0 h1:AH} {ids:List Nat} {V V':View} {fr aB:ay} {ks ji:List Kt} {cur dE:Dj} {n':Nat}
theorem iF {q n:Nat} (h:q <n):∀p∈[((q:Int),n)],0<=p.1/\p.1 <p.2:=by simp;exact h
end
theorem wV {s:ak} {q:Nat} (hq:q <s.length) (d:UInt8) {b:Bool} (h:(!decide (((s.getD ((q:Nat):Int).toNat 0).toNat:Int)=(d.toNat:Int)))=b):(s[q]==d)= !b:=by
 have:=kf hq d O
 rw[<-h,<-this];simp
section
variable {h h0:AH}
def cW (l:List ak):List AV:=l.map .str
theorem Bb (s:ak) (hs:s.length<=1000000000):al prog 162 [.str s] h0 (λv h'=>Kp [] h0 h'/\∃r,v= .sl r 0 (cW (lN false [] s)).length (cW (lN false [] s)).length false/\At h' r (.row (cW (lN false [] s)).length (cW (lN false [] s)))/\h0.n<=r):=by
 refine az (n:=58) (rs:=[.tmp 2]) [] ⟨func162,O,O,O⟩ O <| have H:HI h0 [] h0 []:=HI.nil;ah H O λh H Y=>?_;refine fg (λq:Nat×Nat×List ak×AV=>s.length -q.1) 58 (λq=>[(0,.str s),(3,q.2.2.2),(4,.int .i64 q.2.1),(5,.int .i64 q.1)]) (λq h'=>HI h0 [] h' []/\vf h0 h' q.2.2.2 (cW q.2.2.1)/\q.2.1<=q.1/\q.1<=s.length/\q.2.2.1.length<=q.1/\lN false [] s=q.2.2.1++lN false ((s.take q.1).drop q.2.1) (s.drop q.1)) (0,0,[],.vec .full 1 []) O ⟨H,.inl ⟨.inl O,O⟩,by simp,by simp,by simp,by simp⟩ ?_
 clear H;rintro⟨q,a,gs,y⟩ h ⟨H,R,ha,hq,hgl,e⟩ again;simp only at H R ha hq hgl e;have UF:∀x:ak,((cW gs).length+([AV.str x]:List AV).length)*(16+1)<=140737488355328:=λx=>by simp[cW];omega
 refine di H R O λh H R Y=>af O (λhb=>?_) λhb=>?_
 .have ax:q <s.length:=by have:=of_decide_eq_true hb;omega
  have ic:s.drop q=s[q]::s.drop (q+1):=List.drop_eq_getElem_cons ax
  have e1:IntKind.i64.wrap ((q:Int)+1)=((q+1:Nat):Int):=wI (by omega)
  rw[ic]at e;have e2:IntKind.i64.wrap (IntKind.i64.wrap ((q:Int)+1)+1)=((q+2:Nat):Int):=by rw[e1,wrap_i64 (by omega) (by omega)];omega
  refine Og [] [] H R O (iF ax) λh H R Y=>?_;have cut:∀{c:UInt8},s[q]=c->lN false ((s.take q).drop a) (s[q]::s.drop (q+1))=if c=10 then(s.take q).drop a::lN false [] (s.drop (q+1))else if c=13 then(s.take q).drop a::lN true [] (s.drop (q+1))else lN false ((s.take q).drop a++[c]) (s.drop (q+1)):=by intro c hc;rw[hc];rfl
  have plain:∀{h:AH},s[q]≠10->s[q]≠13->HI h0 [] h []->vf h0 h y (cW gs)->
   HI h0 [] h []/\vf h0 h y (cW gs)/\a<=q+1/\q+1<=s.length/\gs.length<=q+1/\lN false [] s=gs++lN false ((s.take (q+1)).drop a) (s.drop (q+1)):=by
   intro h n1 n2 H R;refine⟨H,R,by omega,by omega,by omega,?_⟩;rw[e,cut O,if_neg n1,if_neg n2,yG ha ax]
  have over:∀{h:AH} {y':AV} (k:Nat),q+k <s.length->lN false ((s.take q).drop a) (s[q]::s.drop (q+1))=(s.take q).drop a::lN false [] (s.drop (q+k+1))->HI h0 [] h []->vf h0 h y' (cW gs++[.str ((s.take q).drop a)])->
   HI h0 [] h []/\vf h0 h y' (cW (gs++[(s.take q).drop a]))/\q+k+1<=q+k+1/\q+k+1<=s.length/\(gs++[(s.take q).drop a]).length<=q+k+1/\lN false [] s=(gs++[(s.take q).drop a])++lN false ((s.take (q+k+1)).drop (q+k+1)) (s.drop (q+k+1)):=by
   intro h y' k hk e2 H R;refine⟨H,by simpa[cW]using R,Nat.le_refl _,by omega,by simp;omega,?_⟩;rw[e,e2,drop_take_self];simp
  refine aj O (λaT=>?_) (λaT=>?_)
  .have uw:=wV ax 10 aT
   have Nt:s[q]≠10:=by simpa using uw
   refine Og [] [] H R O (iF ax) λh H R Y=>af O (λbZ=>?_) λbZ=>?_
   .have wx:=wV ax 13 bZ
    have n13:s[q]≠13:=by simpa using wx
    exact di H R O λh H R Y=>again (q+1,a,gs,y) (by simp only;omega) (HQ.mk O ⟨O,O,O,vi e1,trivial⟩) (plain Nt n13 H R)
   .have wx:=wV ax 13 bZ
    have n13:s[q]=13:=by simpa using wx
    refine di H R O λh H R Y=>ia (a:=a) (b:=q) O O O O O O ha hq O <| di H R O λh H R Y=>y5 H R O O O O O O (by simp) O (UF _) ?_;clear H R;intro y' h H R _ ey;refine Og [] [] H R O (iF ax) λh H R Y=>aj O (λgp=>?_) (λgp=>by have:=kf ax 13 gp;simp[n13]at this);clear gp;refine di H R O λh H R Y=>aj O (λkH=>?_) (λkH=>?_)
    .have eG:q+1 <s.length:=by
      have:decide (IntKind.i64.wrap ((q:Int)+1) <(s.length:Nat))=true:=kH
      rw[e1]at this;simp at this;omega
     have B2:s.drop (q+1)=s[q+1]::s.drop (q+1+1):=List.drop_eq_getElem_cons eG
     refine Og [] [] H R O (by rw[e1];exact iF eG) λh H R Y=>?_;refine af O (λfS=>?_) λfS=>?_
     .have Tz:(s[q+1]==10)=true:=kf eG 10 (by rw[<-e1];exact fS)
      have TA:s[q+1]=10:=by simpa using Tz
      refine di H R O λh H R Y=>again (q+2,q+2,gs++[(s.take q).drop a],y') (by simp only;omega) (HQ.mk O ⟨O,O,vi e2,vi e2,trivial⟩) (over 1 (by omega) ?_ H R);rw[cut n13,if_neg (by decide),if_pos O,B2];show _=_::lN false [] (s.drop (q+1+1))
      congr 1
      rw[TA];rfl
     .have Tz:(s[q+1]==10)=false:=kf eG 10 (by rw[<-e1];exact fS)
      have TA:s[q+1]≠10:=by simpa using Tz
      refine di H R O λh H R Y=>again (q+1,q+1,gs++[(s.take q).drop a],y') (by simp only;omega) (HQ.mk O ⟨O,O,vi e1,vi e1,trivial⟩) (over 0 (by omega) ?_ H R);rw[cut n13,if_neg (by decide),if_pos O,Ty];intro c t ht;rw[B2]at ht;injection ht with ht
      rw[<-ht];exact TA
    .have ZC:s.length<=q+1:=by
      have:decide (IntKind.i64.wrap ((q:Int)+1) <(s.length:Nat))=false:=kH
      rw[e1]at this;simp at this;omega
     refine nr [90] H R O λh H R Y=>again (q+1,q+1,gs++[(s.take q).drop a],y') (by simp only;omega) (HQ.mk O ⟨O,O,vi e1,vi e1,trivial⟩) (over 0 (by omega) ?_ H R);rw[cut n13,if_neg (by decide),if_pos O,List.drop_of_length_le ZC];rfl
  .have uw:=wV ax 10 aT
   have Nt:s[q]=10:=by simpa using uw
   refine nr [90] H R O λh H R Y=>ia (a:=a) (b:=q) O O O O O O ha hq O <| di H R O λh H R Y=>y5 H R O O O O O O (by simp) O (UF _) ?_;clear H R;intro y' h H R _ ey;refine Og [] [] H R O (iF ax) λh H R Y=>aj O (λgp=>by have:=kf ax 13 gp;simp[Nt]at this) (λgp=>?_);clear gp;refine nr [92,90] H R O λh H R Y=>again (q+1,q+1,gs++[(s.take q).drop a],y') (by simp only;omega) (HQ.mk O ⟨O,O,vi e1,vi e1,trivial⟩) (over 0 (by omega) ?_ H R);rw[cut Nt,if_pos O]
   try rfl
 .have fH:s.length<=q:=by have:=of_decide_eq_false hb;omega
  refine di H R O λh H R Y=>ia (a:=a) (b:=s.length) O O O O ?_ O (by omega) (Nat.le_refl _) O ?_
  .rfl
  refine di H R O λh H R Y=>y5 H R O O O O O O (by simp) O (UF _) ?_;clear H R;intro y' h H R _ ey;refine di H R O λh H R Y=>ab [] H O ?_;have e2:lN false [] s=gs++[(s.take s.length).drop a]:=by rw[e,List.drop_of_length_le fH,show q=s.length by omega];rfl
  rcases R with⟨_,q0⟩|⟨r,q1,q2,q3⟩
  .exact absurd q0 (by simp)
  .rw[e2];have e3:cW (gs++[(s.take s.length).drop a])=cW gs++[.str ((s.take s.length).drop a)]:=by simp[cW]
   rw[e3];exact⟨H.kp,r,q1,q2,q3⟩
end
def TB (l:List ak):ak:=l.headD []
def kg (s:ak):Bool:= !(s.any λc=>c==13)&&(decide (lead (TB (lN false [] s))=(TB (lN false [] s)).length)||(decide ((lN false [] s).length=1)&&decide (lead s=0)))
theorem Hu:∀(s:ak) (cr:Bool) (cur:ak),lN cr cur s≠[]:=by
 intro s
 induction s with
 |nil=>intro cr cur h;cases h
 |cons c s ih=>
  intro cr cur;unfold lN;split
  .split
   .exact ih _ _
   .simp
  .split
   .simp
   .exact ih _ _
theorem Nu:∀(s:ak) (cr:Bool) (cur l:ak),l∈lN cr cur s->l.length<=cur.length+s.length:=by
 intro s
 induction s with
 |nil=>intro cr cur l h;simp[lN]at h;subst h;simp
 |cons c s ih=>
  intro cr cur l h;unfold lN at h;split at h
  .split at h
   .have:=ih _ _ _ h
    simp;omega
   .rcases List.mem_cons.1 h with rfl|h
    .simp
    .have:=ih _ _ _ h
     simp at this|-;omega
  .split at h
   .rcases List.mem_cons.1 h with rfl|h
    .simp
    .have:=ih _ _ _ h
     simp at this|-;omega
   .have:=ih _ _ _ h
    simp at this|-;omega
section
variable {h h0:AH}
theorem Ks (s:ak) (hs:s.length<=1000000000):∀h0:AH,aP prog 132 [.str s] h0 (.bool (kg s)) h0:=by
 intro h0;refine aP.pure (.bool _) ?_;refine az (n:=36) (rs:=[.tmp 2]) [] ⟨func132,O,O,O⟩ O <| have H:HI h0 [] h0 []:=HI.nil;ah H O λh H Y=>?_;refine fg (λq:Nat=>s.length -q) 36 (λq=>[(0,.str s),(3,.int .i64 q)]) (λq h'=>HI h0 [] h' []/\((s.take q).any λc=>c==13)=false) 0 O ⟨H,by simp⟩ ?_
 clear H;rintro q h ⟨H,e⟩ again;refine ah H O λh H Y=>af O (λhb=>?_) λhb=>?_
 .have ax:q <s.length:=by have:=of_decide_eq_true hb;omega
  have e1:IntKind.i64.wrap ((q:Int)+1)=((q+1:Nat):Int):=wI (by omega)
  refine KK H O (iF ax) λh H Y=>af O (λaT=>?_) λaT=>?_
  .have wx:=kf ax 13 aT
   refine ah H O λh H Y=>ab [] H O (rD H ?_);have:(s.any λc=>c==13)=true:=List.any_eq_true.2 ⟨s[q],List.getElem_mem ax,wx⟩;simp only[kg,this];rfl
  .have wx:=kf ax 13 aT
   refine ah H O λh H Y=>again (q+1) (by omega) (HQ.mk O ⟨O,vi e1,trivial⟩) ⟨H,?_⟩;rw[List.take_succ_eq_append_getElem ax,List.any_append,e];simp[wx]
 .have fH:s.length<=q:=by have:=of_decide_eq_false hb;omega
  rw[List.take_of_length_le fH]at e;have e0:kg s=(decide (lead (TB (lN false [] s))=(TB (lN false [] s)).length)||(decide ((lN false [] s).length=1)&&decide (lead s=0))):=by simp only[kg,e];rfl
  refine ah H O λh H Y=>ae O call162 (Bb s hs) ?_;rintro v h2 ⟨kp,r,rfl,j,hr⟩;replace H:=H.same kp;obtain⟨l0,ls,hl⟩:∃l0 ls,lN false [] s=l0::ls:=by cases hp:lN false [] s with|nil=>exact absurd hp (Hu s false [])|cons a b=>exact⟨a,b,O⟩
  have Xx:l0.length<=s.length:=by have:=Nu s false [] l0 (by rw[hl];simp);simpa using this
  rw[hl]at e0 j;simp only[hl];refine di H j O λh H j Y=>bp (ag.iZ O O O O O O (Int.le_refl 0) (by simp[cW])) O ?_;refine yY (ag.mH O O O O O j.1 O) O <| bG O call163 (kM l0 (by omega)) <| di H j O λh H j Y=>bp (ag.iZ O O O O O O (Int.le_refl 0) (by simp[cW])) O ?_;refine yY (ag.mH O O O O O j.1 O) O <| di H j O λh H j Y=>aR O (λaT=>?_) (λaT=>?_)
  .have c1:lead l0=l0.length:=by have:=of_decide_eq_true aT;omega
   exact di H j O λh H j Y=>ab [] H O (rD H (by rw[e0];simp[TB,c1]))
  .have c1:¬ lead l0=l0.length:=by have:=of_decide_eq_false aT;omega
   refine di H j O λh H j Y=>aR O (λbZ=>?_) (λbZ=>?_)
   .have c2:ls=[]:=by
     replace bZ:decide ((((cW (l0::ls)).length:Nat):Int)=1)=true:=bZ;have:=of_decide_eq_true bZ;simp[cW]at this;exact List.length_eq_zero_iff.1 (by omega)
    exact di H j O λh H j Y=>bG O call163 (kM s (by omega)) <| di H j O λh H j Y=>ab [] H O (rD H (by rw[e0,c2];simp[TB,c1]))
   .have c2:¬ ls=[]:=by
     replace bZ:decide ((((cW (l0::ls)).length:Nat):Int)=1)=false:=bZ;have:=of_decide_eq_false bZ;simp[cW]at this;intro hl;rw[hl]at this;exact this O
    exact di H j O λh H j Y=>ab [] H O (rD H (by rw[e0];simp[TB,c1,c2]))
end
end
section
variable {P:Program} {lt:LT} {h:AH} {fr:ay} {ops:List Oper} {o:Oper}
theorem Hv {t:TypeId} {x y:Operand} (ho:o.op= .slice t x (some y) none none) (ρ:Operand->Value):(execOp ρ o)=(do pure (.value (<-Instr.sliceAt t (ρ x) (some (ρ y)) none none)))/\x∈o.op.operands.toList/\y∈o.op.operands.toList:=by obtain⟨dst,op,ty,pos,after,guard⟩:=o;simp only at ho;subst ho;exact⟨O,by simp[Op.operands],by simp[Op.operands]⟩
theorem ag.Nv {t e:TypeId} {x y:Operand} {ob off n cap:Nat} {y9:Bool} {k:IntKind} (ho:o.op= .slice t x (some y) none none) (hw:au ops fr o.guard=some true) (ht:P.underlying t=some (.slice e)) (hz:kW P e=some 1)
 (ex:fr.ev x= .v (.sl ob off n cap y9)) (ey:fr.ev y= .v (.int k (n:Nat))):ag P lt ops o fr h (.v (.vec .none 1 [])) h:=by
 refine ag.raw hw λg w ρ R hx=>?_;obtain⟨r1,r2,r3⟩:=Hv ho ρ;have v1:=hx x r2 _ ex;have v2:=hx y r3 _ ey;rw[r1];generalize ρ x=p at v1;generalize ρ y=q at v2
 cases v2
 cases v1 with
 |sl _ _ _ _ _ b rc hb hs hn xb hex dY=>
  have hle:n<=rc:=by omega
  refine⟨.slice (some (if rc=n then⟨b,off,none⟩else(⟨b,off,none⟩:Addr).add n)) (n -n) (rc -n),g,w,?_,.refl g w,R,?_⟩
  .simp[Instr.sliceAt,Instr.slice,run_underlying ht,run_sizeOf hz,Instr.sliceBounds,Instr.sliceBound,asIntOf,hle];split<;>rfl
  .rw[Nat.sub_self];exact .vec .none 1 [] _ _ (λ_ _=>undef) (by simp) (by simp) (by simp) (by simp) (by simp) (by simp) (by omega) trivial (by simp)
theorem ag.TC {t u:TypeId} {x y:Operand} {a b:ak} (ho:o.op= .binOp .add t x y u) (hw:au ops fr o.guard=some true) (ex:fr.ev x= .v (.str a)) (ey:fr.ev y= .v (.str b)) (hl:a.length+b.length <9223372036854775808):∀h,ag P lt ops o fr h (.v (.str (a++b))) h:=ag.pure hw (λh=>by rw[ho];simp only[fi,Lm,ex,ey,wD,if_pos hl]) O (λh=>by rw[ho];rfl)
end
section
attribute [local irreducible] AC AL AW AD aP
section
variable {h0 h:AH} {b c k:Nat} {ro:Option Nat} {es:List AV} {lr:Int}
def GrR (h0:AH) (b:Nat) (ro:Option Nat) (es:List AV) (k:Nat) (q:Nat×Nat×Bool×Nat×List AV) (h:AH):Prop:=HI h0 (b::ro.toList) h [(b,gg (.sl q.1 0 (es.length+k) q.2.1 q.2.2.1) 0)]/\h.nt=h0.nt/\h.bV=h0.bV/\h.get q.1=some (.row q.2.2.2.1 q.2.2.2.2)/\q.1 <h.n/\q.1≠b/\q.2.2.2.2.take es.length=es/\es.length<=q.2.2.2.2.length/\es.length+k<=q.2.1/\es.length+k<=q.2.2.2.1/\((ro=some q.1/\h.n=h0.n)\/(q.1=h0.n/\h.n=h0.n+1))/\∀r,ro=some r->∃cap cs,h.get r=some (.row cap cs)
theorem zG.any (B:zG h0 b ro c es lr):b <h0.n/\∃x,h0.get b=some (.cells (gg x lr))/\((ro=none/\c=0/\es=[]/\x= .ao)\/∃r,ro=some r/\r <h0.n/\x= .sl r 0 es.length c true/\h0.get r=some (.row c es)/\es.length<=c):=by
 obtain⟨hb,⟨q1,q2,q3,q4⟩|⟨r,q1,q2,q3,q4,q5⟩⟩:=B
 .exact⟨hb,_,q4,.inl ⟨q1,q2,q3,O⟩⟩
 .exact⟨hb,_,q3,.inr ⟨r,q1,q2,O,q4,q5⟩⟩
theorem zG.at (B:zG h0 b ro c es lr) {lr':Int} {x:AV} (ZE:h0.get b=some (.cells (gg x lr))) (K:Kp [b] h0 h) (hn:h.n=h0.n) (hg:h.get b=some (.cells (gg x lr'))):zG h b ro c es lr':=by
 obtain⟨hb,⟨q1,q2,q3,q4⟩|⟨r,q1,q2,q3,q4,q5⟩⟩:=B
 .rw[ZE]at q4;injection q4 with q4
  injection q4 with q4
  injection q4 with q4
  subst q4;exact⟨by omega,.inl ⟨q1,q2,q3,hg⟩⟩
 .rw[ZE]at q3;injection q3 with q3
  injection q3 with q3
  injection q3 with q3
  subst q3;have rn:r≠b:=λe=>by rw[e,ZE]at q4;cases q4
  exact⟨by omega,.inr ⟨r,q1,by omega,hg,(K.get r q2 (by simpa using rn)).trans q4,q5⟩⟩
theorem xN.of {h':AH} {cA:List AV} (W:xN h b ro h' cA) (K:Kp (b::ro.toList) h0 h) (e1:h.n=h0.n) (e2:h.nt=h0.nt) (e3:h.bV=h0.bV):xN h0 b ro h' cA:=by obtain⟨⟨k,n,t⟩,N,C,ex,cap,cs,a1,a2,a3,a4,a5,a6,a7⟩:=W;exact⟨⟨K.trans k,n.trans e2,t.trans e3⟩,N,C,ex,cap,cs,a1,a2,a3,a4,a5,by rw[e1]at a6;exact a6,a7⟩
theorem HI.beside {ids:List Nat} {h0 h h1:AH} {V:View} {N:Nat} (H:HI h0 ids h V) (k:Kp [N] h h1) (hV:∀e∈V,e.1≠N) (hi:N∈ids\/h0.n<=N):HI h0 ids h1 V:=⟨HV.of (λe he=>by obtain⟨q1,q2⟩:=H.hv.get he;exact⟨(k.get _ q2 (by simpa using hV e he)).trans q1,Nat.lt_of_lt_of_le q2 k.n⟩) H.hv.nodup,H.kp.step k (by simpa using hi),H.new⟩
theorem xN.mk {N C cap:Nat} {ex:Bool} {cs cA:List AV} {V:View} (K:Kp (b::ro.toList) h0 h) (e2:h.nt=h0.nt) (e3:h.bV=h0.bV) (g1:h.get b=some (.cells (gg (.sl N 0 cA.length C ex) 0))) (g2:h.get N=some (.row cap cs)) (c1:cs.take cA.length=cA) (c2:cA.length<=cs.length) (c3:cA.length<=C) (hN:(ro=some N/\h.n=h0.n)\/(N=h0.n/\h.n=h0.n+1)) (hR:∀r,ro=some r->∃cap cs,h.get r=some (.row cap cs)):xN h0 b ro h cA:=⟨⟨K,e2,e3⟩,N,C,ex,cap,cs,g1,g2,c1,c2,c3,hN,hR⟩
theorem yH (B:zG h0 b ro c es lr) {r:Int} (h1:0<=r) (h2:r<=1114111) (hl:es.length<=1099511627000) (hc:c <9223372036854775808):
 al prog 173 [.ptr b 0,.int .i32 r] h0 (λv h'=>v= .cN [.int .i64 ((cd (Lib.encodeRuneZ r)).length:Nat),.bu]/\xN h0 b ro h' (es++cd (Lib.encodeRuneZ r))):=by
 have B0:=B
 obtain⟨hb,x,hg,hx⟩:=B.any;refine az (n:=45) (rs:=[.tmp 4,.tmp 5]) [] ⟨func173,O,O,O⟩ O ?_;have H:=HI.one hg hb;have hw:IntKind.u32.wrap r=r:=by simp[IntKind.wrap,IntKind.bits,IntKind.signed];omega
 refine ah H O λh H Y=>have e1:=Y.1;have e2:=Y.2.1;have e3:=Y.2.2;af O (λej=>?_) λej=>?_
 .have l1:r<=127:=by have:=of_decide_eq_true ej;omega
  have eb:cd (Lib.encodeRuneZ r)=[.int .u8 (IntKind.u8.wrap r)]:=by rw[Lib.encodeRuneZ_one h1 l1,wrap_u8,show r% 256=r by omega];rfl
  refine ah H O λh H Y=>have e1:=Y.1.trans e1;have e2:=Y.2.1.trans e2;have e3:=Y.2.2.trans e3;ae O call168 (pV (B0.at hg H.kp e1 H.at_.1) (IntKind.u8.wrap r) (by omega) hc) ?_;rintro v h3 ⟨rfl,W⟩;have W2:=W.of (H.kp.sub (by simp)) e1 e2 e3;clear H;refine N9 [] mx O (by decide+kernel) (by simp) ?_;refine Oa O ⟨?_,by rw[eb];exact W2⟩;rw[eb];rfl
 have l1:¬ r<=127:=by have:=of_decide_eq_false ej;omega
 have hle:=(Lib.encodeRuneZ_length r).2;have jP:(cd (Lib.encodeRuneZ r)).length<=4:=by simpa[cd]using hle
 refine UH 10 H O λh H Y=>have e1:=Y.1.trans e1;have e2:=Y.2.1.trans e2;have e3:=Y.2.2.trans e3;have B1:=B0.at hg H.kp e1 H.at_.1;Ja 45 (λq:Nat×Nat×Bool×Nat×List AV=>[(0,.ptr b 0),(1,.int .i32 r),(6,.int .i64 (es.length:Nat))]) (GrR h0 b ro es 4) (λJ=>?_) ?_
 .rcases hx with⟨rfl,rfl,rfl,rfl⟩|⟨r',rfl,hr,rfl,rm,wi⟩
  .refine ah H O λh H Y=>have e1:=Y.1.trans e1;have e2:=Y.2.1.trans e2;have e3:=Y.2.2.trans e3;ae O call188 (ln (k:=4) H.at_.2 H.at_.1 (by omega) (by omega)) ?_;rintro v h2 ⟨⟨k2,n2,t2⟩,m2,rfl,g2⟩;replace H:=H.aA k2 g2;replace e1:=m2.trans e1;replace e2:=n2.trans e2;replace e3:=t2.trans e3;refine ah H O λh H Y=>have e1:=Y.1.trans e1;have e2:=Y.2.1.trans e2;have e3:=Y.2.2.trans e3;jI O ?_;refine ah H O λh H Y=>?_;replace e1:=Y.1.trans e1;replace e2:=Y.2.1.trans e2;replace e3:=Y.2.2.trans e3;have G:=nQ (n:=4) (l:=0) (c:=0) (es:=[]) H.at_.2 H.at_.1 (.inl ⟨O,O,O,O⟩) (by omega) (by omega) (by omega) (by omega);refine ae O call189 G ?_;rintro v h3 ⟨⟨k3,n3,t3⟩,m3,rfl,C,ex,cap,cs,g3,g4,uM,xM,hC,Mk⟩;replace H:=H.aA k3 g3;replace e2:=n3.trans e2;replace e3:=t3.trans e3;rw[e1]at g3 g4 H m3;have jR:¬ h0.n=b:=by omega
   refine dZ H O λh4 H4 ⟨f1,f2,f3⟩ k4=>?_;exact J (h0.n,C,ex,cap,cs) O ⟨H4.more (by simp),f2.trans e2,f3.trans e3,(k4.get h0.n (by omega) (by simpa using jR)).trans g4,by simp only;omega,jR,uM,by simp,hC,by simp only;simp at xM|-;omega,.inr ⟨O,by omega⟩,λr e=>by cases e⟩
  .have rn:r'≠b:=λe=>by rw[e,hg]at rm;cases rm
   refine ah H O λh H Y=>?_;replace e1:=Y.1.trans e1;replace e2:=Y.2.1.trans e2;replace e3:=Y.2.2.trans e3;have gr:h.get r'=some (.row c es):=(H.kp.get r' hr (by simpa using rn)).trans rm;refine ae O call188 (kG (k:=4) H.at_.2 H.at_.1 wi hc (by omega)) ?_;rintro v h2 ⟨⟨k2,n2,t2⟩,m2,⟨gf,rfl,g2⟩|⟨kZ,rfl,g2⟩⟩
   .replace H:=H.aA k2 g2;replace e1:=m2.trans e1;replace e2:=n2.trans e2;replace e3:=t2.trans e3;refine ah H O λh H Y=>have e1:=Y.1.trans e1;have e2:=Y.2.1.trans e2;have e3:=Y.2.2.trans e3;cX O ?_;refine ah H O λh H Y=>?_;replace e1:=Y.1.trans e1;replace e2:=Y.2.1.trans e2;replace e3:=Y.2.2.trans e3;have FG:h.get r'=some (.row c es):=(H.kp.get r' hr (by simpa using rn)).trans rm;exact J (r',c,true,c,es) O ⟨H.more (by simp),e2,e3,FG,by simp only;omega,rn,List.take_of_length_le (Nat.le_refl _),Nat.le_refl _,gf,gf,.inl ⟨O,e1⟩,λr e=>by injection e with e;subst e;exact⟨_,_,FG⟩⟩
   .replace H:=H.aA k2 g2;replace e1:=m2.trans e1;replace e2:=n2.trans e2;replace e3:=t2.trans e3;refine ah H O λh H Y=>have e1:=Y.1.trans e1;have e2:=Y.2.1.trans e2;have e3:=Y.2.2.trans e3;jI O ?_;refine ah H O λh H Y=>?_;replace e1:=Y.1.trans e1;replace e2:=Y.2.1.trans e2;replace e3:=Y.2.2.trans e3;have FG:h.get r'=some (.row c es):=(H.kp.get r' hr (by simpa using rn)).trans rm;have G:=nQ (n:=4) (l:=es.length) (c:=c) (es:=es) H.at_.2 H.at_.1 (.inr ⟨r',c,es,O,by omega,FG,Nat.le_refl _,List.take_of_length_le (Nat.le_refl _),wi⟩) (by omega) (by omega) (by omega) kZ;refine ae O call189 G ?_;rintro v h3 ⟨⟨k3,n3,t3⟩,m3,rfl,C,ex,cap,cs,g3,g4,uM,xM,hC,Mk⟩;have Vx:=(k3.get r' (by omega) (by simpa using rn)).trans FG;replace H:=H.aA k3 g3;replace e2:=n3.trans e2;replace e3:=t3.trans e3;rw[e1]at g3 g4 H m3;have jR:¬ h0.n=b:=by omega
    refine dZ H O λh4 H4 ⟨f1,f2,f3⟩ k4=>?_;exact J (h0.n,C,ex,cap,cs) O ⟨H4.more (by simp),f2.trans e2,f3.trans e3,(k4.get h0.n (by omega) (by simpa using jR)).trans g4,by simp only;omega,jR,uM,by simp only;omega,hC,by simp only;omega,.inr ⟨O,by omega⟩,λr e=>by injection e with e;subst e;exact⟨_,_,(k4.get r' (by omega) (by simpa using rn)).trans Vx⟩⟩
 .clear H e1 e2 e3 B1;rintro⟨N,C,ex,cap,cs⟩ h ⟨H,e2,e3,Ws,Wt,Gv,c1,c2,c3,c4,hN,hR⟩;simp only at H Ws Wt Gv c1 c2 c3 c4 hN;refine dZ H O λh4 H4 ⟨f1,f2,f3⟩ k4=>ba (ag.gA (l:=0) (hh:=es.length) O O O O O O (by show(if(0:Int)<=(es.length:Nat)then some ((es.length:Nat):Int).toNat else none)=_;rw[if_pos (by omega),Int.toNat_natCast]) (Nat.zero_le _) (by omega) (.inr O)) O ?_;simp only[Nat.add_zero,Nat.sub_zero];have e1:=f1;have jj:=(k4.get N Wt (by simpa using Gv)).trans Ws;have UC:∀r,ro=some r->∃cap cs,h4.get r=some (.row cap cs):=λr e=>by
   obtain⟨fB,dH,q⟩:=hR r e;have ax:r <h.n:=by
    rcases B0.2 with⟨q1,_⟩|⟨r',q1,q2,_⟩
    .rw[q1]at e
     cases e
    .rw[q1]at e;injection e with e
     subst e;have:=H.kp.n;omega
   have cv:r≠b:=λe'=>by rw[e']at q;have:=H.at_.1;rw[q]at this;cases this
   exact⟨fB,dH,(k4.get r ax (by simpa using cv)).trans q⟩
  refine dZ H4 O λh5 H5 ⟨g1,g2,g3⟩ k5=>?_;have ZF:=(k5.get N (by omega) (by simpa using Gv)).trans jj;refine ae O call194 (xO (r:=r) ZF (by omega) c2 c3 c4 h1 h2) ?_;rintro v h6 ⟨rfl,k6,n6,t6,p6,g6⟩;have H6:=H5.beside k6 (by simpa using Ne.symm Gv) (by rcases hN with⟨q,_⟩|⟨q,_⟩;exact .inl (by simp[q]);exact .inr (by omega));have TD:(cs.take es.length++cd (Lib.encodeRuneZ r)++cs.drop (es.length+(cd (Lib.encodeRuneZ r)).length)).take (es++cd (Lib.encodeRuneZ r)).length=es++cd (Lib.encodeRuneZ r):=by rw[c1,List.take_left' O]
  refine dZ H6 O λh7 H7 ⟨i1,i2,i3⟩ k7=>?_;have ew:IntKind.i64.wrap (((es.length+(cd (Lib.encodeRuneZ r)).length:Nat):Int) -(es.length:Nat))=((cd (Lib.encodeRuneZ r)).length:Nat):=wI (by omega);refine ab [] H7 O ⟨by show AV.cN [.int .i64 (IntKind.i64.wrap _),.bu]=_;rw[<-ew],xN.mk (V:=[]) H7.kp (by rw[i2,t6,g2,f2,e2]) (by rw[i3,p6,g3,f3,e3]) (by simpa using H7.at_.1) ((k7.get N (by omega) (by simpa using Gv)).trans g6) TD (by simp;omega) (by simp;omega) (by rcases hN with⟨q1,q2⟩|⟨q1,q2⟩;exact .inl ⟨q1,by omega⟩;exact .inr ⟨q1,by omega⟩) ?_⟩;intro r' e
  by_cases q:r'=N
  .rw[q];exact⟨_,_,(k7.get N (by omega) (by simpa using Gv)).trans g6⟩
  .obtain⟨fB,dH,q2⟩:=UC r' e;have ax:r' <h4.n:=by
    rcases B0.2 with⟨q1,_⟩|⟨r'',q1,q3,_⟩
    .rw[q1]at e
     cases e
    .rw[q1]at e;injection e with e
     subst e;have:=H4.kp.n;omega
   have cv:r'≠b:=λe'=>by rw[e']at q2;have:=H4.at_.1;rw[q2]at this;cases this
   exact⟨fB,dH,(k7.get r' (by omega) (by simpa using cv)).trans ((k6.get r' (by omega) (by simpa using q)).trans ((k5.get r' ax (by simpa using cv)).trans q2))⟩
end
section
variable {h0 h:AH} {b c k:Nat} {ro:Option Nat} {es:List AV} {lr:Int}
theorem vg (B:zG h0 b ro c es lr) {s:ak} (h1:0 <s.length) (h2:s.length<=64) (hl:es.length<=1099511627000) (hc:c <9223372036854775808):
 al prog 171 [.ptr b 0,.str s] h0 (λv h'=>v= .cN [.int .i64 (s.length:Nat),.bu]/\xN h0 b ro h' (es++s.map cO)):=by
 have B0:=B
 obtain⟨hb,x,hg,hx⟩:=B.any;refine az (n:=32) (rs:=[.tmp 4,.tmp 5]) [] ⟨func171,O,O,O⟩ O <| have H:=HI.one hg hb;UH 14 H O λh H Y=>?_;have e1:=Y.1;have e2:=Y.2.1;have e3:=Y.2.2;refine Ja 32 (λq:Nat×Nat×Bool×Nat×List AV=>[(0,.ptr b 0),(1,.str s),(6,.int .i64 (es.length:Nat))]) (GrR h0 b ro es s.length) (λJ=>?_) ?_
 .rcases hx with⟨rfl,rfl,rfl,rfl⟩|⟨r',rfl,hr,rfl,rm,wi⟩
  .refine ah H O λh H Y=>have e1:=Y.1.trans e1;have e2:=Y.2.1.trans e2;have e3:=Y.2.2.trans e3;ae O call188 (ln (k:=s.length) H.at_.2 H.at_.1 (by omega) (by omega)) ?_;rintro v h2 ⟨⟨k2,n2,t2⟩,m2,rfl,g2⟩;replace H:=H.aA k2 g2;replace e1:=m2.trans e1;replace e2:=n2.trans e2;replace e3:=t2.trans e3;refine ah H O λh H Y=>have e1:=Y.1.trans e1;have e2:=Y.2.1.trans e2;have e3:=Y.2.2.trans e3;jI O ?_;refine ah H O λh H Y=>?_;replace e1:=Y.1.trans e1;replace e2:=Y.2.1.trans e2;replace e3:=Y.2.2.trans e3;have G:=nQ (n:=s.length) (l:=0) (c:=0) (es:=[]) H.at_.2 H.at_.1 (.inl ⟨O,O,O,O⟩) (by omega) (by omega) (by omega) (by omega);refine ae O call189 G ?_;rintro v h3 ⟨⟨k3,n3,t3⟩,m3,rfl,C,ex,cap,cs,g3,g4,uM,xM,hC,Mk⟩;replace H:=H.aA k3 g3;replace e2:=n3.trans e2;replace e3:=t3.trans e3;rw[e1]at g3 g4 H m3;have jR:¬ h0.n=b:=by omega
   refine dZ H O λh4 H4 ⟨f1,f2,f3⟩ k4=>?_;exact J (h0.n,C,ex,cap,cs) O ⟨H4.more (by simp),f2.trans e2,f3.trans e3,(k4.get h0.n (by omega) (by simpa using jR)).trans g4,by simp only;omega,jR,uM,by simp,hC,by simp only;simp at xM|-;omega,.inr ⟨O,by omega⟩,λr e=>by cases e⟩
  .have rn:r'≠b:=λe=>by rw[e,hg]at rm;cases rm
   refine ah H O λh H Y=>?_;replace e1:=Y.1.trans e1;replace e2:=Y.2.1.trans e2;replace e3:=Y.2.2.trans e3;have gr:h.get r'=some (.row c es):=(H.kp.get r' hr (by simpa using rn)).trans rm;refine ae O call188 (kG (k:=s.length) H.at_.2 H.at_.1 wi hc (by omega)) ?_;rintro v h2 ⟨⟨k2,n2,t2⟩,m2,⟨gf,rfl,g2⟩|⟨kZ,rfl,g2⟩⟩
   .replace H:=H.aA k2 g2;replace e1:=m2.trans e1;replace e2:=n2.trans e2;replace e3:=t2.trans e3;refine ah H O λh H Y=>have e1:=Y.1.trans e1;have e2:=Y.2.1.trans e2;have e3:=Y.2.2.trans e3;cX O ?_;refine ah H O λh H Y=>?_;replace e1:=Y.1.trans e1;replace e2:=Y.2.1.trans e2;replace e3:=Y.2.2.trans e3;have FG:h.get r'=some (.row c es):=(H.kp.get r' hr (by simpa using rn)).trans rm;exact J (r',c,true,c,es) O ⟨H.more (by simp),e2,e3,FG,by simp only;omega,rn,List.take_of_length_le (Nat.le_refl _),Nat.le_refl _,gf,gf,.inl ⟨O,e1⟩,λr e=>by injection e with e;subst e;exact⟨_,_,FG⟩⟩
   .replace H:=H.aA k2 g2;replace e1:=m2.trans e1;replace e2:=n2.trans e2;replace e3:=t2.trans e3;refine ah H O λh H Y=>have e1:=Y.1.trans e1;have e2:=Y.2.1.trans e2;have e3:=Y.2.2.trans e3;jI O ?_;refine ah H O λh H Y=>?_;replace e1:=Y.1.trans e1;replace e2:=Y.2.1.trans e2;replace e3:=Y.2.2.trans e3;have FG:h.get r'=some (.row c es):=(H.kp.get r' hr (by simpa using rn)).trans rm;have G:=nQ (n:=s.length) (l:=es.length) (c:=c) (es:=es) H.at_.2 H.at_.1 (.inr ⟨r',c,es,O,by omega,FG,Nat.le_refl _,List.take_of_length_le (Nat.le_refl _),wi⟩) (by omega) (by omega) (by omega) kZ;refine ae O call189 G ?_;rintro v h3 ⟨⟨k3,n3,t3⟩,m3,rfl,C,ex,cap,cs,g3,g4,uM,xM,hC,Mk⟩;have Vx:=(k3.get r' (by omega) (by simpa using rn)).trans FG;replace H:=H.aA k3 g3;replace e2:=n3.trans e2;replace e3:=t3.trans e3;rw[e1]at g3 g4 H m3;have jR:¬ h0.n=b:=by omega
    refine dZ H O λh4 H4 ⟨f1,f2,f3⟩ k4=>?_;exact J (h0.n,C,ex,cap,cs) O ⟨H4.more (by simp),f2.trans e2,f3.trans e3,(k4.get h0.n (by omega) (by simpa using jR)).trans g4,by simp only;omega,jR,uM,by simp only;omega,hC,by simp only;omega,.inr ⟨O,by omega⟩,λr e=>by injection e with e;subst e;exact⟨_,_,(k4.get r' (by omega) (by simpa using rn)).trans Vx⟩⟩
 .clear H e1 e2 e3;rintro⟨N,C,ex,cap,cs⟩ h ⟨H,e2,e3,Ws,Wt,Gv,c1,c2,c3,c4,hN,hR⟩;simp only at H Ws Wt Gv c1 c2 c3 c4 hN;refine dZ H O λh4 H4 ⟨f1,f2,f3⟩ k4=>ba (ag.gA (l:=es.length) (hh:=es.length+s.length) O O O O O (by show(if(0:Int)<=(es.length:Nat)then some ((es.length:Nat):Int).toNat else none)=_;rw[if_pos (by omega),Int.toNat_natCast]) O (by omega) (by omega) (.inl (by omega))) O ?_;have jj:=(k4.get N Wt (by simpa using Gv)).trans Ws;have UC:∀r,ro=some r->∃cap cs,h4.get r=some (.row cap cs):=λr e=>by
   obtain⟨fB,dH,q⟩:=hR r e;have ax:r <h.n:=by
    rcases B0.2 with⟨q1,_⟩|⟨r',q1,q2,_⟩
    .rw[q1]at e
     cases e
    .rw[q1]at e;injection e with e
     subst e;have:=H.kp.n;omega
   have cv:r≠b:=λe'=>by rw[e']at q;have:=H.at_.1;rw[q]at this;cases this
   exact⟨fB,dH,(k4.get r ax (by simpa using cv)).trans q⟩
  refine dZ H4 O λh5 H5 ⟨g1,g2,g3⟩ k5=>?_;have ZF:=(k5.get N (by omega) (by simpa using Gv)).trans jj;refine kV (ag.Vs (s:=s) O O O O O O ZF (by omega) (by omega) (by omega)) O ?_;have H6:=H5.zF (o:=N) (x:= .row cap (cs.take (0+es.length)++s.map cO++cs.drop (0+es.length+(s.map cO).length))) (by simpa using Ne.symm Gv) (by rcases hN with⟨q,_⟩|⟨q,_⟩;exact .inr (by simp[q]);exact .inl (by omega));have g6:(h5.set N (.row cap (cs.take (0+es.length)++s.map cO++cs.drop (0+es.length+(s.map cO).length)))).get N=some (.row cap (cs.take (0+es.length)++s.map cO++cs.drop (0+es.length+(s.map cO).length))):=by simp[AH.set]
  have TD:(cs.take (0+es.length)++s.map cO++cs.drop (0+es.length+(s.map cO).length)).take (es++s.map cO).length=es++s.map cO:=by rw[Nat.zero_add,c1,List.take_left' O]
  refine dZ H6 O λh7 H7 ⟨i1,i2,i3⟩ k7=>?_;have p1:h7.n=h4.n:=i1.trans g1;have gN7:=(k7.get N (by simp only[AH.set];omega) (by simpa using Gv)).trans g6;refine ab [] H7 O ⟨O,xN.mk (V:=[]) H7.kp (i2.trans (g2.trans (f2.trans e2))) (i3.trans (g3.trans (f3.trans e3))) (by simpa using H7.at_.1) gN7 TD (by simp;omega) (by simp;omega) (by rcases hN with⟨q1,q2⟩|⟨q1,q2⟩;exact .inl ⟨q1,by omega⟩;exact .inr ⟨q1,by omega⟩) ?_⟩;intro r' e
  by_cases q:r'=N
  .rw[q];exact⟨_,_,gN7⟩
  .obtain⟨fB,dH,q2⟩:=UC r' e;have ax:r' <h4.n:=by
    rcases B0.2 with⟨q1,_⟩|⟨r'',q1,q3,_⟩
    .rw[q1]at e
     cases e
    .rw[q1]at e;injection e with e
     subst e;have:=H4.kp.n;omega
   have cv:r'≠b:=λe'=>by rw[e']at q2;have:=H4.at_.1;rw[q2]at this;cases this
   have q5:=(k5.get r' ax (by simpa using cv)).trans q2;exact⟨fB,dH,(k7.get r' (by simp only[AH.set];omega) (by simpa using cv)).trans (by simp only[AH.set];rw[if_neg q];exact q5)⟩
end
def jH (h0 h:AH) (b:Nat) (es:List AV):Prop:=h0.n<=b/\∃ro,rp h b ro es/\∀r,ro=some r->h0.n<=r
section
variable {h0 h h':AH} {b:Nat} {ro:Option Nat} {es cA:List AV} {ids:List Nat} {V:View}
theorem rp.kp (B:rp h b ro es) (K:Kp ids h h') (h1:b∉ids) (h2:∀r,ro=some r->r∉ids):rp h' b ro es:=by
 obtain⟨hb,⟨rfl,rfl,hg⟩|⟨r,rfl,hr,hg,rm⟩⟩:=B
 .exact⟨Nat.lt_of_lt_of_le hb K.n,.inl ⟨O,O,(K.get _ hb h1).trans hg⟩⟩
 .exact⟨Nat.lt_of_lt_of_le hb K.n,.inr ⟨r,O,Nat.lt_of_lt_of_le hr K.n,(K.get _ hb h1).trans hg,(K.get _ hr (h2 r O)).trans rm⟩⟩
theorem jH.kp (B:jH h0 h b es) (K:Kp ids h h') (hi:∀i∈ids,i <h0.n):jH h0 h' b es:=by obtain⟨hb,ro,B,hr⟩:=B;exact⟨hb,ro,B.kp K (λh=>by have:=hi _ h;omega) (λr e h=>by have:=hi _ h;have:=hr r e;omega),hr⟩
theorem Qg (B:rp h b ro es):Kp (b::ro.toList) h (h.uN b ro cA):=⟨by simp only[AH.uN];omega,λk hk hi=>by simp only[List.mem_cons,Option.mem_toList,not_or]at hi;simp only[AH.uN];rw[if_neg hi.1,if_neg (by omega),if_neg (by rintro(q|q);omega;exact hi.2 q)],Nat.le_refl _,λ_ _=>rfl,O⟩
def Qh (h0 h:AH) (b:Nat) (v0:AV) (es:List AV) (v:AV) (h':AH):Prop:=v=v0/\jH h0 h' b es/\∃ids,Kp ids h h'/\∀i∈ids,h0.n<=i
theorem jH.write {f:FuncId} {args:List AV} {v:AV} (B:jH h0 h b es) (X:∀ro,rp h b ro es->aP prog f args h v (h.uN b ro cA)):al prog f args h (Qh h0 h b v cA):=by
 obtain⟨hb,ro,B,hr⟩:=B;have hn:h0.n<=h.n:=by have:=B.1;omega
 refine⟨v,h.uN b ro cA,⟨O,⟨hb,_,B.next,λr e=>by injection e with e;omega⟩,_,Qg B,λi hi=>?_⟩,X ro B⟩;simp only[List.mem_cons,Option.mem_toList]at hi;rcases hi with rfl|hi
 .exact hb
 .exact hr i hi
theorem dq (B:jH h0 h b es) (ch:Int) (hl:es.length<=1099511627000):al prog 168 [.ptr b 0,.int .u8 ch] h (Qh h0 h b .bu (es++[.int .u8 ch])):=B.write λro B=>B.write λc hc h1 BX=>pV BX ch (by omega) h1
theorem kA (B:jH h0 h b es) {r:Int} (h1:0<=r) (h2:r<=1114111) (hl:es.length<=1099511627000):al prog 173 [.ptr b 0,.int .i32 r] h (Qh h0 h b (.cN [.int .i64 ((cd (Lib.encodeRuneZ r)).length:Nat),.bu]) (es++cd (Lib.encodeRuneZ r))):=B.write λro B=>B.write λc hc h3 BX=>yH BX h1 h2 hl h3
theorem wy (B:jH h0 h b es) {s:ak} (h1:0 <s.length) (h2:s.length<=64) (hl:es.length<=1099511627000):al prog 171 [.ptr b 0,.str s] h (Qh h0 h b (.cN [.int .i64 (s.length:Nat),.bu]) (es++s.map cO)):=B.write λro B=>B.write λc hc h3 BX=>vg BX h1 h2 hl h3
theorem rV {t:ak} (B:rp h b ro (t.map cO)):aP prog 170 [.ptr b 0] h (.str t) h:=by
 refine aP.pure (.str _) <| az (n:=15) (rs:=[.tmp 2]) [] ⟨func170,O,O,O⟩ O ?_;obtain⟨hb,⟨rfl,he,hg⟩|⟨r,rfl,hr,hg,rm⟩⟩:=B
 .obtain rfl:t=[]:=by simpa using he
  have H:=HI.one hg hb;exact an [90] H O λh H Y=>bp (ag.Mj O O O O O O O) O <| bp (λh=>ag.Pc O O O O O O) O <| ah H O λh H Y=>ab [] H O ⟨H.o0 hg,λ_ _ _ h=>h⟩
 .have rn:r≠b:=λe=>by rw[e,hg]at rm;cases rm
  have H:=HI.one hg hb
  refine an [90] H O λh H Y=>?_;have gr:h.get r=some (.row (t.map cO).length (t.map cO)):=(H.kp.get r hr (by simpa using rn)).trans rm;refine bp (ag.gA (l:=0) (hh:=(t.map cO).length) O O O O O O O (Nat.zero_le _) (Nat.le_refl _) (.inr O)) O ?_;simp only[Nat.add_zero,Nat.sub_zero];refine yY (ag.toText O O O O O O gr (by simp) (by rw[List.drop_zero,List.take_of_length_le (Nat.le_refl _)])) O ?_;exact ah H O λh H Y=>ab [] H O ⟨H.o0 hg,λ_ _ _ h=>h⟩
theorem zX {s:ak} (hl:s.length<=1099511627000):al prog 174 [.str s] h0 (λv h'=>∃b,v= .ptr b 0/\jH h0 h' b (s.map cO)/\Kp [] h0 h'):=by
 refine az (n:=7) (rs:=[.tmp 2]) [] ⟨func174,O,O,O⟩ O <| have H:HI h0 [] h0 []:=HI.nil;ah H O λh H Y=>?_;refine kV (ag.Pb O O O O O O (by omega)) O <| have j:At (h.push (.row s.length (s.map cO))) h.n (.row s.length (s.map cO)):=At.push;have H2:=H.xJ (x:= .row s.length (s.map cO));have zf:=H.kp.n;dZ H2 O λh3 H3 ⟨f1,f2,f3⟩ k3=>?_;have j3:=j.kp k3;refine ab [] H3 O ⟨_,O,⟨?_,some h.n,⟨H3.at_.2,.inr ⟨h.n,O,j3.2,?_,?_⟩⟩,λr e=>by injection e with e;omega⟩,H3.kp⟩
 .simp only[AH.push];omega
 .rw[List.length_map];exact H3.at_.1
 .simpa using j3.1
end
def dV (l:ak):Bool:=lead l==l.length
def Fa (ind:Int) (l:ak):Int:=if lead l <l.length/\(ind <0\/(lead l:Int) <ind)then lead l else ind
def eS:List ak->Int
 |[]=> -1
 |_::r=>r.foldl Fa (-1)
def CV (ind:Int) (l:ak):ak:=if 0 <ind then l.drop (min ind.toNat l.length)else l
def fV (ind:Int):List ak->List ak
 |[]=>[]
 |l::r=>l::r.map (CV ind)
def trimB (ls:List ak):List ak:=(ls.reverse.dropWhile dV).reverse
def gF:List ak->ak
 |[]=>[]
 |l::r=>l++r.flatMap λx=>10::x
def Ku (ls:List ak):ak:=gF (trimB ((fV (eS ls) ls).dropWhile dV))
theorem Hw {ls:List ak} {l:ak}:eS (ls++[l])=if ls=[]then -1 else Fa (eS ls) l:=by cases ls with|nil=>rfl|cons a r=>simp[eS]
theorem mh (l:List ak):(cW l).length=l.length:=by simp[cW]
theorem np {ls:List ak} {i n:Nat} (h:i <ls.length) (hn:n=i):AV.ld false 1 (cW ls) n=some (.str ls[i]):=by subst hn;show(cW ls)[n]? =_;simp[cW,h]
theorem kh (ind:Int) (ls:List ak):(fV ind ls).length=ls.length:=by cases ls<;>simp[fV]
theorem Bc {ind:Int} {ls:List ak} {i:Nat} (h:i <ls.length) (h':i <(fV ind ls).length):(fV ind ls)[i]=if i=0 then ls[i]else CV ind ls[i]:=by cases ls with|nil=>simp at h|cons a r=>cases i<;>simp[fV]
theorem yI {ls:List ak} {i n:Nat} {x:ak} (hn:n=i):(cW ls).take n++[AV.str x]++(cW ls).drop (n+1)=cW (ls.take i++[x]++ls.drop (i+1)):=by subst hn;simp[cW,List.map_take,List.map_drop]
theorem oM {ls:List ak} {l:ak}:trimB (ls++[l])=if dV l then trimB ls else ls++[l]:=by unfold trimB;rw[List.reverse_append,List.reverse_singleton,List.singleton_append,List.dropWhile_cons];split<;>simp
theorem Bd {ls:List ak} {B:Nat} (h:∀l∈ls,l.length<=B):(gF ls).length<=ls.length*(B+1):=by
 have h2:∀r:List ak,(∀l∈r,l.length<=B)->(r.flatMap λx=>(10::x:ak)).length<=r.length*(B+1):=by
  intro r
  induction r with
  |nil=>intro _;simp
  |cons a r ih=>
   intro h;have h1:=h a (by simp);have h2:=ih λl hl=>h l (by simp[hl])
   simp only[List.flatMap_cons,List.length_append,List.length_cons,Nat.succ_mul];omega
 cases ls with
 |nil=>simp[gF]
 |cons a r=>
  have h1:=h a (by simp)
  have h3:=h2 r λl hl=>h l (by simp[hl])
  simp only[gF,List.length_append,List.length_cons,Nat.succ_mul];omega
theorem Qi {α:Type} {a b:List α} {n:Nat} (h:a=b.take a.length) (hn:n<=a.length):a.take n=b.take n:=by generalize a.length=m at h hn;rw[h,List.take_take,Nat.min_eq_left hn]
theorem Hx {ls:List ak} {l:ak}:gF (ls++[l])=(if ls=[]then l else gF ls++10::l):=by cases ls with|nil=>simp[gF]|cons a r=>simp[gF]
theorem Qj:∀(s:ak) (cr:Bool) (cur:ak),(lN cr cur s).length<=s.length+1:=by
 intro s
 induction s with
 |nil=>intro cr cur;simp[lN]
 |cons c s ih=>
  intro cr cur;unfold lN;split
  .split
   .have:=ih false cur
    simp;omega
   .have:=ih false []
    simp;omega
  .split
   .have:=ih true []
    simp;omega
   .have:=ih false (cur++[c])
    simp;omega
section
variable {P:Program} {lt:LT} {C:Exit->ay->AH->Prop} {h h0:AH} {ids:List Nat} {V:View} {fr:ay} {ks:List Kt} {o:Oper} {ops l:List Oper} {D:List Nat}
theorem y7 {t:TypeId} {x v:Operand} {r off cap:Nat} {cs:List AV} {d:AV} (H:HI h0 ids h V) (hV:∀e∈V,e.1≠r) (hr:h0.n<=r) (j:At h r (.row cap cs)) (ho:o.op= .store t x v) (hd:o.dst=none) (hw:au ops fr o.guard=some true) (hz:kW P t=some 1) (hv:mY fr v=some [d])
 (ex:fr.ev x= .v (.ptr r off)) (h1:off <cs.length) (h2:off <cap) (K:∀h',HI h0 ids h' V->At h' r (.row cap (cs.take off++[d]++cs.drop (off+1)))->XS P lt C (.ops ops l D) ks fr h'):XS P lt C (.ops ops (o::l) D) ks fr h:=
 Bl (ag.B6 ho hd hw hz hv O ex j.1 (Nat.le_of_lt h1) h2) hd (K _ (H.zF hV (.inl hr)) j.set)
end
section
variable {h h0:AH}
theorem Qk {h:AH} {k k':ak} {V:View} (H:HI h0 [] h V) (e:k=k'):Kp [] h0 h/\∀(g:Gh) (w:World) (u:Value),VR g w (.str k) u->VR g w (.str k') u:=⟨H.kp,by rw[e];exact λ_ _ _ h=>h⟩
theorem vs {x y:ak} (h:x=y):Slot.v (.str x)= .v (.str y):=by rw[h]
def Nw (r:Nat) (y:AV) (all rest:List ak):Prop:=(rest=[]/\y= .vec .none 1 [])\/∃off c,y= .sl r off rest.length c false/\rest.length<=c/\off+rest.length<=all.length/\rest=(all.drop off).take rest.length
theorem Nw.get {r:Nat} {y:AV} {all rest:List ak} {off i:Nat} (h:rest=(all.drop off).take rest.length) (hi:i <rest.length):∃hh:off+i <all.length,all[off+i]=rest[i]:=by
 have h1:rest[i]? =all[off+i]? :=by rw[h,List.getElem?_take,if_pos hi,List.getElem?_drop]
 rw[List.getElem?_eq_getElem hi]at h1;obtain⟨q1,q2⟩:=List.getElem?_eq_some_iff.1 h1.symm;exact⟨q1,q2⟩
theorem yJ (s:ak) (hs:s.length<=1000000000):∀h0:AH,aP prog 133 [.str s] h0 (.str (Ku (lN false [] s))) h0:=by
 intro h0;refine aP.pure (.str _) ?_;refine az (n:=123) (rs:=[.tmp 2]) [] ⟨func133,O,O,O⟩ O <| have H:HI h0 [] h0 []:=HI.nil;ah H O λh H Y=>?_;refine ae O call162 (Bb s hs) ?_;rintro v h2 ⟨kp,r,rfl,j,hr⟩;have Wu:h0.n<=r:=Nat.le_trans H.kp.n hr;replace H:=H.same kp;have Di:=λl=>Nu s false [] l
 have cv:=Hu s false [];have UG:=Qj s false [];revert j Di cv UG;generalize lN false [] s=ls;intro j Di cv UG;replace Di:∀l∈ls,l.length<=s.length:=λl h=>by have:=Di l h;simpa using this
 rw[mh]at j;rw[mh];have wr:∀{i:Nat},i <ls.length->IntKind.i64.wrap ((i:Int)+1)=((i+1:Nat):Int):=λh=>by rw[wrap_i64 (by omega) (by omega)];omega
 have FO:∀{i:Nat} (hi:i <ls.length),ls[i].length<=s.length:=λhi=>Di _ (List.getElem_mem hi)
 refine di H j O λh H j Y=>fg (λi:Nat=>ls.length -i) 123 (λi=>[(3,.sl r 0 ls.length ls.length false),(4,.int .i64 (eS (ls.take i))),(15,.sl r 0 ls.length ls.length false),(16,.int .i64 (ls.length:Nat)),(17,.int .i64 i)]) (λi h'=>HI h0 [] h' []/\At h' r (.row ls.length (cW ls))/\i<=ls.length/\ -1<=eS (ls.take i)/\eS (ls.take i)<=s.length) 0 O ⟨H,j,by simp,by simp[eS],by simp[eS]⟩ ?_
 clear H j;rintro i h ⟨H,j,hi,hd1,GK⟩ again;refine di H j O λh H j Y=>af O (λhb=>?_) λhb=>?_
 .have ax:i <ls.length:=by have:=of_decide_eq_true hb;omega
  refine di H j O λh H j Y=>ba (ag.iZ O O O O O O (Int.natCast_nonneg _) (by omega)) O <| kV (ag.mH O O O O O j.1 (np ax (by simp))) O <| di H j O λh H j Y=>aF O call163 (kM ls[i] (by have:=FO ax;omega)) ?_;have pa:eS (ls.take (i+1))=if i=0 then -1 else Fa (eS (ls.take i)) ls[i]:=by
   rw[List.take_succ_eq_append_getElem ax,Hw];have:(ls.take i=[])=(i=0):=by simp[cv]
   simp only[this]
  have Wv:=FO ax;have hle:=ua ls[i];have nk: -1<=eS (ls.take (i+1))/\eS (ls.take (i+1))<=s.length:=by
   rw[pa];split
   .omega
   .unfold Fa;split<;>omega
  have yes:0 <i->lead ls[i] <ls[i].length->(eS (ls.take i) <0\/(lead ls[i]:Int) <eS (ls.take i))->(lead ls[i]:Int)=eS (ls.take (i+1)):=λh1 h2 h3=>by rw[pa,if_neg (by omega)];unfold Fa;rw[if_pos ⟨h2,h3⟩]
  have no:0 <i->¬ (lead ls[i] <ls[i].length/\(eS (ls.take i) <0\/(lead ls[i]:Int) <eS (ls.take i)))->eS (ls.take i)=eS (ls.take (i+1)):=λh1 h2=>by rw[pa,if_neg (by omega)];unfold Fa;rw[if_neg h2]
  refine di H j O λh H j Y=>aj O (λej=>?_) (λej=>?_)
  .have i0:0 <i:=by have:=of_decide_eq_true ej;omega
   refine di H j O λh H j Y=>aj O (λaT=>?_) (λaT=>?_)
   .have l0:lead ls[i] <ls[i].length:=by have:=of_decide_eq_true aT;omega
    refine di H j O λh H j Y=>aj O (λbZ=>?_) (λbZ=>?_)
    .have n0:eS (ls.take i) <0:=of_decide_eq_true bZ
     refine nr [91] H j O λh H j Y=>?_;exact again (i+1) (by omega) (HQ.mk O ⟨O,vi (yes i0 l0 (.inl n0)),O,O,vi (wr ax),trivial⟩) ⟨H,j,by omega,nk⟩
    .have n0:¬ eS (ls.take i) <0:=of_decide_eq_false bZ
     refine di H j O λh H j Y=>af O (λgp=>?_) λgp=>?_
     .have n1:(lead ls[i]:Int) <eS (ls.take i):=of_decide_eq_true gp
      refine di H j O λh H j Y=>?_;exact again (i+1) (by omega) (HQ.mk O ⟨O,vi (yes i0 l0 (.inr n1)),O,O,vi (wr ax),trivial⟩) ⟨H,j,by omega,nk⟩
     .have n1:¬ (lead ls[i]:Int) <eS (ls.take i):=of_decide_eq_false gp
      refine di H j O λh H j Y=>?_;exact again (i+1) (by omega) (HQ.mk O ⟨O,vi (no i0 (by omega)),O,O,vi (wr ax),trivial⟩) ⟨H,j,by omega,nk⟩
   .have l0:¬ lead ls[i] <ls[i].length:=by have:=of_decide_eq_false aT;omega
    refine nr [90] H j O λh H j Y=>?_;exact again (i+1) (by omega) (HQ.mk O ⟨O,vi (no i0 (by omega)),O,O,vi (wr ax),trivial⟩) ⟨H,j,by omega,nk⟩
  .have i0:i=0:=by have:=of_decide_eq_false ej;omega
   have e1:eS (ls.take i)=eS (ls.take (i+1)):=by rw[pa,if_pos i0,i0];rfl
   refine nr [92,90] H j O λh H j Y=>?_;exact again (i+1) (by omega) (HQ.mk O ⟨O,vi e1,O,O,vi (wr ax),trivial⟩) ⟨H,j,by omega,nk⟩
 .have fH:i=ls.length:=by have:=of_decide_eq_false hb;omega
  rw[fH,List.take_length]at hd1 GK;rw[fH,List.take_length];have hbv:Ku ls=gF (trimB ((fV (eS ls) ls).dropWhile dV)):=rfl;rw[hbv];clear hbv;generalize eS ls=ind at hd1 GK|-;refine di H j O λh H j Y=>fg (λi:Nat=>ls.length -i) 123 (λi=>[(3,.sl r 0 ls.length ls.length false),(4,.int .i64 ind),(43,.sl r 0 ls.length ls.length false),(44,.int .i64 (ls.length:Nat)),(45,.int .i64 i)]) (λi h'=>HI h0 [] h' []/\At h' r (.row ls.length (cW ((fV ind ls).take i++ls.drop i)))/\i<=ls.length) 0 O ⟨H,j,by simp⟩ ?_
  clear H j;clear again fH hi i hb;rintro i h ⟨H,j,hi⟩ again;refine di H j O λh H j Y=>af O (λhb=>?_) λhb=>?_
  .have ax:i <ls.length:=by have:=of_decide_eq_true hb;omega
   have wi:i <(fV ind ls).length:=by rw[kh];exact ax
   have J0:((fV ind ls).take i).length=i:=by simp[kh];omega
   have Ww:=Bc (ind:=ind) ax wi
   have Xr:((fV ind ls).take i++ls.drop i)[i]'(by simp[kh];omega)=ls[i]:=by rw[List.getElem_append_right (by omega)];simp[J0]
   have ic:ls.drop i=ls[i]::ls.drop (i+1):=List.drop_eq_getElem_cons ax
   have Wv:=FO ax
   have same:(fV ind ls)[i]=ls[i]->(fV ind ls).take i++ls.drop i=(fV ind ls).take (i+1)++ls.drop (i+1):=λe=>by rw[List.take_succ_eq_append_getElem wi,e,ic];simp
   refine di H j O λh H j Y=>ba (ag.iZ O O O O O O (Int.natCast_nonneg _) (by omega)) O <| kV (ag.mH O O O O O j.1 (np (i:=i) (by simp[kh];omega) (by simp))) O ?_;rw[Xr];refine di H j O λh H j Y=>aj O (λej=>?_) (λej=>?_)
   .have i0:0 <i:=by have:=of_decide_eq_true ej;omega
    refine di H j O λh H j Y=>af O (λaT=>?_) λaT=>?_
    .have n0:0 <ind:=of_decide_eq_true aT
     refine di H j O λh H j Y=>?_;have DG:(if((ls[i].length:Nat):Int) <ind then((ls[i].length:Nat):Int)else ind).toNat=min ind.toNat ls[i].length:=by split<;>omega
     refine ia (a:=(if((ls[i].length:Nat):Int) <ind then((ls[i].length:Nat):Int)else ind).toNat) (b:=ls[i].length) O O O O (if_pos (by split<;>omega)) O (by rw[DG];omega) (Nat.le_refl _) O ?_;rw[DG,List.take_length];refine ba (ag.iZ O O O O O O (Int.natCast_nonneg _) (by omega)) O <| y7 H (by simp) Wu j O O O O O O (by simp[cW,kh];omega) (by simp;omega) ?_;clear H j;intro h H j;rw[yI (i:=i) (by simp)]at j;refine di H j O λh H j Y=>?_;refine again (i+1) (by omega) (HQ.mk O ⟨O,O,O,O,vi (wr ax),trivial⟩) ⟨H,?_,by omega⟩;have e5:((fV ind ls).take i++ls.drop i).take i++[ls[i].drop (min ind.toNat ls[i].length)]++((fV ind ls).take i++ls.drop i).drop (i+1)=(fV ind ls).take (i+1)++ls.drop (i+1):=by rw[List.take_succ_eq_append_getElem wi,Ww,if_neg (by omega),List.take_left' J0,<-List.drop_drop,List.drop_left' J0,ic];unfold CV;rw[if_pos n0];simp
     rw[<-e5];exact j
    .have n0:¬ 0 <ind:=of_decide_eq_false aT
     refine di H j O λh H j Y=>?_;refine again (i+1) (by omega) (HQ.mk O ⟨O,O,O,O,vi (wr ax),trivial⟩) ⟨H,?_,by omega⟩;rw[<-same (by rw[Ww,if_neg (by omega)];unfold CV;rw[if_neg n0])];exact j
   .have i0:i=0:=by have:=of_decide_eq_false ej;omega
    refine nr [90] H j O λh H j Y=>?_;refine again (i+1) (by omega) (HQ.mk O ⟨O,O,O,O,vi (wr ax),trivial⟩) ⟨H,?_,by omega⟩;rw[<-same (by rw[Ww,if_pos i0])];exact j
  .have fH:i=ls.length:=by have:=of_decide_eq_false hb;omega
   have hj:(fV ind ls).take i++ls.drop i=fV ind ls:=by rw[fH,List.drop_length,List.take_of_length_le (by rw[kh];exact Nat.le_refl _),List.append_nil]
   rw[hj]at j;clear hj;have Dm:(fV ind ls).length=ls.length:=kh ind ls;have Jn:∀l∈fV ind ls,l.length<=s.length:=λl hm=>by
    obtain⟨q,hq,rfl⟩:=List.getElem_of_mem hm;rw[Bc (by omega) hq];have:=FO (i:=q) (by omega);split
    .exact this
    .unfold CV;split
     .simp;omega
     .exact this
   revert j Dm Jn;generalize fV ind ls=all;intro j Dm Jn;refine di H j O λh H j Y=>aC 123 (λq:AV×List ak=>q.2.length) (λq=>[(3,q.1)])
    (λq h'=>HI h0 [] h' []/\At h' r (.row ls.length (cW all))/\Nw r q.1 all q.2/\q.2.dropWhile dV=all.dropWhile dV) (λq:AV×List ak=>[(3,q.1)])
    (λq h'=>HI h0 [] h' []/\At h' r (.row ls.length (cW all))/\Nw r q.1 all q.2/\q.2=all.dropWhile dV) (.sl r 0 ls.length ls.length false,all) O ⟨H,j,.inr ⟨0,ls.length,by simp only[Dm],Nat.le_of_eq Dm,by simp,by simp⟩,O⟩ ?_ ?_
   .clear H j;rintro⟨y,rest⟩ h ⟨H,j,L,e⟩ again done;simp only at L e;rcases L with⟨rfl,rfl⟩|⟨off,c,rfl,l1,l2,l3⟩
    .exact nr [92,90] H j O λh H j Y=>done (.vec .none 1 [],[]) O ⟨H,j,.inl ⟨O,O⟩,e⟩
    .refine di H j O λh H j Y=>aR O (λhb=>?_) (λhb=>?_)
     .have ax:0 <rest.length:=by have:=of_decide_eq_true hb;omega
      obtain⟨g1,g2⟩:=Nw.get (r:=r) (y:= .ao) l3 ax;simp only[Nat.add_zero]at g1 g2;have Wv:rest[0].length<=s.length:=by rw[<-g2];exact Jn _ (List.getElem_mem _)
      have Wx:∀n,n=off+0->AV.ld false 1 (cW all) n=some (.str rest[0]):=λn hn=>by rw[<-g2];exact np g1 (by omega)
      have Rm:rest=rest[0]::rest.drop 1:=by have:=List.drop_eq_getElem_cons ax;simpa using this
      refine di H j O λh H j Y=>bp (ag.iZ O O O O O O (Int.le_refl 0) (by omega)) O <| yY (ag.mH O O O O O j.1 (Wx _ O)) O <| bG O call163 (kM rest[0] (by omega)) <| di H j O λh H j Y=>bp (ag.iZ O O O O O O (Int.le_refl 0) (by omega)) O <| yY (ag.mH O O O O O j.1 (Wx _ O)) O <| di H j O λh H j Y=>af O (λaT=>?_) λaT=>?_
      .have jP:dV rest[0]=true:=by have:=of_decide_eq_true aT;simp[dV];omega
       have e2:(rest.drop 1).dropWhile dV=all.dropWhile dV:=by rw[<-e,Rm,List.dropWhile_cons,jP];simp
       refine di H j O λh H j Y=>?_
       by_cases h1:rest.length=1
       .refine kV (ag.Nv O O O O O (by rw[h1];rfl)) rfl ?_;refine di H j O λh H j Y=>?_;have e3:rest.drop 1=[]:=List.drop_of_length_le (by omega);exact again (.vec .none 1 [],[]) (by simp only[List.length_nil];omega) O ⟨H,j,.inl ⟨O,O⟩,by rw[<-e3];exact e2⟩
       .refine ba (ag.gA O O O O O O O (by show 1<=rest.length;omega) l1 (.inl (by show 1 <c;omega))) O ?_;refine di H j O λh H j Y=>?_;refine again (.sl r (off+1) (rest.length -1) (c -1) false,rest.drop 1) (by simp only[List.length_drop];omega) O ⟨H,j,.inr ⟨off+1,c -1,by simp,by simp;omega,by simp;omega,?_⟩,e2⟩;simp only[List.length_drop]
        conv=>lhs;rw[l3]
        rw[List.drop_take,List.drop_drop]
      .have jP:dV rest[0]=false:=by have:=of_decide_eq_false aT;simp[dV];omega
       refine di H j O λh H j Y=>done (.sl r off rest.length c false,rest) O ⟨H,j,.inr ⟨off,c,O,l1,l2,l3⟩,?_⟩;rw[<-e,Rm,List.dropWhile_cons,jP];simp
     .have ax:rest=[]:=by have:=of_decide_eq_false hb;exact List.length_eq_zero_iff.1 (by omega)
      refine nr [90] H j O λh H j Y=>?_;exact done (.sl r off rest.length c false,rest) O ⟨H,j,.inr ⟨off,c,O,l1,l2,l3⟩,by rw[ax]at e|-;exact e⟩
   clear H j;rintro⟨y0,IX⟩ h ⟨H,j,L,e⟩;simp only at L e;rw[<-e];clear e;refine di H j O λh H j Y=>aC 123 (λq:AV×List ak=>q.2.length) (λq=>[(3,q.1)])
    (λq h'=>HI h0 [] h' []/\At h' r (.row ls.length (cW all))/\Nw r q.1 all q.2/\trimB q.2=trimB IX) (λq:AV×List ak=>[(3,q.1)])
    (λq h'=>HI h0 [] h' []/\At h' r (.row ls.length (cW all))/\Nw r q.1 all q.2/\q.2=trimB IX) (y0,IX) O ⟨H,j,L,O⟩ ?_ ?_
   .clear H j L;rintro⟨y,rest⟩ h ⟨H,j,L,e⟩ again done;simp only at L e;rcases L with⟨rfl,rfl⟩|⟨off,c,rfl,l1,l2,l3⟩
    .exact nr [92,90] H j O λh H j Y=>done (.vec .none 1 [],[]) O ⟨H,j,.inl ⟨O,O⟩,e⟩
    .refine di H j O λh H j Y=>aR O (λhb=>?_) (λhb=>?_)
     .have ax:0 <rest.length:=by have:=of_decide_eq_true hb;omega
      have Rn:rest.length -1 <rest.length:=by omega
      obtain⟨g1,g2⟩:=Nw.get (r:=r) (y:= .ao) l3 Rn;have Wv:rest[rest.length -1].length<=s.length:=by rw[<-g2];exact Jn _ (List.getElem_mem _)
      have e1:IntKind.i64.wrap ((rest.length:Int) -1)=((rest.length -1:Nat):Int):=wI (by omega);have e2:(IntKind.i64.wrap ((rest.length:Int) -1)).toNat=rest.length -1:=by rw[e1];simp
      have Wx:∀n,n=off+(IntKind.i64.wrap ((rest.length:Int) -1)).toNat->AV.ld false 1 (cW all) n=some (.str rest[rest.length -1]):=λn hn=>by rw[<-g2];exact np g1 (by rw[hn,e2])
      have pa:rest=rest.take (rest.length -1)++[rest[rest.length -1]]:=by rw[<-List.take_succ_eq_append_getElem Rn,List.take_of_length_le (by omega)]
      refine di H j O λh H j Y=>bp (ag.iZ O O O O O O (by show 0<=IntKind.i64.wrap ((rest.length:Int) -1);omega) (by show IntKind.i64.wrap ((rest.length:Int) -1) <(rest.length:Int);omega)) O ?_;refine yY (ag.mH O O O O O j.1 (Wx _ O)) O <| bG O call163 (kM rest[rest.length -1] (by omega)) <| di H j O λh H j Y=>bp (ag.iZ O O O O O O (by show 0<=IntKind.i64.wrap ((rest.length:Int) -1);omega) (by show IntKind.i64.wrap ((rest.length:Int) -1) <(rest.length:Int);omega)) O ?_;refine yY (ag.mH O O O O O j.1 (Wx _ O)) O <| di H j O λh H j Y=>af O (λaT=>?_) λaT=>?_
      .have jP:dV rest[rest.length -1]=true:=by have:=of_decide_eq_true aT;simp[dV];omega
       have e3:trimB (rest.take (rest.length -1))=trimB IX:=by
        rw[<-e];conv=>rhs;rw[pa]
        rw[oM,if_pos jP]
       refine di H j O λh H j Y=>?_;refine ba (ag.gA (l:=0) (hh:=rest.length -1) O O O O O O (by show(if 0<=IntKind.i64.wrap ((rest.length:Int) -1)then some (IntKind.i64.wrap ((rest.length:Int) -1)).toNat else none)=_;rw[if_pos (by omega),e2]) (Nat.zero_le _) (by omega) (.inr O)) O ?_;refine di H j O λh H j Y=>?_;refine again (.sl r (off+0) (rest.length -1 -0) (c -0) false,rest.take (rest.length -1)) (by simp;omega) O ⟨H,j,.inr ⟨off,c,by simp,by simp;omega,by simp;omega,?_⟩,e3⟩;rw[Qi l3 (by simp)]
       congr 1;simp
      .have jP:dV rest[rest.length -1]=false:=by have:=of_decide_eq_false aT;simp[dV];omega
       refine di H j O λh H j Y=>done (.sl r off rest.length c false,rest) O ⟨H,j,.inr ⟨off,c,O,l1,l2,l3⟩,?_⟩;rw[<-e];conv=>rhs;rw[pa]
       rw[oM,if_neg (by rw[jP];simp)];exact pa
     .have ax:rest=[]:=by have:=of_decide_eq_false hb;exact List.length_eq_zero_iff.1 (by omega)
      refine nr [90] H j O λh H j Y=>?_;exact done (.sl r off rest.length c false,rest) O ⟨H,j,.inr ⟨off,c,O,l1,l2,l3⟩,by rw[ax]at e|-;exact e⟩
   clear H j L;rintro⟨y,rest⟩ h ⟨H,j,L,e⟩;simp only at L e;rw[<-e];clear e;rcases L with⟨rfl,rfl⟩|⟨off,c,rfl,l1,l2,l3⟩
   .refine di H j O λh H j Y=>TV (I7 ?_);exact nr [90] H j O λh H j Y=>ab [] H O (Qk H O)
   .refine di H j O λh H j Y=>fg (λi:Nat=>rest.length -i) 123 (λi=>[(10,.str (gF (rest.take i))),(107,.sl r off rest.length c false),(108,.int .i64 (rest.length:Nat)),(109,.int .i64 i)])
     (λi h'=>HI h0 [] h' []/\At h' r (.row ls.length (cW all))/\i<=rest.length) 0 O ⟨H,j,by simp⟩ ?_
    clear H j;clear hi fH hb again;rintro k h ⟨H,j,hi⟩ again;refine di H j O λh H j Y=>af O (λhb=>?_) λhb=>?_
    .have ax:k <rest.length:=by have:=of_decide_eq_true hb;omega
     obtain⟨g1,g2⟩:=Nw.get (r:=r) (y:= .ao) l3 ax;have e1:IntKind.i64.wrap ((k:Int)+1)=((k+1:Nat):Int):=wI (by omega);have Ud:gF (rest.take (k+1))=if k=0 then rest[k]else gF (rest.take k)++10::rest[k]:=by
      rw[List.take_succ_eq_append_getElem ax,Hx];have:(rest.take k=[])=(k=0):=by
       have:rest≠[]:=λe=>by rw[e]at ax;simp at ax
       simp[this]
      simp only[this]
     have RV:∀l∈rest,l.length<=1000000000:=λl hm=>by rw[l3]at hm;have:=Jn l (List.mem_of_mem_drop (List.mem_of_mem_take hm));omega
     have hkl:rest[k].length<=1000000000:=RV _ (List.getElem_mem ax);have OV:(gF (rest.take k)).length<=1000000001*1000000001:=Nat.le_trans (Bd λl hm=>RV l (List.mem_of_mem_take hm)) (Nat.mul_le_mul_right _ (by simp;omega));refine di H j O λh H j Y=>ba (ag.iZ O O O O O O (Int.natCast_nonneg _) (by omega)) O <| kV (ag.mH O O O O O j.1 (np g1 (by simp))) O ?_;rw[g2];refine di H j O λh H j Y=>af O (λaT=>?_) λaT=>?_
     .have k0:¬ k=0:=by have:=of_decide_eq_true aT;omega
      refine TX 2 [] [] H j O λh H j Y=>ba (ag.TC O O O O (by show _+1 <_;omega)) O ?_;refine TX 6 [] [] H j O λh H j Y=>ba (ag.TC O O O O (by simp only[List.length_append,List.length_cons,List.length_nil];omega)) O ?_;refine di H j O λh H j Y=>?_;exact again (k+1) (by omega) (HQ.mk O ⟨vs (by rw[Ud,if_neg k0];simp),O,O,vi e1,trivial⟩) ⟨H,j,by omega⟩
     .have k0:k=0:=by have:=of_decide_eq_false aT;omega
      refine TX 5 [] [] H j O λh H j Y=>ba (ag.TC O O O O (by omega)) O <| di H j O λh H j Y=>?_;exact again (k+1) (by omega) (HQ.mk O ⟨vs (by rw[Ud,if_pos k0];subst k0;rfl),rfl,rfl,vi e1,trivial⟩) ⟨H,j,by omega⟩
    .have fH:k=rest.length:=by have:=of_decide_eq_false hb;omega
     exact di H j O λh H j Y=>ab [] H O (Qk H (by rw[fH,List.take_length]))
end
theorem Ny (r:Int):(tU r).length<=4:=by
 unfold tU Utf8.encode;simp only;generalize(if Utf8.valid r then r.toNat else Utf8.runeError)=c
 by_cases h1:c <128
 .rw[if_pos h1];simp
 rw[if_neg h1]
 by_cases h2:c <2048
 .rw[if_pos h2];simp
 rw[if_neg h2]
 by_cases h3:c <65536
 .rw[if_pos h3];simp
 rw[if_neg h3];simp
theorem yK:∀rs:List Int,(dG rs).length<=4*rs.length
 |[]=>by simp[dG]
 |r::rs=>by
  have:=yK rs
  have:=Ny r
  simp only[dG,List.map_cons,List.flatten_cons,List.length_append,List.length_cons]at*;omega
def q3 (rs:List Int) (q:Nat):Prop:=pk rs q=34/\pk rs (q+1)=34/\pk rs (q+2)=34
instance (rs:List Int) (q:Nat):Decidable (q3 rs q):=by unfold q3;infer_instance
def fc (rs:List Int):Nat->Nat->List Int->Option (List Int×Nat)
 |0,_,_=>none
 |f+1,q,acc=>if rs.length<=q then none else if q3 rs q then some (acc,q+3)else if pk rs q=92/\q3 rs (q+1)then fc rs f (q+4) (acc++[34,34,34])
  else if jf (pk rs q)=false then none else fc rs f (q+1) (acc++[pk rs q])
theorem oN {rs:List Int}:∀(f g q:Nat) (acc:List Int),rs.length <f+q->rs.length <g+q->fc rs f q acc=fc rs g q acc:=by
 intro f
 induction f with
 |zero=>
  intro g q acc hf hg
  cases g with|zero=>rfl|succ g=>show none=_;unfold fc;rw[if_pos (by omega)]
 |succ f ih=>
  intro g q acc hf hg
  cases g with
  |zero=>show _=none;unfold fc;rw[if_pos (by omega)]
  |succ g=>
   unfold fc;split;rfl;split;rfl;split
   .exact ih g _ _ (by omega) (by omega)
   split;rfl;exact ih g _ _ (by omega) (by omega)
def yL (rs:List Int) (k:Nat):Option (List Tok×Nat):=(fc rs (rs.length+1) (k+3) []).map λp=>if kg (dG p.1)=true/\¬ pk rs p.2=34 then([⟨20,Ku (lN false [] (dG p.1))⟩],p.2)else([⟨0,[]⟩],k+1)
theorem NA {rs:List Int}:∀(f q:Nat) (acc:List Int) (p:List Int×Nat),fc rs f q acc=some p->q <p.2:=by
 intro f
 induction f with
 |zero=>intro q acc p h;cases h
 |succ f ih=>
  intro q acc p h;unfold fc at h;split at h;cases h;split at h
  .injection h with h
   rw[<-h];simp
  split at h
  .have:=ih _ _ _ h
   omega
  split at h;cases h;have:=ih _ _ _ h;omega
theorem TE {rs:List Int} {k k':Nat} {new:List Tok} (h:yL rs k=some (new,k')):k <k':=by
 unfold yL at h
 cases hp:fc rs (rs.length+1) (k+3) []with
 |none=>rw[hp]at h;cases h
 |some p=>
  rw[hp]at h;injection h with h
  have:=NA _ _ _ _ hp;replace h:(if kg (dG p.1)=true/\¬ pk rs p.2=34 then([⟨20,Ku (lN false [] (dG p.1))⟩],p.2)else([⟨0,[]⟩],k+1))=(new,k'):=h;split at h
  .injection h with h1 h2
   omega
  .injection h with h1 h2
   omega
section
variable {h h0 h2 hb:AH} {o k:Nat} {rs:List Int} {z:AV} {s:Bool} {seen:Nat} {line fr:Int} {ts:List Tok}
theorem Fb (L:qo hb h0 o rs k s ts) (hl:rs.length<=1048576) (yf:ts.length<=1048576) (hk:k <rs.length):
 al prog 90 [.ptr o 0] h0 (TQ hb o rs k s ts h0 (yL rs k)):=by
 obtain⟨ho,hn,z,es,line,fr,seen,hg,G0,hR,pa⟩:=L;have vF:=hR.len;refine az (n:=125) (rs:=[.tmp 2]) [] ⟨func90,O,O,O⟩ O ?_;have H:HI h0 [o] h0 [(o,jk rs k z s seen line fr)]:=HI.one hg ho;have no:∀{h:AH} {a:Int},HI h0 [o] h [(o,jk rs a z s seen line fr)]->(s=true->fc rs (rs.length+1) (k+3) []=none)->TQ hb o rs k s ts h0 (yL rs k) (.bool false) h:=λH hs=>⟨H.kp.nS hn,false,_,O,(λh=>by cases h),λ_=>⟨⟨_,_,_,_,_,H.at_.2,H.at_.1⟩,λh=>⟨h,by unfold yL;rw[hs h];rfl⟩⟩⟩
 refine ah H O λh H Y=>?_;have H2:=CN (c:=3) H (by omega) (by omega);clear H;have H:=H2;clear H2;refine aC 125 (λq:Nat×List Int×AV=>rs.length+3 -q.1) (λq=>[(0,.ptr o 0),(2,.bool false),(3,.int .i64 (k:Nat)),(4,q.2.2)])
  (λq h'=>HI h0 [o] h' [(o,jk rs (q.1:Nat) z s seen line fr)]/\aG h0 h' 1 q.2.2 (q.2.1.map dD)/\k <q.1/\q.1<=rs.length+3/\q.2.1.length<=q.1/\fc rs (rs.length+1) (k+3) []=fc rs (rs.length+1) q.1 q.2.1)
  (λ_:Unit=>[])
  (λ_ h'=>∃q:Nat,HI h0 [o] h' [(o,jk rs (q:Nat) z s seen line fr)]/\(s=true->fc rs (rs.length+1) (k+3) []=none)) (k+3,[],.ao) O ⟨H,.inl ⟨O,O⟩,by simp only;omega,by simp only;omega,by simp,O⟩ ?_ ?_
 .clear H;rintro⟨q,acc,y⟩ h ⟨H,G,Ez,pj,Dm,hS⟩ again done;simp only at H G Ez pj Dm hS;have iw:∀{X:Option (List Int×Nat)},fc rs (rs.length+1) q acc=X->fc rs (rs.length+1) (k+3) []=X:=λe=>hS.trans e
  refine aH H G O λh H G Y=>af O (λej=>?_) λej=>?_
  .have ax:q <rs.length:=by have:=of_decide_eq_true ej;simp at this;omega
   have eg:fc rs (rs.length+1) q acc=if q3 rs q then some (acc,q+3)else if pk rs q=92/\q3 rs (q+1)then fc rs rs.length (q+4) (acc++[34,34,34])
    else if jf (pk rs q)=false then none else fc rs rs.length (q+1) (acc++[pk rs q]):=by
    show(if rs.length<=q then none else _)=_
    rw[if_neg (by omega)]
   refine aH H G O λh H G Y=>bp (ag.indexAddr O O O O O O (Int.natCast_nonneg _) (by rw[Int.toNat_natCast];exact lz ax)) O ?_;refine Af 4 [] [] H G O λh H G Y=>cV 125 (λb:Bool=>[(0,.ptr o 0),(2,.bool false),(3,.int .i64 (k:Nat)),(4,y),(5,.int .i32 (pk rs q)),(6,.bool b)]) (λb h'=>HI h0 [o] h' [(o,jk rs (q:Nat) z s seen line fr)]/\aG h0 h' 1 y (acc.map dD)/\b=decide (q3 rs q)) (λJ=>?_) ?_
   .refine aH H G O λh H G Y=>aj O (λaT=>?_) (λaT=>?_)
    .have e0:pk rs q=34:=of_decide_eq_true aT
     refine aH H G O λh H G Y=>ae O call86 (bn H.at_.1 H.at_.2 hl (by omega) (n:=1) (by omega)) ?_;rintro v h2 ⟨kp,rfl⟩;replace H:=H.same kp;replace G:=G.kp kp;refine aH H G O λh H G Y=>aj O (λbZ=>?_) (λbZ=>?_)
     .have e1:pk rs (q+1)=34:=of_decide_eq_true bZ
      refine aH H G O λh H G Y=>ae O call86 (bn H.at_.1 H.at_.2 hl (by omega) (n:=2) (by omega)) ?_;rintro v h2 ⟨kp,rfl⟩;replace H:=H.same kp;replace G:=G.kp kp;refine aH H G O λh H G Y=>J _ O ⟨H,G,?_⟩;simp only[q3,e0,e1,true_and];rfl
     .have e1:¬ pk rs (q+1)=34:=of_decide_eq_false bZ
      refine aH H G O λh H G Y=>?_;exact J false O ⟨H,G,by simp[q3,e1]⟩
    .have e0:¬ pk rs q=34:=of_decide_eq_false aT
     refine bm [92] H G O λh H G Y=>?_;exact J false O ⟨H,G,by simp[q3,e0]⟩
   clear H G;rintro b h ⟨H,G,Rh⟩;refine aH H G O λh H G Y=>af O (λfS=>?_) λfS=>?_
   .have hq:q3 rs q:=by
     have:b=true:=fS
     rw[this]at Rh;exact of_decide_eq_true Rh.symm
    have Wy:q+2 <rs.length:=pb (by rw[hq.2.2];decide)
    have gW:=iw eg
    rw[if_pos hq]at gW;have tM:=yK acc;refine Af 12 [] [] H G O λh H G Y=>?_;have H2:=CN (c:=3) H (by omega) (by omega);clear H;have H:=H2;clear H2;refine cV 125 (λs':Bool=>[(0,.ptr o 0),(3,.int .i64 (k:Nat)),(4,y)]) (λs' h'=>HI h0 [o] h' [(o,jk rs ((q+3:Nat):Int) z s' seen line fr)]/\aG h0 h' 1 y (acc.map dD)/\(s'=true->s=true/\kg (dG acc)=true/\¬ pk rs (q+3)=34)) (λJ=>?_) ?_
    .refine aH H G O λh H G Y=>aj O (λfU=>?_) (λfU=>?_)
     .have es:s=true:=fU
      subst es;refine aH H G O λh H G Y=>ba (ag.yC G O O O O O O) O <| aH H G O λh H G Y=>aF O call132 (Ks (dG acc) (by omega)) <| aH H G O λh H G Y=>aj O (λoY=>?_) (λoY=>?_)
      .have e8:kg (dG acc)=true:=oY
       refine aH H G O λh H G Y=>ae O call86 (bn H.at_.1 H.at_.2 hl (by omega) (n:=0) (by omega)) ?_;rintro v h2 ⟨kp,rfl⟩;replace H:=H.same kp;replace G:=G.kp kp;refine aH H G O λh H G Y=>?_;exact J _ O ⟨H,G,λh=>⟨O,e8,by simpa using h⟩⟩
      .refine aH H G O λh H G Y=>?_;exact J false O ⟨H,G,λh=>by cases h⟩
     .have es:s=false:=fU
      subst es;refine bm [92] H G O λh H G Y=>?_;exact J false O ⟨H,G,λh=>by cases h⟩
    clear H G;rintro s' h ⟨H,G,Dn⟩;refine aH H G O λh H G Y=>ba (ag.yC G O O O O O O) O <| aH H G O λh H G Y=>aF O call133 (yJ (dG acc) (by omega)) ?_;refine aH H G O λh H G Y=>have wC:=H.kp.nt;ae O call84 (kc (hb:=hb) (kind:=19) (start:=k) ⟨H.at_.2,by omega,z,es,line,fr,seen,H.at_.1,G0.kp H.kp,hR,pa⟩ hl yf (by omega)) ?_;rintro v h2 ⟨kp,rfl,L2⟩;obtain⟨z2,lT,vR,kX,vT,H2,G2,Hr,nk⟩:=qo.view ((H.kp.nS hn).aw kp) L2;clear H G;have H:=H2;have G:=G2;clear H2 G2;refine aH H G O λh H G Y=>ab [] H O (TQ.yes H.kp (qo.mk' H G Hr nk) (by omega) (by omega) (by simp) (λt ht=>?_) λh=>⟨(Dn h).1,?_⟩)
    .rw[List.mem_singleton]at ht;subst ht;exact⟨by simp,λ_=> .inr (.inr (.inl O))⟩
    .unfold yL;rw[gW];simp only[Option.map_some];rw[if_pos ⟨(Dn h).2.1,(Dn h).2.2⟩]
   .have hq:¬ q3 rs q:=by
     have:b=false:=fS
     rw[this]at Rh;exact of_decide_eq_false Rh.symm
    rw[if_neg hq]at eg;refine cV 125 (λb:Bool=>[(0,.ptr o 0),(2,.bool false),(3,.int .i64 (k:Nat)),(4,y),(5,.int .i32 (pk rs q)),(93,.bool b)]) (λb h'=>HI h0 [o] h' [(o,jk rs (q:Nat) z s seen line fr)]/\aG h0 h' 1 y (acc.map dD)/\b=decide (pk rs q=92/\q3 rs (q+1))) (λJ=>?_) ?_
    .refine aH H G O λh H G Y=>aj O (λaT=>?_) (λaT=>?_)
     .have e0:pk rs q=92:=of_decide_eq_true aT
      refine aH H G O λh H G Y=>ae O call86 (bn H.at_.1 H.at_.2 hl (by omega) (n:=1) (by omega)) ?_;rintro v h2 ⟨kp,rfl⟩;replace H:=H.same kp;replace G:=G.kp kp;refine aH H G O λh H G Y=>aj O (λbZ=>?_) (λbZ=>?_)
      .have e1:pk rs (q+1)=34:=of_decide_eq_true bZ
       refine aH H G O λh H G Y=>ae O call86 (bn H.at_.1 H.at_.2 hl (by omega) (n:=2) (by omega)) ?_;rintro v h2 ⟨kp,rfl⟩;replace H:=H.same kp;replace G:=G.kp kp;refine aH H G O λh H G Y=>aj O (λgp=>?_) (λgp=>?_)
       .have e2:pk rs (q+1+1)=34:=of_decide_eq_true gp
        refine aH H G O λh H G Y=>ae O call86 (bn H.at_.1 H.at_.2 hl (by omega) (n:=3) (by omega)) ?_;rintro v h2 ⟨kp,rfl⟩;replace H:=H.same kp;replace G:=G.kp kp;refine aH H G O λh H G Y=>J _ O ⟨H,G,?_⟩;simp only[q3,e0,e1,e2,true_and];rfl
       .have e2:¬ pk rs (q+1+1)=34:=of_decide_eq_false gp
        refine aH H G O λh H G Y=>?_;exact J false O ⟨H,G,by simp[q3,e2]⟩
      .have e1:¬ pk rs (q+1)=34:=of_decide_eq_false bZ
       refine bm [92] H G O λh H G Y=>?_;exact J false O ⟨H,G,by simp[q3,e1]⟩
     .have e0:¬ pk rs q=92:=of_decide_eq_false aT
      refine bm [92,92] H G O λh H G Y=>?_;exact J false O ⟨H,G,by simp[e0]⟩
    clear H G;rintro b2 h ⟨H,G,Ql⟩;refine af O (λlv=>?_) λlv=>?_
    .have pj:pk rs q=92/\q3 rs (q+1):=by
      have:b2=true:=lv
      rw[this]at Ql;exact of_decide_eq_true Ql.symm
     rw[if_pos pj]at eg;have Wy:q+1+2 <rs.length:=pb (by rw[pj.2.2.2];decide);refine aH H G O λh H G Y=>eK H O O O O O O O G ?_ ?_
     .show((acc.map dD).length+3)*(4+1)<=140737488355328
      simp;omega
     clear H G;intro x9 h H G n_;refine aH H G O λh H G Y=>?_;have H2:=CN (c:=4) H (by omega) (by omega);refine again (q+4,acc++[34,34,34],x9) (by simp only;omega) O ⟨H2,by simpa[dD]using G,by simp only;omega,by simp only;omega,by simp;omega,(iw eg).trans (oN _ _ _ _ (by omega) (by omega))⟩
    .have pj:¬ (pk rs q=92/\q3 rs (q+1)):=by
      have:b2=false:=lv
      rw[this]at Ql;exact of_decide_eq_false Ql.symm
     rw[if_neg pj]at eg;refine aH H G O λh H G Y=>aF O call83 (oH _) <| aH H G O λh H G Y=>af O (λCb=>?_) λCb=>?_
     .have e3:jf (pk rs q)=false:=by simpa using Cb
      rw[if_pos e3]at eg;exact aH H G O λh H G Y=>ab [] H O (no H λ_=>iw eg)
     .have e3:¬ jf (pk rs q)=false:=by simpa using Cb
      rw[if_neg e3]at eg;refine aH H G O λh H G Y=>eK H O O O O O O O G ?_ ?_
      .show((acc.map dD).length+1)*(4+1)<=140737488355328
       simp;omega
      clear H G;intro x9 h H G n_;refine aH H G O λh H G Y=>?_;have H2:=CN (c:=1) H (by omega) (by omega);exact again (q+1,acc++[pk rs q],x9) (by simp only;omega) O ⟨H2,by simpa[dD]using G,by simp only;omega,by simp only;omega,by simp;omega,(iw eg).trans (oN _ _ _ _ (by omega) (by omega))⟩
  .have fH:rs.length<=q:=by have:=of_decide_eq_false ej;simp at this;omega
   exact aH H G O λh H G Y=>done () O ⟨q,H,λ_=>iw (if_pos fH)⟩
 .clear H;rintro _ h ⟨q,H,hS⟩;exact ah H O λh H Y=>ab [] H O (no H hS)
end
def jg (c:UInt8):Int:=iD (c.toNat:Int)
def Wz (c:UInt8):AV:= .cN [.int .i32 (if 0<=jg c then jg c else 0),.bool (decide (0<=jg c))]
section
variable {h h0:AH}
theorem ub (c:UInt8):∀h0:AH,aP prog 196 [.int .u8 c.toNat] h0 (Wz c) h0:=by
 intro h0;refine aP.pure (.cN _ (by simp;exact⟨.int _ _,.bool _⟩)) ?_;refine az (n:=36) (rs:=[.tmp 2,.tmp 3]) [] ⟨func196,O,O,O⟩ O ?_;have H:HI h0 [] h0 []:=HI.nil;have hc:=UInt8.toNat_lt c;have SE:(c.toNat:Int) <256:=by omega
 have Pk:0<=(c.toNat:Int):=by omega
 have fin:∀{h:AH} {a:Int} {b:Bool},HI h0 [] h []->a=(if 0<=jg c then jg c else 0)->b=decide (0<=jg c)->Kp [] h0 h/\∀(g:Gh) (w:World) (u:Value),VR g w (.cN [.int .i32 a,.bool b]) u->VR g w (Wz c) u:=λH e1 e2=>⟨H.kp,by rw[e1,e2];exact λ_ _ _ h=>h⟩
 unfold jg at fin;generalize(c.toNat:Int)=n at*;have w0:∀m:Int,0<=m->m <256->IntKind.i32.wrap (IntKind.u8.wrap m)=m:=λm h1 h2=>by rw[wrap_u8,wrap_i32 (by omega) (by omega)];omega
 have w1:∀m:Int,0<=m->m <200->IntKind.i32.wrap (IntKind.u8.wrap (IntKind.u8.wrap m+10))=m+10:=λm h1 h2=>by rw[wrap_u8 m,wrap_u8,wrap_i32 (by omega) (by omega)];omega
 have r0:48<=n->n<=57->iD n=n -48:=λh1 h2=>by unfold iD;rw[if_pos (by simp[gj];omega)]
 have r1:97<=n->n<=102->iD n=n -97+10:=λh1 h2=>by unfold iD;rw[if_neg (by simp[gj];omega),if_pos ⟨h1,h2⟩]
 have r2:65<=n->n<=70->iD n=n -65+10:=λh1 h2=>by unfold iD;rw[if_neg (by simp[gj];omega),if_neg (by omega),if_pos ⟨h1,h2⟩]
 have r3:¬ (48<=n/\n<=57)->¬ (97<=n/\n<=102)->¬ (65<=n/\n<=70)->iD n= -1:=λh1 h2 h3=>by unfold iD;rw[if_neg (by simp[gj];omega),if_neg h2,if_neg h3]
 refine ah H O λh H Y=>?_
 repeat'(first|(refine aj O (λdK=>?_) (λdK=>?_)<;>first|(cases dK;done)|refine ah H O λh H Y=>?_)|(refine aR O (λdK=>?_) (λdK=>?_)<;>first|(cases dK;done)|refine ah H O λh H Y=>?_)|(refine jI O ?_;refine ah H O λh H Y=>?_)|(refine cX O ?_;refine ah H O λh H Y=>?_)|(refine af O (λ_=>?_) (λ_=>?_)<;>refine ah H O λh H Y=>?_))
 all_goals refine ab [] H O (fin H ?_ ?_)
 all_goals clear H fin
 all_goals simp only[cond_true,cond_false,decide_eq_true_eq,decide_eq_false_iff_not]at*
 all_goals first
  |(rw[r0 (by omega) (by omega)];first|(rw[w0 (n -48) (by omega) (by omega),if_pos (by omega)])|(symm;rw[decide_eq_true_iff];omega))
  |(rw[r1 (by omega) (by omega)];first|(rw[w1 (n -97) (by omega) (by omega),if_pos (by omega)])|(symm;rw[decide_eq_true_iff];omega))
  |(rw[r2 (by omega) (by omega)];first|(rw[w1 (n -65) (by omega) (by omega),if_pos (by omega)])|(symm;rw[decide_eq_true_iff];omega))
  |(rw[r3 (by omega) (by omega) (by omega)];rfl)
end
def Kv (a b:Int):Int:=IntKind.i32.wrap ((BitVec.ofInt 32 a |||BitVec.ofInt 32 b).toNat:Int)
theorem Fc (k:Nat) {x y:Nat} (hy:y <2^k) (h:2^k*x+y <2147483648):Kv ((2^k*x:Nat):Int) (y:Int)=((2^k*x+y:Nat):Int):=by
 have e1:(BitVec.ofInt 32 ((2^k*x:Nat):Int)).toNat=2^k*x:=by rw[BitVec.ofInt_natCast,BitVec.toNat_ofNat];omega
 have e2:(BitVec.ofInt 32 (y:Int)).toNat=y:=by rw[BitVec.ofInt_natCast,BitVec.toNat_ofNat];omega
 unfold Kv;rw[BitVec.toNat_or,e1,e2,<-Nat.two_pow_add_eq_or_of_lt hy,wrap_i32 (by omega) (by omega)]
def yM (a d:Int):Int:=Kv (IntKind.i32.wrap (a*16)) d
theorem Be {a d:Int} (h0:0<=a) (h1:a <134217728) (h2:0<=d) (h3:d <16):yM a d=16*a+d:=by
 unfold yM;rw[wrap_i32 (by omega) (by omega)];have:=Fc 4 (x:=a.toNat) (y:=d.toNat) (by omega) (by omega);have e1:((2^4*a.toNat:Nat):Int)=a*16:=by omega
 have e2:((d.toNat:Nat):Int)=d:=by omega
 rw[e1,e2]at this;rw[this];omega
def fQ:ak->Int->Option Int
 |[],a=>some a
 |c::r,a=>if 0<=jg c then fQ r (yM a (jg c))else none
def qs (s:ak):AV:=match fQ s 0 with
 |some v=> .cN [.int .i32 v,.bool true]
 |none=> .cN [.int .i32 0,.bool false]
def sG (v:Int):Bool:=(decide (0<=v)&&decide (v <55296))||(decide (57343 <v)&&decide (v<=1114111))
def pc (b:ak):Nat->Nat->Int->Int×Nat×Bool
 |0,n,_=>(0,n,false)
 |f+1,n,v=>if n <b.length/\n<=8 then(if b.getD n 0=125 then(if n=0\/sG v=false then(0,n+1,false)else(v,n+1,true))else if 0<=jg (b.getD n 0)then pc b f (n+1) (yM v (jg (b.getD n 0)))else(0,n,false))else(0,n,false)
def qt (b:ak):Int×Nat×Bool:=pc b 10 0 0
def Hz (a b:Int):Int:=IntKind.i32.wrap (Kv (IntKind.i32.wrap (IntKind.i32.wrap (a -55296)*1024)) (IntKind.i32.wrap (b -56320))+65536)
theorem NB {a b:Int} (h0:55296<=a) (h1:a <56320) (h2:56320<=b) (h3:b<=57343):0<=Hz a b/\Hz a b<=1114111:=by
 unfold Hz;rw[wrap_i32 (n:=a -55296) (by omega) (by omega),wrap_i32 (n:=(a -55296)*1024) (by omega) (by omega),wrap_i32 (n:=b -56320) (by omega) (by omega)];have:=Fc 10 (x:=(a -55296).toNat) (y:=(b -56320).toNat) (by omega) (by omega);have e1:((2^10*(a -55296).toNat:Nat):Int)=(a -55296)*1024:=by omega
 have e2:(((b -56320).toNat:Nat):Int)=b -56320:=by omega
 rw[e1,e2]at this;rw[this,wrap_i32 (by omega) (by omega)];omega
section
variable {h h0:AH}
theorem Bf (s:ak) (hs:s.length<=1000000000):∀h0:AH,aP prog 176 [.str s] h0 (qs s) h0:=by
 intro h0;refine aP.pure (by unfold qs;split<;>exact .cN _ (by simp;exact⟨.int _ _,.bool _⟩)) ?_;refine az (n:=27) (rs:=[.tmp 2,.tmp 3]) [] ⟨func176,O,O,O⟩ O ?_;have H:HI h0 [] h0 []:=HI.nil;have fin:∀{h:AH} {v:AV},HI h0 [] h []->v=qs s->Kp [] h0 h/\∀(g:Gh) (w:World) (u:Value),VR g w v u->VR g w (qs s) u:=λH e1=>⟨H.kp,by rw[e1];exact λ_ _ _ h=>h⟩
 refine ah H O λh H Y=>fg (λq:Nat×Int=>s.length -q.1) 27 (λq=>[(0,.str s),(2,.int .i32 q.2),(4,.int .i64 q.1)]) (λq h'=>HI h0 [] h' []/\fQ s 0=fQ (s.drop q.1) q.2) (0,0) O ⟨H,O⟩ ?_
 clear H;rintro⟨q,a⟩ h ⟨H,e⟩ again;simp only at H e;refine ah H O λh H Y=>af O (λhb=>?_) λhb=>?_
 .have ax:q <s.length:=by have:=of_decide_eq_true hb;omega
  have ic:s.drop q=s[q]::s.drop (q+1):=List.drop_eq_getElem_cons ax
  have e1:IntKind.i64.wrap ((q:Int)+1)=((q+1:Nat):Int):=wI (by omega)
  rw[ic]at e;refine KK H O (iF ax) λh H Y=>aF O call196 (ub (s.getD ((q:Nat):Int).toNat 0)) ?_;rw[CU ax];refine ah H O λh H Y=>af O (λaT=>?_) λaT=>?_
  .have hn:¬ 0<=jg s[q]:=by simpa using aT
   refine ah H O λh H Y=>ab [] H O (fin H ?_);unfold qs;rw[e];simp only[fQ,if_neg hn];rfl
  .have hn:0<=jg s[q]:=by simpa using aT
   refine ah H O λh H Y=>again (q+1,yM a (jg s[q])) (by simp only;omega) (HQ.mk O ⟨O,?_,vi e1,trivial⟩) ⟨H,?_⟩
   .show Slot.v (.int .i32 (Kv (IntKind.i32.wrap (a*16)) (if 0<=jg s[q]then jg s[q]else 0)))=_
    rw[if_pos hn];rfl
   .rw[e];simp only[fQ,if_pos hn]
 .have fH:s.length<=q:=by have:=of_decide_eq_false hb;omega
  rw[List.drop_of_length_le fH]at e;exact ah H O λh H Y=>ab [] H O (fin H (by unfold qs;rw[e];rfl))
theorem zY (v:Int):∀h0:AH,aP prog 195 [.int .i32 v] h0 (.bool (sG v)) h0:=by
 intro h0;refine aP.pure (.bool _) ?_;refine az (n:=17) (rs:=[.tmp 2]) [] ⟨func195,O,O,O⟩ O <| have H:HI h0 [] h0 []:=HI.nil;ah H O λh H Y=>?_
 repeat'(first|(refine aj O (λdK=>?_) (λdK=>?_)<;>first|(cases dK;done)|refine ah H O λh H Y=>?_)|(refine aR O (λdK=>?_) (λdK=>?_)<;>first|(cases dK;done)|refine ah H O λh H Y=>?_)|(refine jI O ?_;refine ah H O λh H Y=>?_)|(refine cX O ?_;refine ah H O λh H Y=>?_)|(refine af O (λ_=>?_) (λ_=>?_)<;>refine ah H O λh H Y=>?_))
 all_goals exact ab [] H O (rD H (by clear H;rw[Bool.eq_iff_iff];simp[sG]at*<;>omega))
theorem vh {a b:Int} (h0:55296<=a) (h1:a <56320) (h2:56320<=b) (h3:b<=57343):∀h0:AH,aP prog 177 [.int .i32 a,.int .i32 b] h0 (.int .i32 (Hz a b)) h0:=by
 intro h;refine aP.pure (.int _ _) ?_;refine az (n:=26) (rs:=[.tmp 4]) [] ⟨func177,O,O,O⟩ O <| have H:HI h [] h []:=HI.nil;ah H O λh H Y=>?_;refine aj O (λhb=>?_) (λhb=>by have:=of_decide_eq_false hb;omega);refine ah H O λh H Y=>aj O (λhb=>?_) (λhb=>by have:decide (a <56320)=false:=hb;have:=of_decide_eq_false this;omega);refine ah H O λh H Y=>aj O (λhb=>?_) (λhb=>by have:decide (56320<=b)=false:=hb;have:=of_decide_eq_false this;omega);refine ah H O λh H Y=>af O (λhb=>?_) λhb=>?_
 .exact ah H O λh H Y=>ab [] H O ⟨H.kp,λ_ _ _ h=>h⟩
 .exfalso;have:decide (b <57344)=false:=hb;have:=of_decide_eq_false this;omega
end
def IY (s:ak):AV:= .cN [.int .i32 (qt s).1,.int .i64 ((qt s).2.1:Nat),.bool (qt s).2.2]
theorem Fe {b:ak} {f n:Nat} {v:Int} (h:¬ (n <b.length/\n<=8)):pc b f n v=(0,n,false):=by cases f with|zero=>rfl|succ f=>unfold pc;rw[if_neg h]
theorem IZ {b:ak}:(qt b).2.2=true->0<=(qt b).1/\(qt b).1<=1114111/\(qt b).2.1<=b.length:=by
 have H:∀f n v,(pc b f n v).2.2=true->0<=(pc b f n v).1/\(pc b f n v).1<=1114111/\(pc b f n v).2.1<=b.length:=by
  intro f
  induction f with
  |zero=>intro n v h;cases h
  |succ f ih=>
   intro n v h;unfold pc at h|-;split at h
   .rename_i h1;rw[if_pos h1];split at h
    .rename_i h2;rw[if_pos h2];split at h
     .cases h
     .rename_i h3;rw[if_neg h3];simp[sG]at h3|-;omega
    .rename_i h2;rw[if_neg h2];split at h
     .rename_i h3;rw[if_pos h3];exact ih _ _ h
     .cases h
   .cases h
 exact H 10 0 0
section
variable {h h0:AH}
theorem wz (s:ak) (hs:s.length<=1000000000):∀h0:AH,aP prog 175 [.str s] h0 (IY s) h0:=by
 intro h0;refine aP.pure (.cN _ (by simp;exact⟨.int _ _,.int _ _,.bool _⟩)) ?_;refine az (n:=48) (rs:=[.tmp 2,.tmp 3,.tmp 4]) [] ⟨func175,O,O,O⟩ O ?_;have H:HI h0 [] h0 []:=HI.nil;have fin:∀{h:AH} {a:Int} {n:Nat} {b:Bool} {m:Int},HI h0 [] h []->qt s=(a,n,b)->m=(n:Int)->Kp [] h0 h/\∀(g:Gh) (w:World) (u:Value),VR g w (.cN [.int .i32 a,.int .i64 m,.bool b]) u->VR g w (IY s) u:=λH e1 e2=>⟨H.kp,by unfold IY;rw[e1,e2];exact λ_ _ _ h=>h⟩
 refine ah H O λh H Y=>fg (λq:Nat×Int=>9 -q.1) 48 (λq=>[(0,.str s),(2,.int .i32 q.2),(3,.int .i64 q.1)]) (λq h'=>HI h0 [] h' []/\q.1<=9/\qt s=pc s (10 -q.1) q.1 q.2) (0,0) O ⟨H,by simp,O⟩ ?_
 clear H;rintro⟨q,a⟩ h ⟨H,hq9,e⟩ again;simp only at H hq9 e;refine ah H O λh H Y=>aj O (λhb=>?_) (λhb=>?_)
 .have ax:q <s.length:=by have:=of_decide_eq_true hb;omega
  have e1:IntKind.i64.wrap ((q:Int)+1)=((q+1:Nat):Int):=wI (by omega)
  refine ah H O λh H Y=>af O (λej=>?_) λej=>?_
  .have h8:q<=8:=by have:=of_decide_eq_true ej;omega
   have eg:qt s=if s[q]=125 then(if q=0\/sG a=false then(0,q+1,false)else(a,q+1,true))else if 0<=jg s[q]then pc s (9 -q) (q+1) (yM a (jg s[q]))else(0,q,false):=by
    have hg:s.getD q 0=s[q]:=by rw[List.getD_eq_getElem?_getD,List.getElem?_eq_getElem ax];rfl
    rw[e,show 10 -q=(9 -q)+1 by omega];simp only[pc,hg];rw[if_pos ⟨ax,h8⟩]
   refine KK H O (iF ax) λh H Y=>af O (λaT=>?_) λaT=>?_
   .have c1:s[q]=125:=by simpa using kf ax 125 aT
    rw[if_pos c1]at eg;refine ah H O λh H Y=>aj O (λbZ=>?_) (λbZ=>?_)
    .have q0:q=0:=by
      have:decide (IntKind.i64.wrap ((q:Int)+1)=1)=true:=bZ
      rw[e1]at this;have:=of_decide_eq_true this;omega
     rw[if_pos (.inl q0)]at eg;exact an [91] H O λh H Y=>ab [] H O (fin H eg e1)
    .have q0:¬ q=0:=by
      have:decide (IntKind.i64.wrap ((q:Int)+1)=1)=false:=bZ
      rw[e1]at this;have:=of_decide_eq_false this;omega
     refine ah H O λh H Y=>aF O call195 (zY a) <| ah H O λh H Y=>af O (λgp=>?_) λgp=>?_
     .have v0:sG a=false:=by simpa using gp
      rw[if_pos (.inr v0)]at eg;exact ah H O λh H Y=>ab [] H O (fin H eg e1)
     .have v0:¬ sG a=false:=by simpa using gp
      rw[if_neg (by rintro(q|q);exact q0 q;exact v0 q)]at eg;exact ah H O λh H Y=>ab [] H O (fin H eg e1)
   .have c1:¬ s[q]=125:=by simpa using kf ax 125 aT
    rw[if_neg c1]at eg;refine KK H O (iF ax) λh H Y=>aF O call196 (ub (s.getD ((q:Nat):Int).toNat 0)) ?_;rw[CU ax];refine ah H O λh H Y=>af O (λbZ=>?_) λbZ=>?_
    .have hn:¬ 0<=jg s[q]:=by simpa using bZ
     rw[if_neg hn]at eg;exact ah H O λh H Y=>ab [] H O (fin H eg O)
    .have hn:0<=jg s[q]:=by simpa using bZ
     rw[if_pos hn]at eg;refine ah H O λh H Y=>?_;refine again (q+1,yM a (jg s[q])) (by simp only;omega) (HQ.mk O ⟨O,?_,vi e1,trivial⟩) ⟨H,by simp only;omega,?_⟩
     .show Slot.v (.int .i32 (Kv (IntKind.i32.wrap (a*16)) (if 0<=jg s[q]then jg s[q]else 0)))=_
      rw[if_pos hn];rfl
     .rw[eg,show 10 -(q+1)=9 -q by omega]
  .have h8:¬ q<=8:=by have:=of_decide_eq_false ej;omega
   exact ah H O λh H Y=>ab [] H O (fin H (by rw[e,Fe (by omega)]) O)
 .have fH:s.length<=q:=by have:=of_decide_eq_false hb;omega
  exact an [90] H O λh H Y=>ab [] H O (fin H (by rw[e,Fe (by omega)]) O)
end
end
def nZ (c:UInt8):Option UInt8:=if c=34\/c=47\/c=92 then some c else if c=98 then some 8 else if c=102 then some 12 else if c=110 then some 10 else if c=114 then some 13 else if c=116 then some 9 else none
def at8 (s:ak) (i:Nat):UInt8:=s.getD i 0
def dW (s:ak) (e:Nat) (v:Int):Int×Nat:=
 if(55296<=v/\v <56320)/\e+6 <s.length then
  match fQ (((s.take (e+6)).drop e).drop 2) 0 with
  |some v2=>if((s.take (e+6)).drop e).take 2=[92,117]/\56320<=v2/\v2<=57343 then(Hz v v2,e+6)else(v,e)
  |none=>(v,e)
 else(v,e)
def ix (s:ak) (e:Nat):Option (ak×Nat):=
 if at8 s (e+1)=117 then
  if e+2 <s.length/\at8 s (e+2)=123 then (if(qt (s.drop (e+3))).2.2=true then some (Lib.encodeRune (qt (s.drop (e+3))).1,e+3+(qt (s.drop (e+3))).2.1)else none)
  else if s.length<=e+6 then none
  else(fQ ((s.take (e+6)).drop (e+2)) 0).map λv=>(Lib.encodeRune (dW s (e+6) v).1,(dW s (e+6) v).2)
 else(nZ (at8 s (e+1))).map λb=>([b],e+2)
def jT (s:ak) (e:Nat):Nat×Nat:=if 127<=(at8 s e).toNat then eZ (s.drop e)else((at8 s e).toNat,1)
def iO (s:ak) (st:Nat):Nat->Nat->Option ak->Option (ak×Nat)
 |0,_,_=>none
 |f+1,e,b=>if s.length<=e then none
  else if at8 s e=10\/at8 s e=13 then none
  else if(at8 s e).toNat <32/\at8 s e≠9 then none
  else if at8 s e=34 then some (b.getD ((s.take e).drop st),e+1)
  else if at8 s e=92 then(if s.length<=e+1 then none else(ix s e).bind λp=>iO s st f p.2 (some (b.getD ((s.take e).drop st)++p.1)))
  else iO s st f (e+(jT s e).2) (b.map λx=>x++Lib.encodeRune (jT s e).1)
theorem fG {s:ak} {i:Nat} (h:i <s.length):at8 s i=s[i]:=by unfold at8;rw[List.getD_eq_getElem?_getD,List.getElem?_eq_getElem h];rfl
theorem Qm (r:Int):(Lib.encodeRune r).map cO=cd (Lib.encodeRuneZ r):=by simp only[Lib.encodeRune,cd,List.map_map];apply List.map_congr_left;intro x hx;obtain⟨h0,h1⟩:=Lib.encodeRuneZ_byte r x hx;simp[Function.comp];omega
theorem ra (r:Int):(Lib.encodeRune r).length<=4:=by have:=(Lib.encodeRuneZ_length r).2;simpa[Lib.encodeRune]using this
theorem yN (s:ak) (e:Nat) (v:Int):(dW s e v).2=e\/((dW s e v).2=e+6/\e+6 <s.length):=by
 unfold dW;split
 .rename_i h;split
  .split
   .exact .inr ⟨O,h.2⟩
   .exact .inl O
  .exact .inl O
 .exact .inl O
theorem yO:∀(l:ak) (k:Nat) (a v:Int),0<=a->a <16^k->l.length+k<=7->fQ l a=some v->0<=v/\v <16^(k+l.length)
 |[],k,a,v,h0,h1,h2,h=>by injection h with h;subst h;exact⟨h0,by simpa using h1⟩
 |c::l,k,a,v,h0,h1,h2,h=>by
  unfold fQ at h;split at h
  .rename_i hc;have hr:=tX (r:=(c.toNat:Int)) (by unfold jg at hc;omega);have hx:jg c<=15:=hr.2.1;simp only[List.length_cons]at h2|-;have hk:(16:Int)^k<=16777216:=by
    have:k=0\/k=1\/k=2\/k=3\/k=4\/k=5\/k=6:=by omega
    rcases this with rfl|rfl|rfl|rfl|rfl|rfl|rfl<;>decide
   have hp:(16:Int)^(k+1)=16*16^k:=by rw[Int.pow_succ];omega
   rw[Be h0 (by omega) hc (by omega)]at h;have:=yO l (k+1) (16*a+jg c) v (by omega) (by rw[hp];omega) (by omega) h;rw[show k+(l.length+1)=k+1+l.length by omega];exact this
  .cases h
theorem Qn {l:ak} {v:Int} (h:fQ l 0=some v) (hl:l.length<=4):0<=v/\v <65536:=by
 have:=yO l 0 0 v (by omega) (by decide) (by omega) h
 refine⟨this.1,Int.lt_of_lt_of_le this.2 ?_⟩;have:l.length=0\/l.length=1\/l.length=2\/l.length=3\/l.length=4:=by omega
 rcases this with h|h|h|h|h<;>rw[h]<;>decide
theorem HA {s:ak} {e:Nat} {v:Int} (h0:0<=v) (h1:v <65536):0<=(dW s e v).1/\(dW s e v).1<=1114111:=by
 unfold dW;split
 .rename_i h;split
  .split
   .rename_i h2;exact NB h.1.1 h.1.2 h2.2.1 h2.2.2
   .exact⟨h0,by simp only;omega⟩
  .exact⟨h0,by simp only;omega⟩
 .exact⟨h0,by simp only;omega⟩
theorem yP {s:ak} {e:Nat} {p:ak×Nat} (he:e+1 <s.length) (h:ix s e=some p):e+2<=p.2/\p.2<=s.length/\p.1.length<=4:=by
 unfold ix at h;split at h
 .split at h
  .rename_i h2;split at h
   .rename_i h3;injection h with h
    subst h;have:=(IZ h3).2.2;simp only[List.length_drop]at this;exact⟨by simp only;omega,by simp only;omega,ra _⟩
   .cases h
  .split at h
   .cases h
   .rename_i h3
    cases hu:fQ ((s.take (e+6)).drop (e+2)) 0 with
    |none=>rw[hu]at h;cases h
    |some v=>
     rw[hu]at h;injection h with h
     subst h;have:=yN s (e+6) v;exact⟨by simp only;omega,by simp only;omega,ra _⟩
 .cases hb:nZ (at8 s (e+1))with|none=>rw[hb]at h;cases h|some b=>rw[hb]at h;injection h with h;subst h;exact⟨Nat.le_refl _,by simp only;omega,by simp⟩
theorem oa {s:ak} {e:Nat} (h:e <s.length):1<=(jT s e).2/\e+(jT s e).2<=s.length/\(jT s e).1<=1114111:=by
 unfold jT;split
 .have h1:=nO (jv h)
  have h2:=qM (s.drop e)
  simp only[List.length_drop]at h2;refine⟨h1,by omega,?_⟩;rw[lk (jv h),Lib.decodeL_N];exact Lib.decodeN_rune_le _ _ _ _ _ (UInt8.toNat_lt _)
 .have:=UInt8.toNat_lt (at8 s e)
  exact⟨Nat.le_refl _,by simp only;omega,by simp only;omega⟩
theorem mi {s:ak} {st:Nat}:∀(f g e:Nat) (b:Option ak),s.length <f+e->s.length <g+e->iO s st f e b=iO s st g e b:=by
 intro f
 induction f with
 |zero=>
  intro g e b hf hg
  cases g with|zero=>rfl|succ g=>show none=_;unfold iO;rw[if_pos (by omega)]
 |succ f ih=>
  intro g e b hf hg
  cases g with
  |zero=>show _=none;unfold iO;rw[if_pos (by omega)]
  |succ g=>
   unfold iO;split;rfl;rename_i ax;split;rfl;split;rfl;split;rfl;split
   .split;rfl;rename_i h1
    cases he:ix s e with
    |none=>rfl
    |some p=>
     have:=yP (by omega) he
     exact ih g p.2 _ (by omega) (by omega)
   .have:=oa (s:=s) (e:=e) (by omega)
    exact ih g _ _ (by omega) (by omega)
theorem NC {s:ak} {st:Nat}:∀(f e:Nat) (b:Option ak) (p:ak×Nat),iO s st f e b=some p->e <p.2/\p.2<=s.length:=by
 intro f
 induction f with
 |zero=>intro e b p h;cases h
 |succ f ih=>
  intro e b p h;unfold iO at h;split at h;cases h;rename_i ax;split at h;cases h;split at h;cases h;split at h
  .injection h with h
   rw[<-h];exact⟨by simp,by simp only;omega⟩
  split at h
  .split at h;cases h
   cases he:ix s e with|none=>rw[he]at h;cases h|some q=>rw[he]at h;have:=yP (by omega) he;have:=ih _ _ _ h;omega
  .have:=oa (s:=s) (e:=e) (by omega)
   have:=ih _ _ _ h
   omega
section
attribute [local irreducible] AC AL AW AD aP
abbrev BV:Option (Nat×ak)->AV
 |none=> .bq
 |some p=> .ptr p.1 0
def BO (hb h:AH):Option (Nat×ak)->Prop
 |none=>True
 |some p=>jH hb h p.1 (p.2.map cO)
theorem BO.kp {hb h h':AH} {b:Option (Nat×ak)} {ids:List Nat} (B:BO hb h b) (K:Kp ids h h') (hi:∀i∈ids,i <hb.n):BO hb h' b:=by cases b with|none=>trivial|some p=>exact jH.kp B K hi
section
variable {lt:LT} {C:Exit->ay->AH->Prop} {h h0:AH} {ids:List Nat} {V V':View} {fr aB:ay} {cur dE:Dj} {ks ji:List Kt} {n':Nat} {tr:List (Nat×Nat)} {dr:List (List Oper×List Nat)} {ob:List (Int×Nat)}
theorem dC {hb:AH} {bo:Option (Nat×ak)} (H:HI h0 ids h V) (G:BO hb h bo) (bO:∀i∈V.map (·.1),i <hb.n) (hx:ZR lt [] 3000 cur ks fr V h.n [] dE ji aB V' n' tr [] dr) (K:∀h',HI h0 ids h' V'->BO hb h' bo->ZN h h' n'->XS prog lt C dE ji aB h') (ht:ZT tr:=by rfl) (hd:ZD dr:=by first|rfl|decide+kernel):XS prog lt C cur ks fr h:=mB 3000 [] [] H hx (λ_ h=>nomatch h) (λh' H N q=>K h' H (G.kp q bO) N) ht hd
theorem nu {hb:AH} {bo:Option (Nat×ak)} (hs:List Nat) (H:HI h0 ids h V) (G:BO hb h bo) (bO:∀i∈V.map (·.1),i <hb.n) (hx:ZR lt [] 3000 cur ks fr V h.n hs dE ji aB V' n' tr [] dr) (K:∀h',HI h0 ids h' V'->BO hb h' bo->ZN h h' n'->XS prog lt C dE ji aB h') (ht:ZT tr:=by rfl) (hd:ZD dr:=by first|rfl|decide+kernel):XS prog lt C cur ks fr h:=mB 3000 [] hs H hx (λ_ h=>nomatch h) (λh' H N q=>K h' H (G.kp q bO) N) ht hd
theorem Oh {hb:AH} {bo:Option (Nat×ak)} (im hs:List Nat) (H:HI h0 ids h V) (G:BO hb h bo) (bO:∀i∈V.map (·.1),i <hb.n) (hx:ZR lt im 3000 cur ks fr V h.n hs dE ji aB V' n' tr ob dr) (dK:ZB ob) (K:∀h',HI h0 ids h' V'->BO hb h' bo->ZN h h' n'->XS prog lt C dE ji aB h') (ht:ZT tr:=by rfl) (hd:ZD dr:=by first|rfl|decide+kernel):XS prog lt C cur ks fr h:=mB 3000 im hs H hx dK (λh' H N q=>K h' H (G.kp q bO) N) ht hd
theorem KL {hb:AH} {bo:Option (Nat×ak)} (f:Nat) (im hs:List Nat) (H:HI h0 ids h V) (G:BO hb h bo) (bO:∀i∈V.map (·.1),i <hb.n) (hx:ZR lt im f cur ks fr V h.n hs dE ji aB V' n' tr [] dr) (K:∀h',HI h0 ids h' V'->BO hb h' bo->ZN h h' n'->XS prog lt C dE ji aB h') (ht:ZT tr:=by rfl) (hd:ZD dr:=by first|rfl|decide+kernel):XS prog lt C cur ks fr h:=mB f im hs H hx (λ_ h=>nomatch h) (λh' H N q=>K h' H (G.kp q bO) N) ht hd
theorem Z7 {hb:AH} {bo:Option (Nat×ak)} (f:Nat) (im hs:List Nat) (H:HI h0 ids h V) (G:BO hb h bo) (bO:∀i∈V.map (·.1),i <hb.n) (hx:ZR lt im f cur ks fr V h.n hs dE ji aB V' n' tr ob dr) (dK:ZB ob) (K:∀h',HI h0 ids h' V'->BO hb h' bo->ZN h h' n'->XS prog lt C dE ji aB h') (ht:ZT tr:=by rfl) (hd:ZD dr:=by first|rfl|decide+kernel):XS prog lt C cur ks fr h:=mB f im hs H hx dK (λh' H N q=>K h' H (G.kp q bO) N) ht hd
end
theorem cB {c d:UInt8} {b:Bool} (h:decide ((c.toNat:Int)=(d.toNat:Int))=b):(c==d)=b:=by rw[Ns O]at h;exact h
theorem oO {s:ak} {k:Nat}:s.getD ((k:Nat):Int).toNat 0=at8 s k:=by rw[Int.toNat_natCast];rfl
theorem lx {h0 h:AH} {ids:List Nat} {o k c:Nat} {s:ak} {st:Nat} {a b c' d:Int} {rest:List AV} {V:View} (H:HI h0 ids h ((o,na s st a (IntKind.i64.wrap ((k:Int)+(c:Nat))) b c' d rest)::V)) (hk:k<=2097152) (hc:c<=2097152):HI h0 ids h ((o,na s st a ((k+c:Nat):Int) b c' d rest)::V):=by
 have e:IntKind.i64.wrap ((k:Int)+(c:Nat))=((k+c:Nat):Int):=wI (by omega)
 rw[<-e];exact H
theorem rp.lt {h:AH} {b:Nat} {ro:Option Nat} {es:List AV} (B:rp h b ro es):b <h.n/\∀r,ro=some r->r <h.n:=by
 obtain⟨hb,⟨rfl,_⟩|⟨r,rfl,hr,_⟩⟩:=B
 .exact⟨hb,λr e=>by cases e⟩
 .exact⟨hb,λr' e=>by injection e with e;subst e;exact hr⟩
theorem HI.mj {ids jQ:List Nat} {h0 h h':AH} {V:View} (m:Nat) (H:HI h0 ids h V) (K:Kp jQ h h') (h1:∀i∈jQ,m<=i) (hm:h0.n<=m) (h2:∀e∈V,e.1 <m):HI h0 ids h' V:=⟨HV.of (λe he=>by obtain⟨q1,q2⟩:=H.hv.get he;exact⟨(K.get _ q2 (λh=>by have:=h1 _ h;have:=h2 e he;omega)).trans q1,Nat.lt_of_lt_of_le q2 K.n⟩) H.hv.nodup,H.kp.step K (λi hi=> .inr (Nat.le_trans hm (h1 i hi))),H.new⟩
abbrev ND (s:ak) (st a e b c d:Int) (rest:List AV):List AV:=dF s:: .int .i64 st:: .int .i64 a:: .int .i64 e:: .int .i64 b:: .int .i64 c:: .int .i64 d::rest
section
variable {h0:AH} {o st:Nat} {s:ak} {rest:List AV}
def wA (s:ak) (st:Nat):Option (Int×ak×Nat):=(iO s (st+1) (s.length+1) (st+1) none).map λp=>(19,p.1,p.2)
theorem kB {h:AH} {ids:List Nat} {k:Nat} {a b c d:Int} {V:View} {y t:AV} (H:HI h0 ids h ((o,na s st a k b c d rest)::V)) (hs:s.length<=1048576) (hk:k<=s.length) {r:Option (Int×ak×Nat)} (hr:r=none) (ht:BY s 0 [] t) (hy:LX y):si s o rest r (.cN [t,.iface 248 y]) h:=by rw[hr];exact⟨_,_,_,_,O,hy,ht,LO.mk' H hs hk⟩
theorem qu (L:LO h0 o s st (st+1) rest) (hT:h0.aV=bQ):al prog 146 [.ptr o 0] h0 (λx h'=>Kp [o] h0 h'/\si s o rest (wA s st) x h'):=by
 obtain⟨ho,hs,he,a,b,c,d,hg⟩:=L;refine az (n:=524) (rs:=[.cell 2 88,.tmp 3]) [] ⟨func146,O,O,O⟩ O <| have H:=HI.one hg ho;ah H O λh H Y=>?_;have jR:h.n=h0.n+1:=Y.1;have H2:∀x:Int,IntKind.i64.wrap ((st:Int)+1)=x->HI h0 [o] h [(o,ND s x (IntKind.i64.wrap (a+1)) (st+1:Nat) b c d rest),(h0.n,gR)]:=λx e=>e▸H
 replace H2:HI h0 [o] h [(o,na s (st+1:Nat) (IntKind.i64.wrap (a+1)) (st+1:Nat) b c d rest),(h0.n,gR)]:=H2 _ (by rw[wrap_i64 (by omega) (by omega)];omega);clear H;have H:=H2;clear H2;have bO:∀i∈([o,h0.n]:List Nat),i <h.n:=by simp;omega
 have hV:∀cs dH:List AV,∀e∈([(o,cs),(h0.n,dH)]:View),e.1 <h.n:=by simp;omega
 have ZG:∀{k:Nat} {b:Option ak},k <s.length->iO s (st+1) (s.length+1) k b=if at8 s k=10\/at8 s k=13 then none
  else if(at8 s k).toNat <32/\at8 s k≠9 then none
  else if at8 s k=34 then some (b.getD ((s.take k).drop (st+1)),k+1)
  else if at8 s k=92 then(if s.length<=k+1 then none else(ix s k).bind λp=>iO s (st+1) s.length p.2 (some (b.getD ((s.take k).drop (st+1))++p.1)))
  else iO s (st+1) s.length (k+(jT s k).2) (b.map λx=>x++Lib.encodeRune (jT s k).1):=λ{k b} hk=>by
   show(if s.length<=k then none else _)=_
   rw[if_neg (by omega)]
 refine aC 524 (λq:Nat×Option (Nat×ak)=>s.length -q.1) (λq=>[(0,.ptr o 0),(2,.ptr h0.n 0),(3,.bu),(4,.int .i64 (s.length:Nat)),(5,BV q.2)])
  (λq h'=>LI h0 [o] h' o s (st+1) (q.1:Nat) rest [(h0.n,gR)]/\BO h h' q.2/\st+1<=q.1/\q.1<=s.length/\(∀p,q.2=some p->p.2.length<=4*q.1)/\iO s (st+1) (s.length+1) (st+1) none=iO s (st+1) (s.length+1) q.1 (q.2.map (·.2)))
  (λ_:Nat=>[(0,.ptr o 0),(2,.ptr h0.n 0),(3,.bu)])
  (λk h'=>LI h0 [o] h' o s (st+1) (k:Nat) rest [(h0.n,gR)]/\k<=s.length/\iO s (st+1) (s.length+1) (st+1) none=none) (st+1,none) O ⟨⟨_,_,_,_,H⟩,trivial,Nat.le_refl _,he,by simp,O⟩ ?_ ?_
 .clear H;revert bO jR hV;generalize h=hb;intro jR bO hV;rintro⟨k,bo⟩ h ⟨⟨a,b,c,d,H⟩,B,vw,jh,jP,hS⟩ again done;simp only at H B vw jh jP hS;have iw:∀{X:Option (ak×Nat)},iO s (st+1) (s.length+1) k (bo.map (·.2))=X->wA s st=X.map λp=>(19,p.1,p.2):=λe=>by unfold wA;rw[hS,e]
  refine dC H B bO O λh H B Y=>af O (λej=>?_) λej=>?_
  .have ax:k <s.length:=by have:=of_decide_eq_true ej;omega
   have eg:=ZG (b:=bo.map (·.2)) ax
   have Ji:=UInt8.toNat_lt (at8 s k)
   refine Oh [] [] H B bO O (iF ax) λh H B Y=>?_;rw[oO];refine aj O (λaT=>?_) (λaT=>?_)
   .have uw:at8 s k=10:=by simpa using cB (d:=10) aT
    rw[if_pos (.inl uw)]at eg;refine nu [91] H B bO O λh H B Y=>?_;exact done k O ⟨⟨_,_,_,_,H⟩,jh,by rw[hS];exact eg⟩
   have uw:¬ at8 s k=10:=by simpa using cB (d:=10) aT
   refine dC H B bO O λh H B Y=>af O (λbZ=>?_) λbZ=>?_
   .have wx:at8 s k=13:=by simpa using cB (d:=13) bZ
    rw[if_pos (.inr wx)]at eg;refine dC H B bO O λh H B Y=>?_;exact done k O ⟨⟨_,_,_,_,H⟩,jh,by rw[hS];exact eg⟩
   have wx:¬ at8 s k=13:=by simpa using cB (d:=13) bZ
   rw[if_neg (by rintro(q|q);exact uw q;exact wx q)]at eg;refine KL 2 [] [] H B bO O λh H B Y=>?_;have n9:∀{b:Bool},(!decide (((at8 s k).toNat:Int)=9))=b->(at8 s k==9)= !b:=λ{b} fS=>by rw[<-fS,Bool.not_not];exact(cB (c:=at8 s k) (d:=9) (b:=decide (((at8 s k).toNat:Int)=9)) O)
   refine cV 524 (λ_:Unit=>[(0,.ptr o 0),(2,.ptr h0.n 0),(3,.bu),(4,.int .i64 (s.length:Nat)),(5,BV bo),(6,.int .u8 (at8 s k).toNat)]) (λ_ h'=>LI h0 [o] h' o s (st+1) (k:Nat) rest [(h0.n,gR)]/\BO hb h' bo/\¬ ((at8 s k).toNat <32/\at8 s k≠9)) (λJ=>?_) ?_
   .refine dC H B bO O λh H B Y=>aj O (λgp=>?_) (λgp=>?_)
    .have TF:(at8 s k).toNat <32:=by have:=of_decide_eq_true gp;omega
     refine dC H B bO O λh H B Y=>af O (λkH=>?_) λkH=>?_
     .have c9:¬ at8 s k=9:=by simpa using n9 kH
      rw[if_pos ⟨TF,c9⟩]at eg;refine dC H B bO O λh H B Y=>ae O call147 (bX (LO.mk' H hs jh) _) ?_;rintro x h3 ⟨⟨t,y,rfl,⟨p,q,r,u,rfl⟩,⟨cs,rfl⟩⟩,k3,iX,jZ,iA,a3,b3,c3,d3,bF⟩;replace H:=H.aA k3 bF;exact an [1] H O λh H Y=>ab [1] H O ⟨H.kp,kB H hs jh (iw eg) ⟨_,_,_,_,O⟩ ⟨_,O⟩⟩
     .have c9:at8 s k=9:=by simpa using n9 kH
      exact dC H B bO O λh H B Y=>J () O ⟨⟨_,_,_,_,H⟩,B,λq=>q.2 c9⟩
    .have TF:¬ (at8 s k).toNat <32:=by have:=of_decide_eq_false gp;omega
     exact nu [90] H B bO O λh H B Y=>J () O ⟨⟨_,_,_,_,H⟩,B,λq=>TF q.1⟩
   clear H B;rintro⟨⟩ h ⟨⟨a,b,c,d,H⟩,B,Oy⟩;rw[if_neg Oy]at eg;refine dC H B bO O λh H B Y=>af O (λfU=>?_) λfU=>?_
   .have zZ:at8 s k=34:=by simpa using cB (d:=34) fU
    rw[if_pos zZ]at eg;have gW:=iw eg;rcases bo with _|⟨nb,acc⟩
    .refine dC H B bO O λh H B Y=>ae O call140 (fE (LO.mk' H hs jh) 19 (by omega)) ?_;rintro x h3 ⟨⟨t,rfl,p,q,r,u,rfl⟩,k3,iX,jZ,iA,a3,b3,c3,d3,bF⟩;replace H:=H.aA k3 bF;refine an [2,2,2,2,2,90,0,0,0,0,2,1] H O λh H Y=>?_;exact ab [1] H O ⟨H.kp,by rw[gW];exact⟨_,st+1,O,⟨_,_,_,_,O⟩,LO.mk' (lx H (by omega) (by omega)) hs (by omega)⟩⟩
    .refine dC H B bO O λh H B Y=>ae O call140 (fE (LO.mk' H hs jh) 19 (by omega)) ?_;rintro x h3 ⟨⟨t,rfl,p,q,r,u,rfl⟩,k3,iX,jZ,iA,a3,b3,c3,d3,bF⟩;replace H:=H.aA k3 bF;obtain⟨Oy,ro,B1,KR⟩:=jH.kp B k3 (by simp;omega);obtain⟨l1,l2⟩:=B1.lt;refine yX [2,2,2,2,2] H O λh H Y kq=>?_;replace B1:=B1.kp kq (by simp;omega) (λr e=>by have:=KR r e;simp;omega);refine jI O <| dZ H O λh H Y kq=>?_;replace B1:=B1.kp kq (by simp;omega) (λr e=>by have:=KR r e;have:=l2 r e;simp;omega);refine ae O call170 (Q:=λv h'=>v= .str acc/\h'=h) ⟨_,_,⟨O,O⟩,rV B1⟩ ?_;rintro v uu ⟨rfl,rfl⟩;refine an [2,0,0,0,0,2,1] H O λh H Y=>?_;exact ab [1] H O ⟨H.kp,by rw[gW];exact⟨_,st+1,O,⟨_,_,_,_,O⟩,LO.mk' (lx H (by omega) (by omega)) hs (by omega)⟩⟩
   have zZ:¬ at8 s k=34:=by simpa using cB (d:=34) fU
   rw[if_neg zZ]at eg;refine dC H B bO O λh H B Y=>af O (λoY=>?_) λoY=>?_
   .have wW:at8 s k=92:=by simpa using cB (d:=92) oY
    rw[if_pos wW]at eg;refine dC H B bO O λh H B Y=>af O (λlv=>?_) λlv=>?_
    .have fH:s.length<=k+1:=by
      have:decide (IntKind.i64.wrap ((k:Int)+1)≥(s.length:Nat))=true:=lv
      rw[wrap_i64 (by omega) (by omega)]at this;have:=of_decide_eq_true this;omega
     rw[if_pos fH]at eg;refine dC H B bO O λh H B Y=>?_;have H9:=lx (c:=1) H (by omega) (by omega);refine ae O call147 (bX (LO.mk' H9 hs (by omega)) _) ?_;rintro x h3 ⟨⟨t,y,rfl,⟨p,q,r,u,rfl⟩,⟨cs,rfl⟩⟩,k3,iX,jZ,iA,a3,b3,c3,d3,bF⟩;replace H:=H9.aA k3 bF;exact an [1] H O λh H Y=>ab [1] H O ⟨H.kp,kB H hs (by omega) (iw eg) ⟨_,_,_,_,O⟩ ⟨_,O⟩⟩
    have jF:k+1 <s.length:=by
     have:decide (IntKind.i64.wrap ((k:Int)+1)≥(s.length:Nat))=false:=lv
     rw[wrap_i64 (by omega) (by omega)]at this;have:=of_decide_eq_false this;omega
    rw[if_neg (by omega)]at eg;have TG:((s.take k).drop (st+1)).length<=4*k:=by simp;omega
    refine KL 2 [] [] H B bO O λh H B Y=>cV 524 (λq:Nat×ak=>[(0,.ptr o 0),(2,.ptr h0.n 0),(3,.bu),(4,.int .i64 (s.length:Nat)),(5,.ptr q.1 0)]) (λq h'=>LI h0 [o] h' o s (st+1) (k:Nat) rest [(h0.n,gR)]/\jH hb h' q.1 (q.2.map cO)/\q.2.length<=4*k/\q.2=(bo.map (·.2)).getD ((s.take k).drop (st+1))) (λJ=>?_) ?_
    .rcases bo with _|⟨nb,acc⟩
     .refine nu [91] H B bO O λh H B Y=>fR O O O O (eY O (by omega)) (eY O (by omega)) (by simp;omega) (by simpa using jh) O ?_;refine jJ O call174 (zX (h0:=h) (by simp;omega)) ?_;rintro v h3 ⟨nb,rfl,B3,K3⟩;have hbh:hb.n<=h.n:=by have:=(H.hv.get (e:=(h0.n,gR)) (by simp)).2;simp only at this;omega
      replace H:=H.same K3;clear B;have B:BO hb h3 (some (nb,(s.take ((k:Nat):Int).toNat).drop ((st+1:Nat):Int).toNat)):=⟨by have:=B3.1;omega,by obtain⟨ro,q1,q2⟩:=B3.2;exact⟨ro,q1,λr e=>by have:=q2 r e;omega⟩⟩
      clear B3;refine dC H B bO O λh H B Y=>J (nb,(s.take ((k:Nat):Int).toNat).drop ((st+1:Nat):Int).toNat) O ⟨⟨_,_,_,_,H⟩,B,?_,?_⟩
      .simp only[Int.toNat_natCast];exact TG
      .simp only[Int.toNat_natCast];rfl
     .exact nu [90] H B bO O λh H B Y=>J (nb,acc) O ⟨⟨_,_,_,_,H⟩,B,jP _ O,O⟩
    clear H B;rintro⟨nb,acc⟩ h ⟨⟨a,b,c,d,H⟩,B,Dm,hac⟩;simp only at B Dm hac;rw[<-hac]at eg;replace B:BO hb h (some (nb,acc)):=B;have w1:IntKind.i64.wrap ((k:Int)+1)=((k+1:Nat):Int):=wI (by omega);have w2:IntKind.i64.wrap ((k:Int)+2)=((k+2:Nat):Int):=wI (by omega);have w3:IntKind.i64.wrap ((k:Int)+3)=((k+3:Nat):Int):=wI (by omega);have w6:IntKind.i64.wrap ((k:Int)+6)=((k+6:Nat):Int):=wI (by omega);refine Oh [] [] H B bO O (by rw[w1];exact iF jF) λh H B Y=>?_;have g1:s.getD (IntKind.i64.wrap ((k:Int)+1)).toNat 0=at8 s (k+1):=by rw[w1];exact oO
    rw[g1];refine af O (λCk=>?_) λCk=>?_
    .have uc:at8 s (k+1)=117:=by simpa using cB (d:=117) Ck
     have hE:ix s k=if k+2 <s.length/\at8 s (k+2)=123 then
      (if(qt (s.drop (k+3))).2.2=true then some (Lib.encodeRune (qt (s.drop (k+3))).1,k+3+(qt (s.drop (k+3))).2.1)else none)
      else if s.length<=k+6 then none
      else(fQ ((s.take (k+6)).drop (k+2)) 0).map λv=>(Lib.encodeRune (dW s (k+6) v).1,(dW s (k+6) v).2):=by
      unfold ix;rw[if_pos uc]
     refine cV 524 (λ_:Unit=>[(0,.ptr o 0),(2,.ptr h0.n 0),(3,.bu),(4,.int .i64 (s.length:Nat)),(5,.ptr nb 0)]) (λ_ h'=>LI h0 [o] h' o s (st+1) (k:Nat) rest [(h0.n,gR)]/\BO hb h' (some (nb,acc))/\¬ (k+2 <s.length/\at8 s (k+2)=123)) (λJ=>?_) ?_
     .refine dC H B bO O λh H B Y=>aR O (λaT=>?_) (λaT=>?_)
      .have eG:k+2 <s.length:=by
        have:decide (IntKind.i64.wrap ((k:Int)+2) <(s.length:Nat))=true:=aT
        rw[w2]at this;have:=of_decide_eq_true this;omega
       refine Oh [] [] H B bO O (by rw[w2];exact iF eG) λh H B Y=>?_;have g2:s.getD (IntKind.i64.wrap ((k:Int)+2)).toNat 0=at8 s (k+2):=by rw[w2];exact oO
       rw[g2];refine af O (λbZ=>?_) λbZ=>?_
       .have Ff:at8 s (k+2)=123:=by simpa using cB (d:=123) bZ
        rw[if_pos ⟨eG,Ff⟩]at hE;refine dC H B bO O λh H B Y=>fR O O O O (eY O (by rw[w3];omega)) lS (by rw[w3,Int.toNat_natCast];omega) (Nat.le_refl _) O ?_;have e9:(s.take s.length).drop (IntKind.i64.wrap ((k:Int)+3)).toNat=s.drop (k+3):=by rw[w3,Int.toNat_natCast,List.take_length]
        rw[e9];refine bG O call175 (wz (s.drop (k+3)) (by simp;omega)) ?_;have Wp:=IZ (b:=s.drop (k+3));unfold IY;generalize qt (s.drop (k+3))=ur at Wp hE|-;obtain⟨r,n,ok⟩:=ur;simp only[List.length_drop]at Wp hE;refine dC H B bO O λh H B Y=>?_
        cases ok with
        |false=>rw[if_neg (by simp)]at hE;rw[hE]at eg;refine jI O <| dC H B bO O λh H B Y=>?_;have H9:=lx (c:=1) H (by omega) (by omega);refine ae O call147 (bX (LO.mk' H9 hs (by omega)) _) ?_;rintro x h3 ⟨⟨t,y,rfl,⟨p,q,r,u,rfl⟩,⟨cs,rfl⟩⟩,k3,iX,jZ,iA,a3,b3,c3,d3,bF⟩;replace H:=H9.aA k3 bF;exact an [1] H O λh H Y=>ab [1] H O ⟨H.kp,kB H hs (by omega) (iw eg) ⟨_,_,_,_,O⟩ ⟨_,O⟩⟩
        |true=>
         obtain⟨r0,r1,nl⟩:=Wp O;rw[if_pos O]at hE;rw[hE]at eg;have w4:IntKind.i64.wrap (3+(n:Int))=((3+n:Nat):Int):=wI (by omega);refine cX O <| dC H B bO O λh H B Y=>?_;rw[w4]at H|-;refine ae O call173 (kA (h0:=hb) B (r:=r) (by omega) (by omega) (by simp;omega)) ?_;rintro v' h3 ⟨rfl,B3,jQ,K3,qv⟩;have H3:=H.mj hb.n K3 qv (by omega) (hV _ _);clear H B;have H:=H3;have B:BO hb h3 (some (nb,acc++Lib.encodeRune (r))):=by
          show jH hb h3 nb ((acc++Lib.encodeRune (r)).map cO)
          rw[List.map_append,Qm];exact B3
         clear H3 B3;have vF:=ra (r);refine dC H B bO O λh H B Y=>?_;exact again (k+3+n,some (nb,acc++Lib.encodeRune r)) (by simp only;omega) O ⟨⟨_,_,_,_,by rw[Nat.add_assoc];exact lx H (by omega) (by omega)⟩,B,by simp only;omega,by simp only;omega,λp hp=>by injection hp with hp;subst hp;simp only[List.length_append];omega,by rw[hS,eg];exact mi _ _ _ _ (by omega) (by omega)⟩
       .have Ff:¬ at8 s (k+2)=123:=by simpa using cB (d:=123) bZ
        exact dC H B bO O λh H B Y=>J () O ⟨⟨_,_,_,_,H⟩,B,λq=>Ff q.2⟩
      .have eG:¬ k+2 <s.length:=by
        have:decide (IntKind.i64.wrap ((k:Int)+2) <(s.length:Nat))=false:=aT
        rw[w2]at this;have:=of_decide_eq_false this;omega
       exact nu [90] H B bO O λh H B Y=>J () O ⟨⟨_,_,_,_,H⟩,B,λq=>eG q.1⟩
     clear H B;rintro⟨⟩ h ⟨⟨a,b,c,d,H⟩,B,Oy⟩;rw[if_neg Oy]at hE;refine dC H B bO O λh H B Y=>af O (λgp=>?_) λgp=>?_
     .have ZH:s.length<=k+6:=by
       have:decide (IntKind.i64.wrap ((k:Int)+6)≥(s.length:Nat))=true:=gp
       rw[w6]at this;have:=of_decide_eq_true this;omega
      rw[if_pos ZH]at hE;rw[hE]at eg;refine dC H B bO O λh H B Y=>?_;have H9:=lx (c:=1) H (by omega) (by omega);refine ae O call147 (bX (LO.mk' H9 hs (by omega)) _) ?_;rintro x h3 ⟨⟨t,y,rfl,⟨p,q,r,u,rfl⟩,⟨cs,rfl⟩⟩,k3,iX,jZ,iA,a3,b3,c3,d3,bF⟩;replace H:=H9.aA k3 bF;exact an [1] H O λh H Y=>ab [1] H O ⟨H.kp,kB H hs (by omega) (iw eg) ⟨_,_,_,_,O⟩ ⟨_,O⟩⟩
     have Wj:k+6 <s.length:=by
      have:decide (IntKind.i64.wrap ((k:Int)+6)≥(s.length:Nat))=false:=gp
      rw[w6]at this;have:=of_decide_eq_false this;omega
     rw[if_neg (by omega)]at hE;refine dC H B bO O λh H B Y=>fR O O O O (eY O (by rw[w2];omega)) (eY O (by rw[w6];omega)) (by rw[w2,w6,Int.toNat_natCast,Int.toNat_natCast];omega) (by rw[w6,Int.toNat_natCast];omega) O ?_;have e9:(s.take (IntKind.i64.wrap ((k:Int)+6)).toNat).drop (IntKind.i64.wrap ((k:Int)+2)).toNat=(s.take (k+6)).drop (k+2):=by rw[w2,w6];simp only[Int.toNat_natCast]
     rw[e9];refine bG O call176 (Bf ((s.take (k+6)).drop (k+2)) (by simp;omega)) ?_;unfold qs
     cases hu:fQ ((s.take (k+6)).drop (k+2)) 0 with
     |none=>rw[hu]at hE;replace hE:ix s k=none:=hE;rw[hE]at eg;simp only;refine nu [91] H B bO O λh H B Y=>?_;have H9:=lx (c:=1) H (by omega) (by omega);refine ae O call147 (bX (LO.mk' H9 hs (by omega)) _) ?_;rintro x h3 ⟨⟨t,y,rfl,⟨p,q,r,u,rfl⟩,⟨cs,rfl⟩⟩,k3,iX,jZ,iA,a3,b3,c3,d3,bF⟩;replace H:=H9.aA k3 bF;exact an [1] H O λh H Y=>ab [1] H O ⟨H.kp,kB H hs (by omega) (iw eg) ⟨_,_,_,_,O⟩ ⟨_,O⟩⟩
     |some v=>
      rw[hu]at hE;replace hE:ix s k=some (Lib.encodeRune (dW s (k+6) v).1,(dW s (k+6) v).2):=hE;rw[hE]at eg;obtain⟨v0,v1⟩:=Qn hu (by simp;omega);obtain⟨r0,r1⟩:=HA (s:=s) (e:=k+6) v0 v1;have pp:=yN s (k+6) v;simp only;refine dC H B bO O λh H B Y=>cX O <| KL 26 [] [] H B bO O λh H B Y=>?_;replace H:=lx (c:=6) H (by omega) (by omega);refine cV 524 (λq:Int×Nat=>[(0,.ptr o 0),(2,.ptr h0.n 0),(3,.bu),(4,.int .i64 (s.length:Nat)),(5,.ptr nb 0),(15,.int .i32 q.1)]) (λq h'=>LI h0 [o] h' o s (st+1) (q.2:Nat) rest [(h0.n,gR)]/\BO hb h' (some (nb,acc))/\dW s (k+6) v=q) (λJ=>?_) ?_
      .have fin:∀{h:AH} {a b c d:Int} {aB:ay},HI h0 [o] h [(o,na s (st+1:Nat) a (k+6:Nat) b c d rest),(h0.n,gR)]->BO hb h (some (nb,acc))->dW s (k+6) v=(v,k+6)->LI h0 [o] h o s (st+1) ((v,k+6).2:Nat) rest [(h0.n,gR)]/\BO hb h (some (nb,acc))/\dW s (k+6) v=(v,k+6):=λH B e=>⟨⟨_,_,_,_,H⟩,B,e⟩
       have KX:IntKind.i64.wrap (((k+6:Nat):Int)+6)=((k+6+6:Nat):Int):=wI (by omega)
       refine dC H B bO O λh H B Y=>aj O (λPk=>?_) (λPk=>?_)
       .have s1:55296<=v:=by have:=of_decide_eq_true Pk;omega
        refine dC H B bO O λh H B Y=>aj O (λVz=>?_) (λVz=>?_)
        .have s2:v <56320:=by have:decide (v <56320)=true:=Vz;have:=of_decide_eq_true this;omega
         refine dC H B bO O λh H B Y=>af O (λZI=>?_) λZI=>?_
         .have s3:k+6+6 <s.length:=by
           have:decide (IntKind.i64.wrap (((k+6:Nat):Int)+6) <(s.length:Nat))=true:=ZI
           rw[KX]at this;have:=of_decide_eq_true this;omega
          have kO:dW s (k+6) v=match fQ (((s.take (k+6+6)).drop (k+6)).drop 2) 0 with|some v2=>if((s.take (k+6+6)).drop (k+6)).take 2=[92,117]/\56320<=v2/\v2<=57343 then(Hz v v2,k+6+6)else(v,k+6)|none=>(v,k+6):=by unfold dW;rw[if_pos ⟨⟨s1,s2⟩,s3⟩]<;>rfl
          refine dC H B bO O λh H B Y=>fR O O O O (eY O (by omega)) (eY O (by rw[KX];omega)) (by rw[KX,Int.toNat_natCast,Int.toNat_natCast];omega) (by rw[KX,Int.toNat_natCast];omega) O ?_;have Ot:(s.take (IntKind.i64.wrap (((k+6:Nat):Int)+6)).toNat).drop ((k+6:Nat):Int).toNat=(s.take (k+6+6)).drop (k+6):=by rw[KX];simp only[Int.toNat_natCast]
          rw[Ot];have Lv:((s.take (k+6+6)).drop (k+6)).length=6:=by simp;omega
          generalize(s.take (k+6+6)).drop (k+6)=nx at kO Lv|-;refine dC H B bO O λh H B Y=>ia (a:=2) (b:=nx.length) O O O O O O (by omega) (Nat.le_refl _) O ?_;rw[List.take_length];refine aF O call176 (Bf (nx.drop 2) (by simp;omega)) ?_;unfold qs
          cases Ol:fQ (nx.drop 2) 0 with
          |none=>
           rw[Ol]at kO;simp only at kO|-;refine dC H B bO O λh H B Y=>ia (a:=0) (b:=2) O O O O O O (by omega) (by omega) O <| dC H B bO O λh H B Y=>aj O (λhd=>?_) (λhd=>?_)
           .exact nu [92,92,90] H B bO O λh H B Y=>J (v,k+6) O (fin (aB:=ay.enter 0 []) H B kO)
           .exact nu [92,92,90] H B bO O λh H B Y=>J (v,k+6) O (fin (aB:=ay.enter 0 []) H B kO)
          |some v2=>
           rw[Ol]at kO;simp only at kO|-;refine dC H B bO O λh H B Y=>ia (a:=0) (b:=2) O O O O O O (by omega) (by omega) O <| dC H B bO O λh H B Y=>aj O (λhd=>?_) (λhd=>?_)
           .have d1:nx.take 2=[92,117]:=by have:decide ((nx.take 2).drop 0=[92,117])=true:=hd;exact of_decide_eq_true this
            refine nu [92] H B bO O λh H B Y=>aj O (λZJ=>?_) (λZJ=>?_)
            .have d2:56320<=v2:=by have:decide (v2≥56320)=true:=ZJ;have:=of_decide_eq_true this;omega
             refine dC H B bO O λh H B Y=>af O (λZK=>?_) λZK=>?_
             .have d3:v2<=57343:=by have:decide (v2<=57343)=true:=ZK;have:=of_decide_eq_true this;omega
              rw[if_pos ⟨d1,d2,d3⟩]at kO;refine dC H B bO O λh H B Y=>aF O call177 (vh s1 s2 d2 d3) <| dC H B bO O λh H B Y=>?_;replace H:=lx (c:=6) H (by omega) (by omega);exact J (Hz v v2,k+6+6) O ⟨⟨_,_,_,_,H⟩,B,kO⟩
             .have d3:¬ v2<=57343:=by have:decide (v2<=57343)=false:=ZK;have:=of_decide_eq_false this;omega
              rw[if_neg (λq=>d3 q.2.2)]at kO;exact dC H B bO O λh H B Y=>J (v,k+6) O (fin (aB:=ay.enter 0 []) H B kO)
            .have d2:¬ 56320<=v2:=by have:decide (v2≥56320)=false:=ZJ;have:=of_decide_eq_false this;omega
             rw[if_neg (λq=>d2 q.2.1)]at kO;exact nu [90] H B bO O λh H B Y=>J (v,k+6) O (fin (aB:=ay.enter 0 []) H B kO)
           .have d1:¬ nx.take 2=[92,117]:=by have:decide ((nx.take 2).drop 0=[92,117])=false:=hd;exact of_decide_eq_false this
            rw[if_neg (λq=>d1 q.1)]at kO;exact nu [92,92,90] H B bO O λh H B Y=>J (v,k+6) O (fin (aB:=ay.enter 0 []) H B kO)
         .have s3:¬ k+6+6 <s.length:=by
           have:decide (IntKind.i64.wrap (((k+6:Nat):Int)+6) <(s.length:Nat))=false:=ZI
           rw[KX]at this;have:=of_decide_eq_false this;omega
          have kO:dW s (k+6) v=(v,k+6):=by unfold dW;rw[if_neg (λq=>s3 q.2)]
          exact dC H B bO O λh H B Y=>J (v,k+6) O (fin (aB:=ay.enter 0 []) H B kO)
        .have s2:¬ v <56320:=by have:decide (v <56320)=false:=Vz;have:=of_decide_eq_false this;omega
         have kO:dW s (k+6) v=(v,k+6):=by unfold dW;rw[if_neg (λq=>s2 q.1.2)]
         exact nu [90] H B bO O λh H B Y=>J (v,k+6) O (fin (aB:=ay.enter 0 []) H B kO)
       .have s1:¬ 55296<=v:=by have:=of_decide_eq_false Pk;omega
        have kO:dW s (k+6) v=(v,k+6):=by unfold dW;rw[if_neg (λq=>s1 q.1.1)]
        exact nu [92,90] H B bO O λh H B Y=>J (v,k+6) O (fin (aB:=ay.enter 0 []) H B kO)
      clear H B;rintro⟨r,k'⟩ h ⟨⟨a,b,c,d,H⟩,B,hq⟩;rw[hq]at eg r0 r1 pp;simp only at r0 r1 pp eg;refine dC H B bO O λh H B Y=>ae O call173 (kA (h0:=hb) B (r:=r) (by omega) (by omega) (by simp;omega)) ?_;rintro v' h3 ⟨rfl,B3,jQ,K3,qv⟩;have H3:=H.mj hb.n K3 qv (by omega) (hV _ _);clear H B;have H:=H3;have B:BO hb h3 (some (nb,acc++Lib.encodeRune (r))):=by
       show jH hb h3 nb ((acc++Lib.encodeRune (r)).map cO)
       rw[List.map_append,Qm];exact B3
      clear H3 B3;have vF:=ra (r);refine dC H B bO O λh H B Y=>?_;exact again (k',some (nb,acc++Lib.encodeRune r)) (by simp only;omega) O ⟨⟨_,_,_,_,H⟩,B,by simp only;omega,by simp only;omega,λp hp=>by injection hp with hp;subst hp;simp only[List.length_append];omega,by rw[hS,eg];exact mi _ _ _ _ (by omega) (by omega)⟩
    .have uc:¬ at8 s (k+1)=117:=by simpa using cB (d:=117) Ck
     have hE:ix s k=(nZ (at8 s (k+1))).map λb=>([b],k+2):=by unfold ix;rw[if_neg uc]
     refine cV 524 (λ_:UInt8=>[(0,.ptr o 0),(2,.ptr h0.n 0),(3,.bu),(4,.int .i64 (s.length:Nat)),(5,.ptr nb 0)]) (λq h'=>LI h0 [o] h' o s (st+1) (k:Nat) rest [(h0.n,gR)]/\BO hb h' (some (nb,acc++[q]))/\nZ (at8 s (k+1))=some q) (λJ=>?_) ?_
     .refine dC H B bO O λh H B Y=>af O (λd34=>?_) λd34=>?_
      .have NF:at8 s (k+1)=34:=by simpa using cB (d:=34) d34
       refine dC H B bO O λh H B Y=>ug O d34 <| dC H B bO O λh H B Y=>ae O call168 (dq (h0:=hb) B ((at8 s (k+1)).toNat:Nat) (by simp;omega)) ?_;rintro v h3 ⟨rfl,B3,jQ,K3,qv⟩;have H3:=H.mj hb.n K3 qv (by omega) (hV _ _);clear H B;have H:=H3;have B:BO hb h3 (some (nb,acc++[at8 s (k+1)])):=by
        show jH hb h3 nb ((acc++[at8 s (k+1)]).map cO)
        rw[List.map_append];exact B3
       clear H3 B3;refine dC H B bO O λh H B Y=>?_;exact J (at8 s (k+1)) O ⟨⟨_,_,_,_,H⟩,B,by unfold nZ;rw[if_pos (.inl NF)]⟩
      have ZL:¬ at8 s (k+1)=34:=by simpa using cB (d:=34) d34
      refine dC H B bO O λh H B Y=>af O (λd47=>?_) λd47=>?_
      .have c47:at8 s (k+1)=47:=by simpa using cB (d:=47) d47
       refine dC H B bO O λh H B Y=>ug O d47 <| dC H B bO O λh H B Y=>ae O call168 (dq (h0:=hb) B ((at8 s (k+1)).toNat:Nat) (by simp;omega)) ?_;rintro v h3 ⟨rfl,B3,jQ,K3,qv⟩;have H3:=H.mj hb.n K3 qv (by omega) (hV _ _);clear H B;have H:=H3;have B:BO hb h3 (some (nb,acc++[at8 s (k+1)])):=by
        show jH hb h3 nb ((acc++[at8 s (k+1)]).map cO)
        rw[List.map_append];exact B3
       clear H3 B3;refine dC H B bO O λh H B Y=>?_;exact J (at8 s (k+1)) O ⟨⟨_,_,_,_,H⟩,B,by unfold nZ;rw[if_pos (.inr (.inl c47))]⟩
      have n47:¬ at8 s (k+1)=47:=by simpa using cB (d:=47) d47
      refine dC H B bO O λh H B Y=>af O (λd92=>?_) λd92=>?_
      .have ZM:at8 s (k+1)=92:=by simpa using cB (d:=92) d92
       refine dC H B bO O λh H B Y=>ae O call168 (dq (h0:=hb) B ((at8 s (k+1)).toNat:Nat) (by simp;omega)) ?_;rintro v h3 ⟨rfl,B3,jQ,K3,qv⟩;have H3:=H.mj hb.n K3 qv (by omega) (hV _ _);clear H B;have H:=H3;have B:BO hb h3 (some (nb,acc++[at8 s (k+1)])):=by
        show jH hb h3 nb ((acc++[at8 s (k+1)]).map cO)
        rw[List.map_append];exact B3
       clear H3 B3;refine dC H B bO O λh H B Y=>?_;exact J (at8 s (k+1)) O ⟨⟨_,_,_,_,H⟩,B,by unfold nZ;rw[if_pos (.inr (.inr ZM))]⟩
      have n92:¬ at8 s (k+1)=92:=by simpa using cB (d:=92) d92
      have n0:¬ (at8 s (k+1)=34\/at8 s (k+1)=47\/at8 s (k+1)=92):=by rintro(q|q|q);exact ZL q;exact n47 q;exact n92 q
      refine dC H B bO O λh H B Y=>af O (λd98=>?_) λd98=>?_
      .have c98:at8 s (k+1)=98:=by simpa using cB (d:=98) d98
       refine dC H B bO O λh H B Y=>ae O call168 (dq (h0:=hb) B 8 (by simp;omega)) ?_;rintro v h3 ⟨rfl,B3,jQ,K3,qv⟩;have H3:=H.mj hb.n K3 qv (by omega) (hV _ _);clear H B;have H:=H3;have B:BO hb h3 (some (nb,acc++[8])):=by
        show jH hb h3 nb ((acc++[8]).map cO)
        rw[List.map_append];exact B3
       clear H3 B3;refine dC H B bO O λh H B Y=>?_;exact J (8) O ⟨⟨_,_,_,_,H⟩,B,by unfold nZ;rw[if_neg n0,if_pos c98]⟩
      have WA:¬ at8 s (k+1)=98:=by simpa using cB (d:=98) d98
      refine dC H B bO O λh H B Y=>af O (λd102=>?_) λd102=>?_
      .have ZO:at8 s (k+1)=102:=by simpa using cB (d:=102) d102
       refine dC H B bO O λh H B Y=>ae O call168 (dq (h0:=hb) B 12 (by simp;omega)) ?_;rintro v h3 ⟨rfl,B3,jQ,K3,qv⟩;have H3:=H.mj hb.n K3 qv (by omega) (hV _ _);clear H B;have H:=H3;have B:BO hb h3 (some (nb,acc++[12])):=by
        show jH hb h3 nb ((acc++[12]).map cO)
        rw[List.map_append];exact B3
       clear H3 B3;refine dC H B bO O λh H B Y=>?_;exact J (12) O ⟨⟨_,_,_,_,H⟩,B,by unfold nZ;rw[if_neg n0,if_neg WA,if_pos ZO]⟩
      have n102:¬ at8 s (k+1)=102:=by simpa using cB (d:=102) d102
      refine dC H B bO O λh H B Y=>af O (λd110=>?_) λd110=>?_
      .have ZP:at8 s (k+1)=110:=by simpa using cB (d:=110) d110
       refine dC H B bO O λh H B Y=>ae O call168 (dq (h0:=hb) B 10 (by simp;omega)) ?_;rintro v h3 ⟨rfl,B3,jQ,K3,qv⟩;have H3:=H.mj hb.n K3 qv (by omega) (hV _ _);clear H B;have H:=H3;have B:BO hb h3 (some (nb,acc++[10])):=by
        show jH hb h3 nb ((acc++[10]).map cO)
        rw[List.map_append];exact B3
       clear H3 B3;refine dC H B bO O λh H B Y=>?_;exact J (10) O ⟨⟨_,_,_,_,H⟩,B,by unfold nZ;rw[if_neg n0,if_neg WA,if_neg n102,if_pos ZP]⟩
      have n110:¬ at8 s (k+1)=110:=by simpa using cB (d:=110) d110
      refine dC H B bO O λh H B Y=>af O (λd114=>?_) λd114=>?_
      .have ZQ:at8 s (k+1)=114:=by simpa using cB (d:=114) d114
       refine dC H B bO O λh H B Y=>ae O call168 (dq (h0:=hb) B 13 (by simp;omega)) ?_;rintro v h3 ⟨rfl,B3,jQ,K3,qv⟩;have H3:=H.mj hb.n K3 qv (by omega) (hV _ _);clear H B;have H:=H3;have B:BO hb h3 (some (nb,acc++[13])):=by
        show jH hb h3 nb ((acc++[13]).map cO)
        rw[List.map_append];exact B3
       clear H3 B3;refine dC H B bO O λh H B Y=>?_;exact J (13) O ⟨⟨_,_,_,_,H⟩,B,by unfold nZ;rw[if_neg n0,if_neg WA,if_neg n102,if_neg n110,if_pos ZQ]⟩
      have n114:¬ at8 s (k+1)=114:=by simpa using cB (d:=114) d114
      refine dC H B bO O λh H B Y=>af O (λd116=>?_) λd116=>?_
      .have ZS:at8 s (k+1)=116:=by simpa using cB (d:=116) d116
       refine dC H B bO O λh H B Y=>ae O call168 (dq (h0:=hb) B 9 (by simp;omega)) ?_;rintro v h3 ⟨rfl,B3,jQ,K3,qv⟩;have H3:=H.mj hb.n K3 qv (by omega) (hV _ _);clear H B;have H:=H3;have B:BO hb h3 (some (nb,acc++[9])):=by
        show jH hb h3 nb ((acc++[9]).map cO)
        rw[List.map_append];exact B3
       clear H3 B3;refine dC H B bO O λh H B Y=>?_;exact J (9) O ⟨⟨_,_,_,_,H⟩,B,by unfold nZ;rw[if_neg n0,if_neg WA,if_neg n102,if_neg n110,if_neg n114,if_pos ZS]⟩
      have n116:¬ at8 s (k+1)=116:=by simpa using cB (d:=116) d116
      have kZ:ix s k=none:=by rw[hE];unfold nZ;rw[if_neg n0,if_neg WA,if_neg n102,if_neg n110,if_neg n114,if_neg n116];rfl
      rw[kZ]at eg;refine dC H B bO O λh H B Y=>?_;have H9:=lx (c:=1) H (by omega) (by omega);refine ae O call147 (bX (LO.mk' H9 hs (by omega)) _) ?_;rintro x h3 ⟨⟨t,y,rfl,⟨p,q,r,u,rfl⟩,⟨cs,rfl⟩⟩,k3,iX,jZ,iA,a3,b3,c3,d3,bF⟩;replace H:=H9.aA k3 bF;exact an [1] H O λh H Y=>ab [1] H O ⟨H.kp,kB H hs (by omega) (iw eg) ⟨_,_,_,_,O⟩ ⟨_,O⟩⟩
     clear H B;rintro q h ⟨⟨a,b,c,d,H⟩,B,hq⟩;have hP:ix s k=some ([q],k+2):=by rw[hE,hq];rfl
     rw[hP]at eg;refine dC H B bO O λh H B Y=>?_;exact again (k+2,some (nb,acc++[q])) (by simp only;omega) O ⟨⟨_,_,_,_,lx H (by omega) (by omega)⟩,B,by simp only;omega,by simp only;omega,λp hp=>by injection hp with hp;subst hp;simp;omega,by rw[hS,eg];exact mi _ _ _ _ (by omega) (by omega)⟩
   have wW:¬ at8 s k=92:=by simpa using cB (d:=92) oY
   rw[if_neg wW]at eg;have WB:=oa ax;refine KL 12 [] [] H B bO O λh H B Y=>cV 524 (λ_:Unit=>[(0,.ptr o 0),(2,.ptr h0.n 0),(3,.bu),(4,.int .i64 (s.length:Nat)),(5,BV bo),(7,.int .i32 (jT s k).1),(8,.int .i64 (jT s k).2)]) (λ_ h'=>LI h0 [o] h' o s (st+1) (k:Nat) rest [(h0.n,gR)]/\BO hb h' bo) (λJ=>?_) ?_
   .refine dC H B bO O λh H B Y=>af O (λlv=>?_) λlv=>?_
    .have HB:127<=(at8 s k).toNat:=by have:=of_decide_eq_true lv;omega
     have NG:jT s k=eZ (s.drop k):=by unfold jT;rw[if_pos HB]
     refine dC H B bO O λh H B Y=>fR O O O O (eY O (by omega)) lS (by simpa using jh) (Nat.le_refl _) O ?_;refine jJ O call172 (Q:=λv h'=>v=_/\h'=h) ⟨_,_,⟨O,O⟩,sj (H.kp.aV.trans hT) _⟩ ?_;rintro v uu ⟨rfl,rfl⟩;have e9:(s.take s.length).drop ((k:Nat):Int).toNat=s.drop k:=by simp
     refine dC H B bO O λh H B Y=>J () (HQ.mk O ⟨O,O,O,O,O,?_,?_,trivial⟩) ⟨⟨_,_,_,_,H⟩,B⟩
     .rw[NG,<-e9];rfl
     .rw[NG,<-e9];rfl
    .have HB:¬ 127<=(at8 s k).toNat:=by have:=of_decide_eq_false lv;omega
     have NG:jT s k=((at8 s k).toNat,1):=by unfold jT;rw[if_neg HB]
     refine dC H B bO O λh H B Y=>J () (HQ.mk O ⟨O,O,O,O,O,?_,?_,trivial⟩) ⟨⟨_,_,_,_,H⟩,B⟩
     .rw[NG];exact vi (wrap_i32 (by omega) (by omega))
     .rw[NG];rfl
   clear H B;rintro⟨⟩ h ⟨⟨a,b,c,d,H⟩,B⟩;generalize hcw:jT s k=cw at WB eg|-;obtain⟨ch,w⟩:=cw;simp only at WB eg;have nx:=iw eg;rcases bo with _|⟨nb,acc⟩
   .refine nu [90] H B bO O λh H B Y=>?_;exact again (k+w,none) (by simp only;omega) O ⟨⟨_,_,_,_,lx H (by omega) (by omega)⟩,trivial,by simp only;omega,by simp only;omega,by simp,by rw[hS,eg];exact mi _ _ _ _ (by omega) (by omega)⟩
   .have Dm:=jP _ O
    simp only at Dm;refine nu [91] H B bO O λh H B Y=>ae O call173 (kA (h0:=hb) B (r:=(ch:Nat)) (by omega) (by omega) (by simp;omega)) ?_;rintro v h3 ⟨rfl,B3,jQ,K3,qv⟩;have H3:=H.mj hb.n K3 qv (by omega) (hV _ _);clear H B;have H:=H3;have B:BO hb h3 (some (nb,acc++Lib.encodeRune (ch:Nat))):=by
     show jH hb h3 nb ((acc++Lib.encodeRune (ch:Nat)).map cO)
     rw[List.map_append,Qm];exact B3
    clear H3 B3;have vF:=ra (ch:Nat);refine dC H B bO O λh H B Y=>?_;exact again (k+w,some (nb,acc++Lib.encodeRune (ch:Nat))) (by simp only;omega) O ⟨⟨_,_,_,_,lx H (by omega) (by omega)⟩,B,by simp only;omega,by simp only;omega,λp hp=>by injection hp with hp;subst hp;simp only[List.length_append];omega,by rw[hS,eg];exact mi _ _ _ _ (by omega) (by omega)⟩
  .have fH:s.length<=k:=by have:=of_decide_eq_false ej;omega
   refine dC H B bO O λh H B Y=>?_;exact done k O ⟨⟨_,_,_,_,H⟩,jh,by rw[hS];exact if_pos fH⟩
 .clear H;rintro k h ⟨⟨a,b,c,d,H⟩,hk,kZ⟩;refine ah H O λh H Y=>ae O call147 (bX (LO.mk' H hs hk) _) ?_;rintro x h3 ⟨⟨t,y,rfl,⟨p,q,r,u,rfl⟩,⟨cs,rfl⟩⟩,k3,iX,jZ,iA,a3,b3,c3,d3,bF⟩;replace H:=H.aA k3 bF;exact an [1] H O λh H Y=>ab [1] H O ⟨H.kp,kB H hs hk (by unfold wA;rw[kZ];rfl) ⟨_,_,_,_,rfl⟩ ⟨_,rfl⟩⟩
end
def CW (s:ak):Nat:=(s.takeWhile λc=>c !=10).length
theorem Qo:CW []=0:=rfl
theorem yQ (c:UInt8) (s:ak):CW (c::s)=if c=10 then 0 else CW s+1:=by
 unfold CW;rw[List.takeWhile_cons]
 by_cases h:c=10
 .rw[if_neg (by simp[h]),if_pos h];rfl
 .rw[if_pos (by simp[h]),if_neg h];rfl
theorem TH (s:ak):CW s<=s.length:=by induction s with|nil=>exact Nat.le_refl _|cons c s ih=>rw[yQ];split<;>simp<;>omega
def vj (cur:ak):ak->List ak
 |[]=>[cur]
 |c::r=>if c=10 then cur::vj [] r else vj (cur++[c]) r
theorem NH:∀(s cur:ak),vj cur s=if CW s <s.length then(cur++s.take (CW s))::vj [] (s.drop (CW s+1))else[cur++s]
 |[],cur=>by simp[vj]
 |c::r,cur=>by
  show(if c=10 then cur::vj [] r else vj (cur++[c]) r)=_
  rw[yQ]
  by_cases h:c=10
  .rw[if_pos h,if_pos h,if_pos (by simp)];simp
  .rw[if_neg h,if_neg h,NH r];simp only[List.length_cons,Nat.add_lt_add_iff_right];split<;>simp
theorem CX:∀(s cur l:ak),l∈vj cur s->l.length<=cur.length+s.length
 |[],cur,l,h=>by simp[vj]at h;subst h;simp
 |c::s,cur,l,h=>by
  unfold vj at h;split at h
  .rcases List.mem_cons.1 h with rfl|h
   .simp
   .have:=CX s _ _ h
    simp at this|-;omega
  .have:=CX s _ _ h
   simp at this|-;omega
theorem CY:∀(s cur:ak),(vj cur s).length<=s.length+1
 |[],cur=>by simp[vj]
 |c::s,cur=>by
  unfold vj;split
  .have:=CY s []
   simp;omega
  .have:=CY s (cur++[c])
   simp;omega
theorem iu {fr:ay} {x:Operand} {k:IntKind} {i:Int} {n d:Nat} (e:fr.ev x= .v (.int k i)) (hi:i=(n:Int)):eL fr (some x) d=some n:=by rw[eY e (by omega),hi,Int.toNat_natCast]
section
variable {h h0:AH}
theorem Fg (s:ak) (hs:s.length<=1000000000):∀h0:AH,aP prog 208 [.str s,.str [10]] h0 (.int .i64 (if CW s <s.length then(CW s:Int)else -1)) h0:=by
 intro h0;refine aP.pure (.int _ _) ?_;refine az (n:=25) (rs:=[.tmp 4]) [] ⟨func208,O,O,O⟩ O <| have H:HI h0 [] h0 []:=HI.nil;ah H O λh H Y=>?_;refine fg (λq:Nat=>s.length -q) 25 (λq=>[(0,.str s),(1,.str [10]),(5,.int .i64 q)]) (λq h'=>HI h0 [] h' []/\q<=s.length/\CW s=q+CW (s.drop q)) 0 O ⟨H,by simp,by simp⟩ ?_
 clear H;rintro q h ⟨H,hq,e⟩ again;have e1:IntKind.i64.wrap ((q:Int)+1)=((q+1:Nat):Int):=wI (by omega);refine ah H O λh H Y=>af O (λhb=>?_) λhb=>?_
 .have ax:q <s.length:=by
   have:decide (IntKind.i64.wrap ((q:Int)+1)<=(s.length:Nat))=true:=hb
   rw[e1]at this;have:=of_decide_eq_true this;omega
  have ic:s.drop q=s[q]::s.drop (q+1):=List.drop_eq_getElem_cons ax
  rw[ic,yQ]at e;refine ah H O λh H Y=>ia (a:=q) (b:=q+1) O O O O (iu O O) (iu O e1) (by omega) (by omega) O ?_;have e2:(s.take (q+1)).drop q=[s[q]]:=by rw[List.take_succ_eq_append_getElem ax,List.drop_append_of_le_length (by simp;omega)];simp
  rw[e2];refine ah H O λh H Y=>af O (λaT=>?_) λaT=>?_
  .have uw:s[q]=10:=by have:decide ([s[q]]=[10])=true:=aT;simpa using this
   rw[if_pos uw]at e;exact ah H O λh H Y=>ab [] H O (CL H (by rw[e,if_pos (by omega)];simp))
  .have uw:¬ s[q]=10:=by have:decide ([s[q]]=[10])=false:=aT;simpa using this
   rw[if_neg uw]at e;refine ah H O λh H Y=>?_;exact again (q+1) (by omega) (HQ.mk O ⟨O,O,vi e1,trivial⟩) ⟨H,by omega,by omega⟩
 .have fH:q=s.length:=by
   have:decide (IntKind.i64.wrap ((q:Int)+1)<=(s.length:Nat))=false:=hb
   rw[e1]at this;have:=of_decide_eq_false this;omega
  rw[fH,List.drop_length,Qo]at e;exact ah H O λh H Y=>ab [] H O (CL H (by rw[if_neg (by omega)]))
theorem Fh (s:ak) (hs:s.length<=1000000000):al prog 190 [.str s,.str [10]] h0 (λv h'=>Kp [] h0 h'/\∃r,v= .sl r 0 (cW (vj [] s)).length (cW (vj [] s)).length false/\At h' r (.row (cW (vj [] s)).length (cW (vj [] s)))/\h0.n<=r):=by
 refine az (n:=28) (rs:=[.tmp 4]) [] ⟨func190,O,O,O⟩ O <| have H:HI h0 [] h0 []:=HI.nil;ah H O λh H Y=>?_;refine fg (λq:ak×List ak×AV=>q.1.length) 28 (λq=>[(0,.str q.1),(1,.str [10]),(5,q.2.2)]) (λq h'=>HI h0 [] h' []/\vf h0 h' q.2.2 (cW q.2.1)/\q.2.1.length+q.1.length<=s.length/\vj [] s=q.2.1++vj [] q.1) (s,[],.ao) O ⟨H,.inl ⟨.inr O,O⟩,by simp,by simp⟩ ?_
 clear H;rintro⟨u,gs,y⟩ h ⟨H,R,hl,e⟩ again;simp only at H R hl e;have Lv:=TH u;have UF:∀x:ak,((cW gs).length+([AV.str x]:List AV).length)*(16+1)<=140737488355328:=λx=>by simp[cW];omega
 rw[NH u]at e;refine di H R O λh H R Y=>aF O call208 (Fg u (by omega)) ?_
 by_cases hn:CW u <u.length
 .rw[if_pos hn]at e|-;have e1:IntKind.i64.wrap (((CW u:Nat):Int)+1)=((CW u+1:Nat):Int):=wI (by omega);refine di H R O λh H R Y=>af O (λhb=>by have:=of_decide_eq_true hb;omega) (λhb=>?_);refine di H R O λh H R Y=>ia (a:=0) (b:=CW u) O O O O O (iu O O) (Nat.zero_le _) Lv O ?_;rw[List.drop_zero];refine di H R O λh H R Y=>y5 H R O O O O O O (by simp) O (UF _) ?_;clear H R;intro y' h H R _ ey;refine di H R O λh H R Y=>ia (a:=CW u+1) (b:=u.length) O O O O (iu O e1) O (by omega) (Nat.le_refl _) O ?_;rw[List.take_length];refine di H R O λh H R Y=>?_;refine again (u.drop (CW u+1),gs++[u.take (CW u)],y') (by simp only[List.length_drop];omega) O ⟨H,by simpa[cW]using R,by simp;omega,by rw[e];simp⟩
 .rw[if_neg hn]at e|-;refine di H R O λh H R Y=>af O (λhb=>?_) (λhb=>by have:=of_decide_eq_false hb;omega);refine di H R O λh H R Y=>y5 H R O O O O O O (by simp) O (UF _) ?_;clear H R;intro y' h H R _ ey;refine di H R O λh H R Y=>ab [] H O ?_;rcases R with⟨_,q0⟩|⟨r,q1,q2,q3⟩
  .exact absurd q0 (by simp)
  .rw[e];have e3:cW (gs++[([]:ak)++u])=cW gs++[.str u]:=by simp[cW]
   rw[e3];exact⟨H.kp,r,q1,q2,q3⟩
end
def Kw (s:ak):Int:=if lead s <s.length then(lead s:Int)else 2147483647
theorem CZ {s:ak} (h:s≠[]):mb s=eZ s:=(lk h).symm
theorem Qp {c:UInt8} {r:ak} (h:tZ c=true):mb (c::r)=(c.toNat,1):=by
 have h2:c.toNat <128:=by simp[tZ]at h;rcases h with rfl|rfl<;>decide
 rw[CZ (by simp),lU h2]
theorem NI {c:UInt8} {r:ak} (h:tZ c=false):(mb (c::r)).1≠32/\(mb (c::r)).1≠9:=by
 by_cases h2:c.toNat <128
 .rw[CZ (by simp),lU h2];simp[tZ]at h;exact⟨λe=>h.1 (UInt8.toNat_inj.1 e),λe=>h.2 (UInt8.toNat_inj.1 e)⟩
 .have:=Ay (c:=c) (r:=r) (by omega)
  rw[lk (by simp)]at this;constructor<;>(show(Lib.decodeL (c::r)).1≠_;omega)
section
variable {h h0:AH}
theorem gz (s:ak) (hs:s.length<=1000000000):∀h0:AH,aP prog 191 [.str s] h0 (.int .i64 (Kw s)) h0:=by
 intro h0;refine aP.pure (.int _ _) ?_;refine az (n:=18) (rs:=[.tmp 2]) [] ⟨func191,O,O,O⟩ O <| have H:HI h0 [] h0 []:=HI.nil;ah H O λh H Y=>?_;refine FA H O O O O O ?_;clear H;intro it h ho _ H j;refine di H j O λh H j Y=>fg (λq:Nat=>s.length -q) 18 (λ_=>[(6,.ptr it 0)]) (λq h'=>HI h0 [] h' []/\At h' it (.iter s q)/\lead s=q+lead (s.drop q)) 0 O ⟨H,j,by simp⟩ ?_
 clear H j;rintro q h ⟨H,j,e⟩ again;refine di H j O λh H j Y=>Jc H O O O O j ho (by simp) (λhq=>?_) (λhq=>?_)
 .have ic:s.drop q=s[q]::s.drop (q+1):=List.drop_eq_getElem_cons hq
  rw[ic,vd]at e;clear H j;intro r h hr H j;rw[ic]at hr j;refine di H j O λh H j Y=>jI O ?_
  cases hw:tZ s[q]with
  |true=>
   rw[hw,if_pos O]at e;rw[Qp hw]at hr j;simp only at hr j;have hr2:r=32\/r=9:=by
    simp[tZ]at hw;rcases hw with h|h<;>rw[h]at hr
    .exact .inl hr
    .exact .inr hr
   have go:∀{h:AH},HI h0 [] h []->At h it (.iter s (q+1))->HI h0 [] h []/\At h it (.iter s (q+1))/\lead s=(q+1)+lead (s.drop (q+1)):=λH j=>⟨H,j,by rw[e];omega⟩
   refine di H j O λh H j Y=>aj O (λhb=>?_) (λhb=>?_)
   .have n32:¬ r=32:=by simpa using hb
    refine di H j O λh H j Y=>af O (λaT=>?_) (λaT=>?_)
    .exfalso;have n9:¬ r=9:=by
      have:(!decide (r=9))=true:=aT
      simpa using this
     rcases hr2 with q|q
     .exact n32 q
     .exact n9 q
    .exact di H j O λh H j Y=>again (q+1) (by omega) O (go H j)
   .exact nr [90] H j O λh H j Y=>again (q+1) (by omega) O (go H j)
  |false=>
   rw[hw,if_neg (by simp)]at e;obtain⟨d1,d2⟩:=NI (r:=s.drop (q+1)) hw;refine di H j O λh H j Y=>aj O (λhb=>?_) (λhb=>?_)
   .refine di H j O λh H j Y=>af O (λaT=>?_) (λaT=>?_)
    .exact di H j O λh H j Y=>ab [] H O (CL H (by unfold Kw;rw[e,if_pos (by omega)];simp))
    .exfalso;have n9:r=9:=by
      have:(!decide (r=9))=false:=aT
      simpa using this
     rw[hr]at n9;omega
   .exfalso;have n9:r=32:=by simpa using hb
    rw[hr]at n9;omega
 .rw[List.drop_of_length_le hq,E9]at e;have:=ua s;exact nr [90] H j O λh H j Y=>ab [] H O (CL H (by unfold Kw;rw[if_neg (by omega)]))
end
end
end Go.Am
section
open Go.Shelf
namespace Go.Proofs
def Tryz.vU:Go.Shelf.Ren:=⟨λ|156=>192|165=>209|166=>210|169=>211|240=>218|241=>219|276=>220|277=>221|n=>n,λ|31=>58|9=>9|3=>3|4=>4|0=>0|20=>20|72=>333|76=>291|70=>331|37=>285|75=>43|127=>340|164=>341|5=>5|80=>75|n=>n,λn=>n⟩
theorem Tryz.I0:Go.Proofs.Lays.n156 prog Tryz.vU:={
 mixed:=by kernel_rfl,
 f156:=func192.trans (congrArg some (by kernel_rfl)),
 f165:=func209.trans (congrArg some (by kernel_rfl)),
 f166:=func210.trans (congrArg some (by kernel_rfl)),
 f169:=func211.trans (congrArg some (by kernel_rfl)),
 f240:=func218.trans (congrArg some (by kernel_rfl)),
 f241:=func219.trans (congrArg some (by kernel_rfl)),
 f276:=func220.trans (congrArg some (by kernel_rfl)),
 f277:=func221.trans (congrArg some (by kernel_rfl)),
 t0:=Tryz.underlying0,a0:=Tryz.isAgg0,z0:=Tryz.sizeOf0,v0:=Tryz.zeroValue0,
 t3:=Tryz.underlying3,a3:=Tryz.isAgg3,z3:=Tryz.sizeOf3,v3:=Tryz.zeroValue3,
 t4:=Tryz.underlying4,a4:=Tryz.isAgg4,z4:=Tryz.sizeOf4,v4:=Tryz.zeroValue4,
 t9:=Tryz.underlying9,a9:=Tryz.isAgg9,z9:=Tryz.sizeOf9,v9:=Tryz.zeroValue9,
 t20:=Tryz.underlying20,a20:=Tryz.isAgg20,z20:=Tryz.sizeOf20,v20:=Tryz.zeroValue20,
 t31:=Tryz.underlying58,a31:=Tryz.isAgg58,z31:=Tryz.sizeOf58,v31:=Tryz.zeroValue58,
 t37:=Tryz.underlying285,a37:=Tryz.isAgg285,z37:=Tryz.sizeOf285,v37:=Tryz.zeroValue285,
 t70:=Tryz.underlying331,a70:=Tryz.isAgg331,z70:=Tryz.sizeOf331,v70:=Tryz.zeroValue331,
 t72:=Tryz.underlying333,a72:=Tryz.isAgg333,z72:=Tryz.sizeOf333,v72:=Tryz.zeroValue333,
 t75:=Tryz.underlying43,a75:=Tryz.isAgg43,z75:=Tryz.sizeOf43,v75:=Tryz.zeroValue43,
 t76:=Tryz.underlying291,a76:=Tryz.isAgg291,z76:=Tryz.sizeOf291,v76:=Tryz.zeroValue291,
 t127:=Tryz.underlying340,a127:=Tryz.isAgg340,z127:=Tryz.sizeOf340,v127:=Tryz.zeroValue340,
 t164:=Tryz.underlying341,a164:=Tryz.isAgg341,z164:=Tryz.sizeOf341,v164:=Tryz.zeroValue341}
theorem Tryz.mT:Builder.Extra prog Tryz.vU where
 sizeBuilder:=by kernel_rfl
 liesBuilder:=by kernel_rfl
 t5:=Tryz.underlying5
 a5:=Tryz.isAgg5
 z5:=Tryz.sizeOf5
 v5:=Tryz.zeroValue5
 infoByte:=by kernel_rfl
 cellsByte:=by kernel_rfl
 sizeByte:=by kernel_rfl
 neB5:=by decide
end Go.Proofs
end
namespace Go.Am
open Go.Proofs Go.Proofs.Tryz
section
open Go.RowKit
theorem Fi (ls:List ak):Lib.join ls [10]=gF ls:=by
 cases ls with
 |nil=>rfl
 |cons a r=>
  rw[Lib.join_cons];simp only[gF,Lib.joinTail]
  congr 1
theorem Qq {g:Gh} {w:World} {x y:AV} {vs:Array Value} (H:Df g w [x,y] vs):∃u v,vs=#[u,v]/\VR g w x u/\VR g w y v:=by
 obtain⟨h1,h2⟩:=H
 match vs,h1 with
 |⟨[u,v]⟩,_=>exact⟨u,v,O,h2 0 (by simp),h2 1 (by simp)⟩
theorem Fj {h:AH} {y:AV} {r cap:Nat} {all rest:List ak} (L:Nw r y all rest) (j:At h r (.row cap (cW all))) (hl:(gF rest).length<=140737488355328) (hn:rest.length<=140737488355328):aP prog 192 [y,.str [10]] h (.str (gF rest)) h:=by
 intro g w vs R nC;obtain⟨u,v,rfl,h1,h2⟩:=Qq nC;obtain⟨sep,rfl,ZU⟩:∃sep:ByteArray,v= .string sep/\sep=⟨#[10]⟩:=by
  generalize hq:AV.str [10]=q at h2
  cases h2<;>first|(cases hq;done)|skip
  rename_i b;injection hq with e
  refine⟨b,O,?_⟩
  cases b with|mk d=>congr 1;exact Array.toList_inj.1 (by rw[<-e])
 have OS:sep.data.toList=[10]:=by rw[ZU]
 rcases L with⟨rfl,rfl⟩|⟨off,c,rfl,l1,l2,l3⟩
 .cases h1 with
  |vec _ _ _ ad cap vs hs hc hv ho hm Uc dY ht hz=>
   have:=Any.strings_Join_none Tryz.I0 Tryz.mT (some ad) cap sep w
   refine Calls.mono this ?_;rintro e w' ⟨rfl,rfl⟩;exact⟨_,g,O,.refl g w',R,.str ⟨#[]⟩⟩
 .cases h1 with
  |sl _ _ _ _ _ b rc hb hs Uc xb hex dY=>
   obtain⟨vs,T,fz,hw,hf,hz,hv⟩:=om R j.1 hb;rw[mh]at hz;have pM:∀(j:Nat) (x:ByteArray),(rest.map λs=>(⟨s.toArray⟩:ByteArray))[j]? =some x->w.cell? ⟨b,off+j,none⟩=some (.string x):=λj x hx=>by
    rw[List.getElem?_map]at hx;have hj:j <rest.length:=by
     rcases Nat.lt_or_ge j rest.length with q|q
     .exact q
     .rw[List.getElem?_eq_none q]at hx
      cases hx
    rw[List.getElem?_eq_getElem hj]at hx;injection hx with hx
    obtain⟨g1,g2⟩:=Nw.get (r:=r) (y:= .ao) l3 hj;have Up:=(hv (off+j) (by rw[mh];exact g1)).1;have e1:(cW all)[off+j]'(by rw[mh];exact g1)= .str rest[j]:=by simp[cW,g2]
    rw[e1]at Up;have hk:off+j <vs.size:=by omega
    have e2:vs.getD (off+j) undef=vs[off+j]:=by simp[Array.getD,hk]
    rw[e2]at Up;have e3:w.cell? ⟨b,off+j,none⟩=some vs[off+j]:=by simp[World.cell?,hw,hk]
    rw[e3];generalize vs[off+j]=u at Up;generalize hq:AV.str rest[j]=q at Up
    cases Up<;>first|(cases hq;done)|skip
    rename_i sb;injection hq with e
    rw[<-hx,e]
   have W9:b <w.heap.size:=jl hw;have hmm:(rest.map λs=>(⟨s.toArray⟩:ByteArray)).map (·.data.toList)=rest:=by simp[List.map_map,Function.comp_def]
   have:=Any.strings_Join Tryz.I0 Tryz.mT b off rc (rest.map λs=>(⟨s.toArray⟩:ByteArray)) sep w pM W9 (by simpa using hn) (by simp;omega) (by rw[hmm,OS,Fi];exact hl);rw[List.length_map]at this;refine Calls.mono this ?_;rintro e w' ⟨rfl,dk⟩;obtain⟨E,R'⟩:=xH R dk;rw[hmm,OS,Fi];refine⟨_,g,O,E,R',?_⟩;have:VR g w' (.str ((⟨(gF rest).toArray⟩:ByteArray).data.toList)) (.string ⟨(gF rest).toArray⟩):= .str _;simpa using this
end
section
attribute [local irreducible] AC AL AW AD aP
def mA (c:Int) (l:ak):Int:=if lead l <l.length/\(lead l:Int) <c then(lead l:Int)else c
def dy (ls:List ak):Int:=ls.foldl mA 2147483647
def iG (ls:List ak):List ak:=if dy ls=2147483647 then ls else match ls with
 |[]=>[]
 |l::r=>l::r.map (·.drop (dy ls).toNat)
def TI (raw:ak):ak:=gF (trimB ((iG (vj [] raw)).dropWhile dV))
theorem NJ {c:Int} {l:ak} (h0:0<=c) (h1:c<=2147483647):0<=mA c l/\mA c l<=2147483647:=by unfold mA;split<;>omega
theorem Fk:∀ls:List ak,ls.foldl mA 0=0
 |[]=>rfl
 |l::ls=>by
  have:mA 0 l=0:=by unfold mA;rw[if_neg (by omega)]
  rw[List.foldl_cons,this];exact Fk ls
theorem Kx {ls:List ak} {i:Nat} (h:dy (ls.take i)=0):dy ls=0:=by
 have:dy ls=(ls.drop i).foldl mA (dy (ls.take i)):=by unfold dy;rw[<-List.foldl_append,List.take_append_drop]
 rw[this,h];exact Fk _
theorem HC {ls:List ak} {l:ak}:dy (ls++[l])=mA (dy ls) l:=by unfold dy;rw[List.foldl_append];rfl
theorem Bg (ls:List ak):0<=dy ls/\dy ls<=2147483647:=by
 have:∀(ls:List ak) (c:Int),0<=c->c<=2147483647->0<=ls.foldl mA c/\ls.foldl mA c<=2147483647:=by
  intro ls
  induction ls with|nil=>intro c h0 h1;exact⟨h0,h1⟩|cons l ls ih=>intro c h0 h1;have:=NJ (l:=l) h0 h1;exact ih _ this.1 this.2
 exact this ls _ (by omega) (by omega)
theorem hH (ls:List ak):(iG ls).length=ls.length:=by
 unfold iG;split
 .rfl
 .cases ls<;>simp
theorem yR {ls:List ak} {i:Nat} (hc:¬ dy ls=2147483647) (h:i <ls.length) (h':i <(iG ls).length):(iG ls)[i]=if i=0 then ls[i]else ls[i].drop (dy ls).toNat:=by
 have:∀Lb:List ak,Lb=iG ls->∀h':i <Lb.length,Lb[i]=if i=0 then ls[i]else ls[i].drop (dy ls).toNat:=by
  intro Lb e h';unfold iG at e;rw[if_neg hc]at e;subst e
  cases ls with|nil=>simp at h|cons a r=>cases i<;>simp
 exact this _ O h'
theorem C0 {s:ak} (h:s.length<=1000000000):(Kw s=2147483647)=(dV s=true):=by
 have:=ua s
 unfold Kw dV;split
 .simp;omega
 .simp;omega
section
variable {P:Program} {lt:LT} {h:AH} {fr:ay} {ops:List Oper} {o:Oper}
theorem Fl {t:TypeId} {x y z:Operand} (ho:o.op= .slice t x (some y) (some z) none) (ρ:Operand->Value):(execOp ρ o)=(do pure (.value (<-Instr.sliceAt t (ρ x) (some (ρ y)) (some (ρ z)) none)))/\x∈o.op.operands.toList/\y∈o.op.operands.toList/\z∈o.op.operands.toList:=by obtain⟨dst,op,ty,pos,after,guard⟩:=o;simp only at ho;subst ho;exact⟨O,by simp[Op.operands],by simp[Op.operands],by simp[Op.operands]⟩
theorem ag.Qr {t e:TypeId} {x y z:Operand} {ob off n cap m:Nat} {y9:Bool} {k k':IntKind} (ho:o.op= .slice t x (some y) (some z) none) (hw:au ops fr o.guard=some true) (ht:P.underlying t=some (.slice e)) (hz:kW P e=some 1)
 (ex:fr.ev x= .v (.sl ob off n cap y9)) (ey:fr.ev y= .v (.int k (m:Nat))) (ez:fr.ev z= .v (.int k' (m:Nat))) (hm:m<=cap):ag P lt ops o fr h (.v (.vec .none 1 [])) h:=by
 refine ag.raw hw λg w ρ R hx=>?_;obtain⟨r1,r2,r3,r4⟩:=Fl ho ρ;have v1:=hx x r2 _ ex;have v2:=hx y r3 _ ey;have v3:=hx z r4 _ ez;rw[r1];generalize ρ x=p at v1;generalize ρ y=q at v2;generalize ρ z=u at v3
 cases v2
 cases v3
 cases v1 with
 |sl _ _ _ _ _ b rc hb hs hn xb hex dY=>
  have hle:m<=rc:=by omega
  refine⟨.slice (some (if rc=m then⟨b,off,none⟩else(⟨b,off,none⟩:Addr).add m)) (m -m) (rc -m),g,w,?_,.refl g w,R,?_⟩
  .simp[Instr.sliceAt,Instr.slice,run_underlying ht,run_sizeOf hz,Instr.sliceBounds,Instr.sliceBound,asIntOf,hle];split<;>rfl
  .rw[Nat.sub_self];exact .vec .none 1 [] _ _ (λ_ _=>undef) (by simp) (by simp) (by simp) (by simp) (by simp) (by simp) (by omega) trivial (by simp)
end
section
variable {h h0:AH}
theorem qw (s:ak) (hs:s.length<=4194304):∀h0:AH,aP prog 169 [.str s] h0 (.str (TI s)) h0:=by
 intro h0;refine aP.pure (.str _) ?_;refine az (n:=100) (rs:=[.tmp 2]) [] ⟨func169,O,O,O⟩ O <| have H:HI h0 [] h0 []:=HI.nil;ah H O λh H Y=>?_;refine ae O call190 (Fh s (by omega)) ?_;rintro v h2 ⟨kp,r,rfl,j,hr⟩;have Wu:h0.n<=r:=Nat.le_trans H.kp.n hr;replace H:=H.same kp;have Di:=λl=>CX s [] l
 have UG:=CY s [];unfold TI;revert j Di UG;generalize vj [] s=ls;intro j Di UG;replace Di:∀l∈ls,l.length<=s.length:=λl h=>by have:=Di l h;simpa using this
 rw[mh]at j;rw[mh];have wr:∀{i:Nat},i <ls.length->IntKind.i64.wrap ((i:Int)+1)=((i+1:Nat):Int):=λh=>by rw[wrap_i64 (by omega) (by omega)];omega
 have FO:∀{i:Nat} (hi:i <ls.length),ls[i].length<=s.length:=λhi=>Di _ (List.getElem_mem hi)
 refine di H j O λh H j Y=>aC 100 (λi:Nat=>ls.length -i) (λi=>[(3,.sl r 0 ls.length ls.length false),(4,.int .i64 (dy (ls.take i))),(13,.sl r 0 ls.length ls.length false),(14,.int .i64 (ls.length:Nat)),(15,.int .i64 i)])
  (λi h'=>HI h0 [] h' []/\At h' r (.row ls.length (cW ls))/\i<=ls.length)
  (λ_:Unit=>[(3,.sl r 0 ls.length ls.length false),(4,.int .i64 (dy ls))]) (λ_ h'=>HI h0 [] h' []/\At h' r (.row ls.length (cW ls))) 0 O ⟨H,j,by simp⟩ ?_ ?_
 .clear H j;rintro i h ⟨H,j,hi⟩ again done;refine di H j O λh H j Y=>af O (λhb=>?_) λhb=>?_
  .have ax:i <ls.length:=by have:=of_decide_eq_true hb;omega
   have pa:dy (ls.take (i+1))=mA (dy (ls.take i)) ls[i]:=by rw[List.take_succ_eq_append_getElem ax,HC]
   have Wv:=FO ax
   have hle:=ua ls[i]
   have Xq:=Bg (ls.take i)
   refine di H j O λh H j Y=>ba (ag.iZ O O O O O O (Int.natCast_nonneg _) (by omega)) O <| kV (ag.mH O O O O O j.1 (np ax (by simp))) O <| di H j O λh H j Y=>aF O call191 (gz ls[i] (by omega)) ?_
   by_cases hw:lead ls[i] <ls[i].length
   .have el:Kw ls[i]=(lead ls[i]:Int):=by unfold Kw;rw[if_pos hw]
    rw[el];refine di H j O λh H j Y=>aj O (λej=>?_) (λej=>by have:=of_decide_eq_false ej;omega);refine di H j O λh H j Y=>af O (λaT=>?_) λaT=>?_
    .have l1:(lead ls[i]:Int) <dy (ls.take i):=of_decide_eq_true aT
     have zU:dy (ls.take (i+1))=lead ls[i]:=by rw[pa];unfold mA;rw[if_pos ⟨hw,l1⟩]
     refine di H j O λh H j Y=>af O (λbZ=>?_) λbZ=>?_
     .have l0:(lead ls[i]:Int)=0:=of_decide_eq_true bZ
      have hz:dy ls=0:=Kx (i:=i+1) (by rw[zU,l0])
      exact di H j O λh H j Y=>done () (HQ.mk O ⟨O,vi (by rw[hz,l0]),trivial⟩) ⟨H,j⟩
     .refine di H j O λh H j Y=>?_;exact again (i+1) (by omega) (HQ.mk O ⟨O,vi zU.symm,O,O,vi (wr ax),trivial⟩) ⟨H,j,by omega⟩
    .have l1:¬ (lead ls[i]:Int) <dy (ls.take i):=of_decide_eq_false aT
     have zU:dy (ls.take (i+1))=dy (ls.take i):=by rw[pa];unfold mA;rw[if_neg (by omega)]
     refine di H j O λh H j Y=>?_;exact again (i+1) (by omega) (HQ.mk O ⟨O,vi zU.symm,O,O,vi (wr ax),trivial⟩) ⟨H,j,by omega⟩
   .have el:Kw ls[i]=2147483647:=by unfold Kw;rw[if_neg hw]
    have zU:dy (ls.take (i+1))=dy (ls.take i):=by rw[pa];unfold mA;rw[if_neg (by omega)]
    rw[el];refine di H j O λh H j Y=>aj O (λej=>by have:=of_decide_eq_true ej;omega) (λej=>?_);refine nr [90] H j O λh H j Y=>?_;exact again (i+1) (by omega) (HQ.mk O ⟨O,vi zU.symm,O,O,vi (wr ax),trivial⟩) ⟨H,j,by omega⟩
  .have fH:i=ls.length:=by have:=of_decide_eq_false hb;omega
   exact di H j O λh H j Y=>done () (HQ.mk O ⟨O,vi (by rw[fH,List.take_length]),trivial⟩) ⟨H,j⟩
 clear H j;rintro⟨⟩ h ⟨H,j⟩;have Xq:=Bg ls;refine cV 100 (λ_:Unit=>[(3,.sl r 0 ls.length ls.length false)]) (λ_ h'=>HI h0 [] h' []/\At h' r (.row ls.length (cW (iG ls)))) (λJ=>?_) ?_
 .refine di H j O λh H j Y=>aj O (λhb=>?_) (λhb=>?_)
  .have hc:¬ dy ls=2147483647:=by simpa using hb
   refine di H j O λh H j Y=>af O (λaT=>?_) λaT=>?_
   .have yD:0 <ls.length:=by have:decide ((ls.length:Int) >0)=true:=aT;have:=of_decide_eq_true this;omega
    refine di H j O λh H j Y=>fg (λi:Nat=>ls.length -i) 100 (λi=>[(3,.sl r 0 ls.length ls.length false),(4,.int .i64 (dy ls)),(8,.int .i64 i)]) (λi h'=>HI h0 [] h' []/\At h' r (.row ls.length (cW ((iG ls).take i++ls.drop i)))/\1<=i/\i<=ls.length) 1 O ⟨H,?_,by simp,yD⟩ ?_
    .have Uz:(iG ls)[0]'(by rw[hH];exact yD)=ls[0]:=by rw[yR hc yD,if_pos O]
     have:(iG ls).take 1++ls.drop 1=ls:=by
      have e1:(iG ls).take 1=[ls[0]]:=by rw[List.take_succ_eq_append_getElem (by rw[hH];exact yD),Uz];rfl
      have e2:ls=ls[0]::ls.drop 1:=by have:=List.drop_eq_getElem_cons yD;simpa using this
      rw[e1];exact e2.symm
     rw[this];exact j
    clear H j;rintro i h ⟨H,j,h1i,hi⟩ again;refine di H j O λh H j Y=>af O (λbZ=>?_) λbZ=>?_
    .have ax:i <ls.length:=by have:=of_decide_eq_true bZ;omega
     have wi:i <(iG ls).length:=by rw[hH];exact ax
     have J0:((iG ls).take i).length=i:=by simp[hH];omega
     have Ww:(iG ls)[i]=ls[i].drop (dy ls).toNat:=by rw[yR hc ax wi,if_neg (by omega)]
     have Xr:((iG ls).take i++ls.drop i)[i]'(by simp[hH];omega)=ls[i]:=by rw[List.getElem_append_right (by omega)];simp[J0]
     have ic:ls.drop i=ls[i]::ls.drop (i+1):=List.drop_eq_getElem_cons ax
     have Wv:=FO ax
     have e5:∀x:ak,x=ls[i].drop (dy ls).toNat->((iG ls).take i++ls.drop i).take i++[x]++((iG ls).take i++ls.drop i).drop (i+1)=(iG ls).take (i+1)++ls.drop (i+1):=λx hx=>by rw[List.take_succ_eq_append_getElem wi,Ww,hx,List.take_left' J0,<-List.drop_drop,List.drop_left' J0,ic];simp
     refine di H j O λh H j Y=>ba (ag.iZ O O O O O O (Int.natCast_nonneg _) (by omega)) O <| kV (ag.mH O O O O O j.1 (np (i:=i) (by simp[hH];omega) (by simp))) O ?_;rw[Xr];refine di H j O λh H j Y=>af O (λgp=>?_) λgp=>?_
     .have l1:(ls[i].length:Int) <dy ls:=of_decide_eq_true gp
      refine di H j O λh H j Y=>ba (ag.iZ O O O O O O (Int.natCast_nonneg _) (by omega)) O <| y7 H (by simp) Wu j O O O O O O (by simp[cW,hH];omega) (by simp;omega) ?_;clear H j;intro h H j;rw[yI (x:=[]) (i:=i) (by simp),e5 [] (by rw[List.drop_of_length_le (by omega)])]at j;refine di H j O λh H j Y=>?_;exact again (i+1) (by omega) (HQ.mk O ⟨O,O,vi (wr ax),trivial⟩) ⟨H,j,by omega,by omega⟩
     .have l1:¬ (ls[i].length:Int) <dy ls:=of_decide_eq_false gp
      refine di H j O λh H j Y=>ba (ag.iZ O O O O O O (Int.natCast_nonneg _) (by omega)) O <| kV (ag.mH O O O O O j.1 (np (i:=i) (by simp[hH];omega) (by simp))) O ?_;rw[Xr];refine di H j O λh H j Y=>ia (a:=(dy ls).toNat) (b:=ls[i].length) O O O O (iu O (by omega)) O (by omega) (Nat.le_refl _) O ?_;rw[List.take_length];refine ba (ag.iZ O O O O O O (Int.natCast_nonneg _) (by omega)) O <| y7 H (by simp) Wu j O O O O O O (by simp[cW,hH];omega) (by simp;omega) ?_;clear H j;intro h H j;rw[yI (i:=i) (by simp),e5 _ O]at j;refine di H j O λh H j Y=>?_;exact again (i+1) (by omega) (HQ.mk O ⟨O,O,vi (wr ax),trivial⟩) ⟨H,j,by omega,by omega⟩
    .have fH:i=ls.length:=by have:=of_decide_eq_false bZ;omega
     have hj:(iG ls).take i++ls.drop i=iG ls:=by rw[fH,List.drop_length,List.take_of_length_le (by rw[hH];exact Nat.le_refl _),List.append_nil]
     rw[hj]at j;exact di H j O λh H j Y=>J () O ⟨H,j⟩
   .have h0l:ls=[]:=by have:decide ((ls.length:Int) >0)=false:=aT;have:=of_decide_eq_false this;exact List.length_eq_zero_iff.1 (by omega)
    have zp:iG ls=ls:=by rw[h0l];rfl
    refine di H j O λh H j Y=>?_;exact J () O ⟨H,by rw[zp];exact j⟩
  .have hc:dy ls=2147483647:=by simpa using hb
   have zp:iG ls=ls:=by unfold iG;rw[if_pos hc]
   refine nr [90] H j O λh H j Y=>?_;exact J () O ⟨H,by rw[zp];exact j⟩
 clear H j;rintro⟨⟩ h ⟨H,j⟩;have Dm:(iG ls).length=ls.length:=hH ls;have Jn:∀l∈iG ls,l.length<=s.length:=λl hm=>by
  obtain⟨q,hq,rfl⟩:=List.getElem_of_mem hm;have h1:=FO (i:=q) (by omega)
  by_cases hc:dy ls=2147483647
  .have:(iG ls)[q]=ls[q]'(by omega):=by simp only[iG,if_pos hc]
   rw[this];exact h1
  .rw[yR hc (by omega) hq];split
   .exact h1
   .simp;omega
 revert j Dm Jn;generalize iG ls=all;intro j Dm Jn;rw[<-Dm]at j|-;replace UG:all.length<=s.length+1:=by omega
 clear Di wr FO Xq Dm;have wr:∀{i:Nat},i <all.length->IntKind.i64.wrap ((i:Int)+1)=((i+1:Nat):Int):=λh=>by rw[wrap_i64 (by omega) (by omega)];omega
 have FO:∀{i:Nat} (hi:i <all.length),all[i].length<=1000000000:=λhi=>Nat.le_trans (Jn _ (List.getElem_mem hi)) (by omega)
 refine di H j O λh H j Y=>aC 100 (λi:Nat=>all.length -i) (λi=>[(3,.sl r 0 all.length all.length false),(9,.int .i64 (i:Nat)),(10,.int .i64 (all.length:Nat))])
  (λi h'=>HI h0 [] h' []/\At h' r (.row all.length (cW all))/\i<=all.length/\(all.drop i).dropWhile dV=all.dropWhile dV)
  (λi:Nat=>[(3,.sl r 0 all.length all.length false),(9,.int .i64 (i:Nat)),(10,.int .i64 (all.length:Nat))]) (λi h'=>HI h0 [] h' []/\At h' r (.row all.length (cW all))/\i<=all.length/\all.drop i=all.dropWhile dV) 0 O ⟨H,j,by simp,by simp⟩ ?_ ?_
 .clear H j;rintro i h ⟨H,j,hi,e⟩ again done;refine di H j O λh H j Y=>aj O (λhb=>?_) (λhb=>?_)
  .have ax:i <all.length:=by have:=of_decide_eq_true hb;omega
   have ic:all.drop i=all[i]::all.drop (i+1):=List.drop_eq_getElem_cons ax
   refine di H j O λh H j Y=>ba (ag.iZ O O O O O O (Int.natCast_nonneg _) (by omega)) O <| kV (ag.mH O O O O O j.1 (np ax (by simp))) O <| aF O call191 (gz all[i] (FO ax)) <| di H j O λh H j Y=>af O (λaT=>?_) λaT=>?_
   .have bl:dV all[i]=true:=by
     have:decide (Kw all[i]=2147483647)=true:=aT
     rw[<-C0 (FO ax)];exact of_decide_eq_true this
    refine di H j O λh H j Y=>?_;exact again (i+1) (by omega) (HQ.mk O ⟨O,vi (wr ax),O,trivial⟩) ⟨H,j,by omega,by rw[<-e,ic,List.dropWhile_cons,bl];simp⟩
   .have bl:¬ dV all[i]=true:=by
     have:decide (Kw all[i]=2147483647)=false:=aT
     rw[<-C0 (FO ax)];exact of_decide_eq_false this
    refine di H j O λh H j Y=>?_;exact done i O ⟨H,j,hi,by rw[<-e,ic,List.dropWhile_cons,if_neg bl]⟩
  .have fH:all.length<=i:=by have:=of_decide_eq_false hb;omega
   refine nr [90] H j O λh H j Y=>?_;exact done i O ⟨H,j,hi,by rw[<-e,List.drop_of_length_le fH];rfl⟩
 clear H j;rintro i h ⟨H,j,hi,e⟩;rw[<-e];clear e;refine di H j O λh H j Y=>aC 100 (λn:Nat=>n) (λn=>[(3,.sl r 0 all.length all.length false),(9,.int .i64 (i:Nat)),(10,.int .i64 (n:Nat))])
  (λn h'=>HI h0 [] h' []/\At h' r (.row all.length (cW all))/\i<=n/\n<=all.length/\trimB ((all.take n).drop i)=trimB (all.drop i))
  (λn:Nat=>[(3,.sl r 0 all.length all.length false),(9,.int .i64 (i:Nat)),(10,.int .i64 (n:Nat))]) (λn h'=>HI h0 [] h' []/\At h' r (.row all.length (cW all))/\i<=n/\n<=all.length/\(all.take n).drop i=trimB (all.drop i)) all.length O ⟨H,j,hi,Nat.le_refl _,by rw[List.take_length]⟩ ?_ ?_
 .clear H j;rintro n h ⟨H,j,OB,hn,e⟩ again done;have w1:1<=n->IntKind.i64.wrap ((n:Int) -1)=((n -1:Nat):Int):=λh=>by rw[wrap_i64 (by omega) (by omega)];omega
  refine di H j O λh H j Y=>aj O (λhb=>?_) (λhb=>?_)
  .have ax:i <n:=by have:=of_decide_eq_true hb;omega
   have Rn:n -1 <all.length:=by omega
   have pa:(all.take n).drop i=(all.take (n -1)).drop i++[all[n -1]]:=by
    have h3:all.take (n -1+1)=all.take (n -1)++[all[n -1]]:=List.take_succ_eq_append_getElem Rn
    rw[show n -1+1=n by omega]at h3;rw[h3,List.drop_append_of_le_length (by simp;omega)]
   refine di H j O λh H j Y=>ba (ag.iZ O O O O O O (by show 0<=IntKind.i64.wrap ((n:Int) -1);rw[w1 (by omega)];omega) (by show IntKind.i64.wrap ((n:Int) -1) <(all.length:Int);rw[w1 (by omega)];omega)) O ?_;refine kV (ag.mH O O O O O j.1 (np Rn (by show 0+(IntKind.i64.wrap ((n:Int) -1)).toNat=n -1;rw[w1 (by omega)];simp))) O ?_;refine aF O call191 (gz all[n -1] (FO Rn)) <| di H j O λh H j Y=>af O (λaT=>?_) λaT=>?_
   .have bl:dV all[n -1]=true:=by
     have:decide (Kw all[n -1]=2147483647)=true:=aT
     rw[<-C0 (FO Rn)];exact of_decide_eq_true this
    refine di H j O λh H j Y=>?_;exact again (n -1) (by omega) (HQ.mk O ⟨O,O,vi (w1 (by omega)),trivial⟩) ⟨H,j,by omega,by omega,by rw[<-e,pa,oM,if_pos bl]⟩
   .have bl:¬ dV all[n -1]=true:=by
     have:decide (Kw all[n -1]=2147483647)=false:=aT
     rw[<-C0 (FO Rn)];exact of_decide_eq_false this
    refine di H j O λh H j Y=>?_;exact done n O ⟨H,j,OB,hn,by rw[<-e,pa,oM,if_neg bl]⟩
  .have fH:n=i:=by have:=of_decide_eq_false hb;omega
   have ZV:(all.take n).drop i=[]:=by rw[fH];simp
   refine nr [90] H j O λh H j Y=>?_;exact done n O ⟨H,j,OB,hn,by rw[<-e,ZV];rfl⟩
 clear H j;rintro n h ⟨H,j,OB,hn,e⟩;rw[<-e];clear e;have OV:(gF ((all.take n).drop i)).length<=140737488355328:=by
  have h1:=Bd (ls:=(all.take n).drop i) (B:=4194304) λl hm=>Nat.le_trans (Jn l (List.mem_of_mem_take (List.mem_of_mem_drop hm))) hs
  have h2:((all.take n).drop i).length*(4194304+1)<=4194305*(4194304+1):=Nat.mul_le_mul_right _ (by simp;omega)
  omega
 refine di H j O λh H j Y=>?_
 by_cases ax:i <n
 .refine ba (ag.gA (l:=i) (hh:=n) O O O O O (iu O O) (iu O O) OB (by omega) (.inl (by omega))) O ?_;have hlen:((all.take n).drop i).length=n -i:=by simp;omega
  have L:Nw r (.sl r (0+i) (n -i) (all.length -i) false) all ((all.take n).drop i):= .inr ⟨0+i,all.length -i,by rw[hlen],by omega,by omega,by rw[hlen,Nat.zero_add,List.drop_take]⟩;refine ae O call192 (Q:=λv h'=>v= .str (gF ((all.take n).drop i))/\h'=h) ⟨_,_,⟨O,O⟩,Fj L j OV (by omega)⟩ ?_;rintro v uu ⟨rfl,rfl⟩;exact di H j O λh H j Y=>ab [] H O (Qk H O)
 .have WX:i=n:=by omega
  have ZV:(all.take n).drop i=[]:=by rw[WX];simp
  rw[ZV];refine kV (ag.Qr (m:=n) O O O O O (by rw[<-WX];rfl) rfl hn) rfl ?_;refine ae O call192 (Q:=λv h'=>v= .str (gF [])/\h'=h) ⟨_,_,⟨O,O⟩,Fj (rest:=[]) (.inl ⟨O,O⟩) j (by simp[gF]) (by simp)⟩ ?_;rintro v uu ⟨rfl,rfl⟩;exact di H j O λh H j Y=>ab [] H O (Qk H O)
end
end
def kU (l:ak):Nat:=(l.takeWhile λc=>c==34).length
theorem rb (c:UInt8) (l:ak):kU (c::l)=if c=34 then kU l+1 else 0:=by
 unfold kU;rw[List.takeWhile_cons]
 by_cases h:c=34
 .rw[if_pos (by simp[h]),if_pos h];simp
 .rw[if_neg (by simp[h]),if_neg h];rfl
theorem C5:∀l:ak,kU l<=l.length
 |[]=>Nat.le_refl _
 |c::l=>by rw[rb];have:=C5 l;split<;>simp<;>omega
def eU (s:ak):Nat->Nat->ak->Option (ak×Nat)
 |0,_,_=>none
 |f+1,e,acc=>if s.length<=e then none
  else if at8 s e=34/\3<=kU (s.drop e)then some (acc++List.replicate (kU (s.drop e) -3) 34,e+kU (s.drop e))
  else if(at8 s e).toNat <32/\at8 s e≠9/\at8 s e≠10/\at8 s e≠13 then none
  else if at8 s e=92/\e+4<=s.length/\(s.take (e+4)).drop e=[92,34,34,34]then eU s f (e+4) (acc++[34,34,34])
  else if at8 s e=13 then(if e+1 <s.length/\at8 s (e+1)=10 then eU s f (e+2) (acc++[10])else eU s f (e+1) (acc++[10]))
  else eU s f (e+(jT s e).2) (acc++Lib.encodeRune (jT s e).1)
theorem hU {s:ak}:∀(f g e:Nat) (acc:ak),s.length <f+e->s.length <g+e->eU s f e acc=eU s g e acc:=by
 intro f
 induction f with
 |zero=>
  intro g e b hf hg
  cases g with|zero=>rfl|succ g=>show none=_;unfold eU;rw[if_pos (by omega)]
 |succ f ih=>
  intro g e b hf hg
  cases g with
  |zero=>show _=none;unfold eU;rw[if_pos (by omega)]
  |succ g=>
   unfold eU;split;rfl;rename_i ax;split;rfl;split;rfl;split
   .exact ih g _ _ (by omega) (by omega)
   split
   .split
    .exact ih g _ _ (by omega) (by omega)
    .exact ih g _ _ (by omega) (by omega)
   .have:=oa (s:=s) (e:=e) (by omega)
    exact ih g _ _ (by omega) (by omega)
theorem NK {s:ak}:∀(f e:Nat) (acc:ak) (p:ak×Nat),eU s f e acc=some p->e <p.2/\p.2<=s.length:=by
 intro f
 induction f with
 |zero=>intro e b p h;cases h
 |succ f ih=>
  intro e b p h;unfold eU at h;split at h;cases h;rename_i ax;split at h
  .rename_i h2;have:=C5 (s.drop e);simp only[List.length_drop]at this;injection h with h
   rw[<-h];exact⟨by simp only;omega,by simp only;omega⟩
  split at h;cases h;split at h
  .have:=ih _ _ _ h
   omega
  split at h
  .split at h
   .have:=ih _ _ _ h
    omega
   .have:=ih _ _ _ h
    omega
  .have:=oa (s:=s) (e:=e) (by omega)
   have:=ih _ _ _ h
   omega
section
attribute [local irreducible] AC AL AW AD aP
def wB (h0:AH):AH:={h0 with n:=h0.n+1}
section
variable {h0:AH} {o st:Nat} {s:ak} {rest:List AV}
def Aa (s:ak) (st:Nat):Option (Int×ak×Nat):=(eU s (s.length+1) (st+3) []).map λp=>(20,TI p.1,p.2)
theorem lx2 {h0 h:AH} {ids:List Nat} {o:Nat} {s:ak} {x y x' y' a b c' d:Int} {rest:List AV} {V:View} (H:HI h0 ids h ((o,ND s x a y b c' d rest)::V)) (ex:x=x') (ey:y=y'):HI h0 ids h ((o,ND s x' a y' b c' d rest)::V):=by subst ex ey;exact H
theorem rE (L:LO h0 o s st (st+1) rest) (hT:h0.aV=bQ) (ZW:st+3<=s.length):al prog 145 [.ptr o 0] h0 (λx h'=>Kp [o] h0 h'/\si s o rest (Aa s st) x h'):=by
 obtain⟨ho,hs,he,a,b,c,d,hg⟩:=L;refine az (n:=331) (rs:=[.cell 2 88,.tmp 3]) [] ⟨func145,O,O,O⟩ O <| have H:=HI.one hg ho;ah H O λh H Y=>?_;have jR:h.n=h0.n+2:=Y.1;have bI:h.get (h0.n+1)=some (.cells (gg .ao 0))/\h0.n+1 <h.n:=H.hv.get (e:=(h0.n+1,gg .ao 0)) (by first|exact List.mem_cons_of_mem _ (List.mem_cons_of_mem _ (List.mem_cons_self ..))|simp);have B:BO (wB h0) h (some (h0.n+1,[])):=⟨Nat.le_refl _,none,⟨bI.2,.inl ⟨O,O,bI.1⟩⟩,λr e=>by cases e⟩;have H2:=H.take (k:=2);clear H;have H:HI h0 [o] h [(o,na s (st+3:Nat) (IntKind.i64.wrap (a+3)) (st+3:Nat) (IntKind.i64.wrap (b+2)) c d rest),(h0.n,gR)]:=lx2 H2 (by rw[wrap_i64 (by omega) (by omega)];omega) (by rw[wrap_i64 (by omega) (by omega)];omega);clear H2 bI jR;have bO:∀i∈([o,h0.n]:List Nat),i <(wB h0).n:=by simp[wB];omega
 have hV:∀cs dH:List AV,∀e∈([(o,cs),(h0.n,dH)]:View),e.1 <h0.n+1:=by simp;omega
 have ZG:∀{k:Nat} {acc:ak},k <s.length->eU s (s.length+1) k acc=if at8 s k=34/\3<=kU (s.drop k)then some (acc++List.replicate (kU (s.drop k) -3) 34,k+kU (s.drop k))
  else if(at8 s k).toNat <32/\at8 s k≠9/\at8 s k≠10/\at8 s k≠13 then none
  else if at8 s k=92/\k+4<=s.length/\(s.take (k+4)).drop k=[92,34,34,34]then eU s s.length (k+4) (acc++[34,34,34])
  else if at8 s k=13 then(if k+1 <s.length/\at8 s (k+1)=10 then eU s s.length (k+2) (acc++[10])else eU s s.length (k+1) (acc++[10]))
  else eU s s.length (k+(jT s k).2) (acc++Lib.encodeRune (jT s k).1):=λ{k acc} hk=>by
   show(if s.length<=k then none else _)=_
   rw[if_neg (by omega)]
 refine aC 331 (λq:Nat×ak=>s.length -q.1) (λq=>[(0,.ptr o 0),(2,.ptr h0.n 0),(3,.bu),(4,.int .i64 (s.length:Nat)),(5,.ptr (h0.n+1) 0)])
  (λq h'=>LI h0 [o] h' o s (st+3) (q.1:Nat) rest [(h0.n,gR)]/\BO (wB h0) h' (some (h0.n+1,q.2))/\st+3<=q.1/\q.1<=s.length/\q.2.length<=4*q.1/\eU s (s.length+1) (st+3) []=eU s (s.length+1) q.1 q.2)
  (λ_:Nat=>[(0,.ptr o 0),(2,.ptr h0.n 0),(3,.bu)])
  (λk h'=>LI h0 [o] h' o s (st+3) (k:Nat) rest [(h0.n,gR)]/\k<=s.length/\eU s (s.length+1) (st+3) []=none) (st+3,[]) O ⟨⟨_,_,_,_,H⟩,B,Nat.le_refl _,ZW,by simp,O⟩ ?_ ?_
 .clear H;rintro⟨k,acc⟩ h ⟨⟨a,b,c,d,H⟩,B,vw,jh,jP,hS⟩ again done;simp only at H B vw jh jP hS;have iw:∀{X:Option (ak×Nat)},eU s (s.length+1) k acc=X->Aa s st=X.map λp=>(20,TI p.1,p.2):=λe=>by unfold Aa;rw[hS,e]
  refine dC H B bO O λh H B Y=>af O (λej=>?_) λej=>?_
  .have ax:k <s.length:=by have:=of_decide_eq_true ej;omega
   have eg:=ZG (acc:=acc) ax
   have Ji:=UInt8.toNat_lt (at8 s k)
   have w4:IntKind.i64.wrap ((k:Int)+4)=((k+4:Nat):Int):=wI (by omega)
   refine Z7 20 [] [] H B bO O (iF ax) λh H B Y=>?_;rw[oO];refine cV 331 (λ_:Unit=>[(0,.ptr o 0),(2,.ptr h0.n 0),(3,.bu),(4,.int .i64 (s.length:Nat)),(5,.ptr (h0.n+1) 0),(6,.int .u8 (at8 s k).toNat)]) (λ_ h'=>LI h0 [o] h' o s (st+3) (k:Nat) rest [(h0.n,gR)]/\BO (wB h0) h' (some (h0.n+1,acc))/\¬ (at8 s k=34/\3<=kU (s.drop k))) (λJ=>?_) ?_
   .refine dC H B bO O λh H B Y=>af O (λaT=>?_) λaT=>?_
    .have zZ:at8 s k=34:=by simpa using cB (d:=34) aT
     have w1:IntKind.i64.wrap ((k:Int)+1)=((k+1:Nat):Int):=wI (by omega)
     have hq0:kU (s.drop k)=1+kU (s.drop (k+1)):=by rw[List.drop_eq_getElem_cons ax,rb,if_pos (by rw[<-fG ax];exact zZ)];omega
     have WC:=C5 (s.drop k)
     simp only[List.length_drop]at WC;refine dC H B bO O λh H B Y=>aC 331 (λi:Nat=>s.length -i) (λi=>[(0,.ptr o 0),(2,.ptr h0.n 0),(3,.bu),(4,.int .i64 (s.length:Nat)),(5,.ptr (h0.n+1) 0),(6,.int .u8 (at8 s k).toNat),(7,.int .i64 ((i:Int) -k)),(8,.int .i64 (i:Nat))])
      (λi h'=>LI h0 [o] h' o s (st+3) (k:Nat) rest [(h0.n,gR)]/\BO (wB h0) h' (some (h0.n+1,acc))/\k+1<=i/\i<=s.length/\kU (s.drop k)=(i -k)+kU (s.drop i))
      (λ_:Unit=>[(0,.ptr o 0),(2,.ptr h0.n 0),(3,.bu),(4,.int .i64 (s.length:Nat)),(5,.ptr (h0.n+1) 0),(6,.int .u8 (at8 s k).toNat),(7,.int .i64 (kU (s.drop k):Nat))]) (λ_ h'=>LI h0 [o] h' o s (st+3) (k:Nat) rest [(h0.n,gR)]/\BO (wB h0) h' (some (h0.n+1,acc))) (k+1) (HQ.mk O ⟨O,O,O,O,O,O,vi (by omega),vi w1,trivial⟩) ⟨⟨_,_,_,_,H⟩,B,Nat.le_refl _,by omega,by omega⟩ ?_ ?_
     .clear H B;rintro i h ⟨⟨a,b,c,d,H⟩,B,hi1,hi2,qv⟩ HD I1;have w2:i <s.length->IntKind.i64.wrap ((i:Int)+1)=((i+1:Nat):Int):=λh=>by rw[wrap_i64 (by omega) (by omega)];omega
      refine dC H B bO O λh H B Y=>aj O (λbZ=>?_) (λbZ=>?_)
      .have K0:i <s.length:=by have:=of_decide_eq_true bZ;omega
       have hdi:s.drop i=s[i]::s.drop (i+1):=List.drop_eq_getElem_cons K0
       rw[hdi,rb]at qv;refine Oh [] [] H B bO O (iF K0) λh H B Y=>?_;rw[oO];refine af O (λgp=>?_) λgp=>?_
       .have NF:s[i]=34:=by rw[<-fG K0];simpa using cB (d:=34) gp
        rw[if_pos NF]at qv;refine dC H B bO O λh H B Y=>?_;exact HD (i+1) (by omega) (HQ.mk O ⟨O,O,O,O,O,O,vi (wI (by omega)),vi (w2 K0),trivial⟩) ⟨⟨_,_,_,_,H⟩,B,by omega,by omega,by omega⟩
       .have NF:¬ s[i]=34:=by rw[<-fG K0];simpa using cB (d:=34) gp
        rw[if_neg NF]at qv;exact dC H B bO O λh H B Y=>I1 () (HQ.mk O ⟨O,O,O,O,O,O,vi (by omega),trivial⟩) ⟨⟨_,_,_,_,H⟩,B⟩
      .have K0:s.length<=i:=by have:=of_decide_eq_false bZ;omega
       rw[List.drop_of_length_le K0]at qv;exact nu [90] H B bO O λh H B Y=>I1 () (HQ.mk O ⟨O,O,O,O,O,O,vi (by rw[qv];simp[kU];omega),trivial⟩) ⟨⟨_,_,_,_,H⟩,B⟩
     clear H B;rintro⟨⟩ h ⟨⟨a,b,c,d,H⟩,B⟩;generalize Wy:kU (s.drop k)=qn at hq0 WC eg|-;refine dC H B bO O λh H B Y=>af O (λkH=>?_) λkH=>?_
     .have ZX:3<=qn:=by have:=of_decide_eq_true kH;omega
      rw[if_pos ⟨zZ,ZX⟩]at eg;have w3:IntKind.i64.wrap ((qn:Int) -3)=((qn -3:Nat):Int):=wI (by omega);refine dC H B bO O λh H B Y=>aC 331 (λi:Nat=>qn -3 -i) (λi=>[(0,.ptr o 0),(2,.ptr h0.n 0),(3,.bu),(4,.int .i64 (s.length:Nat)),(5,.ptr (h0.n+1) 0),(7,.int .i64 (qn:Nat)),(96,.int .i64 (qn -3:Nat)),(97,.int .i64 (i:Nat))])
       (λi h'=>LI h0 [o] h' o s (st+3) (k:Nat) rest [(h0.n,gR)]/\BO (wB h0) h' (some (h0.n+1,acc++List.replicate i 34))/\i<=qn -3)
       (λ_:Unit=>[(0,.ptr o 0),(2,.ptr h0.n 0),(3,.bu),(4,.int .i64 (s.length:Nat)),(5,.ptr (h0.n+1) 0),(7,.int .i64 (qn:Nat))]) (λ_ h'=>LI h0 [o] h' o s (st+3) (k:Nat) rest [(h0.n,gR)]/\BO (wB h0) h' (some (h0.n+1,acc++List.replicate (qn -3) 34))) 0 (HQ.mk O ⟨O,O,O,O,O,O,vi w3,O,trivial⟩) ⟨⟨_,_,_,_,H⟩,by simpa using B,Nat.zero_le _⟩ ?_ ?_
      .clear H B;rintro i h ⟨⟨a,b,c,d,H⟩,B,hi⟩ HD I1;refine dC H B bO O λh H B Y=>af O (λfS=>?_) λfS=>?_
       .have K0:i <qn -3:=by have:=of_decide_eq_true fS;omega
        refine dC H B bO O λh H B Y=>ae O call168 (dq (h0:=wB h0) B 34 (by simp;omega)) ?_;rintro v' h3 ⟨rfl,B3,jQ,K3,qv⟩;have H3:=H.mj (h0.n+1) K3 qv (by omega) (hV _ _);clear H B;have H:=H3;have B:BO (wB h0) h3 (some (h0.n+1,(acc++List.replicate i 34)++[34])):=by
         show jH (wB h0) h3 (h0.n+1) (((acc++List.replicate i 34)++[34]).map cO)
         rw[List.map_append];exact B3
        clear H3 B3;refine dC H B bO O λh H B Y=>?_;refine HD (i+1) (by omega) (HQ.mk O ⟨O,O,O,O,O,O,O,vi (wI (by omega)),trivial⟩) ⟨⟨_,_,_,_,H⟩,?_,by omega⟩;rw[List.replicate_succ',<-List.append_assoc];exact B
       .have K0:i=qn -3:=by have:=of_decide_eq_false fS;omega
        refine dC H B bO O λh H B Y=>?_;exact I1 () O ⟨⟨_,_,_,_,H⟩,by rw[<-K0];exact B⟩
      clear H B;rintro⟨⟩ h ⟨⟨a,b,c,d,H⟩,B⟩;have gW:=iw eg;obtain⟨Oy,ro,B1,KR⟩:=B;replace Oy:h0.n+1<=h0.n+1:=Oy;replace KR:∀r,ro=some r->h0.n+1<=r:=KR;refine dZ H O λh H Y kq=>?_;replace B1:=B1.kp kq (by simp;omega) (λr e=>by have:=KR r e;simp;omega);refine ae O call170 (Q:=λv h'=>v= .str (acc++List.replicate (qn -3) 34)/\h'=h) ⟨_,_,⟨O,O⟩,rV B1⟩ ?_;rintro v uu ⟨rfl,rfl⟩;refine ah H O λh H Y=>aF O call169 (qw (acc++List.replicate (qn -3) 34) (by simp;omega)) <| ah H O λh H Y=>ae O call141 (aN (LO.mk' H hs jh) 20 _) ?_;rintro x h3 ⟨⟨t,rfl,p,q,r,u,rfl⟩,k3,iX,jZ,iA,a3,b3,c3,d3,bF⟩;replace H:=H.aA k3 bF;refine an [2,2,2,2,2,0,0,0,0,2,1] H O λh H Y=>?_;exact ab [1] H O ⟨H.kp,by rw[gW];exact⟨_,st+3,O,⟨_,_,_,_,O⟩,LO.mk' (lx H (by omega) (by omega)) hs (by omega)⟩⟩
     .have ZX:¬ 3<=qn:=by have:=of_decide_eq_false kH;omega
      exact dC H B bO O λh H B Y=>J () O ⟨⟨_,_,_,_,H⟩,B,λq=>ZX (by rw[<-Wy];exact q.2)⟩
    .have zZ:¬ at8 s k=34:=by simpa using cB (d:=34) aT
     exact dC H B bO O λh H B Y=>J () O ⟨⟨_,_,_,_,H⟩,B,λq=>zZ q.1⟩
   clear H B;rintro⟨⟩ h ⟨⟨a,b,c,d,H⟩,B,hnq⟩;rw[if_neg hnq]at eg;have nn:∀(d:UInt8) {b:Bool},(!decide (((at8 s k).toNat:Int)=(d.toNat:Int)))=b->(at8 s k==d)= !b:=λd {b} fS=>by rw[<-fS,Bool.not_not];exact(cB (c:=at8 s k) (d:=d) O)
   refine cV 331 (λ_:Unit=>[(0,.ptr o 0),(2,.ptr h0.n 0),(3,.bu),(4,.int .i64 (s.length:Nat)),(5,.ptr (h0.n+1) 0),(6,.int .u8 (at8 s k).toNat)]) (λ_ h'=>LI h0 [o] h' o s (st+3) (k:Nat) rest [(h0.n,gR)]/\BO (wB h0) h' (some (h0.n+1,acc))/\¬ ((at8 s k).toNat <32/\at8 s k≠9/\at8 s k≠10/\at8 s k≠13)) (λJ=>?_) ?_
   .refine dC H B bO O λh H B Y=>aj O (λgp=>?_) (λgp=>?_)
    .have TF:(at8 s k).toNat <32:=by have:=of_decide_eq_true gp;omega
     refine dC H B bO O λh H B Y=>aj O (λkH=>?_) (λkH=>?_)
     .have c9:¬ at8 s k=9:=by simpa using nn 9 kH
      refine dC H B bO O λh H B Y=>aj O (λfS=>?_) (λfS=>?_)
      .have uw:¬ at8 s k=10:=by simpa using nn 10 fS
       refine dC H B bO O λh H B Y=>af O (λfU=>?_) λfU=>?_
       .have wx:¬ at8 s k=13:=by simpa using nn 13 fU
        rw[if_pos ⟨TF,c9,uw,wx⟩]at eg;refine dC H B bO O λh H B Y=>ae O call147 (bX (LO.mk' H hs jh) _) ?_;rintro x h3 ⟨⟨t,y,rfl,⟨p,q,r,u,rfl⟩,⟨cs,rfl⟩⟩,k3,iX,jZ,iA,a3,b3,c3,d3,bF⟩;replace H:=H.aA k3 bF;exact an [1] H O λh H Y=>ab [1] H O ⟨H.kp,kB H hs jh (iw eg) ⟨_,_,_,_,O⟩ ⟨_,O⟩⟩
       .have wx:at8 s k=13:=by simpa using nn 13 fU
        exact dC H B bO O λh H B Y=>J () O ⟨⟨_,_,_,_,H⟩,B,λq=>q.2.2.2 wx⟩
      .have uw:at8 s k=10:=by simpa using nn 10 fS
       exact nu [90] H B bO O λh H B Y=>J () O ⟨⟨_,_,_,_,H⟩,B,λq=>q.2.2.1 uw⟩
     .have c9:at8 s k=9:=by simpa using nn 9 kH
      exact nu [92,90] H B bO O λh H B Y=>J () O ⟨⟨_,_,_,_,H⟩,B,λq=>q.2.1 c9⟩
    .have TF:¬ (at8 s k).toNat <32:=by have:=of_decide_eq_false gp;omega
     exact nu [92,92,90] H B bO O λh H B Y=>J () O ⟨⟨_,_,_,_,H⟩,B,λq=>TF q.1⟩
   clear H B;rintro⟨⟩ h ⟨⟨a,b,c,d,H⟩,B,Oy⟩;rw[if_neg Oy]at eg;refine KL 1 [] [] H B bO O λh H B Y=>cV 331 (λb:Bool=>[(0,.ptr o 0),(2,.ptr h0.n 0),(3,.bu),(4,.int .i64 (s.length:Nat)),(5,.ptr (h0.n+1) 0),(6,.int .u8 (at8 s k).toNat),(210,.bool b)]) (λb h'=>LI h0 [o] h' o s (st+3) (k:Nat) rest [(h0.n,gR)]/\BO (wB h0) h' (some (h0.n+1,acc))/\b=decide (at8 s k=92/\k+4<=s.length/\(s.take (k+4)).drop k=[92,34,34,34])) (λJ=>?_) ?_
   .refine dC H B bO O λh H B Y=>aR O (λaT=>?_) (λaT=>?_)
    .have wW:at8 s k=92:=by simpa using cB (d:=92) aT
     refine dC H B bO O λh H B Y=>aR O (λbZ=>?_) (λbZ=>?_)
     .have l4:k+4<=s.length:=by
       have:decide (IntKind.i64.wrap ((k:Int)+4)<=(s.length:Nat))=true:=bZ
       rw[w4]at this;have:=of_decide_eq_true this;omega
      refine dC H B bO O λh H B Y=>fR (a:=k) (b:=k+4) O O O O (iu O O) (iu O w4) (by omega) (by omega) O <| dC H B bO O λh H B Y=>J (decide ((s.take (k+4)).drop k=[92,34,34,34])) O ⟨⟨_,_,_,_,H⟩,B,?_⟩;simp only[wW,l4,true_and]
     .have l4:¬ k+4<=s.length:=by
       have:decide (IntKind.i64.wrap ((k:Int)+4)<=(s.length:Nat))=false:=bZ
       rw[w4]at this;have:=of_decide_eq_false this;omega
      refine dC H B bO O λh H B Y=>?_;exact J false O ⟨⟨_,_,_,_,H⟩,B,by simp[l4]⟩
    .have wW:¬ at8 s k=92:=by simpa using cB (d:=92) aT
     refine nu [92] H B bO O λh H B Y=>?_;exact J false O ⟨⟨_,_,_,_,H⟩,B,by simp[wW]⟩
   clear H B;rintro be h ⟨⟨a,b,c,d,H⟩,B,Tp⟩;refine af O (λoY=>?_) λoY=>?_
   .have O4:at8 s k=92/\k+4<=s.length/\(s.take (k+4)).drop k=[92,34,34,34]:=by
     have:be=true:=oY
     rw[this]at Tp;exact of_decide_eq_true Tp.symm
    rw[if_pos O4]at eg;refine dC H B bO O λh H B Y=>ae O call171 (wy (h0:=wB h0) B (s:=[34,34,34]) (by simp) (by simp) (by simp;omega)) ?_;rintro v' h3 ⟨rfl,B3,jQ,K3,qv⟩;have H3:=H.mj (h0.n+1) K3 qv (by omega) (hV _ _);clear H B;have H:=H3;have B:BO (wB h0) h3 (some (h0.n+1,acc++[34,34,34])):=by
     show jH (wB h0) h3 (h0.n+1) ((acc++[34,34,34]).map cO)
     rw[List.map_append];exact B3
    clear H3 B3;refine dC H B bO O λh H B Y=>?_;exact again (k+4,acc++[34,34,34]) (by simp only;omega) O ⟨⟨_,_,_,_,lx H (by omega) (by omega)⟩,B,by simp only;omega,by simp only;omega,by simp;omega,by rw[hS,eg];exact hU _ _ _ _ (by omega) (by omega)⟩
   have O4:¬ (at8 s k=92/\k+4<=s.length/\(s.take (k+4)).drop k=[92,34,34,34]):=by
    have:be=false:=oY
    rw[this]at Tp;exact of_decide_eq_false Tp.symm
   rw[if_neg O4]at eg;refine dC H B bO O λh H B Y=>af O (λlv=>?_) λlv=>?_
   .have wx:at8 s k=13:=by simpa using cB (d:=13) lv
    rw[if_pos wx]at eg;have w1:IntKind.i64.wrap ((k:Int)+1)=((k+1:Nat):Int):=wI (by omega);refine cV 331 (λ_:Nat=>[(0,.ptr o 0),(2,.ptr h0.n 0),(3,.bu),(4,.int .i64 (s.length:Nat)),(5,.ptr (h0.n+1) 0)]) (λq h'=>LI h0 [o] h' o s (st+3) (q:Nat) rest [(h0.n,gR)]/\BO (wB h0) h' (some (h0.n+1,acc))/\q=if k+1 <s.length/\at8 s (k+1)=10 then k+1 else k) (λJ=>?_) ?_
    .refine dC H B bO O λh H B Y=>aR O (λaT=>?_) (λaT=>?_)
     .have l1:k+1 <s.length:=by
       have:decide (IntKind.i64.wrap ((k:Int)+1) <(s.length:Nat))=true:=aT
       rw[w1]at this;have:=of_decide_eq_true this;omega
      refine Oh [] [] H B bO O (by rw[w1];exact iF l1) λh H B Y=>?_;have g1:s.getD (IntKind.i64.wrap ((k:Int)+1)).toNat 0=at8 s (k+1):=by rw[w1];exact oO
      rw[g1];refine af O (λbZ=>?_) λbZ=>?_
      .have uw:at8 s (k+1)=10:=by simpa using cB (d:=10) bZ
       refine dC H B bO O λh H B Y=>?_;exact J (k+1) O ⟨⟨_,_,_,_,lx H (by omega) (by omega)⟩,B,by rw[if_pos ⟨l1,uw⟩]⟩
      .have uw:¬ at8 s (k+1)=10:=by simpa using cB (d:=10) bZ
       refine dC H B bO O λh H B Y=>?_;exact J k O ⟨⟨_,_,_,_,H⟩,B,by rw[if_neg (λq=>uw q.2)]⟩
     .have l1:¬ k+1 <s.length:=by
       have:decide (IntKind.i64.wrap ((k:Int)+1) <(s.length:Nat))=false:=aT
       rw[w1]at this;have:=of_decide_eq_false this;omega
      refine nu [90] H B bO O λh H B Y=>?_;exact J k O ⟨⟨_,_,_,_,H⟩,B,by rw[if_neg (λq=>l1 q.1)]⟩
    clear H B;rintro q h ⟨⟨a,b,c,d,H⟩,B,hq⟩;have ZY:eU s (s.length+1) k acc=eU s s.length (q+1) (acc++[10]):=by rw[eg,hq];split<;>rfl
    have pj:k<=q/\q+1<=s.length:=by rw[hq];split<;>omega
    clear eg;have eg:=ZY;refine dC H B bO O λh H B Y=>ae O call168 (dq (h0:=wB h0) B 10 (by simp;omega)) ?_;rintro v' h3 ⟨rfl,B3,jQ,K3,qv⟩;have H3:=H.mj (h0.n+1) K3 qv (by omega) (hV _ _);clear H B;have H:=H3;have B:BO (wB h0) h3 (some (h0.n+1,acc++[10])):=by
     show jH (wB h0) h3 (h0.n+1) ((acc++[10]).map cO)
     rw[List.map_append];exact B3
    clear H3 B3;refine dC H B bO O λh H B Y=>?_;exact again (q+1,acc++[10]) (by simp only;omega) O ⟨⟨_,_,_,_,lx H (by omega) (by omega)⟩,B,by simp only;omega,by simp only;omega,by simp;omega,by rw[hS,eg];exact hU _ _ _ _ (by omega) (by omega)⟩
   have wx:¬ at8 s k=13:=by simpa using cB (d:=13) lv
   rw[if_neg wx]at eg;have WB:=oa ax;refine KL 12 [] [] H B bO O λh H B Y=>cV 331 (λ_:Unit=>[(0,.ptr o 0),(2,.ptr h0.n 0),(3,.bu),(4,.int .i64 (s.length:Nat)),(5,.ptr (h0.n+1) 0),(6,.int .u8 (at8 s k).toNat),(11,.int .i32 (jT s k).1),(12,.int .i64 (jT s k).2)]) (λ_ h'=>LI h0 [o] h' o s (st+3) (k:Nat) rest [(h0.n,gR)]/\BO (wB h0) h' (some (h0.n+1,acc))) (λJ=>?_) ?_
   .refine dC H B bO O λh H B Y=>af O (λlv=>?_) λlv=>?_
    .have HB:127<=(at8 s k).toNat:=by have:=of_decide_eq_true lv;omega
     have NG:jT s k=eZ (s.drop k):=by unfold jT;rw[if_pos HB]
     refine dC H B bO O λh H B Y=>fR O O O O (eY O (by omega)) lS (by simpa using jh) (Nat.le_refl _) O ?_;refine jJ O call172 (Q:=λv h'=>v=_/\h'=h) ⟨_,_,⟨O,O⟩,sj (H.kp.aV.trans hT) _⟩ ?_;rintro v uu ⟨rfl,rfl⟩;have e9:(s.take s.length).drop ((k:Nat):Int).toNat=s.drop k:=by simp
     refine dC H B bO O λh H B Y=>J () (HQ.mk O ⟨O,O,O,O,O,O,?_,?_,trivial⟩) ⟨⟨_,_,_,_,H⟩,B⟩
     .rw[NG,<-e9];rfl
     .rw[NG,<-e9];rfl
    .have HB:¬ 127<=(at8 s k).toNat:=by have:=of_decide_eq_false lv;omega
     have NG:jT s k=((at8 s k).toNat,1):=by unfold jT;rw[if_neg HB]
     refine dC H B bO O λh H B Y=>J () (HQ.mk O ⟨O,O,O,O,O,O,?_,?_,trivial⟩) ⟨⟨_,_,_,_,H⟩,B⟩
     .rw[NG];exact vi (wrap_i32 (by omega) (by omega))
     .rw[NG];rfl
   clear H B;rintro⟨⟩ h ⟨⟨a,b,c,d,H⟩,B⟩;generalize hcw:jT s k=cw at WB eg|-;obtain⟨ch,w⟩:=cw;simp only at WB eg;refine dC H B bO O λh H B Y=>ae O call173 (kA (h0:=wB h0) B (r:=(ch:Nat)) (by omega) (by omega) (by simp;omega)) ?_;rintro v' h3 ⟨rfl,B3,jQ,K3,qv⟩;have H3:=H.mj (h0.n+1) K3 qv (by omega) (hV _ _);clear H B;have H:=H3;have B:BO (wB h0) h3 (some (h0.n+1,acc++Lib.encodeRune (ch:Nat))):=by
    show jH (wB h0) h3 (h0.n+1) ((acc++Lib.encodeRune (ch:Nat)).map cO)
    rw[List.map_append,Qm];exact B3
   clear H3 B3;have vF:=ra (ch:Nat);refine dC H B bO O λh H B Y=>af O (λCk=>?_) λCk=>?_
   .refine dC H B bO O λh H B Y=>?_;exact again (k+w,acc++Lib.encodeRune (ch:Nat)) (by simp only;omega) O ⟨⟨_,_,_,_,lx H (by omega) (by omega)⟩,B,by simp only;omega,by simp only;omega,by simp only[List.length_append];omega,by rw[hS,eg];exact hU _ _ _ _ (by omega) (by omega)⟩
   .refine dC H B bO O λh H B Y=>?_;exact again (k+w,acc++Lib.encodeRune (ch:Nat)) (by simp only;omega) O ⟨⟨_,_,_,_,lx H (by omega) (by omega)⟩,B,by simp only;omega,by simp only;omega,by simp only[List.length_append];omega,by rw[hS,eg];exact hU _ _ _ _ (by omega) (by omega)⟩
  .have fH:s.length<=k:=by have:=of_decide_eq_false ej;omega
   refine dC H B bO O λh H B Y=>?_;exact done k O ⟨⟨_,_,_,_,H⟩,jh,by rw[hS];exact if_pos fH⟩
 .clear H B;rintro k h ⟨⟨a,b,c,d,H⟩,hk,kZ⟩;refine ah H O λh H Y=>ae O call147 (bX (LO.mk' H hs hk) _) ?_;rintro x h3 ⟨⟨t,y,rfl,⟨p,q,r,u,rfl⟩,⟨cs,rfl⟩⟩,k3,iX,jZ,iA,a3,b3,c3,d3,bF⟩;replace H:=H.aA k3 bF;exact an [1] H O λh H Y=>ab [1] H O ⟨H.kp,kB H hs hk (by unfold Aa;rw[kZ];rfl) ⟨_,_,_,_,rfl⟩ ⟨_,rfl⟩⟩
end
end
theorem Qs {bs r:ak} {a:Nat} (h:sg bs (r.drop a)=true):a <r.length:=by
 rcases Nat.lt_or_ge a r.length with h2|h2
 .exact h2
 .rw[List.drop_of_length_le h2]at h;simp[sg]at h
theorem C6 {r:ak} {a:Nat} (h:¬ fh (r.drop a)=0):a+fh (r.drop a)<=r.length:=by
 have:=Io (r.drop a)
 simp only[List.length_drop]at this;omega
theorem NL {r:ak} {n:Nat} (h:wb r=some n):1<=n/\n<=r.length:=by
 unfold wb at h;simp only at h;split at h
 .rename_i h1;have:=Qs h1;split at h
  .injection h with h
   omega
  .cases h
 .split at h
  .cases h
  .rename_i h2;have:=C6 h2;injection h with h
   omega
theorem NM {r:ak} {a:Nat} {p:Bool×Nat} (ha:a<=r.length) (h:wc r a=some p):a<=p.2/\p.2<=r.length:=by
 unfold wc at h;split at h
 .split at h
  .cases h
  .rename_i h2;have:=C6 h2;injection h with h
   subst h;exact⟨by simp only;omega,by simp only;omega⟩
 .injection h with h
  subst h;exact⟨Nat.le_refl _,ha⟩
theorem NN {r:ak} {a:Nat} {f:Bool} {p:Bool×Nat} (ha:a<=r.length) (h:xE r f a=some p):a<=p.2/\p.2<=r.length:=by
 unfold xE at h;split at h
 .simp only at h;split at h
  .cases h
  .rename_i h2;have:=C6 h2;injection h with h
   subst h;exact⟨by simp only;omega,by simp only;omega⟩
 .injection h with h
  subst h;exact⟨Nat.le_refl _,ha⟩
theorem NO {r:ak} {p:Bool×Nat} (h:we r=some p):1<=p.2/\p.2<=r.length:=by
 unfold we at h
 cases h1:wb r with
 |none=>rw[h1]at h;cases h
 |some a=>
  rw[h1]at h;have r1:=NL h1;replace h:(wc r a).bind (λp=>xE r p.1 p.2)=some p:=h
  cases h2:wc r a with|none=>rw[h2]at h;cases h|some q=>rw[h2]at h;have r2:=NM r1.2 h2;have r3:=NN r2.2 h;omega
def Lc (c:UInt8):Nat:=if c=33 then 2 else if c=36 then 3 else if c=38 then 4 else if c=40 then 5 else if c=41 then 6 else if c=58 then 8 else if c=61 then 9 else if c=64 then 10 else if c=91 then 11 else if c=93 then 12 else if c=123 then 13 else if c=125 then 14 else if c=124 then 15 else 0
def pf (c:UInt8):Bool:=(decide (97<=c.toNat)&&decide (c.toNat<=122))||(decide (65<=c.toNat)&&decide (c.toNat<=90))||decide (c.toNat=95)
def Fm (s:ak) (k:Nat) (d:UInt8):Prop:=k+2 <s.length/\(s.take (k+3)).drop k=[d,d,d]
instance (s:ak) (k:Nat) (d:UInt8):Decidable (Fm s k d):=by unfold Fm;infer_instance
def pT (s:ak) (k:Nat):Option (Int×ak×Nat):=
 if Lc (at8 s k)≠0 then some (Lc (at8 s k),[],k+1)
 else if at8 s k=46 then(if Fm s k 46 then some (7,[],k+3)else none)
 else if at8 s k=35 then some (21,(s.take (k+1+runN oj (s.drop (k+1)))).drop k,k+1+runN oj (s.drop (k+1)))
 else if pf (at8 s k)=true then some (16,(s.take (k+1+runN iK (s.drop (k+1)))).drop k,k+1+runN iK (s.drop (k+1)))
 else if at8 s k=45\/(48<=(at8 s k).toNat/\(at8 s k).toNat<=57)then iU s k
 else if at8 s k=34 then(if Fm s k 34 then Aa s k else wA s k)
 else none
def pL (s:ak) (e:Nat):Option (Int×ak×Nat):=if s.length<=e+pB (s.drop e)then some (1,[],e+pB (s.drop e))else pT s (e+pB (s.drop e))
theorem Qt (c:UInt8):Lc c=0\/(2<=Lc c/\Lc c<=15):=by
 have:∀n,Lc c=n->n=0\/(2<=n/\n<=15):=by
  intro n h;unfold Lc at h
  by_cases h1:c=33;rw[if_pos h1]at h;omega
  rw[if_neg h1]at h;clear h1
  by_cases h1:c=36;rw[if_pos h1]at h;omega
  rw[if_neg h1]at h;clear h1
  by_cases h1:c=38;rw[if_pos h1]at h;omega
  rw[if_neg h1]at h;clear h1
  by_cases h1:c=40;rw[if_pos h1]at h;omega
  rw[if_neg h1]at h;clear h1
  by_cases h1:c=41;rw[if_pos h1]at h;omega
  rw[if_neg h1]at h;clear h1
  by_cases h1:c=58;rw[if_pos h1]at h;omega
  rw[if_neg h1]at h;clear h1
  by_cases h1:c=61;rw[if_pos h1]at h;omega
  rw[if_neg h1]at h;clear h1
  by_cases h1:c=64;rw[if_pos h1]at h;omega
  rw[if_neg h1]at h;clear h1
  by_cases h1:c=91;rw[if_pos h1]at h;omega
  rw[if_neg h1]at h;clear h1
  by_cases h1:c=93;rw[if_pos h1]at h;omega
  rw[if_neg h1]at h;clear h1
  by_cases h1:c=123;rw[if_pos h1]at h;omega
  rw[if_neg h1]at h;clear h1
  by_cases h1:c=125;rw[if_pos h1]at h;omega
  rw[if_neg h1]at h;clear h1
  by_cases h1:c=124;rw[if_pos h1]at h;omega
  rw[if_neg h1]at h;clear h1;omega
 exact this _ O
theorem C7 {s:ak} {k:Nat} {n:Int} {v:ak} {e':Nat} (hk:k <s.length) (h:pT s k=some (n,v,e')):2<=n/\k <e'/\e'<=s.length:=by
 unfold pT at h;split at h
 .rename_i h1;have:=Qt (at8 s k);injection h with h
  injection h with a b
  injection b with b c
  omega
 split at h
 .split at h
  .rename_i h1 h2 h3;have:=h3.1;injection h with h
   injection h with a b
   injection b with b c
   omega
  .cases h
 split at h
 .have:=wL oj (s.drop (k+1))
  simp only[List.length_drop]at this;injection h with h
  injection h with a b
  injection b with b c
  omega
 split at h
 .have:=wL iK (s.drop (k+1))
  simp only[List.length_drop]at this;injection h with h
  injection h with a b
  injection b with b c
  omega
 split at h
 .unfold iU at h
  cases hn:we (s.drop k)with
  |none=>rw[hn]at h;cases h
  |some p=>
   rw[hn]at h;have:=NO hn;simp only[List.length_drop]at this;injection h with h
   injection h with a b
   injection b with b c
   split at a<;>omega
 split at h
 .split at h
  .unfold Aa at h
   cases hn:eU s (s.length+1) (k+3) []with
   |none=>rw[hn]at h;cases h
   |some p=>
    rw[hn]at h;have:=NK _ _ _ _ hn;injection h with h
    injection h with a b
    injection b with b c
    omega
  .unfold wA at h
   cases hn:iO s (k+1) (s.length+1) (k+1) none with
   |none=>rw[hn]at h;cases h
   |some p=>
    rw[hn]at h;have:=NC _ _ _ _ hn;injection h with h
    injection h with a b
    injection b with b c
    omega
 .cases h
theorem I3 {s:ak} {e:Nat} (h:s.length<=e):pB (s.drop e)=0:=by rw[List.drop_of_length_le h,pB]
theorem TJ {s:ak} {e:Nat} {k:Int} {v:ak} {e':Nat} (h:pL s e=some (k,v,e')):1<=k:=by
 unfold pL at h;split at h
 .injection h with h
  injection h with a b
  omega
 .have:=C7 (by omega) h
  omega
theorem Qu {s:ak} {e:Nat} {k:Int} {v:ak} {e':Nat} (h:pL s e=some (k,v,e')) (hk:k≠1):e <e'/\e'<=s.length:=by
 unfold pL at h;split at h
 .injection h with h
  injection h with a b
  omega
 .have:=C7 (by omega) h
  omega
theorem TK {s:ak} {e:Nat} {v:ak} {e':Nat} (h:pL s e=some (1,v,e')):v=[]/\pL s e'=some (1,[],e'):=by
 unfold pL at h;split at h
 .rename_i h1;injection h with h
  injection h with a b
  injection b with b c
  refine⟨b.symm,?_⟩;rw[<-c];unfold pL;rw[I3 h1,if_pos (by omega)];rfl
 .have:=C7 (by omega) h
  omega
section
attribute [local irreducible] AC AL AW AD aP
theorem oc {s:ak} {k n:Nat} {c:UInt8} (e:at8 s k=c) (hm:Lc c=n) (h0:n≠0):pT s k=some ((n:Int),[],k+1):=by unfold pT;rw[e,hm,if_pos h0]
theorem NP {c:UInt8} {n:Int} (d:decide ((c.toNat:Int)=n)=true) (h:(97<=n/\n<=122)\/(65<=n/\n<=90)\/n=95):pf c=true:=by
 have:=of_decide_eq_true d
 simp only[pf,Bool.or_eq_true,Bool.and_eq_true,decide_eq_true_eq];omega
theorem c45 {c:UInt8}:(c=45)=((c.toNat:Int)=45):=by
 apply propext;constructor
 .intro h;rw[h];rfl
 .intro h;exact UInt8.toNat_inj.1 (by have e:(45:UInt8).toNat=45:=rfl;omega)
theorem Qv {c:UInt8} {n:Int} (d:decide ((c.toNat:Int)=n)=true) (h:n=45\/(48<=n/\n<=57)):decide (c=45\/(48<=c.toNat/\c.toNat<=57))=true:=by
 have:=of_decide_eq_true d
 simp only[decide_eq_true_eq,c45];omega
section
variable {h0:AH} {o st e:Nat} {s:ak} {rest:List AV}
theorem Ab (L:LO h0 o s st e rest) (hT:h0.aV=bQ):al prog 99 [.ptr o 0] h0 (λx h'=>Kp [o] h0 h'/\si s o rest (pL s e) x h'):=by
 obtain⟨ho,hs,he,a,b,c,d,hg⟩:=L;refine az (n:=366) (rs:=[.cell 2 88,.tmp 3]) [] ⟨func99,O,O,O⟩ O <| have H:=HI.one hg ho;ah H O λh H Y=>?_;refine ae O call139 (R6 (LO.mk' H hs he)) ?_;rintro x h3 ⟨k3,iX,jZ,iA,a3,b3,c3,d3,bF⟩;replace H:=H.aA k3 bF;have Ky:pL s e=if s.length<=e+pB (s.drop e)then some (1,[],e+pB (s.drop e))else pT s (e+pB (s.drop e)):=rfl
 generalize e+pB (s.drop e)=k at iA Ky H;clear k3 bF hg iX jZ;refine ah H O λh H Y=>af O (λhb=>?_) λhb=>?_
 .have fH:s.length<=k:=by have:=of_decide_eq_true hb;omega
  rw[if_pos fH]at Ky;refine ah H O λh H Y=>ae O call140 (fE (LO.mk' H hs iA) 1 (Nat.le_refl _)) ?_;rintro x h3 ⟨⟨t,rfl,p,q,r,u,rfl⟩,k3,iX,jZ,iA,a3,b3,c3,d3,bF⟩;replace H:=H.aA k3 bF;refine an [1] H O λh H Y=>ab [1] H O ⟨H.kp,?_⟩;rw[Ky];exact⟨_,k,O,⟨_,_,_,_,by rw[drop_take_self]⟩,LO.mk' H hs iA⟩
 have ax:k <s.length:=by have:=of_decide_eq_false hb;omega
 rw[if_neg (by omega)]at Ky;have qE:=Ky;clear Ky;refine aaC 43 H O (iF ax) λh H Y kq=>?_;rw[oO];replace H:=lx (c:=1) H (by omega) (by omega);refine cV 366 (λ_:Unit=>[(0,.ptr o 0),(2,.ptr h0.n 0),(3,.bu),(4,.int .u8 (at8 s k).toNat)]) (λ_ h'=>LI h0 [o] h' o s k (k+1:Nat) rest [(h0.n,gR)]/\pT s k=none) (λJ=>?_) ?_
 .refine ah H O λh H Y=>af O (λd33=>?_) λd33=>?_
  .have e:at8 s k=33:=by simpa using cB (d:=33) d33
   refine ah H O λh H Y=>ae O call141 (aN (LO.mk' H hs (by omega)) 2 []) ?_;rintro x h3 ⟨⟨t,rfl,p,q,r,u,rfl⟩,k3,iX,jZ,iA,a3,b3,c3,d3,bF⟩;replace H:=H.aA k3 bF;refine an [1] H O λh H Y=>?_;exact ab [1] H O ⟨H.kp,by rw[qE,oc e O (by decide)];exact⟨_,k,O,⟨_,_,_,_,O⟩,LO.mk' H hs (by omega)⟩⟩
  have n33:¬ at8 s k=33:=by simpa using cB (d:=33) d33
  refine ah H O λh H Y=>af O (λd36=>?_) λd36=>?_
  .have e:at8 s k=36:=by simpa using cB (d:=36) d36
   refine ah H O λh H Y=>ae O call141 (aN (LO.mk' H hs (by omega)) 3 []) ?_;rintro x h3 ⟨⟨t,rfl,p,q,r,u,rfl⟩,k3,iX,jZ,iA,a3,b3,c3,d3,bF⟩;replace H:=H.aA k3 bF;refine an [1] H O λh H Y=>?_;exact ab [1] H O ⟨H.kp,by rw[qE,oc e O (by decide)];exact⟨_,k,O,⟨_,_,_,_,O⟩,LO.mk' H hs (by omega)⟩⟩
  have n36:¬ at8 s k=36:=by simpa using cB (d:=36) d36
  refine ah H O λh H Y=>af O (λd38=>?_) λd38=>?_
  .have e:at8 s k=38:=by simpa using cB (d:=38) d38
   refine ah H O λh H Y=>ae O call141 (aN (LO.mk' H hs (by omega)) 4 []) ?_;rintro x h3 ⟨⟨t,rfl,p,q,r,u,rfl⟩,k3,iX,jZ,iA,a3,b3,c3,d3,bF⟩;replace H:=H.aA k3 bF;refine an [1] H O λh H Y=>?_;exact ab [1] H O ⟨H.kp,by rw[qE,oc e O (by decide)];exact⟨_,k,O,⟨_,_,_,_,O⟩,LO.mk' H hs (by omega)⟩⟩
  have n38:¬ at8 s k=38:=by simpa using cB (d:=38) d38
  refine ah H O λh H Y=>af O (λd40=>?_) λd40=>?_
  .have e:at8 s k=40:=by simpa using cB (d:=40) d40
   refine ah H O λh H Y=>ae O call141 (aN (LO.mk' H hs (by omega)) 5 []) ?_;rintro x h3 ⟨⟨t,rfl,p,q,r,u,rfl⟩,k3,iX,jZ,iA,a3,b3,c3,d3,bF⟩;replace H:=H.aA k3 bF;refine an [1] H O λh H Y=>?_;exact ab [1] H O ⟨H.kp,by rw[qE,oc e O (by decide)];exact⟨_,k,O,⟨_,_,_,_,O⟩,LO.mk' H hs (by omega)⟩⟩
  have n40:¬ at8 s k=40:=by simpa using cB (d:=40) d40
  refine ah H O λh H Y=>af O (λd41=>?_) λd41=>?_
  .have e:at8 s k=41:=by simpa using cB (d:=41) d41
   refine ah H O λh H Y=>ae O call141 (aN (LO.mk' H hs (by omega)) 6 []) ?_;rintro x h3 ⟨⟨t,rfl,p,q,r,u,rfl⟩,k3,iX,jZ,iA,a3,b3,c3,d3,bF⟩;replace H:=H.aA k3 bF;refine an [1] H O λh H Y=>?_;exact ab [1] H O ⟨H.kp,by rw[qE,oc e O (by decide)];exact⟨_,k,O,⟨_,_,_,_,O⟩,LO.mk' H hs (by omega)⟩⟩
  have n41:¬ at8 s k=41:=by simpa using cB (d:=41) d41
  refine ah H O λh H Y=>af O (λd46=>?_) λd46=>?_
  .have e:at8 s k=46:=by simpa using cB (d:=46) d46
   have C8:pT s k=if Fm s k 46 then some (7,[],k+3)else none:=by unfold pT;rw[e];rfl
   refine ah H O λh H Y=>?_;have w2:IntKind.i64.wrap ((k:Int)+2)=((k+2:Nat):Int):=wI (by omega);have w3:IntKind.i64.wrap ((k:Int)+3)=((k+3:Nat):Int):=wI (by omega);refine aR O (λaT=>?_) (λaT=>?_)
   .have l2:k+2 <s.length:=by
     have:decide ((s.length:Int) >IntKind.i64.wrap ((k:Int)+2))=true:=aT
     rw[w2]at this;have:=of_decide_eq_true this;omega
    refine ah H O λh H Y=>fR (a:=k) (b:=k+3) O O O O (iu O O) (iu O w3) (by omega) (by omega) O <| ah H O λh H Y=>af O (λbZ=>?_) λbZ=>?_
    .have ht:Fm s k 46:=⟨l2,of_decide_eq_true bZ⟩
     refine ah H O λh H Y=>?_;replace H:=lx (k:=k+1) (c:=2) H (by omega) (by omega);refine ae O call141 (aN (LO.mk' H hs (by omega)) 7 []) ?_;rintro x h3 ⟨⟨t,rfl,p,q,r,u,rfl⟩,k3,iX,jZ,iA,a3,b3,c3,d3,bF⟩;replace H:=H.aA k3 bF;refine an [1] H O λh H Y=>?_;exact ab [1] H O ⟨H.kp,by rw[qE,C8,if_pos ht];exact⟨_,k,O,⟨_,_,_,_,O⟩,LO.mk' H hs (by omega)⟩⟩
    .have ht:¬ Fm s k 46:=λq=>(of_decide_eq_false bZ) q.2
     refine ah H O λh H Y=>?_;exact J () O ⟨⟨_,_,_,_,H⟩,by rw[C8,if_neg ht]⟩
   .have l2:¬ k+2 <s.length:=by
     have:decide ((s.length:Int) >IntKind.i64.wrap ((k:Int)+2))=false:=aT
     rw[w2]at this;have:=of_decide_eq_false this;omega
    have ht:¬ Fm s k 46:=λq=>l2 q.1
    refine an [90] H O λh H Y=>?_;exact J () O ⟨⟨_,_,_,_,H⟩,by rw[C8,if_neg ht]⟩
  have n46:¬ at8 s k=46:=by simpa using cB (d:=46) d46
  refine ah H O λh H Y=>af O (λd58=>?_) λd58=>?_
  .have e:at8 s k=58:=by simpa using cB (d:=58) d58
   refine ah H O λh H Y=>ae O call141 (aN (LO.mk' H hs (by omega)) 8 []) ?_;rintro x h3 ⟨⟨t,rfl,p,q,r,u,rfl⟩,k3,iX,jZ,iA,a3,b3,c3,d3,bF⟩;replace H:=H.aA k3 bF;refine an [1] H O λh H Y=>?_;exact ab [1] H O ⟨H.kp,by rw[qE,oc e O (by decide)];exact⟨_,k,O,⟨_,_,_,_,O⟩,LO.mk' H hs (by omega)⟩⟩
  have n58:¬ at8 s k=58:=by simpa using cB (d:=58) d58
  refine ah H O λh H Y=>af O (λd61=>?_) λd61=>?_
  .have e:at8 s k=61:=by simpa using cB (d:=61) d61
   refine ah H O λh H Y=>ae O call141 (aN (LO.mk' H hs (by omega)) 9 []) ?_;rintro x h3 ⟨⟨t,rfl,p,q,r,u,rfl⟩,k3,iX,jZ,iA,a3,b3,c3,d3,bF⟩;replace H:=H.aA k3 bF;refine an [1] H O λh H Y=>?_;exact ab [1] H O ⟨H.kp,by rw[qE,oc e O (by decide)];exact⟨_,k,O,⟨_,_,_,_,O⟩,LO.mk' H hs (by omega)⟩⟩
  have n61:¬ at8 s k=61:=by simpa using cB (d:=61) d61
  refine ah H O λh H Y=>af O (λd64=>?_) λd64=>?_
  .have e:at8 s k=64:=by simpa using cB (d:=64) d64
   refine ah H O λh H Y=>ae O call141 (aN (LO.mk' H hs (by omega)) 10 []) ?_;rintro x h3 ⟨⟨t,rfl,p,q,r,u,rfl⟩,k3,iX,jZ,iA,a3,b3,c3,d3,bF⟩;replace H:=H.aA k3 bF;refine an [1] H O λh H Y=>?_;exact ab [1] H O ⟨H.kp,by rw[qE,oc e O (by decide)];exact⟨_,k,O,⟨_,_,_,_,O⟩,LO.mk' H hs (by omega)⟩⟩
  have n64:¬ at8 s k=64:=by simpa using cB (d:=64) d64
  refine ah H O λh H Y=>af O (λd91=>?_) λd91=>?_
  .have e:at8 s k=91:=by simpa using cB (d:=91) d91
   refine ah H O λh H Y=>ae O call141 (aN (LO.mk' H hs (by omega)) 11 []) ?_;rintro x h3 ⟨⟨t,rfl,p,q,r,u,rfl⟩,k3,iX,jZ,iA,a3,b3,c3,d3,bF⟩;replace H:=H.aA k3 bF;refine an [1] H O λh H Y=>?_;exact ab [1] H O ⟨H.kp,by rw[qE,oc e O (by decide)];exact⟨_,k,O,⟨_,_,_,_,O⟩,LO.mk' H hs (by omega)⟩⟩
  have n91:¬ at8 s k=91:=by simpa using cB (d:=91) d91
  refine ah H O λh H Y=>af O (λd93=>?_) λd93=>?_
  .have e:at8 s k=93:=by simpa using cB (d:=93) d93
   refine ah H O λh H Y=>ae O call141 (aN (LO.mk' H hs (by omega)) 12 []) ?_;rintro x h3 ⟨⟨t,rfl,p,q,r,u,rfl⟩,k3,iX,jZ,iA,a3,b3,c3,d3,bF⟩;replace H:=H.aA k3 bF;refine an [1] H O λh H Y=>?_;exact ab [1] H O ⟨H.kp,by rw[qE,oc e O (by decide)];exact⟨_,k,O,⟨_,_,_,_,O⟩,LO.mk' H hs (by omega)⟩⟩
  have n93:¬ at8 s k=93:=by simpa using cB (d:=93) d93
  refine ah H O λh H Y=>af O (λd123=>?_) λd123=>?_
  .have e:at8 s k=123:=by simpa using cB (d:=123) d123
   refine ah H O λh H Y=>ae O call141 (aN (LO.mk' H hs (by omega)) 13 []) ?_;rintro x h3 ⟨⟨t,rfl,p,q,r,u,rfl⟩,k3,iX,jZ,iA,a3,b3,c3,d3,bF⟩;replace H:=H.aA k3 bF;refine an [1] H O λh H Y=>?_;exact ab [1] H O ⟨H.kp,by rw[qE,oc e O (by decide)];exact⟨_,k,O,⟨_,_,_,_,O⟩,LO.mk' H hs (by omega)⟩⟩
  have n123:¬ at8 s k=123:=by simpa using cB (d:=123) d123
  refine ah H O λh H Y=>af O (λd125=>?_) λd125=>?_
  .have e:at8 s k=125:=by simpa using cB (d:=125) d125
   refine ah H O λh H Y=>ae O call141 (aN (LO.mk' H hs (by omega)) 14 []) ?_;rintro x h3 ⟨⟨t,rfl,p,q,r,u,rfl⟩,k3,iX,jZ,iA,a3,b3,c3,d3,bF⟩;replace H:=H.aA k3 bF;refine an [1] H O λh H Y=>?_;exact ab [1] H O ⟨H.kp,by rw[qE,oc e O (by decide)];exact⟨_,k,O,⟨_,_,_,_,O⟩,LO.mk' H hs (by omega)⟩⟩
  have n125:¬ at8 s k=125:=by simpa using cB (d:=125) d125
  refine ah H O λh H Y=>af O (λd124=>?_) λd124=>?_
  .have e:at8 s k=124:=by simpa using cB (d:=124) d124
   refine ah H O λh H Y=>ae O call141 (aN (LO.mk' H hs (by omega)) 15 []) ?_;rintro x h3 ⟨⟨t,rfl,p,q,r,u,rfl⟩,k3,iX,jZ,iA,a3,b3,c3,d3,bF⟩;replace H:=H.aA k3 bF;refine an [1] H O λh H Y=>?_;exact ab [1] H O ⟨H.kp,by rw[qE,oc e O (by decide)];exact⟨_,k,O,⟨_,_,_,_,O⟩,LO.mk' H hs (by omega)⟩⟩
  have n124:¬ at8 s k=124:=by simpa using cB (d:=124) d124
  refine ah H O λh H Y=>?_;have nm:Lc (at8 s k)=0:=by unfold Lc;rw[if_neg n33,if_neg n36,if_neg n38,if_neg n40,if_neg n41,if_neg n58,if_neg n61,if_neg n64,if_neg n91,if_neg n93,if_neg n123,if_neg n125,if_neg n124]
  refine af O (λd35=>?_) λd35=>?_
  .have e:at8 s k=35:=by simpa using cB (d:=35) d35
   have C8:pT s k=some (21,(s.take (k+1+runN oj (s.drop (k+1)))).drop k,k+1+runN oj (s.drop (k+1))):=by unfold pT;rw[e];rfl
   refine ah H O λh H Y=>ae O call142 (wh (LO.mk' H hs (by omega)) (H.kp.aV.trans hT) (by omega)) ?_;rintro x h3 ⟨⟨t,rfl,p,q,r,u,rfl⟩,k3,iX,jZ,iA,a3,b3,c3,d3,bF⟩;replace H:=H.aA k3 bF;refine an [1] H O λh H Y=>?_;exact ab [1] H O ⟨H.kp,by rw[qE,C8];exact⟨_,k,O,⟨_,_,_,_,O⟩,LO.mk' H hs iA⟩⟩
  have n35:¬ at8 s k=35:=by simpa using cB (d:=35) d35
  have dJ:pT s k=if pf (at8 s k)=true then some (16,(s.take (k+1+runN iK (s.drop (k+1)))).drop k,k+1+runN iK (s.drop (k+1)))
   else if at8 s k=45\/(48<=(at8 s k).toNat/\(at8 s k).toNat<=57)then iU s k
   else if at8 s k=34 then(if Fm s k 34 then Aa s k else wA s k)
   else none:=by unfold pT;rw[if_neg (by rw[nm];simp),if_neg n46,if_neg n35]
  clear d33 d36 d38 d40 d41 d46 d58 d61 d64 d91 d93 d123 d125 d124 d35;refine cV 366 (λb:Bool=>[(0,.ptr o 0),(2,.ptr h0.n 0),(3,.bu),(4,.int .u8 (at8 s k).toNat),(64,.int .u8 (at8 s k).toNat),(203,.bool b)]) (λb h'=>LI h0 [o] h' o s k (k+1:Nat) rest [(h0.n,gR)]/\b=pf (at8 s k)) (λJ=>?_) ?_
  .refine ah H O λh H Y=>?_
   iterate 52
    refine af O (λd=>?_) (λd=>?_)
    .exact ah H O λh H Y=>J _ O ⟨⟨_,_,_,_,H⟩,d.trans (NP d (by omega)).symm⟩
    replace d:=of_decide_eq_false d;refine ah H O λh H Y=>?_
   refine J _ O ⟨⟨_,_,_,_,H⟩,?_⟩;rw[Bool.eq_iff_iff];clear J H;simp only[pf,Bool.or_eq_true,Bool.and_eq_true,decide_eq_true_eq];omega
  clear H;rintro b1 h ⟨⟨a,b,c,d,H⟩,ej⟩;refine af O (λaT=>?_) λaT=>?_
  .have Rk:pf (at8 s k)=true:=by rw[<-ej];exact aT
   have C8:pT s k=some (16,(s.take (k+1+runN iK (s.drop (k+1)))).drop k,k+1+runN iK (s.drop (k+1))):=by rw[dJ,if_pos Rk]
   refine ah H O λh H Y=>ae O call143 (B4 (LO.mk' H hs (by omega)) (H.kp.aV.trans hT) (by omega)) ?_;rintro x h3 ⟨⟨t,rfl,p,q,r,u,rfl⟩,k3,iX,jZ,iA,a3,b3,c3,d3,bF⟩;replace H:=H.aA k3 bF;refine an [1] H O λh H Y=>?_;exact ab [1] H O ⟨H.kp,by rw[qE,C8];exact⟨_,k,O,⟨_,_,_,_,O⟩,LO.mk' H hs iA⟩⟩
  have Rk:¬ pf (at8 s k)=true:=by rw[<-ej];simpa using aT
  rw[if_neg Rk]at dJ;refine cV 366 (λb:Bool=>[(0,.ptr o 0),(2,.ptr h0.n 0),(3,.bu),(4,.int .u8 (at8 s k).toNat),(64,.int .u8 (at8 s k).toNat),(261,.bool b)]) (λb h'=>LI h0 [o] h' o s k (k+1:Nat) rest [(h0.n,gR)]/\b=decide (at8 s k=45\/(48<=(at8 s k).toNat/\(at8 s k).toNat<=57))) (λJ=>?_) ?_
  .refine ah H O λh H Y=>?_
   iterate 10
    refine af O (λd=>?_) (λd=>?_)
    .exact ah H O λh H Y=>J _ O ⟨⟨_,_,_,_,H⟩,d.trans (Qv d (by omega)).symm⟩
    replace d:=of_decide_eq_false d;refine ah H O λh H Y=>?_
   refine J _ O ⟨⟨_,_,_,_,H⟩,?_⟩;rw[Bool.eq_iff_iff];clear J H;simp only[decide_eq_true_eq,c45];omega
  clear H;rintro b2 h ⟨⟨a,b,c,d,H⟩,bZ⟩;refine af O (λgp=>?_) λgp=>?_
  .have ZZ:at8 s k=45\/(48<=(at8 s k).toNat/\(at8 s k).toNat<=57):=by
    have:b2=true:=gp
    rw[this]at bZ;exact of_decide_eq_true bZ.symm
   have C8:pT s k=iU s k:=by rw[dJ,if_pos ZZ]
   refine ah H O λh H Y=>ae O call144 (xF (LO.mk' H hs (by omega))) ?_;rintro x h3 ⟨k3,hr⟩
   cases hR:iU s k with|none=>rw[hR]at hr;obtain⟨t,y,uv,e',rfl,⟨cs,rfl⟩,⟨p,q,r,u,rfl⟩,iX,jZ,iA,a3,b3,c3,d3,bF⟩:=hr;replace H:=H.aA k3 bF;refine an [1] H O λh H Y=>?_;exact ab [1] H O ⟨H.kp,by rw[qE,C8,hR];exact⟨_,_,_,_,rfl,⟨_,rfl⟩,⟨_,_,_,_,rfl⟩,LO.mk' H hs iA⟩⟩|some p3=>obtain⟨kd,vl,e3⟩:=p3;rw[hR]at hr;obtain⟨t,uv,rfl,⟨p,q,r,u,rfl⟩,iX,jZ,iA,a3,b3,c3,d3,bF⟩:=hr;replace H:=H.aA k3 bF;refine an [1] H O λh H Y=>?_;exact ab [1] H O ⟨H.kp,by rw[qE,C8,hR];exact⟨_,_,O,⟨_,_,_,_,O⟩,LO.mk' H hs iA⟩⟩
  have ZZ:¬ (at8 s k=45\/(48<=(at8 s k).toNat/\(at8 s k).toNat<=57)):=by
   have:b2=false:=gp
   rw[this]at bZ;exact of_decide_eq_false bZ.symm
  rw[if_neg ZZ]at dJ;refine ah H O λh H Y=>af O (λd34=>?_) λd34=>?_
  .have e:at8 s k=34:=by simpa using cB (d:=34) d34
   rw[if_pos e]at dJ;refine ah H O λh H Y=>?_;have w2:IntKind.i64.wrap ((k:Int)+2)=((k+2:Nat):Int):=wI (by omega);have w3:IntKind.i64.wrap ((k:Int)+3)=((k+3:Nat):Int):=wI (by omega);refine aR O (λaT=>?_) (λaT=>?_)
   .have l2:k+2 <s.length:=by
     have:decide ((s.length:Int) >IntKind.i64.wrap ((k:Int)+2))=true:=aT
     rw[w2]at this;have:=of_decide_eq_true this;omega
    refine ah H O λh H Y=>fR (a:=k) (b:=k+3) O O O O (iu O O) (iu O w3) (by omega) (by omega) O <| ah H O λh H Y=>af O (λbZ=>?_) λbZ=>?_
    .have ht:Fm s k 34:=⟨l2,of_decide_eq_true bZ⟩
     have C8:pT s k=Aa s k:=by rw[dJ,if_pos ht]
     refine ah H O λh H Y=>ae O call145 (rE (LO.mk' H hs (by omega)) (H.kp.aV.trans hT) (by omega)) ?_;rintro x h3 ⟨k3,hr⟩
     cases hR:Aa s k with|none=>rw[hR]at hr;obtain⟨t,y,uv,e',rfl,⟨cs,rfl⟩,⟨p,q,r,u,rfl⟩,iX,jZ,iA,a3,b3,c3,d3,bF⟩:=hr;replace H:=H.aA k3 bF;refine an [1] H O λh H Y=>?_;exact ab [1] H O ⟨H.kp,by rw[qE,C8,hR];exact⟨_,_,_,_,rfl,⟨_,rfl⟩,⟨_,_,_,_,rfl⟩,LO.mk' H hs iA⟩⟩|some p3=>obtain⟨kd,vl,e3⟩:=p3;rw[hR]at hr;obtain⟨t,uv,rfl,⟨p,q,r,u,rfl⟩,iX,jZ,iA,a3,b3,c3,d3,bF⟩:=hr;replace H:=H.aA k3 bF;refine an [1] H O λh H Y=>?_;exact ab [1] H O ⟨H.kp,by rw[qE,C8,hR];exact⟨_,_,O,⟨_,_,_,_,O⟩,LO.mk' H hs iA⟩⟩
    .have ht:¬ Fm s k 34:=λq=>(of_decide_eq_false bZ) q.2
     have C8:pT s k=wA s k:=by rw[dJ,if_neg ht]
     refine ah H O λh H Y=>ae O call146 (qu (LO.mk' H hs (by omega)) (H.kp.aV.trans hT)) ?_;rintro x h3 ⟨k3,hr⟩
     cases hR:wA s k with|none=>rw[hR]at hr;obtain⟨t,y,uv,e',rfl,⟨cs,rfl⟩,⟨p,q,r,u,rfl⟩,iX,jZ,iA,a3,b3,c3,d3,bF⟩:=hr;replace H:=H.aA k3 bF;refine an [1] H O λh H Y=>?_;exact ab [1] H O ⟨H.kp,by rw[qE,C8,hR];exact⟨_,_,_,_,rfl,⟨_,rfl⟩,⟨_,_,_,_,rfl⟩,LO.mk' H hs iA⟩⟩|some p3=>obtain⟨kd,vl,e3⟩:=p3;rw[hR]at hr;obtain⟨t,uv,rfl,⟨p,q,r,u,rfl⟩,iX,jZ,iA,a3,b3,c3,d3,bF⟩:=hr;replace H:=H.aA k3 bF;refine an [1] H O λh H Y=>?_;exact ab [1] H O ⟨H.kp,by rw[qE,C8,hR];exact⟨_,_,O,⟨_,_,_,_,O⟩,LO.mk' H hs iA⟩⟩
   .have l2:¬ k+2 <s.length:=by
     have:decide ((s.length:Int) >IntKind.i64.wrap ((k:Int)+2))=false:=aT
     rw[w2]at this;have:=of_decide_eq_false this;omega
    have ht:¬ Fm s k 34:=λq=>l2 q.1
    have C8:pT s k=wA s k:=by rw[dJ,if_neg ht]
    refine an [90] H O λh H Y=>ae O call146 (qu (LO.mk' H hs (by omega)) (H.kp.aV.trans hT)) ?_;rintro x h3 ⟨k3,hr⟩
    cases hR:wA s k with|none=>rw[hR]at hr;obtain⟨t,y,uv,e',rfl,⟨cs,rfl⟩,⟨p,q,r,u,rfl⟩,iX,jZ,iA,a3,b3,c3,d3,bF⟩:=hr;replace H:=H.aA k3 bF;refine an [1] H O λh H Y=>?_;exact ab [1] H O ⟨H.kp,by rw[qE,C8,hR];exact⟨_,_,_,_,rfl,⟨_,rfl⟩,⟨_,_,_,_,rfl⟩,LO.mk' H hs iA⟩⟩|some p3=>obtain⟨kd,vl,e3⟩:=p3;rw[hR]at hr;obtain⟨t,uv,rfl,⟨p,q,r,u,rfl⟩,iX,jZ,iA,a3,b3,c3,d3,bF⟩:=hr;replace H:=H.aA k3 bF;refine an [1] H O λh H Y=>?_;exact ab [1] H O ⟨H.kp,by rw[qE,C8,hR];exact⟨_,_,O,⟨_,_,_,_,O⟩,LO.mk' H hs iA⟩⟩
  have ZL:¬ at8 s k=34:=by simpa using cB (d:=34) d34
  rw[if_neg ZL]at dJ;exact ah H O λh H Y=>J () O ⟨⟨_,_,_,_,H⟩,dJ⟩
 clear H;rintro⟨⟩ h ⟨⟨a,b,c,d,H⟩,kZ⟩;have wm:IntKind.i64.wrap (((k+1:Nat):Int) -1)=((k:Nat):Int):=wI (by omega);refine ah H O λh H Y=>?_;replace H:=lx2 H O wm
 repeat'(first|(refine aj O (λdK=>?_) (λdK=>?_)<;>first|(cases dK;done)|refine ah H O λh H Y=>?_)|(refine aR O (λdK=>?_) (λdK=>?_)<;>first|(cases dK;done)|refine ah H O λh H Y=>?_)|(refine jI O ?_;refine ah H O λh H Y=>?_)|(refine cX O ?_;refine ah H O λh H Y=>?_)|(refine af O (λ_=>?_) (λ_=>?_)<;>refine ah H O λh H Y=>?_))
 all_goals refine ae O call147 (bX (LO.mk' H hs iA) _) ?_;rintro x h3 ⟨⟨t,y,rfl,⟨p,q,r,u,rfl⟩,⟨cs,rfl⟩⟩,k3,iX,jZ,iA,a3,b3,c3,d3,bF⟩;replace H:=H.aA k3 bF;refine an [1] H O λh H Y=>?_;exact ab [1] H O ⟨H.kp,by rw[qE];exact kB H hs iA kZ ⟨_,_,_,_,O⟩ ⟨_,O⟩⟩
end
end
theorem NQ:cM pL:=⟨Ab,TJ,Qu,TK⟩
theorem wX (r:Int):tU r=Lib.encodeRune r:=by
 have key:∀c:Nat,c<=1114111->¬ (55296<=c/\c <57344)->(if c <128 then(⟨#[UInt8.ofNat c]⟩:ByteArray)
  else if c <2048 then⟨#[UInt8.ofNat (192+c/64),UInt8.ofNat (128+c% 64)]⟩
  else if c <65536 then⟨#[UInt8.ofNat (224+c/4096),UInt8.ofNat (128+c/64% 64),UInt8.ofNat (128+c% 64)]⟩
  else⟨#[UInt8.ofNat (240+c/262144),UInt8.ofNat (128+c/4096% 64),UInt8.ofNat (128+c/64% 64),UInt8.ofNat (128+c% 64)]⟩).data.toList
  =(Lib.encodeRuneZ (c:Int)).map λx=>x.toNat.toUInt8:=by
  intro c h1 h2
  by_cases a1:c <128
  .rw[if_pos a1,Lib.encodeRuneZ_one (by omega) (by omega)];simp
  rw[if_neg a1]
  by_cases a2:c <2048
  .rw[if_pos a2,Lib.encodeRuneZ_two (by omega) (by omega)];simp only[List.map_cons,List.map_nil];rw[show(192+(c:Int)/64).toNat=192+c/64 by omega,show(128+(c:Int)% 64).toNat=128+c% 64 by omega]
  rw[if_neg a2]
  by_cases a3:c <65536
  .rw[if_pos a3,Lib.encodeRuneZ_three (by omega)];simp only[List.map_cons,List.map_nil];rw[show(224+(c:Int)/4096).toNat=224+c/4096 by omega,show(128+(c:Int)/64% 64).toNat=128+c/64% 64 by omega,show(128+(c:Int)% 64).toNat=128+c% 64 by omega]
  rw[if_neg a3,Lib.encodeRuneZ_four (by omega) (by omega)];simp only[List.map_cons,List.map_nil];rw[show(240+(c:Int)/262144).toNat=240+c/262144 by omega,show(128+(c:Int)/4096% 64).toNat=128+c/4096% 64 by omega,show(128+(c:Int)/64% 64).toNat=128+c/64% 64 by omega,show(128+(c:Int)% 64).toNat=128+c% 64 by omega]
 by_cases hv:(0<=r/\r <55296)\/(57344<=r/\r<=1114111)
 .have e1:Utf8.valid r=true:=by simp[Utf8.valid];omega
  have:=key r.toNat (by omega) (by omega)
  rw[Int.toNat_of_nonneg (by omega)]at this;unfold tU Utf8.encode Lib.encodeRune;simp only[e1,if_true];exact this
 .have e1:Utf8.valid r=false:=by
   rw[Bool.eq_false_iff];intro h;apply hv;simp[Utf8.valid]at h;omega
  unfold tU Utf8.encode Lib.encodeRune;rw[Lib.encodeRuneZ_bad (by omega)];simp only[e1,Bool.false_eq_true,if_false,Utf8.runeError];decide
structure Al (s:ak) (rs:List Int) (e k:Nat):Prop where
 le:e<=s.length
 kle:k<=rs.length
 pre:s.take e=dG (rs.take k)
 eq:bw (s.drop e)=rs.drop k
def Pl (rs:List Int):Prop:=∀r∈rs,0<=r/\r<=65535/\r≠65533
theorem ml (a b:List Int):dG (a++b)=dG a++dG b:=by simp[dG]
theorem Al.zero (s:ak):Al s (bw s) 0 0:=⟨Nat.zero_le _,Nat.zero_le _,by simp[dG],by simp⟩
section
variable {s:ak} {rs:List Int} {e k:Nat}
theorem Al.iff (A:Al s rs e k):e <s.length↔k <rs.length:=by
 have h:=A.eq
 constructor
 .intro h1;rcases Nat.lt_or_ge k rs.length with h2|h2
  .exact h2
  .rw[List.drop_of_length_le h2,oJ (jv h1)]at h
   cases h
 .intro h1;rcases Nat.lt_or_ge e s.length with h2|h2
  .exact h2
  .rw[List.drop_of_length_le h2]at h;have:=congrArg List.length h;simp[bw,gy]at this;omega
theorem Al.hd (A:Al s rs e k) (h:e <s.length):pk rs k=((eZ (s.drop e)).1:Int)/\bw (s.drop (e+(eZ (s.drop e)).2))=rs.drop (k+1):=by
 have h1:=A.eq
 have h2:=A.iff.1 h
 rw[oJ (jv h),lA h2]at h1;injection h1 with h3 h4
 rw[CZ (jv h)]at h3 h4;exact⟨h3.symm,by rw[<-List.drop_drop];exact h4⟩
theorem Al.val (A:Al s rs e k) (P:Pl rs) (h:e <s.length):Lib.encodeRune (pk rs k)=(s.drop e).take (eZ (s.drop e)).2:=by
 have h2:=A.iff.1 h
 obtain⟨h3,_⟩:=A.hd h;have h4:=P (pk rs k) (by simp[pk,List.getD,h2]);rw[h3];exact Mc (jv h) (by rw[h3]at h4;omega)
theorem Al.step (A:Al s rs e k) (P:Pl rs) (h:e <s.length):Al s rs (e+(eZ (s.drop e)).2) (k+1):=by
 have h2:=A.iff.1 h
 obtain⟨h3,h4⟩:=A.hd h;have h5:=A.val P h;have h6:=qM (s.drop e);simp only[List.length_drop]at h6;refine⟨by omega,h2,?_,h4⟩;have e1:rs.take (k+1)=rs.take k++[pk rs k]:=by rw[List.take_succ_eq_append_getElem h2];simp[pk,List.getD,h2]
 rw[e1,ml,<-A.pre,List.take_add]
 congr 1
 rw[<-h5];simp[dG,wX]
theorem Al.Qw (A:Al s rs e k):((at8 s e).toNat <128->pk rs k=((at8 s e).toNat:Int))/\(128<=(at8 s e).toNat->128<=pk rs k):=by
 rcases Nat.lt_or_ge e s.length with h|h
 .obtain⟨h3,_⟩:=A.hd h;have ic:s.drop e=s[e]::s.drop (e+1):=List.drop_eq_getElem_cons h;rw[fG h];constructor
  .intro hc;rw[h3,ic,lU hc]
  .intro hc;have:=Ay (c:=s[e]) (r:=s.drop (e+1)) hc;rw[<-ic]at this;rw[h3];omega
 .have h2:¬ k <rs.length:=λh2=>by have:=A.iff.2 h2;omega
  have h0:at8 s e=0:=by simp[at8,List.getD_eq_getElem?_getD,h]
  rw[h0,tW (by omega)];exact⟨λ_=>rfl,λh=>absurd h (by decide)⟩
theorem Al.is (A:Al s rs e k) (d:UInt8) (hd:d.toNat <128):at8 s e=d↔pk rs k=(d.toNat:Int):=by
 obtain⟨h1,h2⟩:=A.Qw;rcases Nat.lt_or_ge (at8 s e).toNat 128 with h|h
 .rw[h1 h];constructor
  .intro h;rw[h]
  .intro h;exact UInt8.toNat_inj.1 (by omega)
 .have:=h2 h
  constructor
  .intro h3;rw[h3]at h;omega
  .intro h3;omega
theorem Al.one (A:Al s rs e k) (P:Pl rs) (h:e <s.length) (hc:(at8 s e).toNat <128):Al s rs (e+1) (k+1):=by
 have:=A.step P h
 have ic:s.drop e=s[e]::s.drop (e+1):=List.drop_eq_getElem_cons h
 rw[fG h]at hc;rw[ic,lU hc]at this;exact this
theorem Al.cut {e' k':Nat} (A:Al s rs e k) (B:Al s rs e' k') (h:k<=k'):E6 rs k k'=(s.take e').drop e:=by
 have h1:rs.take k'=rs.take k++(rs.take k').drop k:=by
  have:=(List.take_append_drop k (rs.take k')).symm
  rw[List.take_take,Nat.min_eq_left h]at this;exact this
 have h2:(dG (rs.take k)).length=e:=by rw[<-A.pre,List.length_take];exact Nat.min_eq_left A.le
 rw[B.pre,h1,ml,List.drop_left' h2];rfl
theorem Al.leq {e' k':Nat} (A:Al s rs e k) (B:Al s rs e' k') (h:k<=k'):e<=e':=by
 have h1:rs.take k'=rs.take k++(rs.take k').drop k:=by
  have:=(List.take_append_drop k (rs.take k')).symm
  rw[List.take_take,Nat.min_eq_left h]at this;exact this
 have h2:(dG (rs.take k)).length=e:=by rw[<-A.pre,List.length_take];exact Nat.min_eq_left A.le
 have h3:(dG (rs.take k')).length=e':=by rw[<-B.pre,List.length_take];exact Nat.min_eq_left B.le
 rw[h1,ml,List.length_append]at h3;omega
theorem Al.run {p:Nat->Bool} {q:Int->Bool} (P:Pl rs) (Tj:∀r:Nat,q (r:Int)=p r):∀(n:Nat) {e k:Nat},s.length -e<=n->Al s rs e k->Al s rs (e+runN p (s.drop e)) (k+fb q (rs.drop k)):=by
 intro n
 induction n with
 |zero=>
  intro e k hn A;have h:¬ e <s.length:=by omega
  have h2:¬ k <rs.length:=λh2=>h (A.iff.2 h2)
  rw[List.drop_of_length_le (by omega),tf,List.drop_of_length_le (by omega)];exact A
 |succ n ih=>
  intro e k hn A;rcases Nat.lt_or_ge e s.length with h|h
  .have h2:=A.iff.1 h
   obtain⟨h3,_⟩:=A.hd h;have yD:=nO (jv h)
   cases hp:p (eZ (s.drop e)).1 with|true=>rw[D1 (jv h) hp,mg h2 (by rw[h3,Tj];exact hp),List.drop_drop];have:=ih (by omega) (A.step P h);rw[show e+((eZ (s.drop e)).2+runN p (s.drop (e+(eZ (s.drop e)).2)))=e+(eZ (s.drop e)).2+runN p (s.drop (e+(eZ (s.drop e)).2)) by omega,show k+(fb q (rs.drop (k+1))+1)=k+1+fb q (rs.drop (k+1)) by omega];exact this|false=>rw[Ir hp,CS (λ_=>by rw[h3,Tj];exact hp)];exact A
  .have h2:¬ k <rs.length:=λh2=>by have:=A.iff.2 h2;omega
   rw[List.drop_of_length_le h,tf,List.drop_of_length_le (by omega)];exact A
theorem Bh {c:UInt8}:rM c=true↔48<=c.toNat/\c.toNat<=57:=by simp[rM,UInt8.le_iff_toNat_le]
theorem Al.Xs (P:Pl rs):∀(n:Nat) {e k:Nat},s.length -e<=n->Al s rs e k->fh (s.drop e)=ef (rs.drop k)/\Al s rs (e+fh (s.drop e)) (k+ef (rs.drop k)):=by
 intro n
 induction n with
 |zero=>
  intro e k hn A;have h:¬ e <s.length:=by omega
  have h2:¬ k <rs.length:=λh2=>h (A.iff.2 h2)
  rw[List.drop_of_length_le (by omega),List.drop_of_length_le (by omega)];exact⟨O,A⟩
 |succ n ih=>
  intro e k hn A;rcases Nat.lt_or_ge e s.length with h|h
  .have h2:=A.iff.1 h
   have ic:s.drop e=s[e]::s.drop (e+1):=List.drop_eq_getElem_cons h
   obtain⟨a1,a2⟩:=A.Qw;rw[ic,lA h2];simp only[fh,ef]
   by_cases hd:rM s[e]=true
   .have hv:=Bh.1 hd
    rw[<-fG h]at hv;have hr:gj (pk rs k)=true:=by rw[a1 (by omega)];simp[gj];omega
    have:=ih (by omega) (A.one P h (by omega));rw[if_pos hd,if_pos hr];refine⟨by omega,?_⟩;rw[show e+(fh (s.drop (e+1))+1)=e+1+fh (s.drop (e+1)) by omega,show k+(ef (rs.drop (k+1))+1)=k+1+ef (rs.drop (k+1)) by omega];exact this.2
   .have hr:¬ gj (pk rs k)=true:=λhr=>hd (Bh.2 (by
     rw[<-fG h];simp[gj]at hr;rcases Nat.lt_or_ge (at8 s e).toNat 128 with q|q
     .have:=a1 q
      omega
     .have:=a2 q;omega))
    rw[if_neg hd,if_neg hr];exact⟨O,A⟩
  .have h2:¬ k <rs.length:=λh2=>by have:=A.iff.2 h2;omega
   rw[List.drop_of_length_le h,List.drop_of_length_le (by omega)];exact⟨O,A⟩
end
theorem yS {s:ak} {e:Nat} (h:s.length<=e):at8 s e=0:=by simp[at8,List.getD_eq_getElem?_getD,h]
theorem ud {s bs:ak} {e:Nat} (h0:bs.contains 0=false):sg bs (s.drop e)=bs.contains (at8 s e):=by
 rcases Nat.lt_or_ge e s.length with h|h
 .have ic:s.drop e=s[e]::s.drop (e+1):=List.drop_eq_getElem_cons h
  rw[ic,fG h];rfl
 .rw[List.drop_of_length_le h,yS h,h0];rfl
theorem oP {s:ak} {e:Nat} (h:at8 s e≠0):e <s.length:=by
 rcases Nat.lt_or_ge e s.length with h2|h2
 .exact h2
 .exact absurd (yS h2) h
section
variable {s:ak} {rs:List Int} {e k:Nat}
theorem Al.eqv (A:Al s rs e k) (d:UInt8) (n:Int) (hd:d.toNat <128) (hn:(d.toNat:Int)=n):at8 s e=d↔pk rs k=n:=by rw[<-hn];exact A.is d hd
theorem Al.uz (A:Al s rs e k) (P:Pl rs) {d:UInt8} (hd:d.toNat <128) (h0:d≠0) (h:at8 s e=d):Al s rs (e+1) (k+1):=A.one P (oP (by rw[h];exact h0)) (by rw[h];exact hd)
theorem WD (P:Pl rs) (A:Al s rs e k):(wb (s.drop e)=none/\nI rs (if pk rs k=45 then k+1 else k)=none)\/∃n k',wb (s.drop e)=some n/\nI rs (if pk rs k=45 then k+1 else k)=some k'/\Al s rs (e+n) k'/\k<=k':=by
 obtain⟨a,k1,ha,hk,A1,hle⟩:∃a k1,b1 (sg [45] (s.drop e))=a/\(if pk rs k=45 then k+1 else k)=k1/\Al s rs (e+a) k1/\k<=k1:=by
  rw[ud (by decide)]
  by_cases h:at8 s e=45
  .exact⟨1,k+1,by rw[h];rfl,by rw[if_pos ((A.eqv 45 45 (by decide) rfl).1 h)],A.uz P (by decide) (by decide) h,by omega⟩
  .exact⟨0,k,by simp[b1,h],by rw[if_neg (λq=>h ((A.eqv 45 45 (by decide) O).2 q))],A,by omega⟩
 rw[hk];unfold wb nI;simp only[ha,List.drop_drop];rw[ud (by decide)];obtain⟨d1,d2⟩:=Al.Xs P _ (Nat.le_refl _) A1
 by_cases h0:at8 s (e+a)=48
 .have ax:=oP (s:=s) (e:=e+a) (by rw[h0];decide)
  have A2:=A1.uz P (d:=48) (by decide) (by decide) h0
  obtain⟨f1,f2⟩:=Al.Xs P _ (Nat.le_refl _) A2;have hp:pk rs k1=48:=(A1.eqv 48 48 (by decide) O).1 h0;have vw:=A1.iff.1 ax;have g1:ef (rs.drop k1)=ef (rs.drop (k1+1))+1:=by rw[lA vw];simp only[ef];rw[if_pos (by rw[hp];decide)]
  rw[if_pos (by rw[h0];rfl),show e+(a+1)=e+a+1 by omega,f1]
  by_cases hz:ef (rs.drop (k1+1))=0
  .have KQ:¬ gj (pk rs (k1+1))=true:=λq=>by
    have h2:k1+1 <rs.length:=pb (by intro h;rw[h]at q;simp[gj]at q)
    rw[lA h2]at hz;simp only[ef]at hz;rw[if_pos q]at hz;omega
   rw[if_pos hz,if_neg (λq=>KQ q.2),if_neg (by omega)];refine .inr ⟨a+1,k1+ef (rs.drop k1),O,O,?_,by omega⟩;rw[g1,hz];exact A2
  .have KQ:=(Nq hz).1
   rw[if_neg hz,if_pos ⟨hp,KQ⟩];exact .inl ⟨O,O⟩
 .have hp:¬ pk rs k1=48:=λq=>h0 ((A1.eqv 48 48 (by decide) O).2 q)
  rw[if_neg (by simp[h0]),if_neg (show ¬ (pk rs k1=48/\gj (pk rs (k1+1))=true) from λq=>hp q.1),d1]
  by_cases hz:ef (rs.drop k1)=0
  .rw[if_pos hz,if_pos hz];exact .inl ⟨O,O⟩
  .rw[if_neg hz,if_neg hz];refine .inr ⟨_,_,O,O,?_,by omega⟩;rw[d1]at d2;rw[<-Nat.add_assoc];exact d2
theorem WE (P:Pl rs) {a:Nat} (A:Al s rs (e+a) k):(wc (s.drop e) a=none/\nF rs k=none)\/∃f n k',wc (s.drop e) a=some (f,n)/\nF rs k=some (f,k')/\Al s rs (e+n) k'/\k<=k':=by
 unfold wc nF;simp only[List.drop_drop];rw[ud (by decide)]
 by_cases h0:at8 s (e+a)=46
 .have A2:=A.uz P (d:=46) (by decide) (by decide) h0
  obtain⟨f1,f2⟩:=Al.Xs P _ (Nat.le_refl _) A2;rw[if_pos (by rw[h0];rfl),if_pos ((A.eqv 46 46 (by decide) rfl).1 h0),show e+(a+1)=e+a+1 by omega,f1]
  by_cases hz:ef (rs.drop (k+1))=0
  .rw[if_pos hz,if_pos hz];exact .inl ⟨O,O⟩
  .rw[if_neg hz,if_neg hz];refine .inr ⟨_,_,_,O,O,?_,by omega⟩;rw[f1]at f2;rw[show e+(a+1+ef (rs.drop (k+1)))=e+a+1+ef (rs.drop (k+1)) by omega];exact f2
 .rw[if_neg (by simp[h0]),if_neg (show ¬ pk rs k=46 from λq=>h0 ((A.eqv 46 46 (by decide) O).2 q))];exact .inr ⟨_,_,_,O,O,A,Nat.le_refl _⟩
theorem WG (P:Pl rs) {a:Nat} {f:Bool} (A:Al s rs (e+a) k):(xE (s.drop e) f a=none/\nE rs f k=none)\/∃f' n k',xE (s.drop e) f a=some (f',n)/\nE rs f k=some (f',k')/\Al s rs (e+n) k'/\k<=k':=by
 unfold xE nE;simp only[List.drop_drop];rw[ud (by decide)]
 by_cases h0:at8 s (e+a)=101\/at8 s (e+a)=69
 .have A2:Al s rs (e+a+1) (k+1):=by
   rcases h0 with h0|h0
   .exact A.uz P (by decide) (by decide) h0
   .exact A.uz P (by decide) (by decide) h0
  have hp:pk rs k=101\/pk rs k=69:=by
   rcases h0 with h0|h0
   .exact .inl ((A.eqv 101 101 (by decide) O).1 h0)
   .exact .inr ((A.eqv 69 69 (by decide) O).1 h0)
  rw[if_pos (by rcases h0 with h0|h0<;>rw[h0]<;>decide),if_pos hp,show e+(a+1)=e+a+1 by omega,ud (by decide)];obtain⟨b,kb,hb,hk,A3,hle⟩:∃b kb,b1 (([45,43]:ak).contains (at8 s (e+a+1)))=b/\(if pk rs (k+1)=43\/pk rs (k+1)=45 then k+2 else k+1)=kb/\Al s rs (e+a+1+b) kb/\k<=kb:=by
   by_cases h:at8 s (e+a+1)=43\/at8 s (e+a+1)=45
   .refine⟨1,k+2,by rcases h with h|h<;>rw[h]<;>decide,?_,?_,by omega⟩
    .rw[if_pos];rcases h with h|h
     .exact .inl ((A2.eqv 43 43 (by decide) O).1 h)
     .exact .inr ((A2.eqv 45 45 (by decide) O).1 h)
    .rcases h with h|h
     .exact A2.uz P (by decide) (by decide) h
     .exact A2.uz P (by decide) (by decide) h
   .refine⟨0,k+1,by simp[b1];exact⟨λq=>h (.inr q),λq=>h (.inl q)⟩,?_,A2,by omega⟩;rw[if_neg];rintro(q|q)
    .exact h (.inl ((A2.eqv 43 43 (by decide) O).2 q))
    .exact h (.inr ((A2.eqv 45 45 (by decide) O).2 q))
  rw[hb,hk];unfold nX;obtain⟨f1,f2⟩:=Al.Xs P _ (Nat.le_refl _) A3;rw[show e+(a+1+b)=e+a+1+b by omega,f1]
  by_cases hz:ef (rs.drop kb)=0
  .rw[if_pos hz,if_pos hz];exact .inl ⟨O,O⟩
  .rw[if_neg hz,if_neg hz];refine .inr ⟨_,_,_,O,O,?_,by omega⟩;rw[f1]at f2;rw[show e+(a+1+b+ef (rs.drop kb))=e+a+1+b+ef (rs.drop kb) by omega];exact f2
 .rw[if_neg (by simp;exact⟨λq=>h0 (.inl q),λq=>h0 (.inr q)⟩),if_neg]
  .exact .inr ⟨_,_,_,O,O,A,Nat.le_refl _⟩
  .rintro(q|q)
   .exact h0 (.inl ((A.eqv 101 101 (by decide) O).2 q))
   .exact h0 (.inr ((A.eqv 69 69 (by decide) O).2 q))
theorem Qx (P:Pl rs) (A:Al s rs e k):(we (s.drop e)=none/\sF rs k=none)\/∃f n k',we (s.drop e)=some (f,n)/\sF rs k=some (f,k')/\Al s rs (e+n) k'/\k<=k':=by
 unfold we sF;rcases WD P A with⟨h1,h2⟩|⟨n1,k1,h1,h2,A1,l1⟩
 .rw[h1,h2];exact .inl ⟨O,O⟩
 rw[h1,h2];simp only[Option.bind_some];rcases WE P A1 with⟨h3,h4⟩|⟨f,n2,k2,h3,h4,A2,l2⟩
 .rw[h3,h4];exact .inl ⟨O,O⟩
 rw[h3,h4];simp only[Option.bind_some];rcases WG P (f:=f) A2 with⟨h5,h6⟩|⟨f',n3,k3,h5,h6,A3,l3⟩
 .rw[h5,h6];exact .inl ⟨O,O⟩
 exact .inr ⟨f',n3,k3,h5,h6,A3,by omega⟩
end
section
variable {s:ak} {rs:List Int} {e k q:Nat}
theorem I4 (h:e <s.length):jT s e=eZ (s.drop e):=by
 unfold jT
 by_cases h2:127<=(at8 s e).toNat
 .rw[if_pos h2]
 .have ic:s.drop e=s[e]::s.drop (e+1):=List.drop_eq_getElem_cons h
  rw[if_neg h2,ic,lU (by rw[<-fG h];omega),fG h]
theorem Al.WH (A:Al s rs e k):nZ (at8 s e)=none↔qp (pk rs k)=none:=by
 have f:∀(d:UInt8) (n:Int),d.toNat <128->(d.toNat:Int)=n->(at8 s e=d↔pk rs k=n):=λd n h1 h2=>A.eqv d n h1 h2
 unfold nZ qp;simp only[f 34 34 (by decide) O,f 47 47 (by decide) O,f 92 92 (by decide) O,f 98 98 (by decide) O,f 102 102 (by decide) O,f 110 110 (by decide) O,f 114 114 (by decide) O,f 116 116 (by decide) O];have h1:(pk rs k=34\/pk rs k=47\/pk rs k=92)↔(pk rs k=34\/pk rs k=92\/pk rs k=47):=by omega
 simp only[h1]
 repeat' split
 all_goals simp
theorem Al.Z0 (A:Al s rs e k) {b:UInt8} (h:nZ (at8 s e)=some b):∃n:Int,qp (pk rs k)=some n/\tU n=[b]:=by
 have f:∀(d:UInt8) (n:Int),d.toNat <128->(d.toNat:Int)=n->(at8 s e=d↔pk rs k=n):=λd n h1 h2=>A.eqv d n h1 h2
 unfold nZ at h
 by_cases c1:at8 s e=34\/at8 s e=47\/at8 s e=92
 .rw[if_pos c1]at h;injection h with h
  subst h;rcases c1 with c|c|c
  .exact⟨34,by rw[(f 34 34 (by decide) O).1 c];rfl,by rw[c];decide⟩
  .exact⟨47,by rw[(f 47 47 (by decide) O).1 c];rfl,by rw[c];decide⟩
  .exact⟨92,by rw[(f 92 92 (by decide) O).1 c];rfl,by rw[c];decide⟩
 rw[if_neg c1]at h
 by_cases c:at8 s e=98
 .rw[if_pos c]at h;injection h with h
  subst h;exact⟨8,by rw[(f 98 98 (by decide) O).1 c];rfl,by decide⟩
 rw[if_neg c]at h;clear c
 by_cases c:at8 s e=102
 .rw[if_pos c]at h;injection h with h
  subst h;exact⟨12,by rw[(f 102 102 (by decide) O).1 c];rfl,by decide⟩
 rw[if_neg c]at h;clear c
 by_cases c:at8 s e=110
 .rw[if_pos c]at h;injection h with h
  subst h;exact⟨10,by rw[(f 110 110 (by decide) O).1 c];rfl,by decide⟩
 rw[if_neg c]at h;clear c
 by_cases c:at8 s e=114
 .rw[if_pos c]at h;injection h with h
  subst h;exact⟨13,by rw[(f 114 114 (by decide) O).1 c];rfl,by decide⟩
 rw[if_neg c]at h;clear c
 by_cases c:at8 s e=116
 .rw[if_pos c]at h;injection h with h
  subst h;exact⟨9,by rw[(f 116 116 (by decide) O).1 c];rfl,by decide⟩
 rw[if_neg c]at h
 cases h
theorem Al.WI (A:Al s rs e k):(iD (pk rs k) <0->¬ 0<=jg (at8 s e))/\(¬ iD (pk rs k) <0->jg (at8 s e)=iD (pk rs k)/\e <s.length/\(at8 s e).toNat <128):=by
 obtain⟨a1,a2⟩:=A.Qw;have hb:∀r:Int,128<=r->iD r= -1:=λr h=>by unfold iD;rw[if_neg (by simp[gj];omega),if_neg (by omega),if_neg (by omega)]
 rcases Nat.lt_or_ge (at8 s e).toNat 128 with h|h
 .have h1:=a1 h
  unfold jg;rw[<-h1];refine⟨λh=>by omega,λh2=>⟨O,?_,h⟩⟩;have:=(tX h2).2.2;exact oP (λq=>this (by rw[h1,q];rfl))
 .have h1:=a2 h
  unfold jg;rw[hb _ h1,hb _ (by omega)];exact⟨λ_=>by omega,λh=>absurd (by omega) h⟩
theorem Al.hex (P:Pl rs):∀(m:Nat) {e k:Nat} (a:Int),Al s rs e k->e+m<=s.length->0<=a->a <16^(4 -m)->m<=4->(hx rs m k a=none/\fQ ((s.take (e+m)).drop e) a=none)\/∃n,hx rs m k a=some n/\fQ ((s.take (e+m)).drop e) a=some n/\Al s rs (e+m) (k+m):=by
 intro m
 induction m with
 |zero=>intro e k a A hl h0 h1 h4;exact .inr ⟨a,O,by simp[fQ],A⟩
 |succ m ih=>
  intro e k a A hl h0 h1 h4;have ax:e <s.length:=by omega
  have TG:(s.take (e+(m+1))).drop e=at8 s e::(s.take (e+1+m)).drop (e+1):=by rw[show e+(m+1)=e+1+m by omega,List.drop_eq_getElem_cons (by simp;omega),fG ax];simp
  obtain⟨x1,x2⟩:=A.WI;rw[TG];simp only[hx,fQ]
  by_cases hn:iD (pk rs k) <0
  .rw[if_pos hn,if_neg (x1 hn)];exact .inl ⟨O,O⟩
  .obtain⟨y1,y2,y3⟩:=x2 hn;obtain⟨z1,z2,_⟩:=tX hn;rw[if_neg hn,if_pos (by rw[y1];exact z1),y1];have hp:(16:Int)^(4 -m)=16*16^(4 -(m+1)):=by
    rw[show 4 -m=(4 -(m+1))+1 by omega,Int.pow_succ];omega
   have YS:(16:Int)^(4 -(m+1))<=4096:=by
    have:m=0\/m=1\/m=2\/m=3:=by omega
    rcases this with rfl|rfl|rfl|rfl<;>decide
   rw[Be h0 (by omega) z1 (by omega)];have:=ih (16*a+iD (pk rs k)) (A.one P ax y3) (by omega) (by omega) (by rw[hp];omega) (by omega);rw[show e+(m+1)=e+1+m by omega,show k+(m+1)=k+1+m by omega];exact this
theorem Al.short (P:Pl rs):∀(m:Nat) {e k:Nat} (a n:Int),Al s rs e k->hx rs m k a=some n->Al s rs (e+m) (k+m):=by
 intro m
 induction m with
 |zero=>intro e k a n A h;exact A
 |succ m ih=>
  intro e k a n A h;simp only[hx]at h
  by_cases hn:iD (pk rs k) <0
  .rw[if_pos hn]at h
   cases h
  .rw[if_neg hn]at h;obtain⟨y1,y2,y3⟩:=A.WI.2 hn;have:=ih _ _ (A.one P y2 y3) h;rw[show e+(m+1)=e+1+m by omega,show k+(m+1)=k+1+m by omega];exact this
theorem NR (P:Pl rs) (A:Al s rs (e+1) (q+1)) (h:qq rs (q+1)=none):s.length<=e+1\/ix s e=none:=by
 unfold qq at h
 cases hc:qp (pk rs (q+1))with
 |some c=>rw[hc]at h;cases h
 |none=>
  rw[hc]at h;simp only at h;have hb:=A.WH.2 hc
  by_cases C9:pk rs (q+1)=117
  .have uc:=(A.eqv 117 117 (by decide) O).2 C9
   rw[if_pos C9]at h;have ax:=oP (s:=s) (e:=e+1) (by rw[uc];decide);have A2:=A.uz P (d:=117) (by decide) (by decide) uc
   by_cases HE:pk rs (q+1+1)=123
   .rw[if_pos HE]at h
    cases h
   .rw[if_neg HE]at h;have Ff:¬ at8 s (e+2)=123:=λq'=>HE ((A2.eqv 123 123 (by decide) O).1 q')
    right;unfold ix;rw[if_pos uc,if_neg (λq'=>Ff q'.2)]
    by_cases h6:s.length<=e+6
    .rw[if_pos h6]
    .rw[if_neg h6];rcases Al.hex P 4 0 A2 (by omega) (by omega) (by decide) (by omega)with⟨h1,h2⟩|⟨n,h1,_,_⟩
     .rw[show e+1+1+4=e+6 by omega,show e+1+1=e+2 by omega]at h2;rw[h2];rfl
     .rw[h1]at h
      cases h
  .have uc:¬ at8 s (e+1)=117:=λq'=>C9 ((A.eqv 117 117 (by decide) O).1 q')
   right;unfold ix;rw[if_neg uc,hb];rfl
theorem NS (P:Pl rs) (A:Al s rs (e+1) (q+1)) {n:Int} {q':Nat} (h:qq rs (q+1)=some (n,q')) (h0:¬ q'=0):(e+1 <s.length/\∃e',ix s e=some (tU n,e')/\Al s rs e' q')\/(rs.length<=q'/\ix s e=none):=by
 unfold qq at h
 cases hc:qp (pk rs (q+1))with
 |some c=>
  rw[hc]at h;injection h with h
  injection h with h1 h2
  subst h1 h2;have hb:nZ (at8 s (e+1))≠none:=λhb=>by rw[A.WH.1 hb]at hc;cases hc
  cases KS:nZ (at8 s (e+1))with
  |none=>exact absurd KS hb
  |some b=>
   obtain⟨n,g1,g2⟩:=A.Z0 KS;rw[g1]at hc;injection hc with hc
   subst hc;have cv:at8 s (e+1)≠0:=λq'=>by rw[q']at KS;cases KS
   have C9:¬ at8 s (e+1)=117:=λq'=>by rw[q']at KS;cases KS
   have Z1:(at8 s (e+1)).toNat <128:=by
    unfold nZ at KS;rcases Nat.lt_or_ge (at8 s (e+1)).toNat 128 with q'|q'
    .exact q'
    .exfalso;have nn:∀d:UInt8,d.toNat <128->¬ at8 s (e+1)=d:=λd hd e'=>by rw[e']at q';omega
     rw[if_neg (by rintro(h|h|h);exact nn 34 (by decide) h;exact nn 47 (by decide) h;exact nn 92 (by decide) h),if_neg (nn 98 (by decide)),if_neg (nn 102 (by decide)),if_neg (nn 110 (by decide)),if_neg (nn 114 (by decide)),if_neg (nn 116 (by decide))]at KS
     cases KS
   refine .inl ⟨oP cv,e+2,?_,A.one P (oP cv) Z1⟩;unfold ix;rw[if_neg C9,KS,g2];rfl
 |none=>
  rw[hc]at h;simp only at h
  by_cases C9:pk rs (q+1)=117
  .have uc:=(A.eqv 117 117 (by decide) O).2 C9
   rw[if_pos C9]at h;have ax:=oP (s:=s) (e:=e+1) (by rw[uc];decide);have A2:=A.uz P (d:=117) (by decide) (by decide) uc
   by_cases HE:pk rs (q+1+1)=123
   .rw[if_pos HE]at h;injection h with h
    injection h with h1 h2
    exact absurd h2.symm h0
   .rw[if_neg HE]at h;have Ff:¬ at8 s (e+2)=123:=λq'=>HE ((A2.eqv 123 123 (by decide) O).1 q')
    cases hh:hx rs 4 (q+1+1) 0 with
    |none=>rw[hh]at h;cases h
    |some m=>
     rw[hh]at h;replace h:some (if 55296<=m/\m <57344 then((0:Int),0)else(m,q+1+5))=some (n,q'):=h
     by_cases WJ:55296<=m/\m <57344
     .rw[if_pos WJ]at h;injection h with h
      injection h with h1 h2
      exact absurd h2.symm h0
     .rw[if_neg WJ]at h;injection h with h
      injection h with h1 h2
      subst h1 h2;have A6:=Al.short P 4 0 m A2 hh
      by_cases h6:s.length<=e+6
      .right;refine⟨?_,by unfold ix;rw[if_pos uc,if_neg (λq'=>Ff q'.2),if_pos h6]⟩;rcases Nat.lt_or_ge (q+1+5) rs.length with q'|q'
       .have:=A6.iff.2 (by omega)
        omega
       .exact q'
      .left;refine⟨ax,e+6,?_,by rw[show e+6=e+1+1+4 by omega,show q+1+5=q+1+1+4 by omega];exact A6⟩;unfold ix;rw[if_pos uc,if_neg (λq'=>Ff q'.2),if_neg h6];rcases Al.hex P 4 0 A2 (by omega) (by omega) (by decide) (by omega)with⟨h1,h2⟩|⟨n,h1,h2,_⟩
       .rw[h1]at hh
        cases hh
       .rw[h1]at hh;injection hh with hh
        subst hh;rw[show e+1+1+4=e+6 by omega,show e+1+1=e+2 by omega]at h2;rw[h2];have:dW s (e+6) n=(n,e+6):=by unfold dW;rw[if_neg (by omega)]
        show some (Lib.encodeRune (dW s (e+6) n).1,(dW s (e+6) n).2)=_;rw[this,wX]
  .rw[if_neg C9]at h
   cases h
end
section
variable {s:ak} {rs:List Int} {e q st:Nat}
theorem Qy {s:ak} {st e w:Nat} (h:st<=e) (he:e<=s.length):(s.take (e+w)).drop st=(s.take e).drop st++(s.drop e).take w:=by rw[List.take_add,List.drop_append_of_le_length (by simp;omega)]
theorem Qz (P:Pl rs):∀(f g:Nat) {e q:Nat} (acc:List Int) (b:Option ak),rs.length <f+q->s.length <g+e->Al s rs e q->st<=e->b.getD ((s.take e).drop st)=dG acc->
 (jS rs f q acc=none->iO s st g e b=none)/\(∀nq q',jS rs f q acc=some (nq,q')->¬ q'=0->∃e',iO s st g e b=some (dG nq,e')/\Al s rs e' q'):=by
 intro f
 induction f with
 |zero=>intro g e q acc b hf hg A iw hv;have h1:=A.kle;omega
 |succ f ih=>
  intro g e q acc b hf hg A iw hv;have hle:=A.le;obtain⟨g,rfl⟩:∃g',g=g'+1:=⟨g -1,by omega⟩;unfold jS iO
  by_cases ka:rs.length<=q
  .have he:s.length<=e:=by
    rcases Nat.lt_or_ge e s.length with h|h
    .have:=A.iff.1 h
     omega
    .exact h
   rw[if_pos ka,if_pos he];exact⟨λ_=>rfl,λ_ _ h=>by cases h⟩
  have ax:e <s.length:=A.iff.2 (by omega);rw[if_neg ka,if_neg (show ¬ s.length<=e by omega)];obtain⟨a1,a2⟩:=A.Qw;have Wu:=P (pk rs q) (by simp[pk,List.getD,show q <rs.length by omega])
  by_cases Hs:pk rs q=34
  .have zZ:=(A.eqv 34 34 (by decide) O).2 Hs
   rw[if_pos Hs,if_neg (show ¬ (at8 s e=10\/at8 s e=13) by rw[zZ];decide),if_neg (show ¬ ((at8 s e).toNat <32/\at8 s e≠9) by rw[zZ];decide),if_pos zZ];refine⟨λh=>(by cases h),λnq q' h _=>?_⟩;injection h with h
   injection h with h1 h2
   subst h1 h2;exact⟨e+1,by rw[hv],A.uz P (d:=34) (by decide) (by decide) zZ⟩
  rw[if_neg Hs];have zZ:¬ at8 s e=34:=λh=>Hs ((A.eqv 34 34 (by decide) O).1 h)
  by_cases Kz:pk rs q=10\/pk rs q=13\/jf (pk rs q)=false
  .rw[if_pos Kz];refine⟨λ_=>?_,λ_ _ h=>by cases h⟩
   by_cases hn:at8 s e=10\/at8 s e=13
   .rw[if_pos hn]
   rw[if_neg hn];have Nt:¬ pk rs q=10:=λh=>hn (.inl ((A.eqv 10 10 (by decide) O).2 h))
   have n13:¬ pk rs q=13:=λh=>hn (.inr ((A.eqv 13 13 (by decide) O).2 h))
   have hs:jf (pk rs q)=false:=by
    rcases Kz with h|h|h
    .exact absurd h Nt
    .exact absurd h n13
    .exact h
   simp[jf]at hs;have TM:(at8 s e).toNat <128:=by
    rcases Nat.lt_or_ge (at8 s e).toNat 128 with h|h
    .exact h
    .have:=a2 h
     omega
   have:=a1 TM;rw[if_pos ⟨by omega,λh=>by have:=(A.eqv 9 9 (by decide) O).1 h;omega⟩]
  rw[if_neg Kz];have Nt:¬ at8 s e=10:=λh=>Kz (.inl ((A.eqv 10 10 (by decide) O).1 h))
  have n13:¬ at8 s e=13:=λh=>Kz (.inr (.inl ((A.eqv 13 13 (by decide) O).1 h)))
  have nb:¬ ((at8 s e).toNat <32/\at8 s e≠9):=λh=>by
   have h1:=a1 (by omega)
   apply Kz;right;right;have h9:¬ pk rs q=9:=λh'=>h.2 ((A.eqv 9 9 (by decide) O).2 h')
   have rl:¬ pk rs q=10:=λh'=>Nt ((A.eqv 10 10 (by decide) O).2 h')
   have ta:¬ pk rs q=13:=λh'=>n13 ((A.eqv 13 13 (by decide) O).2 h')
   simp[jf];omega
  rw[if_neg (show ¬ (at8 s e=10\/at8 s e=13) by rintro(h|h);exact Nt h;exact n13 h),if_neg nb,if_neg zZ]
  by_cases Ri:pk rs q=92
  .have wW:=(A.eqv 92 92 (by decide) O).2 Ri
   have A1:=A.uz P (d:=92) (by decide) (by decide) wW
   rw[if_pos Ri,if_pos wW]
   cases hE:qq rs (q+1)with
   |none=>
    refine⟨λ_=>?_,λ_ _ h=>by cases h⟩;rcases NR P A1 hE with h|h
    .rw[if_pos h]
    .rw[h];split<;>rfl
   |some p=>
    obtain⟨n,q'⟩:=p;simp only[Option.bind_some]
    by_cases h0:q'=0
    .rw[if_pos h0];exact⟨λh=>(by cases h),λ_ _ h hq=>by injection h with h;injection h with h1 h2;exact absurd h2.symm hq⟩
    rw[if_neg h0];have hql:=IU hE h0;simp only at hql;rcases NS P A1 hE h0 with⟨KP,e',Xe,A'⟩|⟨WK,kZ⟩
    .have vF:=yP KP Xe
     simp only at vF;rw[if_neg (show ¬ s.length<=e+1 by omega),Xe];simp only[Option.bind_some];refine ih g (acc++[n]) (some (b.getD ((s.take e).drop st)++tU n)) (by omega) (by omega) A' (by omega) ?_;rw[ml,hv];simp[dG]
    .have pa:jS rs f q' (acc++[n])=none:=by
      cases f with|zero=>rfl|succ f=>unfold jS;rw[if_pos WK]
     rw[pa];refine⟨λ_=>?_,λ_ _ h=>by cases h⟩
     by_cases KP:s.length<=e+1
     .rw[if_pos KP]
     rw[if_neg KP,kZ];rfl
  .have wW:¬ at8 s e=92:=λh=>Ri ((A.eqv 92 92 (by decide) O).1 h)
   rw[if_neg Ri,if_neg wW,I4 ax];have yD:=nO (jv ax);have Uh:=qM (s.drop e);simp only[List.length_drop]at Uh;obtain⟨h3,_⟩:=A.hd ax;have rj:=A.val P ax;refine ih g (acc++[pk rs q]) _ (by omega) (by omega) (A.step P ax) (by omega) ?_;rw[ml,<-hv];have e1:dG [pk rs q]=(s.drop e).take (eZ (s.drop e)).2:=by rw[<-rj];simp[dG,wX]
   rw[e1]
   cases b with|none=>exact Qy iw hle|some x=>simp only[Option.map_some,Option.getD_some];rw[<-h3,rj]
end
theorem oQ (s:ak) (e:Nat):kU (s.drop e)=if at8 s e=34 then kU (s.drop (e+1))+1 else 0:=by
 rcases Nat.lt_or_ge e s.length with h|h
 .rw[List.drop_eq_getElem_cons h,rb,fG h]
 .rw[yS h,if_neg (by decide),List.drop_of_length_le h];rfl
section
variable {s:ak} {rs:List Int} {e q:Nat}
theorem Al.KA (A:Al s rs e q) (P:Pl rs) (h:at8 s e=34):Al s rs (e+1) (q+1):=A.uz P (d:=34) (by decide) (by decide) h
theorem Al.q3 (A:Al s rs e q) (P:Pl rs):q3 rs q↔at8 s e=34/\at8 s (e+1)=34/\at8 s (e+2)=34:=by
 unfold Go.Am.q3;constructor
 .rintro⟨h1,h2,h3⟩;have c1:=(A.eqv 34 34 (by decide) O).2 h1;have A1:=A.KA P c1;have c2:=(A1.eqv 34 34 (by decide) O).2 h2;have A2:=A1.KA P c2;exact⟨c1,c2,(A2.eqv 34 34 (by decide) O).2 h3⟩
 .rintro⟨c1,c2,c3⟩;have A1:=A.KA P c1;have A2:=A1.KA P c2;exact⟨(A.eqv 34 34 (by decide) O).1 c1,(A1.eqv 34 34 (by decide) O).1 c2,(A2.eqv 34 34 (by decide) O).1 c3⟩
theorem Z2 {s:ak} {e:Nat}:(at8 s e=34/\3<=kU (s.drop e))↔at8 s e=34/\at8 s (e+1)=34/\at8 s (e+2)=34:=by
 rw[oQ,oQ s (e+1),oQ s (e+1+1)];constructor
 .rintro⟨h1,h2⟩;rw[if_pos h1]at h2
  by_cases c1:at8 s (e+1)=34
  .rw[if_pos c1]at h2
   by_cases c2:at8 s (e+1+1)=34
   .exact⟨h1,c1,c2⟩
   .rw[if_neg c2]at h2;omega
  .rw[if_neg c1]at h2;omega
 .rintro⟨h1,c1,c2⟩;refine⟨h1,?_⟩;rw[if_pos h1,if_pos c1,if_pos (show at8 s (e+1+1)=34 from c2)];omega
theorem QA {s:ak} {e:Nat}:(at8 s e=92/\e+4<=s.length/\(s.take (e+4)).drop e=[92,34,34,34])↔at8 s e=92/\at8 s (e+1)=34/\at8 s (e+2)=34/\at8 s (e+3)=34:=by
 have key:e+4<=s.length->(s.take (e+4)).drop e=[at8 s e,at8 s (e+1),at8 s (e+2),at8 s (e+3)]:=by intro h;rw[List.drop_eq_getElem_cons (by simp;omega),List.drop_eq_getElem_cons (by simp;omega),List.drop_eq_getElem_cons (by simp;omega),List.drop_eq_getElem_cons (by simp;omega),List.drop_of_length_le (by simp;omega)];rw[fG (show e <s.length by omega),fG (show e+1 <s.length by omega),fG (show e+2 <s.length by omega),fG (show e+3 <s.length by omega)];simp
 constructor
 .rintro⟨h1,h2,h3⟩;rw[key h2]at h3;injection h3 with a h3
  injection h3 with b h3
  injection h3 with c h3
  injection h3 with d h3
  exact⟨a,b,c,d⟩
 .rintro⟨h1,h2,h3,h4⟩;have hl:e+3 <s.length:=oP (by rw[h4];decide);exact⟨h1,by omega,by rw[key (by omega),h1,h2,h3,h4]⟩
theorem sH {acc:List Int} (h:q <rs.length):fc rs (rs.length+1) q acc=if q3 rs q then some (acc,q+3)else if pk rs q=92/\q3 rs (q+1)then fc rs (rs.length+1) (q+4) (acc++[34,34,34])
 else if jf (pk rs q)=false then none else fc rs (rs.length+1) (q+1) (acc++[pk rs q]):=by
 show(if rs.length<=q then none else _)=_
 rw[if_neg (by omega),oN rs.length (rs.length+1) (q+4) _ (by omega) (by omega),oN rs.length (rs.length+1) (q+1) _ (by omega) (by omega)]
theorem yT {acc:ak} (h:e <s.length):eU s (s.length+1) e acc=if at8 s e=34/\3<=kU (s.drop e)then some (acc++List.replicate (kU (s.drop e) -3) 34,e+kU (s.drop e))
 else if(at8 s e).toNat <32/\at8 s e≠9/\at8 s e≠10/\at8 s e≠13 then none
 else if at8 s e=92/\e+4<=s.length/\(s.take (e+4)).drop e=[92,34,34,34]then eU s (s.length+1) (e+4) (acc++[34,34,34])
 else if at8 s e=13 then(if e+1 <s.length/\at8 s (e+1)=10 then eU s (s.length+1) (e+2) (acc++[10])else eU s (s.length+1) (e+1) (acc++[10]))
 else eU s (s.length+1) (e+(eZ (s.drop e)).2) (acc++Lib.encodeRune (eZ (s.drop e)).1):=by
 have hp:=nO (jv h)
 show(if s.length<=e then none else _)=_
 rw[if_neg (by omega),I4 h,hU s.length (s.length+1) (e+4) _ (by omega) (by omega),hU s.length (s.length+1) (e+2) _ (by omega) (by omega),hU s.length (s.length+1) (e+1) _ (by omega) (by omega),hU s.length (s.length+1) (e+(eZ (s.drop e)).2) _ (by omega) (by omega)]
theorem Al.src (A:Al s rs e q) (P:Pl rs):((at8 s e).toNat <32/\at8 s e≠9/\at8 s e≠10/\at8 s e≠13)↔(jf (pk rs q)=false/\pk rs q <128):=by
 obtain⟨a1,a2⟩:=A.Qw;have h9:=A.eqv 9 9 (by decide) O;have rl:=A.eqv 10 10 (by decide) O;have ta:=A.eqv 13 13 (by decide) O;constructor
 .rintro⟨h,n9,Nt,n13⟩;have:=a1 (by omega);have m9:¬ pk rs q=9:=λh=>n9 (h9.2 h)
  have m10:¬ pk rs q=10:=λh=>Nt (rl.2 h)
  have m13:¬ pk rs q=13:=λh=>n13 (ta.2 h)
  refine⟨?_,by omega⟩;simp[jf];omega
 .rintro⟨h,ax⟩;have:(at8 s e).toNat <128:=by
   rcases Nat.lt_or_ge (at8 s e).toNat 128 with h|h
   .exact h
   .have:=a2 h
    omega
  have:=a1 this;simp[jf]at h;exact⟨by omega,λh'=>by have:=h9.1 h';omega,λh'=>by have:=rl.1 h';omega,λh'=>by have:=ta.1 h';omega⟩
theorem QB {r:Int}:jf r=false↔(jf r=false/\r <128):=by
 constructor
 .intro h;refine⟨h,?_⟩;simp[jf]at h;omega
 .exact λh=>h.1
theorem NT (P:Pl rs):∀(n:Nat) {e q:Nat} (acc:List Int) (WL:ak),rs.length -q<=n->Al s rs e q->fc rs (rs.length+1) q acc=none->eU s (s.length+1) e WL=none:=by
 intro n
 induction n using Nat.strongRecOn with
 |ind n ih=>
  intro e q acc WL hn A h;rcases Nat.lt_or_ge q rs.length with hq|hq
  .have ax:=A.iff.2 hq
   rw[sH hq]at h;rw[yT ax]
   by_cases h3:q3 rs q
   .rw[if_pos h3]at h
    cases h
   rw[if_neg h3]at h;rw[if_neg (λh'=>h3 ((A.q3 P).2 (Z2.1 h')))]
   by_cases hs:jf (pk rs q)=false
   .rw[if_pos ((A.src P).2 (QB.1 hs))]
   rw[if_neg (show ¬ ((at8 s e).toNat <32/\at8 s e≠9/\at8 s e≠10/\at8 s e≠13) from λh'=>hs ((A.src P).1 h').1)];rw[if_neg hs]at h
   by_cases h4:pk rs q=92/\q3 rs (q+1)
   .rw[if_pos h4]at h;have wW:=(A.eqv 92 92 (by decide) O).2 h4.1;have A1:=A.uz P (d:=92) (by decide) (by decide) wW;obtain⟨d1,d2,d3⟩:=(A1.q3 P).1 h4.2;have A4:=((A1.KA P d1).KA P d2).KA P d3;rw[if_pos (QA.2 ⟨wW,d1,d2,d3⟩)];exact ih (n -1) (by omega) _ _ (by omega) A4 h
   .rw[if_neg h4]at h;rw[if_neg (λh'=>h4 (by
     obtain⟨wW,d1,d2,d3⟩:=QA.1 h';have A1:=A.uz P (d:=92) (by decide) (by decide) wW;exact⟨(A.eqv 92 92 (by decide) O).1 wW,(A1.q3 P).2 ⟨d1,d2,d3⟩⟩))]
    by_cases wx:at8 s e=13
    .have A1:=A.uz P (d:=13) (by decide) (by decide) wx
     rw[if_pos wx]
     by_cases uw:e+1 <s.length/\at8 s (e+1)=10
     .rw[if_pos uw];have Ez:=A1.iff.1 uw.1;have p10:=(A1.eqv 10 10 (by decide) O).1 uw.2;rw[sH Ez,if_neg (λh'=>by have:=h'.1;omega),if_neg (λh'=>by have:=h'.1;omega),if_neg (by rw[p10];decide)]at h;exact ih (n -1) (by omega) _ _ (by omega) (A1.uz P (d:=10) (by decide) (by decide) uw.2) h
     .rw[if_neg uw];exact ih (n -1) (by omega) _ _ (by omega) A1 h
    .rw[if_neg wx];exact ih (n -1) (by omega) _ _ (by omega) (A.step P ax) h
  .have fH:¬ e <s.length:=λh'=>by have:=A.iff.1 h';omega
   show(if s.length<=e then none else _)=none
   rw[if_pos (by omega)]
theorem KB:∀(f:Nat) {q:Nat} (acc nq:List Int) (q':Nat),fc rs f q acc=some (nq,q')->∃t,nq=acc++t:=by
 intro f
 induction f with
 |zero=>intro q acc nq q' h;cases h
 |succ f ih=>
  intro q acc nq q' h;unfold fc at h;split at h;cases h;split at h
  .injection h with h
   injection h with h1 h2
   exact⟨[],by rw[h1];simp⟩
  split at h
  .obtain⟨t,ht⟩:=ih _ _ _ h;exact⟨[34,34,34]++t,by rw[ht];simp⟩
  split at h;cases h;obtain⟨t,ht⟩:=ih _ _ _ h;exact⟨[pk rs q]++t,by rw[ht];simp⟩
theorem NU (P:Pl rs) {nq:List Int} {q':Nat} (ta:∀r∈nq,r≠13) (u7:¬ pk rs q'=34):∀(n:Nat) {e q:Nat} (acc:List Int),rs.length -q<=n->Al s rs e q->fc rs (rs.length+1) q acc=some (nq,q')->∃e',eU s (s.length+1) e (dG acc)=some (dG nq,e')/\Al s rs e' q':=by
 intro n
 induction n using Nat.strongRecOn with
 |ind n ih=>
  intro e q acc hn A h;rcases Nat.lt_or_ge q rs.length with hq|hq
  .have ax:=A.iff.2 hq
   rw[sH hq]at h;rw[yT ax]
   by_cases h3:q3 rs q
   .rw[if_pos h3]at h;injection h with h
    injection h with h1 h2
    subst h1 h2;obtain⟨d1,d2,d3⟩:=(A.q3 P).1 h3;have A3:=((A.KA P d1).KA P d2).KA P d3;have d4:¬ at8 s (e+1+1+1)=34:=λh'=>u7 ((A3.eqv 34 34 (by decide) O).1 h')
    have Wy:kU (s.drop e)=3:=by rw[oQ,if_pos d1,oQ,if_pos d2,oQ,if_pos (show at8 s (e+1+1)=34 from d3),oQ,if_neg d4]
    rw[if_pos (Z2.2 ⟨d1,d2,d3⟩),Wy];exact⟨e+3,by simp,A3⟩
   rw[if_neg h3]at h;rw[if_neg (λh'=>h3 ((A.q3 P).2 (Z2.1 h')))]
   by_cases hs:jf (pk rs q)=false
   .exfalso;have h4:¬ (pk rs q=92/\q3 rs (q+1)):=λh'=>by rw[h'.1]at hs;cases hs
    rw[if_neg h4,if_pos hs]at h
    cases h
   rw[if_neg (show ¬ ((at8 s e).toNat <32/\at8 s e≠9/\at8 s e≠10/\at8 s e≠13) from λh'=>hs ((A.src P).1 h').1)];rw[if_neg hs]at h
   by_cases h4:pk rs q=92/\q3 rs (q+1)
   .rw[if_pos h4]at h;have wW:=(A.eqv 92 92 (by decide) O).2 h4.1;have A1:=A.uz P (d:=92) (by decide) (by decide) wW;obtain⟨d1,d2,d3⟩:=(A1.q3 P).1 h4.2;have A4:=((A1.KA P d1).KA P d2).KA P d3;rw[if_pos (QA.2 ⟨wW,d1,d2,d3⟩)];have:=ih (n -1) (by omega) _ (by omega) A4 h;rw[ml]at this;exact this
   .rw[if_neg h4]at h;rw[if_neg (λh'=>h4 (by
     obtain⟨wW,d1,d2,d3⟩:=QA.1 h';have A1:=A.uz P (d:=92) (by decide) (by decide) wW;exact⟨(A.eqv 92 92 (by decide) O).1 wW,(A1.q3 P).2 ⟨d1,d2,d3⟩⟩))]
    have wx:¬ at8 s e=13:=λh'=>by
     have hp:=(A.eqv 13 13 (by decide) O).1 h'
     obtain⟨t,ht⟩:=KB _ _ _ _ h;exact ta 13 (by rw[ht,hp];simp) O
    rw[if_neg wx];have:=ih (n -1) (by omega) _ (by omega) (A.step P ax) h;obtain⟨h3,_⟩:=A.hd ax;rw[ml]at this;have e1:dG [pk rs q]=Lib.encodeRune ((eZ (s.drop e)).1:Int):=by simp[dG,wX,h3]
    rw[e1]at this;exact this
  .exfalso;have:fc rs (rs.length+1) q acc=none:=by
    show(if rs.length<=q then none else _)=none
    rw[if_pos hq]
   rw[this]at h
   cases h
end
theorem wY:∀(t cur:ak),(t.any λc=>c==13)=false->lN false cur t=vj cur t
 |[],cur,_=>rfl
 |c::r,cur,h=>by
  simp only[List.any_cons,Bool.or_eq_false_iff,beq_eq_false_iff_ne]at h;unfold lN vj
  by_cases rl:c=10
  .rw[if_pos rl,if_pos rl,if_neg (by simp),wY r [] h.2]
  .rw[if_neg rl,if_neg rl,if_neg h.1,wY r _ h.2]
def Da (c ind:Int):Prop:=(c=2147483647/\ind= -1)\/(c=ind/\0<=ind/\ind <2147483647)
theorem I5:∀(ls:List ak) (c ind:Int),(∀l∈ls,l.length<=1000000000)->Da c ind->Da (ls.foldl mA c) (ls.foldl Fa ind)
 |[],c,ind,_,h=>h
 |l::ls,c,ind,hl,h=>by
  refine I5 ls _ _ (λx hx=>hl x (by simp[hx])) ?_;have h1:=hl l (by simp);have h2:=ua l;unfold mA Fa;unfold Da at h|-
  by_cases hb:lead l <l.length
  .rcases h with⟨rfl,rfl⟩|⟨rfl,h3,h4⟩
   .rw[if_pos (by omega),if_pos ⟨hb,by omega⟩];omega
   .by_cases hc:(lead l:Int) <c
    .rw[if_pos ⟨hb,hc⟩,if_pos ⟨hb,.inr hc⟩];omega
    .rw[if_neg (by omega),if_neg (by omega)];omega
  .rw[if_neg (by omega),if_neg (by omega)];exact h
theorem NV {ls:List ak} (hl:∀l∈ls,l.length<=1000000000) (h:Da (dy ls) (eS ls)):fV (eS ls) ls=iG ls:=by
 unfold iG
 cases ls with
 |nil=>simp[fV]
 |cons l r=>
  simp only[fV];generalize dy (l::r)=c at h|-;generalize eS (l::r)=ind at h|-;rcases h with⟨rfl,rfl⟩|⟨rfl,h3,h4⟩
  .rw[if_pos O];have:r.map (CV (-1))=r:=by
    rw[show CV (-1)=id from funext λx=>by unfold CV;rw[if_neg (by omega)];rfl];simp
   rw[this]
  .rw[if_neg (by omega)]
   congr 1
   apply List.map_congr_left;intro x hx;unfold CV
   by_cases h0:0 <c
   .rw[if_pos h0];rcases Nat.le_total c.toNat x.length with h5|h5
    .rw[Nat.min_eq_left h5]
    .rw[Nat.min_eq_right h5,List.drop_length,List.drop_of_length_le h5]
   .rw[if_neg h0,show c.toNat=0 by omega,List.drop_zero]
theorem HF {t:ak} (ht:t.length<=1000000000) (h:kg t=true):Ku (lN false [] t)=TI t:=by
 unfold kg at h;rw[Bool.and_eq_true]at h;obtain⟨ta,h⟩:=h;have Jv:(t.any λc=>c==13)=false:=by simpa using ta
 rw[wY t [] Jv]at h|-;unfold Ku TI;have Di:∀l∈vj [] t,l.length<=1000000000:=λl hm=>by have:=CX t [] l hm;simp at this;omega
 have cv:vj [] t≠[]:=by rw[<-wY t [] Jv];exact Hu _ _ _
 rcases Bool.or_eq_true_iff.1 h with h|h
 ·
  have hb:=of_decide_eq_true h
  rw[NV Di]
  cases hs:vj [] t with
  |nil=>exact absurd hs cv
  |cons l r=>
   rw[hs]at hb Di;replace hb:lead l=l.length:=hb;have e1:dy (l::r)=r.foldl mA 2147483647:=by
    show r.foldl mA (mA 2147483647 l)=_
    have:mA 2147483647 l=2147483647:=by unfold mA;rw[if_neg (by omega)]
    rw[this]
   rw[e1];exact I5 r _ _ (λx hx=>Di x (by simp[hx])) (.inl ⟨O,O⟩)
 .obtain⟨h1,h2⟩:=Bool.and_eq_true_iff.1 h;have h1:=of_decide_eq_true h1;have h2:=of_decide_eq_true h2
  cases hs:vj [] t with
  |nil=>exact absurd hs cv
  |cons l r=>
   rw[hs]at h1;obtain rfl:r=[]:=by simp at h1;exact h1
   have hc:fV (eS [l]) [l]=[l]:=rfl;have hp:iG [l]=[l]:=by unfold iG;split<;>rfl
   rw[hc,hp]
theorem NX {rs:List Int} (h:kg (dG rs)=true):∀r∈rs,r≠13:=by
 intro r hr e;unfold kg at h;rw[Bool.and_eq_true]at h;have ta:((dG rs).any λc=>c==13)=false:=by simpa using h.1
 rw[List.any_eq_false]at ta;refine ta 13 ?_ O;rw[dG,List.mem_flatten];exact⟨tU r,List.mem_map.2 ⟨r,hr,O⟩,by rw[e];decide⟩
end Go.Am
