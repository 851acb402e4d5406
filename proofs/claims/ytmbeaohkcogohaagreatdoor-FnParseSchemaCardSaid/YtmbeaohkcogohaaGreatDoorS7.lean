import Derived.Test.YtmbeaohkcogohaaGreatDoorS6
set_option maxRecDepth 100000
set_option maxHeartbeats 4000000
set_option linter.unusedVariables false
set_option linter.unusedSimpArgs false
namespace Go.Am
open Go.Proofs Go.Proofs.Tryz
def jO {α:Type} (g:Pa α):Prop:=∀l a l',g l=some (a,l')->l' <:+l
section
variable {α β:Type}
theorem jO.then {x:Pa α} {f:α->Pa β} (h:jO x) (hf:∀a,jO (f a)):jO (x.andThen f):=by
 intro l a l' e;simp only[Pa.andThen]at e
 cases hx:x l with|none=>rw[hx]at e;cases e|some y=>rw[hx]at e;exact(hf _ _ _ _ e).trans (h _ _ _ hx)
theorem jO.ret (a:α):jO (Pa.ret a):=λl b l' e=>by injection e with e;injection e with e1 e2;subst e2;exact List.suffix_refl _
theorem jO.fail:jO (λ_=>none:Pa α):=λl b l' e=>by cases e
theorem bt (k:Nat):jO (aE k):=by
 intro l a l' e
 cases l with
 |nil=>cases e
 |cons t r=>
  simp only[aE]at e;split at e
  .injection e with e
   injection e with e1 e2
   subst e2;exact List.suffix_cons _ _
  .cases e
theorem qx (k:Nat):jO (bB k):=by
 intro l a l' e
 cases l with
 |nil=>injection e with e;injection e with e1 e2;subst e2;exact List.suffix_refl _
 |cons t r=>
  simp only[bB]at e;split at e
  .injection e with e
   injection e with e1 e2
   subst e2;exact List.suffix_cons _ _
  .injection e with e
   injection e with e1 e2
   subst e2;exact List.suffix_refl _
theorem iv (w:ak):jO (cF w):=by
 intro l a l' e
 cases l with
 |nil=>cases e
 |cons t r=>
  simp only[cF]at e;split at e
  .injection e with e
   injection e with e1 e2
   subst e2;exact List.suffix_cons _ _
  .cases e
theorem Bi {g:Pa α} (h:jO g) (e:Nat):∀n,jO (aQ g e n):=by
 intro n
 induction n with
 |zero=>intro l a l' q;cases q
 |succ n ih=>
  intro l a l' q;simp only[aQ]at q;split at q
  .injection q with q
   injection q with q1 q2
   subst q2;exact List.suffix_refl _
  .cases hg:g l with
   |none=>rw[hg]at q;cases q
   |some y=>
    rw[hg]at q;simp only at q
    cases hl:aQ g e n y.2 with
    |none=>rw[hl]at q;cases q
    |some z=>
     rw[hl]at q;injection q with q
     injection q with q1 q2
     subst q2;exact(ih _ _ _ hl).trans (h _ _ _ hg)
theorem Fo {g:Pa α} (h:jO g) (k:Nat):∀n,jO (bE g k n):=by
 intro n
 induction n with
 |zero=>intro l a l' q;cases q
 |succ n ih=>
  intro l a l' q;simp only[bE]at q;split at q
  .cases hg:g l.tail with
   |none=>rw[hg]at q;cases q
   |some y=>
    rw[hg]at q;simp only at q
    cases hl:bE g k n y.2 with
    |none=>rw[hl]at q;cases q
    |some z=>
     rw[hl]at q;injection q with q
     injection q with q1 q2
     subst q2;exact((ih _ _ _ hl).trans (h _ _ _ hg)).trans (List.tail_suffix _)
  .injection q with q
   injection q with q1 q2
   subst q2;exact List.suffix_refl _
theorem lO {g:Pa α} (h:jO g) (s e:Nat):jO (ca s e g):=by
 intro l a l' q;simp only[ca]at q;split at q
 .cases hl:aQ g e dX l.tail with
  |none=>rw[hl]at q;cases q
  |some z=>
   rw[hl]at q;simp only at q;split at q
   .cases q
   .injection q with q
    injection q with q1 q2
    subst q2;exact((List.tail_suffix _).trans (Bi h e dX _ _ _ hl)).trans (List.tail_suffix _)
 .injection q with q
  injection q with q1 q2
  subst q2;exact List.suffix_refl _
theorem Bj {g:Pa α} (h:jO g) (s e:Nat):jO (gC s e g):=by
 intro l a l' q;simp only[gC]at q;split at q
 .cases hl:aQ g e dX l.tail with
  |none=>rw[hl]at q;cases q
  |some z=>
   rw[hl]at q;injection q with q
   injection q with q1 q2
   subst q2;exact((List.tail_suffix _).trans (Bi h e dX _ _ _ hl)).trans (List.tail_suffix _)
 .injection q with q
  injection q with q1 q2
  subst q2;exact List.suffix_refl _
theorem NY {g:Pa dM} (h:jO g):jO (ot g):=(bt 16).then λn=>(bt 8).then λ_=>h.then λv=> .ret _
theorem Fp:∀n fx d,jO (aU n fx d):=by
 intro n
 induction n with
 |zero=>intro fx d l a l' e;cases e
 |succ n ih=>
  intro fx d l a l' e
  cases l with
  |nil=>cases e
  |cons t r=>
   simp only[aU]at e;have leaf:∀{x:dM},some (x,r)=some (a,l')->l' <:+(t::r):=λe=>by injection e with e;injection e with e1 e2;subst e2;exact List.suffix_cons _ _
   split at e
   .rename_i hk;split at e
    .cases hm:gC 11 12 (aU n fx (d+1)) (t::r)with
     |none=>rw[hm]at e;cases e
     |some y=>
      rw[hm]at e;injection e with e
      injection e with e1 e2
      subst e2;exact Bj (ih fx (d+1)) _ _ _ _ _ hm
    .cases e
   split at e
   .rename_i hk;split at e
    .cases hm:gC 13 14 (ot (aU n fx (d+1))) (t::r)with
     |none=>rw[hm]at e;cases e
     |some y=>
      rw[hm]at e;injection e with e
      injection e with e1 e2
      subst e2;exact Bj (NY (ih fx (d+1))) _ _ _ _ _ hm
    .cases e
   split at e
   .cases fx with
    |true=>cases e
    |false=>
     simp only at e
     cases hn:ar r with
     |none=>rw[hn]at e;cases e
     |some y=>
      rw[hn]at e;injection e with e
      injection e with e1 e2
      subst e2;exact(bt 16 _ _ _ hn).trans (List.suffix_cons _ _)
   iterate 5 (split at e;exact leaf e)
   cases e
theorem yU:∀n d,jO (cK n d):=by
 intro n
 induction n with
 |zero=>intro d l a l' e;cases e
 |succ n ih=>
  intro d l a l' e
  by_cases hl:bC l=11
  .have:cK (n+1) d l=if d <1000 then((cK n (d+1)).andThen λt=>(aE 12).andThen λ_=>(bB 2).andThen λb=> .ret (.mk [] [t] b)) l.tail else none:=by
    simp only[cK,if_pos hl,Pa.andThen,Pa.ret];split
    .cases cK n (d+1) l.tail with
     |none=>rfl
     |some x=>
      simp only
      cases aE 12 x.2 with|none=>rfl|some y=>simp only;cases bB 2 y.2<;>rfl
    .rfl
   rw[this]at e;split at e
   .exact(((ih (d+1)).then λt=>(bt 12).then λ_=>(qx 2).then λb=>jO.ret (gn.mk [] [t] b)) _ _ _ e).trans (List.tail_suffix _)
   .cases e
  .have:cK (n+1) d l=(ar.andThen λnm=>(bB 2).andThen λb=> .ret (.mk nm [] b)) l:=by
    simp only[cK,if_neg hl,Pa.andThen,Pa.ret]
    cases ar l with|none=>rfl|some x=>simp only;cases bB 2 x.2<;>rfl
   rw[this]at e;exact((bt 16).then λnm=>(qx 2).then λb=>jO.ret (gn.mk nm [] b)) _ _ _ e
theorem NZ (fx:Bool):jO (zH fx):=(bt 16).then λn=>(bt 8).then λ_=>(Fp _ _ _).then λv=> .ret _
theorem KC (fx:Bool):jO (pX fx):=lO (NZ fx) _ _
theorem N1 (fx:Bool):jO (sm fx):=(bt 16).then λn=>(KC fx).then λv=> .ret _
theorem ft (fx:Bool):jO (fI fx):=Fo (N1 fx) _ _
theorem qy:jO fv:=by
 intro l a l' e;unfold fv at e;split at e
 .injection e with e
  injection e with e1 e2
  subst e2;exact List.tail_suffix _
 .injection e with e
  injection e with e1 e2
  subst e2;exact List.suffix_refl _
theorem Fq (k:Nat):jO (pY k):=(qx k).then λb=>by cases b with|true=>exact(Fp _ _ _).then λv=> .ret _|false=>exact .ret _
theorem Fs:jO ij:=qy.then λdoc=>(bt 16).then λn=>(bt 8).then λ_=>(yU _ _).then λt=>(Fq 9).then λdf=>(ft true).then λds=> .ret _
theorem ue:jO lW:=lO Fs _ _
theorem HG:jO ou:=qy.then λdoc=>(bt 16).then λn=>(bt 8).then λ_=>(yU _ _).then λt=>(Fq 9).then λdf=>(ft true).then λds=> .ret _
theorem HJ:jO lX:=qy.then λdoc=>(bt 16).then λn=>ue.then λ_=>(bt 8).then λ_=>(yU _ _).then λt=>(ft true).then λds=> .ret _
theorem KD:jO pZ:=qy.then λdoc=>(bt 16).then λn=>(ft true).then λds=> .ret _
theorem N2:jO eE:=(bt 16).then λn=>by
 split
 .exact .ret _
 .exact .fail
theorem N3:jO jd:=by
 intro l a l' e;unfold jd at e;split at e
 .injection e with e
  injection e with e1 e2
  subst e2;exact List.tail_suffix _
 .cases e
theorem KE:jO tp:=N3.then λop=>(bt 8).then λ_=>(bt 16).then λt=> .ret _
theorem sI {g:Pa α} (h:jO g) (k:Nat):jO (dv g k):=(qx k).then λ_=>h.then λa=>(Fo h k dX).then λ_=> .ret _
theorem Ft:jO cE:=by
 intro l a l' e;unfold cE at e;split at e
 .exact((sI (bt 16) 4) _ _ _ e).trans (List.tail_suffix _)
 .injection e with e
  injection e with e1 e2
  subst e2;exact List.suffix_refl _
theorem Db:jO cj:=(qx 9).then λb=>by cases b with|true=>exact(sI (bt 16) 15)|false=>exact .ret _
theorem yV (doc:ak):jO (fX doc):=(iv _).then λ_=>(bt 16).then λn=>(ft true).then λds=> .ret _
theorem vV (w kd doc:ak):jO (fY w kd doc):=(iv _).then λ_=>(bt 16).then λn=>Ft.then λ_=>(ft true).then λds=>(lO HJ _ _).then λ_=> .ret _
theorem Ac (doc:ak):jO (ik doc):=(iv _).then λ_=>(bt 16).then λn=>(ft true).then λds=>Db.then λ_=> .ret _
theorem Dc (doc:ak):jO (jy doc):=(iv _).then λ_=>(bt 16).then λn=>(ft true).then λds=>(lO KD _ _).then λ_=> .ret _
theorem Ad (fx:Bool) (doc:ak):jO (iq fx doc):=(iv _).then λ_=>(bt 16).then λn=>(ft fx).then λds=>(lO HG _ _).then λ_=> .ret _
theorem uf (fx:Bool) (doc:ak):jO (bc fx doc):=by
 intro l a l' e;unfold bc at e;split at e;exact yV _ _ _ _ e;split at e;exact vV _ _ _ _ _ _ e;split at e;exact vV _ _ _ _ _ _ e;split at e;exact Ac _ _ _ _ e;split at e;exact Dc _ _ _ _ e;split at e;exact Ad _ _ _ _ _ e
 cases e
theorem qz (doc:ak):jO (dw doc):=(iv _).then λ_=>(ft true).then λds=>(lO KE _ _).then λ_=> .ret _
theorem N4:jO ov:=by
 intro l a l' e;unfold ov at e;split at e
 .injection e with e
  injection e with e1 e2
  subst e2;exact List.tail_suffix _
 .injection e with e
  injection e with e1 e2
  subst e2;exact List.suffix_refl _
theorem Fu (doc:ak):jO (mK doc):=(iv _).then λ_=>(bt 10).then λ_=>(bt 16).then λ_=>ue.then λ_=>(ft true).then λ_=>N4.then λ_=>(iv _).then λ_=>(sI N2 15).then λ_=> .ret _
theorem Dd {em:α->Bool} {g:Pa α} (h:jO g):jO (ux em g):=h.then λd=>by
 split
 .exact .fail
 .exact .ret _
theorem De:jO tq:=(iv _).then λ_=>(bt 10).then λ_=>(bt 16).then λ_=>(ft true).then λ_=> .ret _
theorem N5:jO kQ:=by intro l a l' e;unfold kQ at e;split at e;exact((Dd (qz [])).then λd=> .ret _) _ _ _ e;split at e;exact((Dd De).then λd=> .ret _) _ _ _ e;exact((Dd (uf false [])).then λd=> .ret _) _ _ _ e
theorem KF (doc:ak):jO (iL doc):=by
 intro l a l' e;unfold iL at e;split at e
 .split at e;exact((qz doc).then λd=> .ret _) _ _ _ e;split at e;exact((Fu doc).then λd=> .ret _) _ _ _ e;split at e
  .split at e
   .exact(N5 _ _ _ e).trans (List.tail_suffix _)
   .cases e
  .exact((uf true doc).then λd=> .ret _) _ _ _ e
 .cases e
theorem KG:jO fj:=qy.then KF
end
theorem Fv:∀(n:Nat) (s:bY) (l:List Tok),(∀t∈l,t.k≠1)->db n s l=none
 |0,_,_,_=>rfl
 |n+1,s,l,h=>by
  unfold db;have h1:bC l≠1:=by cases l with|nil=>simp[bC]|cons t r=>exact h t (by simp)
  rw[if_neg h1]
  cases hi:fj l with|none=>rfl|some x=>obtain⟨i,l1⟩:=x;exact Fv n _ l1 λt ht=>h t ((KG _ _ _ hi).subset ht)
section
variable {s:ak} {rs:List Int} {e k:Nat}
theorem QC (r:Nat):fA (r:Int)=iK r:=by rw[Bool.eq_iff_iff];simp[fA,iK,jG,gj];omega
theorem TN (r:Nat):iE (r:Int)=oj r:=by rw[Bool.eq_iff_iff];simp[iE,oj,jf];omega
theorem Al.mark (A:Al s rs e k):Lc (at8 s e)=if 0 <me (pk rs k)then me (pk rs k)+1 else 0:=by
 have f:∀(d:UInt8) (n:Int),d.toNat <128->(d.toNat:Int)=n->(at8 s e=d↔pk rs k=n):=λd n h1 h2=>A.eqv d n h1 h2
 unfold Lc me;simp only[f 33 33 (by decide) O,f 36 36 (by decide) O,f 38 38 (by decide) O,f 40 40 (by decide) O,f 41 41 (by decide) O,f 58 58 (by decide) O,f 61 61 (by decide) O,f 64 64 (by decide) O,f 91 91 (by decide) O,f 93 93 (by decide) O,f 123 123 (by decide) O,f 125 125 (by decide) O,f 124 124 (by decide) O];generalize pk rs k=r
 by_cases h1:r=33;simp[h1]
 by_cases h2:r=36;simp[h2]
 by_cases h3:r=38;simp[h3]
 by_cases h4:r=40;simp[h4]
 by_cases h5:r=41;simp[h5]
 by_cases h6:r=58;simp[h6]
 by_cases h7:r=61;simp[h7]
 by_cases h8:r=64;simp[h8]
 by_cases h9:r=91;simp[h9]
 by_cases rl:r=93;simp[rl]
 by_cases L3:r=123;simp[L3]
 by_cases Js:r=125;simp[Js]
 by_cases ta:r=124;simp[ta]
 simp[h1,h2,h3,h4,h5,h6,h7,h8,h9,rl,L3,Js,ta]
theorem Al.pf (A:Al s rs e k):pf (at8 s e)=jG (pk rs k):=by
 obtain⟨a1,a2⟩:=A.Qw;rw[Bool.eq_iff_iff];simp only[Go.Am.pf,jG,Bool.or_eq_true,Bool.and_eq_true,decide_eq_true_eq,beq_iff_eq];rcases Nat.lt_or_ge (at8 s e).toNat 128 with h|h
 .have:=a1 h
  omega
 .have:=a2 h
  omega
theorem Al.dgS (A:Al s rs e k):(48<=(at8 s e).toNat/\(at8 s e).toNat<=57)↔gj (pk rs k)=true:=by
 obtain⟨a1,a2⟩:=A.Qw;simp only[gj,Bool.and_eq_true,decide_eq_true_eq];rcases Nat.lt_or_ge (at8 s e).toNat 128 with h|h
 .have:=a1 h
  omega
 .have:=a2 h
  omega
theorem Al.Fm (A:Al s rs e k) (P:Pl rs) (d:UInt8) (n:Int) (hd:d.toNat <128) (h0:d≠0) (hn:(d.toNat:Int)=n) (h:at8 s e=d):Fm s e d↔(pk rs (k+1)=n/\pk rs (k+2)=n):=by
 have A1:=A.uz P hd h0 h
 have key:e+3<=s.length->(s.take (e+3)).drop e=[at8 s e,at8 s (e+1),at8 s (e+2)]:=by intro h;rw[List.drop_eq_getElem_cons (by simp;omega),List.drop_eq_getElem_cons (by simp;omega),List.drop_eq_getElem_cons (by simp;omega),List.drop_of_length_le (by simp;omega)];rw[fG (show e <s.length by omega),fG (show e+1 <s.length by omega),fG (show e+2 <s.length by omega)];simp
 unfold Go.Am.Fm;constructor
 .rintro⟨h1,h2⟩;rw[key (by omega)]at h2;injection h2 with a h2
  injection h2 with b h2
  injection h2 with c h2
  have A2:=A1.uz P hd h0 b;exact⟨(A1.eqv d n hd hn).1 b,(A2.eqv d n hd hn).1 c⟩
 .rintro⟨h1,h2⟩;have b:=(A1.eqv d n hd hn).2 h1;have A2:=A1.uz P hd h0 b;have c:=(A2.eqv d n hd hn).2 h2;have hl:e+2 <s.length:=oP (by rw[show at8 s (e+2)=d from c];exact h0);exact⟨hl,by rw[key (by omega),h,b,show at8 s (e+2)=d from c]⟩
theorem KH {rs:List Int}:∀(f q:Nat) (acc:List Int) (p:List Int×Nat),fc rs f q acc=some p->p.1.length+q<=acc.length+p.2/\p.2<=rs.length:=by
 intro f
 induction f with
 |zero=>intro q acc p h;cases h
 |succ f ih=>
  intro q acc p h;unfold fc at h;split at h;cases h;split at h
  .rename_i h3;have:=pb (rs:=rs) (i:=q+2) (by rw[h3.2.2];decide);injection h with h
   subst h;exact⟨by simp only;omega,by simp only;omega⟩
  split at h
  .have:=ih _ _ _ h
   simp at this;omega
  split at h;cases h;have:=ih _ _ _ h;simp at this;omega
theorem N6 (P:Pl rs) (hb:rs.length<=200000000) (A:Al s rs e k) (he:e <s.length) (hi:¬ wv (pk rs k)=true):
 (mf yL rs k=none->pT s e=none)/\(∀new k',mf yL rs k=some (new,k')->¬ new=[⟨0,[]⟩]->∃(kd:Nat) (v:ak) (e':Nat),pT s e=some ((kd:Int),v,e')/\new=[⟨kd,v⟩]/\Al s rs e' k'):=by
 have hk:=A.iff.1 he
 unfold mf pT;rw[if_neg hi,A.mark]
 by_cases OE:pk rs k=35
 .have WM:=(A.eqv 35 35 (by decide) O).2 OE
  have hm:me (pk rs k)=0:=by rw[OE];rfl
  have A1:=A.uz P (d:=35) (by decide) (by decide) WM
  have A2:=Al.run P TN _ (Nat.le_refl _) A1
  have hr:fb iE (rs.drop k)=fb iE (rs.drop (k+1))+1:=mg hk (by rw[OE];decide)
  rw[if_pos OE,hm,if_neg (show ¬ (if 0 <0 then 0+1 else 0)≠0 by simp),if_neg (show ¬ at8 s e=46 by rw[WM];decide),if_pos WM];refine⟨λh=>(by cases h),λnew k' h _=>?_⟩;injection h with h
  injection h with h1 h2
  have ek:k'=k+1+fb iE (rs.drop (k+1)):=by omega
  subst h1;rw[ek];refine⟨21,_,_,O,?_,A2⟩;have:k+fb iE (rs.drop k)=k+1+fb iE (rs.drop (k+1)):=by omega
  rw[this,A.cut A2 (by omega)]
 rw[if_neg OE];have WM:¬ at8 s e=35:=λh=>OE ((A.eqv 35 35 (by decide) O).1 h)
 by_cases hm:0 <me (pk rs k)
 .rw[if_pos hm,if_pos hm,if_pos (by omega)];refine⟨λh=>(by cases h),λnew k' h _=>?_⟩;injection h with h
  injection h with h1 h2
  subst h1 h2;have ax:(at8 s e).toNat <128:=by
   rcases Nat.lt_or_ge (at8 s e).toNat 128 with h|h
   .exact h
   .have:=A.Qw.2 h
    unfold me at hm
    iterate 13 rw[if_neg (by omega)]at hm
    omega
  exact⟨_,_,_,O,O,A.one P he ax⟩
 rw[if_neg hm,if_neg hm,if_neg (show ¬ (0:Nat)≠0 from λh=>h O)]
 by_cases Rj:pk rs k=46
 .have Z3:=(A.eqv 46 46 (by decide) O).2 Rj
  rw[if_pos Rj,if_pos Z3];have ht:=A.Fm P 46 46 (by decide) (by decide) O Z3
  by_cases h3:pk rs (k+1)=46/\pk rs (k+2)=46
  .rw[if_pos h3,if_pos (ht.2 h3)];refine⟨λh=>(by cases h),λnew k' h _=>?_⟩;injection h with h
   injection h with h1 h2
   subst h1 h2;have A1:=A.uz P (d:=46) (by decide) (by decide) Z3;have A2:=A1.uz P (d:=46) (by decide) (by decide) ((A1.eqv 46 46 (by decide) O).2 h3.1);have A3:=A2.uz P (d:=46) (by decide) (by decide) ((A2.eqv 46 46 (by decide) O).2 h3.2);exact⟨7,_,_,O,O,A3⟩
  .rw[if_neg h3,if_neg (λh=>h3 (ht.1 h))];exact⟨λ_=>rfl,λ_ _ h=>by cases h⟩
 rw[if_neg Rj,if_neg (show ¬ at8 s e=46 from λh=>Rj ((A.eqv 46 46 (by decide) O).1 h)),if_neg WM,A.pf]
 by_cases hn:jG (pk rs k)=true
 .have ax:(at8 s e).toNat <128:=by
   rcases Nat.lt_or_ge (at8 s e).toNat 128 with h|h
   .exact h
   .have:=A.Qw.2 h
    simp[jG]at hn;omega
  have A1:=A.one P he ax
  have A2:=Al.run P QC _ (Nat.le_refl _) A1
  have hr:fb fA (rs.drop k)=fb fA (rs.drop (k+1))+1:=mg hk (by simp[fA,hn])
  rw[if_pos hn,if_pos hn];refine⟨λh=>(by cases h),λnew k' h _=>?_⟩;injection h with h
  injection h with h1 h2
  have ek:k'=k+1+fb fA (rs.drop (k+1)):=by omega
  subst h1;rw[ek];refine⟨16,_,_,O,?_,A2⟩;have:k+fb fA (rs.drop k)=k+1+fb fA (rs.drop (k+1)):=by omega
  rw[this,A.cut A2 (by omega)]
 rw[if_neg hn,if_neg hn];have h45:=A.eqv 45 45 (by decide) O
 by_cases hd:pk rs k=45\/gj (pk rs k)=true
 .rw[if_pos hd,if_pos (show at8 s e=45\/(48<=(at8 s e).toNat/\(at8 s e).toNat<=57) from hd.imp h45.2 A.dgS.2)];unfold iU;rcases Qx P A with⟨h1,h2⟩|⟨f,n,k2,h1,h2,A2,hle⟩
  .rw[h1,h2];exact⟨λ_=>rfl,λ_ _ h=>by cases h⟩
  .rw[h1,h2];refine⟨λh=>(by cases h),λnew k' h _=>?_⟩;injection h with h
   injection h with h3 h4
   subst h3 h4;refine⟨if f then 18 else 17,(s.drop e).take n,e+n,?_,?_,A2⟩
   .cases f<;>rfl
   .have:=A.cut A2 hle
    unfold E6 at this;simp only;rw[this,List.drop_take,Nat.add_sub_cancel_left]
 rw[if_neg hd,if_neg (show ¬ (at8 s e=45\/(48<=(at8 s e).toNat/\(at8 s e).toNat<=57)) from λh=>hd (h.imp h45.1 A.dgS.1))]
 by_cases Hs:pk rs k=34
 .have zZ:=(A.eqv 34 34 (by decide) O).2 Hs
  have ht:=A.Fm P 34 34 (by decide) (by decide) O zZ
  have A1:=A.uz P (d:=34) (by decide) (by decide) zZ
  rw[if_pos zZ]
  by_cases h3:pk rs (k+1)=34/\pk rs (k+2)=34
  .rw[if_pos ⟨Hs,h3.1,h3.2⟩,if_pos (ht.2 h3)];have A2:=A1.uz P (d:=34) (by decide) (by decide) ((A1.eqv 34 34 (by decide) O).2 h3.1);have A3:=A2.uz P (d:=34) (by decide) (by decide) ((A2.eqv 34 34 (by decide) O).2 h3.2);unfold yL Aa
   cases hp:fc rs (rs.length+1) (k+3) []with
   |none=>rw[NT P _ [] [] (Nat.le_refl _) A3 hp];exact⟨λ_=>rfl,λ_ _ h=>by cases h⟩
   |some p=>
    obtain⟨nq,q'⟩:=p;refine⟨λh=>(by cases h),λnew k' h zf=>?_⟩;injection h with h
    simp only at h
    by_cases hl:kg (dG nq)=true/\¬ pk rs q'=34
    .rw[if_pos hl]at h;injection h with h1 h2
     subst h1 h2;obtain⟨e',g1,g2⟩:=NU P (NX hl.1) hl.2 _ [] (Nat.le_refl _) A3 hp;have g1':eU s (s.length+1) (e+3) []=some (dG nq,e'):=g1;rw[g1'];have hlen:(dG nq).length<=1000000000:=by
      have h5:=yK nq
      have h6:=KH _ _ _ _ hp
      simp at h6;omega
     refine⟨20,TI (dG nq),e',O,?_,g2⟩;rw[HF hlen hl.1]
    .rw[if_neg hl]at h;injection h with h1 h2
     exact absurd h1.symm zf
  .rw[if_neg (show ¬ (pk rs k=34/\pk rs (k+1)=34/\pk rs (k+2)=34) from λh=>h3 h.2),if_pos Hs,if_neg (λh=>h3 (ht.1 h))];unfold wA;obtain⟨s1,s2⟩:=Qz P (rs.length+1) (s.length+1) (st:=e+1) [] none (by omega) (by omega) A1 (Nat.le_refl _) (by rw[drop_take_self];rfl)
   cases hp:jS rs (rs.length+1) (k+1) []with
   |none=>rw[s1 hp];exact⟨λ_=>rfl,λ_ _ h=>by cases h⟩
   |some p=>
    obtain⟨nq,q'⟩:=p;refine⟨λh=>(by cases h),λnew k' h zf=>?_⟩;replace h:some (Kq k (nq,q'))=some (new,k'):=h;injection h with h
    unfold Kq at h;simp only at h
    by_cases h0:q'=0
    .rw[if_pos h0]at h;injection h with h1 h2
     exact absurd h1.symm zf
    .rw[if_neg h0]at h;injection h with h1 h2
     subst h1 h2;obtain⟨e',g1,g2⟩:=s2 nq q' hp h0;rw[g1];exact⟨19,_,e',O,O,g2⟩
 .have zZ:¬ at8 s e=34:=λh=>Hs ((A.eqv 34 34 (by decide) O).1 h)
  rw[if_neg (show ¬ (pk rs k=34/\pk rs (k+1)=34/\pk rs (k+2)=34) from λh=>Hs h.1),if_neg Hs,if_neg zZ];exact⟨λ_=>rfl,λ_ _ h=>by cases h⟩
end
theorem QD (r:ak):eZ (239::187::191::r)=(65279,3):=by
 rw[lk (by simp),Lib.decodeL_N];have key:∀n b3:Nat,2 <n->Lib.decodeN n 239 187 191 b3=(65279,3):=by intro n b3 h;unfold Lib.decodeN;rw[if_neg (by decide),if_neg (by omega),if_pos ⟨by decide,⟨by omega,by decide⟩,by omega,by decide⟩,if_pos (by decide)]
 exact key _ _ (by simp)
section
variable {s:ak} {rs:List Int} {e k:Nat}
theorem I6 {w:Nat} (h:pB (s.drop e)=w+pB (s.drop (e+w))):pL s e=pL s (e+w):=by unfold pL;rw[h,Nat.add_assoc]
theorem TO (A:Al s rs e k) (P:Pl rs) (he:e <s.length) (hi:wv (pk rs k)=true):∃w,Al s rs (e+w) (k+1)/\pL s e=pL s (e+w):=by
 have ic:s.drop e=s[e]::s.drop (e+1):=List.drop_eq_getElem_cons he
 by_cases hb:pk rs k=65279
 .have hv:=A.val P he
  have hw:=qM (s.drop e)
  rw[hb]at hv;have e0:Lib.encodeRune 65279=[239,187,191]:=by decide
  rw[e0]at hv;have hl:=congrArg List.length hv;rw[List.length_take,Nat.min_eq_left hw]at hl;have Ki:(eZ (s.drop e)).2=3:=hl.symm;rw[Ki]at hv;refine⟨3,by rw[<-Ki];exact A.step P he,I6 ?_⟩;have Z4:s.drop e=239::187::191::s.drop (e+3):=by
   have:=(List.take_append_drop 3 (s.drop e)).symm
   rw[<-hv,List.drop_drop]at this;exact this
  rw[Z4,Ma (by rfl)];rfl
 .have hc:at8 s e=9\/at8 s e=32\/at8 s e=44\/at8 s e=10\/at8 s e=13:=by
   simp only[wv,Bool.or_eq_true,beq_iff_eq]at hi;have f9:=A.eqv 9 9 (by decide) O;have f32:=A.eqv 32 32 (by decide) O;have f44:=A.eqv 44 44 (by decide) O;have f10:=A.eqv 10 10 (by decide) O;have f13:=A.eqv 13 13 (by decide) O;rw[f9,f32,f44,f10,f13];omega
  have ax:(at8 s e).toNat <128:=by rcases hc with h|h|h|h|h<;>rw[h]<;>decide
  refine⟨1,A.one P he ax,I6 ?_⟩;rw[fG he]at hc;rw[ic,Iq hc]
theorem WN (A:Al s rs e k) (P:Pl rs) (he:e <s.length) (hi:¬ wv (pk rs k)=true):pB (s.drop e)=0:=by
 have ic:s.drop e=s[e]::s.drop (e+1):=List.drop_eq_getElem_cons he
 rw[ic];refine xI (λhc=>hi ?_) (λhc=>hi ?_)
 .rw[<-fG he]at hc;simp only[wv,Bool.or_eq_true,beq_iff_eq];rcases hc with h|h|h|h|h
  .have:=(A.eqv 9 9 (by decide) O).1 h
   omega
  .have:=(A.eqv 32 32 (by decide) O).1 h
   omega
  .have:=(A.eqv 44 44 (by decide) O).1 h
   omega
  .have:=(A.eqv 10 10 (by decide) O).1 h
   omega
  .have:=(A.eqv 13 13 (by decide) O).1 h
   omega
 .obtain⟨h3,_⟩:=A.hd he;have Z4:s.drop e=239::187::191::(s.drop (e+1)).drop 2:=by
   have:=(List.take_append_drop 2 (s.drop (e+1))).symm
   rw[hc.2]at this;rw[ic,hc.1]
   congr 1
  rw[Z4,QD]at h3;rw[h3];rfl
theorem N7 (P:Pl rs) (hb:rs.length<=200000000):∀(f:Nat) {e k:Nat},rs.length <f+k->Al s rs e k->
 (tY yL rs f k=none->∀t∈jz pL s e,t.k≠1)/\(∀ts,tY yL rs f k=some ts->(∀t∈ts,2<=t.k)->jz pL s e=bare ts++[kT]):=by
 intro f
 induction f with
 |zero=>intro e k hf A;have:=A.kle;omega
 |succ f ih=>
  intro e k hf A;unfold tY;rcases Nat.lt_or_ge k rs.length with hk|hk
  .have he:=A.iff.2 hk
   rw[if_neg (by omega)]
   by_cases hi:wv (pk rs k)=true
   .obtain⟨w,A',hp⟩:=TO A P he hi;have ht:jz pL s e=jz pL s (e+w):=by rw[mM NQ s e,mM NQ s (e+w),hp]
    have hT:mf yL rs k=some ([],k+1):=by unfold mf;rw[if_pos hi]
    obtain⟨i1,i2⟩:=ih (by omega) A';rw[hT,ht];simp only[Option.bind_some];rw[if_neg (by simp)];constructor
    .intro h
     cases hl:tY yL rs f (k+1)with|none=>exact i1 hl|some l=>rw[hl]at h;cases h
    .intro ts h yf
     cases hl:tY yL rs f (k+1)with
     |none=>rw[hl]at h;cases h
     |some l=>
      rw[hl]at h;injection h with h
      replace h:l=ts:=h;subst h;exact i2 _ hl yf
   .have qE:pL s e=pT s e:=by unfold pL;rw[WN A P he hi,Nat.add_zero,if_neg (by omega)]
    obtain⟨t1,t2⟩:=N6 P hb A he hi;rw[mM NQ s e,qE]
    cases hT:mf yL rs k with
    |none=>rw[t1 hT];refine⟨λ_ t ht=>?_,λts h=>by cases h⟩;simp only[List.mem_singleton]at ht;rw[ht];simp
    |some p=>
     obtain⟨new,k'⟩:=p;simp only[Option.bind_some]
     by_cases hn:new=[⟨0,[]⟩]
     .rw[if_pos hn];refine⟨λh=>(by cases h),λts h yf=>?_⟩;injection h with h
      have:=yf ⟨0,[]⟩ (by rw[<-h,hn];simp);simp at this
     .rw[if_neg hn];obtain⟨kd,v,e',g1,g2,A'⟩:=t2 _ _ hT hn;have hrg:=C7 he g1;have Av:k <k':=by
       rcases Nat.lt_or_ge k k' with h|h
       .exact h
       .have:=A'.leq A h
        omega
      obtain⟨i1,i2⟩:=ih (by omega) A';rw[g1];simp only;rw[if_neg (by omega)];subst g2;constructor
      .intro h
       cases hl:tY yL rs f k' with
       |none=>
        have:=i1 hl
        split
        .exact this
        .intro t ht;rcases List.mem_cons.1 ht with rfl|ht
         .simp;omega
         .exact this t ht
       |some l=>rw[hl]at h;cases h
      .intro ts h yf
       cases hl:tY yL rs f k' with
       |none=>rw[hl]at h;cases h
       |some l=>
        rw[hl]at h;injection h with h
        replace h:(⟨kd,v⟩:Tok)::l=ts:=h;subst h;have:=i2 l hl (λt ht=>yf t (by simp[ht]));rw[this]
        by_cases D0:kd=21
        .rw[if_pos (by omega)];have:bare ((⟨kd,v⟩:Tok)::l)=bare l:=by unfold bare;rw[List.filter_cons,if_neg (by simp[D0])]
         rw[this]
        .rw[if_neg (by omega)];have:bare ((⟨kd,v⟩:Tok)::l)=⟨kd,v⟩::bare l:=by unfold bare;rw[List.filter_cons,if_pos (by simp[D0])]
         rw[this,Int.toNat_natCast];rfl
  .have he:s.length<=e:=by
    rcases Nat.lt_or_ge e s.length with h|h
    .have:=A.iff.1 h
     omega
    .exact h
   rw[if_pos hk];refine⟨λh=>(by cases h),λts h _=>?_⟩;injection h with h
   subst h;have qE:pL s e=some (1,[],e):=by unfold pL;rw[I3 he,Nat.add_zero,if_pos he]
   rw[mM NQ s e,qE];rfl
end
theorem Fw {s:ak} (h:oK s=true):Pl (bw s)/\s.length<=1048576:=by
 unfold oK at h;rw[Bool.and_eq_true]at h;refine⟨λr hr=>?_,of_decide_eq_true h.1⟩;have h1:=List.all_eq_true.1 h.2 r hr;simp only[Bool.and_eq_true,bne_iff_ne,decide_eq_true_eq]at h1;obtain⟨i,hi,rfl⟩:=List.getElem_of_mem hr;have h2:=yE s.length s i;have h3:pk (bw s) i=(bw s)[i]:=by simp[pk,List.getD,hi]
 have h4:0<=(bw s)[i]:=by rw[<-h3];exact h2.1
 exact⟨h4,h1.2,h1.1⟩
theorem KI {s:ak} (h:oK s=true):(zW yL (bw s)=none->gD (some (jz pL s 0))=none)/\(∀ts,zW yL (bw s)=some ts->(∀t∈ts,2<=t.k)->jz pL s 0=bare ts++[kT]):=by obtain⟨P,hl⟩:=Fw h;have RV:=mc s.length s;obtain⟨h1,h2⟩:=N7 (s:=s) P (by have:(bw s).length<=s.length:=RV;omega) ((bw s).length+1) (by omega) (Al.zero s);exact⟨λh=>Fv _ _ _ (h1 h),h2⟩
section
attribute [local irreducible] AC AL AW AD aP
section
variable {h0 h:AH}
def Nf (s:ak) (ts:List Tok):Prop:=zW yL (bw s)=some ts/\∀t∈ts,2<=t.k
theorem Fx {s:ak} (hs:s.length<=1048576):al prog 18 [.str s] h0 (Zq (Nf s) (zW yL (bw s)=none) h0):=by refine al.mono (Qd (BK:=yL) hs (λk new k' h=>TE h) λh hb o k sr ts L hk yf e1 e2 e3=>Fb L (Nat.le_trans (mc _ _) hs) yf hk) ?_;rintro v h' ⟨kp,z,ok,sr,es,ts,hv,hz,wJ,hR,hk,hw,hS⟩;exact⟨kp,z,ok,sr,es,ts,hv,hz,wJ,hR,hk,hw,λh=>⟨λh2=>⟨(hS h).1 h2,hk⟩,(hS h).2⟩⟩
theorem Ae {s:ak} (hs:s.length<=1048576):al prog 5 [.str s] h0 (λv h'=>Kp [] h0 h'/\∃cs ok sr,v= .cN [.agg cs,.bool ok,.bool sr]/\(∃c0 c1 c2 c3 c4,cs=[c0,c1,c2,c3,c4])/\
 (ok=false->sr=true->zW yL (bw s)=none\/∃ts,(∃P7,ts=bare P7/\Nf s P7)/\gD (some (ts++[kT]))=none)/\(ok=true->∃sc:bY,cs=sc.cs/\(sr=true->∃ts,(∃P7,ts=bare P7/\Nf s P7)/\gD (some (ts++[kT]))=some sc))):=
 u9 λh _=>Nh λh' _=>Fx hs
theorem QE (s:ak) (hT:h0.aV=bQ):al prog 3 [.str s] h0 (λv _=>v= .bool true):=by
 refine az (n:=41) (rs:=[.tmp 2]) [] ⟨func3,O,O,O⟩ O <| have H:HI h0 [] h0 []:=HI.nil;ah H O λh H Y=>?_;refine af O (λhb=>?_) λhb=>?_
 .exact ah H O λh H Y=>ab [] H O O
 refine ah H O λh H Y=>aF O call4 (Kr s) <| ah H O λh H Y=>af O (λaT=>?_) λaT=>?_
 .exact ah H O λh H Y=>ab [] H O O
 have hp:oK s=true:=by simpa using aT
 obtain⟨hP,hs⟩:=Fw hp;obtain⟨ag1,Z5⟩:=KI hp;refine ah H O λh H Y=>ae O call5 (Ae hs) ?_;rintro v h2 ⟨kp,cs,ok,sr,rfl,⟨c0,c1,c2,c3,c4,rfl⟩,hF,hO⟩;replace H:=H.same kp;have hA:∀sc:bY,ok=true->sr=true->[c0,c1,c2,c3,c4]=sc.cs->True:=λ_ _ _ _=>trivial
 have hB:sr=true->ok=false->gD (some (jz pL s 0))=none:=by
  intro e1 e2;rcases hF e2 e1 with e|⟨_,⟨ts,rfl,ht,hk⟩,e⟩
  .exact ag1 e
  .rw[Z5 ts ht hk];exact e
 have hC:sr=true->ok=true->∃sc:bY,[c0,c1,c2,c3,c4]=sc.cs/\gD (some (jz pL s 0))=some sc:=by intro e1 e2;obtain⟨sc,e,q⟩:=hO e2;obtain⟨_,⟨ts,rfl,ht,hk⟩,e'⟩:=q e1;exact⟨sc,e,by rw[Z5 ts ht hk];exact e'⟩
 clear hA hF hO ag1 Z5;refine ah H O λh H Y=>ae O call6 (zT NQ hs (H.kp.aV.trans hT)) ?_;rintro v h3 ⟨kp3,hr⟩;replace H:=H.same kp3;rcases hr with⟨e,rfl⟩|⟨a,y,e,_,rfl⟩
 .cases sr with
  |false=>
   refine an [1] H O λh H Y=>?_
   repeat'(first|(refine aj O (λdK=>?_) (λdK=>?_)<;>first|(cases dK;done)|refine ah H O λh H Y=>?_)|(refine aR O (λdK=>?_) (λdK=>?_)<;>first|(cases dK;done)|refine ah H O λh H Y=>?_)|(refine jI O ?_;refine ah H O λh H Y=>?_)|(refine cX O ?_;refine ah H O λh H Y=>?_)|(refine af O (λ_=>?_) (λ_=>?_)<;>refine ah H O λh H Y=>?_))
   exact ab [] H O O
  |true=>
   cases ok with
   |false=>
    refine an [1] H O λh H Y=>?_
    repeat'(first|(refine aj O (λdK=>?_) (λdK=>?_)<;>first|(cases dK;done)|refine ah H O λh H Y=>?_)|(refine aR O (λdK=>?_) (λdK=>?_)<;>first|(cases dK;done)|refine ah H O λh H Y=>?_)|(refine jI O ?_;refine ah H O λh H Y=>?_)|(refine cX O ?_;refine ah H O λh H Y=>?_)|(refine af O (λ_=>?_) (λ_=>?_)<;>refine ah H O λh H Y=>?_))
    exact ab [] H O O
   |true=>obtain⟨sc,_,e'⟩:=hC rfl rfl;rw[e]at e';cases e'
 .cases sr with
  |false=>
   refine an [1] H O λh H Y=>?_
   repeat'(first|(refine aj O (λdK=>?_) (λdK=>?_)<;>first|(cases dK;done)|refine ah H O λh H Y=>?_)|(refine aR O (λdK=>?_) (λdK=>?_)<;>first|(cases dK;done)|refine ah H O λh H Y=>?_)|(refine jI O ?_;refine ah H O λh H Y=>?_)|(refine cX O ?_;refine ah H O λh H Y=>?_)|(refine af O (λ_=>?_) (λ_=>?_)<;>refine ah H O λh H Y=>?_))
   exact ab [] H O O
  |true=>
   cases ok with
   |false=>rw[hB O O]at e;cases e
   |true=>
    obtain⟨sc,es,e'⟩:=hC O O;rw[e]at e'
    cases e'
    cases es;refine an [1] H O λh H Y=>?_;refine aj O (λdK=>?_) (λdK=>?_)<;>first|(cases dK;done)|skip
    refine ah H O λh H Y=>?_;refine aj O (λdK=>?_) (λdK=>?_)<;>first|(cases dK;done)|skip
    refine ah H O λh H Y=>?_;refine aj O (λdK=>?_) (λdK=>?_)<;>first|(cases dK;done)|skip
    exact an [1,0] H O λh H Y=>aF O call7 (yj a) <| ah H O λh H Y=>ab [] H O O
end
end
end Go.Am
