/- FnParseSchema: each text is parsed to the type system document that the grammar of the specification says, and to an error just where it is none. Conditions: none on the text (the law itself answers true for texts that are too long or not plain, and where the specification is not sure); the package-level variables that the card lists start as the text of the program lays them, as the card ties them. -/
import Derived.Test.YtmbeaohkcogohaaGreatDoorS7
import Derived.Test.YtmbeaohkcogohaaGreatDoorCards
import Derived.Test.YtmbeaohkcogohaaGreatDoorTie
import Derived.Lib.LaidIn
import Derived.Lib.LaidU8T
import Derived.Deep.DeepHandedRow
import Derived.Deep.DeepWitnessRowRef
import Derived.ProofKit
import Derived.SizedLaws
import Derived.PinnedBridge
set_option maxRecDepth 100000
set_option maxHeartbeats 4000000
set_option linter.unusedVariables false
set_option linter.unusedSimpArgs false
namespace Go.Am
open Go.Proofs Go.RowKit
theorem Bk {w:World} {b i:Nat} {v:Value} (h:w.cell? ⟨b,i,none⟩=some v):∃c T fz,w.heap[b]? =some (.cells c T fz)/\i+1<=c.size:=by
 unfold World.cell? at h;split at h
 .rename_i c T fz e;simp at h;refine⟨c,T,fz,e,?_⟩;rcases Nat.lt_or_ge i c.size with hi|hi
  .omega
  .rw[Array.getElem?_eq_none hi]at h
   cases h
 .cases h
def TR:Gh:=⟨λ_=>none,λ_=>none,λ_ _=>none,λb=>if b=1 then 256 else if b=2 then 32 else 0,0,λ_=>0,λ_=>0,λ_=>none⟩
def WO:AH:=⟨0,λ_=>none,0,λ_=>0,bQ⟩
theorem QF {w:World} (U:Lib.Utf8Tabs 1 2 w):Rel TR w WO:=by
 refine⟨λ_ _ e=>(nomatch e),λ_ _ _ e=>(nomatch e),λ_ _ e=>(nomatch e),λ_ _ e=>(nomatch e),λ_ _ e=>(nomatch e),rfl,λ_ e=>absurd e (Nat.not_lt_zero _),λ_ _ e=>(nomatch e),λ_ e=>absurd e (Nat.not_lt_zero _),λ_ _ _ e=>(nomatch e),?_,λ_ _ e=>(nomatch e),?_⟩
 .intro b hb
  by_cases h1:b=1
  .subst h1;exact Bk (U.1 255 (by omega))
  .by_cases h2:b=2
   .subst h2;exact Bk (U.2 15 (by omega)).2
   .simp[TR,h1,h2]at hb
 .intro a v e;have e':bQ a=some v:=e;obtain⟨b,i,sp⟩:=a
  cases sp with
  |some _=>simp[bQ]at e'
  |none=>
   simp only[bQ]at e'
   by_cases h1:b=1
   .subst h1;simp only[if_true]at e'
    by_cases hi:i <256
    .rw[if_pos hi]at e';injection e' with e'
     subst e';exact⟨U.1 i hi,hi⟩
    .rw[if_neg hi]at e'
     cases e'
   .rw[if_neg h1]at e'
    by_cases h2:b=2
    .subst h2;simp only[if_true]at e'
     by_cases hi:i <32
     .rw[if_pos hi]at e';injection e' with e'
      subst e';obtain⟨u1,u2⟩:=U.2 (i/2) (by omega);refine⟨?_,hi⟩;rcases Nat.mod_two_eq_zero_or_one i with h|h
      .rw[if_pos h,show i=2*(i/2) by omega,show 2*(i/2)/2=i/2 by omega];exact u1
      .rw[if_neg (by omega),show i=2*(i/2)+1 by omega,show(2*(i/2)+1)/2=i/2 by omega];exact u2
     .rw[if_neg hi]at e'
      cases e'
    .rw[if_neg h2]at e'
     cases e'
theorem KJ (s:ByteArray) {w:World} (U:Lib.Utf8Tabs 1 2 w):Calls Tryz.prog 3 #[.string s] w λe w'=>e= .returned (.bool true)/\Below w.heap.size w w':=by
 obtain⟨v,h',rfl,r⟩:=QE (h0:=WO) s.data.toList rfl;refine(r TR w #[.string s] (QF U) ⟨rfl,λi hi=>?_⟩).mono ?_
 .match i,hi with|0,_=>exact .str s
 .rintro e w' ⟨u,g',rfl,E, -,hu⟩
  cases hu;exact⟨rfl,E.os,E.tape,E.output,E.size,λk hk=>(E.rest k hk (λ_ e=>(nomatch e)) rfl rfl).1⟩
end Go.Am
namespace Go.Proofs.YtmbeaohkcogohaaGreatDoor
open Go.ChangeShapes Go.WideShapes Go.ChangeAt Go.RowKit Go.Lib Go.Shelf
open Go.ChangeMaps (open_string shut_string)
theorem own:ownKnob Tryz.prog.godebug=none:=by kernel_rfl
noncomputable def re (os:Os):World:=
 let N:=(World.settled Tryz.prog os).heap.size
 let w0:=World.holding Tryz.prog os ⟨#[.cells #[.string ⟨#[98,121,116,101,115,46,66,117,102,102,101,114,58,32,116,111,111,32,108,97,114,103,101]⟩] 372],#[],[]⟩
 let put (h:Array Obj) (g:Nat) (cs:Array Value):Array Obj:=h.modify g λ
  | .cells _ t frozen=> .cells cs t frozen
  |o=>o
 let h0:=put w0.heap 0 #[.iface 344 (.pointer (some ⟨N,0,none⟩))]
 let h1:=put h0 1 (Lib.firstTab.map λz=>Value.int .u8 z).toArray
 let h2:=put h1 2 ((List.range 16).flatMap λi=>[Value.int .u8 (Lib.accLo i),Value.int .u8 (Lib.accHi i)]).toArray
 {w0 with heap:=h2}
noncomputable abbrev N0:Nat:=(World.settled Tryz.prog default).heap.size
theorem N8 (os:Os) (args:Array Value):laidMet Tryz.prog Rows.fnParseSchemaRow.laid ((re os).forCall (λ_ _=>0) ⟨#[],args,[]⟩).memory:=(LaidIn.of_run (l:=Rows.fnParseSchemaRow.laid) [2,0,N0,1] 8 (by kernel_rfl) (by kernel_rfl) (by kernel_rfl) (by kernel_rfl)).met
theorem Fy (os:Os) {H:Type} (enc:TypeId×Value->H):
 (OpenSpec.ofChange Rows.fnParseSchemaSpec).preRow enc Tryz.prog Tryz.f3 Rows.fnParseSchemaRow.domain false Rows.fnParseSchemaRow.laid ((re os).forCall (λ_ _=>0) ⟨#[],#[.string ⟨#[]⟩],[]⟩).memory #[.string ⟨#[]⟩]:=by
 have hw:(DataW.whole enc Tryz.prog ((re os).forCall (λ_ _=>0) ⟨#[],#[.string ⟨#[]⟩],[]⟩).memory Tryz.f3.params.toList Rows.fnParseSchemaSpec.vars false #[Value.string ⟨#[]⟩].toList 8).map (λx=>(x.1,x.2.1))= some ([.lit (.string [])],[]):=by kernel_rfl
 obtain⟨⟨x1,x2,x3⟩,hx,zl⟩:=Option.map_eq_some_iff.1 hw;simp only[Prod.mk.injEq]at zl;obtain⟨rfl,rfl⟩:=zl;exact OpenSpec.preRow_of_cond 8 hx (by kernel_rfl) (λk hk=>by cases hk) (by kernel_rfl) (N8 os _)
theorem TU:(Rows.laid_unicode_utf8_acceptRanges:DataW Unit)=Lib.acceptData:=by kernel_rfl
theorem lifted (os:Os) (started:os.Started) (H:Type) (enc:TypeId×Value->H) (F:Stop.Interp):
 ReturnsInHanded {} Tryz.checked os 3 .any ((OpenSpec.ofChange Rows.fnParseSchemaSpec).preRow enc Tryz.prog Tryz.f3 Rows.fnParseSchemaRow.domain false Rows.fnParseSchemaRow.laid) (((OpenSpec.ofChange Rows.fnParseSchemaSpec).at F).post enc Tryz.prog Tryz.f3 false true false false):=by
 refine returnsInHanded_of_row (C:=Tryz.checked) (s:=OpenSpec.ofChange Rows.fnParseSchemaSpec) own started (by kernel_rfl) Tryz.func3 (witness_row_atRef (enc:=enc) (C:=Tryz.checked) false (re os) #[.string ⟨#[]⟩] rfl (by kernel_rfl) (by kernel_rfl) (by kernel_rfl) (Fy os enc)) ?_
 intro W base args ds gs before Ro hW _ _ _ hL _ _;have rj:∀(j:Nat) t v,Tryz.f3.params[j]? =some t->args[j]? =some v->Value.okWide Tryz.prog W .any base t v:=Ro;have hW':=hW;obtain⟨p,q,hA0,hV0,rfl,_,_⟩:=hW;have hA:DataW.TrodAll enc Tryz.prog W 0 (λ_=>true) true Tryz.f3.params.toList args.toList ds p:=hA0;rw[Tryz.params3]at hA rj;obtain⟨v0,d0,rfl,rfl,h0⟩:=trodAll_one hA;obtain⟨rfl,rfl⟩:=trodVars_none hV0;obtain⟨s,rfl,rfl,rfl,ws⟩:=open_string Tryz.underlying9 (rj 0 9 v0 rfl rfl) h0;clear hA0 hV0 Ro;have Z6:Lib.Utf8Tabs 1 2 W:=utf8Tabs_of_readsT (ρ:=Tryz.vy) {Tryz.Ip with} ⟨by kernel_rfl,by kernel_rfl,by kernel_rfl,by kernel_rfl,by kernel_rfl,by kernel_rfl,by kernel_rfl⟩ (Pinned.utf8First_eq▸Lib.laidMet.reads hL (.tail _ (.tail _ (.head _)))) (TU▸Lib.laidMet.reads hL (.head _))
 refine(Am.KJ s Z6).mono ?_;rintro e W' ⟨rfl,bel⟩;have e1:((OpenSpec.ofChange Rows.fnParseSchemaSpec).at F).fn H ([.lit (.string s.data.toList)]++[])={results:=[.lit (.bool true)],args:=[.lit (.string s.data.toList)]}:=rfl;refine⟨_,rfl,_,_,_,[],[],[],hW',?_,?_,?_,bel.frame _,λh=>by cases h⟩
 .rw[e1];exact trodAll_mk1 (shut_bool Tryz.underlying4 _)
 .rw[e1];exact trodAll_mk1 (shut_string Tryz.underlying9 ws)
 .rw[e1];rfl
theorem said:Rows.FnParseSchemaSaid:=
 OpenClaim.holds_of_cond 3 Tryz.f3 rfl rfl rfl rfl rfl rfl rfl ⟨rfl,rfl,rfl,rfl,rfl⟩ rfl rfl rfl rfl rfl (by kernel_rfl) Tryz.func3 (by kernel_rfl)
  (of_decide_eq_true (by kernel_rfl)) (by unfold Func.isWrapper;first|(rw[if_pos (by decide+kernel)];kernel_rfl)|(rw[if_neg (by decide+kernel)];exact⟨rfl,rfl⟩))
  (λos started H enc _ F=>by rw[OpenClaim.pre_eq_preRow];exact lifted os started H enc F)
theorem plain (f:FuncId) (fn:Func) (hf:Tryz.pinned.checked.prog.funcNamed "given.example/pub-querent/laws.FnParseSchema" =some f) (hfn:Tryz.pinned.checked.prog.funcs[f]? =some fn):
 false=Tryz.pinned.checked.prog.looks []/\∀(j:Nat) t,fn.params[j]? =some t->Tryz.pinned.checked.prog.wantsStandIn t=false:=by
 obtain rfl:f=3:=Option.some.inj ((show Tryz.prog.funcNamed "given.example/pub-querent/laws.FnParseSchema" =some 3 by kernel_rfl).symm.trans hf) |>.symm;obtain rfl:fn=Tryz.f3:=(Option.some.inj (Tryz.func3.symm.trans hfn)).symm;refine⟨by kernel_rfl,λj t ht=>?_⟩;rw[Tryz.params3]at ht;obtain rfl:t=9:=by simpa using Array.mem_of_getElem? ht
 exact(show Tryz.prog.wantsStandIn 9=false by kernel_rfl)
theorem card:Rows.FnParseSchemaCardSaid:=Claim7.holds_tied_plain_at .later [] _ _ _ _ said (λ_ h=>by cases h) (by kernel_rfl) (λ_ h=>by cases h) fnParseSchema_row_tie rfl ⟨rfl,rfl⟩ (by kernel_rfl) rfl plain (by kernel_rfl)
end Go.Proofs.YtmbeaohkcogohaaGreatDoor
