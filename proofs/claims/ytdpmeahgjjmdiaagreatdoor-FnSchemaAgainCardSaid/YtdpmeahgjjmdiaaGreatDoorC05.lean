/- Part of the proof that laws.FnSchemaAgain answers true. Conditions: none. -/
import Derived.Lib.Join
import Derived.Test.YtdpmeahgjjmdiaaGreatDoorC03
import Derived.Test.YtdpmeahgjjmdiaaGreatDoorC04
set_option linter.all false
open Nat renaming le_refl->HZ,lt_of_lt_of_le->Iq,lt_or_ge->Hh,zero_le->HD
open Array renaming getElem?_eq_none->HE,getElem?_toList->Iu,length_toList->Ih,toList_extract->Ij
open List renaming dropWhile_cons->IC,dropWhile_cons_of_neg->Il,dropWhile_cons_of_pos->Ik,eq_nil_of_length_eq_zero->HI,flatMap_cons->G0,getD_eq_getElem?_getD->It,length_append->HT,length_cons->Iz,length_drop->Ia,map_cons->HF,mem_cons->G6,mem_cons_self->Iw,mem_flatMap->Ha,nodup_cons->Hn,sum_cons->Ip,take_append_drop->IB,take_of_length_le->Ir
open Go.Proofs.Tryz renaming prog->HB
open ByteArray renaming data_extract->Ii,size_extract->ID
open Go.Lib renaming decode_at->Is,encodeRune->Im,join->IA,lt_of_heap->Iv
open Option renaming bind_some->Hl,map_eq_some_iff->Io,map_some->Hd
open Option.some renaming injEq->G8
open Prod.mk renaming injEq->He
open Go.IntKind renaming wrap->HK
open Go.ByteArray renaming toList_eq->Ix
open Int renaming eq_ofNat_of_zero_le->Iy
namespace Go.Proofs.YtdpmeahgjjmdiaaGreatDoor
open Go
section
open Go.RowKit
variable[OO]
theorem ku{aa}{cs}{w w'}(h:Heap aa cs w)(hb:Below w.heap.size w w'):Heap aa cs w':=by
 have hi: ∀x o,aa x=some o->x<w.heap.size:=λ x o L=>by
  have:=h.dD x o L;rcases Hh x w.heap.size with G|G
  exact G;rw[HE G]at this;cases this
 refine⟨(congr (congrArg Prod.mk hb.os) hb.output).trans h.io,λ b o L=>by rw[hb.block b (hi b o L)];exact h.dD b o L,h.nodup,λ b L=>⟨Iq (h.old b L).1 hb.size,(h.old b L).2⟩,λ c J=>?_⟩;exact Chunk.d' (h.ok c J) lq λ b L=>hb.block b (h.old b (Ha.2 ⟨c,J,L⟩)).1
def U8(aa:au):Prop:= ∀w:World,(∀b o,aa b=some o->w.heap[b]?=some o)->Lib.Utf8Tabs 1 2 w
theorem U8.mono{aa C}(h:U8 aa)(hl:au.le aa C):U8 C:=λ w hw=>h w λ b o hb=>hw b o (hl b o hb)
theorem Spec.below{g}{args}{v}{aa}(h: ∀w:World,(∀b o,aa b=some o->w.heap[b]?=some o)->Calls HB g args.toArray w λ e w'=>e=.returned v/\Below w.heap.size w w'):
 Sp g args [] aa (λ r M' _=>r=v/\M'=[]):=by
 intro F w hw;refine(h w hw.dD).mono ?_;rintro e w' ⟨rfl,hb⟩;exact⟨v,[],aa,rfl,lq,⟨rfl,rfl⟩,ku hw hb⟩
theorem wK aa(an:U8 aa)(s:ao):Sp 169 [vs s] [] aa (λ r M' _=>r=.tuple #[.int .i32 ((Lib.decodeGo s).1:Nat),vi ((Lib.decodeGo s).2:Nat)]/\M'=[]):=
 Spec.below λ w hw=>Tryz.utf8_DecodeRuneInString s w (an w hw)
def hD(l:List UInt8):Nat×Nat:=if l=[]then(65533,0)else Lib.decodeN l.length (l.getD 0 0).toNat (l.getD 1 0).toNat (l.getD 2 0).toNat (l.getD 3 0).toNat
theorem iD s e:(s.extract e s.size).data.toList=al s e:=by
 unfold al;rw[Ii,Ij];simp[List.extract];rw[Ir];simp
theorem fw (s : ao) : Lib.decodeGo s = hD s.data.toList := by
  unfold Lib.decodeGo hD
  have hl : s.data.toList.length = s.size := by simp
  by_cases h : s.size = 0
  · rw [if_pos h, if_pos (HI (by omega))]
  · rw [if_neg h, if_neg (fun O => h (by rw [← hl, O]; rfl)), Is]
    have hg : ∀ i, s.get! i = s.data.toList.getD i 0 := fun i => by
      rw [It]
      show s.data[i]! = _
      rw [getElem!_def, Iu]
      cases s.data[i]? <;> rfl
    simp only [hg, hl, Nat.sub_zero]
end
section
open Go.RowKit
variable[OO]
structure fE(aa:au)(cs:List Chunk)(B:Nat):Prop where
 fp: ∀x,x∈cs.flatMap Chunk.fp->x<B
 im: ∀x o,aa x=some o->x<B
 ro: ∀b off cells,Chunk.ro b off cells∈cs-> ∀w,(Chunk.ro b off cells).ok aa w
theorem Heap.base{aa}{cs}{w}(h:Heap aa cs w):fE aa cs w.heap.size:=
 ⟨λ x L=>(h.old x L).1,λ x o L=>by
  have:=h.dD x o L;rcases Hh x w.heap.size with G|G
  exact G;exact absurd this (by rw[HE G];simp),λ b off cells J w'=>h.ok _ J⟩
def dC(T B b:Nat)(v:Value)(bs:List Value):Chunk:=
 .abs (b::aV v) (λ os=> ∃lr d,os=.cells #[v,vi 0,.int .i8 lr] T (0,0)::d/\tu 5 1 v bs.length bs d/\B<=b/\ ∀x,x∈aV v->B<=x)
section
variable{f:FuncId}{fn:Func}{R:Ending->World->Prop}{D:List Deferred}{aa:au}{path:List Nat}{env:Ev}{cs rest:List Chunk}{w:World}{T B b:Nat}{v:Value}{bs:List Value}
theorem cZ{v}{x}:v.ownBlock=some x<->aV v=[x]:=by
 cases v with
 |slice a n c=>cases a<;>simp[Value.ownBlock,aV]
 |_=>simp[Value.ownBlock,aV]
theorem pR{e sz n:Nat}{xs}(h:w.ownsRow 0 e sz v n xs)(M: ∀x,x∈aV v->B<=x):w.ownsRow B e sz v n xs:=by
 obtain⟨G,H⟩:=h;rcases H with⟨rfl,rfl⟩|⟨g,cap,cur,rfl,_,Y,aI,h6,aU,h8⟩
 exact⟨G,.inl ⟨rfl,rfl⟩⟩;exact⟨G,.inr ⟨g,cap,cur,rfl,M g (by simp[aV]),Y,aI,h6,aU,h8⟩⟩
theorem kI{e sz n:Nat}{xs}(h:w.ownsRow B e sz v n xs):w.ownsRow 0 e sz v n xs/\(∀x,x∈aV v->B<=x)/\ ∀x,x∈aV v->x<w.heap.size:=by
 obtain⟨G,H⟩:=h;rcases H with⟨rfl,rfl⟩|⟨g,cap,cur,rfl,S,Y,aI,h6,aU,h8⟩
 exact⟨⟨G,.inl ⟨rfl,rfl⟩⟩,λ x L=>by simp[aV]at L,λ x L=>by simp[aV]at L⟩;refine⟨⟨G,.inr ⟨g,cap,cur,rfl,HD _,Y,aI,h6,aU,h8⟩⟩,λ x L=>?_,λ x L=>?_⟩;simp[aV]at L;omega;simp[aV]at L;subst L;exact Iv Y
theorem rL(h:Heap aa (dC T B b v bs::rest) w):Lib.IsBuffer T 5 B b bs w:=by
 obtain⟨os,G,lr,d,rfl,S,Y,aI⟩:=h.ok _ (Iw ..);simp at G;refine⟨Y,v,lr,G.1,pR (iM (aa:=aa) ⟨d,G.2,S⟩) aI,λ L=>?_⟩;have O:=h.nodup;simp only[dC,G0,Chunk.fp,List.cons_append,Hn,cZ.1 L]at O;simp at O
theorem rE{w'}(h:Heap aa rest w)(hb:fE aa rest B)(hw:Below B w w')(Z:Lib.IsBuffer T 5 B b bs w'): ∃v',Heap aa (dC T B b v' bs::rest) w':=by
 obtain⟨G,v',lr,H,S,Y⟩:=Z;obtain⟨aI,h6,aU⟩:=kI S;refine⟨v',(congr (congrArg Prod.mk hw.os) hw.output).trans h.io,λ x o L=>by rw[hw.block x (hb.im x o L)];exact h.dD x o L,?_,λ x L=>?_,λ c J=>?_⟩;simp only[G0,dC,Chunk.fp];refine List.nodup_append.2 ⟨?_,h.nodup,λ x L y hy e=>?_⟩;rw[Hn];refine⟨λ hm=>?_,?_⟩;rcases hv:v'.ownBlock with _|g
 cases v' with
 |slice a n c=>cases a<;>simp[Value.ownBlock,aV]at hv hm
 |_=>simp[aV]at hm
 rw[cZ.1 hv]at hm;simp at hm;exact Y (by rw[hv,hm]);cases v' with
 |slice a n c=>cases a<;>simp[aV]
 |_=>simp[aV]
 subst e;have:=hb.fp x hy;rcases G6.1 L with rfl|L
 omega;have:=h6 x L;omega;simp only[G0,dC,Chunk.fp,List.mem_append]at L;rcases L with L|L
 have aO:B<=x:=by
  rcases G6.1 L with rfl|L
  exact G;exact h6 x L
 refine⟨?_,?_⟩;rcases G6.1 L with rfl|L
 exact Iv H;exact aU x L;cases hi:aa x with
 |none=>rfl
 |some o=>have:=hb.im x o hi;omega
 exact⟨Iq (h.old x L).1 hw.size,(h.old x L).2⟩;rcases G6.1 J with rfl|J
 obtain⟨d,h8,h9⟩:=hR (aa:=aa) aI;exact⟨.cells #[v',vi 0,.int .i8 lr] T (0,0)::d,by simp[H,h8],lr,d,rfl,h9,G,h6⟩;exact Chunk.d' (h.ok c J) lq λ x L=>hw.block x (hb.fp x (Ha.2 ⟨c,J,L⟩))
theorem bf.enter g(args:List Value)(d:Option Nat)ak
 (G: ∀u,(cj fn.ntmps (bI (bd fn) path []) env).bind (λ x=>(pv HB (execOp (bB u env) x.1)).map λ y=>(y,x.1.dst,x.2))=some (.enter g args.toArray,d,bI (bd fn) ak []))
 (k: ∀w,Heap aa cs w->Calls HB g args.toArray w λ e w'=> ∃r,e=.returned r/\ ∃C M,Heap C M w'/\bf HB f fn R D C ak (dF d r env) M):bf HB f fn R D aa path env cs:=by
 have N:=G (λ _=>undef);cases ho:cj fn.ntmps (bI (bd fn) path []) env with
 |none=>rw[ho]at N;cases N
 |some x=>
  obtain⟨o,B⟩:=x;have H: ∀u,pv HB (execOp (bB u env) o)=some (.enter g args.toArray)/\o.dst=d/\B=bI (bd fn) ak []:=by
   intro u;have h:=G u;rw[ho]at h;simp only[Hl]at h;cases hp:pv HB (execOp (bB u env) o)with
   |none=>rw[hp]at h;cases h
   |some y=>rw[hp]at h;simp at h;exact⟨by rw[h.1],h.2.1,h.2.2⟩
  obtain⟨_,rfl,rfl⟩:=H (λ _=>undef);intro a w he hd hh;obtain⟨ops,i,b,J,ay,l,hg,m,c⟩:=ia ho;rw[ay];refine ct.enter l (cC he hg) (by rw[he.eval];exact lI _ (H (un a)).1 w)<|(k w hh).mono ?_;rintro e w' ⟨r,rfl,C,M,q,U⟩;refine⟨r,rfl,?_⟩;obtain⟨p1,_⟩:=cL he he.eval m r;rw[<-c];exact U _ w' p1 ((put_defers _ _ _).trans hd) q
theorem cb(g:FuncId)(args:List Value)(d:Option Nat)(ak:List Nat)(a:List Value)(h:Value->Prop)(hb:fE aa rest B)
 (J: ∀w,Lib.IsBuffer T 5 B b bs w->(∀b o,aa b=some o->w.heap[b]?=some o)->B<=w.heap.size->Calls HB g args.toArray w λ e w'=> ∃r,e=.returned r/\h r/\Lib.IsBuffer T 5 B b a w'/\Below B w w')
 (k: ∀r v',h r->bf HB f fn R D aa ak (dF d r env) (dC T B b v' a::rest))
 (G: ∀u,(cj fn.ntmps (bI (bd fn) path []) env).bind (λ x=>(pv HB (execOp (bB u env) x.1)).map λ y=>(y,x.1.dst,x.2))=some (.enter g args.toArray,d,bI (bd fn) ak []):=by intros;kernel_rfl):
 bf HB f fn R D aa path env (dC T B b v bs::rest):=
 bf.enter g args d ak G λ w hh=>by
  have Z:=rL hh;refine(J w Z hh.dD (by have:=Z.1;have:=Z.lt;omega)).mono ?_;rintro e w' ⟨r,rfl,K,c,C⟩;obtain⟨v',q⟩:=rE hh.tail hb C c;exact⟨r,rfl,aa,_,q,k r v' K⟩
theorem fg{gI}{F}(hb:fE gI F B)(hl:au.le gI aa)(j: ∀b off cells,Chunk.ro b off cells∈cs->Chunk.ro b off cells∈F)(k:bf HB f fn R D gI path env cs):bf HB f fn R D aa path env cs:=by
 intro a w he hd hh;refine k a w he hd ⟨hh.io,λ x o L=>hh.dD x o (hl x o L),hh.nodup,λ x L=>⟨(hh.old x L).1,?_⟩,λ c J=>?_⟩;cases hi:gI x with
 |none=>rfl
 |some o=>have:=hl x o hi;rw[(hh.old x L).2]at this;cases this
 cases c with
 |ro b off cells=>exact hb.ro b off cells (j b off cells J) w
 |av b T cells=>exact hh.ok _ J
 |abs fp ok=>exact hh.ok _ J
theorem FU(m:Nat)(aJ:List Nat)(ak:List Nat)(b:(Nat->Nat)->Ev)(M:(Nat->Nat)->List Chunk)
 (k: ∀g,fE aa cs (g 0)->bf HB f fn R D aa ak (b g) (M g))
 (G: ∀u g,(exec HB fn.ntmps u g m aJ (bI (bd fn) path []) env cs 0 []).map (λ o=>(o.todo,(b g).map (λ x=>look o.env x.1),o.cs))=some (bI (bd fn) ak [],(b g).map (λ x=>some x.2),M g):=by intros;kernel_rfl)
 (H: ∀u g,(exec HB fn.ntmps u g m aJ (bI (bd fn) path []) env cs 0 []).map (λ o=>o.es.map (·.1))=(exec HB fn.ntmps u g m aJ (bI (bd fn) path []) env cs 0 []).map (λ o=>o.es.map (·.2)):=by intros;kernel_rfl):
 bf HB f fn R D aa path env cs:=by
 intro a w he hd hh;have T:=hh.base;have: ∀g:Nat->Nat,g 0=w.heap.size->fE aa cs (g 0):=λ g e=>e▸T
 let g:Nat->Nat:=λ i=>w.heap.size+i
 have d:=G (un a) g;have C:=H (un a) g;cases L:exec HB fn.ntmps (un a) g m aJ (bI (bd fn) path []) env cs 0 []with
 |none=>rw[L]at d;cases d
 |some out=>
  rw[L]at d C;simp only[Hd,G8,He]at d C;obtain⟨aw,az,e3⟩:=d;refine(nG (aa:=aa) (f:=f) (R:=R) (pn C) m aJ _ env cs 0 [] a w L he he.eval hh sm).1 λ a' w' j _ z q _=>?_
  rw[aw];exact k g (this g (by simp[g])) a' w' (hk j az) (z.trans hd) (e3▸q)
theorem D7{F:List Chunk}(T:Nat){M}(K:cs=.av B T [vz,vi 0,.int .i8 0]::M)(k:bf HB f fn R D aa path env (dC T B B vz []::M)):bf HB f fn R D aa path env cs:=by
 subst K;intro a w he hd hh;refine k a w he hd ⟨hh.io,hh.dD,by simpa[dC,Chunk.fp,aV]using hh.nodup,by simpa[dC,Chunk.fp,aV]using hh.old,λ c J=>?_⟩;rcases G6.1 J with rfl|J
 have U:=hh.ok _ (Iw ..);exact⟨[.cells #[vz,vi 0,.int .i8 0] T (0,0)],by simpa[aV,Chunk.ok]using U,0,[],rfl,⟨by simp,.inl ⟨rfl,rfl,rfl⟩⟩,HZ _,λ x L=>by simp[aV]at L⟩;exact hh.ok c (List.mem_cons_of_mem _ J)
end
end
section
variable[OO]
abbrev pD(a b:Int):Int:=HK .i32 ((BitVec.ofInt 32 a|||BitVec.ofInt 32 b).toNat:Int)
def eZ(x:Int):Option Int:=
 if 48<=x/\x<=57 then some (HK .i32 (HK .u8 (x-48)))else
 if 97<=x/\x<=102 then some (HK .i32 (HK .u8 ((HK .u8 (x-97))+10)))else
 if 65<=x/\x<=70 then some (HK .i32 (HK .u8 ((HK .u8 (x-65))+10)))else none
def hH:List UInt8->Int->Option Int
 |[],v=>some v
 |x::l,v=>match eZ (x.toNat:Int)with
  |none=>none
  |some d=>hH l (pD (HK .i32 (v*2^4)) d)
theorem c194: ∀(aa:au)(x:Int),Sp 194 [.int .u8 x] [] aa (λ r M' _=>r=(match eZ x with|some v=>.tuple #[.int .i32 v,vb true]|none=>.tuple #[.int .i32 0,vb false])/\M'=[]):=by
 intro aa x;refine aW Tryz.func194 λ F=>(ra 11 [] [1,0,0,3] [0,7]) λ _=>(iz 7 (decide ((48:Int)<=x))) (λ G=>?_) (λ G=>?_)
 .
  refine(rv 5 [] 2 [1] [0,4])<|(iz 4 (decide (x<=57))) (λ H=>?_) (λ H=>?_)
  .
   refine(rv 9 [] 0 [0,1] [2,3]) ?_;have L:eZ x=some (HK .i32 (HK .u8 (x-48))):=by unfold eZ;simp only[decide_eq_true_eq,decide_eq_false_iff_not]at G H;(repeat' split)<;>first|rfl|(exfalso;omega)
   refine ez 0 (.tuple #[.int .i32 (HK .i32 (HK .u8 (x-48))),vb true]) [] [] lq ?_;rw[L];exact⟨rfl,rfl⟩
  .
   refine(rv 6 [] 0 [1,0,3] [0,17])<|(iz 17 (decide ((97:Int)<=x))) (λ S=>?_) (λ S=>?_)
   .
    refine(rv 5 [] 2 [1] [0,14])<|(iz 14 (decide (x<=102))) (λ Y=>?_) (λ Y=>?_)
    .
     refine(rv 10 [] 0 [0,1] [2,3]) ?_;have L:eZ x=some (HK .i32 (HK .u8 ((HK .u8 (x-97))+10))):=by unfold eZ;simp only[decide_eq_true_eq,decide_eq_false_iff_not]at G H S Y;(repeat' split)<;>first|rfl|(exfalso;omega)
     refine ez 0 (.tuple #[.int .i32 (HK .i32 (HK .u8 ((HK .u8 (x-97))+10))),vb true]) [] [] lq ?_;rw[L];exact⟨rfl,rfl⟩
    .
     refine(rv 6 [] 0 [1,0,3] [0,28])<|(iz 28 (decide ((65:Int)<=x))) (λ aI=>?_) (λ aI=>?_)
     .
      refine(rv 5 [] 2 [1] [0,25])<|(iz 25 (decide (x<=70))) (λ h6=>?_) (λ h6=>?_)
      .
       refine(rv 10 [] 0 [0,1] [2,3]) ?_;have L:eZ x=some (HK .i32 (HK .u8 ((HK .u8 (x-65))+10))):=by unfold eZ;simp only[decide_eq_true_eq,decide_eq_false_iff_not]at G H S Y aI h6;(repeat' split)<;>first|rfl|(exfalso;omega)
       refine ez 0 (.tuple #[.int .i32 (HK .i32 (HK .u8 ((HK .u8 (x-65))+10))),vb true]) [] [] lq ?_;rw[L];exact⟨rfl,rfl⟩
      .
       refine(rv 6 [] 0 [1,1] [2,3]) ?_;have L:eZ x=none:=by unfold eZ;simp only[decide_eq_true_eq,decide_eq_false_iff_not]at G H S Y aI h6;(repeat' split)<;>first|rfl|(exfalso;omega)
       refine ez 0 (.tuple #[.int .i32 0,vb false]) [] [] lq ?_;rw[L];exact⟨rfl,rfl⟩
     .
      refine(rv 11 [] 2 [1,1,1] [2,3]) ?_;have L:eZ x=none:=by unfold eZ;simp only[decide_eq_true_eq,decide_eq_false_iff_not]at G H S Y aI;(repeat' split)<;>first|rfl|(exfalso;omega)
      refine ez 0 (.tuple #[.int .i32 0,vb false]) [] [] lq ?_;rw[L];exact⟨rfl,rfl⟩
   .
    refine(rv 11 [] 2 [1,1,0,3] [0,28])<|(iz 28 (decide ((65:Int)<=x))) (λ Y=>?_) (λ Y=>?_)
    .
     refine(rv 5 [] 2 [1] [0,25])<|(iz 25 (decide (x<=70))) (λ aI=>?_) (λ aI=>?_)
     .
      refine(rv 10 [] 0 [0,1] [2,3]) ?_;have L:eZ x=some (HK .i32 (HK .u8 ((HK .u8 (x-65))+10))):=by unfold eZ;simp only[decide_eq_true_eq,decide_eq_false_iff_not]at G H S Y aI;(repeat' split)<;>first|rfl|(exfalso;omega)
      refine ez 0 (.tuple #[.int .i32 (HK .i32 (HK .u8 ((HK .u8 (x-65))+10))),vb true]) [] [] lq ?_;rw[L];exact⟨rfl,rfl⟩
     .
      refine(rv 6 [] 0 [1,1] [2,3]) ?_;have L:eZ x=none:=by unfold eZ;simp only[decide_eq_true_eq,decide_eq_false_iff_not]at G H S Y aI;(repeat' split)<;>first|rfl|(exfalso;omega)
      refine ez 0 (.tuple #[.int .i32 0,vb false]) [] [] lq ?_;rw[L];exact⟨rfl,rfl⟩
    .
     refine(rv 11 [] 2 [1,1,1] [2,3]) ?_;have L:eZ x=none:=by unfold eZ;simp only[decide_eq_true_eq,decide_eq_false_iff_not]at G H S Y;(repeat' split)<;>first|rfl|(exfalso;omega)
     refine ez 0 (.tuple #[.int .i32 0,vb false]) [] [] lq ?_;rw[L];exact⟨rfl,rfl⟩
 .
  refine(rv 11 [] 2 [1,1,0,3] [0,17])<|(iz 17 (decide ((97:Int)<=x))) (λ H=>?_) (λ H=>?_)
  .
   refine(rv 5 [] 2 [1] [0,14])<|(iz 14 (decide (x<=102))) (λ S=>?_) (λ S=>?_)
   .
    refine(rv 10 [] 0 [0,1] [2,3]) ?_;have L:eZ x=some (HK .i32 (HK .u8 ((HK .u8 (x-97))+10))):=by unfold eZ;simp only[decide_eq_true_eq,decide_eq_false_iff_not]at G H S;(repeat' split)<;>first|rfl|(exfalso;omega)
    refine ez 0 (.tuple #[.int .i32 (HK .i32 (HK .u8 ((HK .u8 (x-97))+10))),vb true]) [] [] lq ?_;rw[L];exact⟨rfl,rfl⟩
   .
    refine(rv 6 [] 0 [1,0,3] [0,28])<|(iz 28 (decide ((65:Int)<=x))) (λ Y=>?_) (λ Y=>?_)
    .
     refine(rv 5 [] 2 [1] [0,25])<|(iz 25 (decide (x<=70))) (λ aI=>?_) (λ aI=>?_)
     .
      refine(rv 10 [] 0 [0,1] [2,3]) ?_;have L:eZ x=some (HK .i32 (HK .u8 ((HK .u8 (x-65))+10))):=by unfold eZ;simp only[decide_eq_true_eq,decide_eq_false_iff_not]at G H S Y aI;(repeat' split)<;>first|rfl|(exfalso;omega)
      refine ez 0 (.tuple #[.int .i32 (HK .i32 (HK .u8 ((HK .u8 (x-65))+10))),vb true]) [] [] lq ?_;rw[L];exact⟨rfl,rfl⟩
     .
      refine(rv 6 [] 0 [1,1] [2,3]) ?_;have L:eZ x=none:=by unfold eZ;simp only[decide_eq_true_eq,decide_eq_false_iff_not]at G H S Y aI;(repeat' split)<;>first|rfl|(exfalso;omega)
      refine ez 0 (.tuple #[.int .i32 0,vb false]) [] [] lq ?_;rw[L];exact⟨rfl,rfl⟩
    .
     refine(rv 11 [] 2 [1,1,1] [2,3]) ?_;have L:eZ x=none:=by unfold eZ;simp only[decide_eq_true_eq,decide_eq_false_iff_not]at G H S Y;(repeat' split)<;>first|rfl|(exfalso;omega)
     refine ez 0 (.tuple #[.int .i32 0,vb false]) [] [] lq ?_;rw[L];exact⟨rfl,rfl⟩
  .
   refine(rv 11 [] 2 [1,1,0,3] [0,28])<|(iz 28 (decide ((65:Int)<=x))) (λ S=>?_) (λ S=>?_)
   .
    refine(rv 5 [] 2 [1] [0,25])<|(iz 25 (decide (x<=70))) (λ Y=>?_) (λ Y=>?_)
    .
     refine(rv 10 [] 0 [0,1] [2,3]) ?_;have L:eZ x=some (HK .i32 (HK .u8 ((HK .u8 (x-65))+10))):=by unfold eZ;simp only[decide_eq_true_eq,decide_eq_false_iff_not]at G H S Y;(repeat' split)<;>first|rfl|(exfalso;omega)
     refine ez 0 (.tuple #[.int .i32 (HK .i32 (HK .u8 ((HK .u8 (x-65))+10))),vb true]) [] [] lq ?_;rw[L];exact⟨rfl,rfl⟩
    .
     refine(rv 6 [] 0 [1,1] [2,3]) ?_;have L:eZ x=none:=by unfold eZ;simp only[decide_eq_true_eq,decide_eq_false_iff_not]at G H S Y;(repeat' split)<;>first|rfl|(exfalso;omega)
     refine ez 0 (.tuple #[.int .i32 0,vb false]) [] [] lq ?_;rw[L];exact⟨rfl,rfl⟩
   .
    refine(rv 11 [] 2 [1,1,1] [2,3]) ?_;have L:eZ x=none:=by unfold eZ;simp only[decide_eq_true_eq,decide_eq_false_iff_not]at G H S;(repeat' split)<;>first|rfl|(exfalso;omega)
    refine ez 0 (.tuple #[.int .i32 0,vb false]) [] [] lq ?_;rw[L];exact⟨rfl,rfl⟩
theorem c173: ∀(aa:au)(s:ao),s.size<=1099511627776->Sp 173 [vs s] [] aa (λ r M' _=>r=(match hH (al s 0) 0 with|some v=>.tuple #[.int .i32 v,vb true]|none=>.tuple #[.int .i32 0,vb false])/\M'=[]):=by
 intro aa s dB;refine aW Tryz.func173 λ F=>(ra 14 [] [1,1,0,0,0,0] [0,2,4]) λ _=>(wz (ι:=Nat×Int×au) (λ i=>s.size-i.1) (λ i=>i.2.2) [0] (λ i=>[(2,.int .i32 i.2.1),(4,vi i.1)]) (λ i c=>c) (λ i=>i.1<=s.size/\hH (al s i.1) i.2.1=hH (al s 0) 0/\au.le aa i.2.2) (0,0,aa) ⟨HD _,rfl,lq⟩) ?_;rintro⟨i,v,bd⟩ ⟨hi,hinv,ae⟩ af;dsimp only at hi hinv ae;refine(rv 6 [] 1 [1] [0,2,4,10])<|(eX 10 i s.size) (λ I=>?_) (λ G=>?_);refine(rv 8 [] 2 [1,0,0,2] [0,2,4,14,15])<|(e5 (.index 9 (.tmp 14) (.tmp 15)) [vs s,vi i] (v:=(.int .u8 (bt s (i:Int)))) (aS kr om om)) ?_;have a:=c194 bd (bt s (i:Int));rw[bO]at a⊢;cases L:eZ ((bb s i).toNat:Int)with
 |none=>
  rw[L]at a;refine(cR [] (a)) λ ak P=>(rv 18 [] 2 [1,1,0,1] [2,3]) ?_;have V:hH (al s 0) 0=none:=by rw[<-hinv,aE I,hH,L]
  refine ez 0 (.tuple #[.int .i32 0,vb false]) [] [] lq ?_;rw[V];exact⟨rfl,rfl⟩
 |some d=>
  rw[L]at a;refine(cR [] (a)) λ ak P=>(rv 30 [] 4 [0,0] [0,2,4])<|(sv 4 (wn (i+1) (i+1)))<|lz (af (i+1,pD (HK .i32 (v*2^4)) d,ak) ⟨dm,by dsimp only;rw[<-hinv,aE I,hH,L],lq⟩ dm)
 refine(ra 8 [] [3] [2,3]) ?_;intro _;have V:hH (al s 0) 0=some v:=by rw[<-hinv,cA (by simpa using G),hH]
 refine ez 0 (.tuple #[.int .i32 v,vb true]) [] [] ae ?_;rw[V];exact⟨rfl,rfl⟩
def gi(x y:Int):Int:=
 if 55296<=x/\x<56320/\56320<=y/\y<57344 then HK .i32 (pD (HK .i32 (HK .i32 (x-55296)*2^10)) (HK .i32 (y-56320))+65536)else 65533
def dZ:List UInt8->Nat->Int->Int×Int×Bool
 |[],i,_=>(0,(i:Int),false)
 |x::l,i,v=>
  if i<=8 then
   if((x.toNat:Nat):Int)=125 then(if i=0\/Lib.validRune v=false then(0,((i+1:Nat):Int),false)else(v,((i+1:Nat):Int),true))
   else match eZ (x.toNat:Int)with
    |none=>(0,(i:Int),false)
    |some d=>dZ l (i+1) (pD (HK .i32 (v*2^4)) d)
  else(0,(i:Int),false)
theorem c193 aa x:Sp 193 [.int .i32 x] [] aa (λ r M' _=>r=vb (Lib.validRune x)/\M'=[]):=
 Spec.below λ w _=>(Tryz.utf8_ValidRune x w).mono λ _ _⟨G,H⟩=>⟨G,H▸Go.RowKit.Below.refl _ _⟩
theorem EX: ∀aa x y,Sp 174 [.int .i32 x,.int .i32 y] [] aa (λ r M' _=>r=.int .i32 (gi x y)/\M'=[]):=by
 intro aa x y;refine aW Tryz.func174 λ F=>(ra 10 [] [1,0,3] [0,1,7]) λ _=>(iz 7 (decide ((55296:Int)<=x))) (λ G=>?_) (λ G=>?_)
 .
  refine(rv 4 [] 1 [7] [0,1,11])<|(iz 11 (decide (x<56320))) (λ H=>?_) (λ H=>?_)
  .
   refine(rv 4 [] 1 [11] [0,1,15])<|(iz 15 (decide ((56320:Int)<=y))) (λ S=>?_) (λ S=>?_)
   .
    refine(ra 4 [] [1,1] [0,1,18]) λ _=>(iz 18 (decide (y<57344))) (λ Y=>?_) (λ Y=>?_)
    .
     refine(rv 12 [] 0 [0,1] [4]) ?_;have L:gi x y=HK .i32 ((pD (HK .i32 ((HK .i32 (x-55296))*2^10)) (HK .i32 (y-56320)))+65536):=by unfold gi;simp only[decide_eq_true_eq,decide_eq_false_iff_not]at G H S Y;(repeat' split)<;>first|rfl|(exfalso;omega)
     refine ez 0 (.int .i32 (HK .i32 ((pD (HK .i32 ((HK .i32 (x-55296))*2^10)) (HK .i32 (y-56320)))+65536))) [] [] lq ?_;rw[L];exact⟨rfl,rfl⟩
    .
     refine(ra 6 [] [3] [4]) ?_;intro _;have L:gi x y=65533:=by unfold gi;simp only[decide_eq_true_eq,decide_eq_false_iff_not]at G H S Y;(repeat' split)<;>first|rfl|(exfalso;omega)
     refine ez 0 (.int .i32 65533) [] [] lq ?_;rw[L];exact⟨rfl,rfl⟩
   .
    refine(ra 10 [] [3] [4]) ?_;intro _;have L:gi x y=65533:=by unfold gi;simp only[decide_eq_true_eq,decide_eq_false_iff_not]at G H S;(repeat' split)<;>first|rfl|(exfalso;omega)
    refine ez 0 (.int .i32 65533) [] [] lq ?_;rw[L];exact⟨rfl,rfl⟩
  .
   refine(ra 14 [] [3] [4]) ?_;intro _;have L:gi x y=65533:=by unfold gi;simp only[decide_eq_true_eq,decide_eq_false_iff_not]at G H;(repeat' split)<;>first|rfl|(exfalso;omega)
   refine ez 0 (.int .i32 65533) [] [] lq ?_;rw[L];exact⟨rfl,rfl⟩
 .
  refine(ra 18 [] [3] [4]) ?_;intro _;have L:gi x y=65533:=by unfold gi;simp only[decide_eq_true_eq,decide_eq_false_iff_not]at G;(repeat' split)<;>first|rfl|(exfalso;omega)
  refine ez 0 (.int .i32 65533) [] [] lq ?_;rw[L];exact⟨rfl,rfl⟩
theorem DY: ∀aa(s:ao),s.size<=1099511627776->Sp 172 [vs s] [] aa (λ r M' _=>r=.tuple #[.int .i32 (dZ (al s 0) 0 0).1,vi (dZ (al s 0) 0 0).2.1,vb (dZ (al s 0) 0 0).2.2]/\M'=[]):=by
 intro aa s dB;refine aW Tryz.func172 λ F=>(ra 11 [] [1,0,0,0,0] [0,2,3]) λ _=>(wz (ι:=Nat×Int×au) (λ i=>s.size-i.1) (λ i=>i.2.2) [0] (λ i=>[(2,.int .i32 i.2.1),(3,vi i.1)]) (λ i c=>c) (λ i=>i.1<=s.size/\dZ (al s i.1) i.1 i.2.1=dZ (al s 0) 0 0/\au.le aa i.2.2) (0,0,aa) ⟨HD _,rfl,lq⟩) ?_;rintro⟨i,v,bd⟩ ⟨hi,hinv,ae⟩ af;dsimp only at hi hinv ae;refine(rv 6 [] 0 [5] [0,2,3,11])<|(iz 11 (decide ((i:Int)<s.size))) (λ G=>?_) (λ G=>?_);refine(rv 4 [] 2 [1] [0,2,3,14])<|(iz 14 (decide ((i:Int)<=8))) (λ H=>?_) (λ H=>?_);refine(rv 8 [] 2 [1,0,0,0,2] [0,2,3,15,16])<|(e5 (.index 9 (.tmp 15) (.tmp 16)) [vs s,vi i] (v:=(.int .u8 (bt s (i:Int)))) (aS kr om (by simp only[decide_eq_true_eq]at G;omega)))<|(rv 2 [] 2 [1] [0,2,3,18])<|(iz 18 ((bt s (i:Int))==125)) (λ S=>?_) (λ S=>?_);refine rZ 13 [] [1,0,0,1,0,0,1,0,1,0,3] (λ _=>[(2,.int .i32 v),(3,vi (aj ((i:Int)+1))),(23,vb ((aj ((i:Int)+1))==1))]) (λ _=>F) ?_;intro _;rw[wn (i+1) (i+1)];refine it 23 ((((i+1:Nat):Int))==1) (λ Y=>?_) (λ Y=>?_);refine zg<|(rv 13 [] 2 [1,0,1] [2,3,4]) ?_;have V:dZ (al s i) i v=(0,((i+1:Nat):Int),false):=by rw[aE (by simp only[decide_eq_true_eq]at G;omega),dZ,if_pos (by simp only[decide_eq_true_eq]at H;omega)];(try rw[bO]at S);simp only[beq_iff_eq,beq_eq_false_iff_ne,ne_eq]at S;rw[if_pos S];clear af hinv;by_cases b:i=0<;>(first|omega|simp_all)<;>omega
 refine ez 0 (.tuple #[.int .i32 0,vi ((i+1:Nat):Int),vb false]) [] [] ae ?_;rw[<-hinv,V];exact⟨rfl,rfl⟩;refine zg<|(rv 1 [] 1 [4] [2,3,23,24])<|(cR [] (c193 _ v)) λ k1 m1=>(rv 3 [] 2 [1] [2,3,27])<|(eL 27 (Lib.validRune v)) (λ aI=>?_) (λ aI=>?_);refine(rv 8 [] 0 [0,1] [2,3,4]) ?_;have V:dZ (al s i) i v=(0,((i+1:Nat):Int),false):=by rw[aE (by simp only[decide_eq_true_eq]at G;omega),dZ,if_pos (by simp only[decide_eq_true_eq]at H;omega)];(try rw[bO]at S);simp only[beq_iff_eq,beq_eq_false_iff_ne,ne_eq]at S;rw[if_pos S];clear af hinv;by_cases b:i=0<;>(first|omega|simp_all)<;>omega
 refine ez 0 (.tuple #[.int .i32 0,vi ((i+1:Nat):Int),vb false]) [] [] (ae.trans m1) ?_;rw[<-hinv,V];exact⟨rfl,rfl⟩;refine(rv 10 [] 2 [3] [2,3,4]) ?_;have V:dZ (al s i) i v=(v,((i+1:Nat):Int),true):=by rw[aE (by simp only[decide_eq_true_eq]at G;omega),dZ,if_pos (by simp only[decide_eq_true_eq]at H;omega)];(try rw[bO]at S);simp only[beq_iff_eq,beq_eq_false_iff_ne,ne_eq]at S;rw[if_pos S];clear af hinv;by_cases b:i=0<;>(first|omega|simp_all)<;>omega
 refine ez 0 (.tuple #[.int .i32 v,vi ((i+1:Nat):Int),vb true]) [] [] (ae.trans m1) ?_;rw[<-hinv,V];exact⟨rfl,rfl⟩;refine(rv 6 [] 2 [1,2] [0,2,3,32,33])<|(e5 (.index 9 (.tmp 32) (.tmp 33)) [vs s,vi i] (v:=(.int .u8 (bt s (i:Int)))) (aS kr om (by simp only[decide_eq_true_eq]at G;omega))) ?_;have a:=c194 bd (bt s (i:Int));rw[bO]at a⊢;cases L:eZ ((bb s i).toNat:Int)with
 |none=>
  rw[L]at a;refine(cR [] (a)) λ k1 m1=>(rv 20 [] 2 [2,1,0,1] [2,3,4]) ?_;have V:dZ (al s i) i v=(0,(i:Int),false):=by rw[aE (by simp only[decide_eq_true_eq]at G;omega),dZ,if_pos (by simp only[decide_eq_true_eq]at H;omega)];(try rw[bO]at S);simp only[beq_iff_eq,beq_eq_false_iff_ne,ne_eq]at S;rw[if_neg S,L]
  refine ez 0 (.tuple #[.int .i32 0,vi i,vb false]) [] [] (ae.trans m1) ?_;rw[<-hinv,V];exact⟨rfl,rfl⟩
 |some d=>
  rw[L]at a;refine(cR [] (a)) λ k1 m1=>(rv 31 [] 4 [0,0] [0,2,3])<|(sv 3 (wn (i+1) (i+1))) ?_;have I:i<s.size:=by simp only[decide_eq_true_eq]at G;omega
  have ak:dZ (al s i) i v=dZ (al s (i+1)) (i+1) (pD (HK .i32 (v*2^4)) d):=by rw[aE I,dZ];rw[bO]at S;simp only[decide_eq_true_eq,beq_eq_false_iff_ne,ne_eq]at H S;rw[if_pos om,if_neg S,L]
  exact lz (af (i+1,pD (HK .i32 (v*2^4)) d,k1) ⟨dm,by dsimp only;rw[<-hinv,ak],(ae.trans m1)⟩ dm)
 refine(ra 9 [] [3] [2,3,4]) ?_;intro _;have V:dZ (al s i) i v=(0,(i:Int),false):=by rw[aE (by simp only[decide_eq_true_eq]at G;omega),dZ,if_neg (by simp only[decide_eq_false_iff_not]at H;omega)]
 refine ez 0 (.tuple #[.int .i32 0,vi i,vb false]) [] [] ae ?_;rw[<-hinv,V];exact⟨rfl,rfl⟩;refine(ra 13 [] [3] [2,3,4]) ?_;intro _;have V:dZ (al s i) i v=(0,(i:Int),false):=by rw[cA (by simp only[decide_eq_false_iff_not]at G;omega),dZ]
 refine ez 0 (.tuple #[.int .i32 0,vi i,vb false]) [] [] ae ?_;rw[<-hinv,V];exact⟨rfl,rfl⟩
def bu(pat l:List UInt8)(i:Nat):Int:=
 if pat.length<=l.length then
  if l.take pat.length=pat then(i:Int)else match l with
   |[]=> -1
   |_::l=>bu pat l (i+1)
 else-1
theorem find_eq{s t:ao}{i}:ay (s.extract i (i+t.size)) t=true<->(al s i).take t.data.toList.length=t.data.toList:=by
 have hl:t.data.toList.length=t.size:=by simp
 have he:(s.extract i (i+t.size)).data.toList=(al s i).take t.size:=by
  unfold al;rw[Ii,Ij];simp[List.extract]
 unfold ay;rw[beq_iff_eq,Ix,Ix,he,hl]
theorem c213: ∀aa(s t:ao),s.size<=1099511627776->t.size<=1099511627776->Sp 213 [vs s,vs t] [] aa (λ r M' _=>r=vi (bu t.data.toList (al s 0) 0)/\M'=[]):=by
 intro aa s t aJ B;refine aW Tryz.func213 λ F=>(ra 13 [] [1,1,0,0,0,0] [0,1,5]) λ _=>(wz (ι:=Nat×au) (λ i=>s.size-i.1) (λ i=>i.2) [0,1] (λ i=>[(5,vi i.1)]) (λ i c=>c) (λ i=>i.1<=s.size/\bu t.data.toList (al s i.1) i.1=bu t.data.toList (al s 0) 0/\au.le aa i.2) (0,aa) ⟨HD _,rfl,lq⟩) ?_;rintro⟨i,bd⟩ ⟨hi,hinv,ae⟩ af;dsimp only at hi hinv ae;refine rZ 9 [] [1,1,0,0,0,1] (λ _=>[(0,vs s),(1,vs t),(5,vi i),(12,vb (decide ((aj ((i:Int)+(t.size:Int)))<=(s.size:Int))))]) (λ _=>F) ?_;intro _;rw[wn (i+t.size) (i+t.size)];refine it 12 (decide ((((i+t.size:Nat):Int))<=(s.size:Int))) (λ G=>?_) (λ G=>?_);have I:i+t.size<=s.size:=by simp only[decide_eq_true_eq]at G;omega
 refine zg<|(rv 12 [] 2 [1,0,0,6] [0,1,5,15,16,20])<|(sv 20 (wn (i+t.size) (i+t.size)))<|(e5 (.slice 9 (.tmp 15) (some (.tmp 16)) (some (.tmp 20)) none) [vs s,vi i,vi ((i+t.size:Nat):Int)] (v:=(vs (s.extract i (i+t.size)))) (g' kr om I))<|(rv 3 [] 2 [1] [0,1,5,23])<|(iz 23 (ay (s.extract i (i+t.size)) t)) (λ H=>?_) (λ H=>?_);refine(rv 6 [] 0 [0,1] [4]) ?_;have V:bu t.data.toList (al s 0) 0=(i:Int):=by rw[<-hinv,bu.eq_def,if_pos (by rw[aP];simp;omega),if_pos (find_eq.1 H)]
 refine ez 0 (vi i) [] [] ae ?_;rw[V];exact⟨rfl,rfl⟩;refine rZ 11 [] [1,1,0,0,0,0] (λ _=>[(0,vs s),(1,vs t),(5,vi (aj ((i:Int)+1)))]) (λ _=>F) ?_;intro _;rw[wn (i+1) (i+1)];have ah: ¬(al s i).take t.data.toList.length=t.data.toList:=λ L=>by rw[find_eq.2 L]at H;cases H
 by_cases m:i<s.size;exact zg (lz (af (i+1,bd) ⟨dm,by dsimp only;rw[<-hinv];conv=>{rhs;rw[bu.eq_def,if_pos (by rw[aP];simp;omega),if_neg ah,aE m]},ae⟩ dm));exfalso;apply ah;rw[cA m];have:t.data.toList.length=0:=by rw[Ih];show t.size=0;omega
 rw[HI this];rfl;refine zg<|(ra 6 [] [3] [4]) ?_;intro _;have V:bu t.data.toList (al s 0) 0= -1:=by rw[<-hinv,bu.eq_def,if_neg (by rw[aP];simp at G⊢;omega)]
 refine ez 0 (vi (-1)) [] [] ae ?_;rw[V];exact⟨rfl,rfl⟩
theorem Df: ∀aa(s t:ao),s.size<=1099511627776->t.size<=1099511627776->Sp 297 [vs s,vs t] [] aa (λ r M' _=>r=vi (bu t.data.toList (al s 0) 0)/\M'=[]):=by
 intro aa s t aJ B;refine aW Tryz.func297 λ F=>(ra 13 [] [1,1,0,0,0,0] [0,1,5]) λ _=>(wz (ι:=Nat×au) (λ i=>s.size-i.1) (λ i=>i.2) [0,1] (λ i=>[(5,vi i.1)]) (λ i c=>c) (λ i=>i.1<=s.size/\bu t.data.toList (al s i.1) i.1=bu t.data.toList (al s 0) 0/\au.le aa i.2) (0,aa) ⟨HD _,rfl,lq⟩) ?_;rintro⟨i,bd⟩ ⟨hi,hinv,ae⟩ af;dsimp only at hi hinv ae;refine rZ 9 [] [1,1,0,0,0,1] (λ _=>[(0,vs s),(1,vs t),(5,vi i),(12,vb (decide ((aj ((i:Int)+(t.size:Int)))<=(s.size:Int))))]) (λ _=>F) ?_;intro _;rw[wn (i+t.size) (i+t.size)];refine it 12 (decide ((((i+t.size:Nat):Int))<=(s.size:Int))) (λ G=>?_) (λ G=>?_);have I:i+t.size<=s.size:=by simp only[decide_eq_true_eq]at G;omega
 refine zg<|(rv 12 [] 2 [1,0,0,6] [0,1,5,15,16,20])<|(sv 20 (wn (i+t.size) (i+t.size)))<|(e5 (.slice 9 (.tmp 15) (some (.tmp 16)) (some (.tmp 20)) none) [vs s,vi i,vi ((i+t.size:Nat):Int)] (v:=(vs (s.extract i (i+t.size)))) (g' kr om I))<|(rv 3 [] 2 [1] [0,1,5,23])<|(iz 23 (ay (s.extract i (i+t.size)) t)) (λ H=>?_) (λ H=>?_);refine(rv 6 [] 0 [0,1] [4]) ?_;have V:bu t.data.toList (al s 0) 0=(i:Int):=by rw[<-hinv,bu.eq_def,if_pos (by rw[aP];simp;omega),if_pos (find_eq.1 H)]
 refine ez 0 (vi i) [] [] ae ?_;rw[V];exact⟨rfl,rfl⟩;refine rZ 11 [] [1,1,0,0,0,0] (λ _=>[(0,vs s),(1,vs t),(5,vi (aj ((i:Int)+1)))]) (λ _=>F) ?_;intro _;rw[wn (i+1) (i+1)];have ah: ¬(al s i).take t.data.toList.length=t.data.toList:=λ L=>by rw[find_eq.2 L]at H;cases H
 by_cases m:i<s.size;exact zg (lz (af (i+1,bd) ⟨dm,by dsimp only;rw[<-hinv];conv=>{rhs;rw[bu.eq_def,if_pos (by rw[aP];simp;omega),if_neg ah,aE m]},ae⟩ dm));exfalso;apply ah;rw[cA m];have:t.data.toList.length=0:=by rw[Ih];show t.size=0;omega
 rw[HI this];rfl;refine zg<|(ra 6 [] [3] [4]) ?_;intro _;have V:bu t.data.toList (al s 0) 0= -1:=by rw[<-hinv,bu.eq_def,if_neg (by rw[aP];simp at G⊢;omega)]
 refine ez 0 (vi (-1)) [] [] ae ?_;rw[V];exact⟨rfl,rfl⟩
end
section
variable[OO]
omit [OO]in
theorem iq: ∀{l pat:List UInt8}{i:Nat},0<=bu pat l i->(i:Int)<=bu pat l i/\bu pat l i-i+pat.length<=l.length:=by
 intro l;induction l with
 |nil=>
  intro pat i h;rw[bu.eq_def]at h⊢;split at h;rename_i G;rw[if_pos G];split at h;rename_i H;rw[if_pos H];simp at G⊢;omega;simp at h;simp at h
 |cons x l af=>
  intro pat i h;rw[bu.eq_def]at h⊢;split at h;rename_i G;rw[if_pos G];split at h;rename_i H;rw[if_pos H];simp at G⊢;omega;rename_i H;rw[if_neg H];have:=af h;simp at this⊢;omega;simp at h
def gv(sep l:List UInt8):List (List UInt8):=
 if h:0<sep.length/\0<=bu sep l 0 then l.take (bu sep l 0).toNat::gv sep (l.drop ((bu sep l 0).toNat+sep.length))else[l]
termination_by l.length
decreasing_by
 have:=iq h.2;rw[Ia];have:=h.1;omega
def cJ(t s:ao):List ao:=(gv t.data.toList s.data.toList).map λ l=>⟨l.toArray⟩
theorem iA s:al s 0=s.data.toList:=rfl
theorem jh{t s}(h:bu t.data.toList s.data.toList 0<0):cJ t s=[s]:=by
 unfold cJ;rw[gv,dif_neg (λ L=>by omega)];simp
theorem lX{t s}{i:Nat}(B:0<t.size)(h:bu t.data.toList s.data.toList 0=(i:Int)):cJ t s=s.extract 0 i::cJ t (s.extract (i+t.size) s.size):=by
 have hl:t.data.toList.length=t.size:=by simp
 unfold cJ;rw[gv,dif_pos ⟨om,om⟩,h,HF];have aw:(s.extract (i+t.size) s.size).data.toList=s.data.toList.drop (i+t.size):=by
  rw[Ii,Ij];simp[List.extract];rw[Ir];simp
 have az:(⟨(s.data.toList.take (i:Int).toNat).toArray⟩:ao)=s.extract 0 i:=by
  apply ByteArray.ext;apply Array.ext';rw[Ii,Ij];simp[List.extract]
 rw[aw,az,hl];rfl
theorem hj{aa}{E n c}{A}{l:List ByteArray}(O:n=l.length)(h:wb aa E n c A (l.map vs)):ad aa (cW l) [vl A n c]:=by
 have:=bQ (aa:=aa) (E:=E) (n:=n) (c:=c) (A:=A) O (by simpa using h);simpa using this
theorem Cx: ∀aa(s t:ao),s.size<=68719476736->t.size<=68719476736->0<t.size->Sp 188 [vs s,vs t] [] aa (λ r M' _=> ∃A c,r=vl A (cJ t s).length c/\M'=[own 9 1 (vl A (cJ t s).length c) (cJ t s).length ((cJ t s).map vs)]):=by
 intro aa s0 t d B a;refine aW Tryz.func188 λ F=>(ra 10 [] [2,0,0] [0,1,5]) λ _=>nz 9 1 ?_;refine(wz (ι:=List ao×Option Addr×Nat×ao×au) (λ i=>i.2.2.2.1.size) (λ i=>i.2.2.2.2) [1] (λ i=>[(0,vs i.2.2.2.1),(5,vl i.2.1 i.1.length i.2.2.1)]) (λ i c=>sC 0 (own 9 1 (vl i.2.1 i.1.length i.2.2.1) i.1.length (i.1.map vs)) c) (λ i=>i.1++cJ t i.2.2.2.1=cJ t s0/\i.1.length+i.2.2.2.1.size<=s0.size/\au.le aa i.2.2.2.2) ([],none,0,s0,aa) ⟨rfl,by simp,lq⟩) ?_;rintro⟨L,A,c,s,bd⟩ ⟨hinv,hlen,ae⟩ af;dsimp only at hinv hlen ae;refine rZ 5 [] [2,0,0,0,0,2] (λ _=>[(0,vs s),(1,vs t),(5,vl A L.length c),(7,vs s),(8,vs t)]) (λ _=>own 9 1 (vl A L.length c) L.length (L.map vs)::F) λ _=>cl 213 [vs s,vs t] (some 9) [2,0,0,0,0,3] [] (c213 bd s t om om) rfl ?_;rintro _ _ ak P ⟨rfl,rfl⟩;rw[iA];refine rn 8 [] [2,0,0,0,1,1] (λ _=>[(0,vs s),(1,vs t),(5,vl A L.length c),(6,vi (bu t.data.toList s.data.toList 0)),(11,vb (decide ((bu t.data.toList s.data.toList 0)<0)))]) (λ _=>own 9 1 (vl A L.length c) L.length (L.map vs)::F) λ _=>it 11 (decide ((bu t.data.toList s.data.toList 0)<0)) (λ G=>?_) (λ G=>?_);have I:bu t.data.toList s.data.toList 0<0:=by simpa using G
 refine zg<|(fj 6 [] 0 [0,0,3] [12,14]) λ b4=>(az cY L.length 1 (L.map vs) [vs s] [1,0]) λ E c2=>(rv 2 [] 2 [1] [4]) ?_;have he:cJ t s0=L++[s]:=by rw[<-hinv,jh I]
 refine ez 0 (vl E (L.length+1) c2) [own 9 1 (vl E (L.length+1) c2) (L.length+1) ((L.map vs)++[vs s])] [] lq ?_;rw[he];exact⟨E,c2,by simp,by simp⟩;have aO:0<=bu t.data.toList s.data.toList 0:=by simpa using G
 obtain⟨i,hi⟩:=Iy aO;have hb:=iq (l:=s.data.toList) (pat:=t.data.toList) (i:=0) aO;rw[hi,Ih,Ih]at hb;have x:i+t.size<=s.size:=by have S:s.data.size=s.size:=rfl;have Y:t.data.size=t.size:=rfl;omega
 rw[hi];refine zg<|(rv 7 [] 2 [2,3] [0,1,6,16,17,18])<|(e5 (.slice 9 (.tmp 17) none (some (.tmp 18)) none) [vs s,vi i] (v:=(vs (s.extract 0 i))) (qw kr om))<|(fj 1 [] 1 [5] [0,1,6,16,20]) λ e=>(az cY L.length 1 (L.map vs) [vs (s.extract 0 i)] [1,0]) λ E c2=>(rv 8 [] 2 [3,5] [1,5,22,26])<|(sv 26 (wn (i+t.size) (i+t.size)))<|(e5 (.slice 9 (.tmp 22) (some (.tmp 26)) none none) [vs s,vi ((i+t.size:Nat):Int)] (v:=(vs (s.extract (i+t.size) s.size))) (j_ kr x)) ?_;refine rZ 4 [] [2,0,0] (λ _=>[(0,vs (s.extract (i+t.size) s.size)),(1,vs t),(5,vl E (L.length+1) c2)]) (λ _=>own 9 1 (vl E (L.length+1) c2) (L.length+1) ((L.map vs)++[vs (s.extract 0 i)])::F) ?_;intro _;rw[show(L.length+1)=(L++[s.extract 0 i]).length from by simp];rw[show L.map vs++[vs (s.extract 0 i)]=(L++[s.extract 0 i]).map vs from by simp];exact zg (lz (af (L++[s.extract 0 i],E,c2,s.extract (i+t.size) s.size,ak) ⟨by dsimp only;rw[<-hinv,lX a hi];simp,by simp;omega,lq⟩ so))
theorem EL: ∀aa(s t:ao),s.size<=68719476736->t.size<=68719476736->0<t.size->Sp 283 [vs s,vs t] [] aa (λ r M' C=>M'=[]/\ ∃A n c,r=vl A n c/\ad C (cW (cJ t s)) [vl A n c]):=by
 intro aa s0 t d B a;refine aW Tryz.func283 λ F=>(ra 10 [] [2,0,0] [0,1,5]) λ _=>nz 9 1 ?_;refine(wz (ι:=List ao×Option Addr×Nat×ao×au) (λ i=>i.2.2.2.1.size) (λ i=>i.2.2.2.2) [1] (λ i=>[(0,vs i.2.2.2.1),(5,vl i.2.1 i.1.length i.2.2.1)]) (λ i c=>sC 0 (own 9 1 (vl i.2.1 i.1.length i.2.2.1) i.1.length (i.1.map vs)) c) (λ i=>i.1++cJ t i.2.2.2.1=cJ t s0/\i.1.length+i.2.2.2.1.size<=s0.size/\au.le aa i.2.2.2.2) ([],none,0,s0,aa) ⟨rfl,by simp,lq⟩) ?_;rintro⟨L,A,c,s,bd⟩ ⟨hinv,hlen,ae⟩ af;dsimp only at hinv hlen ae;refine rZ 5 [] [2,0,0,0,0,2] (λ _=>[(0,vs s),(1,vs t),(5,vl A L.length c),(7,vs s),(8,vs t)]) (λ _=>own 9 1 (vl A L.length c) L.length (L.map vs)::F) λ _=>cl 297 [vs s,vs t] (some 9) [2,0,0,0,0,3] [] (Df bd s t om om) rfl ?_;rintro _ _ ak P ⟨rfl,rfl⟩;rw[iA];refine rn 8 [] [2,0,0,0,1,1] (λ _=>[(0,vs s),(1,vs t),(5,vl A L.length c),(6,vi (bu t.data.toList s.data.toList 0)),(11,vb (decide ((bu t.data.toList s.data.toList 0)<0)))]) (λ _=>own 9 1 (vl A L.length c) L.length (L.map vs)::F) λ _=>it 11 (decide ((bu t.data.toList s.data.toList 0)<0)) (λ G=>?_) (λ G=>?_);have I:bu t.data.toList s.data.toList 0<0:=by simpa using G
 refine zg<|(fj 6 [] 0 [0,0,3] [12,14]) λ b4=>(az cY L.length 1 (L.map vs) [vs s] [1,0]) λ E c2=>(rv 2 [] 2 [1] [4])<|(fo 0 9 1 E (L.length+1) c2 ((L.map vs)++[vs s])) ?_;intro aB aA hf;exact ez 0 (vl E (L.length+1) c2) [] [] lq ⟨rfl,E,_,c2,rfl,by rw[<-hinv,jh I];exact hj sm (by simpa using hf)⟩;have aO:0<=bu t.data.toList s.data.toList 0:=by simpa using G
 obtain⟨i,hi⟩:=Iy aO;have hb:=iq (l:=s.data.toList) (pat:=t.data.toList) (i:=0) aO;rw[hi,Ih,Ih]at hb;have x:i+t.size<=s.size:=by have S:s.data.size=s.size:=rfl;have Y:t.data.size=t.size:=rfl;omega
 rw[hi];refine zg<|(rv 7 [] 2 [2,3] [0,1,6,16,17,18])<|(e5 (.slice 9 (.tmp 17) none (some (.tmp 18)) none) [vs s,vi i] (v:=(vs (s.extract 0 i))) (qw kr om))<|(fj 1 [] 1 [5] [0,1,6,16,20]) λ e=>(az cY L.length 1 (L.map vs) [vs (s.extract 0 i)] [1,0]) λ E c2=>(rv 8 [] 2 [3,5] [1,5,22,26])<|(sv 26 (wn (i+t.size) (i+t.size)))<|(e5 (.slice 9 (.tmp 22) (some (.tmp 26)) none none) [vs s,vi ((i+t.size:Nat):Int)] (v:=(vs (s.extract (i+t.size) s.size))) (j_ kr x)) ?_;refine rZ 4 [] [2,0,0] (λ _=>[(0,vs (s.extract (i+t.size) s.size)),(1,vs t),(5,vl E (L.length+1) c2)]) (λ _=>own 9 1 (vl E (L.length+1) c2) (L.length+1) ((L.map vs)++[vs (s.extract 0 i)])::F) ?_;intro _;rw[show(L.length+1)=(L++[s.extract 0 i]).length from by simp];rw[show L.map vs++[vs (s.extract 0 i)]=(L++[s.extract 0 i]).map vs from by simp];exact zg (lz (af (L++[s.extract 0 i],E,c2,s.extract (i+t.size) s.size,ak) ⟨by dsimp only;rw[<-hinv,lX a hi];simp,by simp;omega,lq⟩ so))
end
section
variable[OO]
def j6(r:Nat):Prop:=(48<=r/\r<=57)\/(65<=r/\r<=90)\/(97<=r/\r<=122)\/r=95
instance(r:Nat):Decidable (j6 r):=by unfold j6;infer_instance
def dj(x:UInt8):Bool:=decide (j6 x.toNat)
def yy(r:Nat):Prop:=31<r\/r=9
instance(r:Nat):Decidable (yy r):=by unfold yy;infer_instance
def gX(x:UInt8):Bool:=decide (yy x.toNat)
theorem ek{x}{l}(h:x.toNat<128):hD (x::l)=(x.toNat,1):=by
 unfold hD;rw[if_neg sm];simp[Lib.decodeN,h]
theorem jC{x}{l}{R W}(h:128<=x.toNat)(hd:hD (x::l)=(R,W)):128<=R/\1<=W/\W<=l.length+1/\ ∀i,1<=i->i<W->128<=(l.getD (i-1) 0).toNat:=by
 unfold hD at hd;rw[if_neg sm]at hd;have g0:(x::l).getD 0 0=x:=rfl;have g1:(x::l).getD 1 0=l.getD 0 0:=rfl;have g2:(x::l).getD 2 0=l.getD 1 0:=rfl;have g3:(x::l).getD 3 0=l.getD 2 0:=rfl;rw[g0,g1,g2,g3,Iz]at hd;unfold Lib.decodeN at hd;rw[if_neg om]at hd;have key: ∀i,1<=i->i<W->(i=1->128<=(l.getD 0 0).toNat)->(i=2->128<=(l.getD 1 0).toNat)->(i=3->128<=(l.getD 2 0).toNat)->i<=3->128<=(l.getD (i-1) 0).toNat:=by
  intro i G _ k1 k2 k3 Y
  match i,G,Y with
  |1,_,_=>exact k1 rfl
  |2,_,_=>exact k2 rfl
  |3,_,_=>exact k3 rfl
 repeat' split at hd
 all_goals
  rw[He]at hd;refine⟨om,om,om,λ i G H=>key i G H (λ _=>by omega) (λ _=>by omega) (λ _=>by omega) om⟩
theorem ej{s}{e R W}(h:e<s.size)(hd:hD (al s e)=(R,W))(hR:j6 R):W=1/\(al s e).dropWhile dj=(al s (e+1)).dropWhile dj:=by
 rw[aE h]at hd⊢;have L:(bb s e).toNat<128:=by
  rcases Hh (bb s e).toNat 128 with G|G
  exact G;have:=jC G hd;unfold j6 at hR;omega
 rw[ek L,He]at hd;refine⟨om,?_⟩;rw[Ik];simp only[dj,decide_eq_true_eq];rw[hd.1];exact hR
theorem hX{s}{e R W}(h:e<s.size)(hd:hD (al s e)=(R,W))(hR: ¬j6 R):(al s e).dropWhile dj=al s e:=by
 rw[aE h]at hd⊢;rw[Il];simp only[dj,decide_eq_true_eq];rcases Hh (bb s e).toNat 128 with G|G
 rw[ek G,He]at hd;rw[hd.1];exact hR;unfold j6;omega
theorem k7: ∀n(l:List UInt8),n<=l.length->(∀i,i<n->128<=(l.getD i 0).toNat)->l.dropWhile gX=(l.drop n).dropWhile gX
 |0,_,_,_=>rfl
 |n+1,[],h,_=>by simp at h
 |n+1,x::l,h,hh=>by
  have N:=hh 0 om;have L:gX x=true:=decide_eq_true (Or.inl (by have G:128<=x.toNat:=N;omega));rw[Ik L,List.drop_succ_cons];exact k7 n l (by simpa using h) λ i hi=>by simpa using hh (i+1) om
theorem uD{s}{e R W}(h:e<s.size)(hd:hD (al s e)=(R,W))(hR:yy R):1<=W/\e+W<=s.size/\(al s e).dropWhile gX=(al s (e+W)).dropWhile gX:=by
 rw[aE h]at hd;rcases Hh (bb s e).toNat 128 with G|G
 rw[ek G,He]at hd;obtain⟨H,rfl⟩:=hd;refine⟨HZ _,om,?_⟩;rw[aE h,Ik];simp only[gX,decide_eq_true_eq];rw[H];exact hR;obtain⟨_,H,S,Y⟩:=jC G hd;rw[aP]at S;refine⟨H,om,?_⟩;rw[<-dw,k7 W (al s e) (by rw[aP];omega)];intro i hi;rw[aE h];cases i with
 |zero=>simpa using G
 |succ i=>simpa using Y (i+1) om hi
theorem yz{s}{e R W}(h:e<s.size)(hd:hD (al s e)=(R,W))(hR: ¬yy R):(al s e).dropWhile gX=al s e:=by
 rw[aE h]at hd⊢;rw[Il];simp only[gX,decide_eq_true_eq];rcases Hh (bb s e).toNat 128 with G|G
 rw[ek G,He]at hd;rw[hd.1];exact hR;have:=(jC G hd).1;unfold yy at hR;omega
theorem e8{s}{e R W}(h:e<s.size)(hd:hD (al s e)=(R,W)):e+W<=s.size:=by
 rw[aE h]at hd;rcases Hh (bb s e).toNat 128 with G|G
 rw[ek G,He]at hd;omega;have:=(jC G hd).2.2.1;rw[aP]at this;omega
theorem c162: ∀aa p s a b c ln l0 e d ar T fz(nm ab:ao)bi R W,d.length=22->U8 aa->aa s=some (.cells ar T fz)->(∀(j:Nat)u,([vs nm,vs ab,vb bi]:List Value)[j]?=some u->ar[j]?=some u)->e<=ab.size->hD (al ab e)=(R,W)->
 Sp 162 [vp p 0] [aX p s a b (e:Int) c ln l0 d] aa (λ r M' _=>r=.tuple #[.int .i32 (R:Int),vi W]/\M'=[aX p s a b (e:Int) c ln l0 d]):=by
 intro aa p s a b c ln l0 e d ar T fz nm ab bi R W f an hg J he hd;refine aW Tryz.func162 λ F=>?_
 refine(eW hg J)<|(ra 6 [] [1] [0]) λ _=>(qz)<|(kz [0,11] [1,100,1] [10,14])<|(nS 11 (.slice 9 (.tmp 10) (some (.tmp 14)) none none) [vs ab,vi e] (v:=(vs (ab.extract e ab.size))) (j_ kr he)) ?_;have aP:Lib.decodeGo (ab.extract e ab.size)=(R,W):=by rw[fw,iD,hd]
 have au:=wK aa an (ab.extract e ab.size);rw[aP]at au;refine(bj [] (au)) λ|_,_,ak,P,⟨rfl,rfl⟩=>(aG [])<|(kz [13,2] [] [17,18])<|(uz 0 [] [2,18]) λ _=>(uz 0 [] [2,3]) λ _=>(bL)<|ez 0 (.tuple #[.int .i32 (R:Int),vi W]) [aX p s a b (e:Int) c ln l0 d] [0] P ⟨rfl,rfl⟩
theorem Fg: ∀aa p s b c0 ln l0 a e0 d ar T fz(nm ab:ao)bi,d.length=22->U8 aa->aa s=some (.cells ar T fz)->(∀(j:Nat)u,([vs nm,vs ab,vb bi]:List Value)[j]?=some u->ar[j]?=some u)->a<=e0->e0<=ab.size->ab.size<=1099511627776->
 Sp 142 [vp p 0] [aX p s (a:Int) b (e0:Int) c0 ln l0 d] aa (λ r M' _=>RT p s ab d (some (16,ab.extract a (ab.size-((al ab e0).dropWhile dj).length),(al ab e0).dropWhile dj)) r M'):=by
 intro aa p s b c0 ln l0 a e0 d ar T fz nm ab bi f an hg J N t dB;refine aW Tryz.func142 λ F=>(ra 10 [] [1,0,0,0,0] [0,2]) λ b1=>(wz (ι:=Nat×Int×au) (λ i=>ab.size-i.1) (λ i=>i.2.2) [0,2] (λ i=>[]) (λ i c=>sV 1 4 (vi i.2.1) (sV 1 3 (vi i.1) c)) (λ i=>e0<=i.1/\i.1<=ab.size/\(al ab i.1).dropWhile dj=(al ab e0).dropWhile dj/\au.le aa i.2.2) (e0,c0,aa) ⟨HZ _,t,rfl,lq⟩) ?_;rintro⟨e,c,bd⟩ ⟨hle,g,hinv,ae⟩ af;dsimp only at hle g hinv ae;refine(eW (ae _ _ hg) J)<|(qz)<|(kf [0,13] [2,2,100] [0,2,18])<|(iz 18 (decide ((e:Int)<ab.size))) (λ G=>?_) (λ G=>?_);refine(rv 6 [] 3 [1,0,0,1] [0,2,20]) ?_;have I:e<ab.size:=by simp only[decide_eq_true_eq]at G;omega
 obtain⟨R,W,hd⟩: ∃R W,hD (al ab e)=(R,W):=⟨_,_,rfl⟩;refine(cR (args:=[vp p 0]) (M:=[aX p s (a:Int) b (e:Int) c ln l0 d]) [2] (c162 _ p s _ b c ln l0 e d ar T fz nm ab bi R W f (an.mono ae) (ae _ _ hg) J g hd)) λ ak P=>(rv 11 [] 2 [1,3] [0,2,4,5,26])<|(iz 26 (decide ((R:Int)>=48))) (λ H=>?_) (λ H=>?_);refine(rv 4 [] 1 [7] [0,2,4,5,30])<|(iz 30 (decide ((R:Int)<=57))) (λ S=>?_) (λ S=>?_);refine(rv 47 [0,0,0,0] 4 [0,0] [0,2]) ?_;have o:e+W<=ab.size:=by have:=e8 I hd;omega
 refine(sw 0 3 (wn (e+W) (e+W)))<|(dz [1])<|(oz [1,0]) ?_;obtain⟨rfl,h⟩:=ej I hd (by unfold j6;simp only[decide_eq_true_eq,decide_eq_false_iff_not,ge_iff_le,gt_iff_lt,beq_eq_false_iff_ne,ne_eq,beq_iff_eq]at G H S;omega);exact lz (af (e+1,aj (c+1),ak) ⟨dm,dm,h.symm.trans hinv,lq⟩ dm);refine(rv 3 [] 1 [10] [0,2,4,5,30,33])<|(iz 33 (decide ((R:Int)>=65))) (λ Y=>?_) (λ Y=>?_);refine(rv 5 [] 1 [15] [0,2,4,5,38])<|(iz 38 (decide ((R:Int)<=90))) (λ aI=>?_) (λ aI=>?_);refine(rv 39 [0,0,0,0] 4 [0,0] [0,2]) ?_;have o:e+W<=ab.size:=by have:=e8 I hd;omega
 refine(sw 0 3 (wn (e+W) (e+W)))<|(dz [1])<|(oz [1,0]) ?_;obtain⟨rfl,h⟩:=ej I hd (by unfold j6;simp only[decide_eq_true_eq,decide_eq_false_iff_not,ge_iff_le,gt_iff_lt,beq_eq_false_iff_ne,ne_eq,beq_iff_eq]at G H S Y aI;omega);exact lz (af (e+1,aj (c+1),ak) ⟨dm,dm,h.symm.trans hinv,lq⟩ dm);refine(rv 3 [] 1 [18] [0,2,4,5,38,41])<|(iz 41 (decide ((R:Int)>=97))) (λ h6=>?_) (λ h6=>?_);refine(rv 5 [] 1 [23] [0,2,4,5,46])<|(iz 46 (decide ((R:Int)<=122))) (λ aU=>?_) (λ aU=>?_);refine(rv 31 [0,0,0,0] 4 [0,0] [0,2]) ?_;have o:e+W<=ab.size:=by have:=e8 I hd;omega
 refine(sw 0 3 (wn (e+W) (e+W)))<|(dz [1])<|(oz [1,0]) ?_;obtain⟨rfl,h⟩:=ej I hd (by unfold j6;simp only[decide_eq_true_eq,decide_eq_false_iff_not,ge_iff_le,gt_iff_lt,beq_eq_false_iff_ne,ne_eq,beq_iff_eq]at G H S Y aI h6 aU;omega);exact lz (af (e+1,aj (c+1),ak) ⟨dm,dm,h.symm.trans hinv,lq⟩ dm);refine(rv 4 [] 2 [2] [0,2,5,49])<|(iz 49 ((R:Int)==95)) (λ h8=>?_) (λ h8=>?_);refine(rv 27 [0,0,0,0] 3 [0,0] [0,2]) ?_;have o:e+W<=ab.size:=by have:=e8 I hd;omega
 refine(sw 0 3 (wn (e+W) (e+W)))<|(dz [1])<|(oz [1,0]) ?_;obtain⟨rfl,h⟩:=ej I hd (by unfold j6;simp only[decide_eq_true_eq,decide_eq_false_iff_not,ge_iff_le,gt_iff_lt,beq_eq_false_iff_ne,ne_eq,beq_iff_eq]at G H S Y aI h6 aU h8;omega);exact lz (af (e+1,aj (c+1),ak) ⟨dm,dm,h.symm.trans hinv,lq⟩ dm);refine(ra 5 [] [2,1] [2,65]) ?_;intro _;have A:(al ab e).dropWhile dj=al ab e:=hX I hd (by unfold j6;simp only[decide_eq_true_eq,decide_eq_false_iff_not,ge_iff_le,gt_iff_lt,beq_eq_false_iff_ne,ne_eq,beq_iff_eq]at G H S Y aI h6 aU h8;omega);refine(cz [0] (c139 _ p s 16 a e b c ln l0 d ar T fz nm ab bi f ((ae.trans P) _ _ hg) J om g)) λ|_,_,Q,k,⟨rfl,q1,q2,q3,Z,rfl⟩=>(ra 5 [2] [3] [2,3]) ?_;intro _;have V:(al ab e0).dropWhile dj=al ab e:=by rw[<-hinv,A]
 refine ez 2 (hO 16 (ab.extract a e) q1 q2 q3 Z s) [aX p s (a:Int) b (e:Int) c ln l0 d] [1,1] ((lq).trans k) ?_;rw[V];exact⟨_,e,_,_,_,_,q1,q2,q3,Z,g,rfl,by simp only[aP];rw[show ab.size-(ab.size-e)=e from by omega],rfl⟩;refine(rv 9 [] 2 [2] [0,2,5,49])<|(iz 49 ((R:Int)==95)) (λ aU=>?_) (λ aU=>?_);refine(rv 27 [0,0,0,0] 3 [0,0] [0,2]) ?_;have o:e+W<=ab.size:=by have:=e8 I hd;omega
 refine(sw 0 3 (wn (e+W) (e+W)))<|(dz [1])<|(oz [1,0]) ?_;obtain⟨rfl,h⟩:=ej I hd (by unfold j6;simp only[decide_eq_true_eq,decide_eq_false_iff_not,ge_iff_le,gt_iff_lt,beq_eq_false_iff_ne,ne_eq,beq_iff_eq]at G H S Y aI h6 aU;omega);exact lz (af (e+1,aj (c+1),ak) ⟨dm,dm,h.symm.trans hinv,lq⟩ dm);refine(ra 5 [] [2,1] [2,65]) ?_;intro _;have A:(al ab e).dropWhile dj=al ab e:=hX I hd (by unfold j6;simp only[decide_eq_true_eq,decide_eq_false_iff_not,ge_iff_le,gt_iff_lt,beq_eq_false_iff_ne,ne_eq,beq_iff_eq]at G H S Y aI h6 aU;omega);refine(cz [0] (c139 _ p s 16 a e b c ln l0 d ar T fz nm ab bi f ((ae.trans P) _ _ hg) J om g)) λ|_,_,Q,k,⟨rfl,q1,q2,q3,Z,rfl⟩=>(ra 5 [2] [3] [2,3]) ?_;intro _;have V:(al ab e0).dropWhile dj=al ab e:=by rw[<-hinv,A]
 refine ez 2 (hO 16 (ab.extract a e) q1 q2 q3 Z s) [aX p s (a:Int) b (e:Int) c ln l0 d] [1,1] ((lq).trans k) ?_;rw[V];exact⟨_,e,_,_,_,_,q1,q2,q3,Z,g,rfl,by simp only[aP];rw[show ab.size-(ab.size-e)=e from by omega],rfl⟩;refine(rv 8 [] 1 [18] [0,2,4,5,38,41])<|(iz 41 (decide ((R:Int)>=97))) (λ aI=>?_) (λ aI=>?_);refine(rv 5 [] 1 [23] [0,2,4,5,46])<|(iz 46 (decide ((R:Int)<=122))) (λ h6=>?_) (λ h6=>?_);refine(rv 31 [0,0,0,0] 4 [0,0] [0,2]) ?_;have o:e+W<=ab.size:=by have:=e8 I hd;omega
 refine(sw 0 3 (wn (e+W) (e+W)))<|(dz [1])<|(oz [1,0]) ?_;obtain⟨rfl,h⟩:=ej I hd (by unfold j6;simp only[decide_eq_true_eq,decide_eq_false_iff_not,ge_iff_le,gt_iff_lt,beq_eq_false_iff_ne,ne_eq,beq_iff_eq]at G H S Y aI h6;omega);exact lz (af (e+1,aj (c+1),ak) ⟨dm,dm,h.symm.trans hinv,lq⟩ dm);refine(rv 4 [] 2 [2] [0,2,5,49])<|(iz 49 ((R:Int)==95)) (λ aU=>?_) (λ aU=>?_);refine(rv 27 [0,0,0,0] 3 [0,0] [0,2]) ?_;have o:e+W<=ab.size:=by have:=e8 I hd;omega
 refine(sw 0 3 (wn (e+W) (e+W)))<|(dz [1])<|(oz [1,0]) ?_;obtain⟨rfl,h⟩:=ej I hd (by unfold j6;simp only[decide_eq_true_eq,decide_eq_false_iff_not,ge_iff_le,gt_iff_lt,beq_eq_false_iff_ne,ne_eq,beq_iff_eq]at G H S Y aI h6 aU;omega);exact lz (af (e+1,aj (c+1),ak) ⟨dm,dm,h.symm.trans hinv,lq⟩ dm);refine(ra 5 [] [2,1] [2,65]) ?_;intro _;have A:(al ab e).dropWhile dj=al ab e:=hX I hd (by unfold j6;simp only[decide_eq_true_eq,decide_eq_false_iff_not,ge_iff_le,gt_iff_lt,beq_eq_false_iff_ne,ne_eq,beq_iff_eq]at G H S Y aI h6 aU;omega);refine(cz [0] (c139 _ p s 16 a e b c ln l0 d ar T fz nm ab bi f ((ae.trans P) _ _ hg) J om g)) λ|_,_,Q,k,⟨rfl,q1,q2,q3,Z,rfl⟩=>(ra 5 [2] [3] [2,3]) ?_;intro _;have V:(al ab e0).dropWhile dj=al ab e:=by rw[<-hinv,A]
 refine ez 2 (hO 16 (ab.extract a e) q1 q2 q3 Z s) [aX p s (a:Int) b (e:Int) c ln l0 d] [1,1] ((lq).trans k) ?_;rw[V];exact⟨_,e,_,_,_,_,q1,q2,q3,Z,g,rfl,by simp only[aP];rw[show ab.size-(ab.size-e)=e from by omega],rfl⟩;refine(rv 9 [] 2 [2] [0,2,5,49])<|(iz 49 ((R:Int)==95)) (λ h6=>?_) (λ h6=>?_);refine(rv 27 [0,0,0,0] 3 [0,0] [0,2]) ?_;have o:e+W<=ab.size:=by have:=e8 I hd;omega
 refine(sw 0 3 (wn (e+W) (e+W)))<|(dz [1])<|(oz [1,0]) ?_;obtain⟨rfl,h⟩:=ej I hd (by unfold j6;simp only[decide_eq_true_eq,decide_eq_false_iff_not,ge_iff_le,gt_iff_lt,beq_eq_false_iff_ne,ne_eq,beq_iff_eq]at G H S Y aI h6;omega);exact lz (af (e+1,aj (c+1),ak) ⟨dm,dm,h.symm.trans hinv,lq⟩ dm);refine(ra 5 [] [2,1] [2,65]) ?_;intro _;have A:(al ab e).dropWhile dj=al ab e:=hX I hd (by unfold j6;simp only[decide_eq_true_eq,decide_eq_false_iff_not,ge_iff_le,gt_iff_lt,beq_eq_false_iff_ne,ne_eq,beq_iff_eq]at G H S Y aI h6;omega);refine(cz [0] (c139 _ p s 16 a e b c ln l0 d ar T fz nm ab bi f ((ae.trans P) _ _ hg) J om g)) λ|_,_,Q,k,⟨rfl,q1,q2,q3,Z,rfl⟩=>(ra 5 [2] [3] [2,3]) ?_;intro _;have V:(al ab e0).dropWhile dj=al ab e:=by rw[<-hinv,A]
 refine ez 2 (hO 16 (ab.extract a e) q1 q2 q3 Z s) [aX p s (a:Int) b (e:Int) c ln l0 d] [1,1] ((lq).trans k) ?_;rw[V];exact⟨_,e,_,_,_,_,q1,q2,q3,Z,g,rfl,by simp only[aP];rw[show ab.size-(ab.size-e)=e from by omega],rfl⟩;refine(rv 7 [] 1 [10] [0,2,4,5,30,33])<|(iz 33 (decide ((R:Int)>=65))) (λ S=>?_) (λ S=>?_);refine(rv 5 [] 1 [15] [0,2,4,5,38])<|(iz 38 (decide ((R:Int)<=90))) (λ Y=>?_) (λ Y=>?_);refine(rv 39 [0,0,0,0] 4 [0,0] [0,2]) ?_;have o:e+W<=ab.size:=by have:=e8 I hd;omega
 refine(sw 0 3 (wn (e+W) (e+W)))<|(dz [1])<|(oz [1,0]) ?_;obtain⟨rfl,h⟩:=ej I hd (by unfold j6;simp only[decide_eq_true_eq,decide_eq_false_iff_not,ge_iff_le,gt_iff_lt,beq_eq_false_iff_ne,ne_eq,beq_iff_eq]at G H S Y;omega);exact lz (af (e+1,aj (c+1),ak) ⟨dm,dm,h.symm.trans hinv,lq⟩ dm);refine(rv 3 [] 1 [18] [0,2,4,5,38,41])<|(iz 41 (decide ((R:Int)>=97))) (λ aI=>?_) (λ aI=>?_);refine(rv 5 [] 1 [23] [0,2,4,5,46])<|(iz 46 (decide ((R:Int)<=122))) (λ h6=>?_) (λ h6=>?_);refine(rv 31 [0,0,0,0] 4 [0,0] [0,2]) ?_;have o:e+W<=ab.size:=by have:=e8 I hd;omega
 refine(sw 0 3 (wn (e+W) (e+W)))<|(dz [1])<|(oz [1,0]) ?_;obtain⟨rfl,h⟩:=ej I hd (by unfold j6;simp only[decide_eq_true_eq,decide_eq_false_iff_not,ge_iff_le,gt_iff_lt,beq_eq_false_iff_ne,ne_eq,beq_iff_eq]at G H S Y aI h6;omega);exact lz (af (e+1,aj (c+1),ak) ⟨dm,dm,h.symm.trans hinv,lq⟩ dm);refine(rv 4 [] 2 [2] [0,2,5,49])<|(iz 49 ((R:Int)==95)) (λ aU=>?_) (λ aU=>?_);refine(rv 27 [0,0,0,0] 3 [0,0] [0,2]) ?_;have o:e+W<=ab.size:=by have:=e8 I hd;omega
 refine(sw 0 3 (wn (e+W) (e+W)))<|(dz [1])<|(oz [1,0]) ?_;obtain⟨rfl,h⟩:=ej I hd (by unfold j6;simp only[decide_eq_true_eq,decide_eq_false_iff_not,ge_iff_le,gt_iff_lt,beq_eq_false_iff_ne,ne_eq,beq_iff_eq]at G H S Y aI h6 aU;omega);exact lz (af (e+1,aj (c+1),ak) ⟨dm,dm,h.symm.trans hinv,lq⟩ dm);refine(ra 5 [] [2,1] [2,65]) ?_;intro _;have A:(al ab e).dropWhile dj=al ab e:=hX I hd (by unfold j6;simp only[decide_eq_true_eq,decide_eq_false_iff_not,ge_iff_le,gt_iff_lt,beq_eq_false_iff_ne,ne_eq,beq_iff_eq]at G H S Y aI h6 aU;omega);refine(cz [0] (c139 _ p s 16 a e b c ln l0 d ar T fz nm ab bi f ((ae.trans P) _ _ hg) J om g)) λ|_,_,Q,k,⟨rfl,q1,q2,q3,Z,rfl⟩=>(ra 5 [2] [3] [2,3]) ?_;intro _;have V:(al ab e0).dropWhile dj=al ab e:=by rw[<-hinv,A]
 refine ez 2 (hO 16 (ab.extract a e) q1 q2 q3 Z s) [aX p s (a:Int) b (e:Int) c ln l0 d] [1,1] ((lq).trans k) ?_;rw[V];exact⟨_,e,_,_,_,_,q1,q2,q3,Z,g,rfl,by simp only[aP];rw[show ab.size-(ab.size-e)=e from by omega],rfl⟩;refine(rv 9 [] 2 [2] [0,2,5,49])<|(iz 49 ((R:Int)==95)) (λ h6=>?_) (λ h6=>?_);refine(rv 27 [0,0,0,0] 3 [0,0] [0,2]) ?_;have o:e+W<=ab.size:=by have:=e8 I hd;omega
 refine(sw 0 3 (wn (e+W) (e+W)))<|(dz [1])<|(oz [1,0]) ?_;obtain⟨rfl,h⟩:=ej I hd (by unfold j6;simp only[decide_eq_true_eq,decide_eq_false_iff_not,ge_iff_le,gt_iff_lt,beq_eq_false_iff_ne,ne_eq,beq_iff_eq]at G H S Y aI h6;omega);exact lz (af (e+1,aj (c+1),ak) ⟨dm,dm,h.symm.trans hinv,lq⟩ dm);refine(ra 5 [] [2,1] [2,65]) ?_;intro _;have A:(al ab e).dropWhile dj=al ab e:=hX I hd (by unfold j6;simp only[decide_eq_true_eq,decide_eq_false_iff_not,ge_iff_le,gt_iff_lt,beq_eq_false_iff_ne,ne_eq,beq_iff_eq]at G H S Y aI h6;omega);refine(cz [0] (c139 _ p s 16 a e b c ln l0 d ar T fz nm ab bi f ((ae.trans P) _ _ hg) J om g)) λ|_,_,Q,k,⟨rfl,q1,q2,q3,Z,rfl⟩=>(ra 5 [2] [3] [2,3]) ?_;intro _;have V:(al ab e0).dropWhile dj=al ab e:=by rw[<-hinv,A]
 refine ez 2 (hO 16 (ab.extract a e) q1 q2 q3 Z s) [aX p s (a:Int) b (e:Int) c ln l0 d] [1,1] ((lq).trans k) ?_;rw[V];exact⟨_,e,_,_,_,_,q1,q2,q3,Z,g,rfl,by simp only[aP];rw[show ab.size-(ab.size-e)=e from by omega],rfl⟩;refine(rv 8 [] 1 [18] [0,2,4,5,38,41])<|(iz 41 (decide ((R:Int)>=97))) (λ Y=>?_) (λ Y=>?_);refine(rv 5 [] 1 [23] [0,2,4,5,46])<|(iz 46 (decide ((R:Int)<=122))) (λ aI=>?_) (λ aI=>?_);refine(rv 31 [0,0,0,0] 4 [0,0] [0,2]) ?_;have o:e+W<=ab.size:=by have:=e8 I hd;omega
 refine(sw 0 3 (wn (e+W) (e+W)))<|(dz [1])<|(oz [1,0]) ?_;obtain⟨rfl,h⟩:=ej I hd (by unfold j6;simp only[decide_eq_true_eq,decide_eq_false_iff_not,ge_iff_le,gt_iff_lt,beq_eq_false_iff_ne,ne_eq,beq_iff_eq]at G H S Y aI;omega);exact lz (af (e+1,aj (c+1),ak) ⟨dm,dm,h.symm.trans hinv,lq⟩ dm);refine(rv 4 [] 2 [2] [0,2,5,49])<|(iz 49 ((R:Int)==95)) (λ h6=>?_) (λ h6=>?_);refine(rv 27 [0,0,0,0] 3 [0,0] [0,2]) ?_;have o:e+W<=ab.size:=by have:=e8 I hd;omega
 refine(sw 0 3 (wn (e+W) (e+W)))<|(dz [1])<|(oz [1,0]) ?_;obtain⟨rfl,h⟩:=ej I hd (by unfold j6;simp only[decide_eq_true_eq,decide_eq_false_iff_not,ge_iff_le,gt_iff_lt,beq_eq_false_iff_ne,ne_eq,beq_iff_eq]at G H S Y aI h6;omega);exact lz (af (e+1,aj (c+1),ak) ⟨dm,dm,h.symm.trans hinv,lq⟩ dm);refine(ra 5 [] [2,1] [2,65]) ?_;intro _;have A:(al ab e).dropWhile dj=al ab e:=hX I hd (by unfold j6;simp only[decide_eq_true_eq,decide_eq_false_iff_not,ge_iff_le,gt_iff_lt,beq_eq_false_iff_ne,ne_eq,beq_iff_eq]at G H S Y aI h6;omega);refine(cz [0] (c139 _ p s 16 a e b c ln l0 d ar T fz nm ab bi f ((ae.trans P) _ _ hg) J om g)) λ|_,_,Q,k,⟨rfl,q1,q2,q3,Z,rfl⟩=>(ra 5 [2] [3] [2,3]) ?_;intro _;have V:(al ab e0).dropWhile dj=al ab e:=by rw[<-hinv,A]
 refine ez 2 (hO 16 (ab.extract a e) q1 q2 q3 Z s) [aX p s (a:Int) b (e:Int) c ln l0 d] [1,1] ((lq).trans k) ?_;rw[V];exact⟨_,e,_,_,_,_,q1,q2,q3,Z,g,rfl,by simp only[aP];rw[show ab.size-(ab.size-e)=e from by omega],rfl⟩;refine(rv 9 [] 2 [2] [0,2,5,49])<|(iz 49 ((R:Int)==95)) (λ aI=>?_) (λ aI=>?_);refine(rv 27 [0,0,0,0] 3 [0,0] [0,2]) ?_;have o:e+W<=ab.size:=by have:=e8 I hd;omega
 refine(sw 0 3 (wn (e+W) (e+W)))<|(dz [1])<|(oz [1,0]) ?_;obtain⟨rfl,h⟩:=ej I hd (by unfold j6;simp only[decide_eq_true_eq,decide_eq_false_iff_not,ge_iff_le,gt_iff_lt,beq_eq_false_iff_ne,ne_eq,beq_iff_eq]at G H S Y aI;omega);exact lz (af (e+1,aj (c+1),ak) ⟨dm,dm,h.symm.trans hinv,lq⟩ dm);refine(ra 5 [] [2,1] [2,65]) ?_;intro _;have A:(al ab e).dropWhile dj=al ab e:=hX I hd (by unfold j6;simp only[decide_eq_true_eq,decide_eq_false_iff_not,ge_iff_le,gt_iff_lt,beq_eq_false_iff_ne,ne_eq,beq_iff_eq]at G H S Y aI;omega);refine(cz [0] (c139 _ p s 16 a e b c ln l0 d ar T fz nm ab bi f ((ae.trans P) _ _ hg) J om g)) λ|_,_,Q,k,⟨rfl,q1,q2,q3,Z,rfl⟩=>(ra 5 [2] [3] [2,3]) ?_;intro _;have V:(al ab e0).dropWhile dj=al ab e:=by rw[<-hinv,A]
 refine ez 2 (hO 16 (ab.extract a e) q1 q2 q3 Z s) [aX p s (a:Int) b (e:Int) c ln l0 d] [1,1] ((lq).trans k) ?_;rw[V];exact⟨_,e,_,_,_,_,q1,q2,q3,Z,g,rfl,by simp only[aP];rw[show ab.size-(ab.size-e)=e from by omega],rfl⟩;refine(ra 5 [] [2,1] [2,65]) ?_;intro _;have A:(al ab e).dropWhile dj=al ab e:=by rw[cA (by simp only[decide_eq_false_iff_not]at G;omega)];rfl
 refine(cz [2] (c139 _ p s 16 a e b c ln l0 d ar T fz nm ab bi f (ae _ _ hg) J om g)) λ|_,_,Q,k,⟨rfl,q1,q2,q3,Z,rfl⟩=>(ra 5 [2] [3] [2,3]) ?_;intro _;have V:(al ab e0).dropWhile dj=al ab e:=by rw[<-hinv,A]
 refine ez 2 (hO 16 (ab.extract a e) q1 q2 q3 Z s) [aX p s (a:Int) b (e:Int) c ln l0 d] [1,1] (ae.trans k) ?_;rw[V];exact⟨_,e,_,_,_,_,q1,q2,q3,Z,g,rfl,by simp only[aP];rw[show ab.size-(ab.size-e)=e from by omega],rfl⟩
theorem c141: ∀aa p s b c0 ln l0 a e0 d ar T fz(nm ab:ao)bi,d.length=22->U8 aa->aa s=some (.cells ar T fz)->(∀(j:Nat)u,([vs nm,vs ab,vb bi]:List Value)[j]?=some u->ar[j]?=some u)->a<=e0->e0<=ab.size->ab.size<=1099511627776->
 Sp 141 [vp p 0] [aX p s (a:Int) b (e0:Int) c0 ln l0 d] aa (λ r M' _=>RT p s ab d (some (21,ab.extract a (ab.size-((al ab e0).dropWhile gX).length),(al ab e0).dropWhile gX)) r M'):=by
 intro aa p s b c0 ln l0 a e0 d ar T fz nm ab bi f an hg J N t dB;refine aW Tryz.func141 λ F=>(ra 10 [] [1,0,0,0,0] [0,2]) λ b1=>(wz (ι:=Nat×Int×au) (λ i=>ab.size-i.1) (λ i=>i.2.2) [0,2] (λ i=>[]) (λ i c=>sV 1 4 (vi i.2.1) (sV 1 3 (vi i.1) c)) (λ i=>e0<=i.1/\i.1<=ab.size/\(al ab i.1).dropWhile gX=(al ab e0).dropWhile gX/\au.le aa i.2.2) (e0,c0,aa) ⟨HZ _,t,rfl,lq⟩) ?_;rintro⟨e,c,bd⟩ ⟨hle,g,hinv,ae⟩ af;dsimp only at hle g hinv ae;refine(eW (ae _ _ hg) J)<|(qz)<|(kf [0,13] [2,2,100] [0,2,18])<|(iz 18 (decide ((e:Int)<ab.size))) (λ G=>?_) (λ G=>?_);refine(rv 6 [] 3 [1,0,0,1] [0,2,20]) ?_;have I:e<ab.size:=by simp only[decide_eq_true_eq]at G;omega
 obtain⟨R,W,hd⟩: ∃R W,hD (al ab e)=(R,W):=⟨_,_,rfl⟩;refine(cR (args:=[vp p 0]) (M:=[aX p s (a:Int) b (e:Int) c ln l0 d]) [2] (c162 _ p s _ b c ln l0 e d ar T fz nm ab bi R W f (an.mono ae) (ae _ _ hg) J g hd)) λ ak P=>(rv 11 [] 2 [1,3] [0,2,4,5,26])<|(iz 26 (decide ((R:Int)>31))) (λ H=>?_) (λ H=>?_);refine(rv 31 [0,0,0,0] 4 [0,0] [0,2]) ?_;have o:e+W<=ab.size:=by have:=e8 I hd;omega
 refine(sw 0 3 (wn (e+W) (e+W)))<|(dz [1])<|(oz [1,0]) ?_;obtain⟨aN,l,h⟩:=uD I hd (by unfold yy;simp only[decide_eq_true_eq,decide_eq_false_iff_not,ge_iff_le,gt_iff_lt,beq_eq_false_iff_ne,ne_eq,beq_iff_eq]at G H;omega);exact lz (af (e+W,aj (c+1),ak) ⟨dm,dm,h.symm.trans hinv,lq⟩ dm);refine(rv 4 [] 2 [2] [0,2,5,29])<|(iz 29 ((R:Int)==9)) (λ S=>?_) (λ S=>?_);refine(rv 27 [0,0,0,0] 3 [0,0] [0,2]) ?_;have o:e+W<=ab.size:=by have:=e8 I hd;omega
 refine(sw 0 3 (wn (e+W) (e+W)))<|(dz [1])<|(oz [1,0]) ?_;obtain⟨aN,l,h⟩:=uD I hd (by unfold yy;simp only[decide_eq_true_eq,decide_eq_false_iff_not,ge_iff_le,gt_iff_lt,beq_eq_false_iff_ne,ne_eq,beq_iff_eq]at G H S;omega);exact lz (af (e+W,aj (c+1),ak) ⟨dm,dm,h.symm.trans hinv,lq⟩ dm);refine(ra 5 [] [2,1] [2,45]) ?_;intro _;have A:(al ab e).dropWhile gX=al ab e:=yz I hd (by unfold yy;simp only[decide_eq_true_eq,decide_eq_false_iff_not,ge_iff_le,gt_iff_lt,beq_eq_false_iff_ne,ne_eq,beq_iff_eq]at G H S;omega);refine(cz [0] (c139 _ p s 21 a e b c ln l0 d ar T fz nm ab bi f ((ae.trans P) _ _ hg) J om g)) λ|_,_,Q,k,⟨rfl,q1,q2,q3,Z,rfl⟩=>(ra 5 [2] [3] [2,3]) ?_;intro _;have V:(al ab e0).dropWhile gX=al ab e:=by rw[<-hinv,A]
 refine ez 2 (hO 21 (ab.extract a e) q1 q2 q3 Z s) [aX p s (a:Int) b (e:Int) c ln l0 d] [1,1] ((lq).trans k) ?_;rw[V];exact⟨_,e,_,_,_,_,q1,q2,q3,Z,g,rfl,by simp only[aP];rw[show ab.size-(ab.size-e)=e from by omega],rfl⟩;refine(ra 5 [] [2,1] [2,45]) ?_;intro _;have A:(al ab e).dropWhile gX=al ab e:=by rw[cA (by simp only[decide_eq_false_iff_not]at G;omega)];rfl
 refine(cz [2] (c139 _ p s 21 a e b c ln l0 d ar T fz nm ab bi f (ae _ _ hg) J om g)) λ|_,_,Q,k,⟨rfl,q1,q2,q3,Z,rfl⟩=>(ra 5 [2] [3] [2,3]) ?_;intro _;have V:(al ab e0).dropWhile gX=al ab e:=by rw[<-hinv,A]
 refine ez 2 (hO 21 (ab.extract a e) q1 q2 q3 Z s) [aX p s (a:Int) b (e:Int) c ln l0 d] [1,1] (ae.trans k) ?_;rw[V];exact⟨_,e,_,_,_,_,q1,q2,q3,Z,g,rfl,by simp only[aP];rw[show ab.size-(ab.size-e)=e from by omega],rfl⟩
def isSp(x:UInt8):Bool:=decide (x.toNat=32\/x.toNat=9)
def lg(l:List UInt8):Int:=if l.dropWhile isSp=[]then 2147483647 else((l.length-(l.dropWhile isSp).length:Nat):Int)
theorem qi {s : ao} {i} (h : i < s.size) : Utf8.decode s i = hD (al s i) := by
  have ah : al s i ≠ [] := by rw [aE h]; simp
  unfold hD
  rw [if_neg ah, Is, aP]
  have hg : ∀ j, s.get! (i + j) = (al s i).getD j 0 := fun j => by
    rw [It]
    unfold al
    rw [List.getElem?_drop]
    show s.data[i + j]! = _
    rw [getElem!_def, Iu]
    cases s.data[i + j]? <;> rfl
  have N := hg 0
  simp only [Nat.add_zero] at N
  rw [N, hg 1, hg 2, hg 3]
theorem Bk{s}{i c n}(h:i<s.size)(hd:hD (al s i)=(c,n)):((c=32\/c=9)->n=1/\(al s i).dropWhile isSp=(al s (i+1)).dropWhile isSp)/\(¬(c=32\/c=9)->(al s i).dropWhile isSp=al s i):=by
 rw[aE h]at hd⊢;rcases Hh (bb s i).toNat 128 with G|G
 rw[ek G,He]at hd;refine⟨λ J=>⟨om,?_⟩,λ J=>?_⟩;rw[Ik (by simp only[isSp,decide_eq_true_eq];omega)];rw[Il (by simp only[isSp,decide_eq_true_eq];omega)];have:=(jC G hd).1;refine⟨λ J=>by omega,λ J=>?_⟩;rw[Il (by simp only[isSp,decide_eq_true_eq];omega)]
theorem yM: ∀aa(s:ao),s.size<=1099511627776->Sp 189 [vs s] [] aa (λ r M' _=>r=vi (lg (al s 0))/\M'=[]):=by
 intro aa s aJ;refine aW Tryz.func189 λ F=>?_
 refine rZ 8 [] [1,0,1] (λ _=>[(5,vs s)]) (λ _=>F) λ _=>rg 9 (.tmp 5) s 6 [1,0,2] kr λ r=>rn 4 [] [1,1,0,0,0] (λ _=>[(6,vp r 0)]) (λ _=>obj r (.stringIter s 0)::F) λ _=>bf.loop (ι:=Nat) (λ i=>s.size-i) (λ i=>aa) (λ i=>[(6,vp r 0)]) (λ i=>obj r (.stringIter s i)::F) (λ i=>i<=s.size/\(al s i).dropWhile isSp=(al s 0).dropWhile isSp) 0 ⟨HD _,rfl⟩ ?_;rintro i ⟨hi,hinv⟩ af;refine rn 1 [] [1,1,0,0,0,0] (λ _=>[(6,vp r 0)]) (λ _=>obj r (.stringIter s i)::F) λ _=>nx (.tmp 6) 0 r i s 7 [1,1,0,0,0,1] [0] rfl (λ c n I b=>?_) (λ I=>?_);rw[qi I]at b;have E:=Bk I b;refine rn 18 [] [1,1,0,0,2,0,1,3] (λ _=>[(3,vi i),(4,.int .i32 (c:Int)),(6,vp r 0),(13,vb ((c:Int) !=32))]) (λ _=>obj r (.stringIter s (i+n))::F) λ _=>it 13 ((c:Int) !=32) (λ G=>?_) (λ G=>?_);refine zg<|(rv 4 [] 2 [2] [3,6,16])<|(iz 16 ((c:Int) !=9)) (λ H=>?_) (λ H=>?_);refine(rv 6 [] 0 [0,1] [2]) ?_;have J: ¬(c=32\/c=9):=by simp at G H;omega
 have V:lg (al s 0)=(i:Int):=by unfold lg;rw[<-hinv,E.2 J,if_neg (by rw[aE I];simp),aP,aP];omega
 refine ez 0 (vi i) [] [0] lq ?_;rw[V];exact⟨rfl,rfl⟩;refine(rv 5 [] 3 [0] [6]) ?_;have J:c=32\/c=9:=by simp at G H;omega
 obtain⟨rfl,L⟩:=E.1 J;exact gz (af (i+1) ⟨om,by rw[<-L];exact hinv⟩ om);refine zg<|(rv 9 [] 4 [0] [6]) ?_;have J:c=32\/c=9:=by simp at G;omega
 obtain⟨rfl,L⟩:=E.1 J;exact gz (af (i+1) ⟨om,by rw[<-L];exact hinv⟩ om);refine rn 9 [] [3] (λ _=>[(2,vi 2147483647)]) (λ _=>obj r (.stringIter s i)::F) ?_;intro _;have V:lg (al s 0)=2147483647:=by unfold lg;rw[<-hinv,cA I];rfl
 refine rt Tryz.func189 0 (vi 2147483647) [] [0] rfl lq ?_;rw[V];exact⟨rfl,rfl⟩
def jZ:List ao->Int->Int
 |[],v=>v
 |l::r,v=>if lg (al l 0)<l.size/\lg (al l 0)<v then(if lg (al l 0)=0 then 0 else jZ r (lg (al l 0)))else jZ r v
def ky(v:Nat)(l:ao):ao:=if l.size<v then⟨#[]⟩else l.extract v l.size
def ed(l:ao):Bool:=lg (al l 0)==2147483647
def fa(ls:List ao):List ao:=
 let v:=jZ ls 2147483647
 if v≠2147483647 then(match ls with|[]=>[]|l::r=>l::r.map (ky v.toNat))else ls
def jt(ls:List ao):List ao:=(ls.reverse.dropWhile ed).reverse
def hS(ls:List ao):List ao:=jt (ls.dropWhile ed)
def jk(ls:List ao):ao:=⟨(IA (ls.map (·.data.toList)) [10]).toArray⟩
def hz(s:ao):ao:=jk (hS (fa (cJ ⟨#[10]⟩ s)))
def iY(ls:List ao):Nat:=(ls.map λ l=>l.size+1).sum
theorem p5 a b:iY (a++b)=iY a+iY b:=by simp[iY]
theorem kM ls n:iY (ls.drop n)<=iY ls:=by
 have:=p5 (ls.take n) (ls.drop n);rw[IB]at this;omega
theorem k' ls n:iY (ls.take n)<=iY ls:=by
 have:=p5 (ls.take n) (ls.drop n);rw[IB]at this;omega
theorem uK v: ∀r:List ao,iY (r.map (ky v))<=iY r
 |[]=>HZ _
 |l::r=>by
  have h:=uK v r;have H:(ky v l).size<=l.size:=by
   unfold ky;split;exact HD _;rw[ID];omega
  simp[iY]at h⊢;omega
theorem sT ls:(fa ls).length=ls.length:=by
 unfold fa;simp only;split;cases ls<;>simp
 rfl
theorem my ls:iY (fa ls)<=iY ls:=by
 unfold fa;simp only;split;cases ls with
 |nil=>exact HZ _
 |cons l r=>have h:=uK (jZ (l::r) 2147483647).toNat r;simp[iY]at h⊢;omega
 exact HZ _
theorem sq l:((gv [10] l).map λ x=>x.length+1).sum=l.length+1:=by
 induction O:l.length using Nat.strongRecOn generalizing l with
 |ind n af=>
  subst O;rw[gv];by_cases h:0<([10]:List UInt8).length/\0<=bu [10] l 0;rw[dif_pos h];have hb:=iq h.2;have e:([10]:List UInt8).length=1:=rfl;rw[e]at hb⊢;have G:=af (l.drop ((bu [10] l 0).toNat+1)).length (by rw[Ia];omega) _ rfl;rw[HF,Ip,G,List.length_take,Ia];omega;rw[dif_neg h];simp
theorem mT s:iY (cJ ⟨#[10]⟩ s)=s.size+1:=by
 have h:=sq s.data.toList;have H:s.data.toList.length=s.size:=by simp
 unfold iY cJ;rw[List.map_map,<-H,<-h]
 congr 1
theorem sY t s:0<(cJ t s).length:=by
 unfold cJ;rw[List.length_map,gv];split<;>simp
theorem o_: ∀{ls}{l},l∈ls->l.size+1<=iY ls
 |x::r,l,h=>by
  simp only[iY,HF,Ip];rcases G6.1 h with rfl|h
  omega;have:=o_ h;simp[iY]at this;omega
theorem pY: ∀ls:List ao,ls.length<=iY ls
 |[]=>HZ _
 |x::r=>by have:=pY r;simp[iY]at this⊢;omega
theorem re ls:(IA (ls.map (·.data.toList)) [10]).length<=iY ls:=by
 cases ls with
 |nil=>exact HD _
 |cons x r=>
  rw[HF,Lib.join_cons,HT];have: ∀r:List ao,(Lib.joinTail [10] (r.map (·.data.toList))).length<=iY r:=by
   intro r;induction r with
   |nil=>exact HZ _
   |cons y r af=>
    simp only[Lib.joinTail,iY,HF,List.flatten_cons,HT,Ip]at af⊢;have:y.data.toList.length=y.size:=by simp
    simp only[List.length_singleton];omega
  have h:=this r;have H:x.data.toList.length=x.size:=by simp
  simp[iY]at h⊢;omega
theorem mJ: ∀ls v,0<=v->v<=2147483647->0<=jZ ls v/\jZ ls v<=2147483647
 |[],v,G,H=>⟨G,H⟩
 |l::r,v,G,H=>by
  rw[jZ];split;rename_i h;split;omega;refine mJ r _ ?_ om;unfold lg;split<;>omega
  exact mJ r v G H
theorem BJ l:0<=lg l:=by unfold lg;split<;>omega
theorem iB{a}{l}:jt (a++[l])=if ed l then jt a else a++[l]:=by
 unfold jt;rw[List.reverse_append,List.reverse_singleton,List.singleton_append,IC];split;rfl;simp
theorem oq:jt []=[]:=rfl
structure Tok where
 k:Nat
 v:ao
abbrev e0:ao:=⟨#[]⟩
abbrev Q:=Option (List Tok)
def eY:List Tok->Tok
 |[]=>⟨1,e0⟩
 |t::_=>t
def cV:Q->Tok
 |none=>⟨0,e0⟩
 |some ts=>eY ts
def dR:Q->Q
 |none=>none
 |some []=>some []
 |some (t::ts)=>if t.k=0 then none else some ts
def b8:Q->Nat
 |none=>0
 |some ts=>ts.length
def aA(k:Nat)(q:Q):ao×Q:=if(cV q).k=k then((cV q).v,dR q)else(e0,none)
def dM(s:ao)(q:Q):Q:=if(cV q).k=16/\(cV q).v=s then dR q else none
def aC(k:Nat)(q:Q):Bool×Q:=if(cV q).k=k then(true,dR q)else(false,q)
section
variable{α:Type}
def fv(e:Nat)(m:Q->α×Q):Nat->Q->List α×Q
 |0,_=>([],none)
 |_+1,none=>([],none)
 |n+1,some ts=>if(eY ts).k=e then([],dR (some ts))else
  let a:=m (some ts)
  let r:=fv e m n a.2
  (a.1::r.1,r.2)
def dx(b e:Nat)(m:Q->α×Q)(q:Q):List α×Q:=
 if(cV q).k=b then fv e m (b8 (dR q)+1) (dR q)else([],q)
def db(b e:Nat)(m:Q->α×Q)(q:Q):List α×Q:=
 if(cV q).k=b then(if(cV (dR q)).k=e then([],none)else fv e m (b8 (dR q)+1) (dR q))else([],q)
def cy (k : Nat) (m : Q → α × Q) : Nat → Q → List α × Q
  | 0, _ => ([], none)
  | n + 1, q => if (cV q).k = k then
      let a := m q
      let r := cy k m n a.2
      (a.1 :: r.1, r.2)
    else ([], q)
end
def sB(l:List UInt8):ao:=⟨l.toArray⟩
abbrev x0:ao:=sB [116,114,117,101]
abbrev tl:ao:=sB [102,97,108,115,101]
abbrev xm:ao:=sB [110,117,108,108]
abbrev a8:ao:=sB [105,109,112,108,101,109,101,110,116,115]
abbrev cw:ao:=sB [115,99,97,108,97,114]
abbrev cM:ao:=sB [116,121,112,101]
abbrev aO:ao:=sB [105,110,116,101,114,102,97,99,101]
abbrev c_:ao:=sB [117,110,105,111,110]
abbrev ey:ao:=sB [101,110,117,109]
abbrev da:ao:=sB [105,110,112,117,116]
abbrev bW:ao:=sB [115,99,104,101,109,97]
abbrev aK:ao:=sB [100,105,114,101,99,116,105,118,101]
abbrev bU:ao:=sB [101,120,116,101,110,100]
abbrev bE:ao:=sB [114,101,112,101,97,116,97,98,108,101]
abbrev su:ao:=sB [111,110]
abbrev nW:bo:=.mk 0 e0 .nil
def fl(s:ao):Nat:=if s=x0\/s=tl then 5 else if s=xm then 6 else 7
abbrev Rc(α:Type):=Option (Q->α×Q)
def hK(m:Q->bo×Q)(q:Q):(ao×bo)×Q:=
 let n:=aA 16 q
 let c:=aA 8 n.2
 let v:=m c.2
 ((n.1,v.1),v.2)
def l4(m:Q->bo×Q)(q:Q):(ao×bo)×Q:=
 let v:=m q
 ((e0,v.1),v.2)
def c1(m:Rc bo)(c:Bool)(q:Q):bo×Q:=
 let t:=cV q
 if t.k=11 then match m with
  |none=>(nW,none)
  |some m=>let l:=dx 11 12 (l4 m) q;(.mk 8 e0 (Kids.of l.1),l.2)
 else if t.k=13 then match m with
  |none=>(nW,none)
  |some m=>let l:=dx 13 14 (hK m) q;(.mk 9 e0 (Kids.of l.1),l.2)
 else if t.k=3 then(if c then(nW,none)else
  let d:=aA 3 q
  let n:=aA 16 d.2
  (.mk 0 n.1 .nil,n.2))
 else if t.k=17 then(.mk 1 t.v .nil,dR q)
 else if t.k=18 then(.mk 2 t.v .nil,dR q)
 else if t.k=19 then(.mk 3 t.v .nil,dR q)
 else if t.k=20 then(.mk 4 t.v .nil,dR q)
 else if t.k=16 then(.mk (fl t.v) t.v .nil,dR q)
 else(nW,none)
def ga:Nat->Bool->Q->bo×Q
 |0,c=>c1 none c
 |n+1,c=>c1 (some (ga n c)) c
abbrev Fc:eg:=.named e0 false
def iv(m:Rc eg)(q:Q):eg×Q:=
 let s:=aC 11 q
 if s.1 then match m with
  |none=>(Fc,none)
  |some m=>
   let t:=m s.2
   let x:=aA 12 t.2
   let b:=aC 2 x.2
   (.list t.1 b.1,b.2)
 else
  let n:=aA 16 q
  let b:=aC 2 n.2
  (.named n.1 b.1,b.2)
def ks:Nat->Q->eg×Q
 |0=>iv none
 |n+1=>iv (some (ks n))
def gh(c:Bool)(q:Q):bT×Q:=
 let n:=aA 16 q
 let x:=aA 8 n.2
 let v:=ga 1000 c x.2
 (⟨n.1,v.1⟩,v.2)
def ko(c:Bool)(q:Q):cB×Q:=
 let a:=aA 10 q
 let n:=aA 16 a.2
 let l:=db 5 6 (gh c) n.2
 (⟨n.1,l.1⟩,l.2)
def a7(c:Bool)(q:Q):List cB×Q:=cy 10 (ko c) (b8 q+1) q
def bC(q:Q):ao×Q:=if(cV q).k=20\/(cV q).k=19 then((cV q).v,dR q)else(e0,q)
def hW(q:Q):Option bo×Q:=
 let s:=aC 9 q
 if s.1 then
  let v:=ga 1000 true s.2
  (some v.1,v.2)
 else(none,q)
def fG(q:Q):aq×Q:=
 let d:=bC q
 let n:=aA 16 d.2
 let x:=aA 8 n.2
 let t:=ks 1000 x.2
 let f:=hW t.2
 let l:=a7 true f.2
 (⟨d.1,n.1,t.1,f.1,l.1⟩,l.2)
def nV(q:Q):cK×Q:=
 let d:=bC q
 let n:=aA 16 d.2
 let x:=aA 8 n.2
 let t:=ks 1000 x.2
 let f:=hW t.2
 let l:=a7 true f.2
 (⟨d.1,n.1,[],f.1,t.1,l.1⟩,l.2)
def gP(q:Q):List aq×Q:=db 5 6 fG q
def jd(q:Q):cK×Q:=
 let d:=bC q
 let n:=aA 16 d.2
 let a:=gP n.2
 let x:=aA 8 a.2
 let t:=ks 1000 x.2
 let l:=a7 true t.2
 (⟨d.1,n.1,a.1,none,t.1,l.1⟩,l.2)
def ri(q:Q):a_×Q:=
 let d:=bC q
 let n:=aA 16 d.2
 let l:=a7 true n.2
 (⟨d.1,n.1,l.1⟩,l.2)
def fR(k:Nat)(m:Q->ao×Q)(q:Q):List ao×Q:=
 let n:=m (aC k q).2
 let r:=cy k (λ q=>m (dR q)) (b8 n.2+1) n.2
 (n.1::r.1,r.2)
def fC(q:Q):List ao×Q:=if(cV q).v=a8 then fR 4 (aA 16) (dR q)else([],q)
def j3(q:Q):List ao×Q:=
 let s:=aC 9 q
 if s.1 then fR 15 (aA 16) s.2 else([],q)
def m_(q:Q):List cK×Q:=db 13 14 jd q
def sU(q:Q):List cK×Q:=db 13 14 nV q
def sN(q:Q):List a_×Q:=db 13 14 ri q
abbrev jQ:ao:=sB [83,67,65,76,65,82]
abbrev dg:ao:=sB [79,66,74,69,67,84]
abbrev bM:ao:=sB [73,78,84,69,82,70,65,67,69]
abbrev lJ:ao:=sB [85,78,73,79,78]
abbrev n_:ao:=sB [69,78,85,77]
abbrev lE:ao:=sB [73,78,80,85,84,95,79,66,74,69,67,84]
def dS(doc:ao)(q:Q):Def×Q:=
 let n:=aA 16 (dM cw q)
 let l:=a7 true n.2
 (⟨jQ,doc,n.1,l.1,[],[],[],[]⟩,l.2)
def fc(kw A doc:ao)(q:Q):Def×Q:=
 let n:=aA 16 (dM kw q)
 let i:=fC n.2
 let l:=a7 true i.2
 let f:=m_ l.2
 (⟨A,doc,n.1,l.1,i.1,f.1,[],[]⟩,f.2)
def en(doc:ao)(q:Q):Def×Q:=
 let n:=aA 16 (dM c_ q)
 let l:=a7 true n.2
 let m:=j3 l.2
 (⟨lJ,doc,n.1,l.1,[],[],m.1,[]⟩,m.2)
def fX(doc:ao)(q:Q):Def×Q:=
 let n:=aA 16 (dM ey q)
 let l:=a7 true n.2
 let m:=sN l.2
 (⟨n_,doc,n.1,l.1,[],[],[],m.1⟩,m.2)
def eu(c:Bool)(doc:ao)(q:Q):Def×Q:=
 let n:=aA 16 (dM da q)
 let l:=a7 c n.2
 let f:=sU l.2
 (⟨lE,doc,n.1,l.1,[],f.1,[],[]⟩,f.2)
def AS:Def:=⟨e0,e0,e0,[],[],[],[],[]⟩
def gn(doc:ao)(q:Q):Def×Q:=
 if(cV q).k=16 then
  (if(cV q).v=cw then dS doc q else if(cV q).v=cM then fc cM dg doc q else if(cV q).v=aO then fc aO bM doc q
  else if(cV q).v=c_ then en doc q else if(cV q).v=ey then fX doc q else if(cV q).v=da then eu true doc q else(AS,none))
 else(AS,none)
def bP(d:Def×Q):Def×Q:=if d.1.ah=[]/\d.1.ifaces=[]/\d.1.fields=[]/\d.1.types=[]/\d.1.enums=[]then(d.1,none)else d
def hN(q:Q):Def×Q:=
 if(cV q).v=cw then bP (dS e0 q)else if(cV q).v=cM then bP (fc cM dg e0 q)else if(cV q).v=aO then bP (fc aO bM e0 q)
 else if(cV q).v=c_ then bP (en e0 q)else if(cV q).v=ey then bP (fX e0 q)else if(cV q).v=da then bP (eu false e0 q)else(AS,none)
def rG(q:Q):ao×Q:=if∃l∈de,(cV q).v=l then((cV q).v,dR q)else(e0,none)
def fF(q:Q):cQ×Q:=
 let o:=rG q
 let x:=aA 8 o.2
 let n:=aA 16 x.2
 (⟨o.1,n.1⟩,n.2)
def gU(doc:ao)(q:Q):ae×Q:=
 let l:=a7 true (dM bW q)
 let r:=db 13 14 fF l.2
 (⟨doc,l.1,r.1⟩,r.2)
def dy(q:Q):ae×Q:=
 let s:=gU e0 q
 if s.1.ah=[]/\s.1.roots=[]then(s.1,none)else s
def ba:List ao:=[sB [81,85,69,82,89],sB [77,85,84,65,84,73,79,78],sB [83,85,66,83,67,82,73,80,84,73,79,78],sB [70,73,69,76,68],
 sB [70,82,65,71,77,69,78,84,95,68,69,70,73,78,73,84,73,79,78],sB [70,82,65,71,77,69,78,84,95,83,80,82,69,65,68],sB [73,78,76,73,78,69,95,70,82,65,71,77,69,78,84],
 sB [86,65,82,73,65,66,76,69,95,68,69,70,73,78,73,84,73,79,78],sB [83,67,72,69,77,65],sB [83,67,65,76,65,82],sB [79,66,74,69,67,84],sB [70,73,69,76,68,95,68,69,70,73,78,73,84,73,79,78],
 sB [65,82,71,85,77,69,78,84,95,68,69,70,73,78,73,84,73,79,78],sB [73,78,84,69,82,70,65,67,69],sB [85,78,73,79,78],sB [69,78,85,77],sB [69,78,85,77,95,86,65,76,85,69],
 sB [73,78,80,85,84,95,79,66,74,69,67,84],sB [73,78,80,85,84,95,70,73,69,76,68,95,68,69,70,73,78,73,84,73,79,78],sB [68,73,82,69,67,84,73,86,69,95,68,69,70,73,78,73,84,73,79,78]]
def fu(q:Q):ao×Q:=
 let n:=aA 16 q
 if∃l∈ba,n.1=l then n else(e0,none)
def iJ(q:Q):Bool×Q:=if(cV q).k=16/\(cV q).v=bE then(true,dR q)else(false,q)
def q6(doc:ao)(q:Q):aL×Q:=
 let a:=aA 10 (dM aK q)
 let n:=aA 16 a.2
 let l:=gP n.2
 let d:=a7 true l.2
 let r:=iJ d.2
 let o:=fR 15 fu (dM su r.2)
 (⟨doc,n.1,l.1,o.1,r.1⟩,o.2)
def hI(q:Q):Q:=
 let a:=aA 10 (dM aK q)
 let n:=aA 16 a.2
 let d:=a7 true n.2
 if d.1=[]then none else d.2
def lf(s:aH)(q:Q):aH×Q:=
 let q1:=dM bU q
 let u:=(cV q1).v
 if u=bW then
  let x:=dy q1
  ({s with exts:=s.exts++[x.1]},x.2)
 else if u=aK then(s,hI q1)
 else
  let x:=hN q1
  ({s with ai:=s.ai++[x.1]},x.2)
def gg(v:ao):Prop:=v=cw\/v=cM\/v=aO\/v=c_\/v=ey\/v=da
instance(v:ao):Decidable (gg v):=by unfold gg;infer_instance
def gl(s:aH)(doc:ao)(q:Q):aH×Q:=
 if(cV q).k≠16 then(s,none)
 else if gg (cV q).v then
  let x:=gn doc q
  ({s with types:=s.types++[x.1]},x.2)
 else if(cV q).v=bW then
  let x:=gU doc q
  ({s with defs:=s.defs++[x.1]},x.2)
 else if(cV q).v=aK then
  let x:=q6 doc q
  ({s with ah:=s.ah++[x.1]},x.2)
 else if(cV q).v=bU then(if doc≠e0 then(s,none)else lf s q)
 else(s,none)
def bX(s:aH)(q:Q):aH×Q:=gl s (bC q).1 (bC q).2
def lk:Nat->aH->Q->aH×Q
 |0,s,_=>(s,none)
 |_+1,s,none=>(s,none)
 |n+1,s,some ts=>if(eY ts).k=1 then(s,some ts)else
  let x:=bX s (some ts)
  lk n x.1 x.2
def ep(q:Q):aH×Q:=lk (b8 q+1) ⟨[],[],[],[],[]⟩ q
def iX(l rest:List UInt8):ao:=sB (l.take (l.length-rest.length))
def lv(y:UInt8):Option UInt8:=
 if y.toNat=34\/y.toNat=47\/y.toNat=92 then some y else if y.toNat=98 then some 8 else if y.toNat=102 then some 12 else if y.toNat=110 then some 10
 else if y.toNat=114 then some 13 else if y.toNat=116 then some 9 else none
def hG(r:Int)(l:List UInt8):Int×List UInt8:=
 if 55296<=r/\r<56320/\6<l.length then
  match hH ((l.take 6).drop 2) 0 with
  |none=>(r,l)
  |some V=>if l.take 2=[92,117]/\56320<=V/\V<=57343 then(gi r V,l.drop 6)else(r,l)
 else(r,l)
def j4(l:List UInt8):Option (List UInt8×List UInt8):=
 match l with
 |_::y::r=>
  if y.toNat=117 then
   if r.take 1=[123]then
    let h:=dZ (r.drop 1) 0 0
    if h.2.2 then some (Im h.1,(r.drop 1).drop h.2.1.toNat)else none
   else if l.length<=6 then none
   else match hH (r.take 4) 0 with
    |none=>none
    |some v=>let q:=hG v (l.drop 6);some (Im q.1,q.2)
  else(lv y).map λ z=>([z],r)
 |_=>none
def fh(l:List UInt8):Nat×Nat:=if(l.headD 0).toNat<127 then((l.headD 0).toNat,1)else hD l
def dq:Nat->Bool->List UInt8->List UInt8->Option (ao×List UInt8)
 |0,_,_,_=>none
 |_+1,_,_,[]=>none
 |n+1,a,acc,x::r=>
  if x.toNat=10\/x.toNat=13 then none
  else if x.toNat<32/\x.toNat≠9 then none
  else if x.toNat=34 then some (sB acc,r)
  else if x.toNat=92 then match j4 (x::r)with
   |none=>none
   |some (u,l)=>dq n true (acc++u) l
  else
   let d:=fh (x::r)
   dq n a (acc++(if a then Im d.1 else(x::r).take d.2)) ((x::r).drop d.2)
def lT(l:List UInt8):Nat:=l.length-(l.dropWhile (· ==34)).length
def et:Nat->List UInt8->List UInt8->Option (ao×List UInt8)
 |0,_,_=>none
 |_+1,_,[]=>none
 |n+1,acc,x::r=>
  if 3<=lT (x::r)then some (hz (sB (acc++List.replicate (lT (x::r)-3) 34)),(x::r).drop (lT (x::r)))
  else if x.toNat<32/\x.toNat≠9/\x.toNat≠10/\x.toNat≠13 then none
  else if(x::r).take 4=[92,34,34,34]then et n (acc++[34,34,34]) (r.drop 3)
  else if x.toNat=13 then et n (acc++[10]) (if r.take 1=[10]then r.drop 1 else r)
  else
   let d:=fh (x::r)
   et n (acc++Im d.1) ((x::r).drop d.2)
def ht(x:UInt8):Nat:=
 if x=33 then 2 else if x=36 then 3 else if x=38 then 4 else if x=40 then 5 else if x=41 then 6 else if x=58 then 8 else if x=61 then 9 else if x=64 then 10
 else if x=91 then 11 else if x=93 then 12 else if x=123 then 13 else if x=125 then 14 else if x=124 then 15 else 0
def ea(x:UInt8):Bool:=x==95||(decide (97<=x.toNat)&&decide (x.toNat<=122))||(decide (65<=x.toNat)&&decide (x.toNat<=90))
def bA(l:List UInt8):Option (Nat×ao×List UInt8):=
 match l with
 |[]=>some (1,e0,[])
 |x::r=>
  if ht x≠0 then some (ht x,e0,r)
  else if x=46 then(if l.take 3=[46,46,46]then some (7,e0,l.drop 3)else none)
  else if x=35 then some (21,iX l (r.dropWhile gX),r.dropWhile gX)
  else if ea x then some (16,iX l (r.dropWhile dj),r.dropWhile dj)
  else if x=45\/bZ x then(di l).map λ y=>(if y.1 then 18 else 17,iX l y.2,y.2)
  else if x=34 then
   (if l.take 3=[34,34,34]then(et (l.length+1) [] (l.drop 3)).map λ y=>(20,y.1,y.2)
   else(dq (l.length+1) false [] r).map λ y=>(19,y.1,y.2))
  else none
def fm(l:List UInt8):Option (Nat×ao×List UInt8):=bA (kU l)
theorem tV l:(kU l).length<=l.length:=by
 induction O:l.length using Nat.strongRecOn generalizing l with
 |ind n af=>
  subst O
  match l with
  |[]=>rw[kU];exact HZ _
  |x::l=>
   rw[kU];split;have:=af l.length sm l rfl;simp;omega;split;have:=af (l.drop 2).length so _ rfl;simp at*;omega;exact HZ _
theorem dn f: ∀l:List UInt8,(l.dropWhile f).length<=l.length
 |[]=>HZ _
 |x::l=>by
  rw[IC];split;have:=dn f l;simp;omega;exact HZ _
theorem qZ{x}{l}{R W}(h:hD (x::l)=(R,W)):1<=W/\W<=l.length+1:=by
 rcases Hh x.toNat 128 with G|G
 rw[ek G,He]at h;omega;have:=jC G h;omega
theorem ib{x}{l}:1<=(fh (x::l)).2/\(fh (x::l)).2<=l.length+1:=by
 unfold fh;split;exact⟨HZ _,om⟩;exact qZ (R:=(hD (x::l)).1) rfl
theorem qS: ∀l i v,(dZ l i v).2.2=true->(i:Int)<(dZ l i v).2.1/\(dZ l i v).2.1<=(i:Int)+l.length
 |[],i,v,h=>by simp[dZ]at h
 |x::l,i,v,h=>by
  rw[dZ]at h⊢;split at h;rename_i G;rw[if_pos G];split at h;rename_i H;rw[if_pos H];split at h;simp at h;rename_i S;rw[if_neg S];simp;omega;rename_i H;rw[if_neg H];split at h;simp at h;rename_i d hd;have:=qS l (i+1) _ h;simp at this⊢;omega;simp at h
theorem vI r l:(hG r l).2.length<=l.length:=by
 unfold hG;split;split;exact HZ _;split;simp;exact HZ _;exact HZ _
theorem qW{l u rest}(h:j4 l=some (u,rest)):rest.length<l.length:=by
 match l,h with
 |x::y::r,h=>
  rw[j4]at h;split at h;split at h;dsimp only at h;split at h;rename_i H;simp at h;rw[<-h.2];simp;omega;cases h;split at h;cases h;rename_i hl;split at h;cases h;rename_i v _;simp at h;have:=vI v ((x::y::r).drop 6);rw[<-h.2];simp at*;omega;rw[Io]at h;obtain⟨z,_,hz⟩:=h;injection hz with _ hz
  rw[<-hz];simp;omega
 |[x],h=>simp[j4]at h
 |[],h=>simp[j4]at h
theorem nf: ∀n a acc l v rest,dq n a acc l=some (v,rest)->rest.length<l.length
 |0,_,_,_,_,_,h=>by simp[dq]at h
 |n+1,_,_,[],_,_,h=>by simp[dq]at h
 |n+1,a,acc,x::r,v,rest,h=>by
  rw[dq]at h;split at h;cases h;split at h;cases h;split at h;injection h with h;injection h with _ h;rw[<-h];simp
  split at h;split at h;cases h;rename_i u l he;have G:=qW he;have H:=nf n _ _ _ _ _ h;omega;have H:=nf n _ _ _ _ _ h;have S:=ib (x:=x) (l:=r);simp at*;omega
theorem k_: ∀n acc l v rest,et n acc l=some (v,rest)->rest.length<l.length
 |0,_,_,_,_,h=>by simp[et]at h
 |n+1,_,[],_,_,h=>by simp[et]at h
 |n+1,acc,x::r,v,rest,h=>by
  rw[et]at h;split at h;rename_i K;injection h with h;injection h with _ h;rw[<-h]
  simp only[Ia,Iz];omega;split at h;cases h;split at h;have H:=k_ n _ _ _ _ h;simp at*;omega;split at h;have H:=k_ n _ _ _ _ h;split at H;simp at*;omega;simp at*;omega;have H:=k_ n _ _ _ _ h;have S:=ib (x:=x) (l:=r);simp at*;omega
theorem k3 f l:(acc f l).2.length<=l.length/\((acc f l).1=true->(acc f l).2.length<l.length):=by
 unfold acc;split;simp;split<;>simp
theorem mq l:(eJ l).2.length<=l.length/\((eJ l).1≠0->(eJ l).2.length<l.length):=by
 unfold eJ;have:=dn bZ l;simp only;omega
theorem nC {l} {b} {rest} (h : di l = some (b, rest)) : rest.length < l.length := by
  unfold di at h
  simp only at h
  have a1 := k3 (fW 45) l
  have a2 := k3 (fW 48) (acc (fW 45) l).2
  have a3 := mq (acc (fW 48) (acc (fW 45) l).2).2
  generalize acc (fW 48) (acc (fW 45) l).2 = z at *
  generalize hd : eJ z.2 = d at *
  have a4 := k3 (fW 46) d.2
  rw [ite_self] at h
  generalize acc (fW 46) d.2 = p at *
  have a5 := mq p.2
  generalize eJ p.2 = f at *
  have a6 : (if p.1 = true then f.2 else p.2).length ≤ p.2.length := by split <;> omega
  generalize (if p.1 = true then f.2 else p.2) = y at *
  have i := k3 (j' 101 69) y
  generalize acc (j' 101 69) y = x at *
  have m := k3 (j' 45 43) x.2
  have a9 := mq (acc (j' 45 43) x.2).2
  generalize eJ (acc (j' 45 43) x.2).2 = g at *
  have hz : ¬ (if z.1 = true then d.1 ≠ 0 else d.1 = 0) := fun J => by rw [if_pos J] at h; cases h
  rw [if_neg hz] at h
  by_cases hp : p.1 = true ∧ f.1 = 0
  · rw [if_pos hp] at h; cases h
  · rw [if_neg hp] at h
    by_cases L : x.1 = true ∧ g.1 = 0
    · rw [if_pos L] at h; cases h
    · · rw [if_neg L] at h
        simp at h
        have h := h.2
        have : d.2.length < l.length := by
          by_cases B : z.1 = true
          · have := a2.2 B; omega
          · rw [if_neg B] at hz; have := a3.2 hz; omega
        rw [← h]
        split <;> omega
theorem eN{α β γ:Type}{a k:α}{b v:β}{c r:γ}(h:some (a,b,c)=some (k,v,r)):a=k/\b=v/\c=r:=by injection h with h;injection h with G h;injection h with H h;exact⟨G,H,h⟩
theorem ij{c}[Decidable c]{a b}(ha:a≠1)(hb:b≠1):(if c then a else b)≠1:=by
 by_cases h:c;rw[if_pos h];exact ha;rw[if_neg h];exact hb
theorem vO x:ht x≠1:=(ij dc (ij dc (ij dc (ij dc (ij dc (ij dc (ij dc (ij dc (ij dc (ij dc (ij dc (ij dc (ij dc dc)))))))))))))
theorem mx{l}{k}{v}{rest}(h:bA l=some (k,v,rest)):k≠0/\((k=1/\rest=[]/\v=e0)\/(k≠1/\rest.length<l.length)):=by
 match l,h with
 |[],h=>
  obtain⟨rfl,rfl,rfl⟩:=eN h;exact⟨om,.inl ⟨rfl,rfl,rfl⟩⟩
 |x::r,h=>
  rw[bA]at h;split at h;rename_i hp;obtain⟨rfl,rfl,rfl⟩:=eN h;exact⟨hp,.inr ⟨vO x,by simp⟩⟩;split at h;split at h;obtain⟨rfl,rfl,rfl⟩:=eN h;exact⟨om,.inr ⟨om,by simp;omega⟩⟩;cases h;split at h;obtain⟨rfl,rfl,rfl⟩:=eN h;have:=dn gX r;exact⟨om,.inr ⟨om,by simp;omega⟩⟩;split at h;obtain⟨rfl,rfl,rfl⟩:=eN h;have:=dn dj r;exact⟨om,.inr ⟨om,by simp;omega⟩⟩;split at h;rw[Io]at h;obtain⟨⟨b,y⟩,hy,hz⟩:=h;obtain⟨rfl,rfl,rfl⟩:=eN (congrArg some hz);have:=nC hy;refine⟨by dsimp only;split<;>omega,.inr ⟨by dsimp only;split<;>omega,this⟩⟩;split at h;split at h;rw[Io]at h;obtain⟨⟨b,y⟩,hy,hz⟩:=h;obtain⟨rfl,rfl,rfl⟩:=eN (congrArg some hz);have:=k_ _ _ _ _ _ hy;refine⟨om,.inr ⟨om,?_⟩⟩;simp at*;omega;rw[Io]at h;obtain⟨⟨b,y⟩,hy,hz⟩:=h;obtain⟨rfl,rfl,rfl⟩:=eN (congrArg some hz);have:=nf _ _ _ _ _ _ hy;refine⟨om,.inr ⟨om,?_⟩⟩;simp at*;omega;cases h
theorem jM{l}{k}{v}{rest}(h:fm l=some (k,v,rest)):k≠0/\((k=1/\rest=[]/\v=e0)\/(k≠1/\rest.length<l.length)):=by
 obtain⟨G,H⟩:=mx h;have:=tV l;exact⟨G,H.imp id λ h=>⟨h.1,om⟩⟩
end
end Go.Proofs.YtdpmeahgjjmdiaaGreatDoor
