/- Part of the proof that laws.FnSchemaAgain answers true. Conditions: none. -/
import Derived.Test.YtdpmeahgjjmdiaaGreatDoorC08
set_option linter.all false
open UInt8 renaming ofNat->Jr,toNat_inj->Ig
open ByteArray renaming data_extract->Ii
open Array renaming toList_extract->Ij
open List renaming append_assoc->Js,append_cancel_right->Jv,append_nil->Ju,cons_append->Hi,dropWhile_cons->IC,dropWhile_cons_of_neg->Il,dropWhile_cons_of_pos->Ik,drop_succ_cons->Jw,drop_zero->Jx,flatMap_cons->G0,length_append->HT,length_cons->Iz,length_drop->Ia,length_nil->IN,length_take->Jt,map_cons->HF,map_nil->HG,mem_append->HM,mem_cons->G6,nil_append->Hj
open Option renaming map_eq_some_iff->Io,map_some->Hd
open Nat renaming le_refl->HZ,le_trans->Ji,zero_le->HD
open Option.some renaming injEq->G8
open Prod.mk renaming injEq->He
open Go.Lib renaming encodeRune->Im,repeatL->II
namespace Go.Proofs.YtdpmeahgjjmdiaaGreatDoor
open Go
set_option maxHeartbeats 12800000
variable[OO]
theorem ss(P:UInt8->Bool)(h:(List.range 256).all (λ n=>P (Jr n))=true)x:P x=true:=by
 rw[List.all_eq_true]at h;have:=h x.toNat (by rw[List.mem_range];exact x.toNat_lt);simpa using this
section
variable{s:ao}{e:Nat}
theorem bc{n:Nat}(O:n<256)(h:(bt s (e:Int)==n)=true):bb s e=Jr n:=by
 rw[bO]at h;simp at h;have:(bb s e).toNat=n:=by omega
 rw[<-this];simp
theorem aJ{n}(h:(bt s (e:Int)==n)=false):((bb s e).toNat:Int)≠n:=by
 rw[bO]at h;simpa using h
theorem pP{rest}(he:e<=s.size)(V:rest.length<=(al s e).length):s.extract e (s.size-rest.length)=iX (al s e) rest:=by
 have hl:=aP s e;apply ByteArray.ext;apply Array.ext';rw[Ii,Ij];unfold iX sB al;simp only[List.extract,Ia];have H:s.data.toList.length=s.size:=by simp
 rw[H]
 congr 1
 omega
theorem wh(h:e<s.size)(aJ:ea (bb s e)=true):bA (al s e)=some (16,s.extract e (s.size-((al s (e+1)).dropWhile dj).length),(al s (e+1)).dropWhile dj):=by
 have N:=ss (λ x=>!(ea x)||(decide (ht x=0)&&decide (x≠46)&&decide (x≠35))) (by decide+kernel) (bb s e);simp[aJ]at N;have hl:=dn dj (al s (e+1));rw[pP om (by rw[aE h,Iz];omega),aE h,bA,if_neg (by rw[N.1.1];simp),if_neg N.1.2,if_neg N.2,if_pos aJ]
theorem Bq(h:e<s.size)(hb:bb s e=Jr 35):bA (al s e)=some (21,s.extract e (s.size-((al s (e+1)).dropWhile gX).length),(al s (e+1)).dropWhile gX):=by
 have hl:=dn gX (al s (e+1));rw[pP om (by rw[aE h,Iz];omega),aE h,hb];rfl
theorem tM(h:e<s.size)(aJ:bb s e=45\/bZ (bb s e)=true):bA (al s e)=(di (al s e)).map λ y=>(if y.1 then 18 else 17,s.extract e (s.size-y.2.length),y.2):=by
 have N:=ss (λ x=>!(decide (x=45\/bZ x=true))||(decide (ht x=0)&&decide (x≠46)&&decide (x≠35)&&decide (ea x=false))) (by decide+kernel) (bb s e);have D:decide (bb s e=45\/bZ (bb s e)=true)=true:=by simpa using aJ
 simp[D]at N;have L:al s e=bb s e::al s (e+1):=aE h;have B:bA (al s e)=(di (al s e)).map λ y=>(if y.1 then 18 else 17,iX (al s e) y.2,y.2):=by
  rw[L,bA,if_neg (by rw[N.1.1.1];simp),if_neg N.1.1.2,if_neg N.1.2,if_neg (by rw[N.2];simp),if_pos aJ]
 rw[B];cases O:di (al s e)with
 |none=>rfl
 |some y=>
  obtain⟨f,r⟩:=y;have:=nC O;simp only[Hd];rw[pP om om]
theorem oR{n:Nat}(h:s.extract e (e+3)=⟨#[Jr n,Jr n,Jr n]⟩)(he:e+3<=s.size):(al s e).take 3=[Jr n,Jr n,Jr n]:=by
 have G:=congrArg (λ b:ByteArray=>b.data.toList) h;simp only[Ii,Ij,List.extract]at G;unfold al;rw[show e+3-e=3 from by omega]at G;exact G
theorem nj{n:Nat}(h:e<s.size)(V: ¬e+2<s.size\/s.extract e (e+3)≠⟨#[Jr n,Jr n,Jr n]⟩):(al s e).take 3≠[Jr n,Jr n,Jr n]:=by
 intro B;have hl:=congrArg List.length B;rw[Jt,aP]at hl;simp at hl;rcases V with V|V
 omega;refine V (ByteArray.ext (Array.ext' ?_));rw[Ii,Ij];unfold al at B;simp only[List.extract];rw[show e+3-e=3 from by omega,B]
theorem v7(h:e<s.size)(hb:bb s e=Jr 46)(S:(al s e).take 3=[Jr 46,Jr 46,Jr 46]):bA (al s e)=some (7,⟨#[]⟩,al s (e+3)):=by
 rw[<-dw];have L:al s e=Jr 46::al s (e+1):=by rw[aE h,hb]
 have B:bA (al s e)=if(al s e).take 3=[46,46,46]then some (7,⟨#[]⟩,(al s e).drop 3)else none:=by rw[L];rfl
 rw[B];exact if_pos S
theorem l2(h:e<s.size)(hb:bb s e=Jr 46)(V: ¬e+2<s.size\/s.extract e (e+3)≠⟨#[Jr 46,Jr 46,Jr 46]⟩):bA (al s e)=none:=by
 have L:al s e=Jr 46::al s (e+1):=by rw[aE h,hb]
 have B:bA (al s e)=if(al s e).take 3=[46,46,46]then some (7,⟨#[]⟩,(al s e).drop 3)else none:=by rw[L];rfl
 rw[B];exact if_neg (nj (n:=46) h V)
theorem zE(h:e<s.size)(hb:bb s e=Jr 34):bA (al s e)=if(al s e).take 3=[34,34,34]then(et ((al s e).length+1) [] ((al s e).drop 3)).map (λ y=>(20,y.1,y.2))else(dq ((al s e).length+1) false [] (al s (e+1))).map λ y=>(19,y.1,y.2):=by
 have L:al s e=Jr 34::al s (e+1):=by rw[aE h,hb]
 rw[L];rfl
theorem ma(h:e<s.size)(hb:bb s e=Jr 34)(S:(al s e).take 3≠[34,34,34]):bA (al s e)=(dq ((al s e).length+1) false [] (al s (e+1))).map λ y=>(19,y.1,y.2):=by
 rw[zE h hb];exact if_neg S
theorem tU(h:e<s.size)(hb:bb s e=Jr 34)(S:(al s e).take 3=[Jr 34,Jr 34,Jr 34]):bA (al s e)=(et ((al s e).length+1) [] ((al s e).drop 3)).map λ y=>(20,y.1,y.2):=by
 rw[zE h hb];exact if_pos S
def known:List Nat:=[33,36,38,40,41,46,58,61,64,91,93,123,125,124,35,95,97,98,99,100,101,102,103,104,105,106,107,108,109,110,111,112,113,114,115,116,117,118,119,120,121,122,65,66,67,68,69,70,71,72,73,74,75,76,77,78,79,80,81,82,83,84,85,86,87,88,89,90,45,48,49,50,51,52,53,54,55,56,57,34]
theorem wO(h:e<s.size)(u:((bb s e).toNat:Int)≠33)(Z:((bb s e).toNat:Int)≠36)(w:((bb s e).toNat:Int)≠38)(K:((bb s e).toNat:Int)≠40)(P:((bb s e).toNat:Int)≠41)(L:((bb s e).toNat:Int)≠46)(ad:((bb s e).toNat:Int)≠58)(ab:((bb s e).toNat:Int)≠61)(M:((bb s e).toNat:Int)≠64)(b:((bb s e).toNat:Int)≠91)(A:((bb s e).toNat:Int)≠93)(n123:((bb s e).toNat:Int)≠123)(n125:((bb s e).toNat:Int)≠125)(n124:((bb s e).toNat:Int)≠124)(y:((bb s e).toNat:Int)≠35)(g:((bb s e).toNat:Int)≠95)(af:((bb s e).toNat:Int)≠97)(F:((bb s e).toNat:Int)≠98)(n99:((bb s e).toNat:Int)≠99)(n100:((bb s e).toNat:Int)≠100)(n101:((bb s e).toNat:Int)≠101)(n102:((bb s e).toNat:Int)≠102)(n103:((bb s e).toNat:Int)≠103)(n104:((bb s e).toNat:Int)≠104)(n105:((bb s e).toNat:Int)≠105)(n106:((bb s e).toNat:Int)≠106)(n107:((bb s e).toNat:Int)≠107)(n108:((bb s e).toNat:Int)≠108)(n109:((bb s e).toNat:Int)≠109)(n110:((bb s e).toNat:Int)≠110)(n111:((bb s e).toNat:Int)≠111)(n112:((bb s e).toNat:Int)≠112)(n113:((bb s e).toNat:Int)≠113)(n114:((bb s e).toNat:Int)≠114)(n115:((bb s e).toNat:Int)≠115)(n116:((bb s e).toNat:Int)≠116)(n117:((bb s e).toNat:Int)≠117)(n118:((bb s e).toNat:Int)≠118)(n119:((bb s e).toNat:Int)≠119)(n120:((bb s e).toNat:Int)≠120)(n121:((bb s e).toNat:Int)≠121)(n122:((bb s e).toNat:Int)≠122)(p:((bb s e).toNat:Int)≠65)(Y:((bb s e).toNat:Int)≠66)(H:((bb s e).toNat:Int)≠67)(Q:((bb s e).toNat:Int)≠68)(ag:((bb s e).toNat:Int)≠69)(k:((bb s e).toNat:Int)≠70)(T:((bb s e).toNat:Int)≠71)(r:((bb s e).toNat:Int)≠72)(t:((bb s e).toNat:Int)≠73)(D:((bb s e).toNat:Int)≠74)(S:((bb s e).toNat:Int)≠75)(o:((bb s e).toNat:Int)≠76)(j:((bb s e).toNat:Int)≠77)(E:((bb s e).toNat:Int)≠78)(n:((bb s e).toNat:Int)≠79)(B:((bb s e).toNat:Int)≠80)(U:((bb s e).toNat:Int)≠81)(f:((bb s e).toNat:Int)≠82)(I:((bb s e).toNat:Int)≠83)(z:((bb s e).toNat:Int)≠84)(C:((bb s e).toNat:Int)≠85)(d:((bb s e).toNat:Int)≠86)(W:((bb s e).toNat:Int)≠87)(ae:((bb s e).toNat:Int)≠88)(ai:((bb s e).toNat:Int)≠89)(q:((bb s e).toNat:Int)≠90)(V:((bb s e).toNat:Int)≠45)(X:((bb s e).toNat:Int)≠48)(R:((bb s e).toNat:Int)≠49)(a:((bb s e).toNat:Int)≠50)(l:((bb s e).toNat:Int)≠51)(v:((bb s e).toNat:Int)≠52)(aa:((bb s e).toNat:Int)≠53)(ah:((bb s e).toNat:Int)≠54)(m:((bb s e).toNat:Int)≠55)(i:((bb s e).toNat:Int)≠56)(G:((bb s e).toNat:Int)≠57)(c:((bb s e).toNat:Int)≠34):bA (al s e)=none:=by
 have O: ¬(bb s e).toNat∈known:=by
  simp only[known,G6,List.not_mem_nil,or_false,not_or];exact⟨(λ hh=>u (by rw[hh];rfl)),(λ hh=>Z (by rw[hh];rfl)),(λ hh=>w (by rw[hh];rfl)),(λ hh=>K (by rw[hh];rfl)),(λ hh=>P (by rw[hh];rfl)),(λ hh=>L (by rw[hh];rfl)),(λ hh=>ad (by rw[hh];rfl)),(λ hh=>ab (by rw[hh];rfl)),(λ hh=>M (by rw[hh];rfl)),(λ hh=>b (by rw[hh];rfl)),(λ hh=>A (by rw[hh];rfl)),(λ hh=>n123 (by rw[hh];rfl)),(λ hh=>n125 (by rw[hh];rfl)),(λ hh=>n124 (by rw[hh];rfl)),(λ hh=>y (by rw[hh];rfl)),(λ hh=>g (by rw[hh];rfl)),(λ hh=>af (by rw[hh];rfl)),(λ hh=>F (by rw[hh];rfl)),(λ hh=>n99 (by rw[hh];rfl)),(λ hh=>n100 (by rw[hh];rfl)),(λ hh=>n101 (by rw[hh];rfl)),(λ hh=>n102 (by rw[hh];rfl)),(λ hh=>n103 (by rw[hh];rfl)),(λ hh=>n104 (by rw[hh];rfl)),(λ hh=>n105 (by rw[hh];rfl)),(λ hh=>n106 (by rw[hh];rfl)),(λ hh=>n107 (by rw[hh];rfl)),(λ hh=>n108 (by rw[hh];rfl)),(λ hh=>n109 (by rw[hh];rfl)),(λ hh=>n110 (by rw[hh];rfl)),(λ hh=>n111 (by rw[hh];rfl)),(λ hh=>n112 (by rw[hh];rfl)),(λ hh=>n113 (by rw[hh];rfl)),(λ hh=>n114 (by rw[hh];rfl)),(λ hh=>n115 (by rw[hh];rfl)),(λ hh=>n116 (by rw[hh];rfl)),(λ hh=>n117 (by rw[hh];rfl)),(λ hh=>n118 (by rw[hh];rfl)),(λ hh=>n119 (by rw[hh];rfl)),(λ hh=>n120 (by rw[hh];rfl)),(λ hh=>n121 (by rw[hh];rfl)),(λ hh=>n122 (by rw[hh];rfl)),(λ hh=>p (by rw[hh];rfl)),(λ hh=>Y (by rw[hh];rfl)),(λ hh=>H (by rw[hh];rfl)),(λ hh=>Q (by rw[hh];rfl)),(λ hh=>ag (by rw[hh];rfl)),(λ hh=>k (by rw[hh];rfl)),(λ hh=>T (by rw[hh];rfl)),(λ hh=>r (by rw[hh];rfl)),(λ hh=>t (by rw[hh];rfl)),(λ hh=>D (by rw[hh];rfl)),(λ hh=>S (by rw[hh];rfl)),(λ hh=>o (by rw[hh];rfl)),(λ hh=>j (by rw[hh];rfl)),(λ hh=>E (by rw[hh];rfl)),(λ hh=>n (by rw[hh];rfl)),(λ hh=>B (by rw[hh];rfl)),(λ hh=>U (by rw[hh];rfl)),(λ hh=>f (by rw[hh];rfl)),(λ hh=>I (by rw[hh];rfl)),(λ hh=>z (by rw[hh];rfl)),(λ hh=>C (by rw[hh];rfl)),(λ hh=>d (by rw[hh];rfl)),(λ hh=>W (by rw[hh];rfl)),(λ hh=>ae (by rw[hh];rfl)),(λ hh=>ai (by rw[hh];rfl)),(λ hh=>q (by rw[hh];rfl)),(λ hh=>V (by rw[hh];rfl)),(λ hh=>X (by rw[hh];rfl)),(λ hh=>R (by rw[hh];rfl)),(λ hh=>a (by rw[hh];rfl)),(λ hh=>l (by rw[hh];rfl)),(λ hh=>v (by rw[hh];rfl)),(λ hh=>aa (by rw[hh];rfl)),(λ hh=>ah (by rw[hh];rfl)),(λ hh=>m (by rw[hh];rfl)),(λ hh=>i (by rw[hh];rfl)),(λ hh=>G (by rw[hh];rfl)),(λ hh=>c (by rw[hh];rfl))⟩
 have N:=ss (λ x=>(known.contains x.toNat)||(decide (ht x=0)&&decide (x≠46)&&decide (x≠35)&&decide (ea x=false)&&decide (¬(x=45\/bZ x=true))&&decide (x≠34))) (by decide+kernel) (bb s e);have J:known.contains (bb s e).toNat=false:=by rw[Bool.eq_false_iff];intro hh;exact O (by simpa using hh)
 simp only[J,Bool.false_or,Bool.and_eq_true,decide_eq_true_eq]at N;rw[aE h,bA,if_neg (by rw[N.1.1.1.1.1];simp),if_neg N.1.1.1.1.2,if_neg N.1.1.1.2,if_neg (by rw[N.1.1.2];simp),if_neg N.1.2,if_neg N.2]
end
theorem BV: ∀aa p s a0 b c ln l0 e0 d ar T fz(ab:ao)bi,d.length=22->U8 aa->aa s=some (.cells ar T fz)->(∀(j:Nat)u,([vs ⟨#[]⟩,vs ab,vb bi]:List Value)[j]?=some u->ar[j]?=some u)->e0<=ab.size->ab.size<=17179869184->
 Sp 103 [vp p 0] [aX p s a0 b (e0:Int) c ln l0 d] aa (λ r M' _=>RT p s ab d ((fm (al ab e0)).map λ x=>((x.1:Int),x.2.1,x.2.2)) r M'):=by
 intro aa p s a0 b c ln l0 e0 d ar T fz ab bi f an hg J t dB;refine aW Tryz.func103 λ F=>?_
 refine rZ 8 [] [1,1] (λ b1=>[(0,vp p 0),(2,vp (b1 0) 0),(5,vp p 0)]) (λ b1=>H6 (b1 0)::aX p s a0 b (e0:Int) c ln l0 d::F) λ b1=>cl 138 [vp p 0] (some 6) [1,2] [1] (c138 aa p s e0 a0 b c ln l0 d ar T fz ⟨#[]⟩ ab bi f hg J t om) rfl ?_;rintro _ _ ak P ⟨rfl,a,D,h,l,hle,b0,b4,rfl⟩;rw[show fm (al ab e0)=bA (al ab a)from by unfold fm;rw[b4]];have hg:=P _ _ hg;have an:=an.mono P;refine bf.ro (b:=s) (off:=0) (cells:=[vs ⟨#[]⟩,vs ab,vb bi]) hg (by simpa using J) ?_;refine zg ?_;refine(h5 25 [1,1,1,1] [4,0] [0,2])<|(qz)<|(mK [0,13] [1,1,100] [33])<|(iz 33 (decide ((a:Int)>=ab.size))) (λ m=>?_) (λ m=>?_);have m: ¬a<ab.size:=by have S:=m;simp at S;omega
 refine(gp 4 [4,1,0,0,1] [34])<|(cz [1] (c139 _ p s 1 a a D D h l d ar T fz ⟨#[]⟩ ab bi f hg J (HZ _) b0)) λ|_,_,aB,aA,⟨rfl,q1,q2,q3,Z,rfl⟩=>(gK 5 [2] 2 [1] [3])<|ez 2 (hO 1 (ab.extract a a) q1 q2 q3 Z s) [aX p s (a:Int) D (a:Int) D h l d] [1,1] lq ?_;rw[cA m];exact⟨_,a,_,_,_,_,_,_,_,_,b0,cA m,by rw[show ab.extract a a=(⟨#[]⟩:ao)from by apply ByteArray.ext;rw[Ii];apply Array.eq_empty_of_size_eq_zero;rw[Array.size_extract];omega];rfl,rfl⟩;have I:a<ab.size:=by have S:=m;simp at S;omega
 refine(gp 3 [5] [])<|(qz)<|(cu [0,11] [1,100,1] [44,48])<|(nS 11 (.index 9 (.tmp 44) (.tmp 48)) [vs ab,vi a] (v:=(.int .u8 (bt ab (a:Int)))) (aS kr om om))<|(ja 0 [] [4]) λ _=>(bL)<|(cI 33 [1,1,1,1] [8,1,0,1] [64,65])<|(sw 1 3 (wn (a+1) (a+1)))<|(dz [0]) ?_;refine jY (ι:=Unit) (λ i=>ak) (λ i=>⟨(8::1::0::gf 31 [0,0]),[(0,vp p 0),(2,vp (b1 0) 0)],aX p s (a:Int) D ((a+1:Nat):Int) (aj (D+1)) h l d::H6 (b1 0)::F⟩) (λ i=>ea (bb ab a)=true) ?_ (λ e=>?_);rintro⟨u⟩ A;refine(cq 2 0 [1] [2,257])<|(cz [0] (Fg _ p s D (aj (D+1)) h l a (a+1) d ar T fz ⟨#[]⟩ ab bi f an hg J om om om)) ?_;rintro _ _ aB aA k;obtain⟨y,C,Q,yc,E,G,q1,q2,q3,Z,H,K,rfl,rfl⟩:=k;refine(gK 5 [1] 2 [1] [3])<|ez 1 (.tuple #[.agg #[vi 16,vs (ab.extract a (ab.size-((al ab (a+1)).dropWhile dj).length)),vi q1,vi q2,vi q3,vi Z,vp s 0],.nilIface]) [aX p s y Q (C:Int) yc E G d] [1] lq ?_;rw[wh I A];exact⟨y,C,Q,yc,E,G,q1,q2,q3,Z,H,K,rfl,rfl⟩;refine jY (ι:=Unit) (λ i=>ak) (λ i=>⟨(8::1::0::gf 33 [0,0]),[(0,vp p 0),(2,vp (b1 0) 0)],aX p s (a:Int) D ((a+1:Nat):Int) (aj (D+1)) h l d::H6 (b1 0)::F⟩) (λ i=>bb ab a=45\/bZ (bb ab a)=true) ?_ (λ o=>?_);rintro⟨u⟩ A;refine(cq 2 0 [1] [2,273]) ?_;have R:=c143 ak p s D (aj (D+1)) h l a a d ar T fz ab bi f hg J (HZ _) om om;rcases hm:di (al ab a)with _|⟨fl,nr⟩
 rw[hm]at R;refine(cz [0] (R)) ?_;rintro _ _ aB aA k;obtain⟨y,Q,C,yc,E,G,g,q1,q2,q3,Z,rfl,rfl⟩:=k;refine(gK 5 [1] 2 [1] [3])<|ez 1 (iW q1 q2 q3 Z s g) [aX p s y Q C yc E G d] [1] lq ?_;rw[tM I A,hm];exact⟨y,Q,C,yc,E,G,g,q1,q2,q3,Z,rfl,rfl⟩;rw[hm]at R;refine(cz [0] (R)) ?_;rintro _ _ aB aA k;obtain⟨y,C,Q,yc,E,G,q1,q2,q3,Z,H,K,rfl,rfl⟩:=k;refine(rv 5 [1] 2 [1] [2,3])<|ez 1 (hO (if fl=true then 18 else 17) (ab.extract a (ab.size-nr.length)) q1 q2 q3 Z s) [aX p s y Q (C:Int) yc E G d] [1] lq ?_;rw[tM I A,hm];exact⟨y,C,Q,yc,E,G,q1,q2,q3,Z,H,K,(by cases fl<;>rfl),rfl⟩;refine jY (ι:=Unit) (λ i=>ak) (λ i=>⟨[9],[(0,vp p 0),(2,vp (b1 0) 0),(4,.int .u8 (bt ab (a:Int)))],aX p s (a:Int) D ((a+1:Nat):Int) (aj (D+1)) h l d::H6 (b1 0)::F⟩) (λ i=>bA (al ab a)=none) ?_ (λ z=>?_);rintro⟨u⟩ q;refine(h5 27 [0,0,0,0] [11,0,3] [0,2,4,337])<|(iz 337 (decide ((bt ab (a:Int))<32))) (λ B=>?_) (λ B=>?_);refine(aM 4 1 [7] [341])<|(iz 341 ((bt ab (a:Int)) !=9)) (λ ax=>?_) (λ ax=>?_);refine(aM 4 1 [11] [345])<|(iz 345 ((bt ab (a:Int)) !=10)) (λ b7=>?_) (λ b7=>?_);refine(aM 4 2 [1] [348])<|(iz 348 ((bt ab (a:Int)) !=13)) (λ b6=>?_) (λ b6=>?_);refine(aM 4 0 [0,0,1] [349])<|(cz [0] (c146 _ p s (⟨#[67,97,110,110,111,116,32,99,111,110,116,97,105,110,32,116,104,101,32,105,110,118,97,108,105,100,32,99,104,97,114,97,99,116,101,114]⟩) (a:Int) D (aj (((a+1:Nat):Int)-1)) (aj ((aj (D+1))-1)) h l d ar T fz ab bi f hg J)) λ|_,_,aB,aA,⟨rfl,g,q1,q2,q3,Z,rfl⟩=>(gK 6 [1] 2 [1] [3])<|ez 1 (iW q1 q2 q3 Z s g) [aX p s (a:Int) D (aj (((a+1:Nat):Int)-1)) (aj ((aj (D+1))-1)) h l d] [1] lq ?_;rw[q];exact⟨_,_,_,_,_,_,g,q1,q2,q3,Z,rfl,rfl⟩;refine(gp 8 [12,1] [355])<|(iz 355 ((bt ab (a:Int))==39)) (λ b8=>?_) (λ b8=>?_);refine(aM 4 0 [0,0,1] [356])<|(cz [0] (c146 _ p s (⟨#[85,110,101,120,112,101,99,116,101,100,32,115,105,110,103,108,101,32,113,117,111,116,101,32,99,104,97,114,97,99,116,101,114,32,40,39,41,44,32,100,105,100,32,121,111,117,32,109,101,97,110,32,116,111,32,117,115,101,32,97,32,100,111,117,98,108,101,32,113,117,111,116,101,32,40,34,41,63]⟩) (a:Int) D (aj (((a+1:Nat):Int)-1)) (aj ((aj (D+1))-1)) h l d ar T fz ab bi f hg J)) λ|_,_,aB,aA,⟨rfl,g,q1,q2,q3,Z,rfl⟩=>rZ 6 [1] [12,1,0,1] (λ _=>[(2,vp (b1 0) 0),(3,.iface 264 (vp g 0))]) (λ _=>aX p s (a:Int) D (aj (((a+1:Nat):Int)-1)) (aj ((aj (D+1))-1)) h l d::.av (b1 0) 105 [vi 0,vs ⟨#[]⟩,vi q1,vi q2,vi q3,vi Z,vp s 0]::F) λ _=>zg ?_;refine ez 1 (iW q1 q2 q3 Z s g) [aX p s (a:Int) D (aj (((a+1:Nat):Int)-1)) (aj ((aj (D+1))-1)) h l d] [1] lq ?_;rw[q];exact⟨_,_,_,_,_,_,g,q1,q2,q3,Z,rfl,rfl⟩;refine(gp 5 [13,1] [361])<|(cz [0] (c146 _ p s (⟨#[67,97,110,110,111,116,32,112,97,114,115,101,32,116,104,101,32,117,110,101,120,112,101,99,116,101,100,32,99,104,97,114,97,99,116,101,114,46]⟩) (a:Int) D (aj (((a+1:Nat):Int)-1)) (aj ((aj (D+1))-1)) h l d ar T fz ab bi f hg J)) λ|_,_,aB,aA,⟨rfl,g,q1,q2,q3,Z,rfl⟩=>rZ 6 [1] [14] (λ _=>[(2,vp (b1 0) 0),(3,.iface 264 (vp g 0))]) (λ _=>aX p s (a:Int) D (aj (((a+1:Nat):Int)-1)) (aj ((aj (D+1))-1)) h l d::.av (b1 0) 105 [vi 0,vs ⟨#[]⟩,vi q1,vi q2,vi q3,vi Z,vp s 0]::F) λ _=>zg ?_;refine ez 1 (iW q1 q2 q3 Z s g) [aX p s (a:Int) D (aj (((a+1:Nat):Int)-1)) (aj ((aj (D+1))-1)) h l d] [1] lq ?_
 rw[q];exact⟨_,_,_,_,_,_,g,q1,q2,q3,Z,rfl,rfl⟩;refine(gp 12 [12,1] [355])<|(iz 355 ((bt ab (a:Int))==39)) (λ b3=>?_) (λ b3=>?_);refine(aM 4 0 [0,0,1] [356])<|(cz [0] (c146 _ p s (⟨#[85,110,101,120,112,101,99,116,101,100,32,115,105,110,103,108,101,32,113,117,111,116,101,32,99,104,97,114,97,99,116,101,114,32,40,39,41,44,32,100,105,100,32,121,111,117,32,109,101,97,110,32,116,111,32,117,115,101,32,97,32,100,111,117,98,108,101,32,113,117,111,116,101,32,40,34,41,63]⟩) (a:Int) D (aj (((a+1:Nat):Int)-1)) (aj ((aj (D+1))-1)) h l d ar T fz ab bi f hg J)) λ|_,_,aB,aA,⟨rfl,g,q1,q2,q3,Z,rfl⟩=>(gK 6 [1] 2 [1] [3])<|ez 1 (iW q1 q2 q3 Z s g) [aX p s (a:Int) D (aj (((a+1:Nat):Int)-1)) (aj ((aj (D+1))-1)) h l d] [1] lq ?_;rw[q];exact⟨_,_,_,_,_,_,g,q1,q2,q3,Z,rfl,rfl⟩;refine(gp 5 [13,1] [361])<|(cz [0] (c146 _ p s (⟨#[67,97,110,110,111,116,32,112,97,114,115,101,32,116,104,101,32,117,110,101,120,112,101,99,116,101,100,32,99,104,97,114,97,99,116,101,114,46]⟩) (a:Int) D (aj (((a+1:Nat):Int)-1)) (aj ((aj (D+1))-1)) h l d ar T fz ab bi f hg J)) λ|_,_,aB,aA,⟨rfl,g,q1,q2,q3,Z,rfl⟩=>(cI 6 [1] [14] [3])<|ez 1 (iW q1 q2 q3 Z s g) [aX p s (a:Int) D (aj (((a+1:Nat):Int)-1)) (aj ((aj (D+1))-1)) h l d] [1] lq ?_;rw[q];exact⟨_,_,_,_,_,_,g,q1,q2,q3,Z,rfl,rfl⟩;refine(gp 16 [12,1] [355])<|(iz 355 ((bt ab (a:Int))==39)) (λ b5=>?_) (λ b5=>?_);refine(aM 4 0 [0,0,1] [356])<|(cz [0] (c146 _ p s (⟨#[85,110,101,120,112,101,99,116,101,100,32,115,105,110,103,108,101,32,113,117,111,116,101,32,99,104,97,114,97,99,116,101,114,32,40,39,41,44,32,100,105,100,32,121,111,117,32,109,101,97,110,32,116,111,32,117,115,101,32,97,32,100,111,117,98,108,101,32,113,117,111,116,101,32,40,34,41,63]⟩) (a:Int) D (aj (((a+1:Nat):Int)-1)) (aj ((aj (D+1))-1)) h l d ar T fz ab bi f hg J)) λ|_,_,aB,aA,⟨rfl,g,q1,q2,q3,Z,rfl⟩=>(gK 6 [1] 2 [1] [3])<|ez 1 (iW q1 q2 q3 Z s g) [aX p s (a:Int) D (aj (((a+1:Nat):Int)-1)) (aj ((aj (D+1))-1)) h l d] [1] lq ?_;rw[q];exact⟨_,_,_,_,_,_,g,q1,q2,q3,Z,rfl,rfl⟩;refine(gp 5 [13,1] [361])<|(cz [0] (c146 _ p s (⟨#[67,97,110,110,111,116,32,112,97,114,115,101,32,116,104,101,32,117,110,101,120,112,101,99,116,101,100,32,99,104,97,114,97,99,116,101,114,46]⟩) (a:Int) D (aj (((a+1:Nat):Int)-1)) (aj ((aj (D+1))-1)) h l d ar T fz ab bi f hg J)) λ|_,_,aB,aA,⟨rfl,g,q1,q2,q3,Z,rfl⟩=>(cI 6 [1] [14] [3])<|ez 1 (iW q1 q2 q3 Z s g) [aX p s (a:Int) D (aj (((a+1:Nat):Int)-1)) (aj ((aj (D+1))-1)) h l d] [1] lq ?_;rw[q];exact⟨_,_,_,_,_,_,g,q1,q2,q3,Z,rfl,rfl⟩;refine(gp 20 [12,1] [355])<|(iz 355 ((bt ab (a:Int))==39)) (λ b2=>?_) (λ b2=>?_);refine(aM 4 0 [0,0,1] [356])<|(cz [0] (c146 _ p s (⟨#[85,110,101,120,112,101,99,116,101,100,32,115,105,110,103,108,101,32,113,117,111,116,101,32,99,104,97,114,97,99,116,101,114,32,40,39,41,44,32,100,105,100,32,121,111,117,32,109,101,97,110,32,116,111,32,117,115,101,32,97,32,100,111,117,98,108,101,32,113,117,111,116,101,32,40,34,41,63]⟩) (a:Int) D (aj (((a+1:Nat):Int)-1)) (aj ((aj (D+1))-1)) h l d ar T fz ab bi f hg J)) λ|_,_,aB,aA,⟨rfl,g,q1,q2,q3,Z,rfl⟩=>(gK 6 [1] 2 [1] [3])<|ez 1 (iW q1 q2 q3 Z s g) [aX p s (a:Int) D (aj (((a+1:Nat):Int)-1)) (aj ((aj (D+1))-1)) h l d] [1] lq ?_;rw[q];exact⟨_,_,_,_,_,_,g,q1,q2,q3,Z,rfl,rfl⟩
 refine(gp 5 [13,1] [361])<|(cz [0] (c146 _ p s (⟨#[67,97,110,110,111,116,32,112,97,114,115,101,32,116,104,101,32,117,110,101,120,112,101,99,116,101,100,32,99,104,97,114,97,99,116,101,114,46]⟩) (a:Int) D (aj (((a+1:Nat):Int)-1)) (aj ((aj (D+1))-1)) h l d ar T fz ab bi f hg J)) λ|_,_,aB,aA,⟨rfl,g,q1,q2,q3,Z,rfl⟩=>(cI 6 [1] [14] [3])<|ez 1 (iW q1 q2 q3 Z s g) [aX p s (a:Int) D (aj (((a+1:Nat):Int)-1)) (aj ((aj (D+1))-1)) h l d] [1] lq ?_;rw[q];exact⟨_,_,_,_,_,_,g,q1,q2,q3,Z,rfl,rfl⟩;refine(iz 65 ((bt ab (a:Int))==33)) (λ bX=>?_) (λ bX=>?_);have hb:=bc (n:=33) dc bX;refine(cq 4 0 [0,0,1] [2,67])<|(cz [0] (j1 _ p s 2 ⟨#[]⟩ a D ((a+1:Nat):Int) (aj (D+1)) h l d f)) λ|_,_,aB,aA,⟨rfl,q1,q2,q3,Z,rfl⟩=>(gK 5 [1] 2 [1] [3])<|ez 1 (hO 2 ⟨#[]⟩ q1 q2 q3 Z s) [aX p s (a:Int) D ((a+1:Nat):Int) (aj (D+1)) h l d] [1] lq ?_;rw[show bA (al ab a)=some (2,⟨#[]⟩,al ab (a+1))from by rw[aE I,hb];rfl];exact⟨_,a+1,_,_,_,_,q1,q2,q3,Z,I,rfl,rfl,rfl⟩;refine(cq 6 0 [1,1] [0,2,4,64,71])<|(iz 71 ((bt ab (a:Int))==36)) (λ aw=>?_) (λ aw=>?_);have hb:=bc (n:=36) dc aw;refine(aM 4 0 [0,0,1] [73])<|(cz [0] (j1 _ p s 3 ⟨#[]⟩ a D ((a+1:Nat):Int) (aj (D+1)) h l d f)) λ|_,_,aB,aA,⟨rfl,q1,q2,q3,Z,rfl⟩=>(gK 5 [1] 2 [1] [3])<|ez 1 (hO 3 ⟨#[]⟩ q1 q2 q3 Z s) [aX p s (a:Int) D ((a+1:Nat):Int) (aj (D+1)) h l d] [1] lq ?_;rw[show bA (al ab a)=some (3,⟨#[]⟩,al ab (a+1))from by rw[aE I,hb];rfl];exact⟨_,a+1,_,_,_,_,q1,q2,q3,Z,I,rfl,rfl,rfl⟩;refine(aM 6 0 [1,1] [77])<|(iz 77 ((bt ab (a:Int))==38)) (λ az=>?_) (λ az=>?_);have hb:=bc (n:=38) dc az;refine(aM 4 0 [0,0,1] [79])<|(cz [0] (j1 _ p s 4 ⟨#[]⟩ a D ((a+1:Nat):Int) (aj (D+1)) h l d f)) λ|_,_,aB,aA,⟨rfl,q1,q2,q3,Z,rfl⟩=>(gK 5 [1] 2 [1] [3])<|ez 1 (hO 4 ⟨#[]⟩ q1 q2 q3 Z s) [aX p s (a:Int) D ((a+1:Nat):Int) (aj (D+1)) h l d] [1] lq ?_;rw[show bA (al ab a)=some (4,⟨#[]⟩,al ab (a+1))from by rw[aE I,hb];rfl];exact⟨_,a+1,_,_,_,_,q1,q2,q3,Z,I,rfl,rfl,rfl⟩;refine(aM 6 0 [1,1] [83])<|(iz 83 ((bt ab (a:Int))==40)) (λ bV=>?_) (λ bV=>?_);have hb:=bc (n:=40) dc bV;refine(aM 4 0 [0,0,1] [85])<|(cz [0] (j1 _ p s 5 ⟨#[]⟩ a D ((a+1:Nat):Int) (aj (D+1)) h l d f)) λ|_,_,aB,aA,⟨rfl,q1,q2,q3,Z,rfl⟩=>(gK 5 [1] 2 [1] [3])<|ez 1 (hO 5 ⟨#[]⟩ q1 q2 q3 Z s) [aX p s (a:Int) D ((a+1:Nat):Int) (aj (D+1)) h l d] [1] lq ?_;rw[show bA (al ab a)=some (5,⟨#[]⟩,al ab (a+1))from by rw[aE I,hb];rfl];exact⟨_,a+1,_,_,_,_,q1,q2,q3,Z,I,rfl,rfl,rfl⟩;refine(aM 6 0 [1,1] [89])<|(iz 89 ((bt ab (a:Int))==41)) (λ cY=>?_) (λ cY=>?_);have hb:=bc (n:=41) dc cY;refine(aM 4 0 [0,0,1] [91])<|(cz [0] (j1 _ p s 6 ⟨#[]⟩ a D ((a+1:Nat):Int) (aj (D+1)) h l d f)) λ|_,_,aB,aA,⟨rfl,q1,q2,q3,Z,rfl⟩=>(gK 5 [1] 2 [1] [3])<|ez 1 (hO 6 ⟨#[]⟩ q1 q2 q3 Z s) [aX p s (a:Int) D ((a+1:Nat):Int) (aj (D+1)) h l d] [1] lq ?_;rw[show bA (al ab a)=some (6,⟨#[]⟩,al ab (a+1))from by rw[aE I,hb];rfl];exact⟨_,a+1,_,_,_,_,q1,q2,q3,Z,I,rfl,rfl,rfl⟩;refine(aM 6 0 [1,1] [95])<|(iz 95 ((bt ab (a:Int))==46)) (λ U=>?_) (λ U=>?_);have hb:=bc (n:=46) dc U
 refine(eW hg J)<|(aM 2 0 [0,0] [])<|(qz)<|(cu [0,15] [1,100,1] [111])<|(lP 111 (decide ((ab.size:Int)>(aj ((a:Int)+2))))) (λ S=>?_) (λ S=>?_);have S:a+2<ab.size:=by have Y:=S;rw[b_ om om]at Y;simp at Y;omega
 refine(cu [15,16] [1,100,1,1] [118,122,127])<|(qo 127 (wn (a+3) (a+3)))<|(nS 31 (.slice 9 (.tmp 118) (some (.tmp 122)) (some (.tmp 127)) none) [vs ab,vi a,vi ((a+3:Nat):Int)] (v:=(vs (ab.extract a (a+3)))) (g' kr om om))<|(mK [32,2] [] [130])<|(iz 130 (ay (ab.extract a (a+3)) (⟨#[46,46,46]⟩))) (λ aI=>?_) (λ aI=>?_);have aI:=oR (n:=46) (mg aI) om;refine(dz [0]) ?_;refine rZ 26 [0,0,0,0] (8::1::0::gf 11 [0,1,0,2,1]) (λ _=>[(2,vp (b1 0) 0),(145,vp p 0)]) (λ _=>aX p s (a:Int) D (aj (((a+1:Nat):Int)+2)) (aj ((aj (D+1))+2)) h l d::H6 (b1 0)::F) λ _=>zg ?_;refine(sw 0 3 (wn (((a+1:Nat):Int)+2) (a+3)))<|(cz [0] (j1 _ p s 7 ⟨#[]⟩ a D ((a+3:Nat):Int) (aj ((aj (D+1))+2)) h l d f)) λ|_,_,aB,aA,⟨rfl,q1,q2,q3,Z,rfl⟩=>(rv 5 [1] 2 [3] [2,3])<|ez 1 (hO 7 ⟨#[]⟩ q1 q2 q3 Z s) [aX p s (a:Int) D ((a+3:Nat):Int) (aj ((aj (D+1))+2)) h l d] [1] lq ?_;rw[v7 I hb aI];exact⟨_,a+3,_,_,_,_,q1,q2,q3,Z,S,rfl,rfl,rfl⟩;refine(dz [0]) ?_;refine rZ 4 [] [9] (λ _=>[(0,vp p 0),(2,vp (b1 0) 0),(4,.int .u8 (bt ab (a:Int)))]) (λ _=>aX p s (a:Int) D ((a+1:Nat):Int) (aj (D+1)) h l d::H6 (b1 0)::F) λ _=>zg ?_;exact lz (z () (l2 I hb (.inr (mi aI))));have S: ¬a+2<ab.size:=by have Y:=S;rw[b_ om om]at Y;simp at Y;omega
 refine(mK [15,19] [] [130]) ?_;refine rZ 4 [] [9] (λ _=>[(0,vp p 0),(2,vp (b1 0) 0),(4,.int .u8 (bt ab (a:Int)))]) (λ _=>.ro s 0 [vs ⟨#[]⟩,vs ab,vb bi]::aX p s (a:Int) D ((a+1:Nat):Int) (aj (D+1)) h l d::H6 (b1 0)::F) λ _=>zg ?_;refine(dz [0])<|lz (z () (l2 I hb (.inl S)));refine(cq 6 0 [1,1] [0,2,4,64,149])<|(iz 149 ((bt ab (a:Int))==58)) (λ bm=>?_) (λ bm=>?_);have hb:=bc (n:=58) dc bm;refine rZ 4 [] (8::1::0::gf 13 [0,0,1]) (λ _=>[(2,vp (b1 0) 0),(151,vp p 0)]) (λ _=>aX p s (a:Int) D ((a+1:Nat):Int) (aj (D+1)) h l d::H6 (b1 0)::F) λ _=>zg ?_;refine(cz [0] (j1 _ p s 8 ⟨#[]⟩ a D ((a+1:Nat):Int) (aj (D+1)) h l d f)) λ|_,_,aB,aA,⟨rfl,q1,q2,q3,Z,rfl⟩=>(rv 5 [1] 2 [1] [2,3])<|ez 1 (hO 8 ⟨#[]⟩ q1 q2 q3 Z s) [aX p s (a:Int) D ((a+1:Nat):Int) (aj (D+1)) h l d] [1] lq ?_;rw[show bA (al ab a)=some (8,⟨#[]⟩,al ab (a+1))from by rw[aE I,hb];rfl];exact⟨_,a+1,_,_,_,_,q1,q2,q3,Z,I,rfl,rfl,rfl⟩;refine rZ 6 [] (8::1::0::gf 15 []) (λ _=>[(0,vp p 0),(2,vp (b1 0) 0),(4,.int .u8 (bt ab (a:Int))),(64,.int .u8 (bt ab (a:Int))),(155,vb ((bt ab (a:Int))==61))]) (λ _=>aX p s (a:Int) D ((a+1:Nat):Int) (aj (D+1)) h l d::H6 (b1 0)::F) λ _=>zg ?_;refine(iz 155 ((bt ab (a:Int))==61)) (λ ba=>?_) (λ ba=>?_);have hb:=bc (n:=61) dc ba;refine(cq 4 0 [0,0,1] [2,157])<|(cz [0] (j1 _ p s 9 ⟨#[]⟩ a D ((a+1:Nat):Int) (aj (D+1)) h l d f)) λ|_,_,aB,aA,⟨rfl,q1,q2,q3,Z,rfl⟩=>(gK 5 [1] 2 [1] [3])<|ez 1 (hO 9 ⟨#[]⟩ q1 q2 q3 Z s) [aX p s (a:Int) D ((a+1:Nat):Int) (aj (D+1)) h l d] [1] lq ?_;rw[show bA (al ab a)=some (9,⟨#[]⟩,al ab (a+1))from by rw[aE I,hb];rfl];exact⟨_,a+1,_,_,_,_,q1,q2,q3,Z,I,rfl,rfl,rfl⟩;refine(cq 6 0 [1,1] [0,2,4,64,161])<|(iz 161 ((bt ab (a:Int))==64)) (λ bY=>?_) (λ bY=>?_);have hb:=bc (n:=64) dc bY;refine(aM 4 0 [0,0,1] [163])<|(cz [0] (j1 _ p s 10 ⟨#[]⟩ a D ((a+1:Nat):Int) (aj (D+1)) h l d f)) λ|_,_,aB,aA,⟨rfl,q1,q2,q3,Z,rfl⟩=>(gK 5 [1] 2 [1] [3])<|ez 1 (hO 10 ⟨#[]⟩ q1 q2 q3 Z s) [aX p s (a:Int) D ((a+1:Nat):Int) (aj (D+1)) h l d] [1] lq ?_;rw[show bA (al ab a)=some (10,⟨#[]⟩,al ab (a+1))from by rw[aE I,hb];rfl];exact⟨_,a+1,_,_,_,_,q1,q2,q3,Z,I,rfl,rfl,rfl⟩;refine(aM 6 0 [1,1] [167])<|(iz 167 ((bt ab (a:Int))==91)) (λ bs=>?_) (λ bs=>?_);have hb:=bc (n:=91) dc bs;refine(aM 4 0 [0,0,1] [169])<|(cz [0] (j1 _ p s 11 ⟨#[]⟩ a D ((a+1:Nat):Int) (aj (D+1)) h l d f)) λ|_,_,aB,aA,⟨rfl,q1,q2,q3,Z,rfl⟩=>(gK 5 [1] 2 [1] [3])<|ez 1 (hO 11 ⟨#[]⟩ q1 q2 q3 Z s) [aX p s (a:Int) D ((a+1:Nat):Int) (aj (D+1)) h l d] [1] lq ?_;rw[show bA (al ab a)=some (11,⟨#[]⟩,al ab (a+1))from by rw[aE I,hb];rfl];exact⟨_,a+1,_,_,_,_,q1,q2,q3,Z,I,rfl,rfl,rfl⟩;refine(aM 6 0 [1,1] [173])<|(iz 173 ((bt ab (a:Int))==93)) (λ bJ=>?_) (λ bJ=>?_);have hb:=bc (n:=93) dc bJ;refine(aM 4 0 [0,0,1] [175])<|(cz [0] (j1 _ p s 12 ⟨#[]⟩ a D ((a+1:Nat):Int) (aj (D+1)) h l d f)) λ|_,_,aB,aA,⟨rfl,q1,q2,q3,Z,rfl⟩=>(gK 5 [1] 2 [1] [3])<|ez 1 (hO 12 ⟨#[]⟩ q1 q2 q3 Z s) [aX p s (a:Int) D ((a+1:Nat):Int) (aj (D+1)) h l d] [1] lq ?_
 rw[show bA (al ab a)=some (12,⟨#[]⟩,al ab (a+1))from by rw[aE I,hb];rfl];exact⟨_,a+1,_,_,_,_,q1,q2,q3,Z,I,rfl,rfl,rfl⟩;refine(aM 6 0 [1,1] [179])<|(iz 179 ((bt ab (a:Int))==123)) (λ ai=>?_) (λ ai=>?_);have hb:=bc (n:=123) dc ai;refine(aM 4 0 [0,0,1] [181])<|(cz [0] (j1 _ p s 13 ⟨#[]⟩ a D ((a+1:Nat):Int) (aj (D+1)) h l d f)) λ|_,_,aB,aA,⟨rfl,q1,q2,q3,Z,rfl⟩=>(gK 5 [1] 2 [1] [3])<|ez 1 (hO 13 ⟨#[]⟩ q1 q2 q3 Z s) [aX p s (a:Int) D ((a+1:Nat):Int) (aj (D+1)) h l d] [1] lq ?_;rw[show bA (al ab a)=some (13,⟨#[]⟩,al ab (a+1))from by rw[aE I,hb];rfl];exact⟨_,a+1,_,_,_,_,q1,q2,q3,Z,I,rfl,rfl,rfl⟩;refine(aM 6 0 [1,1] [185])<|(iz 185 ((bt ab (a:Int))==125)) (λ aH=>?_) (λ aH=>?_);have hb:=bc (n:=125) dc aH;refine(aM 4 0 [0,0,1] [187])<|(cz [0] (j1 _ p s 14 ⟨#[]⟩ a D ((a+1:Nat):Int) (aj (D+1)) h l d f)) λ|_,_,aB,aA,⟨rfl,q1,q2,q3,Z,rfl⟩=>(gK 5 [1] 2 [1] [3])<|ez 1 (hO 14 ⟨#[]⟩ q1 q2 q3 Z s) [aX p s (a:Int) D ((a+1:Nat):Int) (aj (D+1)) h l d] [1] lq ?_;rw[show bA (al ab a)=some (14,⟨#[]⟩,al ab (a+1))from by rw[aE I,hb];rfl];exact⟨_,a+1,_,_,_,_,q1,q2,q3,Z,I,rfl,rfl,rfl⟩;refine(aM 6 0 [1,1] [191])<|(iz 191 ((bt ab (a:Int))==124)) (λ V=>?_) (λ V=>?_);have hb:=bc (n:=124) dc V;refine(aM 4 0 [0,0,1] [193])<|(cz [0] (j1 _ p s 15 ⟨#[]⟩ a D ((a+1:Nat):Int) (aj (D+1)) h l d f)) λ|_,_,aB,aA,⟨rfl,q1,q2,q3,Z,rfl⟩=>(gK 5 [1] 2 [1] [3])<|ez 1 (hO 15 ⟨#[]⟩ q1 q2 q3 Z s) [aX p s (a:Int) D ((a+1:Nat):Int) (aj (D+1)) h l d] [1] lq ?_;rw[show bA (al ab a)=some (15,⟨#[]⟩,al ab (a+1))from by rw[aE I,hb];rfl];exact⟨_,a+1,_,_,_,_,q1,q2,q3,Z,I,rfl,rfl,rfl⟩;refine(aM 6 0 [1,1] [197])<|(iz 197 ((bt ab (a:Int))==35)) (λ W=>?_) (λ W=>?_);have hb:=bc (n:=35) dc W;refine(aM 4 0 [0,0,1] [199])<|(cz [0] (c141 _ p s D (aj (D+1)) h l a (a+1) d ar T fz ⟨#[]⟩ ab bi f an hg J om om om)) ?_;rintro _ _ aB aA k;obtain⟨y,C,Q,yc,E,G,q1,q2,q3,Z,H,K,rfl,rfl⟩:=k;refine(gK 5 [1] 2 [1] [3])<|ez 1 (.tuple #[.agg #[vi 21,vs (ab.extract a (ab.size-((al ab (a+1)).dropWhile gX).length)),vi q1,vi q2,vi q3,vi Z,vp s 0],.nilIface]) [aX p s y Q (C:Int) yc E G d] [1] lq ?_;rw[Bq I hb];exact⟨y,C,Q,yc,E,G,q1,q2,q3,Z,H,K,rfl,rfl⟩;refine(aM 7 0 [1,0,1] [203])<|(iz 203 ((bt ab (a:Int))==95)) (λ bj=>?_) (λ bj=>?_);have hb:=bc (n:=95) dc bj;refine(aM 4 2 [1,0,0] [])<|lz (e () (by rw[hb];decide));refine(aM 6 0 [1,1] [])<|(iz 203 ((bt ab (a:Int))==97)) (λ bC=>?_) (λ bC=>?_);have hb:=bc (n:=97) dc bC;refine rZ 4 [] (8::1::0::gf 31 [0,0]) (λ _=>[(0,vp p 0),(2,vp (b1 0) 0)]) (λ _=>aX p s (a:Int) D ((a+1:Nat):Int) (aj (D+1)) h l d::H6 (b1 0)::F) λ _=>zg ?_;exact lz (e () (by rw[hb];decide));refine rZ 6 [] (8::1::0::gf 30 [0,1,1,1,1,1]) (λ _=>[(0,vp p 0),(2,vp (b1 0) 0),(4,.int .u8 (bt ab (a:Int))),(64,.int .u8 (bt ab (a:Int))),(203,vb ((bt ab (a:Int))==98))]) (λ _=>aX p s (a:Int) D ((a+1:Nat):Int) (aj (D+1)) h l d::H6 (b1 0)::F) λ _=>zg ?_;refine(iz 203 ((bt ab (a:Int))==98)) (λ bu=>?_) (λ bu=>?_);have hb:=bc (n:=98) dc bu
 refine(cq 4 6 [1,0,0] [0,2])<|lz (e () (by rw[hb];decide));refine(cq 6 0 [1,1] [0,2,4,64,203])<|(iz 203 ((bt ab (a:Int))==99)) (λ a6=>?_) (λ a6=>?_);have hb:=bc (n:=99) dc a6;refine(aM 4 8 [1,0,0] [])<|lz (e () (by rw[hb];decide));refine(aM 6 0 [1,1] [])<|(iz 203 ((bt ab (a:Int))==100)) (λ af=>?_) (λ af=>?_);have hb:=bc (n:=100) dc af;refine(aM 4 10 [1,0,0] [])<|lz (e () (by rw[hb];decide));refine(aM 6 0 [1,1] [])<|(iz 203 ((bt ab (a:Int))==101)) (λ ah=>?_) (λ ah=>?_);have hb:=bc (n:=101) dc ah;refine(aM 4 12 [1,0,0] [])<|lz (e () (by rw[hb];decide));refine(aM 6 0 [1,1] [])<|(iz 203 ((bt ab (a:Int))==102)) (λ aC=>?_) (λ aC=>?_);have hb:=bc (n:=102) dc aC;refine(aM 4 14 [1,0,0] [])<|lz (e () (by rw[hb];decide));refine(aM 6 0 [1,1] [])<|(iz 203 ((bt ab (a:Int))==103)) (λ aO=>?_) (λ aO=>?_);have hb:=bc (n:=103) dc aO;refine(aM 4 16 [1,0,0] [])<|lz (e () (by rw[hb];decide));refine(aM 6 0 [1,1] [])<|(iz 203 ((bt ab (a:Int))==104)) (λ aL=>?_) (λ aL=>?_);have hb:=bc (n:=104) dc aL;refine(aM 4 18 [1,0,0] [])<|lz (e () (by rw[hb];decide));refine(aM 6 0 [1,1] [])<|(iz 203 ((bt ab (a:Int))==105)) (λ aN=>?_) (λ aN=>?_);have hb:=bc (n:=105) dc aN;refine(aM 4 20 [1,0,0] [])<|lz (e () (by rw[hb];decide));refine(aM 6 0 [1,1] [])<|(iz 203 ((bt ab (a:Int))==106)) (λ aF=>?_) (λ aF=>?_);have hb:=bc (n:=106) dc aF;refine(aM 4 22 [1,0,0] [])<|lz (e () (by rw[hb];decide));refine(aM 6 0 [1,1] [])<|(iz 203 ((bt ab (a:Int))==107)) (λ aD=>?_) (λ aD=>?_);have hb:=bc (n:=107) dc aD;refine rZ 4 [] (8::1::0::gf 31 [0,0]) (λ _=>[(0,vp p 0),(2,vp (b1 0) 0)]) (λ _=>aX p s (a:Int) D ((a+1:Nat):Int) (aj (D+1)) h l d::H6 (b1 0)::F) λ _=>zg ?_;exact lz (e () (by rw[hb];decide));refine rZ 6 [] (8::1::0::gf 30 [0,1,1,1,1,1,1,1,1,1,1,1,1,1,1,1,1,1,1,1,1,1,1,1,1,1]) (λ _=>[(0,vp p 0),(2,vp (b1 0) 0),(4,.int .u8 (bt ab (a:Int))),(64,.int .u8 (bt ab (a:Int))),(203,vb ((bt ab (a:Int))==108))]) (λ _=>aX p s (a:Int) D ((a+1:Nat):Int) (aj (D+1)) h l d::H6 (b1 0)::F) λ _=>zg ?_;refine(iz 203 ((bt ab (a:Int))==108)) (λ X=>?_) (λ X=>?_);have hb:=bc (n:=108) dc X;refine(cq 4 26 [1,0,0] [0,2])<|lz (e () (by rw[hb];decide));refine(cq 6 0 [1,1] [0,2,4,64,203])<|(iz 203 ((bt ab (a:Int))==109)) (λ aZ=>?_) (λ aZ=>?_);have hb:=bc (n:=109) dc aZ;refine(aM 4 28 [1,0,0] [])<|lz (e () (by rw[hb];decide));refine(aM 6 0 [1,1] [])<|(iz 203 ((bt ab (a:Int))==110)) (λ aG=>?_) (λ aG=>?_);have hb:=bc (n:=110) dc aG;refine(aM 4 30 [1,0,0] [])<|lz (e () (by rw[hb];decide));refine(aM 6 0 [1,1] [])<|(iz 203 ((bt ab (a:Int))==111)) (λ aY=>?_) (λ aY=>?_);have hb:=bc (n:=111) dc aY;refine(aM 4 32 [1,0,0] [])<|lz (e () (by rw[hb];decide));refine(aM 6 0 [1,1] [])<|(iz 203 ((bt ab (a:Int))==112)) (λ aU=>?_) (λ aU=>?_);have hb:=bc (n:=112) dc aU;refine(aM 4 34 [1,0,0] [])<|lz (e () (by rw[hb];decide));refine(aM 6 0 [1,1] [])<|(iz 203 ((bt ab (a:Int))==113)) (λ ae=>?_) (λ ae=>?_);have hb:=bc (n:=113) dc ae;refine(aM 4 36 [1,0,0] []) ?_
 exact lz (e () (by rw[hb];decide));refine(aM 6 0 [1,1] [])<|(iz 203 ((bt ab (a:Int))==114)) (λ aK=>?_) (λ aK=>?_);have hb:=bc (n:=114) dc aK;refine(aM 4 38 [1,0,0] [])<|lz (e () (by rw[hb];decide));refine(aM 6 0 [1,1] [])<|(iz 203 ((bt ab (a:Int))==115)) (λ a1=>?_) (λ a1=>?_);have hb:=bc (n:=115) dc a1;refine(aM 4 40 [1,0,0] [])<|lz (e () (by rw[hb];decide));refine(aM 6 0 [1,1] [])<|(iz 203 ((bt ab (a:Int))==116)) (λ aT=>?_) (λ aT=>?_);have hb:=bc (n:=116) dc aT;refine(aM 4 42 [1,0,0] [])<|lz (e () (by rw[hb];decide));refine(aM 6 0 [1,1] [])<|(iz 203 ((bt ab (a:Int))==117)) (λ M=>?_) (λ M=>?_);have hb:=bc (n:=117) dc M;refine rZ 4 [] (8::1::0::gf 31 [0,0]) (λ _=>[(0,vp p 0),(2,vp (b1 0) 0)]) (λ _=>aX p s (a:Int) D ((a+1:Nat):Int) (aj (D+1)) h l d::H6 (b1 0)::F) λ _=>zg ?_;exact lz (e () (by rw[hb];decide));refine rZ 6 [] (8::1::0::gf 30 [0,1,1,1,1,1,1,1,1,1,1,1,1,1,1,1,1,1,1,1,1,1,1,1,1,1,1,1,1,1,1,1,1,1,1,1,1,1,1,1,1,1,1,1,1,1]) (λ _=>[(0,vp p 0),(2,vp (b1 0) 0),(4,.int .u8 (bt ab (a:Int))),(64,.int .u8 (bt ab (a:Int))),(203,vb ((bt ab (a:Int))==118))]) (λ _=>aX p s (a:Int) D ((a+1:Nat):Int) (aj (D+1)) h l d::H6 (b1 0)::F) λ _=>zg ?_;refine(iz 203 ((bt ab (a:Int))==118)) (λ aQ=>?_) (λ aQ=>?_);have hb:=bc (n:=118) dc aQ;refine(cq 4 46 [1,0,0] [0,2])<|lz (e () (by rw[hb];decide));refine(cq 6 0 [1,1] [0,2,4,64,203])<|(iz 203 ((bt ab (a:Int))==119)) (λ ad=>?_) (λ ad=>?_);have hb:=bc (n:=119) dc ad;refine(aM 4 48 [1,0,0] [])<|lz (e () (by rw[hb];decide));refine(aM 6 0 [1,1] [])<|(iz 203 ((bt ab (a:Int))==120)) (λ aP=>?_) (λ aP=>?_);have hb:=bc (n:=120) dc aP;refine(aM 4 50 [1,0,0] [])<|lz (e () (by rw[hb];decide));refine(aM 6 0 [1,1] [])<|(iz 203 ((bt ab (a:Int))==121)) (λ aV=>?_) (λ aV=>?_);have hb:=bc (n:=121) dc aV;refine(aM 4 52 [1,0,0] [])<|lz (e () (by rw[hb];decide));refine(aM 6 0 [1,1] [])<|(iz 203 ((bt ab (a:Int))==122)) (λ aR=>?_) (λ aR=>?_);have hb:=bc (n:=122) dc aR;refine(aM 4 54 [1,0,0] [])<|lz (e () (by rw[hb];decide));refine(aM 6 0 [1,1] [])<|(iz 203 ((bt ab (a:Int))==65)) (λ bR=>?_) (λ bR=>?_);have hb:=bc (n:=65) dc bR;refine(aM 4 56 [1,0,0] [])<|lz (e () (by rw[hb];decide));refine(aM 6 0 [1,1] [])<|(iz 203 ((bt ab (a:Int))==66)) (λ bp=>?_) (λ bp=>?_);have hb:=bc (n:=66) dc bp;refine(aM 4 58 [1,0,0] [])<|lz (e () (by rw[hb];decide));refine(aM 6 0 [1,1] [])<|(iz 203 ((bt ab (a:Int))==67)) (λ bT=>?_) (λ bT=>?_);have hb:=bc (n:=67) dc bT;refine(aM 4 60 [1,0,0] [])<|lz (e () (by rw[hb];decide));refine(aM 6 0 [1,1] [])<|(iz 203 ((bt ab (a:Int))==68)) (λ a8=>?_) (λ a8=>?_);have hb:=bc (n:=68) dc a8;refine(aM 4 62 [1,0,0] [])<|lz (e () (by rw[hb];decide));refine(aM 6 0 [1,1] [])<|(iz 203 ((bt ab (a:Int))==69)) (λ bw=>?_) (λ bw=>?_);have hb:=bc (n:=69) dc bw;refine rZ 4 [] (8::1::0::gf 31 [0,0]) (λ _=>[(0,vp p 0),(2,vp (b1 0) 0)]) (λ _=>aX p s (a:Int) D ((a+1:Nat):Int) (aj (D+1)) h l d::H6 (b1 0)::F) ?_;intro _
 refine zg ?_;exact lz (e () (by rw[hb];decide));refine rZ 6 [] (8::1::0::gf 30 [0,1,1,1,1,1,1,1,1,1,1,1,1,1,1,1,1,1,1,1,1,1,1,1,1,1,1,1,1,1,1,1,1,1,1,1,1,1,1,1,1,1,1,1,1,1,1,1,1,1,1,1,1,1,1,1,1,1,1,1,1,1,1,1,1,1]) (λ _=>[(0,vp p 0),(2,vp (b1 0) 0),(4,.int .u8 (bt ab (a:Int))),(64,.int .u8 (bt ab (a:Int))),(203,vb ((bt ab (a:Int))==70))]) (λ _=>aX p s (a:Int) D ((a+1:Nat):Int) (aj (D+1)) h l d::H6 (b1 0)::F) λ _=>zg ?_;refine(iz 203 ((bt ab (a:Int))==70)) (λ bN=>?_) (λ bN=>?_);have hb:=bc (n:=70) dc bN;refine(cq 4 66 [1,0,0] [0,2])<|lz (e () (by rw[hb];decide));refine(cq 6 0 [1,1] [0,2,4,64,203])<|(iz 203 ((bt ab (a:Int))==71)) (λ bF=>?_) (λ bF=>?_);have hb:=bc (n:=71) dc bF;refine(aM 4 68 [1,0,0] [])<|lz (e () (by rw[hb];decide));refine(aM 6 0 [1,1] [])<|(iz 203 ((bt ab (a:Int))==72)) (λ bz=>?_) (λ bz=>?_);have hb:=bc (n:=72) dc bz;refine(aM 4 70 [1,0,0] [])<|lz (e () (by rw[hb];decide));refine(aM 6 0 [1,1] [])<|(iz 203 ((bt ab (a:Int))==73)) (λ bk=>?_) (λ bk=>?_);have hb:=bc (n:=73) dc bk;refine(aM 4 72 [1,0,0] [])<|lz (e () (by rw[hb];decide));refine(aM 6 0 [1,1] [])<|(iz 203 ((bt ab (a:Int))==74)) (λ bn=>?_) (λ bn=>?_);have hb:=bc (n:=74) dc bn;refine(aM 4 74 [1,0,0] [])<|lz (e () (by rw[hb];decide));refine(aM 6 0 [1,1] [])<|(iz 203 ((bt ab (a:Int))==75)) (λ bE=>?_) (λ bE=>?_);have hb:=bc (n:=75) dc bE;refine(aM 4 76 [1,0,0] [])<|lz (e () (by rw[hb];decide));refine(aM 6 0 [1,1] [])<|(iz 203 ((bt ab (a:Int))==76)) (λ a_=>?_) (λ a_=>?_);have hb:=bc (n:=76) dc a_;refine(aM 4 78 [1,0,0] [])<|lz (e () (by rw[hb];decide));refine(aM 6 0 [1,1] [])<|(iz 203 ((bt ab (a:Int))==77)) (λ br=>?_) (λ br=>?_);have hb:=bc (n:=77) dc br;refine(aM 4 80 [1,0,0] [])<|lz (e () (by rw[hb];decide));refine(aM 6 0 [1,1] [])<|(iz 203 ((bt ab (a:Int))==78)) (λ bd=>?_) (λ bd=>?_);have hb:=bc (n:=78) dc bd;refine(aM 4 82 [1,0,0] [])<|lz (e () (by rw[hb];decide));refine(aM 6 0 [1,1] [])<|(iz 203 ((bt ab (a:Int))==79)) (λ bg=>?_) (λ bg=>?_);have hb:=bc (n:=79) dc bg;refine rZ 4 [] (8::1::0::gf 31 [0,0]) (λ _=>[(0,vp p 0),(2,vp (b1 0) 0)]) (λ _=>aX p s (a:Int) D ((a+1:Nat):Int) (aj (D+1)) h l d::H6 (b1 0)::F) λ _=>zg ?_;exact lz (e () (by rw[hb];decide));refine rZ 6 [] (8::1::0::gf 30 [0,1,1,1,1,1,1,1,1,1,1,1,1,1,1,1,1,1,1,1,1,1,1,1,1,1,1,1,1,1,1,1,1,1,1,1,1,1,1,1,1,1,1,1,1,1,1,1,1,1,1,1,1,1,1,1,1,1,1,1,1,1,1,1,1,1,1,1,1,1,1,1,1,1,1,1,1,1,1,1,1,1,1,1,1,1]) (λ _=>[(0,vp p 0),(2,vp (b1 0) 0),(4,.int .u8 (bt ab (a:Int))),(64,.int .u8 (bt ab (a:Int))),(203,vb ((bt ab (a:Int))==80))]) (λ _=>aX p s (a:Int) D ((a+1:Nat):Int) (aj (D+1)) h l d::H6 (b1 0)::F) λ _=>zg ?_;refine(iz 203 ((bt ab (a:Int))==80)) (λ bW=>?_) (λ bW=>?_);have hb:=bc (n:=80) dc bW;refine(cq 4 86 [1,0,0] [0,2])<|lz (e () (by rw[hb];decide));refine(cq 6 0 [1,1] [0,2,4,64,203])<|(iz 203 ((bt ab (a:Int))==81)) (λ a'=>?_) (λ a'=>?_);have hb:=bc (n:=81) dc a';refine(aM 4 88 [1,0,0] [])<|lz (e () (by rw[hb];decide));refine(aM 6 0 [1,1] [])<|(iz 203 ((bt ab (a:Int))==82)) (λ bI=>?_) (λ bI=>?_)
 have hb:=bc (n:=82) dc bI;refine(aM 4 90 [1,0,0] [])<|lz (e () (by rw[hb];decide));refine(aM 6 0 [1,1] [])<|(iz 203 ((bt ab (a:Int))==83)) (λ bD=>?_) (λ bD=>?_);have hb:=bc (n:=83) dc bD;refine(aM 4 92 [1,0,0] [])<|lz (e () (by rw[hb];decide));refine(aM 6 0 [1,1] [])<|(iz 203 ((bt ab (a:Int))==84)) (λ bB=>?_) (λ bB=>?_);have hb:=bc (n:=84) dc bB;refine(aM 4 94 [1,0,0] [])<|lz (e () (by rw[hb];decide));refine(aM 6 0 [1,1] [])<|(iz 203 ((bt ab (a:Int))==85)) (λ bK=>?_) (λ bK=>?_);have hb:=bc (n:=85) dc bK;refine(aM 4 96 [1,0,0] [])<|lz (e () (by rw[hb];decide));refine(aM 6 0 [1,1] [])<|(iz 203 ((bt ab (a:Int))==86)) (λ bq=>?_) (λ bq=>?_);have hb:=bc (n:=86) dc bq;refine(aM 4 98 [1,0,0] [])<|lz (e () (by rw[hb];decide));refine(aM 6 0 [1,1] [])<|(iz 203 ((bt ab (a:Int))==87)) (λ bS=>?_) (λ bS=>?_);have hb:=bc (n:=87) dc bS;refine(aM 4 100 [1,0,0] [])<|lz (e () (by rw[hb];decide));refine(aM 6 0 [1,1] [])<|(iz 203 ((bt ab (a:Int))==88)) (λ bU=>?_) (λ bU=>?_);have hb:=bc (n:=88) dc bU;refine(aM 4 102 [1,0,0] [])<|lz (e () (by rw[hb];decide));refine(aM 6 0 [1,1] [])<|(iz 203 ((bt ab (a:Int))==89)) (λ bO=>?_) (λ bO=>?_);have hb:=bc (n:=89) dc bO;refine rZ 4 [] (8::1::0::gf 31 [0,0]) (λ _=>[(0,vp p 0),(2,vp (b1 0) 0)]) (λ _=>aX p s (a:Int) D ((a+1:Nat):Int) (aj (D+1)) h l d::H6 (b1 0)::F) λ _=>zg ?_;exact lz (e () (by rw[hb];decide));refine rZ 5 [] (8::1::0::gf 31 []) (λ _=>[(0,vp p 0),(2,vp (b1 0) 0),(4,.int .u8 (bt ab (a:Int))),(64,.int .u8 (bt ab (a:Int))),(203,vb ((bt ab (a:Int))==90))]) (λ _=>aX p s (a:Int) D ((a+1:Nat):Int) (aj (D+1)) h l d::H6 (b1 0)::F) λ _=>zg ?_;refine(iz 203 ((bt ab (a:Int))==90)) (λ bM=>?_) (λ bM=>?_);have hb:=bc (n:=90) dc bM;refine(cq 2 0 [0,0] [0,2])<|lz (e () (by rw[hb];decide));refine(cq 7 0 [1,0,1] [0,2,4,64,261])<|(iz 261 ((bt ab (a:Int))==45)) (λ N=>?_) (λ N=>?_);have hb:=bc (n:=45) dc N;refine(aM 4 2 [1,0,0] [])<|lz (o () (by rw[hb];decide));refine(aM 6 0 [1,1] [])<|(iz 261 ((bt ab (a:Int))==48)) (λ L=>?_) (λ L=>?_);have hb:=bc (n:=48) dc L;refine(aM 4 4 [1,0,0] [])<|lz (o () (by rw[hb];decide));refine(aM 6 0 [1,1] [])<|(iz 261 ((bt ab (a:Int))==49)) (λ bH=>?_) (λ bH=>?_);have hb:=bc (n:=49) dc bH;refine(aM 4 6 [1,0,0] [])<|lz (o () (by rw[hb];decide));refine(aM 6 0 [1,1] [])<|(iz 261 ((bt ab (a:Int))==50)) (λ bl=>?_) (λ bl=>?_);have hb:=bc (n:=50) dc bl;refine(aM 4 8 [1,0,0] [])<|lz (o () (by rw[hb];decide));refine(aM 6 0 [1,1] [])<|(iz 261 ((bt ab (a:Int))==51)) (λ bo=>?_) (λ bo=>?_);have hb:=bc (n:=51) dc bo;refine(aM 4 10 [1,0,0] [])<|lz (o () (by rw[hb];decide));refine(aM 6 0 [1,1] [])<|(iz 261 ((bt ab (a:Int))==52)) (λ bG=>?_) (λ bG=>?_);have hb:=bc (n:=52) dc bG;refine(aM 4 12 [1,0,0] [])<|lz (o () (by rw[hb];decide));refine(aM 6 0 [1,1] [])<|(iz 261 ((bt ab (a:Int))==53)) (λ bP=>?_) (λ bP=>?_);have hb:=bc (n:=53) dc bP;refine(aM 4 14 [1,0,0] [])<|lz (o () (by rw[hb];decide));refine(aM 6 0 [1,1] []) ?_
 refine(iz 261 ((bt ab (a:Int))==54)) (λ a7=>?_) (λ a7=>?_);have hb:=bc (n:=54) dc a7;refine(aM 4 16 [1,0,0] [])<|lz (o () (by rw[hb];decide));refine(aM 6 0 [1,1] [])<|(iz 261 ((bt ab (a:Int))==55)) (λ bQ=>?_) (λ bQ=>?_);have hb:=bc (n:=55) dc bQ;refine rZ 4 [] (8::1::0::gf 33 [0,0]) (λ _=>[(0,vp p 0),(2,vp (b1 0) 0)]) (λ _=>aX p s (a:Int) D ((a+1:Nat):Int) (aj (D+1)) h l d::H6 (b1 0)::F) λ _=>zg ?_;exact lz (o () (by rw[hb];decide));refine rZ 6 [] (8::1::0::gf 32 [0,1,1,1,1,1,1,1,1,1,1,1,1,1,1,1,1,1,1,1]) (λ _=>[(0,vp p 0),(2,vp (b1 0) 0),(4,.int .u8 (bt ab (a:Int))),(64,.int .u8 (bt ab (a:Int))),(261,vb ((bt ab (a:Int))==56))]) (λ _=>aX p s (a:Int) D ((a+1:Nat):Int) (aj (D+1)) h l d::H6 (b1 0)::F) λ _=>zg ?_;refine(iz 261 ((bt ab (a:Int))==56)) (λ bx=>?_) (λ bx=>?_);have hb:=bc (n:=56) dc bx;refine(cq 4 20 [1,0,0] [0,2])<|lz (o () (by rw[hb];decide));refine(cq 5 20 [1] [0,2,4,64,261])<|(iz 261 ((bt ab (a:Int))==57)) (λ bh=>?_) (λ bh=>?_);have hb:=bc (n:=57) dc bh;refine(aM 2 0 [0,0] [])<|lz (o () (by rw[hb];decide));refine(aM 6 0 [1,1] [277])<|(iz 277 ((bt ab (a:Int))==34)) (λ ag=>?_) (λ ag=>?_);have hb:=bc (n:=34) dc ag;refine(eW hg J)<|(aM 3 0 [0,0,0] [])<|(qz)<|(cu [0,15] [1,100,1] [293])<|(lP 293 (decide ((ab.size:Int)>(aj ((a:Int)+2))))) (λ S=>?_) (λ S=>?_);have S:a+2<ab.size:=by have Y:=S;rw[b_ om om]at Y;simp at Y;omega
 refine(cu [15,16] [1,100,1,1] [300,304,309])<|(qo 309 (wn (a+3) (a+3)))<|(nS 31 (.slice 9 (.tmp 300) (some (.tmp 304)) (some (.tmp 309)) none) [vs ab,vi a,vi ((a+3:Nat):Int)] (v:=(vs (ab.extract a (a+3)))) (g' kr om om))<|(mK [32,2] [] [312])<|(iz 312 (ay (ab.extract a (a+3)) (⟨#[34,34,34]⟩))) (λ aI=>?_) (λ aI=>?_);have aI:=oR (n:=34) (mg aI) om;refine(dz [0])<|(aM 4 2 [1,0,0,1] [313]) ?_;have O:=Ey ak p s D (aj (D+1)) h l a d ar T fz ab bi f an hg J S dB;rcases hm:et ((al ab a).length+1) [] ((al ab a).drop 3)with _|⟨sv,sr⟩
 rw[hm]at O;refine(cz [0] (O)) ?_;rintro _ _ aB aA k;obtain⟨y,Q,C,yc,E,G,g,q1,q2,q3,Z,rfl,rfl⟩:=k;refine(gK 5 [1] 2 [1] [3])<|ez 1 (iW q1 q2 q3 Z s g) [aX p s y Q C yc E G d] [1] lq ?_;rw[tU I hb aI,hm];exact⟨y,Q,C,yc,E,G,g,q1,q2,q3,Z,rfl,rfl⟩;rw[hm]at O;refine(cz [0] (O)) ?_;rintro _ _ aB aA k;obtain⟨y,C,Q,yc,E,G,q1,q2,q3,Z,H,K,rfl,rfl⟩:=k;refine(gK 5 [1] 2 [1] [3])<|ez 1 (hO 20 sv q1 q2 q3 Z s) [aX p s y Q (C:Int) yc E G d] [1] lq ?_;rw[tU I hb aI,hm];exact⟨y,C,Q,yc,E,G,q1,q2,q3,Z,H,K,rfl,rfl⟩;refine(dz [0])<|(aM 5 3 [1,1] [317]) ?_;have aq:(al ab a).take 3≠[34,34,34]:=nj (n:=34) I (.inr (mi aI));have w:=c145 ak p s D (aj (D+1)) h l a d ar T fz ab bi f an hg J I dB;rcases hm:dq ((al ab a).length+1) false [] (al ab (a+1))with _|⟨sv,sr⟩
 rw[hm]at w;refine(cz [0] (w)) ?_;rintro _ _ aB aA k;obtain⟨y,Q,C,yc,E,G,g,q1,q2,q3,Z,rfl,rfl⟩:=k;refine(gK 5 [1] 2 [2] [3])<|ez 1 (iW q1 q2 q3 Z s g) [aX p s y Q C yc E G d] [1] lq ?_;rw[ma I hb aq,hm];exact⟨y,Q,C,yc,E,G,g,q1,q2,q3,Z,rfl,rfl⟩;rw[hm]at w;refine(cz [0] (w)) ?_;rintro _ _ aB aA k;obtain⟨y,C,Q,yc,E,G,q1,q2,q3,Z,H,K,rfl,rfl⟩:=k;refine(rv 5 [1] 2 [2] [2,3])<|ez 1 (hO 19 sv q1 q2 q3 Z s) [aX p s y Q (C:Int) yc E G d] [1] lq ?_;rw[ma I hb aq,hm];exact⟨y,C,Q,yc,E,G,q1,q2,q3,Z,H,K,rfl,rfl⟩;have S: ¬a+2<ab.size:=by have Y:=S;rw[b_ om om]at Y;simp at Y;omega
 refine(kf [15,19] [] [0,2,312])<|(aM 5 3 [1,1] [317])<|(dz [0]) ?_;have aq:(al ab a).take 3≠[34,34,34]:=nj (n:=34) I (.inl S);have w:=c145 ak p s D (aj (D+1)) h l a d ar T fz ab bi f an hg J I dB;rcases hm:dq ((al ab a).length+1) false [] (al ab (a+1))with _|⟨sv,sr⟩
 rw[hm]at w;refine(cz [0] (w)) ?_;rintro _ _ aB aA k;obtain⟨y,Q,C,yc,E,G,g,q1,q2,q3,Z,rfl,rfl⟩:=k;refine(gK 5 [1] 2 [2] [3])<|ez 1 (iW q1 q2 q3 Z s g) [aX p s y Q C yc E G d] [1] lq ?_;rw[ma I hb aq,hm];exact⟨y,Q,C,yc,E,G,g,q1,q2,q3,Z,rfl,rfl⟩;rw[hm]at w;refine(cz [0] (w)) ?_;rintro _ _ aB aA k;obtain⟨y,C,Q,yc,E,G,q1,q2,q3,Z,H,K,rfl,rfl⟩:=k;refine(rv 5 [1] 2 [2] [2,3])<|ez 1 (hO 19 sv q1 q2 q3 Z s) [aX p s y Q (C:Int) yc E G d] [1] lq ?_;rw[ma I hb aq,hm];exact⟨y,C,Q,yc,E,G,q1,q2,q3,Z,H,K,rfl,rfl⟩;refine(ra 4 [] [9] [0,2,4]) ?_;intro _;exact lz (z () (wO I (aJ bX) (aJ aw) (aJ az) (aJ bV) (aJ cY) (aJ U) (aJ bm) (aJ ba) (aJ bY) (aJ bs) (aJ bJ) (aJ ai) (aJ aH) (aJ V) (aJ W) (aJ bj) (aJ bC) (aJ bu) (aJ a6) (aJ af) (aJ ah) (aJ aC) (aJ aO) (aJ aL) (aJ aN) (aJ aF) (aJ aD) (aJ X) (aJ aZ) (aJ aG) (aJ aY) (aJ aU) (aJ ae) (aJ aK) (aJ a1) (aJ aT) (aJ M) (aJ aQ) (aJ ad) (aJ aP) (aJ aV) (aJ aR) (aJ bR) (aJ bp) (aJ bT) (aJ a8) (aJ bw) (aJ bN) (aJ bF) (aJ bz) (aJ bk) (aJ bn) (aJ bE) (aJ a_) (aJ br) (aJ bd) (aJ bg) (aJ bW) (aJ a') (aJ bI) (aJ bD) (aJ bB) (aJ bK) (aJ bq) (aJ bS) (aJ bU) (aJ bO) (aJ bM) (aJ N) (aJ L) (aJ bH) (aJ bl) (aJ bo) (aJ bG) (aJ bP) (aJ a7) (aJ bQ) (aJ bx) (aJ bh) (aJ ag)))
structure PR where
 a:Int
 b:Int
 e:Int
 c:Int
 ln:Int
 l0:Int
 er:Value
 pk:Bool
 tk:Int
 tv:ao
 t1:Int
 t2:Int
 t3:Int
 t4:Int
 ts:Option Addr
 pe:Value
 vk:Int
 vv:ao
 v1:Int
 v2:Int
 v3:Int
 v4:Int
 ps:Option Addr
 cm:Option Addr
 tc:Int
 d:Int
def pc(s:Nat)(cc:Bool)(r:PR):List Value:=
 [vp s 0,vi r.a,vi r.b,vi r.e,vi r.c,vi r.ln,vi r.l0,r.er,vb r.pk,vi r.tk,vs r.tv,vi r.t1,vi r.t2,vi r.t3,vi r.t4,vq r.ts,r.pe,vi r.vk,vs r.vv,vi r.v1,vi r.v2,vi r.v3,vi r.v4,vq r.ps,vq r.cm,vb cc,vi r.tc,vi 0,vi r.d]
abbrev pb(p s:Nat)(cc:Bool)(r:PR):Chunk:=.av p 108 (pc s cc r)
def hP:Nat->List UInt8->List Tok
 |0,_=>[]
 |n+1,l=>match fm l with
  |none=>[⟨0,e0⟩]
  |some (k,v,rest)=>if k=1 then[]else⟨k,v⟩::hP n rest
def b0(l:List UInt8):List Tok:=hP (l.length+1) l
def fN(l:List Tok):List Tok:=l.filter λ t=>t.k !=21
abbrev eE(g:Nat):Value:=.iface 264 (vp g 0)
def gW(s:Nat)(ab:ao)(ts:List Tok)(r:PR):Prop:=
 r.er=.nilIface/\
 (r.pk=false-> ∃e:Nat,r.e=(e:Int)/\e<=ab.size/\b0 (al ab e)=ts)/\
 (r.pk=true->r.tk=((eY ts).k:Int)/\r.tv=(eY ts).v/\r.ts=sa s 0/\((eY ts).k=0-> ∃g,r.pe=eE g)/\
  ((eY ts).k≠0->r.pe=.nilIface/\ ∃e:Nat,r.e=(e:Int)/\e<=ab.size/\b0 (al ab e)=ts.tail))/\ts.length<=ab.size+1
def PI(s:Nat)(ab:ao)(d:Nat)(q:Q)(r:PR):Prop:=
 r.d=(d:Int)/\match q with
 |none=> ∃g,r.er=eE g
 |some ts=> ∃raw,gW s ab raw r/\ts=fN raw/\(r.pk=true->(eY raw).k≠21)
structure Lx(aa:au)(s:Nat)(ab:ao):Prop where
 u8:U8 aa
 src: ∃(ar:Array Value)(T:TypeId)(fz:Nat×Nat),aa s=some (.cells ar T fz)/\ ∀(j:Nat)(u:Value),([vs e0,vs ab,vb false]:List Value)[j]?=some u->ar[j]?=some u
 sz:ab.size<=17179869184
theorem Lx.mono{aa C}{s}{ab}(h:Lx aa s ab)(hl:au.le aa C):Lx C s ab:=by
 obtain⟨G,⟨ar,T,fz,H,S⟩,Y⟩:=h;exact⟨G.mono hl,⟨ar,T,fz,hl _ _ H,S⟩,Y⟩
theorem p': ∀n m l,l.length<n->l.length<m->hP n l=hP m l
 |0,_,_,h,_=>by omega
 |_+1,0,_,_,h=>by omega
 |n+1,m+1,l,G,H=>by
  rw[hP,hP];cases V:fm l with
  |none=>rfl
  |some x=>
   obtain⟨k,v,rest⟩:=x;have:=jM V;simp only;by_cases U:k=1;rw[if_pos U,if_pos U];rw[if_neg U,if_neg U,p' n m rest om om]
theorem qv:b0 []=[]:=by
 have:fm []=some (1,e0,[]):=by unfold fm;rw[tP];rfl
 simp[b0,hP,this]
theorem jW{l}(h:fm l=none):b0 l=[⟨0,e0⟩]:=by simp[b0,hP,h]
theorem oe{l}{k}{v}{rest}(h:fm l=some (k,v,rest)):eY (b0 l)=⟨k,v⟩/\b0 rest=(b0 l).tail/\k≠0:=by
 obtain⟨N,G⟩:=jM h;rcases G with⟨rfl,rfl,rfl⟩|⟨G,H⟩
 have:b0 l=[]:=by simp[b0,hP,h]
 rw[this,qv];exact⟨rfl,rfl,N⟩;have:b0 l=⟨k,v⟩::b0 rest:=by
  unfold b0;rw[hP];simp only[h];rw[if_neg G,p' l.length (rest.length+1) rest H om]
 rw[this];exact⟨rfl,rfl,N⟩
theorem p0{ts}(h:(eY ts).k≠21):eY (fN ts)=eY ts/\fN ts.tail=(fN ts).tail:=by
 cases ts with
 |nil=>exact⟨rfl,rfl⟩
 |cons t r=>
  have h:t.k≠21:=h;simp[fN,h,eY]
theorem BL{ts}(h:(eY ts).k=21):fN ts=fN ts.tail:=by
 cases ts with
 |nil=>rfl
 |cons t r=>
  have h:t.k=21:=h;simp[fN,h]
theorem zw{ts}(h:(eY ts).k≠21)(N:(eY ts).k≠0):dR (some (fN ts))=some (fN ts.tail):=by
 cases ts with
 |nil=>rfl
 |cons t r=>
  have h:t.k≠21:=h;have N:t.k≠0:=N;simp[fN,h,dR,N]
theorem yf{ts}(N:(eY ts).k=0):dR (some (fN ts))=none:=by
 cases ts with
 |nil=>cases N
 |cons t r=>
  have N:t.k=0:=N;simp[fN,dR,N]
theorem qU: ∀n l,(hP n l).length<=l.length+1
 |0,_=>by simp[hP]
 |n+1,l=>by
  rw[hP];cases V:fm l with
  |none=>simp
  |some x=>
   obtain⟨k,v,rest⟩:=x;have:=jM V;have:=qU n rest;simp only;split;simp;simp;omega
theorem hq s e:(b0 (al s e)).length<=s.size+1:=by
 have:=qU ((al s e).length+1) (al s e);have:=aP s e;unfold b0;omega
def gQ(ts:List Tok):List Tok:=ts.dropWhile λ t=>t.k==21
theorem jz{ts}(h:(eY ts).k=21):gQ ts=gQ ts.tail/\ts.tail.length<ts.length:=by
 cases ts with
 |nil=>cases h
 |cons t r=>
  have h:t.k=21:=h;simp[gQ,h]
theorem jj{ts}(h:(eY ts).k≠21):gQ ts=ts:=by
 cases ts with
 |nil=>rfl
 |cons t r=>
  have h:t.k≠21:=h;simp[gQ,h]
theorem mv: ∀ts:List Tok,(eY (gQ ts)).k≠21
 |[]=>by simp[gQ,eY]
 |t::r=>by
  by_cases h:t.k=21;have:=mv r;rw[(jz (ts:=t::r) h).1];exact this;rw[jj (ts:=t::r) h];exact h
theorem lA: ∀ts:List Tok,fN (gQ ts)=fN ts
 |[]=>rfl
 |t::r=>by
  by_cases h:t.k=21;rw[(jz (ts:=t::r) h).1,BL (ts:=t::r) h];exact lA r;rw[jj (ts:=t::r) h]
structure LC where
 ts:List Tok
 r:PR
 n:Nat
 A:Option Addr
 c:Nat
 xs:List Value
 im:au
theorem gW.er{s}{ab}{ts}{r}(h:gW s ab ts r):r={r with er:=.nilIface}:=by cases r;simp[gW]at h;simp[h.1]
def DI(r:PR):PR:={r with er:=.nilIface,pk:=false,pe:=.nilIface,vk:=r.tk,vv:=r.tv,v1:=r.t1,v2:=r.t2,v3:=r.t3,v4:=r.t4,ps:=r.ts,cm:=none,tc:=aj (r.tc+1)}
theorem gW.take{s}{ab}{ts}{r}(h:gW s ab ts r)(hp:r.pk=true)(N:(eY ts).k≠0):gW s ab ts.tail (DI r):=by
 obtain⟨G,H⟩:=(h.2.2.1 hp).2.2.2.2 N;refine⟨rfl,λ _=>H,λ h=>(by cases h),?_⟩;have:=h.2.2.2;rw[List.length_tail];omega
theorem lL{l}{k}{v}{rest}(h:fm l=some (k,v,rest))(U:k≠1):b0 l=⟨k,v⟩::b0 rest:=by
 have H:=jM h;have S:rest.length<l.length:=by rcases H.2 with H|H;exact absurd H.1 U;exact H.2
 unfold b0;rw[hP,h];simp only[U,if_false];rw[p' _ _ _ S (Nat.lt_succ_self _)]
theorem ke{x}{l}(h:hQ x=true):b0 (x::l)=b0 l:=by
 have V:fm (x::l)=fm l:=by unfold fm;rw[show kU (x::l)=kU l by rw[kU,if_pos h]]
 cases H:fm l with
 |none=>rw[jW H,jW (V.trans H)]
 |some y=>
  obtain⟨k,v,rest⟩:=y;by_cases U:k=1;subst U;unfold b0;rw[hP,hP,V,H];simp;rw[lL H U,lL (V.trans H) U]
theorem mh{w l}(h: ∀x∈w,hQ x=true):b0 (w++l)=b0 l:=by
 induction w with
 |nil=>rfl
 |cons x w af=>rw[Hi,ke (h x sm),af λ y hy=>h y (by simp[hy])]
theorem kV{x}{l rest}{k}{v}(hw:hQ x=false)(hb:x.toNat≠239)(B:bA (x::l)=some (k,v,rest))(U:k≠1):b0 (x::l)=⟨k,v⟩::b0 rest:=by
 refine lL ?_ U;unfold fm;rw[kU,if_neg (by rw[hw];simp),if_neg om];exact B
theorem mc{x}:dj x=false<-> ¬((48<=x.toNat/\x.toNat<=57)\/(65<=x.toNat/\x.toNat<=90)\/(97<=x.toNat/\x.toNat<=122)\/x.toNat=95):=by show decide (j6 x.toNat)=false<-> ¬j6 x.toNat;rw[decide_eq_false_iff_not]
theorem zd{x}:hQ x=true<->(x.toNat=9\/x.toNat=32\/x.toNat=44\/x.toNat=10\/x.toNat=13):=by unfold hQ;simp only[Bool.or_eq_true,beq_iff_eq,or_assoc]
def Bd(l:List UInt8):Prop:= ∀x,l.head?=some x->dj x=false/\x≠46/\x≠34/\x≠45/\x≠43
theorem Bd.nil:Bd []:=λ x h=>by cases h
theorem Bd.cons{x}{l}(h:dj x=false/\x≠46/\x≠34/\x≠45/\x≠43):Bd (x::l):=λ y hy=>by simp at hy;subst hy;exact h
theorem Bd.ws{x}{l}(h:hQ x=true):Bd (x::l):=by
 refine Bd.cons ⟨?_,?_,?_,?_,?_⟩;have:=zd.1 h;rw[mc];omega
 all_goals rintro rfl;exact absurd h dc
theorem Bd.app{w l}(h: ∀x∈w,hQ x=true)(hl:w≠[]\/Bd l):Bd (w++l):=by
 cases w with
 |nil=>exact hl.resolve_left sm
 |cons x w=>exact Bd.ws (h x sm)
structure Pu(x:UInt8)(k:Nat):Prop where
 p:ht x=k
 k0:k≠0
 k1:k≠1
 ws:hQ x=false
 u:x.toNat≠239
 nm:dj x=false
 ne:x≠46/\x≠34/\x≠45/\x≠43
theorem Pu.bd{x}{k}{l}(h:Pu x k):Bd (x::l):=Bd.cons ⟨h.nm,h.ne⟩
theorem tC{x}{k}{l}(h:Pu x k):b0 (x::l)=⟨k,e0⟩::b0 l:=by
 refine kV h.ws h.u ?_ h.k1;rw[bA,if_pos (by rw[h.p];exact h.k0),h.p]
theorem B0:Pu 33 2:=by constructor<;>decide
theorem Fw:Pu 38 4:=by constructor<;>decide
theorem B6:Pu 40 5:=by constructor<;>decide
theorem Dq:Pu 41 6:=by constructor<;>decide
theorem vo:Pu 58 8:=by constructor<;>decide
theorem CN:Pu 61 9:=by constructor<;>decide
theorem pu64:Pu 64 10:=by constructor<;>decide
theorem CW:Pu 91 11:=by constructor<;>decide
theorem Be:Pu 93 12:=by constructor<;>decide
theorem tr:Pu 123 13:=by constructor<;>decide
theorem tQ:Pu 125 14:=by constructor<;>decide
theorem Aj:Pu 124 15:=by constructor<;>decide
theorem mH{f}{r l:List UInt8}(V: ∀y∈r,f y=true)(hl: ∀x,l.head?=some x->f x=false):(r++l).dropWhile f=l:=by
 induction r with
 |nil=>
  cases l with
  |nil=>rfl
  |cons x l=>rw[Hj,Il (by rw[hl x rfl];simp)]
 |cons y r af=>rw[Hi,Ik (V y sm),af λ z hz=>V z (by simp[hz])]
theorem tA{f}{l}(hl: ∀x,l.head?=some x->f x=false): ∀r:List UInt8,(r++l).dropWhile f=r.dropWhile f++l
 |[]=>mH (r:=[]) (λ y h=>by cases h) hl
 |y::r=>by
  rw[Hi,IC,IC];split;exact tA hl r;rfl
theorem lF w l:iX (w++l) l=sB w:=by
 unfold iX
 congr 1
 rw[HT,Nat.add_sub_cancel];simp
theorem x8{x}(h:ea x=true):ht x=0/\x≠46/\x≠35/\hQ x=false/\x.toNat≠239:=by
 refine⟨?_,?_,?_,?_,?_⟩
 .
  unfold ht
  repeat rw[if_neg (by rintro rfl;exact absurd h dc)]
 rintro rfl;exact absurd h dc;rintro rfl;exact absurd h dc;cases hw:hQ x with
 |false=>rfl
 |true=>
  simp[ea]at h;simp[hQ]at hw;rcases h with(h|h)|h
  subst h;simp at hw;omega;omega
 intro L;simp[ea]at h;rcases h with(h|h)|h
 subst h;simp at L;omega;omega
theorem Bd.nm{l}(h:Bd l): ∀x,l.head?=some x->dj x=false:=λ x L=>(h x L).1
theorem rB{s}{l}(h:gB s)(hb:Bd l):b0 (bl s++l)=⟨16,s⟩::b0 l:=by
 obtain⟨x,r,aJ,L,V⟩:=h;obtain⟨G,H,S,Y,aI⟩:=x8 L;rw[aJ,Hi];refine kV Y aI ?_ dc;have hd:(r++l).dropWhile dj=l:=mH V hb.nm;rw[bA,if_neg (by rw[G];simp),if_neg H,if_neg S,if_pos L,hd,<-Hi,lF,<-aJ,kG]
theorem la{f}{l}(hl: ∀x,l.head?=some x->f x=false): ∀a:List UInt8,acc f (a++l)=((acc f a).1,(acc f a).2++l)
 |[]=>by
  cases l with
  |nil=>rfl
  |cons x l=>show acc f (x::l)=_;rw[show acc f (x::l)=(false,x::l)by rw[acc,if_neg (by rw[hl x rfl];simp)]];rfl
 |y::a=>by
  show acc f (y::(a++l))=_;rw[acc,acc];split;rfl;rfl
theorem nD{l}(hl: ∀x,l.head?=some x->bZ x=false)a:eJ (a++l)=((eJ a).1,(eJ a).2++l):=by
 unfold eJ;rw[tA hl];simp;omega
theorem tq{c}[Decidable c]{a b l:List UInt8}:(if c then a++l else b++l)=(if c then a else b)++l:=by split<;>rfl
theorem Bd.Ei{l}(h:Bd l): ∀x,l.head?=some x->bZ x=false:=λ x L=>by
 have:=mc.1 (h x L).1;simp[bZ];omega
theorem Bd.fW{l}(h:Bd l){y:Nat}(hy:y=45\/y=46\/y=48): ∀x,l.head?=some x->Go.Proofs.YtdpmeahgjjmdiaaGreatDoor.fW (y:Int) x=false:=λ x L=>by
 obtain⟨G,H,S,Y,aI⟩:=h x L;have C:x.toNat≠46:=λ e=>H (Ig.1 e)
 have d:x.toNat≠45:=λ e=>Y (Ig.1 e)
 have G:=mc.1 G;unfold Go.Proofs.YtdpmeahgjjmdiaaGreatDoor.fW;simp;omega
theorem Bd.j'{l}(h:Bd l):(∀x,l.head?=some x->Go.Proofs.YtdpmeahgjjmdiaaGreatDoor.j' 101 69 x=false)/\ ∀x,l.head?=some x->Go.Proofs.YtdpmeahgjjmdiaaGreatDoor.j' 45 43 x=false:=by
 refine⟨λ x L=>?_,λ x L=>?_⟩
 all_goals
  obtain⟨G,H,S,Y,aI⟩:=h x L;have d:x.toNat≠45:=λ e=>Y (Ig.1 e)
  have b:x.toNat≠43:=λ e=>aI (Ig.1 e)
  have G:=mc.1 G;unfold Go.Proofs.YtdpmeahgjjmdiaaGreatDoor.j';simp;omega
theorem wW{a l}{fl}(h:di a=some (fl,[]))(hb:Bd l):di (a++l)=some (fl,l):=by
 have N: ∀x,l.head?=some x->fW 45 x=false:=hb.fW (y:=45) sm;have U: ∀x,l.head?=some x->fW 46 x=false:=hb.fW (y:=46) sm;have L: ∀x,l.head?=some x->fW 48 x=false:=hb.fW (y:=48) sm;unfold di at h⊢;dsimp only at h⊢;rw[la N];dsimp only;rw[la L];dsimp only;rw[nD hb.Ei];dsimp only;rw[ite_self]at h⊢;rw[la U];dsimp only;rw[nD hb.Ei];dsimp only;rw[tq,la hb.j'.1];dsimp only;rw[la hb.j'.2];dsimp only;rw[nD hb.Ei];dsimp only;rw[tq];generalize acc (fW 45) a=p1 at*;generalize acc (fW 48) p1.2=z at*;generalize eJ z.2=d at*;generalize acc (fW 46) d.2=p at*;generalize eJ p.2=f at*;generalize(if p.1=true then f.2 else p.2)=y at*;generalize acc (j' 101 69) y=x at*;generalize acc (j' 45 43) x.2=g0 at*;generalize eJ g0.2=g at*;by_cases D:(if z.1=true then d.1≠0 else d.1=0);rw[if_pos D]at h;cases h;rw[if_neg D]at h⊢;by_cases c2:p.1=true/\f.1=0;rw[if_pos c2]at h;cases h;rw[if_neg c2]at h⊢;by_cases c3:x.1=true/\g.1=0;rw[if_pos c3]at h;cases h;rw[if_neg c3]at h⊢;simp only[G8,He]at h⊢;exact⟨h.1,by rw[h.2];rfl⟩
theorem Bj{x}(h:x=45\/bZ x=true):ht x=0/\x≠46/\x≠35/\hQ x=false/\x.toNat≠239/\ea x=false:=by
 have L:x.toNat=45\/(48<=x.toNat/\x.toNat<=57):=by
  rcases h with rfl|h
  exact .inl rfl;simp[bZ]at h;exact .inr h
 have ne: ∀y:UInt8,¬(y.toNat=45\/(48<=y.toNat/\y.toNat<=57))->x≠y:=λ y hy e=>hy (e▸L)
 refine⟨?_,ne _ dc,ne _ dc,?_,om,?_⟩
 .
  unfold ht
  repeat rw[if_neg (ne _ dc)]
 simp[hQ];omega;have:=ne 95 dc;simp[ea,this];omega
theorem uS{fl}{s}{l}(h:nH fl s)(hb:Bd l):b0 (bl s++l)=⟨if fl then 18 else 17,s⟩::b0 l:=by
 obtain⟨O,x,r,aJ,L⟩:=h;have f:=wW O hb;obtain⟨G,H,S,Y,aI,h6⟩:=Bj L;rw[aJ]at f⊢;rw[Hi]at f⊢;refine kV Y aI ?_ (by split<;>decide);rw[bA,if_neg (by rw[G];simp),if_neg H,if_neg S,if_neg (by rw[h6];simp),if_pos L,f];simp only[Hd];rw[<-Hi,lF,<-aJ,kG]
theorem tm{x}(h:x.toNat<128):Im (x.toNat:Int)=[x]:=by
 unfold Im;rw[Lib.encodeRuneZ_one om om];simp
theorem ob{x}{l}(h:x.toNat<127):fh (x::l)=(x.toNat,1):=by
 unfold fh;rw[List.headD_cons,if_pos h]
theorem mD: ∀t n a acc l,(∀x∈t,zD x)->(t.flatMap qB).length<n->dq n a acc (t.flatMap qB++34::l)=some (sB (acc++t),l)
 |[],0,_,_,_,_,O=>by simp at O
 |[],n+1,a,acc,l,_,_=>by
  show dq (n+1) a acc (34::l)=_;rw[dq,if_neg dc,if_neg dc,if_pos dc];simp
 |x::t,0,_,_,_,_,O=>by simp at O
 |x::t,n+1,a,acc,l,B,O=>by
  have L:=B x sm;have d: ∀y∈t,zD y:=λ y hy=>B y (by simp[hy])
  rw[G0,HT]at O;rw[G0,Js];have b: ∀y z:UInt8,qB x=[92,y]->lv y=some z->y.toNat≠117->z=x->dq (n+1) a acc (qB x++(t.flatMap qB++34::l))=some (sB (acc++x::t),l):=by
   intro y z K hz M g;subst g;rw[K]at O⊢;show dq (n+1) a acc (92::y::(t.flatMap qB++34::l))=_;have he:j4 (92::y::(t.flatMap qB++34::l))=some ([z],t.flatMap qB++34::l):=by rw[j4,if_neg M,hz];rfl
   rw[dq,if_neg dc,if_neg dc,if_neg dc,if_pos dc,he];simp only;rw[mD t n true (acc++[z]) l d (by simp only[Iz,IN]at O;omega)];simp
  by_cases ag:x=34;subst ag;exact b 34 34 rfl rfl dc rfl;by_cases ad:x=92;subst ad;exact b 92 92 rfl rfl dc rfl;by_cases aC:x=10;subst aC;exact b 110 10 rfl rfl dc rfl;by_cases h9:x=9;subst h9;exact b 116 9 rfl rfl dc rfl;have K:qB x=[x]:=by unfold qB;rw[if_neg ag,if_neg ad,if_neg aC,if_neg h9]
  have V:32<=x.toNat/\x.toNat<=126:=by
   rcases L with h|h|h
   exact absurd h h9;exact absurd h aC;exact h
  have c:x.toNat≠34:=λ e=>ag (Ig.1 e)
  have f:x.toNat≠92:=λ e=>ad (Ig.1 e)
  rw[K]at O⊢;show dq (n+1) a acc (x::(t.flatMap qB++34::l))=_;rw[dq,if_neg om,if_neg om,if_neg c,if_neg f];simp only[ob (show x.toNat<127 by omega),tm (show x.toNat<128 by omega),List.take_succ_cons,List.take_zero,ite_self,Jw,Jx];rw[mD t n a (acc++[x]) l d (by simp only[Iz,IN]at O;omega)];simp
theorem y7 x: ∃y r,qB x=y::r/\y≠34:=by
 unfold qB;split;exact⟨_,_,rfl,by decide⟩;split;exact⟨_,_,rfl,by decide⟩;split;exact⟨_,_,rfl,by decide⟩;split;exact⟨_,_,rfl,by decide⟩;exact⟨_,_,rfl,by assumption⟩
theorem tL{s}{l}(h:uX s)(hb:Bd l):b0 (fk (bl s)++l)=⟨19,s⟩::b0 l:=by
 have e:fk (bl s)++l=34::((bl s).flatMap qB++34::l):=by simp[fk]
 rw[e];refine kV dc dc ?_ dc;have S:(34::((bl s).flatMap qB++34::l)).take 3≠[34,34,34]:=by
  cases aJ:bl s with
  |nil=>
   cases l with
   |nil=>simp
   |cons y l=>have:=(hb y rfl).2.2.1;simp[this]
  |cons x t=>
   obtain⟨y,r,hy,O⟩:=y7 x;rw[G0,hy];simp[O]
 rw[bA,if_neg dc,if_neg dc,if_neg dc,if_neg dc,if_neg dc,if_pos rfl,if_neg S,
  mD (bl s) _ false [] l h so]
 simp[kG]
def F2(x:UInt8):Prop:=x=9\/x=10\/CH x
theorem CV{x}{l}(h:x≠34):lT (x::l)=0:=by
 unfold lT;rw[Il (by simpa using h)];simp
theorem wa: ∀b n acc l,(∀x∈b,F2 x)->b.length<n->Bd l->et n acc (b++34::34::34::l)=some (hz (sB (acc++b)),l)
 |_,0,_,_,_,O,_=>by simp at O
 |[],n+1,acc,l,_,_,hb=>by
  have K:lT (34::34::34::l)=3:=by
   unfold lT;have:(34::34::34::l).dropWhile (· ==34)=l:=mH (r:=[34,34,34]) (l:=l) (f:=(· ==34)) sm (λ x L=>by have:=(hb x L).2.2.1;simpa using this);rw[this];simp only[Iz];omega
  show et (n+1) acc (34::34::34::l)=_;rw[et,K,if_pos dc];simp
 |x::b,n+1,acc,l,h,O,hb=>by
  have L:=h x sm;have J:(x.toNat=9\/x.toNat=10\/(32<=x.toNat/\x.toNat<=126))/\x≠34/\x≠92:=by
   rcases L with rfl|rfl|h
   decide;decide;exact⟨.inr (.inr ⟨h.1,h.2.1⟩),h.2.2.1,h.2.2.2⟩
  show et (n+1) acc (x::(b++34::34::34::l))=_;rw[et,CV J.2.1,if_neg om,if_neg om,if_neg (by simp[J.2.2]),if_neg om];simp only[ob (show x.toNat<127 by omega),tm (show x.toNat<128 by omega),Jw,Jx];rw[wa b n (acc++[x]) l (λ y hy=>h y (by simp[hy])) (by simp at O;omega) hb];simp
theorem zn{b l}(h: ∀x∈b,F2 x)(hb:Bd l):b0 (34::34::34::(b++34::34::34::l))=⟨20,hz (sB b)⟩::b0 l:=by
 refine kV dc dc ?_ dc;rw[bA,if_neg dc,if_neg dc,if_neg dc,if_neg dc,if_neg dc,if_pos rfl,if_pos sm];simp only[Jw,Jx];rw[wa b _ [] l h so hb];simp
theorem kY f l: ∃c,l=c++(acc f l).2:=by
 cases l with
 |nil=>exact⟨[],rfl⟩
 |cons x l=>
  rw[show acc f (x::l)=if f x then(true,l)else(false,x::l)from rfl];split;exact⟨[x],rfl⟩;exact⟨[],rfl⟩
theorem p8 f: ∀l:List UInt8,∃c,l=c++l.dropWhile f
 |[]=>⟨[],rfl⟩
 |x::l=>by
  rw[IC];split;obtain⟨c,h⟩:=p8 f l;exact⟨x::c,by rw[Hi,<-h]⟩;exact⟨[],rfl⟩
theorem kA{f}{p a R}{b}(h:acc f (p++R)=(b,a++R)):acc f p=(b,a):=by
 cases p with
 |nil=>
  cases R with
  |nil=>
   rw[show acc f ([]++[])=(false,[])from rfl]at h;simp only[He,Ju]at h;rw[<-h.1,<-h.2];rfl
  |cons x R=>
   rw[show acc f ([]++x::R)=if f x then(true,R)else(false,x::R)from rfl]at h;split at h;simp at h;have:=congrArg List.length h.2;simp at this;omega;simp only[He]at h;have:a=[]:=by
    have:=congrArg List.length h.2;simp at this;exact this
   rw[this,<-h.1];rfl
 |cons x p=>
  rw[show acc f (x::p++R)=if f x then(true,p++R)else(false,x::p++R)from rfl]at h;rw[show acc f (x::p)=if f x then(true,p)else(false,x::p)from rfl];split at h;rename_i hf;simp only[He]at h;rw[if_pos hf,h.1,Jv h.2];rename_i hf;simp only[He]at h;rw[if_neg hf,h.1,Jv h.2]
theorem xO{f}: ∀{p a R:List UInt8},(p++R).dropWhile f=a++R->p.dropWhile f=a
 |[],a,R,h=>by
  have G:=dn f R;have:=congrArg List.length h;simp at this;have:a=[]:=List.eq_nil_of_length_eq_zero om;rw[this];rfl
 |x::p,a,R,h=>by
  rw[Hi,IC]at h;rw[IC];split at h;rename_i hf;rw[if_pos hf];exact xO h;rename_i hf;rw[if_neg hf];exact Jv h
theorem mL{p a R}{n}(h:eJ (p++R)=(n,a++R)):eJ p=(n,a):=by
 unfold eJ at h⊢;simp at h;have H:=xO h.2;rw[H,<-h.1,h.2];simp;omega
theorem xI{l R}{fl}(h:di l=some (fl,R)): ∃p,l=p++R/\di p=some (fl,[]):=by
 obtain⟨D,s1⟩:=kY (fW 45) l;obtain⟨c2,s2⟩:=kY (fW 48) (acc (fW 45) l).2;obtain⟨c3,s3⟩:=p8 bZ (acc (fW 48) (acc (fW 45) l).2).2;obtain⟨c4,s4⟩:=kY (fW 46) (eJ (acc (fW 48) (acc (fW 45) l).2).2).2;obtain⟨c5,s5⟩:=p8 bZ (acc (fW 46) (eJ (acc (fW 48) (acc (fW 45) l).2).2).2).2;unfold di at h;dsimp only at h;rw[ite_self]at h;have aw:acc (fW 45) l=((acc (fW 45) l).1,(acc (fW 45) l).2):=rfl;have az:acc (fW 48) (acc (fW 45) l).2=((acc (fW 48) (acc (fW 45) l).2).1,(acc (fW 48) (acc (fW 45) l).2).2):=rfl;generalize f:acc (fW 45) l=a1 at*;generalize aC:acc (fW 48) a1.2=a2 at*;have t3:a2.2=c3++(eJ a2.2).2:=s3;generalize b:eJ a2.2=a3 at*;generalize cu:acc (fW 46) a3.2=a4 at*;have t5:a4.2=c5++(eJ a4.2).2:=s5;generalize e:eJ a4.2=a5 at*;obtain⟨c6,s6⟩:=kY (j' 101 69) (if a4.1=true then a5.2 else a4.2);obtain⟨c7,s7⟩:=kY (j' 45 43) (acc (j' 101 69) (if a4.1=true then a5.2 else a4.2)).2;obtain⟨c8,s8⟩:=p8 bZ (acc (j' 45 43) (acc (j' 101 69) (if a4.1=true then a5.2 else a4.2)).2).2;generalize hy:(if a4.1=true then a5.2 else a4.2)=y at*;generalize A:acc (j' 101 69) y=a6 at*;generalize a:acc (j' 45 43) a6.2=i at*;have t8:i.2=c8++(eJ i.2).2:=s8;generalize d:eJ i.2=m at*;by_cases g1:(if a2.1=true then a3.1≠0 else a3.1=0);rw[if_pos g1]at h;cases h;rw[if_neg g1]at h;by_cases g2:a4.1=true/\a5.1=0;rw[if_pos g2]at h;cases h;rw[if_neg g2]at h;by_cases g3:a6.1=true/\m.1=0;rw[if_pos g3]at h;cases h;rw[if_neg g3]at h;simp at h;obtain⟨E,hR⟩:=h;obtain⟨p6,ae⟩: ∃p6,a6.2=p6++R:=by
  by_cases J:a6.1=true;rw[if_pos J]at hR;exact⟨c7++c8,by rw[s7,t8,hR,Js]⟩;rw[if_neg J]at hR;exact⟨[],hR⟩
 have g:y=(c6++p6)++R:=by rw[s6,ae,Js]
 obtain⟨t,q5,r5⟩: ∃p4,a4.2=p4++R/\(a4.1=true-> ∃t,a5.2=t++R/\y=a5.2):=by
  by_cases J:a4.1=true;rw[if_pos J]at hy;exact⟨c5++(c6++p6),by rw[t5,hy,g];simp,λ _=>⟨c6++p6,by rw[hy,g],hy.symm⟩⟩;rw[if_neg J]at hy;exact⟨c6++p6,by rw[hy,g],λ h=>absurd h J⟩
 have q3:a3.2=(c4++t)++R:=by rw[s4,q5,Js]
 have q2:a2.2=(c3++(c4++t))++R:=by rw[t3,q3];simp
 have q1:a1.2=(c2++(c3++(c4++t)))++R:=by rw[s2,q2];simp
 have q0:l=(D++(c2++(c3++(c4++t))))++R:=by rw[s1,q1];simp
 refine⟨_,q0,?_⟩;have f1:acc (fW 45) (D++(c2++(c3++(c4++t))))=(a1.1,c2++(c3++(c4++t))):=kA (R:=R) (by rw[<-q0,<-q1];exact f);have f2:acc (fW 48) (c2++(c3++(c4++t)))=(a2.1,c3++(c4++t)):=kA (R:=R) (by rw[<-q1,<-q2];exact aC);have f3:eJ (c3++(c4++t))=(a3.1,c4++t):=mL (R:=R) (by rw[<-q2,<-q3];exact b);have f4:acc (fW 46) (c4++t)=(a4.1,t):=kA (R:=R) (by rw[<-q3,<-q5];exact cu);have f5: ∃p,(a4.1=true->eJ t=(a5.1,p))/\y=p++R/\(a4.1=false->p=t):=by
  by_cases J:a4.1=true;obtain⟨p,aw,az⟩:=r5 J;exact⟨p,λ _=>mL (R:=R) (by rw[<-q5,<-aw];exact e),by rw[az,aw],λ h=>by rw[J]at h;cases h⟩;have q:a4.1=false:=by simpa using J
  rw[if_neg J]at hy;exact⟨t,λ h=>absurd h J,by rw[<-hy,q5],λ _=>rfl⟩
 obtain⟨p,f5,n,j⟩:=f5;have f6:acc (j' 101 69) p=(a6.1,p6):=kA (R:=R) (by rw[<-n,<-ae];exact A);unfold di;dsimp only;rw[f1];dsimp only;rw[f2];dsimp only;rw[f3];dsimp only;rw[ite_self,if_neg g1,f4];dsimp only;have aI:(if a4.1=true then(eJ t).2 else t)=p:=by
  by_cases J:a4.1=true;rw[if_pos J,f5 J];rw[if_neg J,j (by simpa using J)]
 have k: ¬(a4.1=true/\(eJ t).1=0):=λ⟨G,H⟩=>g2 ⟨G,by rw[f5 G]at H;exact H⟩
 rw[if_neg k,aI,f6];dsimp only;by_cases J:a6.1=true;rw[if_pos J]at hR;have q7:i.2=c8++R:=by rw[t8,hR]
 have c:p6=c7++c8:=Jv (by rw[<-ae,s7,q7,Js]);have f7:acc (j' 45 43) p6=(i.1,c8):=kA (R:=R) (by rw[<-ae,<-q7];exact a);have f8:eJ c8=(m.1,[]):=mL (R:=R) (by rw[<-q7,Hj,d,<-hR]);rw[f7];dsimp only;rw[f8];dsimp only;rw[if_neg g3,if_pos J,E];have c:p6=[]:=by
  rw[if_neg J]at hR;rw[ae]at hR;have:=congrArg List.length hR;simp at this;exact this
 rw[if_neg (λ h=>J h.1),if_neg J,E,c]
structure vX(t:Tok):Prop where
 nm:t.k=16->gB t.v
 int:t.k=17->nH false t.v
 Gf:t.k=18->nH true t.v
theorem vX.of{k}{v}(h:k≠16/\k≠17/\k≠18):vX ⟨k,v⟩:=⟨λ e=>absurd e h.1,λ e=>absurd e h.2.1,λ e=>absurd e h.2.2⟩
theorem q4{p R}:bl (iX (p++R) R)=p:=by rw[lF,z1]
theorem xZ f: ∀l:List UInt8,∃c,l=c++l.dropWhile f/\ ∀x∈c,f x=true
 |[]=>⟨[],rfl,λ x h=>by cases h⟩
 |x::l=>by
  rw[IC];split;rename_i hf;obtain⟨c,h,H⟩:=xZ f l;refine⟨x::c,by rw[Hi,<-h],λ y hy=>?_⟩;rcases G6.1 hy with rfl|hy
  exact hf;exact H y hy;exact⟨[],rfl,λ x h=>by cases h⟩
theorem ie{c}[Decidable c]{a b}(ha:a≠16/\a≠17/\a≠18)(hb:b≠16/\b≠17/\b≠18):(if c then a else b)≠16/\(if c then a else b)≠17/\(if c then a else b)≠18:=by
 by_cases h:c;rw[if_pos h];exact ha;rw[if_neg h];exact hb
theorem xW x:ht x≠16/\ht x≠17/\ht x≠18:=by
 unfold ht;exact(ie dc (ie dc (ie dc (ie dc (ie dc (ie dc (ie dc (ie dc (ie dc (ie dc (ie dc (ie dc (ie dc dc)))))))))))))
theorem vM{l rest}{k}{v}(h:bA l=some (k,v,rest)):vX ⟨k,v⟩:=by
 match l,h with
 |[],h=>obtain⟨rfl,rfl,rfl⟩:=eN h;exact .of dc
 |x::r,h=>
  rw[bA]at h;split at h;obtain⟨rfl,rfl,rfl⟩:=eN h;exact .of (xW x);split at h;split at h;obtain⟨rfl,rfl,rfl⟩:=eN h;exact .of dc;cases h;split at h;obtain⟨rfl,rfl,rfl⟩:=eN h;exact .of dc;split at h;rename_i L;obtain⟨rfl,rfl,rfl⟩:=eN h;obtain⟨c,J,ha⟩:=xZ dj r;refine⟨λ _=>⟨x,c,?_,L,ha⟩,λ e=>(by cases e),λ e=>(by cases e)⟩;have e:x::r=(x::c)++r.dropWhile dj:=by rw[Hi,<-J]
  show bl (iX (x::r) (r.dropWhile dj))=_;rw[e,q4];split at h;rename_i L;rw[Io]at h;obtain⟨⟨fl,R⟩,O,hz⟩:=h;obtain⟨aw,az,e3⟩:=eN (congrArg some hz);dsimp only at aw az e3;obtain⟨p,hp,K⟩:=xI O;have hv:bl v=p:=by rw[<-az,hp,q4]
  have hl:=nC O;have hh: ∃y q,p=y::q/\(y=45\/bZ y=true):=by
   cases p with
   |nil=>rw[Hj]at hp;rw[hp]at hl;omega
   |cons y q=>
    injection hp with G H
    exact⟨y,q,rfl,G▸L⟩
  refine⟨λ e=>?_,λ e=>?_,λ e=>?_⟩;dsimp only at e;rw[e]at aw;split at aw<;>omega
  dsimp only at e;rw[e]at aw;have:fl=false:=by cases fl;rfl;simp at aw
  subst this;exact⟨by rw[hv];exact K,by rw[hv];exact hh⟩;dsimp only at e;rw[e]at aw;have:fl=true:=by cases fl;simp at aw;rfl
  subst this;exact⟨by rw[hv];exact K,by rw[hv];exact hh⟩;split at h;split at h;rw[Io]at h;obtain⟨⟨b,y⟩,hy,hz⟩:=h;obtain⟨rfl,rfl,rfl⟩:=eN (congrArg some hz);exact .of dc;rw[Io]at h;obtain⟨⟨b,y⟩,hy,hz⟩:=h;obtain⟨rfl,rfl,rfl⟩:=eN (congrArg some hz);exact .of dc;cases h
def uZ(l:List Tok):Prop:= ∀t∈l,vX t
theorem uq: ∀n l,uZ (hP n l)
 |0,l=>λ t h=>by cases h
 |n+1,l=>λ t h=>by
  rw[hP]at h;split at h;simp at h;subst h;exact .of dc;rename_i k v rest he;split at h;cases h;rcases G6.1 h with rfl|h
  exact vM he;exact uq n rest t h
def qn(l:List Tok):Nat:=(l.map λ t=>1+t.v.size).sum
theorem pj: ∀n a acc l v rest,dq n a acc l=some (v,rest)->v.size+4*rest.length<=acc.length+4*l.length
 |0,_,_,_,_,_,h=>by simp[dq]at h
 |n+1,_,_,[],_,_,h=>by simp[dq]at h
 |n+1,a,acc,x::r,v,rest,h=>by
  rw[dq]at h;split at h;cases h;split at h;cases h;split at h;injection h with h;injection h with G H
  rw[<-G,<-H,gT,Iz];omega;split at h;split at h;cases h;rename_i u l he;have G:=qW he;have H:=pj n _ _ _ _ _ h;have S:u.length<=4:=by
   match r,he with
   |y::r,he=>
    rw[j4]at he;split at he;split at he;dsimp only at he;split at he;simp at he;rw[<-he.1];exact(eA _).2;cases he;split at he;cases he;split at he;cases he;simp at he;rw[<-he.1];exact(eA _).2;rw[Io]at he;obtain⟨z,_,hz⟩:=he;injection hz with hz _
    rw[<-hz];simp
   |[],he=>simp[j4]at he
  rw[HT]at H;omega;have H:=pj n _ _ _ _ _ h;have S:=ib (x:=x) (l:=r);have Y:=(eA ((fh (x::r)).1:Int)).2;rw[HT,Ia,Iz]at H;rw[Iz];split at H;omega;rw[Jt,Iz]at H;omega
theorem xo s:(hz s).size<=s.size+1:=by
 unfold hz jk;have G:=re (hS (fa (cJ ⟨#[10]⟩ s)));have H:=mT s;have S:=my (cJ ⟨#[10]⟩ s);have b: ∀(f:ao->Bool)(l:List ao),iY (l.dropWhile f)<=iY l:=λ f l=>by
  induction l with
  |nil=>exact HZ _
  |cons a l af=>
   rw[IC];split;have:iY (a::l)=a.size+1+iY l:=by simp[iY]
   omega;exact HZ _
 have c: ∀l:List ao,iY l.reverse=iY l:=λ l=>by
  induction l with
  |nil=>rfl
  |cons a l af=>rw[List.reverse_cons,p5,af];simp[iY];omega
 have Y:iY (hS (fa (cJ ⟨#[10]⟩ s)))<=iY (fa (cJ ⟨#[10]⟩ s)):=by
  unfold hS jt;rw[c];refine Ji (b _ _) ?_;rw[c];exact b _ _
 show(Lib.join _ [10]).toArray.size<=_;rw[List.size_toArray];omega
theorem mf: ∀n acc l v rest,et n acc l=some (v,rest)->v.size+4*rest.length<=acc.length+4*l.length
 |0,_,_,_,_,h=>by simp[et]at h
 |n+1,_,[],_,_,h=>by simp[et]at h
 |n+1,acc,x::r,v,rest,h=>by
  rw[et]at h;split at h;rename_i K;injection h with h;injection h with G H
  have S:=xo (sB (acc++List.replicate (lT (x::r)-3) 34));rw[G,gT,HT,List.length_replicate]at S;have Y:lT (x::r)<=(x::r).length:=by unfold lT;omega
  rw[<-H,Ia];rw[Iz]at*;omega;split at h;cases h;split at h;rename_i B;have H:=mf n _ _ _ _ h;have:3<=r.length:=by
   have:=congrArg List.length B;rw[Jt,Iz]at this;simp at this;omega
  simp at*;omega;split at h;have H:=mf n _ _ _ _ h;split at H;simp at*;omega;simp at*;omega;have H:=mf n _ _ _ _ h;have S:=ib (x:=x) (l:=r);have Y:=(eA ((fh (x::r)).1:Int)).2;simp at*;omega
theorem pF l rest:(iX l rest).size<=l.length-rest.length:=by
 unfold iX;rw[gT,Jt];omega
theorem u6{l rest}{k}{v}(h:bA l=some (k,v,rest))(U:k≠1):1+v.size+5*rest.length<=5*l.length:=by
 have hlen:rest.length<l.length:=by
  rcases(mx h).2 with h|h
  exact absurd h.1 U;exact h.2
 match l,h with
 |[],h=>obtain⟨rfl,rfl,rfl⟩:=eN h;exact absurd rfl U
 |x::r,h=>
  rw[bA]at h;have t:e0.size=0:=rfl;split at h;obtain⟨rfl,rfl,rfl⟩:=eN h;omega;split at h;split at h;obtain⟨rfl,rfl,rfl⟩:=eN h;omega;cases h;split at h;obtain⟨rfl,rfl,rfl⟩:=eN h;have:=pF (x::r) (r.dropWhile gX);omega;split at h;obtain⟨rfl,rfl,rfl⟩:=eN h;have:=pF (x::r) (r.dropWhile dj);omega;split at h;rw[Io]at h;obtain⟨⟨fl,R⟩,O,hz⟩:=h;obtain⟨_,rfl,rfl⟩:=eN (congrArg some hz);have:=pF (x::r) R;dsimp only at*;omega;split at h;split at h;rename_i B;rw[Io]at h;obtain⟨⟨b,y⟩,hy,hz⟩:=h;obtain⟨_,rfl,rfl⟩:=eN (congrArg some hz);have G:=mf _ _ _ _ _ hy;have:3<=(x::r).length:=by
   have:=congrArg List.length B;rw[Jt]at this;simp at this⊢;omega
  rw[Ia]at G;simp only[IN]at G;dsimp only at*;omega;rw[Io]at h;obtain⟨⟨b,y⟩,hy,hz⟩:=h;obtain⟨_,rfl,rfl⟩:=eN (congrArg some hz);have G:=pj _ _ _ _ _ _ hy;simp at*;omega;cases h
theorem xw: ∀n l,qn (hP n l)<=5*l.length+1
 |0,l=>HD _
 |n+1,l=>by
  rw[hP];split;show 1+e0.size+0<=_;have t:e0.size=0:=rfl;omega;rename_i k v rest he;split;exact HD _;rename_i U;have G:=u6 he U;have H:=xw n rest;have S:=tV l;have:qn (⟨k,v⟩::hP n rest)=1+v.size+qn (hP n rest):=by simp[qn]
  omega
theorem mm f: ∀l:List Tok,qn (l.filter f)<=qn l
 |[]=>HZ _
 |t::l=>by
  have h:=mm f l;have e: ∀(t:Tok)(l:List Tok),qn (t::l)=1+t.v.size+qn l:=λ t l=>by simp[qn]
  rw[List.filter_cons];split;rw[e,e];omega;rw[e];omega
theorem BH l:uZ (fN (b0 l))/\qn (fN (b0 l))<=5*l.length+1:=
 ⟨λ t B=>uq _ _ t (List.mem_filter.1 B).1,Ji (mm _ _) (xw _ _)⟩
theorem uf: ∀a r i,(∀x∈a,x≠10)->bu [10] (a++10::r) i=((i+a.length:Nat):Int)
 |[],r,i,_=>by rw[bu.eq_def];simp
 |x::a,r,i,h=>by
  rw[bu.eq_def,if_pos sm,if_neg (by have:=h x sm;simpa using this)];show bu [10] (a++10::r) (i+1)=_;rw[uf a r (i+1) λ y hy=>h y (by simp[hy])]
  congr 1;simp;omega
theorem tG: ∀a i,(∀x∈a,x≠10)->bu [10] a i= -1
 |[],i,_=>by rw[bu.eq_def];simp
 |x::a,i,h=>by
  rw[bu.eq_def,if_pos sm,if_neg (by have:=h x sm;simpa using this)];show bu [10] a (i+1)=_;rw[tG a (i+1) λ y hy=>h y (by simp[hy])]
theorem o0{a r}(h: ∀x∈a,x≠10):gv [10] (a++10::r)=a::gv [10] r:=by
 have hf:=uf a r 0 h;rw[gv,dif_pos ⟨by simp,by rw[hf];omega⟩,hf]
 congr 1
 simp
 congr 1;simp
theorem vg{a}(h: ∀x∈a,x≠10):gv [10] a=[a]:=by
 rw[gv,dif_neg (by rw[tG a 0 h];simp)]
theorem mC l:al (sB l) 0=l:=by show(l.toArray).toList.drop 0=l;simp
theorem xP{l}(h: ∀x∈l,x=32\/x=9):lg l=2147483647:=by
 unfold lg;rw[if_pos];have:=mH (f:=isSp) (r:=l) (l:=[]) (λ y hy=>by rcases h y hy with rfl|rfl<;>decide) (λ x L=>by cases L);simpa using this
theorem ub{I d}(h: ∀x∈I,x=32\/x=9){x}{r}(hd:d=x::r)(L:isSp x=false):lg (I++d)=(I.length:Int):=by
 have hw:(I++d).dropWhile isSp=d:=mH (λ y hy=>by rcases h y hy with rfl|rfl<;>decide) (λ y hy=>by rw[hd]at hy;simp at hy;subst hy;exact L);unfold lg;rw[hw,if_neg (by rw[hd];simp),HT]
 congr 1;omega
theorem yK{a b}:(sB (a++b)).extract a.length (sB (a++b)).size=sB b:=by
 apply ByteArray.ext;apply Array.ext';rw[Ii,Ij];show List.extract (a++b).toArray.toList _ _=b.toArray.toList;simp[List.extract,gT]
theorem qG{a b}{n}(h:n=a.length):ky n (sB (a++b))=sB b:=by
 subst h;unfold ky;rw[if_neg (by rw[gT,HT];omega)];exact yK
theorem vC{I}{s}(Z: ∀x∈I,x=32\/x=9)(hl:I.length<2147483647)(aJ:sR s):hz (sB (10::(I++bl s++10::I)))=s:=by
 obtain⟨⟨x,y,L,hy,d,j⟩,J⟩:=aJ;obtain⟨r,hd⟩: ∃r,bl s=x::r:=by
  cases hb:bl s with
  |nil=>rw[hb]at L;cases L
  |cons z r=>rw[hb]at L;simp at L;subst L;exact⟨r,rfl⟩
 have c:isSp x=false:=by
  have G:=J x (by rw[hd];simp);have:x.toNat≠32:=λ e=>d (Ig.1 e)
  unfold isSp;simp only[decide_eq_false_iff_not];have:=G.1;omega
 have i10: ∀x∈I,x≠10:=λ x L=>by rcases Z x L with rfl|rfl<;>decide
 have d10: ∀x∈I++bl s,x≠10:=λ x L=>by
  rcases HM.1 L with h|h
  exact i10 x h;rintro rfl;exact absurd (J _ h).1 dc
 have E:cJ ⟨#[10]⟩ (sB (10::(I++bl s++10::I)))=[sB [],sB (I++bl s),sB I]:=by
  unfold cJ;show(gv [10] ([]++10::(I++bl s++10::I))).map _=_;rw[o0 (λ y hy=>by cases hy),o0 d10,vg i10];rfl
 have P:lg (al (sB []) 0)=2147483647:=by rw[mC];exact xP (λ x h=>by cases h)
 have aA:lg (al (sB (I++bl s)) 0)=(I.length:Int):=by rw[mC];exact ub Z hd c
 have l3:lg (al (sB I) 0)=2147483647:=by rw[mC];exact xP Z
 have l4:lg (al (sB (bl s)) 0)=0:=by rw[mC];exact ub (I:=[]) (λ x h=>by cases h) hd c
 have f:jZ [sB [],sB (I++bl s),sB I] 2147483647=(I.length:Int):=by
  rw[jZ,if_neg (by rw[P,gT];simp),jZ,if_pos (by rw[aA,gT,HT,hd];simp;omega),aA];split;rename_i h;rw[h];rw[jZ,if_neg (by rw[l3];omega),jZ]
 have g:fa [sB [],sB (I++bl s),sB I]=[sB [],sB (bl s),sB []]:=by
  unfold fa;simp only[f];rw[if_pos om];simp only[HF,HG,Int.toNat_natCast];rw[qG rfl,show ky I.length (sB I)=sB []by have:=qG (a:=I) (b:=[]) rfl;rwa [Ju]at this]
 have b1:ed (sB [])=true:=by unfold ed;rw[P];rfl
 have b2:ed (sB (bl s))=false:=by unfold ed;rw[l4];rfl
 have i:hS [sB [],sB (bl s),sB []]=[sB (bl s)]:=by
  unfold hS jt;rw[Ik b1,Il (by rw[b2];simp)];show List.reverse (List.dropWhile ed [sB [],sB (bl s)])=_;rw[Ik b1,Il (by rw[b2];simp)];rfl
 unfold hz;rw[E,g,i];unfold jk;simp only[HF,HG];rw[Lib.join_one];exact kG s
def lQ(st:FS):Prop:=(∀x∈bl st.ind,x=32\/x=9)/\st.ind.size<=16
structure Hf(st:FS)(T:List Tok):Prop where
 ind:lQ st
 raw: ∀r,Bd r->b0 (st.out++r)=T++b0 r
structure Dn(st:FS)(T:List Tok):Prop where
 ind:lQ st
 raw: ∀r,b0 (st.out++r)=T++b0 r
def Ft(st:FS)(T:List Tok):Prop:=Hf st T/\(Dn st T\/(st.pad=true/\st.hd=false))
def bD(w:List UInt8)(t:List Tok):Prop:= ∀r,Bd r->b0 (w++r)=t++b0 r
def eC(st:FS)(m:Nat):List UInt8:=if st.hd then II st.ind.data.toList m else if st.pad then[32]else[]
theorem rq st m:(st.lead m).out=st.out++eC st m/\(st.lead m).hd=false/\(st.lead m).ind=st.ind:=by
 unfold FS.lead eC;by_cases h:st.hd=true;rw[if_pos h,if_pos h];exact⟨by show st.out++(if st.hd=true then _ else _)=_;rw[if_pos h],rfl,rfl⟩;rw[if_neg h,if_neg h];have l:st.hd=false:=by simpa using h
 by_cases H:st.pad=true;rw[if_pos H,if_pos H];exact⟨rfl,l,rfl⟩;rw[if_neg H,if_neg H,Ju];exact⟨rfl,l,rfl⟩
theorem pA{l}(h: ∀x∈l,x=32\/x=9): ∀m,∀x∈II l m,x=32\/x=9
 |0=>λ x L=>by simp[II]at L
 |m+1=>λ x L=>by
  rw[II]at L;rcases HM.1 L with L|L
  first|exact h x L|exact pA h m x L
  first|exact h x L|exact pA h m x L
theorem CA{x}(h:x=32\/x=9):hQ x=true:=by rcases h with rfl|rfl<;>decide
section
variable{st:FS}{T t:List Tok}{w:List UInt8}{x:UInt8}{k:Nat}
theorem hx(h:lQ st)m: ∀x∈eC st m,hQ x=true:=λ x L=>by
 unfold eC at L;split at L;exact CA (pA h.1 m x L);split at L;simp at L;subst L;rfl;cases L
theorem kd st m s:(st.ws m s).out=st.out++(eC st m++s)/\(st.ws m s).hd=false/\(st.ws m s).ind=st.ind:=by
 obtain⟨G,H,S⟩:=rq st m;refine⟨?_,H,S⟩;show(st.lead m).out++s=_;rw[G,Js]
theorem qh st m s:(st.ww m s).out=st.out++(eC st m++s)/\(st.ww m s).hd=false/\(st.ww m s).ind=st.ind:=by
 obtain⟨G,H,S⟩:=rq st m;refine⟨?_,H,S⟩;show(st.lead m).out++s=_;rw[G,Js]
theorem lQ.of{a}(h:lQ st)(e:a.ind=st.ind):lQ a:=by unfold lQ;rw[e];exact h
theorem Dn.hf(h:Dn st T):Hf st T:=⟨h.ind,λ r _=>h.raw r⟩
theorem Dn.ft(h:Dn st T):Ft st T:=⟨h.hf,.inl h⟩
theorem Ft.hf(h:Ft st T):Hf st T:=h.1
theorem Hf.p(h:Hf st T)(hp:Pu x k)m r:b0 (st.out++(eC st m++[x])++r)=T++[⟨k,e0⟩]++b0 r:=by
 have hb:Bd (eC st m++(x::r)):=Bd.app (hx h.ind m) (.inr hp.bd);have e:st.out++(eC st m++[x])++r=st.out++(eC st m++(x::r)):=by simp
 rw[e,h.raw _ hb,mh (hx h.ind m),tC hp];simp
theorem Hf.sd(h:Hf st T)(hp:Pu x k)m:Dn (st.ws m [x]) (T++[⟨k,e0⟩]):=by
 obtain⟨G,H,S⟩:=kd st m [x];exact⟨h.ind.of S,λ r=>by rw[G,h.p hp]⟩
theorem Hf.DT(h:Hf st T)(hp:Pu x k)m:Dn (st.ww m [x]) (T++[⟨k,e0⟩]):=by
 obtain⟨G,H,S⟩:=qh st m [x];exact⟨h.ind.of S,λ r=>by rw[G,h.p hp]⟩
theorem Hf.Ga(h:Hf st T)m:Dn (st.ww m [44]) T:=by
 obtain⟨G,H,S⟩:=qh st m [44];refine⟨h.ind.of S,λ r=>?_⟩;have e:st.out++(eC st m++[44])++r=st.out++(eC st m++(44::r)):=by simp
 rw[G,e,h.raw _ (Bd.app (hx h.ind m) (.inr (Bd.ws dc))),mh (hx h.ind m),ke dc]
theorem Hf.nl(h:Hf st T):Dn st.nl T:=by
 refine⟨h.ind.of rfl,λ r=>?_⟩;show b0 ((st.out++[10])++r)=_;rw[Js,h.raw _ (show Bd ([10]++r)from Bd.ws dc)];exact congrArg (T++ ·) (ke dc)
theorem Ft.p(h:Ft st T)(hw:bD w t)m{r}(V:Bd r):b0 (st.out++(eC st m++w)++r)=T++t++b0 r:=by
 have e:st.out++(eC st m++w)++r=st.out++(eC st m++(w++r)):=by simp
 rw[e];have hl:b0 (eC st m++(w++r))=t++b0 r:=by rw[mh (hx h.1.ind m),hw r V]
 rcases h.2 with H|⟨H,S⟩
 rw[H.raw,hl,Js];rw[h.1.raw _ (Bd.app (hx h.1.ind m) (.inl (by unfold eC;rw[H,S];simp))),hl,Js]
theorem Ft.ws(h:Ft st T)(hw:bD w t)m:Hf (st.ws m w) (T++t):=by
 obtain⟨G,H,S⟩:=kd st m w;exact⟨h.1.ind.of S,λ r V=>by rw[G,h.p hw m V]⟩
theorem Ft.ww(h:Ft st T)(hw:bD w t)m:Ft (st.ww m w) (T++t):=by
 obtain⟨G,H,S⟩:=qh st m w;exact⟨⟨h.1.ind.of S,λ r V=>by rw[G,h.p hw m V]⟩,.inr ⟨rfl,H⟩⟩
theorem Hf.np(h:Hf st T):Hf st.np T:=⟨h.ind,h.raw⟩
theorem Dn.np(h:Dn st T):Dn st.np T:=⟨h.ind,h.raw⟩
theorem Dn.pd(h:Dn st T):Dn st.pd T:=⟨h.ind,h.raw⟩
theorem Hf.pd(h:Hf st T)(hh:st.hd=false):Ft st.pd T:=⟨⟨h.ind,h.raw⟩,.inr ⟨rfl,hh⟩⟩
theorem Hf.inc(h:Hf st T):Hf st.inc T:=⟨h.ind,h.raw⟩
theorem Dn.inc(h:Dn st T):Dn st.inc T:=⟨h.ind,h.raw⟩
theorem Hf.dec(h:Hf st T):Hf st.dec T:=⟨h.ind,h.raw⟩
theorem Dn.dec(h:Dn st T):Dn st.dec T:=⟨h.ind,h.raw⟩
theorem Ft.inc(h:Ft st T):Ft st.inc T:=⟨h.1.inc,h.2.imp Dn.inc id⟩
theorem Ft.dec(h:Ft st T):Ft st.dec T:=⟨h.1.dec,h.2.imp Dn.dec id⟩
end
def b7(s:ao):List Tok:=if s.size=0 then[]else[⟨20,s⟩]
theorem Dn.desc{st}{T}(h:Dn st T){s}(aJ:jq s){m}(hm:m<=8):Dn (st.desc m s) (T++b7 s):=by
 unfold FS.desc b7;by_cases N:s.size=0;rw[if_pos N,if_pos N,Ju];exact h;rw[if_neg N,if_neg N];have A:sR s:=aJ.resolve_left (λ e=>N (by rw[e];rfl));have hi:=h.ind;obtain⟨a1,a2,a3⟩:=kd st m q3;generalize st.ws m q3=s1 at*;have i1:lQ s1:=hi.of a3;have n1:s1.nl.out=s1.out++[10]:=rfl;have k1:eC s1.nl m=II s1.ind.data.toList m:=by unfold eC;rfl
 obtain⟨b1,b2,b3⟩:=kd s1.nl m (bl s);have c3:s1.nl.ind=s1.ind:=rfl;generalize s1.nl=s2 at*;generalize s2.ws m (bl s)=s3 at*;have n3:s3.nl.out=s3.out++[10]:=rfl;have k3:eC s3.nl m=II s3.ind.data.toList m:=by unfold eC;rfl
 obtain⟨d1,d2,d3⟩:=kd s3.nl m q3;have e3:s3.nl.ind=s3.ind:=rfl;generalize s3.nl=s4 at*;generalize s4.ws m q3=s5 at*;have es:s3.ind=s1.ind:=b3.trans c3;refine⟨hi.of (show s5.ind=st.ind by rw[d3,e3,es,a3]),λ r=>?_⟩;show b0 ((s5.out++[10])++r)=_;have E:=pA i1.1 m;have hlen:(II s1.ind.data.toList m).length<2147483647:=by
  rw[Lib.repeatL_length];have G:s1.ind.data.toList.length=s1.ind.size:=by simp
  have H:=i1.2;have S:=Nat.mul_le_mul hm H;rw[G];omega
 rw[d1,n3,b1,n1,a1,k1,k3,es];generalize Z:II s1.ind.data.toList m=I at*;have e:st.out++(eC st m++q3)++[10]++(I++bl s)++[10]++(I++q3)++[10]++r=st.out++(eC st m++(34::34::34::((10::(I++bl s++10::I))++34::34::34::(10::r)))):=by simp
 rw[e,h.raw,mh (hx hi m),zn (λ x L=>?_) (Bd.ws dc),vC E hlen A,ke dc];simp;rcases G6.1 L with rfl|L
 exact .inr (.inl rfl);rcases HM.1 L with L|L
 rcases HM.1 L with L|L
 rcases E x L with rfl|rfl
 exact .inr (.inr (by refine⟨by decide,by decide,by decide,by decide⟩));exact .inl rfl;exact .inr (.inr (A.2 x L));rcases G6.1 L with rfl|L
 exact .inr (.inl rfl);rcases E x L with rfl|rfl
 exact .inr (.inr (by refine⟨by decide,by decide,by decide,by decide⟩));exact .inl rfl
end Go.Proofs.YtdpmeahgjjmdiaaGreatDoor
