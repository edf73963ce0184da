/- Part of the proof that laws.FnSchemaAgain answers true. Conditions: none. -/
import Derived.Test.YtdpmeahgjjmdiaaGreatDoorC06
set_option linter.all false
open Go.Lib renaming byteCells->IE,encodeRune->Im,join->IA,repeatL->II,repeatL_length->Jc
open List renaming dropWhile_cons->IC,drop_eq_getElem_cons->Jg,drop_eq_nil_of_le->Jh,getElem?_append_left->Jf,getElem?_drop->Jl,getElem?_map->HW,getElem_mem->HY,headD_cons->Jm,length_append->HT,length_cons->Iz,length_drop->Ia,length_nil->IN,length_replicate->Jn,set_append->Jj,take_add_one->Jk,take_of_length_le->Ir,take_succ_cons->Ic,take_zero->Ie
open Nat renaming le_refl->HZ,le_trans->Ji,mul_comm->Jd,mul_one->IX,zero_le->HD
open Go.Proofs.Tryz renaming prog->HB
open ByteArray renaming data_append->Jo,data_extract->Ii,size->H0
open Go.ByteArray renaming toList_eq->Ix
open UInt8 renaming toNat_inj->Ig
open Go.IntKind renaming wrap->HK
namespace Go.Proofs.YtdpmeahgjjmdiaaGreatDoor
open Go
set_option maxHeartbeats 12800000
section
variable[OO]
def j7(s:ao):Prop:= ∃x y:UInt8,s.data.toList.head?=some x/\s.data.toList.getLast?=some y/\32<x.toNat/\x.toNat<127/\32<y.toNat/\y.toNat<127
def FS.ww(st:FS)(m:Nat)(s:List UInt8):FS:={(st.lead m).put s with pad:=true}
theorem vF{s:ao}{x}(h:s.data.toList.head?=some x):0<s.size:=by
 show 0<s.data.size;rw[<-Array.length_toList];cases hl:s.data.toList with
 |nil=>rw[hl]at h;simp at h
 |cons a l=>simp
theorem rW{s:ao}{x}(h:s.data.toList.head?=some x)(H:x.toNat<127):Lib.decodeGo s=(x.toNat,1):=by
 rw[fw];cases hl:s.data.toList with
 |nil=>rw[hl]at h;simp at h
 |cons a l=>rw[hl]at h;simp at h;subst h;exact ek om
theorem tj{s:ao}{y}(h:s.data.toList.getLast?=some y)(H:y.toNat<127):Lib.decodeLastL s.data.toList=(y.toNat,1):=by
 unfold Lib.decodeLastL;have ah:s.data.toList≠[]:=λ e=>by rw[e]at h;simp at h
 have hg:s.data.toList.getD (s.data.toList.length-1) 0=y:=by
  rw[List.getLast?_eq_getElem?]at h;rw[List.getD_eq_getElem?_getD,h];rfl
 rw[if_neg ah,hg,if_pos om]
theorem AT: ∀aa s,U8 aa->s.size<=140737488355328->j7 s->Sp 287 [vs s] [] aa (λ r M' _=>r=vs s/\M'=[]):=by
 intro aa s an aJ ⟨x,y,L,hy,x1,a',y1,bh⟩;have C:0<s.size:=vF L;have aT:=rW L a';have aP:=tj hy bh;refine aW Tryz.func287 λ F=>(ra 9 [] [1,0,0,0,0] [0]) λ _=>(rv 5 [] 1 [1] [0,9])<|(sv 9 (show(decide ((s.size:Int)>0))=true from by simp;omega))<|(rv 6 [] 2 [1,0,0,1] [0,11]) ?_;have q:=wK aa an s;rw[aT]at q;refine(cR [] (q)) λ ak P=>(rv 10 [] 2 [1,0,1] [0,4,15])<|(cR [] (CP _ (x:=(x.toNat:Int)) om om)) λ k1 m1=>(ra 9 [] [2,0,0,0,0] [0]) λ _=>(rv 5 [] 1 [1] [0,23])<|(sv 23 (show(decide ((s.size:Int)>0))=true from by simp;omega))<|(rv 6 [] 2 [1,0,0,1] [0,25]) ?_;have p:=EA k1 ((an.mono P).mono m1) s om;rw[aP]at p;refine(cR [] (p)) λ aB aA=>(rv 10 [] 2 [1,0,1] [0,6,29])<|(cR [] (CP _ (x:=(y.toNat:Int)) om om)) λ k2 m2=>(ra 9 [] [4] [2]) λ _=>ez 0 (vs s) [] [] (((P.trans m1).trans aA).trans m2) ⟨rfl,rfl⟩
theorem DW: ∀aa f b v st s(m:Nat),st.k=(m:Int)->st.out.length+st.ind.size*m+1+s.size<=140737488355328->m<=9223372036854775807->U8 aa->j7 s->Sp 272 [vp f 0,vs s] [aF f b v st] aa (λ r M' _=>r=vp f 0/\ ∃v',M'=[aF f b v' (st.ww m s.data.toList)]):=by
 intro aa f b v st s m U d hm an n;obtain⟨ind,k,om,co,pad,hd,out⟩:=st;dsimp only at U d;subst U;refine Bc Tryz.func272 λ F=>?_
 refine se 0 rfl ?_;rintro p1 A1 D C l;(try subst C);refine zg<|(ra 12 [0] [1,1] [0,1,8]) λ _=>(iz 8 hd) (λ h=>?_) (λ h=>?_);subst h;refine rZ 3 [] [1,1,0,1] (λ _=>[(0,vp f 0),(1,vs s),(9,vp f 0)]) (λ _=>.av f 162 [.iface 78 (vp b 0),vs ind,vi m,vb false,vb false,vb false,vb om,vb co,vb pad,vb true]::.av b 81 [p1,(vl A1 (FS.out ⟨ind,(m:Int),om,co,pad,true,out⟩).length D)]::own 5 1 (vl A1 (FS.out ⟨ind,(m:Int),om,co,pad,true,out⟩).length D) (FS.out ⟨ind,(m:Int),om,co,pad,true,out⟩).length (IE (FS.out ⟨ind,(m:Int),om,co,pad,true,out⟩))::F) λ _=>vT ⟨ind,(m:Int),om,co,pad,true,out⟩ _ _ _ l rfl rfl rfl ?_;refine cl 285 [vp f 0] (some 10) [1,1,0,2] [0] (C6 _ f b (vl A1 (FS.out ⟨ind,(m:Int),om,co,pad,true,out⟩).length D) ⟨ind,(m:Int),om,co,pad,true,out⟩ m rfl dm hm) rfl ?_;rintro _ _ j9 l9 ⟨rfl,v9,rfl⟩;rw[show FS.wi ⟨ind,(m:Int),om,co,pad,true,out⟩ m=⟨ind,(m:Int),om,co,false,false,(out++II ind.data.toList m)⟩from rfl];have T:=Jc ind.data.toList m;have c:ind.data.toList.length=ind.size:=by simp
 have j:(out++II ind.data.toList m).length=out.length+ind.size*m:=by rw[HT,T,c,Jd]
 obtain⟨a,e⟩: ∃a,a=(out++II ind.data.toList m):=⟨_,rfl⟩;rw[<-e]at j⊢;refine se 0 rfl ?_;rintro p2 E c2 i N;(try subst i);refine rn 15 [0] [3,2] (λ _=>[(0,vp f 0),(17,vp f 0),(18,vs s)]) (λ _=>.av f 162 [.iface 78 (vp b 0),vs ind,vi m,vb false,vb false,vb false,vb om,vb co,vb false,vb false]::.av b 81 [p2,(vl E (FS.out ⟨ind,(m:Int),om,co,false,false,a⟩).length c2)]::own 5 1 (vl E (FS.out ⟨ind,(m:Int),om,co,false,false,a⟩).length c2) (FS.out ⟨ind,(m:Int),om,co,false,false,a⟩).length (IE (FS.out ⟨ind,(m:Int),om,co,false,false,a⟩))::F) λ _=>vT ⟨ind,(m:Int),om,co,false,false,a⟩ _ _ _ N rfl rfl rfl ?_;refine cl 287 [vs s] (some 19) [3,3] [] (AT _ s (an.mono l9) (by omega) n) rfl ?_;rintro _ _ j8 aP ⟨rfl,rfl⟩;refine cl 286 [vp f 0,vs s] (some 20) [3,4] [0] (kO _ f b (vl E (FS.out ⟨ind,(m:Int),om,co,false,false,a⟩).length c2) ⟨ind,(m:Int),om,co,false,false,a⟩ s (by(try have ax:(⟨#[32]⟩:ao).size=1:=rfl);(try simp only[HT,Iz,IN]at*);omega)) rfl ?_;rintro _ _ j3 l3 ⟨rfl,v3,rfl⟩;refine se 0 rfl ?_;rintro p4 A4 c4 g R;(try subst g);refine zg<|(ra 13 [0] [6] [4]) λ _=>(mS ⟨ind,(m:Int),om,co,true,false,(a++(s:ao).data.toList)⟩ R) ?_;refine ez 0 (vp f 0) [aF f b (vl A4 (FS.out ⟨ind,(m:Int),om,co,false,false,(a++(s:ao).data.toList)⟩).length c4) ⟨ind,(m:Int),om,co,true,false,(a++(s:ao).data.toList)⟩] [] lq ?_
 (try subst e);exact⟨rfl,_,rfl⟩
 subst h;refine(ra 10 [0] [2,1] [0,1,14]) λ _=>(iz 14 pad) (λ S=>?_) (λ S=>?_);subst S;refine(rv 3 [] 0 [0,1] [0,1,15])<|(mS ⟨ind,(m:Int),om,co,true,false,out⟩ l)<|(cz (M:=[aF f b (vl A1 (FS.out ⟨ind,(m:Int),om,co,true,false,out⟩).length D) ⟨ind,(m:Int),om,co,true,false,out⟩]) [0] (kO _ f b (vl A1 (FS.out ⟨ind,(m:Int),om,co,true,false,out⟩).length D) ⟨ind,(m:Int),om,co,true,false,out⟩ ⟨#[32]⟩ (by have hz:(⟨#[32]⟩:ao).size=1:=rfl;(try simp only[HT,Iz,IN]at*);omega))) λ|_,_,aB,aA,⟨rfl,v2,rfl⟩=>rZ 5 [] [3,2] (λ _=>[(0,vp f 0),(17,vp f 0),(18,vs s)]) (λ _=>aF f b v2 ⟨ind,(m:Int),om,co,true,false,(out++(⟨#[32]⟩:ao).data.toList)⟩::F) λ _=>cl 287 [vs s] (some 19) [3,3] [] (AT _ s (an.mono aA) (by omega) n) rfl ?_;rintro _ _ j8 aP ⟨rfl,rfl⟩;refine cl 286 [vp f 0,vs s] (some 20) [3,4] [0] (kO _ f b v2 ⟨ind,(m:Int),om,co,true,false,(out++(⟨#[32]⟩:ao).data.toList)⟩ s (by(try have ax:(⟨#[32]⟩:ao).size=1:=rfl);(try simp only[HT,Iz,IN]at*);omega)) rfl ?_;rintro _ _ j3 l3 ⟨rfl,v3,rfl⟩;refine se 0 rfl ?_;rintro p4 A4 c4 g R;(try subst g);refine zg<|(ra 13 [0] [6] [4]) λ _=>(mS ⟨ind,(m:Int),om,co,true,false,((out++(⟨#[32]⟩:ao).data.toList)++(s:ao).data.toList)⟩ R) ?_;refine ez 0 (vp f 0) [aF f b (vl A4 (FS.out ⟨ind,(m:Int),om,co,true,false,((out++(⟨#[32]⟩:ao).data.toList)++(s:ao).data.toList)⟩).length c4) ⟨ind,(m:Int),om,co,true,false,((out++(⟨#[32]⟩:ao).data.toList)++(s:ao).data.toList)⟩] [] lq ?_
 (try subst e);exact⟨rfl,_,rfl⟩
 subst S;refine rZ 6 [] [3,2] (λ _=>[(0,vp f 0),(17,vp f 0),(18,vs s)]) (λ _=>.av f 162 [.iface 78 (vp b 0),vs ind,vi m,vb false,vb false,vb false,vb om,vb co,vb false,vb false]::.av b 81 [p1,(vl A1 (FS.out ⟨ind,(m:Int),om,co,false,false,out⟩).length D)]::own 5 1 (vl A1 (FS.out ⟨ind,(m:Int),om,co,false,false,out⟩).length D) (FS.out ⟨ind,(m:Int),om,co,false,false,out⟩).length (IE (FS.out ⟨ind,(m:Int),om,co,false,false,out⟩))::F) λ _=>vT ⟨ind,(m:Int),om,co,false,false,out⟩ _ _ _ l rfl rfl rfl ?_;refine cl 287 [vs s] (some 19) [3,3] [] (AT _ s an (by omega) n) rfl ?_;rintro _ _ j8 aP ⟨rfl,rfl⟩;refine cl 286 [vp f 0,vs s] (some 20) [3,4] [0] (kO _ f b (vl A1 (FS.out ⟨ind,(m:Int),om,co,false,false,out⟩).length D) ⟨ind,(m:Int),om,co,false,false,out⟩ s (by(try have ax:(⟨#[32]⟩:ao).size=1:=rfl);(try simp only[HT,Iz,IN]at*);omega)) rfl ?_;rintro _ _ aB aA ⟨rfl,v2,rfl⟩;refine se 0 rfl ?_;rintro p3 Q c3 H w;(try subst H);refine zg<|(ra 13 [0] [6] [4]) λ _=>(mS ⟨ind,(m:Int),om,co,true,false,(out++(s:ao).data.toList)⟩ w) ?_;refine ez 0 (vp f 0) [aF f b (vl Q (FS.out ⟨ind,(m:Int),om,co,false,false,(out++(s:ao).data.toList)⟩).length c3) ⟨ind,(m:Int),om,co,true,false,(out++(s:ao).data.toList)⟩] [] lq ?_
 (try subst e);exact⟨rfl,_,rfl⟩
def FS.np(st:FS):FS:={st with pad:=false}
def FS.pd(st:FS):FS:={st with pad:=true}
def FS.inc(st:FS):FS:={st with k:=aj (st.k+1)}
def FS.dec(st:FS):FS:={st with k:=aj (st.k-1)}
structure Fo(st:FS)(m n:Nat):Prop where
 k:st.k=(m:Int)
 om:st.om=false
 ind:st.ind.size<=16
 len:st.out.length<=n
 small:m<=8
section
variable{st:FS}{m n n':Nat}
theorem Fo.mono(h:Fo st m n)(O:n<=n'):Fo st m n':=⟨h.k,h.om,h.ind,Ji h.len O,h.small⟩
theorem Fo.BK(h:Fo st m n):st.ind.size*m<=128:=by
 have:=Nat.mul_le_mul h.ind h.small;omega
theorem x4(st:FS)(m:Nat):(st.lead m).k=st.k/\(st.lead m).om=st.om/\(st.lead m).ind=st.ind/\(st.lead m).co=st.co:=by
 unfold FS.lead;split;exact⟨rfl,rfl,rfl,rfl⟩;split;exact⟨rfl,rfl,rfl,rfl⟩;exact⟨rfl,rfl,rfl,rfl⟩
theorem qX(h:Fo st m n):(st.lead m).out.length<=n+130:=by
 have G:=h.BK;have H:=h.len;have hi:st.ind.data.toList.length=st.ind.size:=by simp
 unfold FS.lead;split;rename_i hh;simp only[FS.wi,hh,if_true,HT,Jc,hi];rw[Jd]at G;omega;split;simp only[FS.put,HT,Iz,IN];omega;omega
theorem Fo.ws(h:Fo st m n)(s:List UInt8):Fo (st.ws m s) m (n+200+s.length):=by
 have G:=qX h;have H:=x4 st m;refine⟨H.1.trans h.k,H.2.1.trans h.om,?_,?_,h.small⟩;show(st.lead m).ind.size<=16;rw[H.2.2.1];exact h.ind;show((st.lead m).out++s).length<=_;rw[HT];omega
theorem Fo.ww(h:Fo st m n)(s:List UInt8):Fo (st.ww m s) m (n+200+s.length):=by
 have G:=qX h;have H:=x4 st m;refine⟨H.1.trans h.k,H.2.1.trans h.om,?_,?_,h.small⟩;show(st.lead m).ind.size<=16;rw[H.2.2.1];exact h.ind;show((st.lead m).out++s).length<=_;rw[HT];omega
theorem Fo.nl(h:Fo st m n):Fo st.nl m (n+200):=by
 refine⟨h.k,h.om,h.ind,?_,h.small⟩;show(st.out++[10]).length<=_;have:=h.len;simp;omega
theorem Fo.np(h:Fo st m n):Fo st.np m n:=⟨h.k,h.om,h.ind,h.len,h.small⟩
theorem Fo.pd(h:Fo st m n):Fo st.pd m n:=⟨h.k,h.om,h.ind,h.len,h.small⟩
theorem Fo.inc(h:Fo st m n)(hm:m<8):Fo st.inc (m+1) n:=by
 refine⟨?_,h.om,h.ind,h.len,hm⟩;show aj (st.k+1)=_;rw[h.k];exact ag (n:=8) hm dc
theorem Fo.dec(h:Fo st (m+1) n):Fo st.dec m n:=by
 refine⟨?_,h.om,h.ind,h.len,by have:=h.small;omega⟩;show aj (st.k-1)=_;rw[h.k];have e:((m+1:Nat):Int)-1=(m:Int):=by omega
 rw[e];have:=h.small;exact b_ (by omega) (by omega)
end
def FW(f b:Nat)(T:FS)(m N:Nat)(aO:Value):Value->List Chunk->au->Prop:=
 λ r M' _=>r=aO/\ ∃v' B,B=T/\Fo B m N/\M'=[aF f b v' B]
abbrev uT:Value:=.tuple #[]
section
variable{aa:au}{f b:Nat}{v:Value}{st:FS}{m n:Nat}
theorem FW.of{T:FS}{N:Nat}{aO:Value}(hT:Fo T m N): ∀(r:Value)(M':List Chunk)(C:au),au.le aa C->(r=aO/\ ∃v',M'=[aF f b v' T])->FW f b T m N aO r M' C:=
 λ _ _ _ _⟨G,v',H⟩=>⟨G,v',T,rfl,hT,H⟩
theorem g_(s:ao)(c:Nat)(J:s.size=c)(h:Fo st m n)(hb:n+200+c<=70368744177664):Sp 276 [vp f 0,vs s] [aF f b v st] aa (FW f b (st.ws m s.data.toList) m (n+200+c) (vp f 0)):=
 (FN aa f b v st s m h.k (by have:=h.BK;have:=h.len;omega) (by have:=h.small;omega)).mono (FW.of ((h.ws s.data.toList).mono so))
theorem b9(s:ao)(c:Nat)(J:s.size=c)(h:Fo st m n)(hb:n+200+c<=70368744177664)(an:U8 aa)(aJ:j7 s):Sp 272 [vp f 0,vs s] [aF f b v st] aa (FW f b (st.ww m s.data.toList) m (n+200+c) (vp f 0)):=
 (DW aa f b v st s m h.k (by have:=h.BK;have:=h.len;omega) (by have:=h.small;omega) an aJ).mono (FW.of ((h.ww s.data.toList).mono so))
theorem f_(h:Fo st m n)(hb:n+200<=70368744177664):Sp 277 [vp f 0] [aF f b v st] aa (FW f b st.nl m (n+200) (vp f 0)):=
 (E1 aa f b v st (by have:=h.len;omega)).mono (FW.of h.nl)
theorem nh(h:Fo st m n):Sp 290 [vp f 0] [aF f b v st] aa (FW f b st.np m n (vp f 0)):=(Fs aa f b v st).mono (FW.of h.np)
theorem mI(h:Fo st m n):Sp 304 [vp f 0] [aF f b v st] aa (FW f b st.pd m n (vp f 0)):=(ES aa f b v st).mono (FW.of h.pd)
theorem sM(h:Fo st m n)(hm:m<8):Sp 273 [vp f 0] [aF f b v st] aa (FW f b st.inc (m+1) n uT):=(EZ aa f b v st).mono (FW.of (h.inc hm))
theorem rY(h:Fo st (m+1) n):Sp 262 [vp f 0] [aF f b v st] aa (FW f b st.dec m n uT):=(Eh aa f b v st).mono (FW.of h.dec)
end
theorem aT{s:ao}(h:(match s.data.toList.head?,s.data.toList.getLast? with|some x,some y=>decide (32<x.toNat)&&decide (x.toNat<127)&&decide (32<y.toNat)&&decide (y.toNat<127)|_,_=>false)=true):j7 s:=by
 cases L:s.data.toList.head? with
 |none=>rw[L]at h;simp at h
 |some x=>
  cases hy:s.data.toList.getLast? with
  |none=>rw[L,hy]at h;simp at h
  |some y=>rw[L,hy]at h;simp at h;exact⟨x,y,L,hy,h.1.1.1,h.1.1.2,h.1.2,h.2⟩
structure LF where
 k:Nat
 v:Value
 s:FS
 n:Nat
 im:au
section
variable{f:FuncId}{fn:Func}{R:Ending->World->Prop}{D:List Deferred}{aa:au}{s:St}{g:FuncId}{args:List Value}
theorem cF{a b:Nat}(v:Value){st T:FS}{m n:Nat}{r:Value}(is:List Nat)(E:Sp g args [aF a b v st] aa (FW a b T m n r))(z:mP is s.c=[aF a b v st]:=by kernel_rfl)(aJ:(bF is s.c).isSome=true:=by kernel_rfl)(G: ∀u,(cj fn.ntmps (bI (bd fn) s.p []) s.e).bind (λ x=>(pv HB (execOp (bB u s.e) x.1)).map λ y=>(y,x.1.dst,x.2))=some (.enter g args.toArray,cD fn s,bI (bd fn) (pI s.p) []):=by intros;kernel_rfl)
 (k: ∀C,au.le aa C-> ∀v' B,B=T->Fo B m n->Z f fn R D C (s3 fn is r [aF a b v' B] s)):Z f fn R D aa s:=cz is E z aJ G (by rintro _ _ j l ⟨rfl,v',B,e,h,rfl⟩;exact k j l v' B e h)
theorem cG(a b:Nat)(v:Value){st T:FS}{m n:Nat}{r:Value}(is:List Nat)(E:Sp g args [aF a b v st] aa (FW a b T m n r))(z:mP is s.c=[aF a b v st]:=by kernel_rfl)(aJ:(bF is s.c).isSome=true:=by kernel_rfl)(G: ∀u,(cj fn.ntmps (bI (bd fn) s.p []) s.e).bind (λ x=>(pv HB (execOp (bB u s.e) x.1)).map λ y=>(y,x.1.dst,x.2))=some (.enter g args.toArray,cD fn s,bI (bd fn) (pI s.p) []):=by intros;kernel_rfl)
 (k: ∀C,au.le aa C-> ∀v' B,B=T->Fo B m n->Z f fn R D C (s3 fn is r [aF a b v' B] s)):Z f fn R D aa s:=cF v is E z aJ G k
end
abbrev bl(s:ao):List UInt8:=s.data.toList
theorem bp s:(bl s).length=s.size:=by simp[bl]
theorem eK s t:bl (s++t)=bl s++bl t:=by simp[bl,Jo]
theorem z1 l:bl (sB l)=l:=rfl
theorem kG s:sB (bl s)=s:=by cases s;simp[sB,bl]
def qB(x:UInt8):List UInt8:=if x=34 then[92,34]else if x=92 then[92,92]else if x=10 then[92,110]else if x=9 then[92,116]else[x]
def fk(l:List UInt8):List UInt8:=34::(l.flatMap qB++[34])
mutual
def bo.by:bo->List UInt8
 | .mk k r a=>if k=0 then 36::bl r else if k=3\/k=4 then fk (bl r)else if k=8 then 91::(IA (a.jA false) [44]++[93])
  else if k=9 then 123::(IA (a.jA true) [44]++[125])else bl r
def Kids.jA:Kids->Bool->List (List UInt8)
 | .nil,_=>[]
 | .cons n v r,o=>((if o then bl n++[58]else[])++v.by)::r.jA o
end
def yc(b:Bool):List UInt8:=if b then[33]else[]
def eg.by:eg->List UInt8
 | .named n nn=>bl n++yc nn
 | .list t nn=>91::(t.by++(93::yc nn))
def gB(s:ao):Prop:= ∃x r,bl s=x::r/\ea x=true/\ ∀y∈r,dj y=true
def nH(fl:Bool)(s:ao):Prop:=di (bl s)=some (fl,[])/\ ∃x r,bl s=x::r/\(x=45\/bZ x=true)
def zD(x:UInt8):Prop:=x=9\/x=10\/(32<=x.toNat/\x.toNat<=126)
def uX(s:ao):Prop:= ∀x∈bl s,zD x
def CH(x:UInt8):Prop:=32<=x.toNat/\x.toNat<=126/\x≠34/\x≠92
def sR(s:ao):Prop:=(∃x y,(bl s).head?=some x/\(bl s).getLast?=some y/\x≠32/\y≠32)/\ ∀x∈bl s,CH x
def jq(s:ao):Prop:=s=e0\/sR s
mutual
def bo.pr:bo->Prop
 | .mk k raw a=>(match k with|1=>nH false raw|2=>nH true raw|3=>uX raw|4=>sR raw|5|6|7=>gB raw/\fl raw=k|8|9=>raw=e0|_=>False)/\(k<8->a=.nil)/\a.pr (k==9)
def Kids.pr:Kids->Bool->Prop
 | .nil,_=>True
 | .cons n v r,o=>(if o then gB n else n=e0)/\v.pr/\r.pr o
end
def eg.pr:eg->Prop
 | .named n _=>gB n
 | .list t _=>t.pr
def bT.pr(a:bT):Prop:=gB a.name/\a.v.pr
def cB.pr(d:cB):Prop:=gB d.name/\ ∀a∈d.args,a.pr
def wu(o:Option bo):Prop:= ∀v,o=some v->v.pr
def iK(l:List cB):Prop:= ∀d∈l,d.pr
def aq.pr(a:aq):Prop:=jq a.doc/\gB a.name/\a.t.pr/\wu a.bV/\iK a.ah
def cK.pr(a:cK):Prop:=jq a.doc/\gB a.name/\(∀x∈a.args,x.pr)/\wu a.bV/\a.t.pr/\iK a.ah
def a_.pr(a:a_):Prop:=jq a.doc/\gB a.name/\iK a.ah
def iU(s:ao):Prop:=(bl s).take 2=[95,95]
def Def.pr(d:Def):Prop:=d.kind∈hr/\jq d.doc/\gB d.name/\ ¬iU d.name/\iK d.ah/\(∀x∈d.ifaces,gB x)/\(∀f∈d.fields,f.pr/\ ¬iU f.name)/\(∀x∈d.types,gB x)/\ ∀e∈d.enums,e.pr
def aL.pr(d:aL):Prop:=jq d.doc/\gB d.name/\(∀a∈d.args,a.pr)/\(∀l∈d.ba,gB l)/\d.ba≠[]
def cQ.pr(r:cQ):Prop:=r.op∈de/\gB r.t
def ae.pr(d:ae):Prop:=jq d.doc/\iK d.ah/\(∀r∈d.roots,r.pr)/\d.roots≠[]
def aH.pr(s:aH):Prop:=(∀d∈s.defs,d.pr)/\(∀d∈s.exts,d.pr)/\(∀d∈s.ah,d.pr)/\(∀d∈s.types,d.pr)/\(∀d∈s.ai,d.pr)/\s.defs.length<=1/\s.exts.length<=1
abbrev q3:List UInt8:=[34,34,34]
def FS.ld(m:Nat)(st:FS)(a:bT):FS:=(((st.ww m (bl a.name)).np.ws m [58]).pd).ws m a.v.by
def FS.e1(m:Nat):FS->List bT->FS
 |st,[]=>st
 |st,a::r=>FS.e1 m (if r.isEmpty then st.ld m a else(st.ld m a).np.ww m [44]) r
def FS.jr(m:Nat)(st:FS)(l:List bT):FS:=if l.isEmpty then st else((FS.e1 m (st.np.ws m [40]) l).ws m [41]).pd
def FS.dir(m:Nat)(st:FS)(d:cB):FS:=((st.ws m [64]).ww m (bl d.name)).jr m d.args
def FS.ah(m:Nat):FS->List cB->FS
 |st,[]=>st
 |st,d::r=>FS.ah m (st.dir m d) r
def FS.desc(m:Nat)(st:FS)(s:ao):FS:=if s.size=0 then st else(((((st.ws m q3).nl).ws m (bl s)).nl).ws m q3).nl
def FS.bV(m:Nat)(st:FS):Option bo->FS
 |none=>st
 |some v=>(st.ww m [61]).ws m v.by
def FS.hy(m:Nat)(st:FS)(a:aq):FS:=((((((st.ww m (bl a.name)).np.ws m [58]).pd).ww m a.t.by).bV m a.bV).pd).ah m a.ah
def FS.h2(m:Nat)(st:FS)(a:aq):FS:=if a.doc.size=0 then st.hy m a else(((st.nl.inc).desc (m+1) a.doc).hy (m+1) a).dec.nl
def FS.eM(m:Nat):FS->List aq->FS
 |st,[]=>st
 |st,a::r=>FS.eM m (if r.isEmpty=false/\a.doc.size=0 then(st.h2 m a).np.ww m [44]else st.h2 m a) r
def FS.gm(m:Nat)(st:FS)(l:List aq):FS:=if l.isEmpty then st else((FS.eM m (st.ws m [40]) l).np.ws m [41]).pd
def FS.x'(m:Nat)(st:FS)(f:cK):FS:=(((((((((st.desc m f.doc).ww m (bl f.name)).np).gm m f.args).np.ws m [58]).pd).ww m f.t.by).bV m f.bV).ah m f.ah).nl
def FS.hn(m:Nat):FS->List cK->FS
 |st,[]=>st
 |st,d::r=>FS.hn m (st.x' m d) r
def FS.nP(m:Nat)(st:FS)(l:List cK):FS:=if l.isEmpty then st else((FS.hn (m+1) ((st.ws m [123]).nl.inc) l).dec).ws m [125]
def FS.ev(m:Nat)(st:FS)(e:a_):FS:=(((st.desc m e.doc).ww m (bl e.name)).ah m e.ah).nl
def FS.kt(m:Nat):FS->List a_->FS
 |st,[]=>st
 |st,d::r=>FS.kt m (st.ev m d) r
def FS.xx(m:Nat)(st:FS)(l:List a_):FS:=if l.isEmpty then st else((FS.kt (m+1) ((st.ws m [123]).nl.inc) l).dec).ws m [125]
def FS.dY(m:Nat):FS->List ao->FS
 |st,[]=>st
 |st,a::r=>FS.dY m (if r.isEmpty then st.ww m (bl a)else(st.ww m (bl a)).ww m [124]) r
def FS.ba(m:Nat)(st:FS)(l:List ao):FS:=if l.isEmpty then st else FS.dY m (st.ww m (bl su)) l
def FS.kS(m:Nat)(st:FS)(d:aL):FS:=
 let s1:=(((st.desc m d.doc).ww m (bl aK)).ws m [64]).ww m (bl d.name)
 let s2:=if d.args.isEmpty then s1 else s1.np.gm m d.args
 ((if d.rep then s2.ww m (bl bE)else s2).ba m d.ba).nl
def FS.hA(m:Nat):FS->List aL->FS
 |st,[]=>st
 |st,d::r=>FS.hA m (st.kS m d) r
def FS.root(m:Nat)(st:FS)(r:cQ):FS:=((((st.ww m (bl r.op)).np.ws m [58]).pd).ww m (bl r.t)).nl
def FS.roots(m:Nat):FS->List cQ->FS
 |st,[]=>st
 |st,d::r=>FS.roots m (st.root m d) r
def FS.ext(m:Nat)(st:FS)(x:Bool):FS:=if x then st.ww m (bl bU)else st
def FS.nU(m:Nat)(st:FS)(x:Bool)(d:ae):FS:=
 let s1:=(((((st.desc m d.doc).ext m x).ww m (bl bW)).inc).ah (m+1) d.ah).dec
 ((((FS.roots (m+1) (((s1.ws m [123]).nl).inc) d.roots).dec).ws m [125])).nl
def FS.jw(m:Nat)(st:FS)(x:Bool):List ae->FS
 |[]=>st
 |d::_=>st.nU m x d
def fL(k:ao):ao:=
 if k=jQ then cw else if k=dg then cM else if k=bM then aO else if k=lJ then c_ else if k=n_ then ey else da
def ff(sep:List UInt8)(l:List ao):List UInt8:=IA (l.map bl) sep
def FS.oW(m:Nat)(st:FS)(x:Bool)(d:Def):FS:=
 let s1:=(((st.desc m d.doc).ext m x).ww m (bl (fL d.kind))).ww m (bl d.name)
 let s2:=if d.ifaces.isEmpty then s1 else(s1.ww m (bl a8)).ww m (ff [32,38,32] d.ifaces)
 let s3:=s2.ah m d.ah
 let s4:=if d.types.isEmpty then s3 else(s3.ww m [61]).ww m (ff [32,124,32] d.types)
 ((s4.nP m d.fields).xx m d.enums).nl
def FS.jc(m:Nat)(x:Bool):FS->List Def->FS
 |st,[]=>st
 |st,d::r=>FS.jc m x (st.oW m x d) r
def FS.doc(st:FS)(s:aH):FS:=FS.jc 0 true (FS.jc 0 false (FS.hA 0 ((st.jw 0 false s.defs).jw 0 true s.exts) s.ah) s.types) s.ai
end
section
open Go.RowKit
variable[OO]
theorem xS{Us Ls:List ao}{ys}{k}{u}(U:k<Ls.length)(hl:Us.length=Ls.length)(hu:Us[k]?=some u):
 ((Us.take k++Ls.drop k).map vs++ys).set k (vs u)=(Us.take (k+1)++Ls.drop (k+1)).map vs++ys:=by
 rw[Jj,if_pos so,<-List.map_set,Jj,if_neg so];rw[show k-(Us.take k).length=0 from by simp;omega];rw[Jg U,List.set_cons_zero,Jk,hu];simp
theorem pg{Us:List ao}{ys}{k m}(b:k<=m)(hm:m<=Us.length): ∀j(x:ao),((Us.drop k).take (m-k))[j]?=some x->(Us.map vs++ys)[k+j]?=some (vs x):=λ j x h=>by
 rw[List.getElem?_take]at h;split at h;rw[Jl]at h;rw[Jf so,HW,h];rfl;cases h
theorem ow{Us:List ao}{k m}(h:k<m)hm:(Us.drop k).take (m-k)=(Us.drop k).take (m-1-k)++[Us[m-1]]:=by
 rw[show m-k=(m-1-k)+1 from by omega,Jk,Jl,show k+(m-1-k)=m-1 from by omega,List.getElem?_eq_getElem hm];rfl
section
variable{f:FuncId}{fn:Func}{R:Ending->World->Prop}{D:List Deferred}{aa gI:au}{path:List Nat}{env:Ev}{b T:Nat}{cells:List Value}{F:List Chunk}
end
theorem kW{T E bytes}{x lo hi}{g n c a b}{k1 k2}(st:gL T E 1 bytes)(o:a<=b)(hb:b<=c):
 h3 HB (.slice T x (some lo) (some hi) none) [vl (sa g 0) n c,.int k1 (a:Int),.int k2 (b:Int)] (.slice (if c=a then sa g 0 else sa g (a*1)) (b-a) (c-a)):=by
 obtain⟨i,z,G,H,S,Y,aI⟩:=st.info;refine⟨λ ρ ty pos dst af y w h=>?_⟩;simp only[Op.operands]at h;simp at h;simp only[execOp,Instr.sliceAt,h.1];simp[run_underlying st.under,Instr.slice,Instr.sliceBounds,Instr.sliceBound,h.2.1,h.2.2,asIntOf,o,hb];have dB:(sizeOf E).run HB w=.ok 1 w:=by
  simp only[sizeOf,typeInfo,Sem.run_bind];simp[G,S]
 rw[dB];simp[Addr.add];by_cases ha:a=0;subst ha;simp;rw[if_neg ha]
theorem tJ aa g k m c xs cells(J: ∀j(x:ao),xs[j]?=some x->cells[k+j]?=some (vs x))(hl:xs.length=m-k)(b:k<=m)(d:m<=c)(B:iY xs<=68719476737):
 Sp 190 [.slice (if c=k then sa g 0 else sa g (k*1)) (m-k) (c-k),vs ⟨#[10]⟩] [.av g 9 cells] aa (λ r M' _=>r=vs (jk xs)/\M'=[.av g 9 cells]):=by
 intro F w hw;by_cases a:c=k;have N:m-k=0:=by omega
 rw[if_pos a,N];have L:xs=[]:=List.eq_nil_of_length_eq_zero om;subst L;refine(Tryz.strings_Join_none (sa g 0) (c-k) ⟨#[10]⟩ w).mono ?_;rintro e w' ⟨rfl,rfl⟩;exact⟨_,_,aa,rfl,lq,⟨rfl,rfl⟩,hw⟩;rw[if_neg a,<-hl];have hb:w.heap[g]?=some (.cells cells.toArray 9 (0,0)):=hw.ok _ (List.mem_cons_self ..);refine(Tryz.strings_Join g (k*1) (c-k) xs ⟨#[10]⟩ w (λ j x hj=>?_) (Lib.lt_of_heap hb) (by have:=pY xs;omega) om (by have:=re xs;exact Ji this om)).mono ?_;rw[Lib.cell_of_heap hb,IX];simpa using J j x hj;rintro e w' ⟨rfl,C⟩;exact⟨_,_,aa,rfl,lq,⟨rfl,rfl⟩,ku hw C⟩
theorem DU: ∀aa(s:ao),s.size<=68719476736->Sp 166 [vs s] [] aa (λ r M' _=>r=vs (hz s)/\M'=[]):=by
 intro aa s aJ;obtain⟨Ls,e⟩: ∃Ls,Ls=cJ ⟨#[10]⟩ s:=⟨_,rfl⟩;have C:0<Ls.length:=by rw[e];exact sY _ _
 have ah:iY Ls<=68719476737:=by rw[e,mT];omega
 have hlen: ∀l∈Ls,l.size<=68719476736:=λ l hl=>by have:=o_ hl;omega
 have aw:=pY Ls;refine aW Tryz.func166 λ F=>?_
 refine rZ 7 [] [1,1] (λ _=>[(11,vs s)]) (λ _=>F) ?_;intro _;have q:=Cx aa s ⟨#[10]⟩ aJ dc dc;rw[<-e]at q;refine cl 188 [vs s,vs ⟨#[10]⟩] (some 12) [1,2] [] (q) rfl ?_;rintro _ _ ak P ⟨A,c,rfl,rfl⟩;refine Bo 0 rfl C ?_;rintro g ys rfl T R f;obtain⟨V,hV⟩: ∃V,V=jZ Ls 2147483647:=⟨_,rfl⟩;obtain⟨Z,ag⟩:=mJ Ls 2147483647 om om;rw[<-hV]at Z ag;refine zg<|(ra 16 [] [3,1,0,0,0] [3,4,13,14,15]) λ _=>jY (ι:=au) (λ i=>i) (λ _=>⟨[4,0],[(3,vl (sa g 0) Ls.length c),(4,vi V)],.av g 9 (Ls.map vs++ys)::F⟩) (λ i=>au.le ak i) ?_ (λ n=>?_);rotate_left;refine(wz (ι:=Nat×Int×au) (λ i=>Ls.length-i.1) (λ i=>i.2.2) [3,13,14] (λ i=>[(4,vi i.2.1),(15,vi i.1)]) (λ i c=>c) (λ i=>i.1<=Ls.length/\0<=i.2.1/\i.2.1<=2147483647/\jZ (Ls.drop i.1) i.2.1=V/\au.le ak i.2.2) (0,2147483647,ak) ⟨HD _,dm,dm,hV.symm,lq⟩) ?_;rintro⟨k,v,bn⟩ ⟨U,E,a_,hinv,ae⟩ af;dsimp only at U E a_ hinv ae;refine rZ 4 [] [3,1,0,0,1] (λ _=>[(3,vl (sa g 0) Ls.length c),(4,vi v),(13,vl (sa g 0) Ls.length c),(14,vi Ls.length),(15,vi k),(16,vb (decide ((k:Int)<Ls.length)))]) (λ _=>.av g 9 (Ls.map vs++ys)::F) λ _=>it 16 (decide ((k:Int)<Ls.length)) (λ I=>?_) (λ I=>?_);have I:k<Ls.length:=by have S:=I;simp at S;omega
 have hg:(Ls.map vs++ys)[k]?=some (vs Ls[k]):=by rw[Jf (by simpa using I)];simp[I]
 rw[Jg I,jZ]at hinv;refine rn 6 [] [3,1,0,0,2,0,0,0] (λ _=>[(3,vl (sa g 0) Ls.length c),(4,vi v),(13,vl (sa g 0) Ls.length c),(14,vi Ls.length),(15,vi k)]) (λ _=>.av g 9 (Ls.map vs++ys)::F) λ _=>va (.indexAddr 56 (.tmp 13) (.tmp 15)) [vl (sa g 0) Ls.length c,vi k] (vp g (k*1)) (some 17) [3,1,0,0,2,0,0,1] (bG cY I) ?_;rw[IX];refine vG 0 (.tmp 17) k Ls[k] 18 [3,1,0,0,2,0,0,2] rfl (hg) ?_;refine rn 5 [] [3,1,0,0,2,0,1,1] (λ _=>[(3,vl (sa g 0) Ls.length c),(4,vi v),(6,vs Ls[k]),(13,vl (sa g 0) Ls.length c),(14,vi Ls.length),(15,vi k),(19,vs Ls[k])]) (λ _=>.av g 9 (Ls.map vs++ys)::F) λ _=>cl 189 [vs Ls[k]] (some 20) [3,1,0,0,2,0,1,2] [] (yM _ Ls[k] (by have:=hlen _ (HY I);omega)) rfl ?_;rintro _ _ aB aA ⟨rfl,rfl⟩;obtain⟨x,L⟩: ∃x,x=lg (al Ls[k] 0):=⟨_,rfl⟩;have aG:=BJ (al Ls[k] 0);rw[<-L]at hinv aG⊢;refine zg<|(rv 9 [] 2 [2,5] [3,4,7,13,14,15,25])<|(iz 25 (decide (x<(Ls[k].size:Int)))) (λ G=>?_) (λ G=>?_);have G:x<(Ls[k].size:Int):=by simpa using G
 refine(rv 5 [] 2 [3] [3,4,7,13,14,15,29])<|(iz 29 (decide (x<v))) (λ H=>?_) (λ H=>?_);have H:x<v:=by simpa using H
 rw[if_pos ⟨G,H⟩]at hinv;refine rZ 11 [] [3,1,0,0,2,0,3,0,2] (λ _=>[(3,vl (sa g 0) Ls.length c),(4,vi x),(13,vl (sa g 0) Ls.length c),(14,vi Ls.length),(15,vi k),(32,vb (x==0))]) (λ _=>.av g 9 (Ls.map vs++ys)::F) λ _=>it 32 (x==0) (λ S=>?_) (λ S=>?_);have S:x=0:=by simpa using S
 rw[if_pos S]at hinv;rw[S.trans hinv];refine zg<|(ra 4 [] [4,0] [3,4]) ?_;intro _;exact lz (n aB lq);have S: ¬x=0:=by simpa using S
 rw[if_neg S]at hinv;refine zg<|(rv 9 [] 5 [0] [3,4,13,14,15])<|(sv 15 (wn (k+1) (k+1)))<|lz (af (k+1,x,aB) ⟨I,aG,dm,hinv,lq⟩ dm);have H: ¬x<v:=by simpa using H
 refine(rv 9 [] 3 [0] [3,4,13,14,15])<|(sv 15 (wn (k+1) (k+1))) ?_;rw[if_neg (λ h=>H h.2)]at hinv;exact lz (af (k+1,v,aB) ⟨I,E,a_,hinv,lq⟩ dm);have G: ¬x<(Ls[k].size:Int):=by simpa using G
 refine(rv 14 [] 4 [0] [3,4,13,14,15])<|(sv 15 (wn (k+1) (k+1))) ?_;rw[if_neg (λ h=>G h.1)]at hinv;exact lz (af (k+1,v,aB) ⟨I,E,a_,hinv,lq⟩ dm);have z:k=Ls.length:=by have S:=I;simp at S;omega
 rw[Jh om,jZ]at hinv;rw[hinv];refine zg<|(ra 4 [] [4,0] [3,4]) ?_;intro _;exact lz (n bn ae);intro jA u;obtain⟨Us,d⟩: ∃Us,Us=fa Ls:=⟨_,rfl⟩;have ay:Us.length=Ls.length:=by rw[d,sT]
 refine jY (ι:=au) (λ i=>i) (λ _=>⟨[5],[(3,vl (sa g 0) Ls.length c)],.av g 9 (Us.map vs++ys)::F⟩) (λ i=>au.le ak i) ?_ (λ ar=>?_);rotate_left;refine rZ 4 [] [4,0,3] (λ _=>[(3,vl (sa g 0) Ls.length c),(4,vi V),(36,vb (V !=2147483647))]) (λ _=>.av g 9 (Ls.map vs++ys)::F) λ _=>it 36 (V !=2147483647) (λ hm=>?_) (λ hm=>?_);have hm:V≠2147483647:=by simpa using hm
 refine zg<|(ra 5 [] [4,1] [3,4,40]) λ _=>(sv 40 (show(decide ((Ls.length:Int)>0))=true from by simp;omega)) ?_;refine rZ 9 [] [4,1,0,1,0,0,0,0] (λ _=>[(3,vl (sa g 0) Ls.length c),(4,vi V),(8,vi 1)]) (λ _=>.av g 9 (Ls.map vs++ys)::F) ?_;intro _;obtain⟨l0,aO,O⟩: ∃l0 aO,Ls=l0::aO:=List.exists_cons_of_length_pos C;have p:Us=l0::aO.map (ky V.toNat):=by rw[d,O];unfold fa;simp only;rw[<-O,<-hV,if_pos hm]
 rw[show Ls.map vs++ys=(Us.take 1++Ls.drop 1).map vs++ys from by rw[p,O];rfl];refine bf.loop (ι:=Nat) (λ k=>Ls.length-k) (λ _=>jA) (λ k=>[(3,vl (sa g 0) Ls.length c),(4,vi V),(8,vi k)]) (λ k=>.av g 9 ((Us.take k++Ls.drop k).map vs++ys)::F) (λ k=>1<=k/\k<=Ls.length) 1 ⟨HZ _,C⟩ ?_;rintro k ⟨t,U⟩ af;refine rn 6 [] [4,1,0,1,0,0,0,1] (λ _=>[(3,vl (sa g 0) Ls.length c),(4,vi V),(8,vi k),(44,vb (decide ((k:Int)<Ls.length)))]) (λ _=>.av g 9 ((Us.take k++Ls.drop k).map vs++ys)::F) λ _=>it 44 (decide ((k:Int)<Ls.length)) (λ I=>?_) (λ I=>?_);have I:k<Ls.length:=by have S:=I;simp at S;omega
 have ad:Us[k]?=some (ky V.toNat Ls[k]):=by
  rw[p];obtain⟨j,rfl⟩: ∃j,k=j+1:=⟨k-1,om⟩;subst O;simp at I;simp[I]
 have w:((Us.take k++Ls.drop k).map vs++ys)[k]?=some (vs Ls[k]):=by
  rw[Jf so,HW,List.getElem?_append_right so];simp[show min k Us.length=k from by omega,I]
 have aN:((Us.take k++Ls.drop k).map vs++ys).set k (vs (ky V.toNat Ls[k]))=(Us.take (k+1)++Ls.drop (k+1)).map vs++ys:=xS om om ad;have an:k<((Us.take k++Ls.drop k).map vs++ys).length:=by simp;omega
 refine rn 8 [] [4,1,0,1,0,0,1,0,0,2] (λ _=>[(3,vl (sa g 0) Ls.length c),(4,vi V),(8,vi k),(47,vl (sa g 0) Ls.length c),(48,vi k)]) (λ _=>.av g 9 ((Us.take k++Ls.drop k).map vs++ys)::F) λ _=>va (.indexAddr 56 (.tmp 47) (.tmp 48)) [vl (sa g 0) Ls.length c,vi k] (vp g (k*1)) (some 49) [4,1,0,1,0,0,1,0,0,3] (bG cY I) ?_;rw[IX];refine vG 0 (.tmp 49) k Ls[k] 50 [4,1,0,1,0,0,1,0,0,4] rfl (w) ?_;refine rn 4 [] [4,1,0,1,0,0,1,0,1] (λ _=>[(3,vl (sa g 0) Ls.length c),(4,vi V),(8,vi k),(53,vb (decide ((Ls[k].size:Int)<V)))]) (λ _=>.av g 9 ((Us.take k++Ls.drop k).map vs++ys)::F) λ _=>it 53 (decide ((Ls[k].size:Int)<V)) (λ J=>?_) (λ J=>?_);have J:Ls[k].size<V.toNat:=by have S:=J;simp at S;omega
 refine rn 4 [] [4,1,0,1,0,0,1,0,1,0,2] (λ _=>[(3,vl (sa g 0) Ls.length c),(4,vi V),(8,vi k),(54,vl (sa g 0) Ls.length c),(55,vi k)]) (λ _=>.av g 9 ((Us.take k++Ls.drop k).map vs++ys)::F) λ _=>va (.indexAddr 56 (.tmp 54) (.tmp 55)) [vl (sa g 0) Ls.length c,vi k] (vp g (k*1)) (some 56) [4,1,0,1,0,0,1,0,1,0,3] (bG cY I) ?_;rw[IX];refine CS 0 (.tmp 56) (.const (vs ⟨#[]⟩)) k ⟨#[]⟩ [4,1,0,1,0,0,1,0,1,0,4] rfl (an) ?_;rw[show vs ⟨#[]⟩=vs (ky V.toNat Ls[k])from by unfold ky;rw[if_pos J],aN];refine rn 10 [] [4,1,0,1,0,0,0,0] (λ _=>[(3,vl (sa g 0) Ls.length c),(4,vi V),(8,vi (aj ((k:Int)+1)))]) (λ _=>.av g 9 ((Us.take (k+1)++Ls.drop (k+1)).map vs++ys)::F) ?_;intro _;rw[wn (k+1) (k+1)];exact af (k+1) ⟨om,I⟩ om;have J: ¬Ls[k].size<V.toNat:=by have S:=J;simp at S;omega
 obtain⟨W,Y⟩:=Int.eq_ofNat_of_zero_le Z;have ab:V.toNat=W:=by omega
 refine rn 6 [] [4,1,0,1,0,0,1,0,1,1,4] (λ _=>[(3,vl (sa g 0) Ls.length c),(4,vi V),(8,vi k),(57,vl (sa g 0) Ls.length c),(58,vi k),(59,vl (sa g 0) Ls.length c),(60,vi k)]) (λ _=>.av g 9 ((Us.take k++Ls.drop k).map vs++ys)::F) λ _=>va (.indexAddr 56 (.tmp 59) (.tmp 60)) [vl (sa g 0) Ls.length c,vi k] (vp g (k*1)) (some 61) [4,1,0,1,0,0,1,0,1,1,5] (bG cY I) ?_;rw[IX];refine vG 0 (.tmp 61) k Ls[k] 62 [4,1,0,1,0,0,1,0,1,1,6] rfl (w) ?_;refine rn 1 [] [4,1,0,1,0,0,1,0,1,1,7] (λ _=>[(3,vl (sa g 0) Ls.length c),(4,vi V),(8,vi k),(57,vl (sa g 0) Ls.length c),(58,vi k),(62,vs Ls[k]),(63,vi V)]) (λ _=>.av g 9 ((Us.take k++Ls.drop k).map vs++ys)::F) ?_;intro _;rw[Y];refine va (.slice 9 (.tmp 62) (some (.tmp 63)) none none) [vs Ls[k],vi W] (vs (Ls[k].extract W Ls[k].size)) (some 64) [4,1,0,1,0,0,1,0,1,1,8] (j_ kr om) ?_;refine va (.indexAddr 56 (.tmp 57) (.tmp 58)) [vl (sa g 0) Ls.length c,vi k] (vp g (k*1)) (some 65) [4,1,0,1,0,0,1,0,1,1,9] (bG cY I) ?_;rw[IX];refine CS 0 (.tmp 65) (.tmp 64) k (Ls[k].extract W Ls[k].size) [4,1,0,1,0,0,1,0,1,1,10] rfl (an) ?_;rw[<-Y];rw[show vs (Ls[k].extract W Ls[k].size)=vs (ky V.toNat Ls[k])from by unfold ky;rw[if_neg J,ab],aN];refine rn 10 [] [4,1,0,1,0,0,0,0] (λ _=>[(3,vl (sa g 0) Ls.length c),(4,vi V),(8,vi (aj ((k:Int)+1)))]) (λ _=>.av g 9 ((Us.take (k+1)++Ls.drop (k+1)).map vs++ys)::F) ?_;intro _;rw[wn (k+1) (k+1)];exact af (k+1) ⟨om,I⟩ om;have z:k=Ls.length:=by have S:=I;simp at S;omega
 rw[show(Us.take k++Ls.drop k).map vs++ys=Us.map vs++ys from by rw[Ir om,Jh om,List.append_nil]];refine zg<|(ra 3 [] [5] [3]) ?_;intro _;exact lz (ar jA u);have hm:V=2147483647:=by simpa using hm
 have p:Us=Ls:=by rw[d];unfold fa;simp only;rw[<-hV,if_neg om]
 rw[show Ls.map vs++ys=Us.map vs++ys from by rw[p]];refine zg<|(ra 8 [] [5] [3]) ?_;intro _;exact lz (ar jA u);intro jB K;have ax:iY Us<=68719476737:=by have:=my Ls;rw[d];omega
 have Q: ∀l∈Us,l.size<=68719476736:=λ l hl=>by have:=o_ hl;omega
 refine(ra 14 [] [7,0,0,0,0] [3,9,10]) λ _=>(wz (ι:=Nat×au) (λ i=>Us.length-i.1) (λ i=>i.2) [3,10] (λ i=>[(9,vi i.1)]) (λ i c=>c) (λ i=>i.1<=Us.length/\Us.dropWhile ed=(Us.drop i.1).dropWhile ed/\au.le ak i.2) (0,jB) ⟨HD _,rfl,K⟩) ?_;rintro⟨k,ai⟩ ⟨U,hinv,ae⟩ af;dsimp only at U hinv ae;refine(rv 5 [] 0 [4] [3,9,10,71])<|(iz 71 (decide ((k:Int)<Ls.length))) (λ I=>?_) (λ I=>?_);have I:k<Us.length:=by have S:=I;simp at S;omega
 have X:k<Ls.length:=by omega
 refine rZ 2 [] [7,0,0,0,0,6] (λ _=>[(3,vl (sa g 0) Ls.length c),(9,vi k),(10,vi Ls.length),(71,vb true),(72,vl (sa g 0) Ls.length c),(73,vi k)]) (λ _=>.av g 9 (Us.map vs++ys)::F) λ _=>va (.indexAddr 56 (.tmp 72) (.tmp 73)) [vl (sa g 0) Ls.length c,vi k] (vp g (k*1)) (some 74) [7,0,0,0,0,7] (bG cY X) ?_;rw[IX];have hg:(Us.map vs++ys)[k]?=some (vs Us[k]):=by rw[Jf (by simpa using I)];simp[I]
 refine vG 0 (.tmp 74) k Us[k] 75 [7,0,0,0,0,8] rfl (hg) ?_;refine cl 189 [vs Us[k]] (some 76) [7,0,0,0,0,9] [] (yM _ Us[k] (by have:=Q _ (HY I);omega)) rfl ?_;rintro _ _ aB aA ⟨rfl,rfl⟩;refine rn 3 [] [7,0,0,0,1] (λ _=>[(3,vl (sa g 0) Ls.length c),(9,vi k),(10,vi Ls.length),(78,vb ((lg (al Us[k] 0))==2147483647))]) (λ _=>.av g 9 (Us.map vs++ys)::F) λ _=>it 78 ((lg (al Us[k] 0))==2147483647) (λ hb=>?_) (λ hb=>?_);have hb:ed Us[k]=true:=hb;refine zg<|(rv 12 [] 1 [0] [3,9,10])<|(sv 9 (wn (k+1) (k+1)))<|lz (af (k+1,aB) ⟨I,by rw[hinv,Jg I,List.dropWhile_cons_of_pos hb],lq⟩ dm);have hb:ed Us[k]=false:=hb;have o:Us.drop k=Us.dropWhile ed:=by rw[hinv,Jg I,List.dropWhile_cons_of_neg (by rw[hb];simp)]
 refine zg<|(ra 7 [] [8,0,0,0,0] [3,9,10]) λ _=>(wz (ι:=Nat×au) (λ i=>i.1) (λ i=>i.2) [3,9] (λ i=>[(10,vi i.1)]) (λ i c=>c) (λ i=>k<=i.1/\i.1<=Us.length/\jt (Us.dropWhile ed)=jt ((Us.drop k).take (i.1-k))/\au.le aa i.2) (Ls.length,aB) ⟨dm,dm,by rw[o,Ir (by rw[<-o,Ia];dsimp only;omega)],lq⟩) ?_;rintro⟨m,bA⟩ ⟨b,hm,a,aR⟩ az;dsimp only at b hm a aR;refine rZ 5 [] [8,0,0,0,0,4] (λ _=>[(3,vl (sa g 0) Ls.length c),(9,vi k),(10,vi m),(84,vb (decide ((k:Int)<m)))]) (λ _=>.av g 9 (Us.map vs++ys)::F) λ _=>it 84 (decide ((k:Int)<m)) (λ aD=>?_) (λ aD=>?_);have aD:k<m:=by have S:=aD;simp at S;omega
 refine rn 3 [] [8,0,0,0,0,7] (λ _=>[(3,vl (sa g 0) Ls.length c),(9,vi k),(10,vi m),(84,vb true),(85,vl (sa g 0) Ls.length c),(87,vi (aj ((m:Int)-1)))]) (λ _=>.av g 9 (Us.map vs++ys)::F) ?_;intro _;rw[wn (m-1) (m-1)];have M:m-1<Ls.length:=by omega
 refine va (.indexAddr 56 (.tmp 85) (.tmp 87)) [vl (sa g 0) Ls.length c,vi ((m-1:Nat):Int)] (vp g ((m-1)*1)) (some 88) [8,0,0,0,0,8] (bG cY M) ?_;rw[IX];have aI:m-1<Us.length:=by omega
 have N:(Us.map vs++ys)[m-1]?=some (vs Us[m-1]):=by rw[Jf so];simp[aI]
 refine vG 0 (.tmp 88) (m-1) (Us[m-1]) 89 [8,0,0,0,0,9] rfl (N) ?_;refine cl 189 [vs (Us[m-1])] (some 90) [8,0,0,0,0,10] [] (yM _ Us[m-1] (by have:=Q _ (HY aI);omega)) rfl ?_;rintro _ _ bc a7 ⟨rfl,rfl⟩;have D:(Us.drop k).take (m-k)=(Us.drop k).take (m-1-k)++[Us[m-1]]:=ow aD aI;refine rn 3 [] [8,0,0,0,1] (λ _=>[(3,vl (sa g 0) Ls.length c),(9,vi k),(10,vi m),(92,vb ((lg (al Us[m-1] 0))==2147483647))]) (λ _=>.av g 9 (Us.map vs++ys)::F) λ _=>it 92 ((lg (al Us[m-1] 0))==2147483647) (λ hb=>?_) (λ hb=>?_);have hb:ed Us[m-1]=true:=hb;refine zg<|(rv 12 [] 1 [0] [3,9,10])<|(sv 10 (wn (m-1) (m-1)))<|lz (az (m-1,bc) ⟨dm,dm,by rw[a,D,iB,if_pos hb],lq⟩ dm);have hb:ed Us[m-1]=false:=hb;have hT:(Us.drop k).take (m-k)=hS Us:=by
  unfold hS;rw[a];rw[D,iB,if_neg (by rw[hb];simp)]
 refine zg<|(ra 7 [] [9,3] [95,96,97]) λ _=>(e5 (.slice 56 (.tmp 95) (some (.tmp 96)) (some (.tmp 97)) none) [vl (sa g 0) Ls.length c,vi k,vi m] (v:=((.slice (if c=k then sa g 0 else sa g (k*1)) (m-k) (c-k)))) (kW cY b om)) ?_;have B:=tJ bc g k m c (Us.drop k|>.take (m-k)) (Us.map vs++ys) (pg om om) so om om (by have G:=k' (Us.drop k) (m-k);have H:=kM Us k;omega);refine(cR [0] (B)) λ j9 l9=>(ra 2 [] [10] [2]) λ _=>ez 0 (vs (jk ((Us.drop k).take (m-k)))) [] [0] lq ⟨by rw[hT,d,e];rfl,rfl⟩;have aD:m=k:=by have S:=aD;simp at S;omega
 have hT:(Us.drop k).take (m-k)=hS Us:=by
  unfold hS;rw[a];rw[show m-k=0 from by omega,Ie,oq]
 refine zg<|(ra 16 [] [9,3] [95,96,97]) λ _=>(e5 (.slice 56 (.tmp 95) (some (.tmp 96)) (some (.tmp 97)) none) [vl (sa g 0) Ls.length c,vi k,vi m] (v:=((.slice (if c=k then sa g 0 else sa g (k*1)) (m-k) (c-k)))) (kW cY b om)) ?_;have B:=tJ bA g k m c (Us.drop k|>.take (m-k)) (Us.map vs++ys) (pg om om) so om om (by have G:=k' (Us.drop k) (m-k);have H:=kM Us k;omega);refine(cR [0] (B)) λ j9 l9=>(ra 2 [] [10] [2]) λ _=>ez 0 (vs (jk ((Us.drop k).take (m-k)))) [] [0] lq ⟨by rw[hT,d,e];rfl,rfl⟩;have z:k=Us.length:=by have S:=I;simp at S;omega
 have o:Us.drop k=Us.dropWhile ed:=by rw[hinv,Jh om];rfl
 refine(ra 15 [] [8,0,0,0,0] [3,9,10]) λ _=>(wz (ι:=Nat×au) (λ i=>i.1) (λ i=>i.2) [3,9] (λ i=>[(10,vi i.1)]) (λ i c=>c) (λ i=>k<=i.1/\i.1<=Us.length/\jt (Us.dropWhile ed)=jt ((Us.drop k).take (i.1-k))/\au.le aa i.2) (Ls.length,ai) ⟨dm,dm,by rw[o,Ir (by rw[<-o,Ia];dsimp only;omega)],lq⟩) ?_;rintro⟨m,bA⟩ ⟨b,hm,a,aR⟩ az;dsimp only at b hm a aR;refine rZ 5 [] [8,0,0,0,0,4] (λ _=>[(3,vl (sa g 0) Ls.length c),(9,vi k),(10,vi m),(84,vb (decide ((k:Int)<m)))]) (λ _=>.av g 9 (Us.map vs++ys)::F) λ _=>it 84 (decide ((k:Int)<m)) (λ aD=>?_) (λ aD=>?_);have aD:k<m:=by have S:=aD;simp at S;omega
 refine rn 3 [] [8,0,0,0,0,7] (λ _=>[(3,vl (sa g 0) Ls.length c),(9,vi k),(10,vi m),(84,vb true),(85,vl (sa g 0) Ls.length c),(87,vi (aj ((m:Int)-1)))]) (λ _=>.av g 9 (Us.map vs++ys)::F) ?_;intro _;rw[wn (m-1) (m-1)];have M:m-1<Ls.length:=by omega
 refine va (.indexAddr 56 (.tmp 85) (.tmp 87)) [vl (sa g 0) Ls.length c,vi ((m-1:Nat):Int)] (vp g ((m-1)*1)) (some 88) [8,0,0,0,0,8] (bG cY M) ?_;rw[IX];have aI:m-1<Us.length:=by omega
 have N:(Us.map vs++ys)[m-1]?=some (vs Us[m-1]):=by rw[Jf so];simp[aI]
 refine vG 0 (.tmp 88) (m-1) (Us[m-1]) 89 [8,0,0,0,0,9] rfl (N) ?_;refine cl 189 [vs (Us[m-1])] (some 90) [8,0,0,0,0,10] [] (yM _ Us[m-1] (by have:=Q _ (HY aI);omega)) rfl ?_;rintro _ _ bc a7 ⟨rfl,rfl⟩;have D:(Us.drop k).take (m-k)=(Us.drop k).take (m-1-k)++[Us[m-1]]:=ow aD aI;refine rn 3 [] [8,0,0,0,1] (λ _=>[(3,vl (sa g 0) Ls.length c),(9,vi k),(10,vi m),(92,vb ((lg (al Us[m-1] 0))==2147483647))]) (λ _=>.av g 9 (Us.map vs++ys)::F) λ _=>it 92 ((lg (al Us[m-1] 0))==2147483647) (λ hb=>?_) (λ hb=>?_);have hb:ed Us[m-1]=true:=hb;refine zg<|(rv 12 [] 1 [0] [3,9,10])<|(sv 10 (wn (m-1) (m-1)))<|lz (az (m-1,bc) ⟨dm,dm,by rw[a,D,iB,if_pos hb],lq⟩ dm);have hb:ed Us[m-1]=false:=hb;have hT:(Us.drop k).take (m-k)=hS Us:=by
  unfold hS;rw[a];rw[D,iB,if_neg (by rw[hb];simp)]
 refine zg<|(ra 7 [] [9,3] [95,96,97]) λ _=>(e5 (.slice 56 (.tmp 95) (some (.tmp 96)) (some (.tmp 97)) none) [vl (sa g 0) Ls.length c,vi k,vi m] (v:=((.slice (if c=k then sa g 0 else sa g (k*1)) (m-k) (c-k)))) (kW cY b om)) ?_;have B:=tJ bc g k m c (Us.drop k|>.take (m-k)) (Us.map vs++ys) (pg om om) so om om (by have G:=k' (Us.drop k) (m-k);have H:=kM Us k;omega);refine(cR [0] (B)) λ j9 l9=>(ra 2 [] [10] [2]) λ _=>ez 0 (vs (jk ((Us.drop k).take (m-k)))) [] [0] lq ⟨by rw[hT,d,e];rfl,rfl⟩;have aD:m=k:=by have S:=aD;simp at S;omega
 have hT:(Us.drop k).take (m-k)=hS Us:=by
  unfold hS;rw[a];rw[show m-k=0 from by omega,Ie,oq]
 refine zg<|(ra 16 [] [9,3] [95,96,97]) λ _=>(e5 (.slice 56 (.tmp 95) (some (.tmp 96)) (some (.tmp 97)) none) [vl (sa g 0) Ls.length c,vi k,vi m] (v:=((.slice (if c=k then sa g 0 else sa g (k*1)) (m-k) (c-k)))) (kW cY b om)) ?_;have B:=tJ bA g k m c (Us.drop k|>.take (m-k)) (Us.map vs++ys) (pg om om) so om om (by have G:=k' (Us.drop k) (m-k);have H:=kM Us k;omega);refine(cR [0] (B)) λ j9 l9=>(ra 2 [] [10] [2]) λ _=>ez 0 (vs (jk ((Us.drop k).take (m-k)))) [] [0] lq ⟨by rw[hT,d,e];rfl,rfl⟩
end
section
variable[OO]
theorem mg{s t}(h:ay s t=true):s=t:=by
 have G:s.toList=t.toList:=by simpa[ay]using h
 rw[Ix,Ix]at G;exact ByteArray.ext (Array.toList_inj.1 G)
theorem mi{s t}(h:ay s t=false):s≠t:=λ he=>by subst he;simp[ay]at h
theorem gT l:(sB l).size=l.length:=by simp[sB,H0]
section
variable{s:ao}{e m:Nat}{acc:List UInt8}
theorem iO{n}:(s.extract e (e+n)).data.toList=(al s e).take n:=by
 unfold al;rw[Ii,Array.toList_extract];simp only[List.extract];rw[show e+n-e=n from by omega]
theorem xV{l}{n}(h:(al s e).take n=l):s.extract e (e+n)=⟨l.toArray⟩:=ByteArray.ext (Array.ext' (by rw[iO,h]))
theorem yW(h: ¬e<s.size):lT (al s e)=0:=by rw[cA h];rfl
theorem x5(h:e<s.size)(hb:bb s e=34):lT (al s e)=1+lT (al s (e+1)):=by
 have hl:=dn (· ==34) (al s (e+1));rw[aE h,hb];unfold lT;rw[IC,if_pos dc,Iz];omega
theorem x3(h:e<s.size)(hb: ¬(bb s e).toNat=34):lT (al s e)=0:=by
 rw[aE h];unfold lT;rw[IC,if_neg (by intro hh;apply hb;simp at hh;rw[hh];rfl)];omega
theorem Ct{k}(h:e<s.size)(U:lT (al s e)=k)(S:3<=k):et (m+1) acc (al s e)=some (hz (sB (acc++List.replicate (k-3) 34)),al s (e+k)):=by
 rw[<-dw];rw[aE h]at U⊢;rw[et,U,if_pos S]
theorem zt(h:e<s.size)(K:lT (al s e)<3)(J:(bb s e).toNat<32/\(bb s e).toNat≠9/\(bb s e).toNat≠10/\(bb s e).toNat≠13):et (m+1) acc (al s e)=none:=by
 rw[aE h]at K⊢;rw[et,if_neg om,if_pos J]
theorem yn(h:e<s.size)(K:lT (al s e)<3)(Y:(al s e).take 4=[92,34,34,34]):et (m+1) acc (al s e)=et m (acc++[34,34,34]) (al s (e+4)):=by
 rw[show al s (e+4)=(al s (e+1)).drop 3 from by rw[dw]];rw[aE h]at K Y⊢;have hb:bb s e=92:=by rw[Ic]at Y;exact(List.cons.inj Y).1
 rw[et,if_neg om,if_neg (by rw[hb];decide),if_pos Y]
theorem qy{x}{r:List UInt8}(h:x.toNat≠92): ¬(x::r).take 4=[92,34,34,34]:=by
 intro Y;rw[Ic]at Y;rw[(List.cons.inj Y).1]at h;exact h rfl
theorem zo(h:e<s.size)(K:lT (al s e)<3)(hb:bb s e=13)(G:e+1<s.size)(l:bb s (e+1)=10):et (m+1) acc (al s e)=et m (acc++[10]) (al s (e+2)):=by
 rw[show al s (e+2)=(al s (e+1)).drop 1 from by rw[dw]];rw[aE h]at K⊢;rw[et,if_neg om,if_neg (by rw[hb];decide),if_neg (qy (by rw[hb];decide)),if_pos (by rw[hb];rfl),if_pos (by rw[aE G,l];rfl)]
theorem tT(h:e<s.size)(K:lT (al s e)<3)(hb:bb s e=13)(G: ¬(e+1<s.size/\bb s (e+1)=10)):et (m+1) acc (al s e)=et m (acc++[10]) (al s (e+1)):=by
 rw[aE h]at K⊢;rw[et,if_neg om,if_neg (by rw[hb];decide),if_neg (qy (by rw[hb];decide)),if_pos (by rw[hb];rfl),if_neg ?_];intro B;by_cases H:e+1<s.size;rw[aE H,Ic]at B;exact G ⟨H,(List.cons.inj B).1⟩;rw[cA H]at B;simp at B
theorem py{R W}(h:e<s.size)(K:lT (al s e)<3)(J: ¬((bb s e).toNat<32/\(bb s e).toNat≠9/\(bb s e).toNat≠10/\(bb s e).toNat≠13))(Y:(al s e).take 4≠[92,34,34,34])(hb:bb s e≠13)(hd:fh (al s e)=(R,W)):
 et (m+1) acc (al s e)=et m (acc++Im (R:Int)) (al s (e+W)):=by
 rw[<-dw];rw[aE h]at K Y hd⊢;rw[et,if_neg om,if_neg J,if_neg Y,if_neg (λ hh:(bb s e).toNat=13=>hb (Ig.1 hh))];simp only[hd]
theorem xQ l:(hD l).1<=1114111:=by
 have N:=(l.getD 0 0).toNat_lt;unfold hD;split;decide
 .
  generalize(l.getD 0 0).toNat=h at*;generalize(l.getD 1 0).toNat=b1;generalize(l.getD 2 0).toNat=b2;generalize(l.getD 3 0).toNat=b3;unfold Lib.decodeN
  repeat' split
  all_goals dsimp only
  all_goals omega
theorem ph{R W}(h:e<s.size)(hd:fh (al s e)=(R,W)):1<=W/\e+W<=s.size/\R<=1114111:=by
 have G:=aP s (e+1);have hm:=xQ (al s e);rw[aE h]at hd hm;have H:=ib (x:=bb s e) (l:=al s (e+1));rw[hd,G]at H;refine⟨H.1,by have:=H.2;dsimp only at this;omega,?_⟩;unfold fh at hd;split at hd;have:=(Prod.mk.inj hd).1;have S:=((bb s e::al s (e+1)).headD 0).toNat_lt;omega;rw[hd]at hm;exact hm
theorem mX{R W}(h:e<s.size)(hb:127<=(bb s e).toNat)(hd:fh (al s e)=(R,W)):hD (al s e)=(R,W):=by
 rw[aE h]at hd⊢;unfold fh at hd;rw[if_neg (by rw[Jm];omega)]at hd;exact hd
theorem nA{R W}(h:e<s.size)(hb:(bb s e).toNat<127)(hd:fh (al s e)=(R,W)):R=(bb s e).toNat/\W=1:=by
 rw[aE h]at hd;unfold fh at hd;rw[if_pos (by rw[Jm];omega)]at hd;have:=Prod.mk.inj hd;exact⟨this.1.symm,this.2.symm⟩
end
theorem Ey: ∀aa p s b c ln l0 a d ar T fz(ab:ao)bi,d.length=22->U8 aa->aa s=some (.cells ar T fz)->(∀(j:Nat)u,([vs ⟨#[]⟩,vs ab,vb bi]:List Value)[j]?=some u->ar[j]?=some u)->a+2<ab.size->ab.size<=17179869184->
 Sp 144 [vp p 0] [aX p s (a:Int) b ((a+1:Nat):Int) c ln l0 d] aa (λ r M' _=>RT p s ab d ((et ((al ab a).length+1) [] ((al ab a).drop 3)).map λ y=>(20,y.1,y.2)) r M'):=by
 intro aa p s b c ln l0 a d ar T fz ab bi f an hg J ha dB;obtain⟨X,hX⟩: ∃X,X=et ((al ab a).length+1) [] ((al ab a).drop 3):=⟨_,rfl⟩;rw[<-hX];rw[dw,aP]at hX;refine aW Tryz.func144 λ F=>?_
 refine eW hg J ?_;refine rZ 18 [2,101] [2] (λ b1=>[(0,vp p 0),(2,vp (b1 0) 0),(4,vi ab.size)]) (λ b1=>H6 (b1 0)::.ro s 0 [vs ⟨#[]⟩,vs ab,vb bi]::aX p s (a:Int) b ((a+1:Nat):Int) c ln l0 d::F) λ b1=>bf.drop 1 rfl ?_;refine od [1,0] rfl ?_;refine FU 7 [] [3,2] (λ b2=>[(0,vp p 0),(2,vp (b1 0) 0),(4,vi ab.size),(5,vp (b2 0) 0),(21,vp p 0),(22,vp p 0)]) (λ b2=>.av (b2 0) 309 [vz,vi 0,.int .i8 0]::aX p s (a:Int) b ((a+1:Nat):Int) c ln l0 d::H6 (b1 0)::F) ?_;intro b2 M;have M:fE aa (aX p s (a:Int) b ((a+1:Nat):Int) c ln l0 d::H6 (b1 0)::F) (b2 0):=M;refine D7 (F:=[]) (B:=b2 0) 309 rfl ?_;refine bf.ro (b:=s) (off:=0) (cells:=[vs ⟨#[]⟩,vs ab,vb bi]) hg (by simpa using J) ?_;refine rn 45 [2,2,2,2,2,2,2,2] [7,0,0,0,0] (λ _=>[(0,vp p 0),(2,vp (b1 0) 0),(4,vi ab.size),(5,vp (b2 0) 0)]) (λ _=>.ro s 0 [vs ⟨#[]⟩,vs ab,vb bi]::dC 309 (b2 0) (b2 0) vz (IE [])::aX p s (aj ((a:Int)+3)) (aj (b+3)) (aj (((a+1:Nat):Int)+2)) (aj (c+2)) ln l0 d::H6 (b1 0)::F) λ _=>bf.drop 0 rfl ?_;rw[wn (a+3) (a+3)];rw[wn (((a+1:Nat):Int)+2) (a+3)];refine bf.loop (ι:=Nat×Nat×Int×Int×Int×List UInt8×Value) (λ i=>ab.size-i.2.1) (λ i=>aa) (λ i=>[(0,vp p 0),(2,vp (b1 0) 0),(4,vi ab.size),(5,vp (b2 0) 0)]) (λ i=>dC 309 (b2 0) (b2 0) i.2.2.2.2.2.2 (IE i.2.2.2.2.2.1)::aX p s ((a+3:Nat):Int) (aj (b+3)) (i.2.1:Int) i.2.2.1 i.2.2.2.1 i.2.2.2.2.1 d::H6 (b1 0)::F) (λ i=>a+3<=i.2.1/\i.2.1<=ab.size/\i.2.2.2.2.2.1.length<=4*i.2.1/\ab.size-i.2.1<i.1/\et i.1 i.2.2.2.2.2.1 (al ab i.2.1)=X) (ab.size-a+1,a+3,aj (c+2),ln,l0,[],vz) ⟨HZ _,dm,by simp,dm,hX.symm⟩ ?_;rintro⟨n,e,D,h,l,acc,v⟩ ⟨N,E,aL,O,hinv⟩ af;dsimp only at N E aL O hinv;obtain⟨m,rfl⟩: ∃m,n=m+1:=⟨n-1,om⟩;refine bf.ro (b:=s) (off:=0) (cells:=[vs ⟨#[]⟩,vs ab,vb bi]) hg (by simpa using J) ?_;refine zg<|(rv 8 [2] 1 [1] [0,2,4,5,54])<|(iz 54 (decide ((e:Int)<ab.size))) (λ G=>?_) (λ G=>?_);have I:e<ab.size:=by simp at G;omega
 refine(aM 4 2 [1,0,0] [])<|(qz)<|(cu [0,11] [2,100,2] [61,65])<|(nS 11 (.index 9 (.tmp 61) (.tmp 65)) [vs ab,vi e] (v:=(.int .u8 (bt ab (e:Int)))) (aS kr om om)) ?_;have w:=bO ab e;refine(ja 0 [] [6]) λ _=>(bL) ?_;refine rZ 6 [] [7,0,0,1,0,1,1] (λ _=>[(0,vp p 0),(2,vp (b1 0) 0),(4,vi ab.size),(5,vp (b2 0) 0),(6,.int .u8 (bt ab (e:Int))),(68,vb ((bt ab (e:Int))==34))]) (λ _=>.ro s 0 [vs ⟨#[]⟩,vs ab,vb bi]::dC 309 (b2 0) (b2 0) v (IE acc)::aX p s ((a+3:Nat):Int) (aj (b+3)) (e:Int) D h l d::H6 (b1 0)::F) λ _=>bf.drop 0 rfl ?_;refine cut (ι:=Unit) (λ i=>aa) [7,0,0,1,0,2,0] (λ i=>[(0,vp p 0),(2,vp (b1 0) 0),(4,vi ab.size),(5,vp (b2 0) 0),(6,.int .u8 (bt ab (e:Int)))]) (λ i=>dC 309 (b2 0) (b2 0) v (IE acc)::aX p s ((a+3:Nat):Int) (aj (b+3)) (e:Int) D h l d::H6 (b1 0)::F) (λ i=>lT (al ab e)<3) ?_ (λ C=>?_);rintro⟨u⟩ A;refine bf.ro (b:=s) (off:=0) (cells:=[vs ⟨#[]⟩,vs ab,vb bi]) hg (by simpa using J) ?_;refine bf.drop 0 rfl ?_;refine cut (ι:=Unit) (λ i=>aa) [7,0,0,1,0,3,0,0] (λ i=>[(0,vp p 0),(2,vp (b1 0) 0),(4,vi ab.size),(5,vp (b2 0) 0),(6,.int .u8 (bt ab (e:Int)))]) (λ i=>dC 309 (b2 0) (b2 0) v (IE acc)::aX p s ((a+3:Nat):Int) (aj (b+3)) (e:Int) D h l d::H6 (b1 0)::F) (λ i=> ¬((bb ab e).toNat<32/\(bb ab e).toNat≠9/\(bb ab e).toNat≠10/\(bb ab e).toNat≠13)) ?_ (λ o=>?_);rintro⟨u⟩ q;refine bf.ro (b:=s) (off:=0) (cells:=[vs ⟨#[]⟩,vs ab,vb bi]) hg (by simpa using J) ?_;refine bf.drop 0 rfl ?_;refine cut (ι:=Unit) (λ i=>aa) [7,0,0,1,0,3,0,1,1,0] (λ i=>[(0,vp p 0),(2,vp (b1 0) 0),(4,vi ab.size),(5,vp (b2 0) 0),(6,.int .u8 (bt ab (e:Int)))]) (λ i=>dC 309 (b2 0) (b2 0) v (IE acc)::aX p s ((a+3:Nat):Int) (aj (b+3)) (e:Int) D h l d::H6 (b1 0)::F) (λ i=>(al ab e).take 4≠[92,34,34,34]) ?_ (λ z=>?_);rintro⟨u⟩ Y;refine zg<|(cq 5 1 [1] [0,2,4,5,6,257])<|(iz 257 ((bt ab (e:Int))==13)) (λ k1=>?_) (λ k1=>?_);have k1:bb ab e=13:=by rw[bO]at k1;simp at k1;exact Ig.1 (by show _=13;omega)
 refine eW hg J ?_;refine rZ 3 [] [7,0,0,1,0,3,0,1,1,1,0,0,0] (λ _=>[(0,vp p 0),(2,vp (b1 0) 0),(4,vi ab.size),(5,vp (b2 0) 0)]) (λ _=>.ro s 0 [vs ⟨#[]⟩,vs ab,vb bi]::dC 309 (b2 0) (b2 0) v (IE acc)::aX p s ((a+3:Nat):Int) (aj (b+3)) (e:Int) D h l d::H6 (b1 0)::F) λ _=>dr [7,0,0,1,0,3,0,1,1,1,0,0,0,24] 23 ?_;refine cr [0,1,2,3,4,5,6,7] [2] [7,6,5,4,3,2,1,0] [8,9,10,11,12,13,14,15,16,17,18,19,20,21,22] [(0,vp p 0),(2,vp (b1 0) 0),(4,vi ab.size),(5,vp (b2 0) 0),(267,vb (decide ((aj ((e:Int)+1))<(ab.size:Int))))] ?_;rw[wn (e+1) (e+1)];refine Bm 267 (decide ((((e+1:Nat):Int))<(ab.size:Int))) (λ k2=>?_) (λ k2=>?_);have k2:e+1<ab.size:=by simp at k2;omega
 refine cr [8,9,10,11,12,13,14,15,16,17,18,19] [2,100,2] [19,18,17,16,15,14,13,12,11,10,9,8,7,6,5,4,3,2,1,0] [20,21,22] [(0,vp p 0),(2,vp (b1 0) 0),(4,vi ab.size),(5,vp (b2 0) 0),(267,vb true),(274,vs ab),(279,vi (aj ((e:Int)+1)))] ?_;rw[wn (e+1) (e+1)];refine wI 20 (.index 9 (.tmp 274) (.tmp 279)) [vs ab,vi ((e+1:Nat):Int)] (.int .u8 (bt ab ((e+1:Nat):Int))) (some 280) [20,19,18,17,16,15,14,13,12,11,10,9,8,7,6,5,4,3,2,1,0] [21,22] (aS kr om om) ?_;refine cr [21,22] [] [22,21,20,19,18,17,16,15,14,13,12,11,10,9,8,7,6,5,4,3,2,1,0] [] [(0,vp p 0),(2,vp (b1 0) 0),(4,vi ab.size),(5,vp (b2 0) 0),(282,vb ((bt ab ((e+1:Nat):Int))==10))] ?_;refine eS.fin ?_;refine it 282 ((bt ab ((e+1:Nat):Int))==10) (λ k3=>?_) (λ k3=>?_);have k3:bb ab (e+1)=10:=by rw[bO]at k3;simp at k3;exact Ig.1 (by show _=10;omega)
 refine rn 24 [2,2,2,2] [7,0,0,1,0,3,0,1,1,1,0,1,0] (λ _=>[(0,vp p 0),(2,vp (b1 0) 0),(4,vi ab.size),(5,vp (b2 0) 0)]) (λ _=>.ro s 0 [vs ⟨#[]⟩,vs ab,vb bi]::dC 309 (b2 0) (b2 0) v (IE acc)::aX p s ((a+3:Nat):Int) (aj (b+3)) (aj ((e:Int)+1)) (aj (D+1)) h l d::H6 (b1 0)::F) ?_;intro _;rw[wn (e+1) (e+1)];refine bf.drop 0 rfl ?_;refine y5 10 10 (some 297) [7,0,0,1,0,3,0,1,1,1,0,1,1] rfl M.set om (λ v1=>?_);refine rn 49 (gf 8 []) [7,0,0,0,0] (λ _=>[(0,vp p 0),(2,vp (b1 0) 0),(4,vi ab.size),(5,vp (b2 0) 0)]) (λ _=>dC 309 (b2 0) (b2 0) v1 (IE (acc++[10]))::aX p s ((a+3:Nat):Int) (aj (b+3)) (aj (((e+1:Nat):Int)+1)) (aj ((aj (D+1))+1)) (aj (h+1)) (aj ((aj (D+1))+1)) d::H6 (b1 0)::F) ?_;intro _;rw[wn (((e+1:Nat):Int)+1) (e+2)];exact af (m,e+2,aj ((aj (D+1))+1),aj (h+1),aj ((aj (D+1))+1),(acc++[10]),v1) ⟨dm,dm,by simp only[HT,Iz,IN];omega,dm,by rw[<-hinv];exact(zo I A k1 k2 k3).symm⟩ dm;refine rn 4 [] [7,0,0,1,0,3,0,1,1,1,0,1,0] (λ _=>[(0,vp p 0),(2,vp (b1 0) 0),(4,vi ab.size),(5,vp (b2 0) 0)]) (λ _=>.ro s 0 [vs ⟨#[]⟩,vs ab,vb bi]::dC 309 (b2 0) (b2 0) v (IE acc)::aX p s ((a+3:Nat):Int) (aj (b+3)) (e:Int) D h l d::H6 (b1 0)::F) λ _=>bf.drop 0 rfl ?_;refine y5 10 10 (some 297) [7,0,0,1,0,3,0,1,1,1,0,1,1] rfl M.set om (λ v2=>?_);refine rn 49 (gf 8 []) [7,0,0,0,0] (λ _=>[(0,vp p 0),(2,vp (b1 0) 0),(4,vi ab.size),(5,vp (b2 0) 0)]) (λ _=>dC 309 (b2 0) (b2 0) v2 (IE (acc++[10]))::aX p s ((a+3:Nat):Int) (aj (b+3)) (aj ((e:Int)+1)) (aj (D+1)) (aj (h+1)) (aj (D+1)) d::H6 (b1 0)::F) ?_;intro _;rw[wn (e+1) (e+1)];exact af (m,e+1,aj (D+1),aj (h+1),aj (D+1),(acc++[10]),v2) ⟨dm,dm,by simp only[HT,Iz,IN];omega,dm,by rw[<-hinv];exact(tT I A k1 (λ hh=>by rw[bO]at k3;rw[hh.2]at k3;simp at k3)).symm⟩ dm;refine cr [8,9,10,11,12,13,14,15,16,17,18,19,20,21,22] [] [22,21,20,19,18,17,16,15,14,13,12,11,10,9,8,7,6,5,4,3,2,1,0] [] [(0,vp p 0),(2,vp (b1 0) 0),(4,vi ab.size),(5,vp (b2 0) 0),(282,vb false)] ?_;refine eS.fin ?_;refine rn 4 [] [7,0,0,1,0,3,0,1,1,1,0,1,0] (λ _=>[(0,vp p 0),(2,vp (b1 0) 0),(4,vi ab.size),(5,vp (b2 0) 0)]) (λ _=>.ro s 0 [vs ⟨#[]⟩,vs ab,vb bi]::dC 309 (b2 0) (b2 0) v (IE acc)::aX p s ((a+3:Nat):Int) (aj (b+3)) (e:Int) D h l d::H6 (b1 0)::F) λ _=>bf.drop 0 rfl ?_;refine y5 10 10 (some 297) [7,0,0,1,0,3,0,1,1,1,0,1,1] rfl M.set om (λ v3=>?_);refine rn 49 (gf 8 []) [7,0,0,0,0] (λ _=>[(0,vp p 0),(2,vp (b1 0) 0),(4,vi ab.size),(5,vp (b2 0) 0)]) (λ _=>dC 309 (b2 0) (b2 0) v3 (IE (acc++[10]))::aX p s ((a+3:Nat):Int) (aj (b+3)) (aj ((e:Int)+1)) (aj (D+1)) (aj (h+1)) (aj (D+1)) d::H6 (b1 0)::F) ?_;intro _;rw[wn (e+1) (e+1)];exact af (m,e+1,aj (D+1),aj (h+1),aj (D+1),(acc++[10]),v3) ⟨dm,dm,by simp only[HT,Iz,IN];omega,dm,by rw[<-hinv];exact(tT I A k1 (λ hh=>by simp at k2;omega)).symm⟩ dm
 have k1:bb ab e≠13:=by rintro hh;rw[bO,hh]at k1;simp at k1
 obtain⟨R,W,hd⟩: ∃R W,fh (al ab e)=(R,W):=⟨_,_,rfl⟩;obtain⟨bm,bl,hR⟩:=ph I hd;refine(cq 17 0 [1,2,1] [0,2,4,5,6,11,12,160])<|(iz 160 (decide ((bt ab (e:Int))>=127))) (λ k2=>?_) (λ k2=>?_);have k2:127<=(bb ab e).toNat:=by rw[bO]at k2;simp at k2;omega
 have aY:=mX I k2 hd;refine(eW hg J)<|(aM 1 0 [0] [])<|(qz)<|(cu [0,11] [2,100,2] [168,172])<|(nS 11 (.slice 9 (.tmp 168) (some (.tmp 172)) none none) [vs ab,vi e] (v:=(vs (ab.extract e ab.size))) (j_ kr E)) ?_;have au:=wK aa an (ab.extract e ab.size);rw[fw,iD,aY]at au;refine(bj [] (au)) λ|_,_,ak,P,⟨rfl,rfl⟩=>(aG [])<|(cu [13,3] [] [161,175,176])<|(ja 0 [] []) λ _=>(ja 0 [] []) λ _=>(bL) ?_;refine rZ 26 [2,2,2,2] [7,0,0,1,0,3,0,1,1,1,1,5,1] (λ _=>[(0,vp p 0),(2,vp (b1 0) 0),(4,vi ab.size),(5,vp (b2 0) 0),(6,.int .u8 (bt ab (e:Int))),(192,.int .i32 (R:Int))]) (λ _=>.ro s 0 [vs ⟨#[]⟩,vs ab,vb bi]::dC 309 (b2 0) (b2 0) v (IE acc)::aX p s ((a+3:Nat):Int) (aj (b+3)) (aj ((e:Int)+(W:Int))) (aj (D+1)) h l d::H6 (b1 0)::F) λ _=>bf.drop 0 rfl ?_;refine fg M P (by intro b off cells J;simpa[dC]using J) ?_;refine B7 (R:Int) (some 193) [7,0,0,1,0,3,0,1,1,1,1,5,2] om om M.set om (λ v4=>?_);refine rn 6 [] [7,0,0,1,0,3,0,1,1,1,1,7] (λ _=>[(0,vp p 0),(2,vp (b1 0) 0),(4,vi ab.size),(5,vp (b2 0) 0),(195,vb ((bt ab (e:Int))==10))]) (λ _=>dC 309 (b2 0) (b2 0) v4 (IE (acc++Im (R:Int)))::aX p s ((a+3:Nat):Int) (aj (b+3)) (aj ((e:Int)+(W:Int))) (aj (D+1)) h l d::H6 (b1 0)::F) λ _=>it 195 ((bt ab (e:Int))==10) (λ k4=>?_) (λ k4=>?_);refine zg<|(rv 27 [1,1,1,1] 9 [0,0] [0,2,4,5])<|(sw 1 3 (wn (e+W) (e+W))) ?_;have aF:=eA (R:Int);exact gz (af (m,e+W,aj (D+1),aj (h+1),aj (D+1),(acc++Im (R:Int)),v4) ⟨dm,dm,by simp only[HT,Iz,IN];omega,dm,by rw[<-hinv];exact(py I A q Y k1 hd).symm⟩ dm);refine zg<|(cq 7 9 [0,0] [0,2,4,5])<|(sw 1 3 (wn (e+W) (e+W))) ?_;have aF:=eA (R:Int);exact gz (af (m,e+W,aj (D+1),h,l,(acc++Im (R:Int)),v4) ⟨dm,dm,by simp only[HT,Iz,IN];omega,dm,by rw[<-hinv];exact(py I A q Y k1 hd).symm⟩ dm);have k2:(bb ab e).toNat<127:=by rw[bO]at k2;simp at k2;omega
 obtain⟨rfl,rfl⟩:=nA I k2 hd;refine rZ 28 [1,1,1,1] [7,0,0,1,0,3,0,1,1,1,1,5,1] (λ _=>[(0,vp p 0),(2,vp (b1 0) 0),(4,vi ab.size),(5,vp (b2 0) 0),(6,.int .u8 (bt ab (e:Int))),(192,.int .i32 (HK .i32 (bt ab (e:Int))))]) (λ _=>dC 309 (b2 0) (b2 0) v (IE acc)::aX p s ((a+3:Nat):Int) (aj (b+3)) (aj ((e:Int)+1)) (aj (D+1)) h l d::H6 (b1 0)::F) ?_;intro _;rw[show(HK .i32 (bt ab (e:Int)))=((bb ab e).toNat:Int)from by rw[w];exact uk om om];refine B7 ((bb ab e).toNat:Int) (some 193) [7,0,0,1,0,3,0,1,1,1,1,5,2] om om M.set om (λ v5=>?_);refine rn 6 [] [7,0,0,1,0,3,0,1,1,1,1,7] (λ _=>[(0,vp p 0),(2,vp (b1 0) 0),(4,vi ab.size),(5,vp (b2 0) 0),(195,vb ((bt ab (e:Int))==10))]) (λ _=>dC 309 (b2 0) (b2 0) v5 (IE (acc++Im ((bb ab e).toNat:Int)))::aX p s ((a+3:Nat):Int) (aj (b+3)) (aj ((e:Int)+1)) (aj (D+1)) h l d::H6 (b1 0)::F) λ _=>it 195 ((bt ab (e:Int))==10) (λ k4=>?_) (λ k4=>?_);refine zg<|(rv 27 [1,1,1,1] 9 [0,0] [0,2,4,5])<|(sw 1 3 (wn (e+1) (e+1))) ?_;have aF:=eA ((bb ab e).toNat:Int);exact gz (af (m,e+1,aj (D+1),aj (h+1),aj (D+1),(acc++Im ((bb ab e).toNat:Int)),v5) ⟨dm,dm,by simp only[HT,Iz,IN];omega,dm,by rw[<-hinv];exact(py I A q Y k1 hd).symm⟩ dm);refine zg<|(cq 7 9 [0,0] [0,2,4,5])<|(sw 1 3 (wn (e+1) (e+1))) ?_;have aF:=eA ((bb ab e).toNat:Int);exact gz (af (m,e+1,aj (D+1),h,l,(acc++Im ((bb ab e).toNat:Int)),v5) ⟨dm,dm,by simp only[HT,Iz,IN];omega,dm,by rw[<-hinv];exact(py I A q Y k1 hd).symm⟩ dm);refine bf.ro (b:=s) (off:=0) (cells:=[vs ⟨#[]⟩,vs ab,vb bi]) hg (by simpa using J) ?_;refine dr [7,0,0,1,0,3,0,0,33] 32 ?_;refine cr [0,1,2] [] [2,1,0] [3,4,5,6,7,8,9,10,11,12,13,14,15,16,17,18,19,20,21,22,23,24,25,26,27,28,29,30,31] [(0,vp p 0),(2,vp (b1 0) 0),(4,vi ab.size),(5,vp (b2 0) 0),(6,.int .u8 (bt ab (e:Int))),(213,vb ((bt ab (e:Int))==92))] ?_;refine Bm 213 ((bt ab (e:Int))==92) (λ k1=>?_) (λ k1=>?_);refine cr [3,4,5,6,7,8,9,10,11] [2] [11,10,9,8,7,6,5,4,3,2,1,0] [12,13,14,15,16,17,18,19,20,21,22,23,24,25,26,27,28,29,30,31] [(0,vp p 0),(2,vp (b1 0) 0),(4,vi ab.size),(5,vp (b2 0) 0),(6,.int .u8 (bt ab (e:Int))),(222,vb (decide ((aj ((e:Int)+4))<=(ab.size:Int))))] ?_;rw[wn (e+4) (e+4)];refine Bm 222 (decide ((((e+4:Nat):Int))<=(ab.size:Int))) (λ k2=>?_) (λ k2=>?_);have k2:e+4<=ab.size:=by simp at k2;omega
 refine cr [12,13,14,15,16,17,18,19,20,21,22,23,24,25,26,27] [2,100,2,2] [27,26,25,24,23,22,21,20,19,18,17,16,15,14,13,12,11,10,9,8,7,6,5,4,3,2,1,0] [28,29,30,31] [(0,vp p 0),(2,vp (b1 0) 0),(4,vi ab.size),(5,vp (b2 0) 0),(6,.int .u8 (bt ab (e:Int))),(222,vb true),(229,vs ab),(233,vi e),(238,vi (aj ((e:Int)+4)))] ?_;rw[wn (e+4) (e+4)];refine wI 28 (.slice 9 (.tmp 229) (some (.tmp 233)) (some (.tmp 238)) none) [vs ab,vi e,vi ((e+4:Nat):Int)] (vs (ab.extract e (e+4))) (some 239) [28,27,26,25,24,23,22,21,20,19,18,17,16,15,14,13,12,11,10,9,8,7,6,5,4,3,2,1,0] [29,30,31] (g' kr om k2) ?_;refine cr [29,30] [] [30,29,28,27,26,25,24,23,22,21,20,19,18,17,16,15,14,13,12,11,10,9,8,7,6,5,4,3,2,1,0] [31] [(0,vp p 0),(2,vp (b1 0) 0),(4,vi ab.size),(5,vp (b2 0) 0),(6,.int .u8 (bt ab (e:Int))),(241,vb (ay (ab.extract e (e+4)) (⟨#[92,34,34,34]⟩)))] ?_;refine on 31 ?_;refine ex 31 0 [] [] (λ _=>[(0,vp p 0),(2,vp (b1 0) 0),(4,vi ab.size),(5,vp (b2 0) 0),(6,.int .u8 (bt ab (e:Int))),(210,vb (ay (ab.extract e (e+4)) (⟨#[92,34,34,34]⟩)))]) (λ _=>.ro s 0 [vs ⟨#[]⟩,vs ab,vb bi]::dC 309 (b2 0) (b2 0) v (IE acc)::aX p s ((a+3:Nat):Int) (aj (b+3)) (e:Int) D h l d::H6 (b1 0)::F) λ _=>im [] ?_;refine eS.fin ?_;refine it 210 (ay (ab.extract e (e+4)) (⟨#[92,34,34,34]⟩)) (λ k3=>?_) (λ k3=>?_);have Y:(al ab e).take 4=[92,34,34,34]:=by rw[<-iO];rw[mg k3]
 refine rn 3 [] [7,0,0,1,0,3,0,1,0,0,0] (λ _=>[(0,vp p 0),(2,vp (b1 0) 0),(4,vi ab.size),(5,vp (b2 0) 0)]) (λ _=>.ro s 0 [vs ⟨#[]⟩,vs ab,vb bi]::dC 309 (b2 0) (b2 0) v (IE acc)::aX p s ((a+3:Nat):Int) (aj (b+3)) (e:Int) D h l d::H6 (b1 0)::F) λ _=>bf.drop 0 rfl ?_;refine DV ⟨#[34,34,34]⟩ (some 242) [7,0,0,1,0,3,0,1,0,0,1] M.set (by show _+3<=_;omega) (λ v6=>?_);refine zg<|(rv 27 [1,1,1,1] 8 [0,0] [0,2,4,5])<|(sw 1 3 (wn (e+4) (e+4))) ?_;have bz:((⟨#[34,34,34]⟩:ao)).data.toList=[34,34,34]:=rfl;rw[bz];exact gz (af (m,e+4,aj (D+4),h,l,(acc++[34,34,34]),v6) ⟨dm,dm,by simp only[HT,Iz,IN];omega,dm,by rw[<-hinv];exact(yn I A Y).symm⟩ dm);refine zg<|(cq 2 2 [1,1,0] [0,2,4,5,6])<|(dz [0])<|gz (z () (λ hh=>absurd (xV hh) (mi k3)));refine cr [12,13,14,15,16,17,18,19,20,21,22,23,24,25,26,27,28,29,30] [] [30,29,28,27,26,25,24,23,22,21,20,19,18,17,16,15,14,13,12,11,10,9,8,7,6,5,4,3,2,1,0] [31] [(0,vp p 0),(2,vp (b1 0) 0),(4,vi ab.size),(5,vp (b2 0) 0),(6,.int .u8 (bt ab (e:Int))),(241,vb false)] ?_;refine on 31 ?_;refine ex 31 0 [] [] (λ _=>[(0,vp p 0),(2,vp (b1 0) 0),(4,vi ab.size),(5,vp (b2 0) 0),(6,.int .u8 (bt ab (e:Int))),(210,vb false)]) (λ _=>.ro s 0 [vs ⟨#[]⟩,vs ab,vb bi]::dC 309 (b2 0) (b2 0) v (IE acc)::aX p s ((a+3:Nat):Int) (aj (b+3)) (e:Int) D h l d::H6 (b1 0)::F) λ _=>im [] ?_;refine eS.fin ?_;refine zg<|(cq 2 2 [1,1,0] [0,2,4,5,6])<|(dz [0])<|gz (z () (λ hh=>by have hl:=congrArg List.length hh;rw[List.length_take,aP]at hl;simp at k2;simp at hl;omega));refine cr [3,4,5,6,7,8,9,10,11,12,13,14,15,16,17,18,19,20,21,22,23,24,25,26,27,28,29,30] [] [30,29,28,27,26,25,24,23,22,21,20,19,18,17,16,15,14,13,12,11,10,9,8,7,6,5,4,3,2,1,0] [31] [(0,vp p 0),(2,vp (b1 0) 0),(4,vi ab.size),(5,vp (b2 0) 0),(6,.int .u8 (bt ab (e:Int))),(241,vb false)] ?_;refine on 31 ?_;refine ex 31 0 [] [] (λ _=>[(0,vp p 0),(2,vp (b1 0) 0),(4,vi ab.size),(5,vp (b2 0) 0),(6,.int .u8 (bt ab (e:Int))),(210,vb false)]) (λ _=>.ro s 0 [vs ⟨#[]⟩,vs ab,vb bi]::dC 309 (b2 0) (b2 0) v (IE acc)::aX p s ((a+3:Nat):Int) (aj (b+3)) (e:Int) D h l d::H6 (b1 0)::F) λ _=>im [] ?_;refine eS.fin ?_;refine zg<|(cq 2 2 [1,1,0] [0,2,4,5,6])<|(dz [0])<|gz (z () (λ hh=>by rw[aE I,Ic]at hh;rw[bO,(List.cons.inj hh).1]at k1;simp at k1));refine zg<|(cq 4 0 [3] [0,2,4,5,6,140])<|(iz 140 (decide ((bt ab (e:Int))<32))) (λ g0=>?_) (λ g0=>?_);refine(aM 4 1 [7] [144])<|(iz 144 ((bt ab (e:Int)) !=9)) (λ g1=>?_) (λ g1=>?_);refine(aM 4 1 [11] [148])<|(iz 148 ((bt ab (e:Int)) !=10)) (λ g2=>?_) (λ g2=>?_);refine(aM 4 2 [1] [151])<|(iz 151 ((bt ab (e:Int)) !=13)) (λ g3=>?_) (λ g3=>?_);refine(aM 4 0 [0,0,1] [152]) ?_;have x:X=none:=by rw[<-hinv];exact zt I A (by simp[w]at g0 g1 g2 g3;omega)
 refine(cz [1] (c146 _ p s (⟨#[73,110,118,97,108,105,100,32,99,104,97,114,97,99,116,101,114,32,119,105,116,104,105,110,32,83,116,114,105,110,103,46]⟩) ((a+3:Nat):Int) (aj (b+3)) (e:Int) D h l d ar T fz ab bi f hg J)) λ|_,_,aB,aA,⟨rfl,g,q1,q2,q3,Z,rfl⟩=>(gK 6 [2] 2 [1] [3])<|ez 2 (iW q1 q2 q3 Z s g) [aX p s ((a+3:Nat):Int) (aj (b+3)) (e:Int) D h l d] [1,1] aA ?_;rw[x];exact⟨_,_,_,_,_,_,g,q1,q2,q3,Z,rfl,rfl⟩;refine(aM 4 2 [3,0,0] [])<|gz (o () (by simp[w]at g0 g1 g2 g3;omega));refine(aM 8 3 [3,0,0] [])<|gz (o () (by simp[w]at g0 g1 g2;omega));refine(aM 12 3 [3,0,0] [])<|gz (o () (by simp[w]at g0 g1;omega));refine(aM 16 3 [3,0,0] [])<|gz (o () (by simp[w]at g0;omega));refine it 68 ((bt ab (e:Int))==34) (λ K=>?_) (λ K=>?_);refine bf.ro (b:=s) (off:=0) (cells:=[vs ⟨#[]⟩,vs ab,vb bi]) hg (by simpa using J) ?_;refine zg<|(rv 19 [2] 0 [0,2,0,0,0,0] [0,2,4,5,6,7,8])<|(sv 8 (wn (e+1) (e+1)))<|(dz [0]) ?_;refine jY (ι:=Nat×Unit) (λ i=>aa) (λ i=>⟨[7,0,0,1,0,1,1,0,3],[(0,vp p 0),(2,vp (b1 0) 0),(4,vi ab.size),(5,vp (b2 0) 0),(6,.int .u8 (bt ab (e:Int))),(7,vi i.1)],dC 309 (b2 0) (b2 0) v (IE acc)::aX p s ((a+3:Nat):Int) (aj (b+3)) (e:Int) D h l d::H6 (b1 0)::F⟩) (λ i=>lT (al ab e)=i.1/\1<=i.1/\e+i.1<=ab.size) ?_ (λ H=>?_);rintro⟨k,u⟩ ⟨U,t,ae⟩;refine(cq 4 1 [4] [0,2,4,5,6,7,94])<|(iz 94 (decide ((k:Int)>=3))) (λ S=>?_) (λ S=>?_);have S:3<=k:=by simp at S;omega
 refine rZ 11 [] [7,0,0,1,0,1,1,0,4,0,0,1,0,0,0] (λ _=>[(0,vp p 0),(2,vp (b1 0) 0),(5,vp (b2 0) 0),(7,vi k),(96,vi (aj ((k:Int)-3))),(97,vi 0)]) (λ _=>dC 309 (b2 0) (b2 0) v (IE acc)::aX p s ((a+3:Nat):Int) (aj (b+3)) (e:Int) D h l d::H6 (b1 0)::F) ?_;intro _;rw[wn (k-3) (k-3)];rw[show IE acc=IE (acc++List.replicate 0 34)from by simp];refine bf.loop (ι:=Nat×Value) (λ i=>k-3-i.1) (λ i=>aa) (λ i=>[(0,vp p 0),(2,vp (b1 0) 0),(5,vp (b2 0) 0),(7,vi k),(96,vi ((k-3:Nat):Int)),(97,vi i.1)]) (λ i=>dC 309 (b2 0) (b2 0) i.2 (IE (acc++List.replicate i.1 34))::aX p s ((a+3:Nat):Int) (aj (b+3)) (e:Int) D h l d::H6 (b1 0)::F) (λ i=>i.1<=k-3) (0,v) (HD _) ?_;rintro⟨i,v2⟩ ad az;dsimp only at ad;refine zg<|(cq 4 1 [1] [0,2,5,7,96,97,98])<|(iz 98 (decide ((i:Int)<((k-3:Nat):Int)))) (λ Y=>?_) (λ Y=>?_);have Y:i<k-3:=by simp at Y;omega
 refine rZ 5 [] [7,0,0,1,0,1,1,0,4,0,0,1,0,0,2,0,0] (λ _=>[(0,vp p 0),(2,vp (b1 0) 0),(5,vp (b2 0) 0),(7,vi k),(96,vi ((k-3:Nat):Int)),(97,vi i)]) (λ _=>dC 309 (b2 0) (b2 0) v2 (IE (acc++List.replicate i 34))::aX p s ((a+3:Nat):Int) (aj (b+3)) (e:Int) D h l d::H6 (b1 0)::F) λ _=>y5 34 34 (some 99) [7,0,0,1,0,1,1,0,4,0,0,1,0,0,2,0,1] rfl M.set (by rw[HT,Jn];omega) (λ v7=>?_);refine rn 8 [] [7,0,0,1,0,1,1,0,4,0,0,1,0,0,0] (λ _=>[(0,vp p 0),(2,vp (b1 0) 0),(5,vp (b2 0) 0),(7,vi k),(96,vi ((k-3:Nat):Int)),(97,vi (aj ((i:Int)+1)))]) (λ _=>dC 309 (b2 0) (b2 0) v7 (IE (acc++List.replicate i 34++[34]))::aX p s ((a+3:Nat):Int) (aj (b+3)) (e:Int) D h l d::H6 (b1 0)::F) ?_;intro _;rw[wn (i+1) (i+1)];rw[List.append_assoc,show(List.replicate i (34:UInt8)++[34])=List.replicate (i+1) 34 from List.replicate_succ'.symm];exact az (i+1,v7) dm dm;have Y:i=k-3:=by simp at Y;omega
 subst Y;have aT:X=some (hz (sB (acc++List.replicate (k-3) 34)),al ab (e+k)):=by rw[<-hinv];exact Ct I U S
 refine rZ 5 [] [7,0,0,1,0,1,1,0,4,0,1,1] (λ _=>[(0,vp p 0),(2,vp (b1 0) 0),(5,vp (b2 0) 0),(7,vi k),(102,vp p 0)]) (λ _=>dC 309 (b2 0) (b2 0) v2 (IE (acc++List.replicate (k-3) 34))::aX p s ((a+3:Nat):Int) (aj (b+3)) (e:Int) D h l d::H6 (b1 0)::F) λ _=>Ew (some 103) [7,0,0,1,0,1,1,0,4,0,1,2] M.set (λ v8=>?_);have ah:(sB (acc++List.replicate (k-3) 34)).size<=68719476736:=by rw[gT,HT,Jn];omega
 refine cl 166 [vs (sB (acc++List.replicate (k-3) 34))] (some 104) [7,0,0,1,0,1,1,0,4,0,1,3] [] (DU _ _ ah) rfl ?_;rintro _ _ ak P ⟨rfl,rfl⟩;obtain⟨V,hV⟩: ∃V,V=hz (sB (acc++List.replicate (k-3) 34)):=⟨_,rfl⟩;rw[<-hV]at aT⊢;refine cl 140 [vp p 0,vi 20,vs V] (some 105) [7,0,0,1,0,1,1,0,4,0,1,4] [1] (j1 _ p s 20 V ((a+3:Nat):Int) (aj (b+3)) (e:Int) D h l d f) rfl ?_;rintro _ _ aB aA ⟨rfl,q1,q2,q3,Z,rfl⟩;refine zg<|(fj 58 [0,0,0,0,0,1,1,1,1,0,3] 2 [7] [2,3]) ?_;intro cn;have ag:aj ((e:Int)+(k:Int))=((e+k:Nat):Int):=by rw[b_ om om];omega
 refine ez 3 (hO 20 V (aj (q1-3)) (aj (q2+3)) q3 Z s) [aX p s ((a+3:Nat):Int) (aj (b+3)) (aj ((e:Int)+(k:Int))) (aj (D+(k:Int))) h l d] [0,1,1] lq ?_;rw[aT,ag];exact⟨_,e+k,_,_,_,_,_,_,q3,Z,ae,rfl,rfl,rfl⟩;have S:k<3:=by simp at S;omega
 refine(aM 4 4 [2,0] [4,6])<|gz (C () om);have Q:bb ab e=34:=by rw[w]at K;simp at K;exact Ig.1 (by show _=34;omega)
 refine(wz (ι:=Nat) (λ i=>ab.size-i) (λ i=>aa) [0,2,4,5,6] (λ i=>[(7,vi i),(8,vi ((e+i:Nat):Int))]) (λ i c=>c) (λ i=>1<=i/\e+i<=ab.size/\lT (al ab e)=i+lT (al ab (e+i))) 1 ⟨HZ _,I,x5 I Q⟩) ?_;rintro j ⟨aw,aq,L⟩ az;refine(eW hg J)<|(aM 5 0 [4] [77])<|(iz 77 (decide (((e+j:Nat):Int)<(ab.size:Int)))) (λ aI=>?_) (λ aI=>?_);have aI:e+j<ab.size:=by simp at aI;omega
 refine(gK 8 [2,100] 1 [12] [84,85])<|(e5 (.index 9 (.tmp 84) (.tmp 85)) [vs ab,vi ((e+j:Nat):Int)] (v:=(.int .u8 (bt ab ((e+j:Nat):Int)))) (aS kr om om))<|(aM 3 2 [1] [88])<|(iz 88 ((bt ab ((e+j:Nat):Int))==34)) (λ h6=>?_) (λ h6=>?_);have ai:bb ab (e+j)=34:=by rw[bO]at h6;simp at h6;exact Ig.1 (by show _=34;omega)
 refine(aM 18 1 [0] [])<|(sv 7 (wn (j+1) (j+1)))<|(sv 8 (show aj (((e+j:Nat):Int)+1)=((e+(j+1):Nat):Int)from by rw[b_ om om];omega))<|(dz [0])<|lz (az (j+1) ⟨om,om,by rw[L,x5 aI ai,Nat.add_assoc e j 1];omega⟩ om);refine(aM 3 5 [3] [])<|(dz [0])<|lz (H (j,()) ⟨by rw[L,x3 aI (by rw[bO]at h6;simp at h6;omega)];rfl,om,om⟩);have aI: ¬e+j<ab.size:=by simp at aI;omega
 refine(aM 15 6 [3] [])<|(dz [0])<|lz (H (j,()) ⟨by rw[L,yW aI];rfl,om,om⟩);refine zg<|(cq 4 2 [2,0] [0,2,4,5,6])<|gz (C () (by rw[x3 I (by rw[w]at K;simp at K;omega)];omega));have I: ¬e<ab.size:=by simp at G;omega
 have x:X=none:=by rw[<-hinv,cA I];rfl
 refine(dz [0])<|(dI 5 [8,1] [2,326])<|(cz [1] (c146 _ p s (⟨#[85,110,116,101,114,109,105,110,97,116,101,100,32,115,116,114,105,110,103,46]⟩) ((a+3:Nat):Int) (aj (b+3)) (e:Int) D h l d ar T fz ab bi f hg J)) λ|_,_,aB,aA,⟨rfl,g,q1,q2,q3,Z,rfl⟩=>(cI 6 [2] [9] [3])<|ez 2 (iW q1 q2 q3 Z s g) [aX p s ((a+3:Nat):Int) (aj (b+3)) (e:Int) D h l d] [1,1] aA ?_;rw[x];exact⟨_,_,_,_,_,_,g,q1,q2,q3,Z,rfl,rfl⟩
end
end Go.Proofs.YtdpmeahgjjmdiaaGreatDoor
