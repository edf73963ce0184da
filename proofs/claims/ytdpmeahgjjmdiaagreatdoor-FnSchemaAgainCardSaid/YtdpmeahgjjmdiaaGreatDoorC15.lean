/- Part of the proof that laws.FnSchemaAgain answers true. Conditions: none. -/
import Derived.Test.YtdpmeahgjjmdiaaGreatDoorC09
set_option linter.all false
open Go.ByteArray renaming toList_eq->Ix
open Nat renaming le_refl->HZ,lt_succ_self->JU,one_pos->JV,succ_pos->JS
open Go.Proofs.Tryz renaming prog->HB
open List renaming append_assoc->Js,append_nil->Ju,getElem?_append_left->Jf,getElem?_append_right->JQ,length_append->HT,length_singleton->I1,nil_append->Hj
open Option renaming map_eq_some_iff->Io
namespace Go.Proofs.YtdpmeahgjjmdiaaGreatDoor
open Go
variable[OO]
abbrev wy(k:Int)(v:ao)(q1 q2 q3 Z:Int)(so:Option Addr):Value:=.agg #[vi k,vs v,vi q1,vi q2,vi q3,vi Z,vq so]
theorem zQ{aa}{p s}{ab}{e}{cc}(r:PR)(L:Lx aa s ab)(he:e<=ab.size)(V:fm (al ab e)=none):
 Sp 103 [vp p 0] [pb p s cc {r with e:=(e:Int)}] aa (λ v M' _=> ∃a b e c ln l0 g q1 q2 q3 Z,v=.tuple #[wy 0 e0 q1 q2 q3 Z (sa s 0),eE g]/\M'=[pb p s cc {r with a:=a,b:=b,e:=e,c:=c,ln:=ln,l0:=l0}]):=by
 obtain⟨hu,⟨ar,T,fz,hg,J⟩,dB⟩:=L;refine(BV aa p s r.a r.b r.c r.ln r.l0 e ((pc s cc r).drop 7) ar T fz ab false rfl hu hg J he dB).mono λ v M' C _ h=>?_
 rw[V]at h;obtain⟨a,b,e,c,ln,l0,g,q1,q2,q3,Z,G,H⟩:=h;exact⟨a,b,e,c,ln,l0,g,q1,q2,q3,Z,G,H⟩
theorem zO{aa}{p s}{ab}{e}{cc}(r:PR)(L:Lx aa s ab)(he:e<=ab.size){k}{v}{rest}(V:fm (al ab e)=some (k,v,rest)):
 Sp 103 [vp p 0] [pb p s cc {r with e:=(e:Int)}] aa (λ w M' _=> ∃a b c ln l0 o q1 q2 q3 Z,o<=ab.size/\al ab o=rest/\w=.tuple #[wy k v q1 q2 q3 Z (sa s 0),.nilIface]/\M'=[pb p s cc {r with a:=a,b:=b,e:=(o:Int),c:=c,ln:=ln,l0:=l0}]):=by
 obtain⟨hu,⟨ar,T,fz,hg,J⟩,dB⟩:=L;refine(BV aa p s r.a r.b r.c r.ln r.l0 e ((pc s cc r).drop 7) ar T fz ab false rfl hu hg J he dB).mono λ v M' C _ h=>?_
 rw[V]at h;obtain⟨a,o,b,c,ln,l0,q1,q2,q3,Z,G,H,S,Y⟩:=h;exact⟨a,b,c,ln,l0,o,q1,q2,q3,Z,G,H,S,Y⟩
def Gb(p s:Nat)(ab:ao)(cc:Bool)(ts:List Tok)(r:PR)(v:Value)(M':List Chunk):Prop:=
 ∃(t:PR)(q1 q2 q3 Z:Int),M'=[pb p s cc t]/\v=wy (eY ts).k (eY ts).v q1 q2 q3 Z (sa s 0)/\gW s ab ts t/\t.pk=true/\t.ps=r.ps/\t.d=r.d
theorem FC: ∀aa p s g cc(r:PR),Sp 78 [vp p 0] [pb p s cc {r with er:=.iface 264 (vp g 0)}] aa (λ v M' _=>v=.agg #[vi r.vk,vs r.vv,vi r.v1,vi r.v2,vi r.v3,vi r.v4,vq r.ps]/\M'=[pb p s cc {r with er:=.iface 264 (vp g 0)}]):=by
 intro aa p s g cc r;refine aW Tryz.func78 λ F=>(ra 22 [1,1,0] [1,1,0,1] [2]) λ b1=>ez 0 (.agg #[vi r.vk,vs r.vv,vi r.v1,vi r.v2,vi r.v3,vi r.v4,vq r.ps]) [pb p s cc {r with er:=.iface 264 (vp g 0)}] [0] lq ⟨rfl,rfl⟩
theorem Db: ∀aa p s cc(r:PR),Sp 78 [vp p 0] [pb p s cc {r with er:=.nilIface,pk:=true}] aa (λ v M' _=>v=.agg #[vi r.tk,vs r.tv,vi r.t1,vi r.t2,vi r.t3,vi r.t4,vq r.ts]/\M'=[pb p s cc {r with er:=.nilIface,pk:=true}]):=by
 intro aa p s cc r;refine aW Tryz.func78 λ F=>(ra 34 [1,1,1,0] [4] [2]) λ b1=>ez 0 (.agg #[vi r.tk,vs r.tv,vi r.t1,vi r.t2,vi r.t3,vi r.t4,vq r.ts]) [pb p s cc {r with er:=.nilIface,pk:=true}] [0] lq ⟨rfl,rfl⟩
theorem DA: ∀aa p s g cc(r:PR),Sp 105 [vp p 0] [pb p s cc {r with er:=.iface 264 (vp g 0)}] aa (λ v M' _=>v=.agg #[vi r.vk,vs r.vv,vi r.v1,vi r.v2,vi r.v3,vi r.v4,vq r.ps]/\M'=[pb p s cc {r with er:=.iface 264 (vp g 0)}]):=by
 intro aa p s g cc r;refine aW Tryz.func105 λ F=>(ra 22 [1,1,0] [1,1,0,1] [2]) λ b1=>ez 0 (.agg #[vi r.vk,vs r.vv,vi r.v1,vi r.v2,vi r.v3,vi r.v4,vq r.ps]) [pb p s cc {r with er:=.iface 264 (vp g 0)}] [0] lq ⟨rfl,rfl⟩
theorem z7: ∀aa p s cc(r:PR),Sp 105 [vp p 0] [pb p s cc {r with er:=.nilIface,pk:=true,pe:=.nilIface}] aa (λ v M' _=>v=.agg #[vi r.tk,vs r.tv,vi r.t1,vi r.t2,vi r.t3,vi r.t4,vq r.ts]/\M'=[pb p s cc {r with er:=.nilIface,pk:=false,pe:=.nilIface,vk:=r.tk,vv:=r.tv,v1:=r.t1,v2:=r.t2,v3:=r.t3,v4:=r.t4,ps:=r.ts,cm:=none,tc:=aj (r.tc+1)}]):=by
 intro aa p s cc r;refine aW Tryz.func105 λ F=>(ra 28 [1,1,1] [3,0] [0,2]) λ b1=>(qz)<|(kf [0,16] [1] [0,2,34])<|(ra 25 [1,1,1] [4,1,0,2] [0,2]) λ _=>(qz)<|(kz [0,12] [1,1] [0,2,55,59,63,65])<|(uz 1 [] [0,2,55,63]) λ _=>(kz [13,2] [] [0,2,63,67])<|(uz 1 [] [0,2]) λ _=>(bL)<|(ra 8 [1,0] [6] [2]) λ _=>ez 0 (.agg #[vi r.tk,vs r.tv,vi r.t1,vi r.t2,vi r.t3,vi r.t4,vq r.ts]) [pb p s cc {r with er:=.nilIface,pk:=false,pe:=.nilIface,vk:=r.tk,vv:=r.tv,v1:=r.t1,v2:=r.t2,v3:=r.t3,v4:=r.t4,ps:=r.ts,cm:=none,tc:=aj (r.tc+1)}] [0] lq ⟨rfl,rfl⟩
theorem CM: ∀aa p s g cc(r:PR),Sp 105 [vp p 0] [pb p s cc {r with er:=.nilIface,pk:=true,pe:=.iface 264 (vp g 0)}] aa (λ v M' _=>v=.agg #[vi r.tk,vs r.tv,vi r.t1,vi r.t2,vi r.t3,vi r.t4,vq r.ts]/\M'=[pb p s cc {r with er:=.iface 264 (vp g 0),pk:=false,pe:=.iface 264 (vp g 0),vk:=r.tk,vv:=r.tv,v1:=r.t1,v2:=r.t2,v3:=r.t3,v4:=r.t4,ps:=r.ts,cm:=none,tc:=aj (r.tc+1)}]):=by
 intro aa p s g cc r;refine aW Tryz.func105 λ F=>(ra 28 [1,1,1] [3,0] [0,2]) λ b1=>(qz)<|(kf [0,16] [1] [0,2,34])<|(ra 25 [1,1,1] [4,1,0,2] [0,2]) λ _=>(qz)<|(kz [0,12] [1,1] [0,2,55,59,63,65])<|(uz 1 [] [0,2,55,63]) λ _=>(kz [13,2] [] [0,2,63,67])<|(uz 1 [] [0,2]) λ _=>(bL)<|(ra 8 [1,0] [6] [2]) λ _=>ez 0 (.agg #[vi r.tk,vs r.tv,vi r.t1,vi r.t2,vi r.t3,vi r.t4,vq r.ts]) [pb p s cc {r with er:=.iface 264 (vp g 0),pk:=false,pe:=.iface 264 (vp g 0),vk:=r.tk,vv:=r.tv,v1:=r.t1,v2:=r.t2,v3:=r.t3,v4:=r.t4,ps:=r.ts,cm:=none,tc:=aj (r.tc+1)}] [0] lq ⟨rfl,rfl⟩
theorem CD: ∀aa p s(r:PR),Sp 104 [vp p 0] [pb p s true {r with er:=.nilIface}] aa (λ v M' _=>v=.tuple #[]/\M'=[pb p s true {r with er:=.nilIface}]):=by
 intro aa p s r;refine aW Tryz.func104 λ F=>(ra 20 [0,0] [1,1,0] []) λ _=>ez 0 (.tuple #[]) [pb p s true {r with er:=.nilIface}] [] lq ⟨rfl,rfl⟩
theorem Eg: ∀aa p s ab e r,Lx aa s ab->e<=ab.size->Sp 78 [vp p 0] [pb p s true {r with er:=.nilIface,pk:=false,e:=(e:Int)}] aa (λ v M' _=>Gb p s ab true (b0 (al ab e)) r v M'):=by
 intro aa p s ab e r L he;rcases V:fm (al ab e)with _|⟨k,v,rest⟩
 refine aW Tryz.func78 λ F=>(ra 32 [1,1] [2,1,0,0,5] [0,2,18,19,22]) λ b1=>(cz (args:=[vp p 0]) (M:=[pb p s true {r with e:=(e:Int),er:=.nilIface,pk:=false}]) [1] (zQ {r with er:=.nilIface,pk:=false} L he V)) λ|_,_,ak,w,⟨m,q,i,n,j,o,g,q1,q2,q3,Z,rfl,rfl⟩=>(ra 36 [0,0,0,0,0,1] [4] [2]) ?_;intro _;have aw:=jW V;exact ez 1 (zH 0 e0 q1 q2 q3 Z s) [pb p s true {r with a:=m,b:=q,e:=i,c:=n,ln:=j,l0:=o,er:=.nilIface,pk:=true,tk:=0,tv:=e0,t1:=q1,t2:=q2,t3:=q3,t4:=Z,ts:=sa s 0,pe:=.iface 264 (vp g 0)}] [1] w ⟨_,_,_,_,_,rfl,by rw[aw];rfl,⟨rfl,λ h=>(by cases h),λ _=>⟨by rw[aw];rfl,by rw[aw];rfl,rfl,λ _=>⟨_,rfl⟩,λ h=>absurd (by rw[aw];rfl) h⟩,hq _ _⟩,rfl,rfl,rfl⟩;refine aW Tryz.func78 λ F=>(ra 32 [1,1] [2,1,0,0,5] [0,2,18,19,22]) λ b1=>(cz (args:=[vp p 0]) (M:=[pb p s true {r with e:=(e:Int),er:=.nilIface,pk:=false}]) [1] (zO {r with er:=.nilIface,pk:=false} L he V)) ?_;rintro _ _ ak w ⟨m,q,n,j,o,i,q1,q2,q3,Z,C,Q,rfl,rfl⟩;obtain⟨G,H,S⟩:=oe V;refine(rv 26 [0,0,0,0] 2 [3] [0,2,38])<|(iz 38 ((k:Int)==21)) (λ U=>?_) (λ U=>?_);refine(rv 3 [] 0 [0,1] [0,2,39])<|(cR [0] (CD _ p s {r with a:=m,b:=q,e:=(i:Int),c:=n,ln:=j,l0:=o,er:=.nilIface,pk:=true,tk:=(k:Int),tv:=v,t1:=q1,t2:=q2,t3:=q3,t4:=Z,ts:=sa s 0,pe:=.nilIface})) λ aB R=>(ra 9 [0,1] [4] [2]) λ _=>ez 1 (zH k v q1 q2 q3 Z s) [pb p s true {r with a:=m,b:=q,e:=(i:Int),c:=n,ln:=j,l0:=o,er:=.nilIface,pk:=true,tk:=(k:Int),tv:=v,t1:=q1,t2:=q2,t3:=q3,t4:=Z,ts:=sa s 0,pe:=.nilIface}] [1] lq ⟨_,_,_,_,_,rfl,by rw[G],⟨rfl,λ h=>(by cases h),λ _=>⟨by rw[G],by rw[G],rfl,λ h=>absurd (by rw[G]at h;exact h) S,λ _=>⟨rfl,i,rfl,C,by rw[Q,H]⟩⟩,hq _ _⟩,rfl,rfl,rfl⟩;refine(ra 10 [0,1] [4] [2]) λ _=>ez 1 (zH k v q1 q2 q3 Z s) [pb p s true {r with a:=m,b:=q,e:=(i:Int),c:=n,ln:=j,l0:=o,er:=.nilIface,pk:=true,tk:=(k:Int),tv:=v,t1:=q1,t2:=q2,t3:=q3,t4:=Z,ts:=sa s 0,pe:=.nilIface}] [1] w ⟨_,_,_,_,_,rfl,by rw[G],⟨rfl,λ h=>(by cases h),λ _=>⟨by rw[G],by rw[G],rfl,λ h=>absurd (by rw[G]at h;exact h) S,λ _=>⟨rfl,i,rfl,C,by rw[Q,H]⟩⟩,hq _ _⟩,rfl,rfl,rfl⟩
theorem FK aa p s ab ts r(L:Lx aa s ab)(h:gW s ab ts r):Sp 78 [vp p 0] [pb p s true r] aa (λ v M' _=>Gb p s ab true ts r v M'):=by
 cases hp:r.pk with
 |true=>
  have V:r={r with er:=.nilIface,pk:=true}:=by cases r;simp only[gW]at h;simp only at hp;simp[h.1,hp]
  have N:=h.2.2.1 hp;have J:=Db aa p s true r;rw[<-V]at J;refine J.mono λ v M' C _⟨G,H⟩=>⟨r,r.t1,r.t2,r.t3,r.t4,H,by rw[G,N.1,N.2.1,N.2.2.1],h,hp,rfl,rfl⟩
 |false=>
  obtain⟨e,he,G,H⟩:=h.2.1 hp;have V:r={r with er:=.nilIface,pk:=false,e:=(e:Int)}:=by cases r;simp only[gW]at h;simp only at hp he;simp[h.1,hp,he]
  have J:=Eg aa p s ab e r L G;rw[<-V,H]at J;exact J
theorem CJ aa p s ab cc ts r(h:gW s ab ts r)(hp:r.pk=true)(N:(eY ts).k≠0):
 Sp 105 [vp p 0] [pb p s cc r] aa (λ v M' _=> ∃q1 q2 q3 Z,M'=[pb p s cc (DI r)]/\v=wy (eY ts).k (eY ts).v q1 q2 q3 Z (sa s 0)):=by
 have G:=h.2.2.1 hp;have V:r={r with er:=.nilIface,pk:=true,pe:=.nilIface}:=by cases r;simp only[gW]at h;simp only at hp G;simp[h.1,hp,(G.2.2.2.2 N).1]
 have J:=z7 aa p s cc r;rw[<-V]at J;refine J.mono λ v M' C _⟨H,S⟩=>⟨r.t1,r.t2,r.t3,r.t4,S,by rw[H,G.1,G.2.1,G.2.2.1]⟩
theorem zA: ∀aa p s ab ts(r:PR),Lx aa s ab->gW s ab ts {r with er:=.nilIface}->Sp 147 [vp p 0] [pb p s true {r with er:=.nilIface}] aa (λ v M' _=> ∃t,M'=[pb p s true t]/\t.d=r.d/\((eY ts).k=21->(∃b,v=.tuple #[vp b 0,vb true])/\gW s ab ts.tail t/\t.ps=sa s 0)/\((eY ts).k≠21->v=.tuple #[.pointer none,vb false]/\gW s ab ts t/\t.pk=true/\t.ps=r.ps)):=by
 intro aa p s ab ts r L h;refine aW Tryz.func147 λ F=>(ra 19 [0] [2,1] [0,10]) λ _=>(cz [0] (FK _ p s ab ts _ L h)) λ|_,_,ak,w,⟨r1,q1,q2,q3,Z,rfl,rfl,G,l,a,hd⟩=>(ra 10 [0,0] [3,1] [0,4,14]) λ b2=>(iz 14 (((eY ts).k:Int) !=21)) (λ U=>?_) (λ U=>?_);refine(rv 6 [] 0 [0,1] [2,3])<|ez 0 (.tuple #[.pointer none,vb false]) [pb p s true r1] [0] w ⟨_,rfl,hd,λ h=>absurd U (by rw[h];simp),λ _=>⟨rfl,G,l,a⟩⟩;have U:(eY ts).k=21:=by have S:=U;simp at S;omega
 refine(ra 5 [] [4,1] [4,15]) λ _=>(cz [1] (CJ _ p s ab true ts r1 G l om)) λ|_,_,aB,R,⟨y1,bh,y3,y4,rfl,rfl⟩=>(ra 11 [1] [6] [2,3]) λ b5=>ez 0 (.tuple #[vp (b5 0) 0,vb true]) [pb p s true (DI r1)] [0,1] lq ⟨DI r1,rfl,hd,λ _=>⟨⟨_,rfl⟩,G.take l om,(G.2.2.1 l).2.2.1⟩,λ h=>absurd U h⟩
theorem Cd: ∀aa p s ab ts(r:PR),Lx aa s ab->gW s ab ts {r with er:=.nilIface}->Sp 104 [vp p 0] [pb p s false {r with er:=.nilIface}] aa (λ v M' _=> ∃t,M'=[pb p s false t]/\v=.tuple #[]/\gW s ab (gQ ts) t/\t.pk=true/\t.d=r.d/\(t.ps=r.ps\/t.ps=sa s 0)):=by
 intro aa p s ab ts r L h;refine aW Tryz.func104 λ F=>(ra 35 [0,0,0] [4,0,0] [0,2]) λ _=>nz 268 1 ?_;refine(wz (ι:=LC) (λ i=>i.ts.length) (λ i=>i.im) [0] (λ i=>[(2,vl i.A i.n i.c)]) (λ i c=>sC 1 (pb p s true {i.r with er:=.nilIface}) (sC 0 (own 268 1 (vl i.A i.n i.c) i.n i.xs) c)) (λ i=>gW s ab i.ts {i.r with er:=.nilIface}/\gQ i.ts=gQ ts/\i.r.d=r.d/\(i.r.ps=r.ps\/i.r.ps=sa s 0)/\i.n+i.ts.length<=1099511627780/\aa.le i.im) ⟨ts,r,0,none,0,[],aa⟩ ⟨h,rfl,rfl,.inl rfl,by have:=h.2.2.2;have:=L.sz;dsimp only;omega,lq⟩) ?_;rintro⟨g,j,n,A,c,xs,im⟩ ⟨hR,aV,hd,a,O,ae⟩ af;dsimp only at hR aV hd a O ae;refine(rv 4 [] 0 [0,0,1] [0,2,18]) ?_;by_cases U:(eY g).k=21;refine(cz [1] (zA _ p s ab g j (L.mono ae) hR)) ?_;rintro _ _ ak w ⟨r1,rfl,aT,b1,_⟩;obtain⟨⟨b,rfl⟩,f,aj⟩:=b1 U;have e:=f;rw[f.er]at e;rw[f.er];refine(fj 18 [] 2 [2,3] [0,24,26]) λ b3=>(az B4 n 1 xs [vp b 0] [2,0]) λ E c2=>(rv 4 [] 3 [] [0,2])<|lz (af (⟨g.tail,r1,n+1,E,c2,xs++[vp b 0],ak⟩:LC) ⟨e,(jz U).1.symm.trans aV,aT.trans hd,.inr aj,by have:=(jz U).2;dsimp only;omega,lq⟩ (jz U).2);refine(cz [1] (zA _ p s ab g j (L.mono ae) hR)) ?_;rintro _ _ ak w ⟨r1,rfl,aT,_,b1⟩;obtain⟨rfl,f,l,aj⟩:=b1 U;refine(ra 30 [1,1] [6,5] []) ?_;intro b3;rw[jj U]at aV;subst aV;exact ez 0 (.tuple #[]) [pb p s false {r1 with cm:=sa (b3 0) 0}] [0,1] lq ⟨_,rfl,rfl,f,l,aT.trans hd,a.imp (λ h=>aj.trans h) λ h=>aj.trans h⟩
theorem DS: ∀aa p s ab e(r:PR),Lx aa s ab->e<=ab.size->Sp 78 [vp p 0] [pb p s false {r with er:=.nilIface,pk:=false,e:=(e:Int)}] aa (λ v M' _=> ∃t q1 q2 q3 Z,M'=[pb p s false t]/\v=wy (eY (gQ (b0 (al ab e)))).k (eY (gQ (b0 (al ab e)))).v q1 q2 q3 Z (sa s 0)/\gW s ab (gQ (b0 (al ab e))) t/\t.pk=true/\(t.ps=r.ps\/t.ps=sa s 0)/\t.d=r.d):=by
 intro aa p s ab e r L he;rcases V:fm (al ab e)with _|⟨k,v,rest⟩
 refine aW Tryz.func78 λ F=>(ra 32 [1,1] [2,1,0,0,5] [0,2,18,19,22]) λ b1=>(cz (args:=[vp p 0]) (M:=[pb p s false {r with e:=(e:Int),er:=.nilIface,pk:=false}]) [1] (zQ {r with er:=.nilIface,pk:=false} L he V)) λ|_,_,ak,w,⟨m,q,i,n,j,o,g,q1,q2,q3,Z,rfl,rfl⟩=>(ra 36 [0,0,0,0,0,1] [4] [2]) ?_;intro _;have aw:=jW V;have aV:gQ (b0 (al ab e))=b0 (al ab e):=jj (by rw[aw];simp[eY]);exact ez 1 (zH 0 e0 q1 q2 q3 Z s) [pb p s false {r with a:=m,b:=q,e:=i,c:=n,ln:=j,l0:=o,er:=.nilIface,pk:=true,tk:=0,tv:=e0,t1:=q1,t2:=q2,t3:=q3,t4:=Z,ts:=sa s 0,pe:=.iface 264 (vp g 0)}] [1] w ⟨_,_,_,_,_,rfl,by rw[aV,aw];rfl,by rw[aV];exact⟨rfl,λ h=>(by cases h),λ _=>⟨by rw[aw];rfl,by rw[aw];rfl,rfl,λ _=>⟨_,rfl⟩,λ h=>absurd (by rw[aw];rfl) h⟩,hq _ _⟩,rfl,.inl rfl,rfl⟩;refine aW Tryz.func78 λ F=>(ra 32 [1,1] [2,1,0,0,5] [0,2,18,19,22]) λ b1=>(cz (args:=[vp p 0]) (M:=[pb p s false {r with e:=(e:Int),er:=.nilIface,pk:=false}]) [1] (zO {r with er:=.nilIface,pk:=false} L he V)) ?_;rintro _ _ ak w ⟨m,q,n,j,o,i,q1,q2,q3,Z,C,Q,rfl,rfl⟩;obtain⟨G,H,S⟩:=oe V;refine(rv 26 [0,0,0,0] 2 [3] [0,2,38])<|(iz 38 ((k:Int)==21)) (λ U=>?_) (λ U=>?_);refine(rv 3 [] 0 [0,1] [0,2,39])<|(cT [0] (Cd _ p s ab (b0 (al ab e)) {r with a:=m,b:=q,e:=(i:Int),c:=n,ln:=j,l0:=o,er:=.nilIface,pk:=true,tk:=(k:Int),tv:=v,t1:=q1,t2:=q2,t3:=q3,t4:=Z,ts:=sa s 0,pe:=.nilIface} (L.mono w) ⟨rfl,λ h=>(by cases h),λ _=>⟨by rw[G],by rw[G],rfl,λ h=>absurd (by rw[G]at h;exact h) S,λ _=>⟨rfl,i,rfl,C,by rw[Q,H]⟩⟩,hq _ _⟩)) λ aB R r1 ⟨f,l,aT,aj⟩=>(ra 9 [0,1] [4] [2]) ?_;intro _;have N:=f.2.2.1 l;exact ez 1 (.agg #[vi r1.tk,vs r1.tv,vi r1.t1,vi r1.t2,vi r1.t3,vi r1.t4,vq r1.ts]) [pb p s false r1] [1] lq ⟨r1,r1.t1,r1.t2,r1.t3,r1.t4,rfl,by rw[N.1,N.2.1,N.2.2.1],f,l,aj,aT⟩;refine(ra 10 [0,1] [4] [2]) ?_;intro _;have aV:gQ (b0 (al ab e))=b0 (al ab e):=jj (by rw[G];have Y:=U;simp at Y;dsimp only;omega);exact ez 1 (zH k v q1 q2 q3 Z s) [pb p s false {r with a:=m,b:=q,e:=(i:Int),c:=n,ln:=j,l0:=o,er:=.nilIface,pk:=true,tk:=(k:Int),tv:=v,t1:=q1,t2:=q2,t3:=q3,t4:=Z,ts:=sa s 0,pe:=.nilIface}] [1] w ⟨_,_,_,_,_,rfl,by rw[aV,G],by rw[aV];exact⟨rfl,λ h=>(by cases h),λ _=>⟨by rw[G],by rw[G],rfl,λ h=>absurd (by rw[G]at h;exact h) S,λ _=>⟨rfl,i,rfl,C,by rw[Q,H]⟩⟩,hq _ _⟩,rfl,.inl rfl,rfl⟩
def fI(s:Nat)(q:Q)(k:Int)(x:ao)(so:Option Addr):Prop:=q≠none->k=((cV q).k:Int)/\x=(cV q).v/\so=sa s 0
theorem PI.none{s}{ab}{d}{r}(h:PI s ab d none r): ∃g,r={r with er:=eE g}:=by
 obtain⟨_,g,h⟩:=h;exact⟨g,by cases r;simp only at h;simp[h]⟩
theorem lK aa p s ab d q r(L:Lx aa s ab)(h:PI s ab d q r):
 Sp 78 [vp p 0] [pb p s false r] aa (λ v M' _=> ∃t k x q1 q2 q3 Z so,M'=[pb p s false t]/\v=wy k x q1 q2 q3 Z so/\PI s ab d q t/\fI s q k x so/\(q≠none->t.pk=true)/\(r.ps=sa s 0->t.ps=sa s 0)):=by
 cases q with
 |none=>
  obtain⟨g,hg⟩:=h.none;have J:=FC aa p s g false r;rw[<-hg]at J;exact J.mono λ v M' C _⟨G,H⟩=>⟨r,_,_,_,_,_,_,_,H,G,h,λ h=>absurd rfl h,λ h=>absurd rfl h,id⟩
 |some ts=>
  obtain⟨hd,raw,hR,rfl,U⟩:=h;cases hp:r.pk with
  |true=>
   have V:r={r with er:=.nilIface,pk:=true}:=by cases r;simp only[gW]at hR;simp only at hp;simp[hR.1,hp]
   have N:=hR.2.2.1 hp;have J:=Db aa p s false r;rw[<-V]at J;have G:=(p0 (U hp)).1;exact J.mono λ v M' C _⟨H,S⟩=>⟨r,_,_,_,_,_,_,_,S,H,⟨hd,raw,hR,rfl,U⟩,λ _=>⟨by rw[N.1];show _=((eY (fN raw)).k:Int);rw[G],by rw[N.2.1];show _=(eY (fN raw)).v;rw[G],N.2.2.1⟩,λ _=>hp,id⟩
  |false=>
   obtain⟨e,he,G,rfl⟩:=hR.2.1 hp;have V:r={r with er:=.nilIface,pk:=false,e:=(e:Int)}:=by cases r;simp only[gW]at hR;simp only at hp he;simp[hR.1,hp,he]
   have J:=DS aa p s ab e r L G;rw[<-V]at J;have aI:=p0 (mv (b0 (al ab e)));rw[lA]at aI;refine J.mono λ v M' C _⟨t,q1,q2,q3,Z,H,S,Y,b,a,z⟩=>⟨t,_,_,q1,q2,q3,Z,_,H,S,⟨z.trans hd,_,Y,(lA _).symm,λ _=>mv _⟩,λ _=>⟨?_,?_,rfl⟩,λ _=>b,λ h=>a.elim (λ l=>l.trans h) id⟩
   show _=((eY (fN _)).k:Int);rw[aI.1];show _=(eY (fN _)).v;rw[aI.1]
theorem h4 aa p s ab d q r(h:PI s ab d q r)(m:q≠none->r.pk=true):
 Sp 105 [vp p 0] [pb p s false r] aa (λ v M' _=> ∃t k x q1 q2 q3 Z so,M'=[pb p s false t]/\v=wy k x q1 q2 q3 Z so/\PI s ab d (dR q) t/\fI s q k x so/\(q≠none->t.ps=sa s 0)/\(r.ps=sa s 0->t.ps=sa s 0)):=by
 cases q with
 |none=>
  obtain⟨g,hg⟩:=h.none;have J:=DA aa p s g false r;rw[<-hg]at J;exact J.mono λ v M' C _⟨G,H⟩=>⟨r,_,_,_,_,_,_,_,H,G,h,λ h=>absurd rfl h,λ h=>absurd rfl h,id⟩
 |some ts=>
  have hp:=m sm;obtain⟨hd,raw,hR,rfl,U⟩:=h;have N:=hR.2.2.1 hp;have G:=(p0 (U hp)).1;have B:fI s (some (fN raw)) r.tk r.tv r.ts:=λ _=>⟨by rw[N.1];show _=((eY (fN raw)).k:Int);rw[G],by rw[N.2.1];show _=(eY (fN raw)).v;rw[G],N.2.2.1⟩
  by_cases hz:(eY raw).k=0;obtain⟨g,hg⟩:=N.2.2.2.1 hz;have V:r={r with er:=.nilIface,pk:=true,pe:=eE g}:=by cases r;simp only[gW]at hR;simp only at hp hg;simp[hR.1,hp,hg]
  have J:=CM aa p s g false r;rw[<-V]at J;exact J.mono λ v M' C _⟨H,S⟩=>⟨_,_,_,_,_,_,_,_,S,H,⟨hd,by rw[yf hz];exact⟨g,rfl⟩⟩,B,λ _=>N.2.2.1,λ _=>N.2.2.1⟩
  have V:r={r with er:=.nilIface,pk:=true,pe:=.nilIface}:=by cases r;simp only[gW]at hR;simp only at hp N;simp[hR.1,hp,(N.2.2.2.2 hz).1]
  have J:=z7 aa p s false r;rw[<-V]at J;exact J.mono λ v M' C _⟨H,S⟩=>⟨DI r,_,_,_,_,_,_,_,S,H,⟨hd,by rw[zw (U hp) hz];exact⟨raw.tail,hR.take hp hz,rfl,λ h=>(by cases h)⟩⟩,B,λ _=>N.2.2.1,λ _=>N.2.2.1⟩
theorem aQ{s t}(h:ay s t=true):s=t:=by
 have G:s.toList=t.toList:=by simpa[ay]using h
 rw[Ix,Ix]at G;exact ByteArray.ext (Array.toList_inj.1 G)
theorem bh{s t}(h:ay s t=false):s≠t:=λ he=>by subst he;simp[ay]at h
theorem PI.ok{s}{ab}{d}{ts}{r}(h:PI s ab d (some ts) r):r={r with er:=.nilIface}:=by
 obtain⟨_,raw,hR,_⟩:=h;exact hR.er
theorem vc{k}(h:k≠0):aA k none=(e0,none):=by unfold aA;rw[if_neg (λ he=>h (he.symm:k=0))]
theorem Aw{k}{q}(h:(aA k q).2≠none):q≠none:=λ K=>h (by subst K;unfold aA;split<;>rfl)
theorem xk{k0:Nat}{s}{q}{k}{x}{so}(N:k0≠0)(B:fI s q k x so)(U:k=(k0:Int)):dR q=(aA k0 q).2/\(q≠none->(aA k0 q).1=(cV q).v):=by
 cases q with
 |none=>rw[vc N];exact⟨rfl,λ h=>absurd rfl h⟩
 |some ts=>
  have G:=(B sm).1;have H:(cV (some ts)).k=k0:=by omega
  unfold aA;rw[if_pos H];exact⟨rfl,λ _=>rfl⟩
theorem xR{k0:Nat}{s}{q}{k}{x}{so}(B:fI s q k x so)(U:k≠(k0:Int)):(aA k0 q).2=none:=by
 cases q with
 |none=>unfold aA;split<;>rfl
 |some ts=>
  have G:=(B sm).1;unfold aA;rw[if_neg om]
theorem BS{m}{s}{q}{k}{x}{so}(B:fI s q k x so)(U:k=16)(hv:x=m):dR q=dM m q:=by
 cases q with
 |none=>unfold dM;split<;>rfl
 |some ts=>
  obtain⟨G,H,_⟩:=B sm;unfold dM;rw[if_pos ⟨om,H▸hv⟩]
theorem zM{m}{s}{q}{k}{x}{so}(B:fI s q k x so)(U: ¬(k=16/\x=m)):dM m q=none:=by
 cases q with
 |none=>unfold dM;split<;>rfl
 |some ts=>
  obtain⟨G,H,_⟩:=B sm;unfold dM;rw[if_neg (λ h=>U ⟨om,H.trans h.2⟩)]
theorem ka{k}(h:k≠0):aC k none=(false,none):=by unfold aC;rw[if_neg (λ he=>h (he.symm:k=0))]
theorem uV{k0:Nat}{s}{ts}{k}{x}{so}(B:fI s (some ts) k x so)(U:k=(k0:Int)):aC k0 (some ts)=(true,dR (some ts)):=by
 have G:=(B sm).1;unfold aC;rw[if_pos om]
theorem uP{k0:Nat}{s}{ts}{k}{x}{so}(B:fI s (some ts) k x so)(U:k≠(k0:Int)):aC k0 (some ts)=(false,some ts):=by
 have G:=(B sm).1;unfold aC;rw[if_neg om]
theorem r0 aa p s ab d q r(L:Lx aa s ab)(h:PI s ab d q r)k x q1 q2 q3 Z so(m:ao)(B:q≠none->so=sa s 0):
 Sp 122 [vp p 0,wy k x q1 q2 q3 Z so,vs m] [pb p s false r] aa (λ v M' _=> ∃t,M'=[pb p s false t]/\v=.tuple #[]/\PI s ab d none t/\t.ps=r.ps):=by
 rcases q with _|ts
 obtain⟨g,hg⟩:=h.none;rw[hg]at h⊢;refine aW Tryz.func122 λ F=>(ra 14 [1] [1,1,0] []) λ b1=>ez 0 (.tuple #[]) [pb p s false {r with er:=.iface 264 (vp g 0)}] [0] lq ⟨_,rfl,rfl,h,rfl⟩;have hg:=h.ok;rw[hg]at h⊢;refine aW Tryz.func122 λ F=>?_
 obtain rfl:=B sm;obtain⟨hu,⟨ar,T,fz,hb,J⟩,dB⟩:=L;refine(eW hb J)<|(ra 15 [2] [2] [0,2,4]) λ b1=>(qz)<|(kz [0,14] [0,1,0,0] [0,11,17,20,23,24])<|(bj (args:=[vs e0,vi q3,vi Z,vs m,vz]) (M:=[]) [] (c159 _ _ _ _)) λ|_,_,ak,w,⟨rfl,g,rfl⟩=>(aG [])<|(kz [15,3] [] [26,28])<|(uz 2 [] []) λ _=>(bL)<|ez 0 (.tuple #[]) [pb p s false {r with er:=.iface 264 (vp g 0)}] [0,0] w ⟨_,rfl,rfl,⟨h.1,g,rfl⟩,rfl⟩
theorem DN aa p s ab d q r(L:Lx aa s ab)(h:PI s ab d q r)k x q1 q2 q3 Z so(B:q≠none->so=sa s 0):
 Sp 84 [vp p 0,wy k x q1 q2 q3 Z so] [pb p s false r] aa (λ v M' _=> ∃t,M'=[pb p s false t]/\v=.tuple #[]/\PI s ab d none t/\t.ps=r.ps):=by
 refine aW Tryz.func84 λ F=>(ra 7 [0] [1,2] [4,5]) λ b1=>(cT (args:=[vp p 0,.agg #[vi k,vs x,vi q1,vi q2,vi q3,vi Z,vq so],vs (⟨#[85,110,101,120,112,101,99,116,101,100,32,116,111,107,101,110]⟩)]) (M:=[pb p s false r]) [1] (r0 _ p s ab d q _ L h _ _ _ _ _ _ _ _ B)) λ ak w r1 ⟨G,aj⟩=>(ra 1 [] [1,4] []) λ _=>ez 0 (.tuple #[]) [pb p s false r1] [1] w ⟨_,rfl,rfl,G,aj⟩
theorem sD aa p s ab d q r(L:Lx aa s ab)(h:PI s ab d q r):
 Sp 80 [vp p 0] [pb p s false r] aa (λ v M' _=> ∃t,M'=[pb p s false t]/\v=.tuple #[]/\PI s ab d none t):=by
 refine aW Tryz.func80 λ F=>(ra 3 [] [2] [2,3]) λ _=>(cz [0] (lK _ p s ab d q _ L h)) λ|_,_,ak,w,⟨r1,k1,x1,ar,aD,W,ah,ax,rfl,rfl,G,e,j,aj⟩=>(cT (args:=[vp p 0,.agg #[vi k1,vs x1,vi ar,vi aD,vi W,vi ah,vq ax]]) (M:=[pb p s false r1]) [0] (DN _ p s ab d q _ (L.mono w) G _ _ _ _ _ _ _ (λ K=>(e K).2.2))) λ aB R V ⟨H,T⟩=>(ra 1 [] [5] []) λ _=>ez 0 (.tuple #[]) [pb p s false V] [] lq ⟨_,rfl,rfl,H⟩
theorem km aa p s ab d q r(L:Lx aa s ab)(h:PI s ab d q r):
 Sp 77 [vp p 0] [pb p s false r] aa (λ v M' _=> ∃t o,M'=[pb p s false t]/\v=vq o/\PI s ab d q t/\(q≠none->t.pk=true)/\(r.ps=sa s 0->t.ps=sa s 0)):=by
 rcases q with _|ts
 obtain⟨g,hg⟩:=h.none;rw[hg]at h⊢;refine aW Tryz.func77 λ F=>(ra 18 [0] [1,1,0,1] [2]) λ _=>ez 0 (.pointer none) [pb p s false {r with er:=.iface 264 (vp g 0)}] [] lq ⟨_,none,rfl,rfl,h,λ h=>absurd rfl h,id⟩;have hg:=h.ok;rw[hg]at h⊢;refine aW Tryz.func77 λ F=>(ra 18 [0] [2,1] [9]) λ _=>(cz [0] (lK _ p s ab d (some ts) _ L h)) λ|_,_,ak,w,⟨r1,k1,x1,ar,aD,W,ah,ax,rfl,rfl,G,e,j,aj⟩=>(ra 8 [0] [4] [2]) λ b2=>ez 0 (vp (b2 0) 2) [pb p s false r1] [0] w ⟨_,sa _ 2,rfl,rfl,G,j,aj⟩
theorem ll aa p s ab d q r(k0:Nat)(L:Lx aa s ab)(h:PI s ab d q r)(N:k0≠0):
 Sp 117 [vp p 0,vi k0] [pb p s false r] aa (λ v M' _=> ∃t k x q1 q2 q3 Z so o,M'=[pb p s false t]/\v=.tuple #[wy k x q1 q2 q3 Z so,vq o]/\PI s ab d (aA k0 q).2 t/\((aA k0 q).2≠none->x=(aA k0 q).1/\so=sa s 0)):=by
 refine aW Tryz.func117 λ F=>(ra 8 [] [1,1] [0,1,4,8]) λ b1=>(cz [1] (lK _ p s ab d q _ L h)) λ|_,_,ak,w,⟨r1,k1,x1,ar,aD,W,ah,ax,rfl,rfl,G,e,j,aj⟩=>(ra 19 [0,1,0] [3,1] [0,4,6,7,17]) λ b2=>(iz 17 (k1==(k0:Int))) (λ U=>?_) (λ U=>?_);have U:k1=(k0:Int):=by simpa using U
 refine(rv 4 [] 0 [0,0,1] [4,7,18])<|(cz [1] (h4 _ p s ab d q _ G j)) λ|_,_,aB,R,⟨V,k2,a',aY,aL,aZ,aH,aF,rfl,rfl,H,ag,aq,T⟩=>(rv 4 [2] 2 [1] [4,5])<|ez 2 (.tuple #[.agg #[vi k2,vs a',vi aY,vi aL,vi aZ,vi aH,vq aF],vq r1.cm]) [pb p s false V] [1,1] lq ⟨_,_,_,_,_,_,_,_,_,rfl,rfl,(xk N e U).1▸H,λ h=>by have K:=Aw h;exact⟨((ag K).2.1).trans ((xk N e U).2 K).symm,(ag K).2.2⟩⟩;have U:k1≠(k0:Int):=by simpa using U
 refine(ra 6 [0] [4,2] [4,6,7,21,22]) λ _=>(cT (args:=[vp p 0,.agg #[vi k1,vs x1,vi ar,vi aD,vi W,vi ah,vq ax],vs (⟨#[69,120,112,101,99,116,101,100,32,97,110,111,116,104,101,114,32,107,105,110,100,32,111,102,32,116,111,107,101,110]⟩)]) (M:=[pb p s false r1]) [1] (r0 _ p s ab d q _ (L.mono w) G _ _ _ _ _ _ _ _ (λ K=>(e K).2.2))) λ aB R V ⟨H,T⟩=>(ra 8 [1,2] [6] [4,5]) λ _=>ez 2 (.tuple #[.agg #[vi k1,vs x1,vi ar,vi aD,vi W,vi ah,vq ax],vq r1.cm]) [pb p s false V] [1,1] lq ⟨_,_,_,_,_,_,_,_,_,rfl,rfl,(xR e U).symm▸H,λ h=>absurd (xR e U) h⟩
theorem fZ aa p s ab d q r(L:Lx aa s ab)(h:PI s ab d q r):
 Sp 118 [vp p 0] [pb p s false r] aa (λ v M' _=> ∃(t:PR)(x:ao),M'=[pb p s false t]/\v=vs x/\PI s ab d (aA 16 q).2 t/\((aA 16 q).2≠none->x=(aA 16 q).1)):=by
 refine aW Tryz.func118 λ F=>(ra 7 [] [1,1] [6]) λ _=>(cz [0] (ll _ p s ab d q _ 16 L h dc)) λ|_,_,ak,w,⟨r1,k1,x1,q1,q2,q3,Z,so,o,rfl,rfl,G,e⟩=>(ra 13 [0,0] [3] [2]) λ b2=>ez 0 (vs x1) [pb p s false r1] [0] w ⟨_,_,rfl,rfl,G,λ h=>(e h).1⟩
theorem ir aa p s ab d q r(m:ao)(L:Lx aa s ab)(h:PI s ab d q r):
 Sp 112 [vp p 0,vs m] [pb p s false r] aa (λ v M' _=> ∃t k x q1 q2 q3 Z so o,M'=[pb p s false t]/\v=.tuple #[wy k x q1 q2 q3 Z so,vq o]/\PI s ab d (dM m q) t):=by
 refine aW Tryz.func112 λ F=>(ra 8 [] [1,1] [0,1,4,8]) λ b1=>(cz [1] (lK _ p s ab d q _ L h)) λ|_,_,ak,w,⟨r1,k1,x1,ar,aD,W,ah,ax,rfl,rfl,G,e,j,aj⟩=>(ra 18 [0,1,0] [3,0,4] [0,1,4,6,7,17]) λ b2=>(iz 17 (k1==16)) (λ U=>?_) (λ U=>?_);have U:k1=16:=by simpa using U
 refine(ra 6 [0] [3,1] [0,4,6,7,22]) λ _=>(iz 22 (ay x1 m)) (λ hv=>?_) (λ hv=>?_);have hv:x1=m:=aQ hv;refine(rv 4 [] 0 [0,0,1] [4,7,23])<|(cz [1] (h4 _ p s ab d q _ G j)) λ|_,_,aB,R,⟨V,k2,a',aY,aL,aZ,aH,aF,rfl,rfl,H,ag,aq,T⟩=>(rv 4 [2] 2 [1] [4,5])<|ez 2 (.tuple #[.agg #[vi k2,vs a',vi aY,vi aL,vi aZ,vi aH,vq aF],vq r1.cm]) [pb p s false V] [1,1] lq ⟨_,_,_,_,_,_,_,_,_,rfl,rfl,(BS e U hv)▸H⟩;have hv:x1≠m:=bh hv;refine(ra 6 [0] [4,2] [4,6,7,26,27]) λ _=>(cT (args:=[vp p 0,.agg #[vi k1,vs x1,vi ar,vi aD,vi W,vi ah,vq ax],vs (⟨#[69,120,112,101,99,116,101,100,32,97,32,107,101,121,119,111,114,100]⟩)]) (M:=[pb p s false r1]) [1] (r0 _ p s ab d q _ (L.mono w) G _ _ _ _ _ _ _ _ (λ K=>(e K).2.2))) λ aB R V ⟨H,T⟩=>(ra 8 [1,2] [6] [4,5]) λ _=>ez 2 (.tuple #[.agg #[vi k1,vs x1,vi ar,vi aD,vi W,vi ah,vq ax],vq r1.cm]) [pb p s false V] [1,1] lq ⟨_,_,_,_,_,_,_,_,_,rfl,rfl,(zM e (λ h=>hv h.2)).symm▸H⟩;have U:k1≠16:=by simpa using U
 refine(ra 12 [0] [4,2] [4,6,7,26,27]) λ _=>(cT (args:=[vp p 0,.agg #[vi k1,vs x1,vi ar,vi aD,vi W,vi ah,vq ax],vs (⟨#[69,120,112,101,99,116,101,100,32,97,32,107,101,121,119,111,114,100]⟩)]) (M:=[pb p s false r1]) [1] (r0 _ p s ab d q _ (L.mono w) G _ _ _ _ _ _ _ _ (λ K=>(e K).2.2))) λ aB R V ⟨H,T⟩=>(ra 8 [1,2] [6] [4,5]) λ _=>ez 2 (.tuple #[.agg #[vi k1,vs x1,vi ar,vi aD,vi W,vi ah,vq ax],vq r1.cm]) [pb p s false V] [1,1] lq ⟨_,_,_,_,_,_,_,_,_,rfl,rfl,(zM e (λ h=>U h.1)).symm▸H⟩
theorem kq aa p s ab d q r(k0:Nat)(L:Lx aa s ab)(h:PI s ab d q r)(N:k0≠0):
 Sp 120 [vp p 0,vi k0] [pb p s false r] aa (λ v M' _=> ∃t,M'=[pb p s false t]/\v=vb (aC k0 q).1/\PI s ab d (aC k0 q).2 t):=by
 rcases q with _|ts
 obtain⟨g,hg⟩:=h.none;rw[hg]at h⊢;refine aW Tryz.func120 λ F=>(ra 18 [0] [1,1,0,1] [4]) λ _=>ez 0 (vb false) [pb p s false {r with er:=.iface 264 (vp g 0)}] [] lq ⟨_,rfl,by rw[ka N],by rw[ka N];exact h⟩;have hg:=h.ok;rw[hg]at h⊢;refine aW Tryz.func120 λ F=>(ra 18 [0] [2,1] [0,1,11]) λ _=>(cz [0] (lK _ p s ab d (some ts) _ L h)) λ|_,_,ak,w,⟨r1,k1,x1,ar,aD,W,ah,ax,rfl,rfl,G,e,j,aj⟩=>(ra 11 [0,0] [3,1] [0,16]) λ b2=>(iz 16 (k1 !=(k0:Int))) (λ U=>?_) (λ U=>?_);have U:k1≠(k0:Int):=by simpa using U
 refine(rv 5 [] 0 [0,1] [4])<|ez 0 (vb false) [pb p s false r1] [0] w ⟨_,rfl,by rw[uP e U],by rw[uP e U];exact G⟩;have U:k1=(k0:Int):=by simpa using U
 refine(ra 5 [] [4,1] [17]) λ _=>(cz [1] (h4 _ p s ab d (some ts) _ G j)) λ|_,_,aB,R,⟨V,k2,a',aY,aL,aZ,aH,aF,rfl,rfl,H,ag,aq,T⟩=>(ra 5 [] [6] [4]) λ _=>ez 0 (vb true) [pb p s false V] [1] lq ⟨_,rfl,by rw[uV e U],by rw[uV e U];exact H⟩
theorem PI.dd{s}{ab}{d}{q}{r}(h:PI s ab d q r):r={r with d:=(d:Int)}:=by cases r;simp only[PI]at h;simp[h.1]
theorem PI.EP{s}{ab}{d}{q}{r}(h:PI s ab d q r)a:PI s ab a q {r with d:=(a:Int)}:=⟨rfl,h.2⟩
structure LN(α B:Type)where
 q:Q
 r:PR
 be:B
 l:List α
 cal:Bool
 im:au
section
variable{α:Type}{b e:Nat}{m:Q->α×Q}{q:Q}
def gk(e:Nat)(m:Q->α×Q)(cal:Bool)(n:Nat)(q:Q):List α×Q:=if cal=false/\(cV q).k=e then([],none)else fv e m n q
theorem hJ e(m:Q->α×Q)n:fv e m n none=([],none):=by cases n<;>rfl
theorem iG e(m:Q->α×Q)cal n:gk e m cal n none=([],none):=by
 unfold gk;rw[hJ];split<;>rfl
theorem gy{n}:gk e m true n q=fv e m n q:=by unfold gk;rw[if_neg sm]
theorem mY{cal}{n}{ts}(h:(eY ts).k≠e):gk e m cal (n+1) (some ts)=((m (some ts)).1::(fv e m n (m (some ts)).2).1,(fv e m n (m (some ts)).2).2):=by
 unfold gk;rw[if_neg (λ hh=>h hh.2),fv,if_neg h]
theorem oN{n}{ts}(h:(eY ts).k=e):gk e m true (n+1) (some ts)=([],dR (some ts)):=by
 rw[gy,fv,if_pos h]
theorem u4{n}{ts}(h:(eY ts).k=e):gk e m false n (some ts)=([],none):=by
 unfold gk;rw[if_pos ⟨rfl,h⟩]
theorem ql q:b8 (dR q)<=b8 q:=by
 cases q with
 |none=>exact HZ _
 |some ts=>cases ts with
  |nil=>exact HZ _
  |cons t r=>by_cases h:t.k=0<;>simp[dR,h,b8]
def mQ:Q->Nat
 |none=>0
 |some ts=>ts.length+1
theorem zz{q}{n}(h:b8 q<n):mQ q<n+1:=by
 cases q with
 |none=>exact JS _
 |some ts=>exact Nat.succ_lt_succ h
theorem fQ(h:(aC b q).1=false):(cV q).k≠b/\(aC b q).2=q:=by
 unfold aC at h⊢;split at h;cases h;rename_i G;rw[if_neg G];exact⟨G,rfl⟩
theorem jE(h:(aC b q).1=true):(cV q).k=b/\(aC b q).2=dR q:=by
 unfold aC at h⊢;split at h;rename_i G;rw[if_pos G];exact⟨G,rfl⟩;cases h
theorem wS(h:(aC b q).1=false):(dx b e m q).1=[]/\(dx b e m q).2=(aC b q).2:=by
 obtain⟨G,H⟩:=fQ h;unfold dx;rw[if_neg G,H];exact⟨rfl,rfl⟩
theorem x2(h:(aC b q).1=false):(db b e m q).1=[]/\(db b e m q).2=(aC b q).2:=by
 obtain⟨G,H⟩:=fQ h;unfold db;rw[if_neg G,H];exact⟨rfl,rfl⟩
theorem jy(K:q=none):(aC b q).2=none:=by subst K;unfold aC;split<;>rfl
theorem vJ(h:(aC b q).1=true):(gk e m true (b8 (aC b q).2+1) (aC b q).2).1=(dx b e m q).1/\(gk e m true (b8 (aC b q).2+1) (aC b q).2).2=(dx b e m q).2/\b8 (aC b q).2<=b8 q/\(aC b none).2=none:=by
 obtain⟨G,H⟩:=jE h;rw[gy,H];unfold dx;rw[if_pos G];exact⟨rfl,rfl,ql q,jy rfl⟩
theorem vw(h:(aC b q).1=true):(gk e m false (b8 (aC b q).2+1) (aC b q).2).1=(db b e m q).1/\(gk e m false (b8 (aC b q).2+1) (aC b q).2).2=(db b e m q).2/\b8 (aC b q).2<=b8 q/\(aC b none).2=none:=by
 obtain⟨G,H⟩:=jE h;rw[H];unfold db gk;rw[if_pos G];by_cases S:(cV (dR q)).k=e;rw[if_pos ⟨rfl,S⟩,if_pos S];exact⟨rfl,rfl,ql q,jy rfl⟩;rw[if_neg (λ hh=>S hh.2),if_neg S];exact⟨rfl,rfl,ql q,jy rfl⟩
end
theorem oD: ∀M rest,bF (List.replicate M.length 0) (M++rest)=some (M,rest)
 |[],_=>rfl
 |x::xs,rest=>by simp[bF,List.replicate_succ,oD xs rest]
theorem Dx{f:FuncId}{fn:Func}{R:Ending->World->Prop}{D:List Deferred}{aa:au}{path:List Nat}{env:Ev}{cs:List Chunk}(t:Nat)(g:FuncId)(cap:Array Value)(d:Option Nat)(ak:List Nat){M rest:List Chunk}{ca:Value->List Chunk->au->Prop}
 (c: ∀args,pv HB (callFunc g args)=some (.enter g args)) (E:Sp g cap.toList M aa ca) (hp:cs=M++rest)
 (k: ∀v M' C,au.le aa C->ca v M' C->bf HB f fn R D C ak (dF d v env) (M'++rest))
 (a:look env t=some (.func (.func g) #[] cap):=by kernel_rfl)
 (G:(cj fn.ntmps (bI (bd fn) path []) env).map (λ x=>(x.1.op,x.1.dst,x.2))=some (.call ⟨.value (.tmp t),#[],#[]⟩,d,bI (bd fn) ak []):=by kernel_rfl):
 bf HB f fn R D aa path env cs:=by
 subst hp;exact GV t g cap d ak (List.replicate M.length 0) c E (oD M rest) k a G
theorem wV aa p s ab d q r(L:Lx aa s ab)(h:PI s ab d q r)(hd:1000<=d):
 Sp 197 [vp p 0] [pb p s false r] aa (λ v M' _=> ∃t,M'=[pb p s false t]/\v=vb false/\PI s ab d none t):=by
 have hg:=h.dd;rw[hg]at h⊢;refine aW Tryz.func197 λ F=>(ra 13 [0] [1,1] [0,7]) λ _=>(sv 7 (show(decide ((d:Int)>=1000))=true from by simp;omega))<|(rv 5 [] 0 [0,0,2] [8,9])<|(cz [0] (lK _ p s ab d q _ L h)) λ|_,_,ak,w,⟨r1,k1,x1,ar,aD,W,ah,ax,rfl,rfl,G,e,j,aj⟩=>(cT (args:=[vp p 0,.agg #[vi k1,vs x1,vi ar,vi aD,vi W,vi ah,vq ax],vs (⟨#[101,120,99,101,101,100,101,100,32,109,97,120,105,109,117,109,32,110,101,115,116,105,110,103,32,100,101,112,116,104]⟩)]) (M:=[pb p s false r1]) [0] (r0 _ p s ab d q _ (L.mono w) G _ _ _ _ _ _ _ _ (λ K=>(e K).2.2))) λ aB R V ⟨H,T⟩=>(rv 5 [] 2 [2] [2])<|ez 0 (vb false) [pb p s false V] [] lq ⟨_,rfl,rfl,H⟩
theorem x6 aa p s ab d q r(h:PI s ab d q r)(hd:d<1000):
 Sp 197 [vp p 0] [pb p s false r] aa (λ v M' _=> ∃t,M'=[pb p s false t]/\v=vb true/\PI s ab (d+1) q t):=by
 have hg:=h.dd;rw[hg]at h⊢;refine aW Tryz.func197 λ F=>(ra 13 [0] [1,1] [0,7]) λ _=>(sv 7 (show(decide ((d:Int)>=1000))=false from by simp;omega)) ?_;refine rZ 17 [0,0] [4] (λ _=>[(2,vb true)]) (λ _=>pb p s false {r with d:=aj ((d:Int)+1)}::F) ?_;intro _;rw[wn (d+1) (d+1)];refine rt Tryz.func197 0 (vb true) [pb p s false {r with d:=((d+1:Nat):Int)}] [] rfl lq ⟨_,rfl,rfl,h.EP _⟩
theorem B5 aa p s ab d q r{α B:Type}(b e:Nat)(m:Q->α×Q)(J:B->List Chunk)(Acc:au->B->List α->Prop)g cap be l(L:Lx aa s ab)(h:PI s ab d q r)(aj:b≠0)
 (c: ∀args,pv HB (callFunc g args)=some (.enter g args)) (ad: ∀i j be l,au.le i j->Acc i be l->Acc j be l) (G:q≠none->Acc aa be l)
 (ao: ∀ts y,(m (some ts)).2=some y->y.length<ts.length)
 (ak: ∀im(q1:Q)r be P,Lx im s ab->au.le aa im->q1≠none->PI s ab d q1 r->Acc im be P->P.length+b8 q1<=l.length+b8 q->
  Sp g cap.toList (pb p s false r::J be) im (λ _ M' C=> ∃t ah,M'=pb p s false t::J ah/\PI s ab d (m q1).2 t/\((m q1).2≠none->Acc C ah (P++[(m q1).1])))):
 Sp 217 [vp p 0,vi b,vi e,.func (.func g) #[] cap] (pb p s false r::J be) aa (λ v M' C=> ∃t ah,v=.tuple #[]/\M'=pb p s false t::J ah/\PI s ab d (dx b e m q).2 t/\((dx b e m q).2≠none->Acc C ah (l++(dx b e m q).1))):=by
 refine aW Tryz.func217 λ F=>(ra 4 [] [0,2] [0,2,3,9,10]) λ _=>(cT [0] (kq _ p s ab d q r b L h aj)) λ j0 al aO N=>(ra 8 [] [1,1] [0,2,3,13]) λ _=>(eL 13 ((aC b q).1)) (λ aJ=>?_) (λ aJ=>?_);have aJ:(aC b q).1=false:=by simpa using aJ
 refine(rv 1 [] 0 [0] []) ?_;obtain⟨aw,az⟩:=wS (m:=m) (e:=e) aJ;exact ez 0 (.tuple #[]) (pb p s false aO::J be) [] al ⟨aO,be,rfl,rfl,by rw[az];exact N,λ O=>by rw[aw];exact ad _ _ _ _ al (by simpa using G (λ K=>O (by rw[az,K];exact jy rfl)))⟩;have aJ:(aC b q).1=true:=by simpa using aJ
 obtain⟨aw,az,e3,aS⟩:=vJ (m:=m) (e:=e) aJ;refine rZ 7 [] [2,0,0,0,0] (λ _=>[(0,vp p 0),(2,vi e),(3,.func (.func g) #[] cap)]) (λ _=>pb p s false aO::(J be++F)) λ _=>bf.loop (ι:=LN α B) (λ i=>mQ i.q) (λ i=>i.im) (λ i=>[(0,vp p 0),(2,vi e),(3,.func (.func g) #[] cap)]) (λ i=>pb p s false i.r::(J i.be++F)) (λ i=>PI s ab d i.q i.r/\aa.le i.im/\(i.q≠none->Acc i.im i.be i.l)/\i.l.length+b8 i.q<=l.length+b8 q/\i.cal=true/\ ∃n,b8 i.q<n/\(gk e m i.cal n i.q).2=(dx b e m q).2/\((dx b e m q).2≠none->i.l++(gk e m i.cal n i.q).1=l++(dx b e m q).1)) ⟨(aC b q).2,aO,be,l,true,j0⟩ ⟨N,al,λ O=>ad _ _ _ _ al (G (λ K=>O (by rw[K];exact aS))),by have:=e3;dsimp only;omega,rfl,b8 (aC b q).2+1,JU _,az,λ _=>by rw[aw]⟩ ?_;rintro⟨q1,r1,a,P,w,bn⟩ ⟨hP,ae,hA,hlen,an,n,O,x,z⟩ af;dsimp only at hP ae hA hlen an O x z;refine zg<|(rv 2 [] 0 [1] [0,2,3,14]) ?_;have f:=L.mono ae;refine(cz [0] (lK _ p s ab d q1 r1 f hP)) λ|_,_,aB,R,⟨V,k2,a',aY,aL,aZ,aH,aF,rfl,rfl,H,ag,Z,T⟩=>(rv 4 [] 1 [6] [0,2,3,19]) ?_;rcases q1 with _|ts
 obtain⟨g2,W⟩:=H.none;have hz:=iG e m w n;rw[hz]at x;have ax:(dx b e m q).2=none:=x.symm;rw[W]at H Z⊢;refine(iz 19 (k2 !=(e:Int))) (λ U=>?_) (λ U=>?_);refine(ra 11 [0] [3,1] [28]) λ _=>(cz [0] (h4 _ p s ab d none _ H Z)) λ|_,_,j3,aK,⟨r3,k3,x3,aP,a7,aM,aA,a_,rfl,rfl,S,aq,u,aE⟩=>(ra 1 [] [3,3] []) λ _=>ez 0 (.tuple #[]) (pb p s false r3::J a) [] lq ⟨r3,a,rfl,rfl,by rw[ax];exact S,λ O=>absurd ax O⟩;refine(ra 11 [] [3,1] [28]) λ _=>(cz [0] (h4 _ p s ab d none _ H Z)) λ|_,_,j3,aK,⟨r3,k3,x3,aP,a7,aM,aA,a_,rfl,rfl,S,aq,u,aE⟩=>(ra 1 [] [3,3] []) λ _=>ez 0 (.tuple #[]) (pb p s false r3::J a) [] lq ⟨r3,a,rfl,rfl,by rw[ax];exact S,λ O=>absurd ax O⟩;have W:=H.ok;rw[W]at H Z⊢;obtain⟨bb,-,-⟩:=ag sm;have bb:k2=((eY ts).k:Int):=bb;rcases n with _|n;·omega
 refine(iz 19 (k2 !=(e:Int))) (λ U=>?_) (λ U=>?_);have U:(eY ts).k≠e:=by have S:=U;simp at S;omega
 refine rZ 12 [0] [2,0,0,1,0,1] (λ _=>[(0,vp p 0),(2,vi e),(3,.func (.func g) #[] cap),(26,.func (.func g) #[] cap)]) (λ _=>pb p s false {V with er:=.nilIface}::(J a++F)) ?_;intro _;have hS:=ak aB (some ts) {V with er:=.nilIface} a P (f.mono R) lq sm H (ad _ _ _ _ R (hA sm)) hlen;refine Dx 26 g cap (some 27) [2,0,0,1,0,2] (M:=pb p s false {V with er:=.nilIface}::J a) (rest:=F) c hS rfl ?_;rintro _ _ j3 aK ⟨r3,D,rfl,S,E⟩;refine rn 5 [] [2,0,0,0,0] (λ _=>[(0,vp p 0),(2,vi e),(3,.func (.func g) #[] cap)]) (λ _=>pb p s false r3::(J D++F)) ?_;intro _;have I:=ao ts;have A:=mY (m:=m) (cal:=w) (n:=n) U;rw[A]at x z;by_cases hm:(m (some ts)).2=none;rw[hm]at S x;exact af ⟨none,r3,D,P,true,j3⟩ ⟨S,lq,λ h=>absurd rfl h,by have:b8 none=0:=rfl;dsimp only;omega,rfl,1,JV,by rw[iG];exact(by rw[hJ]at x;exact x),λ h=>absurd (by rw[hJ]at x;exact x.symm) h⟩ (JS _);have aD:b8 (m (some ts)).2<ts.length:=by cases aI:(m (some ts)).2 with
  |none=>exact absurd aI hm
  |some y=>exact I y aI
 exact af ⟨(m (some ts)).2,r3,D,P++[(m (some ts)).1],true,j3⟩ ⟨S,lq,λ h=>E h,by have:b8 (some ts)=ts.length:=rfl;simp only[HT,I1];omega,rfl,n,by have:b8 (some ts)=ts.length:=rfl;dsimp only;omega,by rw[gy];exact x,λ h=>by rw[gy,Js];exact z h⟩ (zz aD);have U:(eY ts).k=e:=by have S:=U;simp at S;omega
 refine(ra 11 [] [3,1] [28]) λ _=>(cz [0] (h4 _ p s ab d (some ts) _ H Z)) λ|_,_,j3,aK,⟨r3,k3,x3,aP,a7,aM,aA,a_,rfl,rfl,S,aq,u,aE⟩=>(ra 1 [] [3,3] []) ?_;intro _;obtain⟨rfl⟩:w=true:=an;rw[oN U]at x z;exact ez 0 (.tuple #[]) (pb p s false r3::J a) [] lq ⟨r3,a,rfl,rfl,by rw[<-x];exact S,λ O=>by rw[<-z O,Ju];exact ad _ _ _ _ lq (hA sm)⟩
theorem sG aa p s ab d q r{α B:Type}(b e:Nat)(m:Q->α×Q)(J:B->List Chunk)(Acc:au->B->List α->Prop)g cap be l(L:Lx aa s ab)(h:PI s ab d q r)(aj:b≠0)
 (c: ∀args,pv HB (callFunc g args)=some (.enter g args)) (ad: ∀i j be l,au.le i j->Acc i be l->Acc j be l) (G:q≠none->Acc aa be l)
 (ao: ∀ts y,(m (some ts)).2=some y->y.length<ts.length)
 (ak: ∀im(q1:Q)r be P,Lx im s ab->au.le aa im->q1≠none->PI s ab d q1 r->Acc im be P->P.length+b8 q1<=l.length+b8 q->
  Sp g cap.toList (pb p s false r::J be) im (λ _ M' C=> ∃t ah,M'=pb p s false t::J ah/\PI s ab d (m q1).2 t/\((m q1).2≠none->Acc C ah (P++[(m q1).1])))):
 Sp 114 [vp p 0,vi b,vi e,.func (.func g) #[] cap] (pb p s false r::J be) aa (λ v M' C=> ∃t ah o,v=vq o/\M'=pb p s false t::J ah/\PI s ab d (db b e m q).2 t/\((db b e m q).2≠none->Acc C ah (l++(db b e m q).1))):=by
 refine aW Tryz.func114 λ F=>(ra 8 [] [1,2] [0,2,3,12,13]) λ _=>(cT [0] (kq _ p s ab d q r b L h aj)) λ j0 al aO N=>(ra 8 [] [2,1] [0,2,3,16]) λ _=>(eL 16 ((aC b q).1)) (λ aJ=>?_) (λ aJ=>?_);have aJ:(aC b q).1=false:=by simpa using aJ
 refine(rv 5 [] 0 [0,1] [8]) ?_;obtain⟨aw,az⟩:=x2 (m:=m) (e:=e) aJ;exact ez 0 (.pointer none) (pb p s false aO::J be) [] al ⟨aO,be,none,rfl,rfl,by rw[az];exact N,λ O=>by rw[aw];exact ad _ _ _ _ al (by simpa using G (λ K=>O (by rw[az,K];exact jy rfl)))⟩;have aJ:(aC b q).1=true:=by simpa using aJ
 obtain⟨aw,az,e3,aS⟩:=vw (m:=m) (e:=e) aJ;refine rZ 11 [] [4,0,0,0,0] (λ _=>[(0,vp p 0),(2,vi e),(3,.func (.func g) #[] cap),(10,vb false)]) (λ _=>pb p s false aO::(J be++F)) λ _=>bf.loop (ι:=LN α B) (λ i=>mQ i.q) (λ i=>i.im) (λ i=>[(0,vp p 0),(2,vi e),(3,.func (.func g) #[] cap),(10,vb i.cal)]) (λ i=>pb p s false i.r::(J i.be++F)) (λ i=>PI s ab d i.q i.r/\aa.le i.im/\(i.q≠none->Acc i.im i.be i.l)/\i.l.length+b8 i.q<=l.length+b8 q/\ ∃n,b8 i.q<n/\(gk e m i.cal n i.q).2=(db b e m q).2/\((db b e m q).2≠none->i.l++(gk e m i.cal n i.q).1=l++(db b e m q).1)) ⟨(aC b q).2,aO,be,l,false,j0⟩ ⟨N,al,λ O=>ad _ _ _ _ al (G (λ K=>O (by rw[K];exact aS))),by have:=e3;dsimp only;omega,b8 (aC b q).2+1,JU _,az,λ _=>by rw[aw]⟩ ?_;rintro⟨q1,r1,a,P,w,bn⟩ ⟨hP,ae,hA,hlen,n,O,x,z⟩ af;dsimp only at hP ae hA hlen O x z;refine zg<|(rv 2 [] 0 [1] [0,2,3,10,17]) ?_;have f:=L.mono ae;refine(cz [0] (lK _ p s ab d q1 r1 f hP)) λ|_,_,aB,R,⟨V,k2,a',aY,aL,aZ,aH,aF,rfl,rfl,H,ag,Z,T⟩=>(rv 4 [] 1 [6] [0,2,3,10,22]) ?_;rcases q1 with _|ts
 obtain⟨g2,W⟩:=H.none;have hz:=iG e m w n;rw[hz]at x;have ax:(db b e m q).2=none:=x.symm;rw[W]at H Z⊢;refine(iz 22 (k2 !=(e:Int))) (λ U=>?_) (λ U=>?_);refine(ra 15 [0] [5,1] [0,32]) ?_;intro _;rcases w with _|_
 refine(rv 5 [] 0 [0,0,2] [33,34])<|(cz [0] (lK _ p s ab d none _ (f.mono R) H)) λ|_,_,j3,aK,⟨r3,k3,x3,aP,a7,aM,aA,a_,rfl,rfl,S,aq,aT,aE⟩=>(cT (args:=[vp p 0,.agg #[vi k3,vs x3,vi aP,vi a7,vi aM,vi aA,vq a_],vs (⟨#[101,120,112,101,99,116,101,100,32,97,116,32,108,101,97,115,116,32,111,110,101,32,100,101,102,105,110,105,116,105,111,110]⟩)]) (M:=[pb p s false r3]) [0] (r0 _ p s ab d none r3 (f.mono lq) S _ _ _ _ _ _ _ _ (λ K=>(aq K).2.2))) λ j4 aR r4 ⟨Y,bk⟩=>(rv 5 [] 2 [2] [8])<|ez 0 (.pointer none) (pb p s false r4::J a) [] lq ⟨r4,a,none,rfl,rfl,by rw[ax];exact Y,λ O=>absurd ax O⟩;refine(ra 13 [0] [7,1] [11,41]) λ _=>(cz [0] (h4 _ p s ab d none _ H Z)) λ|_,_,j3,aK,⟨r3,k3,x3,aP,a7,aM,aA,a_,rfl,rfl,S,aq,u,aE⟩=>(ra 6 [] [9] [8]) λ _=>ez 0 (vq V.cm) (pb p s false r3::J a) [] lq ⟨r3,a,V.cm,rfl,rfl,by rw[ax];exact S,λ O=>absurd ax O⟩;refine(ra 15 [] [5,1] [0,32]) ?_;intro _;rcases w with _|_
 refine(rv 5 [] 0 [0,0,2] [33,34])<|(cz [0] (lK _ p s ab d none _ (f.mono R) H)) λ|_,_,j3,aK,⟨r3,k3,x3,aP,a7,aM,aA,a_,rfl,rfl,S,aq,aT,aE⟩=>(cT (args:=[vp p 0,.agg #[vi k3,vs x3,vi aP,vi a7,vi aM,vi aA,vq a_],vs (⟨#[101,120,112,101,99,116,101,100,32,97,116,32,108,101,97,115,116,32,111,110,101,32,100,101,102,105,110,105,116,105,111,110]⟩)]) (M:=[pb p s false r3]) [0] (r0 _ p s ab d none r3 (f.mono lq) S _ _ _ _ _ _ _ _ (λ K=>(aq K).2.2))) λ j4 aR r4 ⟨Y,bk⟩=>(rv 5 [] 2 [2] [8])<|ez 0 (.pointer none) (pb p s false r4::J a) [] lq ⟨r4,a,none,rfl,rfl,by rw[ax];exact Y,λ O=>absurd ax O⟩;refine(ra 13 [0] [7,1] [11,41]) λ _=>(cz [0] (h4 _ p s ab d none _ H Z)) λ|_,_,j3,aK,⟨r3,k3,x3,aP,a7,aM,aA,a_,rfl,rfl,S,aq,u,aE⟩=>(ra 6 [] [9] [8]) λ _=>ez 0 (vq V.cm) (pb p s false r3::J a) [] lq ⟨r3,a,V.cm,rfl,rfl,by rw[ax];exact S,λ O=>absurd ax O⟩;have W:=H.ok;rw[W]at H Z⊢;obtain⟨bb,-,-⟩:=ag sm;have bb:k2=((eY ts).k:Int):=bb;rcases n with _|n;·omega
 refine(iz 22 (k2 !=(e:Int))) (λ U=>?_) (λ U=>?_);have U:(eY ts).k≠e:=by have S:=U;simp at S;omega
 refine rZ 16 [0] [4,0,0,1,0,1,1] (λ _=>[(0,vp p 0),(2,vi e),(3,.func (.func g) #[] cap),(10,vb true),(29,.func (.func g) #[] cap)]) (λ _=>pb p s false {V with er:=.nilIface}::(J a++F)) ?_;intro _;have hS:=ak aB (some ts) {V with er:=.nilIface} a P (f.mono R) lq sm H (ad _ _ _ _ R (hA sm)) hlen;refine Dx 29 g cap (some 30) [4,0,0,1,0,1,2] (M:=pb p s false {V with er:=.nilIface}::J a) (rest:=F) c hS rfl ?_;rintro _ _ j3 aK ⟨r3,D,rfl,S,E⟩;refine rn 5 [] [4,0,0,0,0] (λ _=>[(0,vp p 0),(2,vi e),(3,.func (.func g) #[] cap),(10,vb true)]) (λ _=>pb p s false r3::(J D++F)) ?_;intro _;have I:=ao ts;have A:=mY (m:=m) (cal:=w) (n:=n) U;rw[A]at x z;by_cases hm:(m (some ts)).2=none;rw[hm]at S x;exact af ⟨none,r3,D,P,true,j3⟩ ⟨S,lq,λ h=>absurd rfl h,by have:b8 none=0:=rfl;dsimp only;omega,1,JV,by rw[iG];exact(by rw[hJ]at x;exact x),λ h=>absurd (by rw[hJ]at x;exact x.symm) h⟩ (JS _);have aD:b8 (m (some ts)).2<ts.length:=by cases aI:(m (some ts)).2 with
  |none=>exact absurd aI hm
  |some y=>exact I y aI
 exact af ⟨(m (some ts)).2,r3,D,P++[(m (some ts)).1],true,j3⟩ ⟨S,lq,λ h=>E h,by have:b8 (some ts)=ts.length:=rfl;simp only[HT,I1];omega,n,by have:b8 (some ts)=ts.length:=rfl;dsimp only;omega,by rw[gy];exact x,λ h=>by rw[gy,Js];exact z h⟩ (zz aD);have U:(eY ts).k=e:=by have S:=U;simp at S;omega
 refine(ra 15 [] [5,1] [0,32]) ?_;intro _;rcases w with _|_
 refine(rv 5 [] 0 [0,0,2] [33,34])<|(cz [0] (lK _ p s ab d (some ts) _ (f.mono R) H)) λ|_,_,j3,aK,⟨r3,k3,x3,aP,a7,aM,aA,a_,rfl,rfl,S,aq,aT,aE⟩=>(cT (args:=[vp p 0,.agg #[vi k3,vs x3,vi aP,vi a7,vi aM,vi aA,vq a_],vs (⟨#[101,120,112,101,99,116,101,100,32,97,116,32,108,101,97,115,116,32,111,110,101,32,100,101,102,105,110,105,116,105,111,110]⟩)]) (M:=[pb p s false r3]) [0] (r0 _ p s ab d (some ts) r3 (f.mono lq) S _ _ _ _ _ _ _ _ (λ K=>(aq K).2.2))) λ j4 aR r4 ⟨Y,bk⟩=>(rv 5 [] 2 [2] [8]) ?_;have ax:(db b e m q).2=none:=by rw[<-x,u4 U]
 exact ez 0 (.pointer none) (pb p s false r4::J a) [] lq ⟨r4,a,none,rfl,rfl,by rw[ax];exact Y,λ O=>absurd ax O⟩;refine(ra 13 [0] [7,1] [11,41]) λ _=>(cz [0] (h4 _ p s ab d (some ts) _ H Z)) λ|_,_,j3,aK,⟨r3,k3,x3,aP,a7,aM,aA,a_,rfl,rfl,S,aq,u,aE⟩=>(ra 6 [] [9] [8]) ?_;intro _;rw[oN U]at x z;exact ez 0 (vq V.cm) (pb p s false r3::J a) [] lq ⟨r3,a,V.cm,rfl,rfl,by rw[<-x];exact S,λ O=>by rw[<-z O,Ju];exact ad _ _ _ _ lq (hA sm)⟩
def bJ(n:Nat)(q q':Q):Prop:= ∀y,q'=some y-> ∃ts,q=some ts/\y.length+n<=ts.length
theorem bJ.refl q:bJ 0 q q:=λ y h=>⟨y,h,HZ _⟩
theorem bJ.trans{a b}{q q1 q2}(G:bJ a q q1)(H:bJ b q1 q2):bJ (a+b) q q2:=λ y h=>by
 obtain⟨t1,aw,P⟩:=H y h;obtain⟨t2,az,aA⟩:=G t1 aw;exact⟨t2,az,om⟩
theorem bJ.bH{a b}{q q'}(h:bJ a q q')(hb:b<=a):bJ b q q':=λ y e=>by
 obtain⟨t,aw,P⟩:=h y e;exact⟨t,aw,om⟩
theorem bJ.err n q:bJ n q none:=λ y h=>by cases h
theorem bJ.bN{n}{q'}(h:bJ n none q'):q'=none:=by
 cases q' with
 |none=>rfl
 |some ts=>obtain⟨t,e,_⟩:=h ts rfl;cases e
theorem bJ.ne{n}{q q'}(h:bJ n q q')(O:q'≠none):q≠none:=λ e=>O (by subst e;exact h.bN)
theorem bJ.pW{n}{ts y}{q'}(h:bJ n (some ts) q')(he:q'=some y):y.length+n<=ts.length:=by
 obtain⟨t,e,l⟩:=h y he;injection e with e;subst e;exact l
theorem hc q:bJ 0 q (dR q):=λ y h=>by
 match q,h with
 |some [],h=>exact⟨[],rfl,by injection h with h;subst h;exact HZ _⟩
 |some (t::r),h=>
  simp only[dR]at h;by_cases N:t.k=0;rw[if_pos N]at h;cases h;rw[if_neg N]at h;injection h with h;subst h;exact⟨_,rfl,by simp⟩
theorem e6{q}(H:2<=(cV q).k):bJ 1 q (dR q):=λ y h=>by
 match q,h,H with
 |some [],h,H=>exact absurd H dc
 |some (t::r),h,H=>
  simp only[dR]at h;by_cases N:t.k=0;rw[if_pos N]at h;cases h;rw[if_neg N]at h;injection h with h;subst h;exact⟨_,rfl,by simp⟩
theorem aN{k}q(U:2<=k):bJ 1 q (aA k q).2:=by
 unfold aA;split;rename_i h;exact e6 om;exact bJ.err _ _
theorem e_ m q:bJ 1 q (dM m q):=by
 unfold dM;split;rename_i h;exact e6 om;exact bJ.err _ _
theorem dL k q:bJ 0 q (aC k q).2:=by
 unfold aC;split;exact hc q;exact bJ.refl q
section
variable{α:Type}{m:Q->α×Q}
theorem lj e(h: ∀q,bJ 0 q (m q).2): ∀n q,bJ 0 q (fv e m n q).2
 |0,q=>bJ.err _ _
 |n+1,none=>bJ.err _ _
 |n+1,some ts=>by
  rw[fv];split;exact hc _;exact(h _).trans (lj e h n _)
theorem iw k(h: ∀q,bJ 0 q (m q).2): ∀n q,bJ 0 q (cy k m n q).2
 |0,q=>bJ.err _ _
 |n+1,q=>by
  rw[cy];split;exact(h _).trans (iw k h n _);exact bJ.refl q
theorem mO{b e}(h: ∀q,bJ 0 q (m q).2){q}(hb:(cV q).k=b)(H:2<=b):bJ 1 q (dx b e m q).2:=by
 unfold dx;rw[if_pos hb];exact(e6 om).trans (lj e h _ _)
theorem dt b e(h: ∀q,bJ 0 q (m q).2)q:bJ 0 q (db b e m q).2:=by
 unfold db;split;split;exact bJ.err _ _;exact(hc q).trans (lj e h _ _);exact bJ.refl q
end
theorem bJ.w0{α:Type}{m:Q->α×Q}(h: ∀q,bJ 1 q (m q).2)q:bJ 0 q (m q).2:=(h q).bH om
theorem bJ.prog{α:Type}{m:Q->α×Q}(h: ∀q,bJ 1 q (m q).2)ts y(he:(m (Option.some ts)).2=Option.some y):y.length<ts.length:=(h _).pW he
theorem rr{m}(h: ∀q,bJ 1 q (m q).2)q:bJ 1 q (l4 m q).2:=h q
theorem oY{m}(h: ∀q,bJ 1 q (m q).2)q:bJ 1 q (hK m q).2:=
 (((aN q dc).trans (aN _ dc)).trans (h _)).bH dc
theorem q5(m:Rc bo)(hm: ∀f,m=some f-> ∀q,bJ 1 q (f q).2)c q:bJ 1 q (c1 m c q).2:=by
 unfold c1;simp only;split;rename_i h;cases m with
 |none=>exact bJ.err _ _
 |some f=>exact mO (bJ.w0 (rr (hm f rfl))) h dc
 split;rename_i h;cases m with
 |none=>exact bJ.err _ _
 |some f=>exact mO (bJ.w0 (oY (hm f rfl))) h dc
 split;split;exact bJ.err _ _;exact((aN q dc).trans (aN _ dc)).bH dc;split;exact e6 om;split;exact e6 om;split;exact e6 om;split;exact e6 om;split;exact e6 om;exact bJ.err _ _
theorem fq: ∀n c q,bJ 1 q (ga n c q).2
 |0,c,q=>q5 none (λ f h=>by cases h) c q
 |n+1,c,q=>q5 _ (λ f h=>by injection h with h;subst h;exact fq n c) c q
theorem rj(m:Rc eg)(hm: ∀f,m=some f-> ∀q,bJ 1 q (f q).2)q:bJ 1 q (iv m q).2:=by
 unfold iv;simp only;split;cases m with
 |none=>exact bJ.err _ _
 |some f=>exact((((dL 11 q).trans (hm f rfl _)).trans (aN _ dc)).trans (dL 2 _)).bH dc
 exact((aN q dc).trans (dL 2 _)).bH dc
theorem fM: ∀n q,bJ 1 q (ks n q).2
 |0,q=>rj none (λ f h=>by cases h) q
 |n+1,q=>rj _ (λ f h=>by injection h with h;subst h;exact fM n) q
theorem lB c q:bJ 1 q (gh c q).2:=(((aN q dc).trans (aN _ dc)).trans (fq _ _ _)).bH dc
theorem mF c q:bJ 1 q (ko c q).2:=(((aN q dc).trans (aN _ dc)).trans (dt 5 6 (bJ.w0 (lB c)) _)).bH dc
theorem aw c q:bJ 0 q (a7 c q).2:=iw 10 (bJ.w0 (mF c)) _ _
theorem h8 q:bJ 0 q (bC q).2:=by
 unfold bC;split;exact hc q;exact bJ.refl q
theorem oB q:bJ 0 q (hW q).2:=by
 unfold hW;simp only;split;exact((dL 9 q).trans (fq _ _ _)).bH dc;exact bJ.refl q
theorem o4 q:bJ 1 q (fG q).2:=
 ((((((h8 q).trans (aN _ dc)).trans (aN _ dc)).trans (fM _ _)).trans (oB _)).trans (aw _ _)).bH dc
theorem uM q:bJ 1 q (nV q).2:=
 ((((((h8 q).trans (aN _ dc)).trans (aN _ dc)).trans (fM _ _)).trans (oB _)).trans (aw _ _)).bH dc
theorem gx q:bJ 0 q (gP q).2:=dt 5 6 (bJ.w0 o4) q
theorem rh q:bJ 1 q (jd q).2:=
 ((((((h8 q).trans (aN _ dc)).trans (gx _)).trans (aN _ dc)).trans (fM _ _)).trans (aw _ _)).bH dc
theorem uo q:bJ 1 q (ri q).2:=(((h8 q).trans (aN _ dc)).trans (aw _ _)).bH dc
theorem hB{m}k(h: ∀q,bJ 1 q (m q).2)q:bJ 1 q (fR k m q).2:=
 (((dL k q).trans (h _)).trans (iw k (λ q=>((hc q).trans (h _)).bH dc) _ _)).bH dc
theorem cN q:bJ 0 q (fC q).2:=by
 unfold fC;split;exact((hc q).trans (hB 4 (λ q=>aN q dc) _)).bH dc;exact bJ.refl q
theorem hs q:bJ 0 q (j3 q).2:=by
 unfold j3;simp only;split;exact((dL 9 q).trans (hB 15 (λ q=>aN q dc) _)).bH dc;exact bJ.refl q
theorem ck q:bJ 0 q (m_ q).2:=dt 13 14 (bJ.w0 rh) q
theorem ho q:bJ 0 q (sU q).2:=dt 13 14 (bJ.w0 uM) q
theorem hv q:bJ 0 q (sN q).2:=dt 13 14 (bJ.w0 uo) q
theorem hZ doc q:bJ 1 q (dS doc q).2:=(((e_ _ q).trans (aN _ dc)).trans (aw _ _)).bH dc
theorem gG kw A doc q:bJ 1 q (fc kw A doc q).2:=(((((e_ _ q).trans (aN _ dc)).trans (cN _)).trans (aw _ _)).trans (ck _)).bH dc
theorem iI doc q:bJ 1 q (en doc q).2:=((((e_ _ q).trans (aN _ dc)).trans (aw _ _)).trans (hs _)).bH dc
theorem jS doc q:bJ 1 q (fX doc q).2:=((((e_ _ q).trans (aN _ dc)).trans (aw _ _)).trans (hv _)).bH dc
theorem iF c doc q:bJ 1 q (eu c doc q).2:=((((e_ _ q).trans (aN _ dc)).trans (aw _ _)).trans (ho _)).bH dc
theorem kN doc q:bJ 1 q (gn doc q).2:=by
 unfold gn;split;split;exact hZ _ _;split;exact gG _ _ _ _;split;exact gG _ _ _ _;split;exact iI _ _;split;exact jS _ _;split;exact iF _ _ _;exact bJ.err _ _;exact bJ.err _ _
theorem dN{x}{q}(h:bJ 1 q x.2):bJ 1 q (bP x).2:=by
 unfold bP;split;exact bJ.err _ _;exact h
theorem h9 q:bJ 1 q (hN q).2:=by
 unfold hN;split;exact dN (hZ _ _);split;exact dN (gG _ _ _ _);split;exact dN (gG _ _ _ _);split;exact dN (iI _ _);split;exact dN (jS _ _);split;exact dN (iF _ _ _);exact bJ.err _ _
theorem jP q:bJ 0 q (rG q).2:=by
 unfold rG;split;exact hc q;exact bJ.err _ _
theorem e' q:bJ 1 q (fF q).2:=(((jP q).trans (aN _ dc)).trans (aN _ dc)).bH dc
theorem nJ doc q:bJ 1 q (gU doc q).2:=(((e_ _ q).trans (aw _ _)).trans (dt 13 14 (bJ.w0 e') _)).bH dc
theorem hT q:bJ 1 q (dy q).2:=by
 unfold dy;simp only;split;exact bJ.err _ _;exact nJ _ _
theorem ji q:bJ 1 q (fu q).2:=by
 unfold fu;simp only;split;exact aN q dc;exact bJ.err _ _
theorem kX q:bJ 0 q (iJ q).2:=by
 unfold iJ;split;exact hc q;exact bJ.refl q
theorem tt doc q:bJ 1 q (q6 doc q).2:=by
 unfold q6;simp only;exact((((((((e_ _ q).trans (aN _ dc)).trans (aN _ dc)).trans (gx _)).trans (aw _ _)).trans (kX _)).trans (e_ _ _)).trans (hB 15 ji _)).bH dc
theorem iQ q:bJ 1 q (hI q):=by
 unfold hI;simp only;split;exact bJ.err _ _;exact((((e_ _ q).trans (aN _ dc)).trans (aN _ dc)).trans (aw _ _)).bH dc
theorem h0{α:Type}{c}[Decidable c]{n}{q}{x y:α×Q}(G:bJ n q x.2)(H:bJ n q y.2):bJ n q (if c then x else y).2:=by
 by_cases h:c;rw[if_pos h];exact G;rw[if_neg h];exact H
theorem fP s q:bJ 0 (dM bU q) (lf s q).2:=by
 unfold lf;simp only;generalize dM bU q=k;refine h0 ?_ (h0 ?_ ?_);have h:=hT k;generalize dy k=x at h;exact h.bH dc;exact(iQ k).bH dc;have h:=h9 k;generalize hN k=x at h;exact h.bH dc
theorem mV s q:bJ 1 q (lf s q).2:=((e_ bU q).trans (fP s q)).bH dc
theorem oG s doc q:bJ 1 q (gl s doc q).2:=by
 unfold gl;simp only;refine h0 (bJ.err _ _) (h0 ?_ (h0 ?_ (h0 ?_ (h0 (h0 (bJ.err _ _) (mV s q)) (bJ.err _ _)))));have h:=kN doc q;generalize gn doc q=x at h;exact h;have h:=nJ doc q;generalize gU doc q=x at h;exact h;have h:=tt doc q;generalize q6 doc q=x at h;exact h
theorem h7 s q:bJ 1 q (bX s q).2:=((h8 q).trans (oG s _ _)).bH dc
structure SB where
 A:Option Addr
 n:Nat
 c:Nat
 xs:List Value
abbrev J2(T E p v a:Nat)(be:SB):List Chunk:=[.av v T [vl be.A be.n be.c],own E 1 (vl be.A be.n be.c) be.n be.xs,.av a 185 [vp p 0]]
abbrev J3(T E p v a b:Nat)(c:Bool)(be:SB):List Chunk:=[.av v T [vl be.A be.n be.c],own E 1 (vl be.A be.n be.c) be.n be.xs,.av a 185 [vp p 0],.av b 4 [vb c]]
section
variable{α:Type}{D:α->Dt}
def cO(D:α->Dt)(aa:au)(be:SB)(l:List α):Prop:=be.n=l.length/\be.xs.length=l.length/\ ∀(i:Nat)(a:α)(x:Value),l[i]?=some a->be.xs[i]?=some x->ad aa (D a) [x]
theorem cO.nil(D:α->Dt)aa:cO D aa ⟨none,0,0,[]⟩ []:=⟨rfl,rfl,λ i a x h=>by simp at h⟩
theorem cO.mono{aa C}{be}{l}(h:cO D aa be l)(hl:au.le aa C):cO D C be l:=⟨h.1,h.2.1,λ i a x G H=>(h.2.2 i a x G H).mono hl⟩
theorem cO.snoc{aa C}{be}{l}{A}{c}{a}{x}(h:cO D aa be l)(hl:au.le aa C)(V:ad C (D a) [x]):cO D C ⟨A,be.n+1,c,be.xs++[x]⟩ (l++[a]):=by
 refine⟨by simp[h.1],by simp[h.2.1],λ i a' x' G H=>?_⟩;rcases Nat.lt_or_ge i l.length with S|S
 rw[Jf S]at G;rw[Jf (by have:=h.2.1;omega)]at H;exact(h.2.2 i a' x' G H).mono hl;rw[JQ S]at G;rw[JQ (by have:=h.2.1;omega),h.2.1]at H;cases hi:i-l.length with
 |zero=>
  rw[hi]at G H;simp at G H;subst G H;exact V
 |succ j=>rw[hi]at G;simp at G
theorem cO.done{aa C}{be}{l}{E}(h:cO D aa be l)(hf:wb C E be.n be.c be.A be.xs)(hl:au.le aa C):ad C (.sl (l.map D)) [vl be.A be.n be.c]:=by
 refine ad.pC (E:=E) (sz:=1) (aY:=be.xs.map λ x=>[x]) ?_ (by simp[h.1]) (by simp[h.1,h.2.1]) (λ i d cs G H=>?_) (λ cs J=>?_);have:(be.xs.map λ x=>[x]).flatten=be.xs:=by
  induction be.xs with
  |nil=>rfl
  |cons x xs af=>simp[af]
 rw[this];exact hf;rw[List.getElem?_map,Io]at G H;obtain⟨a,S,rfl⟩:=G;obtain⟨x,Y,rfl⟩:=H;exact(h.2.2 i a x S Y).mono hl;obtain⟨x,_,rfl⟩:=List.mem_map.1 J;rfl
end
def PC{α:Type}(f:FuncId)(args:List Value)(s:Nat)(ab:ao)(d p:Nat)(m:Q->α×Q)(D:α->Dt):Prop:=
 ∀(im:au)(q:Q)(r:PR),Lx im s ab->PI s ab d q r->Sp f args [pb p s false r] im (λ v M' C=> ∃(t:PR)(o:Option Addr),M'=[pb p s false t]/\v=vq o/\PI s ab d (m q).2 t/\((m q).2≠none->ad C (D (m q).1) [vq o]))
theorem PI.len{s}{ab}{d}{q}{r}(h:PI s ab d q r)(aJ:ab.size<=17179869184):b8 q<=1099511627777:=by
 cases q with
 |none=>exact Nat.zero_le _
 |some ts=>
  obtain⟨_,raw,hR,rfl,_⟩:=h;have G:(fN raw).length<=raw.length:=List.length_filter_le _ _;have:=hR.2.2.2;show(fN raw).length<=_;omega
def hL(m:Rc bo)(q:Q):bo×Q:=match m with
 |none=>(nW,none)
 |some m=>(.mk 8 e0 (Kids.of (dx 11 12 (l4 m) q).1),(dx 11 12 (l4 m) q).2)
def l8(m:Rc bo)(q:Q):bo×Q:=match m with
 |none=>(nW,none)
 |some m=>(.mk 9 e0 (Kids.of (dx 13 14 (hK m) q).1),(dx 13 14 (hK m) q).2)
section
variable{m:Rc bo}{c:Bool}{q:Q}
theorem AO(h:(cV q).k=11):c1 m c q=hL m q:=by
 unfold c1 hL;simp only;rw[if_pos h];cases m<;>rfl
theorem AZ(h:(cV q).k=13):c1 m c q=l8 m q:=by
 unfold c1 l8;simp only;rw[if_neg om,if_pos h];cases m<;>rfl
theorem zR(h:(cV q).k=3):c1 m c q=if c=true then(nW,none)else(.mk 0 (aA 16 (aA 3 q).2).1 .nil,(aA 16 (aA 3 q).2).2):=by
 unfold c1;simp only;rw[if_neg om,if_neg om,if_pos h]
theorem An(h:(cV q).k=17):c1 m c q=(.mk 1 (cV q).v .nil,dR q):=by
 unfold c1;simp only;rw[if_neg om,if_neg om,if_neg om,if_pos h]
theorem BC(h:(cV q).k=18):c1 m c q=(.mk 2 (cV q).v .nil,dR q):=by
 unfold c1;simp only;rw[if_neg om,if_neg om,if_neg om,if_neg om,if_pos h]
theorem BF(h:(cV q).k=19):c1 m c q=(.mk 3 (cV q).v .nil,dR q):=by
 unfold c1;simp only;rw[if_neg om,if_neg om,if_neg om,if_neg om,if_neg om,if_pos h]
theorem A8(h:(cV q).k=20):c1 m c q=(.mk 4 (cV q).v .nil,dR q):=by
 unfold c1;simp only;rw[if_neg om,if_neg om,if_neg om,if_neg om,if_neg om,if_neg om,if_pos h]
theorem AN(h:(cV q).k=16):c1 m c q=(.mk (fl (cV q).v) (cV q).v .nil,dR q):=by
 unfold c1;simp only;rw[if_neg om,if_neg om,if_neg om,if_neg om,if_neg om,if_neg om,if_neg om,if_pos h]
theorem yP{s}{k}{n:Nat}{x}{so}(B:fI s q k x so)(K:q≠none)(U:k=(n:Int)):(cV q).k=n:=by have:=(B K).1;omega
theorem Am{s}{ab}{d p}{k}{n:Nat}{b}{so o}{x}{v}{M'}{t}{C}(a: ∀q,bJ 1 q (c1 m c q).2)(B:fI s q k b so)(U:k=(n:Int))(he:(cV q).k=n->c1 m c q=x)(L:q=none->x.2=none)
 (z:M'=[pb p s false t]) (hv:v=vq o) (H:PI s ab d x.2 t) (V:x.2≠none->ad C (.ptr (dV x.1)) [vq o]): ∃t o,M'=[pb p s false t]/\v=vq o/\PI s ab d (c1 m c q).2 t/\((c1 m c q).2≠none->ad C (.ptr (dV (c1 m c q).1)) [vq o]):=by
 refine⟨t,o,z,hv,?_⟩;by_cases K:q=none;have S:(c1 m c q).2=none:=by have:=a q;rw[K]at this⊢;exact this.bN
 rw[S];rw[L K]at H;exact⟨H,λ O=>absurd rfl O⟩;rw[he (yP B K U)];exact⟨H,V⟩
theorem AA{s}{k}{n:Nat}{b}{so}(a: ∀q,bJ 1 q (c1 m c q).2)(B:fI s q k b so)(U:k=(n:Int))(he:(cV q).k=n->c1 m c q=(nW,none)):(c1 m c q).2=none:=by
 by_cases K:q=none;have:=a q;rw[K]at this⊢;exact this.bN;rw[he (yP B K U)]
theorem p_{s}{k}{n A:Nat}{b}{so}(a: ∀q,bJ 1 q (c1 m c q).2)(B:fI s q k b so)(U:k=(n:Int))(_:2<=n)(he:(cV q).k=n->c1 m c q=(.mk A (cV q).v .nil,dR q)):
 (q≠none->(c1 m c q).1=.mk A (cV q).v .nil)/\(c1 m c q).2=dR q:=by
 by_cases K:q=none;refine⟨λ h=>absurd K h,?_⟩;have:=a q;rw[K]at this⊢;exact this.bN;rw[he (yP B K U)];exact⟨λ _=>rfl,rfl⟩
theorem yG{s}{k}{b}{so}(a: ∀q,bJ 1 q (c1 m c q).2)(B:fI s q k b so)(U:k=16)A(al:fl b=A):
 (q≠none->(c1 m c q).1=.mk A (cV q).v .nil)/\(c1 m c q).2=dR q:=by
 by_cases K:q=none;refine⟨λ h=>absurd K h,?_⟩;have:=a q;rw[K]at this⊢;exact this.bN;have H:=(B K).2.1;rw[AN (yP B K U),<-H,al];exact⟨λ _=>rfl,rfl⟩
theorem zu{s}{k}{b}{so}(a: ∀q,bJ 1 q (c1 m c q).2)(B:fI s q k b so)(n11:k≠11)(n13:k≠13)(n3:k≠3)(C:k≠17)(c6:k≠18)(n:k≠19)(E:k≠20)(y:k≠16):(c1 m c q).2=none:=by
 by_cases K:q=none;have:=a q;rw[K]at this⊢;exact this.bN;have G:=(B K).1;unfold c1;simp only;rw[if_neg om,if_neg om,if_neg om,if_neg om,if_neg om,if_neg om,if_neg om,if_neg om]
end
theorem Em aa p s ab d q r(L:Lx aa s ab)(h:PI s ab d q r):
 Sp 201 [vp p 0] [pb p s false r] aa (λ v M' _=> ∃(t:PR)(x:ao),M'=[pb p s false t]/\v=vs x/\PI s ab d (aA 16 (aA 3 q).2).2 t/\((aA 16 (aA 3 q).2).2≠none->x=(aA 16 (aA 3 q).2).1)):=by
 refine aW Tryz.func201 λ F=>(dI 7 [1,1] [0,3])<|(cz [0] (ll _ p s ab d q _ 3 L h dc)) λ|_,_,ak,w,⟨r1,k1,x1,q1,q2,q3,Z,so,o,rfl,rfl,G,e⟩=>(dI 4 [2,1] [5])<|(eh [0] (fZ _ p s ab d _ _ (L.mono w) G)) λ aB R V a' ⟨H,ag⟩=>(dI 2 [3] [2])<|G' (vs a') [pb p s false V] [] ⟨V,a',rfl,rfl,H,ag⟩
theorem DQ s ab d p c m(hm: ∀q,bJ 1 q (m q).2)(J:PC 183 [vp p 0,vb c] s ab d p (m) (λ v=>.ptr (dV v))):PC 220 [vp p 0,vb c] s ab d p (hK m) (λ k=>.ptr (.st [tS k.1,.ptr (dV k.2),.any,.any])):=by
 intro o q r L h;refine aW Tryz.func220 λ F=>(ra 13 [0] [2,1] [0,1,5,7]) λ b1=>(eh [1] (km _ p s ab d q _ L h)) λ ak w r1 o1 ⟨G,j,aj⟩=>(cI 15 [1,0,1] [4,1] [15])<|(eh [0] (fZ _ p s ab d _ _ (L.mono w) G)) λ aB R V a' ⟨H,ag⟩=>(cI 6 [1] [5,1] [18])<|(cz [0] (ll _ p s ab d _ _ 8 (L.mono lq) H dc)) λ|_,_,j3,aK,⟨r3,k3,x3,q1,q2,q3,Z,so,I,rfl,rfl,S,aq⟩=>(gp 5 [6,2] [20,21])<|(eh [0] (J _ _ _ (L.mono lq) S)) λ j4 aR r4 l ⟨Y,N⟩=>(h5 7 [1] [8] [4])<|(fb 1 (b1 0) 296 [vs a',vq l,vq o1,vq r1.cm]) λ bc aV g=>G' (vp (b1 0) 0) [pb p s false r4] [] ⟨r4,sa (b1 0) 0,rfl,rfl,Y,λ O=>by
  have U:=((hm _)).ne O;have f:=(aN _ dc).ne U;rw[ag f]at g;exact ad.box g (.vu _ (.on ((N O).mono aV) (.an rfl (.an rfl .dU))))⟩
theorem Fk s ab d p c v a b m(J:PC 183 [vp p 0,vb c] s ab d p (m) (λ v=>.ptr (dV v)))
 o q1 r be P (L:Lx o s ab) (h:PI s ab d q1 r) (hA:cO (λ k=>.ptr (.st [tS k.1,.ptr (dV k.2),.any,.any])) o be P) (O:P.length<=4398046511104):
 Sp 218 [vp v 0,vp a 0,vp b 0] (pb p s false r::(J3 290 295 p v a b c) be) o (λ _ M' C=> ∃t ah,M'=pb p s false t::(J3 290 295 p v a b c) ah/\PI s ab d (l4 m q1).2 t/\((l4 m q1).2≠none->cO (λ k=>.ptr (.st [tS k.1,.ptr (dV k.2),.any,.any])) C ah (P++[(l4 m q1).1]))):=by
 refine aW Tryz.func218 λ F=>(qz)<|(kz [0,3] [1,3,4] [0,3,4,5])<|(bj [0] (J _ _ _ L h)) λ|_,_,ak,w,⟨r1,o1,rfl,rfl,G,aC⟩=>(aG [0,1])<|(cu [4,1] [] [7])<|(ja 0 [0,2] [8]) λ b1=>(ja 0 [0,3] [9]) λ b2=>(eF)<|(nR oV be.n 1 be.xs [vp (b1 0) 0] [4,0] (hb:=(by have:=hA.1;omega))) λ E c2=>(aG [])<|(uz 3 [] []) λ _=>(bL)<|(fb 1 (b1 0) 296 [vs ⟨#[]⟩,vq o1,.pointer none,.pointer none]) λ aB R W=>(oz [1,1,0,0,0])<|H7 [pb p s false r1,.av v 290 [vl E (be.n+1) c2],own 295 1 (vl E (be.n+1) c2) (be.n+1) (be.xs++[vp (b1 0) 0]),.av a 185 [vp p 0],.av b 4 [vb c]] [] ⟨r1,⟨E,be.n+1,c2,be.xs++[vp (b1 0) 0]⟩,rfl,G,λ u=>hA.snoc lq (ad.box W (.vu _ (.on ((aC u).mono R) (.an rfl (.an rfl .dU)))))⟩
theorem Fz s ab d p c v a b m(J:PC 220 [vp p 0,vb c] s ab d p (hK m) (λ k=>.ptr (.st [tS k.1,.ptr (dV k.2),.any,.any])))
 o q1 r be P (L:Lx o s ab) (h:PI s ab d q1 r) (hA:cO (λ k=>.ptr (.st [tS k.1,.ptr (dV k.2),.any,.any])) o be P) (O:P.length<=4398046511104):
 Sp 219 [vp v 0,vp a 0,vp b 0] (pb p s false r::(J3 290 295 p v a b c) be) o (λ _ M' C=> ∃t ah,M'=pb p s false t::(J3 290 295 p v a b c) ah/\PI s ab d (hK m q1).2 t/\((hK m q1).2≠none->cO (λ k=>.ptr (.st [tS k.1,.ptr (dV k.2),.any,.any])) C ah (P++[(hK m q1).1]))):=by
 refine aW Tryz.func219 λ F=>(qz)<|(kz [0,3] [1,3,4] [0,3,4,5])<|(bj [0] (J _ _ _ L h)) λ|_,_,ak,w,⟨r1,o1,rfl,rfl,G,aC⟩=>(aG [0,1])<|(ja 0 [0,2] [7]) λ b1=>(eF)<|(nR oV be.n 1 be.xs [vq o1] [3,0] (hb:=(by have:=hA.1;omega))) λ E c2=>(aG [])<|(uz 2 [] []) λ _=>(bL)<|(oz [1,1,0,0,0])<|H7 [pb p s false r1,.av v 290 [vl E (be.n+1) c2],own 295 1 (vl E (be.n+1) c2) (be.n+1) (be.xs++[vq o1]),.av a 185 [vp p 0],.av b 4 [vb c]] [] ⟨r1,⟨E,be.n+1,c2,be.xs++[vq o1]⟩,rfl,G,λ u=>hA.snoc w (aC u)⟩
theorem CT s ab d p c(hd:1000<=d):PC 199 [vp p 0,vb c] s ab d p (λ _=>(nW,none)) (λ v=>.ptr (dV v)):=by
 intro o q r L h;refine aW Tryz.func199 λ F=>(ra 10 [1] [1,0,1] [2,3,8]) λ b1=>(cT [2] (wV _ p s ab d q _ L h hd)) λ ak w r1 G=>(dI 7 [1,1,0,1] [4])<|G' (.pointer none) [pb p s false r1] [1,1] ⟨r1,none,rfl,rfl,G,λ O=>absurd rfl O⟩
theorem Dc s ab d p c m(hm: ∀q,bJ 1 q (m q).2)(hd:d<1000)(J:PC 183 [vp p 0,vb c] s ab (d+1) p (m) (λ v=>.ptr (dV v))):PC 199 [vp p 0,vb c] s ab d p (λ q=>(bo.mk 8 e0 (Kids.of (dx 11 12 (l4 m) q).1),(dx 11 12 (l4 m) q).2)) (λ v=>.ptr (dV v)):=by
 intro o q r L h;refine aW Tryz.func199 λ F=>(ra 10 [1] [1,0,1] [2,3,8]) λ b1=>(cT [2] (x6 _ p s ab d q _ h hd)) λ ak w r1 G=>rZ 7 [2] [2,1] (λ _=>[(2,vp (b1 0) 0),(3,vp (b1 1) 0),(11,vp p 0)]) (λ _=>pb p s false r1::.av (b1 1) 4 [vb c]::.av (b1 0) 185 [vp p 0]::F) λ _=>df (kb p) none [2,2] ?_;refine rn 8 [3] [4,1] (λ b3=>[(2,vp (b1 0) 0),(3,vp (b1 1) 0),(5,vp (b3 0) 0),(12,vp p 0)]) (λ b3=>.av (b3 0) 290 [vz]::pb p s false r1::.av (b1 1) 4 [vb c]::.av (b1 0) 185 [vp p 0]::F) λ b3=>cl 77 [vp p 0] (some 13) [4,2] [1] (km _ p s ab (d+1) q _ (L.mono w) G) rfl ?_;rintro _ _ aB R ⟨V,z,rfl,rfl,H,Z,T⟩;refine zg<|(h5 14 [3,0,3] [6,2] [5,6,7,18,19])<|nz 295 1 ?_;have aC:=L.mono (w.trans R);have al:=H.len aC.sz;refine(BQ [1,1,0,1,0] (B5 _ p s ab (d+1) q V 11 12 (l4 m) (J3 290 295 p (b3 0) (b1 0) (b1 1) c) (cO (λ k=>.ptr (.st [tS k.1,.ptr (dV k.2),.any,.any]))) 218 #[vp (b3 0) 0,vp (b1 0) 0,vp (b1 1) 0] ⟨none,0,0,[]⟩ [] aC H dc (by intros;kernel_rfl) (λ _ _ _ _ hl h=>h.mono hl) (λ _=>cO.nil _ _) (bJ.prog (rr hm)) (λ o q1 r be P L _ _ h hA O=>Fk s ab (d+1) p c (b3 0) (b1 0) (b1 1) m J o q1 r be P L h hA (by have:([]:List (ao×bo)).length=0:=rfl;omega)))) ?_;rintro j3 aK r3 D ⟨S,E⟩;have hg:=S.dd;rw[hg]at S⊢;refine rZ 10 [1] [8] (λ b5=>[(4,vp (b5 0) 0)]) (λ b5=>.av (b5 0) 294 [vs ⟨#[]⟩,vl D.A D.n D.c,vi 8,vq z,vq V.cm,.pointer none,.pointer none,.pointer none,vb false]::pb p s false {r3 with d:=((d+1:Nat):Int)}::.av (b3 0) 290 [vl D.A D.n D.c]::own 295 1 (vl D.A D.n D.c) D.n D.xs::.av (b1 0) 185 [vp p 0]::.av (b1 1) 4 [vb c]::F) λ b5=>bf.ee 3 rfl λ j4 aR bx=>bz 0 rfl λ bc aV g=>DO Tryz.func199 0 0 (vp (b5 0) 0) [pb p s false {r3 with d:=((d+1:Nat):Int)-1}] [1,1,1] rfl rfl dm rfl rfl lq ⟨{r3 with d:=((d+1:Nat):Int)-1},sa (b5 0) 0,rfl,rfl,⟨dm,S.2⟩,λ O=>ad.box g (.vu _ (.on (by rw[fr,Kids.pS];have h9:=E O;rw[Hj]at h9;exact(h9.done bx aR).mono aV) (.vu _ (.an rfl (.an rfl (.an rfl (.an rfl (.an rfl (.an rfl .dU)))))))))⟩
theorem Dy s ab d p c(hd:1000<=d):PC 200 [vp p 0,vb c] s ab d p (λ _=>(nW,none)) (λ v=>.ptr (dV v)):=by
 intro o q r L h;refine aW Tryz.func200 λ F=>(ra 10 [1] [1,0,1] [2,3,8]) λ b1=>(cT [2] (wV _ p s ab d q _ L h hd)) λ ak w r1 G=>(dI 7 [1,1,0,1] [4])<|G' (.pointer none) [pb p s false r1] [1,1] ⟨r1,none,rfl,rfl,G,λ O=>absurd rfl O⟩
theorem Dr s ab d p c m(hm: ∀q,bJ 1 q (m q).2)(hd:d<1000)(J:PC 183 [vp p 0,vb c] s ab (d+1) p (m) (λ v=>.ptr (dV v))):PC 200 [vp p 0,vb c] s ab d p (λ q=>(bo.mk 9 e0 (Kids.of (dx 13 14 (hK m) q).1),(dx 13 14 (hK m) q).2)) (λ v=>.ptr (dV v)):=by
 intro o q r L h;refine aW Tryz.func200 λ F=>(ra 10 [1] [1,0,1] [2,3,8]) λ b1=>(cT [2] (x6 _ p s ab d q _ h hd)) λ ak w r1 G=>rZ 7 [2] [2,1] (λ _=>[(2,vp (b1 0) 0),(3,vp (b1 1) 0),(11,vp p 0)]) (λ _=>pb p s false r1::.av (b1 1) 4 [vb c]::.av (b1 0) 185 [vp p 0]::F) λ _=>df (kb p) none [2,2] ?_;refine rn 8 [3] [4,1] (λ b3=>[(2,vp (b1 0) 0),(3,vp (b1 1) 0),(5,vp (b3 0) 0),(12,vp p 0)]) (λ b3=>.av (b3 0) 290 [vz]::pb p s false r1::.av (b1 1) 4 [vb c]::.av (b1 0) 185 [vp p 0]::F) λ b3=>cl 77 [vp p 0] (some 13) [4,2] [1] (km _ p s ab (d+1) q _ (L.mono w) G) rfl ?_;rintro _ _ aB R ⟨V,z,rfl,rfl,H,Z,T⟩;refine zg<|(h5 14 [3,0,3] [6,2] [5,6,7,18,19])<|nz 295 1 ?_;have aC:=L.mono (w.trans R);have al:=H.len aC.sz;refine(BQ [1,1,0,1,0] (B5 _ p s ab (d+1) q V 13 14 (hK m) (J3 290 295 p (b3 0) (b1 0) (b1 1) c) (cO (λ k=>.ptr (.st [tS k.1,.ptr (dV k.2),.any,.any]))) 219 #[vp (b3 0) 0,vp (b1 0) 0,vp (b1 1) 0] ⟨none,0,0,[]⟩ [] aC H dc (by intros;kernel_rfl) (λ _ _ _ _ hl h=>h.mono hl) (λ _=>cO.nil _ _) (bJ.prog (oY hm)) (λ o q1 r be P L _ _ h hA O=>Fz s ab (d+1) p c (b3 0) (b1 0) (b1 1) m (DQ s ab (d+1) p c m hm J) o q1 r be P L h hA (by have:([]:List (ao×bo)).length=0:=rfl;omega)))) ?_;rintro j3 aK r3 D ⟨S,E⟩;have hg:=S.dd;rw[hg]at S⊢;refine rZ 10 [1] [8] (λ b5=>[(4,vp (b5 0) 0)]) (λ b5=>.av (b5 0) 294 [vs ⟨#[]⟩,vl D.A D.n D.c,vi 9,vq z,vq V.cm,.pointer none,.pointer none,.pointer none,vb false]::pb p s false {r3 with d:=((d+1:Nat):Int)}::.av (b3 0) 290 [vl D.A D.n D.c]::own 295 1 (vl D.A D.n D.c) D.n D.xs::.av (b1 0) 185 [vp p 0]::.av (b1 1) 4 [vb c]::F) λ b5=>bf.ee 3 rfl λ j4 aR bx=>bz 0 rfl λ bc aV g=>DO Tryz.func200 0 0 (vp (b5 0) 0) [pb p s false {r3 with d:=((d+1:Nat):Int)-1}] [1,1,1] rfl rfl dm rfl rfl lq ⟨{r3 with d:=((d+1:Nat):Int)-1},sa (b5 0) 0,rfl,rfl,⟨dm,S.2⟩,λ O=>ad.box g (.vu _ (.on (by rw[fr,Kids.pS];have h9:=E O;rw[Hj]at h9;exact(h9.done bx aR).mono aV) (.vu _ (.an rfl (.an rfl (.an rfl (.an rfl (.an rfl (.an rfl .dU)))))))))⟩
theorem Af s ab d p c m (a : ∀ q, bJ 1 q (c1 m c q).2) (aO : ∀ {q : Q}, q = none → (hL m q).2 = none) (ai : ∀ {q : Q}, q = none → (l8 m q).2 = none)
    (S : PC 199 [vp p 0, vb c] s ab d p (hL m) (fun v => .ptr (dV v))) (P : PC 200 [vp p 0, vb c] s ab d p (l8 m) (fun v => .ptr (dV v))) : PC 183 [vp p 0, vb c] s ab d p (c1 m c) (fun v => .ptr (dV v)) := by
  intro o q r L h
  refine aW Tryz.func183 fun F => ?_
  refine (ra 7 [] [1,1] [0,1,8]) ?_; intro _
  refine (cz [0] (lK _ p s ab d q _ L h)) ?_
  rintro _ _ ak w ⟨r1, k1, x1, ar, aD, W, ah, ax, rfl, rfl, G, e, j, aj⟩
  have f := L.mono w
  refine (jb 19 [0,0] [3,1,0,1] [5,11,14]) ?_; intro b2
  refine (iz 14 (k1 == 11)) (fun t => ?_) (fun t => ?_)
  ·
    have U : k1 = 11 := by simpa using t
    refine (cq 5 0 [0,0,2] [16,17]) ?_
    refine (cz [1] (S _ q _ f G)) ?_
    rintro _ _ aB R ⟨V, z, rfl, rfl, H, aR⟩
    refine (cq 2 2 [1] [4]) ?_
    refine G' (vq z) [pb p s false V] [1] ?_
    exact Am (m := m) (c := c) (x := hL m q) a e U (fun K => AO K) aO rfl rfl H aR
  ·
    have n11 : k1 ≠ 11 := by simpa using t
    refine (aM 6 0 [1,1] [19]) ?_
    refine (iz 19 (k1 == 13)) (fun bp => ?_) (fun bp => ?_)
    ·
      have U : k1 = 13 := by simpa using bp
      refine (cq 5 0 [0,0,2] [21,22]) ?_
      refine (cz [1] (P _ q _ f G)) ?_
      rintro _ _ aB R ⟨V, z, rfl, rfl, H, aR⟩
      refine (cq 2 2 [1] [4]) ?_
      refine G' (vq z) [pb p s false V] [1] ?_
      exact Am (m := m) (c := c) (x := l8 m q) a e U (fun K => AZ K) ai rfl rfl H aR
    ·
      have n13 : k1 ≠ 13 := by simpa using bp
      refine (aM 6 0 [1,1] [24]) ?_
      refine (iz 24 (k1 == 3)) (fun D => ?_) (fun D => ?_)
      ·
        have U : k1 = 3 := by simpa using D
        refine (aM 6 0 [0,0,1] [26]) ?_
        refine (iz 26 c) (fun J => ?_) (fun J => ?_)
        ·
          refine (cq 4 0 [0,0,1] [27]) ?_
          refine (cz [1] (sD _ p s ab d q _ f G)) ?_
          rintro _ _ aB R ⟨V, rfl, rfl, H⟩
          refine (cq 5 2 [2] [4]) ?_
          have hv : (c1 m c q).2 = none := AA a e U fun K => by rw [zR K, if_pos J]
          refine G' (.pointer none) [pb p s false V] [1] ?_
          exact ⟨V, none, rfl, rfl, by rw [hv]; exact H, fun O => absurd hv O⟩
        ·
          refine (aM 5 2 [1,1] [29]) ?_
          refine (cz [1] (Em _ p s ab d q _ f G)) ?_
          rintro _ _ aB R ⟨V, a', rfl, rfl, H, ag⟩
          refine (fj 14 [0] 2 [3] [4]) ?_; intro bQ
          refine (fb 0 (bQ 0) 294 [vs a', vz, vi 0, vp (b2 0) 2, vq V.cm, .pointer none, .pointer none, .pointer none, vb false]) ?_; intro j3 aK aE
          refine G' (vp (bQ 0) 0) [pb p s false V] [1] ?_
          exact Am (m := m) (c := c) (x := (.mk 0 (aA 16 (aA 3 q).2).1 .nil, (aA 16 (aA 3 q).2).2)) a e U (fun K => by rw [zR K, if_neg (by rw [J]; simp)]) (fun K => by subst K; rfl) rfl rfl H (fun O => by
                rw [ag O] at aE
                exact ad.box aE (.vu _ (.on (.eR _ _) (.vu _ (.an rfl (.an rfl (.an rfl (.an rfl (.an rfl (.an rfl .dU))))))))))
      ·
        have n3 : k1 ≠ 3 := by simpa using D
        refine (aM 6 0 [1,1] [39]) ?_
        refine (iz 39 (k1 == 17)) (fun u => ?_) (fun u => ?_)
        ·
          have U : k1 = 17 := by simpa using u
          obtain ⟨aN, l⟩ := p_ (m := m) (c := c) a e U (by decide) (fun K => An K)
          refine (jb 8 [] [4,1] [6,56]) ?_; intro _
          refine (cz [1] (h4 _ p s ab d q _ G j)) ?_
          rintro _ _ aB R ⟨V, k2, a', aY, aL, aZ, aH, aF, rfl, rfl, H, ag, aq, T⟩
          refine (jb 2 [] [5] []) ?_; intro _
          refine (qz) ?_
          refine (kz [0,9] [0,1] [66]) ?_
          refine (uz 0 [] [67]) ?_; intro bZ
          refine (uz 0 [] [4]) ?_; intro _
          refine (bL) ?_
          refine (fb 0 (bZ 0) 294 [vs x1, vz, vi 1, vp (b2 0) 2, vq V.cm, .pointer none, .pointer none, .pointer none, vb false]) ?_; intro j3 aK aE
          refine G' (vp (bZ 0) 0) [pb p s false V] [1] ?_
          exact ⟨V, sa (bZ 0) 0, rfl, rfl, by rw [l]; exact H, fun O => by
              have K : q ≠ none := fun K => O (by rw [l, K]; rfl)
              rw [(e K).2.1] at aE
              rw [aN K]
              exact ad.box aE (.vu _ (.on (.eR _ _) (.vu _ (.an rfl (.an rfl (.an rfl (.an rfl (.an rfl (.an rfl .dU)))))))))⟩
        ·
          have C : k1 ≠ 17 := by simpa using u
          refine (aM 6 0 [1,1] [41]) ?_
          refine (iz 41 (k1 == 18)) (fun bl => ?_) (fun bl => ?_)
          ·
            have U : k1 = 18 := by simpa using bl
            obtain ⟨aN, l⟩ := p_ (m := m) (c := c) a e U (by decide) (fun K => BC K)
            refine (jb 8 [] [4,1] [6,56]) ?_; intro _
            refine (cz [1] (h4 _ p s ab d q _ G j)) ?_
            rintro _ _ aB R ⟨V, k2, a', aY, aL, aZ, aH, aF, rfl, rfl, H, ag, aq, T⟩
            refine (jb 2 [] [5] []) ?_; intro _
            refine (qz) ?_
            refine (kz [0,9] [0,1] [66]) ?_
            refine (uz 0 [] [67]) ?_; intro bc
            refine (uz 0 [] [4]) ?_; intro _
            refine (bL) ?_
            refine (fb 0 (bc 0) 294 [vs x1, vz, vi 2, vp (b2 0) 2, vq V.cm, .pointer none, .pointer none, .pointer none, vb false]) ?_; intro j3 aK aE
            refine G' (vp (bc 0) 0) [pb p s false V] [1] ?_
            exact ⟨V, sa (bc 0) 0, rfl, rfl, by rw [l]; exact H, fun O => by
                have K : q ≠ none := fun K => O (by rw [l, K]; rfl)
                rw [(e K).2.1] at aE
                rw [aN K]
                exact ad.box aE (.vu _ (.on (.eR _ _) (.vu _ (.an rfl (.an rfl (.an rfl (.an rfl (.an rfl (.an rfl .dU)))))))))⟩
          ·
            have c6 : k1 ≠ 18 := by simpa using bl
            refine (aM 6 0 [1,1] [43]) ?_
            refine (iz 43 (k1 == 19)) (fun i => ?_) (fun i => ?_)
            ·
              have U : k1 = 19 := by simpa using i
              obtain ⟨aN, l⟩ := p_ (m := m) (c := c) a e U (by decide) (fun K => BF K)
              refine (jb 8 [] [4,1] [6,56]) ?_; intro _
              refine (cz [1] (h4 _ p s ab d q _ G j)) ?_
              rintro _ _ aB R ⟨V, k2, a', aY, aL, aZ, aH, aF, rfl, rfl, H, ag, aq, T⟩
              refine (jb 2 [] [5] []) ?_; intro _
              refine (qz) ?_
              refine (kz [0,9] [0,1] [66]) ?_
              refine (uz 0 [] [67]) ?_; intro bb
              refine (uz 0 [] [4]) ?_; intro _
              refine (bL) ?_
              refine (fb 0 (bb 0) 294 [vs x1, vz, vi 3, vp (b2 0) 2, vq V.cm, .pointer none, .pointer none, .pointer none, vb false]) ?_; intro j3 aK aE
              refine G' (vp (bb 0) 0) [pb p s false V] [1] ?_
              exact ⟨V, sa (bb 0) 0, rfl, rfl, by rw [l]; exact H, fun O => by
                  have K : q ≠ none := fun K => O (by rw [l, K]; rfl)
                  rw [(e K).2.1] at aE
                  rw [aN K]
                  exact ad.box aE (.vu _ (.on (.eR _ _) (.vu _ (.an rfl (.an rfl (.an rfl (.an rfl (.an rfl (.an rfl .dU)))))))))⟩
            ·
              have n : k1 ≠ 19 := by simpa using i
              refine (aM 6 0 [1,1] [45]) ?_
              refine (iz 45 (k1 == 20)) (fun k => ?_) (fun k => ?_)
              ·
                have U : k1 = 20 := by simpa using k
                obtain ⟨aN, l⟩ := p_ (m := m) (c := c) a e U (by decide) (fun K => A8 K)
                refine (jb 8 [] [4,1] [6,56]) ?_; intro _
                refine (cz [1] (h4 _ p s ab d q _ G j)) ?_
                rintro _ _ aB R ⟨V, k2, a', aY, aL, aZ, aH, aF, rfl, rfl, H, ag, aq, T⟩
                refine (jb 2 [] [5] []) ?_; intro _
                refine (qz) ?_
                refine (kz [0,9] [0,1] [66]) ?_
                refine (uz 0 [] [67]) ?_; intro N
                refine (uz 0 [] [4]) ?_; intro _
                refine (bL) ?_
                refine (fb 0 (N 0) 294 [vs x1, vz, vi 4, vp (b2 0) 2, vq V.cm, .pointer none, .pointer none, .pointer none, vb false]) ?_; intro j3 aK aE
                refine G' (vp (N 0) 0) [pb p s false V] [1] ?_
                exact ⟨V, sa (N 0) 0, rfl, rfl, by rw [l]; exact H, fun O => by
                    have K : q ≠ none := fun K => O (by rw [l, K]; rfl)
                    rw [(e K).2.1] at aE
                    rw [aN K]
                    exact ad.box aE (.vu _ (.on (.eR _ _) (.vu _ (.an rfl (.an rfl (.an rfl (.an rfl (.an rfl (.an rfl .dU)))))))))⟩
              ·
                have E : k1 ≠ 20 := by simpa using k
                refine (aM 6 0 [1,1] [47]) ?_
                refine (iz 47 (k1 == 16)) (fun A => ?_) (fun A => ?_)
                ·
                  have U : k1 = 16 := by simpa using A
                  have g := yG (m := m) (c := c) a e U
                  refine (gK 13 [0] 0 [0,1,0,0,1] [50,51]) ?_
                  refine (iz 51 (ay x1 (⟨#[116, 114, 117, 101]⟩))) (fun B => ?_) (fun B => ?_)
                  ·
                    have b : x1 = x0 := aQ B; obtain ⟨aN, l⟩ := g 5 (by unfold fl; rw [if_pos (.inl b)])
                    refine (jb 11 [] [4,1] [6,56]) ?_; intro _
                    refine (cz [1] (h4 _ p s ab d q _ G j)) ?_
                    rintro _ _ aB R ⟨V, k2, a', aY, aL, aZ, aH, aF, rfl, rfl, H, ag, aq, T⟩
                    refine (jb 2 [] [5] []) ?_; intro _
                    refine (qz) ?_
                    refine (kz [0,9] [0,1] [66]) ?_
                    refine (uz 0 [] [67]) ?_; intro I
                    refine (uz 0 [] [4]) ?_; intro _
                    refine (bL) ?_
                    refine (fb 0 (I 0) 294 [vs x1, vz, vi 5, vp (b2 0) 2, vq V.cm, .pointer none, .pointer none, .pointer none, vb false]) ?_; intro j3 aK aE
                    refine G' (vp (I 0) 0) [pb p s false V] [1] ?_
                    exact ⟨V, sa (I 0) 0, rfl, rfl, by rw [l]; exact H, fun O => by
                        have K : q ≠ none := fun K => O (by rw [l, K]; rfl)
                        rw [(e K).2.1] at aE
                        rw [aN K]
                        exact ad.box aE (.vu _ (.on (.eR _ _) (.vu _ (.an rfl (.an rfl (.an rfl (.an rfl (.an rfl (.an rfl .dU)))))))))⟩
                  ·
                    have n1 : x1 ≠ x0 := bh B
                    refine (aM 5 2 [1] []) ?_
                    refine (iz 51 (ay x1 (⟨#[102, 97, 108, 115, 101]⟩))) (fun hf => ?_) (fun hf => ?_)
                    ·
                      have b : x1 = tl := aQ hf; obtain ⟨aN, l⟩ := g 5 (by unfold fl; rw [if_pos (.inr b)])
                      refine (jb 9 [] [4,1] [6,56]) ?_; intro _
                      refine (cz [1] (h4 _ p s ab d q _ G j)) ?_
                      rintro _ _ aB R ⟨V, k2, a', aY, aL, aZ, aH, aF, rfl, rfl, H, ag, aq, T⟩
                      refine (jb 2 [] [5] []) ?_; intro _
                      refine (qz) ?_
                      refine (kz [0,9] [0,1] [66]) ?_
                      refine (uz 0 [] [67]) ?_; intro b1
                      refine (uz 0 [] [4]) ?_; intro _
                      refine (bL) ?_
                      refine (fb 0 (b1 0) 294 [vs x1, vz, vi 5, vp (b2 0) 2, vq V.cm, .pointer none, .pointer none, .pointer none, vb false]) ?_; intro j3 aK aE
                      refine G' (vp (b1 0) 0) [pb p s false V] [1] ?_
                      exact ⟨V, sa (b1 0) 0, rfl, rfl, by rw [l]; exact H, fun O => by
                          have K : q ≠ none := fun K => O (by rw [l, K]; rfl)
                          rw [(e K).2.1] at aE
                          rw [aN K]
                          exact ad.box aE (.vu _ (.on (.eR _ _) (.vu _ (.an rfl (.an rfl (.an rfl (.an rfl (.an rfl (.an rfl .dU)))))))))⟩
                    ·
                      have n2 : x1 ≠ tl := bh hf
                      refine (aM 6 0 [1,1] [54]) ?_
                      refine (iz 54 (ay x1 (⟨#[110, 117, 108, 108]⟩))) (fun hu => ?_) (fun hu => ?_)
                      ·
                        have b : x1 = xm := aQ hu; obtain ⟨aN, l⟩ := g 6 (by unfold fl; rw [if_neg (fun h => h.elim n1 n2), if_pos b])
                        refine (jb 9 [] [4,1] [6,56]) ?_; intro _
                        refine (cz [1] (h4 _ p s ab d q _ G j)) ?_
                        rintro _ _ aB R ⟨V, k2, a', aY, aL, aZ, aH, aF, rfl, rfl, H, ag, aq, T⟩
                        refine (jb 2 [] [5] []) ?_; intro _
                        refine (qz) ?_
                        refine (kz [0,9] [0,1] [66]) ?_
                        refine (uz 0 [] [67]) ?_; intro bR
                        refine (uz 0 [] [4]) ?_; intro _
                        refine (bL) ?_
                        refine (fb 0 (bR 0) 294 [vs x1, vz, vi 6, vp (b2 0) 2, vq V.cm, .pointer none, .pointer none, .pointer none, vb false]) ?_; intro j3 aK aE
                        refine G' (vp (bR 0) 0) [pb p s false V] [1] ?_
                        exact ⟨V, sa (bR 0) 0, rfl, rfl, by rw [l]; exact H, fun O => by
                            have K : q ≠ none := fun K => O (by rw [l, K]; rfl)
                            rw [(e K).2.1] at aE
                            rw [aN K]
                            exact ad.box aE (.vu _ (.on (.eR _ _) (.vu _ (.an rfl (.an rfl (.an rfl (.an rfl (.an rfl (.an rfl .dU)))))))))⟩
                      ·
                        have n4 : x1 ≠ xm := bh hu; obtain ⟨aN, l⟩ := g 7 (by unfold fl; rw [if_neg (fun h => h.elim n1 n2), if_neg n4])
                        refine (jb 9 [] [4,1] [6,56]) ?_; intro _
                        refine (cz [1] (h4 _ p s ab d q _ G j)) ?_
                        rintro _ _ aB R ⟨V, k2, a', aY, aL, aZ, aH, aF, rfl, rfl, H, ag, aq, T⟩
                        refine (jb 2 [] [5] []) ?_; intro _
                        refine (qz) ?_
                        refine (kz [0,9] [0,1] [66]) ?_
                        refine (uz 0 [] [67]) ?_; intro M
                        refine (uz 0 [] [4]) ?_; intro _
                        refine (bL) ?_
                        refine (fb 0 (M 0) 294 [vs x1, vz, vi 7, vp (b2 0) 2, vq V.cm, .pointer none, .pointer none, .pointer none, vb false]) ?_; intro j3 aK aE
                        refine G' (vp (M 0) 0) [pb p s false V] [1] ?_
                        exact ⟨V, sa (M 0) 0, rfl, rfl, by rw [l]; exact H, fun O => by
                            have K : q ≠ none := fun K => O (by rw [l, K]; rfl)
                            rw [(e K).2.1] at aE
                            rw [aN K]
                            exact ad.box aE (.vu _ (.on (.eR _ _) (.vu _ (.an rfl (.an rfl (.an rfl (.an rfl (.an rfl (.an rfl .dU)))))))))⟩
                ·
                  have y : k1 ≠ 16 := by simpa using A
                  refine (cq 4 0 [1,0,1] [12]) ?_
                  refine (cz [1] (sD _ p s ab d q _ f G)) ?_
                  rintro _ _ aB R ⟨V, rfl, rfl, H⟩
                  refine (cq 5 2 [2] [4]) ?_
                  have hv : (c1 m c q).2 = none := zu a e n11 n13 n3 C c6 n E y
                  refine G' (.pointer none) [pb p s false V] [1] ?_
                  exact ⟨V, none, rfl, rfl, by rw [hv]; exact H, fun O => absurd hv O⟩
theorem yx s ab p c : ∀ n d, d + n = 1000 → PC 183 [vp p 0, vb c] s ab d p (ga n c) (fun v => .ptr (dV v))
  | 0, d, hd => Af s ab d p c none (fq 0 c) (fun _ => rfl) (fun _ => rfl) (CT s ab d p c (by omega)) (Dy s ab d p c (by omega))
  | n + 1, d, hd => Af s ab d p c (some (ga n c)) (fq (n + 1) c) (fun K => by subst K; rfl) (fun K => by subst K; rfl)
      (Dc s ab d p c _ (fq n c) (by omega) (yx s ab p c n (d + 1) (by omega))) (Dr s ab d p c _ (fq n c) (by omega) (yx s ab p c n (d + 1) (by omega)))
end Go.Proofs.YtdpmeahgjjmdiaaGreatDoor
