/- Part of the proof that laws.FnSchemaAgain answers true. Conditions: none. -/
import Derived.Test.YtdpmeahgjjmdiaaGreatDoorC13
set_option linter.all false
open Nat renaming add_mul->HJ,le_refl->HZ,lt_or_ge->Hh,lt_succ_iff_lt_or_eq->JN,not_lt_zero->JO
open ByteArray renaming size->H0
open List renaming append_assoc->Js,cons_append->Hi,flatMap_cons->G0,flatten_cons->HQ,getElem?_append_left->Jf,getElem?_append_right->JQ,getElem?_eq_getElem->HH,getElem?_map->HW,getElem_mem->HY,length_append->HT,length_map->HX,length_pos_iff->JT,map_append->JH,map_cons->HF,map_map->Hz,mem_append->HM,mem_cons->G6,mem_cons_of_mem->Hb,mem_map->Hy,mem_of_getElem?->GZ,not_mem_nil->Hm
open Go.Value.slice renaming injEq->JC
namespace Go.Proofs.YtdpmeahgjjmdiaaGreatDoor
open Go
variable[OO]
def zp(o:Option bo):Prop:= ∀v,o=some v->v.pw
def yJ(o:Option bo):Prop:= ∀v,o=some v->v.ft
def iE(l:List cB):Prop:= ∀d∈l,∀x∈d.args,x.v.pw
def aq.pw(a:aq):Prop:=zp a.bV/\iE a.ah
def aq.ft(a:aq):Prop:=jq a.doc/\yJ a.bV/\ ∀d∈a.ah,d.ft
def cK.pw(a:cK):Prop:=(∀x∈a.args,x.pw)/\zp a.bV/\iE a.ah
def cK.ft(a:cK):Prop:=jq a.doc/\(∀x∈a.args,x.ft)/\yJ a.bV/\ ∀d∈a.ah,d.ft
def a_.pw(a:a_):Prop:=iE a.ah
def a_.ft(a:a_):Prop:=jq a.doc/\ ∀d∈a.ah,d.ft
def gC(k:ao):Prop:=k=dg\/k=bM\/k=lE
instance(k:ao):Decidable (gC k):=by unfold gC;infer_instance
def Def.pw(d:Def):Prop:=iE d.ah/\(∀f∈d.fields,f.pw)/\(∀e∈d.enums,e.pw)/\(gC d.kind\/d.fields=[])
def Def.ft(d:Def):Prop:=jq d.doc/\(∀x∈d.ah,x.ft)/\(∀f∈d.fields,f.ft)/\(∀e∈d.enums,e.ft)/\(gC d.kind->d.fields≠[])
def ae.ft(d:ae):Prop:=jq d.doc/\(∀x∈d.ah,x.ft)/\d.roots≠[]
theorem yr{d:Def}(h:gC d.kind\/d.fields=[])(U: ¬gC d.kind): ∀f∈d.fields,f.ft:=λ f hf=>by
 rcases h with h|h
 exact absurd h U;rw[h]at hf;cases hf
theorem qe{d:Def}(h:0<d.fields.length):d.fields≠[]:=λ e=>by rw[e]at h;cases h
theorem xD{d:Def}(G:jq d.doc)(H: ∀x∈d.ah,x.ft)(S:gC d.kind\/d.fields=[])(Y: ∀e∈d.enums,e.ft)(aI: ¬gC d.kind):d.ft:=⟨G,H,yr S aI,Y,λ h=>absurd h aI⟩
theorem xG{d:ae}(h:0<d.roots.length):d.roots≠[]:=λ e=>by rw[e]at h;cases h
theorem kg{aa}{nm s:ao}{nn b}{A}{n c}(h:ad aa (fU (.named nm nn)) [vs s,vl A n c,vb b]):s=nm/\n=0/\b=nn:=by
 simp only[fU,ad.bw,ad.bx]at h;obtain⟨a1,b1,aw,G,a2,b2,az,H,a3,b3,e3,S,hz⟩:=h;obtain rfl:=ad.aB.1 G;obtain rfl:=ad.aB.1 S;obtain⟨A',n',ai,rfl⟩:=ad.aR H;have O:n'=0:=H.len;subst hz e3 az;simp at aw;exact⟨aw.1,by rw[aw.2.1.2.1,O],aw.2.2⟩
theorem lC{aa}{t}{s:ao}{nn b}{A}{n c}(h:ad aa (fU (.list t nn)) [vs s,vl A n c,vb b]):s=⟨#[]⟩/\n=1/\b=nn/\
 ∃(g:Nat)(s2:ao)(E:Option Addr)(n2 c2:Nat)(b2:Bool)(ar:Array Value)(T:TypeId)(fz:Nat×Nat),A=sa g 0/\aa g=some (.cells ar T fz)/\(∀j u,([vs s2,vl E n2 c2,vb b2]:List Value)[j]?=some u->ar[0*3+j]?=some u)/\ad aa (fU t) [vs s2,vl E n2 c2,vb b2]:=by
 simp only[fU,ad.bw,ad.bx]at h;obtain⟨a1,b1,aw,G,a2,b2,az,H,a3,b3,e3,S,hz⟩:=h;obtain rfl:=ad.aB.1 G;obtain rfl:=ad.aB.1 S;obtain⟨A',n',ai,rfl⟩:=ad.aR H;have O:n'=1:=H.len;obtain⟨g,cs,ar,T,fz,k1,k2,k3,k4⟩:=H.at_.2 3 0 (fU t) rfl (λ cs V=>by obtain⟨_,_,_,_,_,rfl⟩:=eG V;rfl);obtain⟨s2,E,n2,c2,b2,rfl⟩:=eG k2;subst hz e3 az;simp at aw;exact⟨aw.1,by rw[aw.2.1.2.1,O],aw.2.2,g,s2,E,n2,c2,b2,ar,T,fz,by rw[aw.2.1.1,k1],k3,k4,k2⟩
theorem xL{aa}{v}{A}{n c}(h:ad aa (vU (some v)) [vl A n c]):
 ∃g E n2 c2 ar T fz,A=sa g 0/\aa g=some (.cells ar T fz)/\(∀j u,([vi v.kind,vs v.raw,vl E n2 c2]:List Value)[j]?=some u->ar[0*3+j]?=some u)/\ad aa (eI v) [vi v.kind,vs v.raw,vl E n2 c2]:=by
 obtain⟨g,cs,ar,T,fz,k1,k2,k3,k4⟩:=(show ad aa (.sl [eI v]) [vl A n c]from h).at_.2 3 0 (eI v) rfl (λ cs V=>by obtain⟨_,_,_,rfl⟩:=jI V;rfl);obtain⟨E,n2,c2,rfl⟩:=jI k2;exact⟨g,E,n2,c2,ar,T,fz,k1,k3,k4,k2⟩
theorem c49: ∀t aa(s:ao)A n c b dp,t.wt<=68719476736->0<=dp->dp<=60->ad aa (fU t) [vs s,vl A n c,vb b]->Sp 49 [.agg #[vs s,vl A n c,vb b],vi dp] [] aa (λ v M' _=> ∃r,v=vb r/\M'=[]):=by
 intro t;induction t with
 |named nm nn=>
  intro aa s A n c b dp hw aT aP K;obtain⟨rfl,rfl,rfl⟩:=kg K;simp[eg.wt]at hw;refine aW Tryz.func49 λ F=>(ra 18 [0,0] [1,1,0,0,2] [10]) λ b1=>(cz (args:=[vs s]) (M:=[]) [] (nT _ _ om)) λ|_,_,ak,P,⟨r1,rfl,rfl⟩=>(cq 2 2 [1] [4])<|G' (vb r1) [] [0] ⟨_,rfl,rfl⟩
 |list t nn af=>
  intro aa s A n c b dp hw aT aP K;obtain⟨rfl,rfl,rfl,g,s2,E,n2,c2,b2,ar,T,fz,rfl,hg,J,aq⟩:=lC K;simp[eg.wt]at hw;refine aW Tryz.func49 λ F=>(cP hg (J))<|(ra 20 [0] [2,3] [1,2,14]) λ b3=>(iz 14 (decide (dp>0))) (λ q2=>?_) (λ q2=>?_);refine(cI 11 [0,0] [2,14] [25])<|(iz 25 (ay ⟨#[]⟩ ⟨#[]⟩)) (λ q3=>?_) (λ q3=>?_);refine(cI 2 [0] [2,16] [27])<|(e5 (.indexAddr 67 (.tmp 27) (.const (vi 0))) [vl (sa g 0) 1 c,vi 0] (v:=(vp g (0*3))) (bG (k:=0) yE dc))<|(cI 3 [1] [2,20] [29,31])<|(sv 31 (show aj (dp-1)=dp-1 from b_ om om))<|(cz [] (af _ _ _ _ _ _ (dp-1) om (by have S:=q2;simp at S;omega) om aq)) λ|_,_,j4,l4,⟨r4,rfl,rfl⟩=>(dI 3 [3] [4])<|G' (vb r4) [] [0,0] ⟨_,rfl,rfl⟩;refine(dI 10 [3] [4])<|H4 false [0,0] ⟨_,rfl,rfl⟩;refine(dI 21 [3] [4])<|H4 false [0,0] ⟨_,rfl,rfl⟩
theorem C5: ∀o aa A n c,gN o<=68719476736->zp o->ad aa (vU o) [vl A n c]->Sp 50 [vl A n c,vi 60] [] aa (λ v M' _=> ∃r,v=vb r/\M'=[]/\(r=true->yJ o)):=by
 intro o aa A n c hw hp K;cases o with
 |none=>
  have O:n=0:=K.len;subst O;refine aW Tryz.func50 λ F=>(dI 23 [2] [4])<|H4 true [] ⟨_,rfl,rfl,λ _ v hv=>by cases hv⟩
 |some v=>
  have O:n=1:=K.len;subst O;obtain⟨g,E,n2,c2,ar,T,fz,rfl,hg,J,aq⟩:=xL K;have a:gN (some v)=1+v.wt:=rfl;refine aW Tryz.func50 λ F=>(cP hg (J))<|(dI 15 [1,9] [1,8,12,13])<|(e5 (.indexAddr 66 (.tmp 13) (.const (vi 0))) [vl (sa g 0) 1 c,vi 0] (v:=(vp g (0*3))) (bG (k:=0) vn dc))<|(cI 2 [0] [1,12] [15,16])<|(cE [] (Gc _ v (HZ _) om _ _ _ _ 60 (hp v rfl) dc dc aq)) λ ak P r1 aC=>(dI 4 [2] [4])<|G' (vb r1) [] [0] ⟨_,rfl,rfl,λ h v' hv=>by cases hv;exact aC h⟩
theorem c51: ∀(l:List ao)aa A n c,aZ H0 l<=68719476736->ad aa (cW l) [vl A n c]->Sp 51 [vl A n c] [] aa (λ v M' _=> ∃r,v=vb r/\M'=[]):=by
 intro l aa A n c hw U;have O:=U.len;rw[HX]at O;have hl:=ax H0 l;refine aW Tryz.func51 λ F=>(dI 14 [1,1,0,0,0] [5,6,7])<|(xY 7 n [5,6] (λ o j9=>True) trivial) λ k bd hle hinv af=>(aM 4 1 [1] [8])<|(eX 8 k n) (λ I=>?_) (λ I=>?_);have z:k<l.length:=by omega
 obtain⟨g2,aQ,T2,a1,rfl,W,p⟩:=jK (U.mono hle) z;have aF:=aU H0 (HY z);refine(cP W (p))<|(aM 6 1 [2,0,0,0] [])<|(xz cY I)<|(gK 6 [0] 2 [1,1] [11])<|(cz (args:=[vs l[k]]) (M:=[]) [] (nT _ _ om)) λ|_,_,ak,P,⟨r1,rfl,rfl⟩=>(aM 2 2 [2] [13])<|(eL 13 r1) (λ q2=>?_) (λ q2=>?_);refine(cq 5 0 [0,1] [2])<|H4 false [0] ⟨_,rfl,rfl⟩;refine(aM 9 3 [0] [])<|(sv 7 (ag I om))<|(dz [0])<|lz (af (k+1) ak lq trivial om);refine(dI 6 [3] [2])<|H4 true [] ⟨_,rfl,rfl⟩
theorem GL: ∀aa(d1 d2 d3:ao)A4 n4 c4 al n5 c5 a8 n6 c6 A7 n7 c7 A8 n8 c8,Sp 23 [.agg #[vs d1,vs d2,vs d3,vl A4 n4 c4,vl al n5 c5,vl a8 n6 c6,vl A7 n7 c7,vl A8 n8 c8]] [] aa (λ v M' _=> ∃r,v=vb r/\M'=[]):=by
 intro aa d1 d2 d3 A4 n4 c4 al n5 c5 a8 n6 c6 A7 n7 c7 A8 n8 c8;refine aW Tryz.func23 λ F=>(ra 29 [0,0,0,0,0] [2] [2]) λ b1=>G' (vb ((aj ((aj ((aj ((aj ((n4:Int)+(n5:Int)))+(n6:Int)))+(n7:Int)))+(n8:Int)))==0)) [] [0] ⟨_,rfl,rfl⟩
theorem c20: ∀l aa A n c,aZ aq.wt l<=68719476736->(∀a∈l,a.pw)->ad aa (.sl (l.map cx)) [vl A n c]->Sp 20 [vl A n c,vi 60] [] aa (λ v M' _=> ∃r,v=vb r/\M'=[]/\(r=true-> ∀a∈l,aq.ft a)):=by
 intro l aa A n c hw hp U;have O:=U.len;rw[HX]at O;have hl:=ax aq.wt l;refine aW Tryz.func20 λ F=>(dI 14 [1,1,0,0,0] [1,7,8,9])<|(xY 9 n [1,7,8] (λ o j9=> ∀y(h:y<l.length),y<o->aq.ft l[y]) (λ y _ h=>absurd h (JO y))) λ k bd hle hinv af=>(aM 4 1 [1] [10])<|(eX 10 k n) (λ I=>?_) (λ aO=>?_);have z:k<l.length:=by omega
 obtain⟨g2,aE,aQ,T2,a1,rfl,ab,W,p⟩:=((U.mono hle)).elem 7 z (λ cs h=>by obtain⟨s3,Q,n3,c3,b3,A4,n4,c4,al,n5,c5,rfl,u,j,B⟩:=cH h;rfl);obtain⟨s3,Q,n3,c3,b3,A4,n4,c4,al,n5,c5,rfl,u,j,B⟩:=cH ab;have aF:=aU aq.wt (HY z);simp[aq.wt]at aF;refine(cP W (p))<|(aM 6 1 [2,0,0,0] [])<|(xz sZ I) ?_;have m:=hp _ (HY z);refine(ya 8 [0,0,0] 2 [1,2] [6,14]) λ b4=>(cz (args:=[vs l[k].doc]) (M:=[]) [] (BN _ _ om)) λ|_,_,ak,P,⟨r1,rfl,rfl,aC⟩=>(aM 2 1 [5] [17])<|(eL 17 r1) (λ q2=>?_) (λ q2=>?_);refine(cq 32 2 [2,0,1] [4])<|H4 false [0,0] xF;refine(gK 2 [0] 1 [7] [19])<|(cz (args:=[vs l[k].name]) (M:=[]) [] (nT _ _ om)) λ|_,_,j3,l3,⟨r3,rfl,rfl⟩=>(aM 3 1 [11] [23])<|(eL 23 r3) (λ Z=>?_) (λ Z=>?_);refine(cq 26 2 [2,0,1] [4])<|H4 false [0,0] xF;refine(gK 3 [0] 1 [14] [25,26])<|(cz [] (c49 _ _ _ _ _ _ _ 60 om dc dc (u.mono lq))) λ|_,_,bc,a7,⟨r5,rfl,rfl⟩=>(aM 3 1 [18] [30])<|(eL 30 r5) (λ ae=>?_) (λ ae=>?_);refine(cq 19 2 [2,0,1] [4])<|H4 false [0,0] xF;refine(gK 3 [0] 1 [21] [32,33])<|(cE [] (C5 _ _ _ _ _ om m.1 (j.mono lq))) λ j7 l7 r7 t=>(aM 3 1 [25] [37])<|(eL 37 r7) (λ H=>?_) (λ H=>?_);refine(cq 12 2 [2,0,1] [4])<|H4 false [0,0] xF;refine(gK 3 [0] 1 [28] [39,40])<|(cE [] (BY _ _ _ _ _ 60 dc dc om m.2 (B.mono lq))) λ j9 l9 r9 az=>(aM 3 2 [2] [43])<|(eL 43 r9) (λ C=>?_) (λ C=>?_);refine(cq 5 0 [0,1] [4])<|H4 false [0,0] xF;refine(aM 9 3 [0] [])<|(sv 9 (ag I om))<|(dz [1,0])<|lz (af (k+1) j9 lq (λ y hy I=>(JN.1 I).elim (hinv y hy) λ e=>by subst e;exact⟨aC (by assumption),t (by assumption),az (by assumption)⟩) om);refine(dI 6 [3] [4])<|H4 true [] ⟨true,rfl,rfl,λ _=>fV λ y hy=>hinv y hy om⟩
theorem c53: ∀l aa A n c io,aZ cK.wt l<=68719476736->(∀a∈l,a.pw)->ad aa (.sl (l.map i_)) [vl A n c]->Sp 53 [vl A n c,vb io,vi 60] [] aa (λ v M' _=> ∃r,v=vb r/\M'=[]/\(r=true-> ∀a∈l,cK.ft a)):=by
 intro l aa A n c io hw hp U;have O:=U.len;rw[HX]at O;have hl:=ax cK.wt l;refine aW Tryz.func53 λ F=>(dI 14 [1,1,0,0,0] [1,2,9,10,11])<|(xY 11 n [1,2,9,10] (λ o j9=> ∀y(h:y<l.length),y<o->cK.ft l[y]) (λ y _ h=>absurd h (JO y))) λ k bd hle hinv af=>(cq 4 1 [1] [1,2,9,10,11,12])<|(eX 12 k n) (λ I=>?_) (λ aO=>?_);have z:k<l.length:=by omega
 obtain⟨g2,aE,aQ,T2,a1,rfl,ab,W,p⟩:=((U.mono hle)).elem 8 z (λ cs h=>by obtain⟨Q,n3,c3,A4,n4,c4,s5,al,n5,c5,b5,a8,n6,c6,rfl,u,j,B,aX⟩:=dT h;rfl);obtain⟨Q,n3,c3,A4,n4,c4,s5,al,n5,c5,b5,a8,n6,c6,rfl,u,j,B,aX⟩:=dT ab;have aF:=aU cK.wt (HY z);simp[cK.wt]at aF;refine(cP W (p))<|(cq 6 1 [2,0,0,0] [1,2,9,10,11])<|(xz qC I) ?_;have m:=hp _ (HY z);refine(fj 9 [0,0,0] 2 [1,0,2] [1,2,8,9,10,11,16]) λ b4=>(cz (args:=[vs l[k].doc]) (M:=[]) [] (BN _ _ om)) λ|_,_,ak,P,⟨r1,rfl,rfl,aC⟩=>(cq 2 1 [5] [1,2,8,9,10,11,19])<|(eL 19 r1) (λ q2=>?_) (λ q2=>?_);refine(cq 25 2 [1,0,1] [6])<|H4 false [0,0] xF;refine(rv 2 [0] 1 [7] [1,2,8,9,10,11,19,21])<|(cz (args:=[vs l[k].name]) (M:=[]) [] (nT _ _ om)) λ|_,_,j3,l3,⟨r3,rfl,rfl⟩=>(cq 3 1 [11] [1,2,8,9,10,11,25])<|(eL 25 r3) (λ Z=>?_) (λ Z=>?_);refine(cq 19 2 [1,0,1] [6])<|H4 false [0,0] xF;refine(rv 3 [0] 1 [14] [1,2,8,9,10,11,25,27,28])<|(cz [] (c49 _ _ _ _ _ _ _ 60 om dc dc (B.mono lq))) λ|_,_,bc,a7,⟨r5,rfl,rfl⟩=>(cq 3 1 [18] [1,2,8,9,10,11,32])<|(eL 32 r5) (λ ae=>?_) (λ ae=>?_);refine(cq 12 2 [1,0,1] [6])<|H4 false [0,0] xF;refine(rv 3 [0] 1 [21] [1,2,8,9,10,11,32,34,35])<|(cE [] (BY _ _ _ _ _ 60 dc dc om m.2.2 (aX.mono lq))) λ j7 l7 r7 t=>(cq 3 2 [1] [1,2,8,9,10,11,38])<|(eL 38 r7) (λ H=>?_) (λ H=>?_);refine(cq 5 0 [0,1] [6])<|H4 false [0,0] xF;refine(cq 6 2 [2,2] [1,2,8,9,10,11,40])<|(iz 40 io) (λ q9=>?_) (λ q9=>?_);refine(rv 6 [0] 1 [8] [1,2,8,9,10,11,46])<|(iz 46 (decide ((n3:Int)>0))) (λ C=>?_) (λ C=>?_);refine(cq 29 2 [3,0,1] [6])<|H4 false [0,0] xF;refine(cq 3 1 [11] [1,2,8,9,10,11,46,49])<|(eL 49 io) (λ ar=>?_) (λ ar=>?_);refine(rv 7 [0] 1 [18] [1,2,8,9,10,11,56])<|(iz 56 (decide ((n4:Int)>0))) (λ aY=>?_) (λ aY=>?_);refine(cq 19 2 [3,0,1] [6])<|H4 false [0,0] xF;refine(rv 3 [0] 1 [21] [1,2,8,9,10,11,56,58,59])<|(cE [] (c20 _ _ _ _ _ om m.1 (u.mono lq))) λ bC l8 aB G=>(cq 3 1 [25] [1,2,8,9,10,11,63])<|(eL 63 aB) (λ bA=>?_) (λ bA=>?_);refine(cq 12 2 [3,0,1] [6])<|H4 false [0,0] xF;refine(rv 3 [0] 1 [28] [1,2,9,10,11,63,65,66])<|(cE [] (C5 _ _ _ _ _ om m.2.1 (j.mono lq))) λ bo bk a6 aT=>(cq 3 2 [3] [1,2,9,10,11,69])<|(eL 69 a6) (λ aJ=>?_) (λ aJ=>?_);refine(cq 5 0 [0,1] [6])<|H4 false [0,0] xF;refine(cq 9 3 [0] [1,2,9,10,11])<|(sv 11 (ag I om))<|(dz [1,0])<|lz (af (k+1) bo lq (λ y hy I=>(JN.1 I).elim (hinv y hy) λ e=>by subst e;have b:=q9;(try simp at b);have s:=C;(try simp at s);have w:=aY;(try simp at w);exact⟨aC (by assumption),G (by assumption),aT (by assumption),t (by assumption)⟩) om)
 refine(rv 10 [0] 1 [21] [1,2,8,9,10,11,56,58,59])<|(cE [] (c20 _ _ _ _ _ om m.1 (u.mono lq))) λ bF bw bb q=>(cq 3 1 [25] [1,2,8,9,10,11,63])<|(eL 63 bb) (λ T=>?_) (λ T=>?_);refine(cq 12 2 [3,0,1] [6])<|H4 false [0,0] xF;refine(rv 3 [0] 1 [28] [1,2,9,10,11,63,65,66])<|(cE [] (C5 _ _ _ _ _ om m.2.1 (j.mono lq))) λ bZ br bM d=>(cq 3 2 [3] [1,2,9,10,11,69])<|(eL 69 bM) (λ an=>?_) (λ an=>?_);refine(cq 5 0 [0,1] [6])<|H4 false [0,0] xF;refine(cq 9 3 [0] [1,2,9,10,11])<|(sv 11 (ag I om))<|(dz [1,0])<|lz (af (k+1) bZ lq (λ y hy I=>(JN.1 I).elim (hinv y hy) λ e=>by subst e;have b:=q9;(try simp at b);have s:=C;(try simp at s);exact⟨aC (by assumption),q (by assumption),d (by assumption),t (by assumption)⟩) om);refine(cq 9 1 [11] [1,2,8,9,10,11,46,49])<|(eL 49 io) (λ aD=>?_) (λ aD=>?_);refine(rv 7 [0] 1 [18] [1,2,8,9,10,11,56])<|(iz 56 (decide ((n4:Int)>0))) (λ aL=>?_) (λ aL=>?_);refine(cq 19 2 [3,0,1] [6])<|H4 false [0,0] xF;refine(rv 3 [0] 1 [21] [1,2,8,9,10,11,56,58,59])<|(cE [] (c20 _ _ _ _ _ om m.1 (u.mono lq))) λ cc bm bt D=>(cq 3 1 [25] [1,2,8,9,10,11,63])<|(eL 63 bt) (λ bq=>?_) (λ bq=>?_);refine(cq 12 2 [3,0,1] [6])<|H4 false [0,0] xF;refine(rv 3 [0] 1 [28] [1,2,9,10,11,63,65,66])<|(cE [] (C5 _ _ _ _ _ om m.2.1 (j.mono lq))) λ du aR bS f=>(cq 3 2 [3] [1,2,9,10,11,69])<|(eL 69 bS) (λ ao=>?_) (λ ao=>?_);refine(cq 5 0 [0,1] [6])<|H4 false [0,0] xF;refine(cq 9 3 [0] [1,2,9,10,11])<|(sv 11 (ag I om))<|(dz [1,0])<|lz (af (k+1) du lq (λ y hy I=>(JN.1 I).elim (hinv y hy) λ e=>by subst e;have b:=q9;(try simp at b);have aI:=aL;(try simp at aI);exact⟨aC (by assumption),D (by assumption),f (by assumption),t (by assumption)⟩) om);refine(rv 10 [0] 1 [21] [1,2,8,9,10,11,56,58,59])<|(cE [] (c20 _ _ _ _ _ om m.1 (u.mono lq))) λ dk bx V x=>(cq 3 1 [25] [1,2,8,9,10,11,63])<|(eL 63 V) (λ aN=>?_) (λ aN=>?_);refine(cq 12 2 [3,0,1] [6])<|H4 false [0,0] xF;refine(rv 3 [0] 1 [28] [1,2,9,10,11,63,65,66]) ?_
 refine(cE [] (C5 _ _ _ _ _ om m.2.1 (j.mono lq))) λ b6 bf bK bh=>(cq 3 2 [3] [1,2,9,10,11,69])<|(eL 69 bK) (λ aK=>?_) (λ aK=>?_);refine(cq 5 0 [0,1] [6])<|H4 false [0,0] xF;refine(cq 9 3 [0] [1,2,9,10,11])<|(sv 11 (ag I om))<|(dz [1,0])<|lz (af (k+1) b6 lq (λ y hy I=>(JN.1 I).elim (hinv y hy) λ e=>by subst e;have b:=q9;(try simp at b);exact⟨aC (by assumption),x (by assumption),bh (by assumption),t (by assumption)⟩) om);refine(dI 6 [3] [6])<|H4 true [] ⟨true,rfl,rfl,λ _=>fV λ y hy=>hinv y hy om⟩
theorem F': ∀(d:Def)aa A4 n4 c4 al n5 c5 a8 n6 c6 A7 n7 c7 A8 n8 c8,d.wt<=68719476736->d.pw->ad aa (fT d.ah) [vl A4 n4 c4]->ad aa (cW d.ifaces) [vl al n5 c5]->ad aa (.sl (d.fields.map i_)) [vl a8 n6 c6]->ad aa (cW d.types) [vl A7 n7 c7]->ad aa (.sl (d.enums.map e2)) [vl A8 n8 c8]->Sp 22 [.agg #[vs d.kind,vs d.doc,vs d.name,vl A4 n4 c4,vl al n5 c5,vl a8 n6 c6,vl A7 n7 c7,vl A8 n8 c8],vi 60] [] aa (λ v M' _=> ∃r,v=vb r/\M'=[]/\(r=true->d.ft)):=by
 intro d aa A4 n4 c4 al n5 c5 a8 n6 c6 A7 n7 c7 A8 n8 c8 hw hp j B aX E aq;simp[Def.wt]at hw;obtain⟨l,N,w,R⟩:=hp;have bW:=aq.len;rw[HX]at bW;have bs:=ax a_.wt d.enums;have br:=aX.len;rw[HX]at br;have bf:=ax cK.wt d.fields;refine aW Tryz.func22 λ F=>(ra 10 [0] [1,0,2] [1,2,12]) λ b1=>(cz (args:=[vs d.doc]) (M:=[]) [] (BN _ _ om)) λ|_,_,ak,P,⟨r1,rfl,rfl,aC⟩=>(cq 2 1 [5] [1,2,15])<|(eL 15 r1) (λ q2=>?_) (λ q2=>?_);refine(dI 30 [1,1,0,1] [4])<|H4 false [0] xF;refine(rv 2 [0] 1 [7] [1,2,15,17])<|(cz (args:=[vs d.name]) (M:=[]) [] (nT _ _ om)) λ|_,_,j3,l3,⟨r3,rfl,rfl⟩=>(cq 3 1 [11] [1,2,21])<|(eL 21 r3) (λ Z=>?_) (λ Z=>?_);refine(dI 24 [1,1,0,1] [4])<|H4 false [0] xF;refine(rv 3 [0] 1 [14] [1,2,21,23,24])<|(cE [] (BY _ _ _ _ _ 60 dc dc om l (j.mono lq))) λ bc a7 r5 K=>(cq 3 1 [18] [1,2,28])<|(eL 28 r5) (λ ae=>?_) (λ ae=>?_);refine(dI 17 [1,1,0,1] [4])<|H4 false [0] xF;refine(rv 2 [0] 1 [20] [1,2,28,30])<|(cz [] (c51 _ _ _ _ _ om (B.mono lq))) λ|_,_,j7,l7,⟨r7,rfl,rfl⟩=>(cq 3 1 [24] [1,2,34])<|(eL 34 r7) (λ H=>?_) (λ H=>?_);refine(dI 11 [1,1,0,1] [4])<|H4 false [0] xF;refine(rv 2 [0] 1 [26] [1,2,34,36])<|(cz [] (c51 _ _ _ _ _ om (E.mono lq))) λ|_,_,j9,l9,⟨r9,rfl,rfl⟩=>(dI 3 [1,1] [1,2,39])<|(eL 39 r9) (λ C=>?_) (λ C=>?_);refine(cq 5 0 [0,1] [4])<|H4 false [0] xF;refine(dI 3 [2] [1,2])<|(qz)<|(kz [0,12] [0,0,0,0] [1,2,42,43,44,45,46,47,48,49,50,51])<|(uz 0 [] [1,2,5,43,44,45,46,47,48,49,50,51]) λ _=>(uz 0 [] [1,2,5,6,46,47,48,49,50,51]) λ _=>(uz 0 [] [1,2,5,6,7,49,50,51]) λ _=>(uz 0 [] [1,2,5,6,7,8]) λ _=>(bL)<|(ra 11 [0] [3,1,0,0,0] [1,2,5,6,7,8,53,54,55]) ?_;intro _;have b:jq d.doc:=aC (by assumption);have f: ∀a∈d.ah,a.ft:=K (by assumption);refine(xY 55 n8 [1,2,5,6,7,8,53,54] (λ o j9=> ∀y(h:y<d.enums.length),y<o->d.enums[y].ft) (λ y _ h=>absurd h (JO y))) λ k bd hle hinv af=>(cq 4 1 [1] [1,2,5,6,7,8,53,54,55,56])<|(eX 56 k n8) (λ I=>?_) (λ aO=>?_);have z:k<d.enums.length:=by omega
 obtain⟨g2,aE,aQ,T2,a1,rfl,ab,W,p⟩:=((aq.mono (((((P.trans l3).trans a7).trans l7).trans l9).trans hle))).elem 3 z (λ cs h=>by obtain⟨B3,p3,r3,rfl,bg⟩:=c' h;rfl);obtain⟨B3,p3,r3,rfl,bg⟩:=c' ab;have aF:=aU a_.wt (HY z);simp[a_.wt]at aF;refine(cP W (p))<|(cq 6 1 [2,0,0,0] [1,2,5,6,7,8,53,54,55])<|(xz sy I) ?_;have m:=w _ (HY z);refine(fj 8 [0,0,0] 2 [1,2] [1,2,5,6,7,8,10,53,54,55,60]) λ G=>(cz (args:=[vs d.enums[k].doc]) (M:=[]) [] (BN _ _ om)) λ|_,_,bz,hL,⟨aS,rfl,rfl,aw⟩=>(cq 2 1 [5] [1,2,5,6,7,8,10,53,54,55,63])<|(eL 63 aS) (λ aY=>?_) (λ aY=>?_);refine(cq 24 2 [2,0,1] [4])<|H4 false [0,0,0] xF;refine(rv 2 [0] 1 [7] [1,2,5,6,7,8,10,53,54,55,63,65])<|(cz (args:=[vs d.enums[k].name]) (M:=[]) [] (nT _ _ om)) λ|_,_,bC,l8,⟨aB,rfl,rfl⟩=>(cq 3 1 [11] [1,2,5,6,7,8,10,53,54,55,69])<|(eL 69 aB) (λ bA=>?_) (λ bA=>?_);refine(cq 18 2 [2,0,1] [4])<|H4 false [0,0,0] xF;refine(rv 2 [0] 1 [13] [1,2,5,6,7,8,10,53,54,55,69,71])<|(cz (args:=[vs d.enums[k].name]) (M:=[]) [] (Bg _ _)) λ|_,_,bo,bk,⟨a6,rfl,rfl⟩=>(cq 3 1 [17] [1,2,5,6,7,8,10,53,54,55,75])<|(iz 75 (a6 !=7)) (λ aJ=>?_) (λ aJ=>?_);refine(cq 12 2 [2,0,1] [4])<|H4 false [0,0,0] xF;refine(rv 3 [0] 1 [20] [1,2,5,6,7,8,53,54,55,75,77,78])<|(cE [] (BY _ _ _ _ _ 60 dc dc om m (bg.mono lq))) λ bF bw bb q=>(cq 3 2 [2] [1,2,5,6,7,8,53,54,55,81])<|(eL 81 bb) (λ T=>?_) (λ T=>?_);refine(cq 5 0 [0,1] [4])<|H4 false [0,0,0] xF;refine(cq 9 3 [0] [1,2,5,6,7,8,53,54,55])<|(sv 55 (ag I om))<|(dz [1,0])<|lz (af (k+1) bF lq (λ y hy I=>(JN.1 I).elim (hinv y hy) λ e=>by subst e;have L:=aJ;(try simp at L);exact⟨aw (by assumption),q (by assumption)⟩) om);have g: ∀e∈d.enums,e.ft:=fV λ y hy=>hinv y hy om
 refine(h5 14 [0] [4,1,0,1] [1,2,5,6,7,8,84,85])<|(iz 85 (ay d.kind (⟨#[83,67,65,76,65,82]⟩))) (λ S=>?_) (λ S=>?_);refine(cq 13 0 [0,1] [4])<|G' (vb ((aj ((aj ((aj ((n6:Int)+(n7:Int)))+(n8:Int)))+(n5:Int)))==0)) [] [0] ⟨_,rfl,rfl,λ _=>xD b f R g (by have u:=dh S;rw[u];decide)⟩;refine(cq 7 0 [1,0,1] [1,2,5,6,7,8,84,95])<|(iz 95 (ay d.kind (⟨#[79,66,74,69,67,84]⟩))) (λ an=>?_) (λ an=>?_);refine(cq 8 2 [1,0,0,3] [1,2,6,7,100])<|(iz 100 (decide ((n6:Int)>0))) (λ aD=>?_) (λ aD=>?_);refine(cq 6 1 [9] [1,2,106])<|(iz 106 ((aj ((n7:Int)+(n8:Int)))==0)) (λ aL=>?_) (λ aL=>?_);refine(rv 3 [0] 1 [12] [106,108,109])<|(cE [] (c53 _ _ _ _ _ false om N (aX.mono lq))) λ cc bm bt D=>(cq 3 2 [1] [4])<|G' (vb bt) [] [0] ⟨_,rfl,rfl,λ h=>⟨b,f,D h,g,λ _=>qe (by have s:=aD;(try simp at s);have aI:=aL;(try simp at aI);omega)⟩⟩;refine(cq 7 2 [1] [4])<|H4 false [0] xF;refine(cq 13 2 [1] [4])<|H4 false [0] xF;refine(cq 5 2 [1] [1,2,5,6,7,8,84,95])<|(iz 95 (ay d.kind (⟨#[73,78,84,69,82,70,65,67,69]⟩))) (λ bq=>?_) (λ bq=>?_);refine(cq 6 0 [0,0,3] [1,2,6,7,100])<|(iz 100 (decide ((n6:Int)>0))) (λ bB=>?_) (λ bB=>?_);refine(cq 6 1 [9] [1,2,106])<|(iz 106 ((aj ((n7:Int)+(n8:Int)))==0)) (λ ao=>?_) (λ ao=>?_);refine(rv 3 [0] 1 [12] [106,108,109])<|(cE [] (c53 _ _ _ _ _ false om N (aX.mono lq))) λ dk bx V x=>(cq 3 2 [1] [4])<|G' (vb V) [] [0] ⟨_,rfl,rfl,λ h=>⟨b,f,x h,g,λ _=>qe (by have c:=bB;(try simp at c);have ai:=ao;(try simp at ai);omega)⟩⟩;refine(cq 7 2 [1] [4])<|H4 false [0] xF;refine(cq 13 2 [1] [4])<|H4 false [0] xF;refine(cq 6 0 [1,1] [1,2,5,6,7,8,84,112])<|(iz 112 (ay d.kind (⟨#[73,78,80,85,84,95,79,66,74,69,67,84]⟩))) (λ aN=>?_) (λ aN=>?_);refine(cq 6 0 [0,0,3] [1,2,6,7,8,116])<|(iz 116 (decide ((n6:Int)>0))) (λ t=>?_) (λ t=>?_);refine(cq 8 1 [11] [1,2,124])<|(iz 124 ((aj ((aj ((n7:Int)+(n8:Int)))+(n5:Int)))==0)) (λ aK=>?_) (λ aK=>?_);refine(rv 3 [0] 1 [14] [124,126,127])<|(cE [] (c53 _ _ _ _ _ true om N (aX.mono lq))) λ cO b3 bJ a'=>(cq 3 2 [1] [4])<|G' (vb bJ) [] [0] ⟨_,rfl,rfl,λ h=>⟨b,f,a' h,g,λ _=>qe (by have O:=t;(try simp at O);have n:=aK;(try simp at n);omega)⟩⟩;refine(cq 7 2 [1] [4])<|H4 false [0] xF;refine(cq 15 2 [1] [4])<|H4 false [0] xF;refine(cq 6 0 [1,1] [5,6,7,8,84,130])<|(iz 130 (ay d.kind (⟨#[85,78,73,79,78]⟩))) (λ aZ=>?_) (λ aZ=>?_);refine(cq 6 0 [0,0,3] [5,7,8,134])<|(iz 134 (decide ((n7:Int)>0))) (λ aM=>?_) (λ aM=>?_)
 refine(cq 9 2 [1] [4])<|G' (vb ((aj ((aj ((n6:Int)+(n8:Int)))+(n5:Int)))==0)) [] [0] ⟨_,rfl,rfl,λ _=>xD b f R g (by have J:=dh aZ;rw[J];decide)⟩;refine(cq 9 2 [1] [4])<|H4 false [0] xF;refine(cq 6 0 [1,1] [5,6,7,8,142])<|(iz 142 (ay d.kind (⟨#[69,78,85,77]⟩))) (λ bH=>?_) (λ bH=>?_);refine(cq 6 0 [0,0,3] [5,6,8,146])<|(iz 146 (decide ((n8:Int)>0))) (λ bu=>?_) (λ bu=>?_);refine(cq 9 2 [1] [4])<|G' (vb ((aj ((aj ((n6:Int)+(n7:Int)))+(n5:Int)))==0)) [] [0] ⟨_,rfl,rfl,λ _=>xD b f R g (by have A:=dh bH;rw[A];decide)⟩;refine(cq 9 2 [1] [4])<|H4 false [0] xF;refine(dI 7 [6] [4])<|H4 false [0] xF
theorem GX: ∀(d:ae)aa E n2 c2 Q n3 c3,d.wt<=68719476736->iE d.ah->ad aa (fT d.ah) [vl E n2 c2]->ad aa (.sl (d.roots.map iZ)) [vl Q n3 c3]->Sp 17 [.agg #[vs d.doc,vl E n2 c2,vl Q n3 c3],vi 60] [] aa (λ v M' _=> ∃r,v=vb r/\M'=[]/\(r=true->d.ft)):=by
 intro d aa E n2 c2 Q n3 c3 hw hp aq u;simp[ae.wt]at hw;have U:=u.len;rw[HX]at U;have aK:=ax cQ.wt d.roots;refine aW Tryz.func17 λ F=>(ra 16 [0] [1,1,0,0,0] [1,2,8,9,10]) λ b1=>(xY 10 n3 [1,2,8,9] (λ o j9=>True) trivial) λ k bd hle hinv af=>(aM 4 1 [1] [11])<|(eX 11 k n3) (λ I=>?_) (λ I=>?_);have z:k<d.roots.length:=by omega
 obtain⟨g2,aE,aQ,T2,a1,rfl,ab,W,p⟩:=((u.mono hle)).elem 2 z (λ cs h=>by obtain⟨rfl⟩:=eH h;rfl);obtain⟨rfl⟩:=eH ab;have aF:=aU cQ.wt (HY z);simp[cQ.wt]at aF;refine(cP W (p))<|(aM 6 1 [2,0,0,0] [])<|(xz w6 I)<|(ya 10 [0,0,0] 2 [1,4] [6,17]) λ b4=>(eL 17 (ay d.roots[k].op (⟨#[113,117,101,114,121]⟩))) (λ q1=>?_) (λ q1=>?_);refine(gK 5 [0] 1 [9] [22])<|(eL 22 (ay d.roots[k].op (⟨#[109,117,116,97,116,105,111,110]⟩))) (λ q2=>?_) (λ q2=>?_);refine(gK 5 [0] 1 [14] [27])<|(eL 27 (ay d.roots[k].op (⟨#[115,117,98,115,99,114,105,112,116,105,111,110]⟩))) (λ q3=>?_) (λ q3=>?_);refine(cq 11 2 [2,0,1] [4])<|H4 false [0,0,0] xF;refine(gK 2 [0] 1 [16] [29])<|(cz (args:=[vs d.roots[k].t]) (M:=[]) [] (nT _ _ om)) λ|_,_,j4,l4,⟨r4,rfl,rfl⟩=>(aM 3 2 [2] [32])<|(eL 32 r4) (λ q5=>?_) (λ q5=>?_);refine(cq 5 0 [0,1] [4])<|H4 false [0,0,0] xF;refine(aM 9 3 [0] [])<|(sv 10 (ag I om))<|(dz [1,0])<|lz (af (k+1) j4 lq trivial om);refine(gK 7 [0] 1 [16] [27,29])<|(cz (args:=[vs d.roots[k].t]) (M:=[]) [] (nT _ _ om)) λ|_,_,j6,l6,⟨r6,rfl,rfl⟩=>(aM 3 2 [2] [32])<|(eL 32 r6) (λ q7=>?_) (λ q7=>?_);refine(cq 5 0 [0,1] [4])<|H4 false [0,0,0] xF;refine(aM 9 3 [0] [])<|(sv 10 (ag I om))<|(dz [1,0])<|lz (af (k+1) j6 lq trivial om);refine(gK 12 [0] 1 [16] [27,29])<|(cz (args:=[vs d.roots[k].t]) (M:=[]) [] (nT _ _ om)) λ|_,_,j8,aP,⟨r8,rfl,rfl⟩=>(aM 3 2 [2] [32])<|(eL 32 r8) (λ q9=>?_) (λ q9=>?_);refine(cq 5 0 [0,1] [4])<|H4 false [0,0,0] xF;refine(aM 9 3 [0] [])<|(sv 10 (ag I om))<|(dz [1,0])<|lz (af (k+1) j8 lq trivial om);refine(cI 6 [0] [2,2] [35])<|(cz (args:=[vs d.doc]) (M:=[]) [] (BN _ _ om)) λ|_,_,bE,x,⟨e,rfl,rfl,b⟩=>(gp 1 [2,4] [37])<|(iz 37 e) (λ ar=>?_) (λ ar=>?_);refine(cI 6 [0] [2,10] [43])<|(iz 43 (decide ((n3:Int)>0))) (λ aY=>?_) (λ aY=>?_);refine(cI 3 [0] [2,13] [45,46])<|(cE [] (BY _ _ _ _ _ 60 dc dc om hp (aq.mono lq))) λ bC l8 aB G=>(dI 3 [3] [4])<|G' (vb aB) [] [0] ?_;refine⟨_,rfl,rfl,λ h=>?_⟩;have a:=ar;(try simp at a);have w:=aY;(try simp at w);exact⟨b (by assumption),G h,xG om⟩;refine(dI 7 [3] [4])<|H4 false [0] xF;refine(dI 13 [3] [4])<|H4 false [0] xF
theorem um{sz:Nat}: ∀(aY:List (List Value))(j:Nat)(u:Value),(∀cs∈aY,cs.length=sz)->aY.flatten[j]?=some u-> ∃i r cs,aY[i]?=some cs/\cs[r]?=some u/\j=i*sz+r
 |[],j,u,_,h=>by simp at h
 |c::aY,j,u,aJ,h=>by
  have J:=aJ c sm;rw[HQ]at h;rcases Hh j sz with hj|hj
  rw[Jf om]at h;exact⟨0,j,c,rfl,h,om⟩;rw[JQ om]at h;obtain⟨i,r,cs,G,H,S⟩:=um aY (j-c.length) u (λ cs K=>aJ cs (Hb _ K)) h;exact⟨i+1,r,cs,by simpa using G,H,by rw[HJ];omega⟩
theorem rO{sz:Nat}: ∀(aY:List (List Value)),(∀cs∈aY,cs.length=sz)->aY.flatten.length=aY.length*sz
 |[],_=>by simp
 |c::aY,aJ=>by
  rw[HQ,HT,aJ c sm,rO aY (λ cs K=>aJ cs (Hb _ K)),List.length_cons,HJ];omega
theorem fD.rep{aa:au}{tx e:Nat}(sz:Nat)(U:Tryz.prog.underlying tx=some (.slice e)){ds:List Dt}{A:Option Addr}{n c:Nat}(h:ad aa (.sl ds) [vl A n c])(dB: ∀d∈ds,∀cs,ad aa d cs->cs.length=sz/\ ∀u∈cs,u.oneCell'=true):
 ∃aY:List (List Value),n=ds.length/\aY.length=ds.length/\(∀cs∈aY,cs.length=sz)/\(∀(i:Nat)(d:Dt)(cs:List Value),ds[i]?=some d->aY[i]?=some cs->ad aa d cs)/\fD aa sz tx (vl A n c) n aY.flatten:=by
 obtain⟨A',ai,he,L⟩:=h.tb;simp only[List.cons.injEq,JC,and_true]at he;obtain⟨rfl,rfl,rfl⟩:=he;rcases L with rfl|⟨g,b,ar,T,fz,aY,rfl,G,H,S,Y,aI⟩
 refine⟨[],rfl,rfl,λ cs J=>(by cases J),λ i d cs hd=>(by simp at hd),?_⟩;rcases A with _|a
 exact fD.nil U c;intro w hw;obtain⟨m,o,W⟩:=a;exact Src.ofSlice w U _ 0 c [] sm (λ j u hu=>by simp at hu) (λ u hu=>by cases hu);have ae: ∀cs∈aY,cs.length=sz/\ ∀u∈cs,u.oneCell'=true:=λ cs J=>by
  obtain⟨i,hi⟩:=List.getElem?_of_mem J;have ab:i<ds.length:=by
   rcases Hh i aY.length with h6|h6
   omega;rw[List.getElem?_eq_none h6]at hi;cases hi
  exact dB _ (HY ab) cs (S i _ cs (HH ab) hi)
 have Q: ∀cs∈aY,cs.length=sz:=λ cs J=>(ae cs J).1
 refine⟨aY,rfl,G,Q,S,fD.aa U (off:=0) H (by rw[rO aY Q,G]) (λ j u hu=>?_) (λ u hu=>?_)⟩;obtain⟨i,r,cs,aw,az,rfl⟩:=um aY j u Q hu;have:b=sz:=by rw[<-Y cs (GZ aw)];exact Q cs (GZ aw)
 subst this;rw[Nat.zero_add];exact aI i r cs u aw az;obtain⟨cs,J,hu⟩:=List.mem_flatten.1 hu;exact(ae cs J).2 u hu
theorem pz{α:Type}(f:α->Nat)(a b:List α):aZ f (a++b)=aZ f a+aZ f b:=by
 induction a with
 |nil=>simp[aZ]
 |cons x r af=>simp only[Hi,aZ,af];omega
theorem rD{aa:au}{l:List Def}: ∀d∈l.map d_,∀cs,ad aa d cs->cs.length=8/\ ∀u∈cs,u.oneCell'=true:=λ d hd cs h=>by
 obtain⟨a,_,rfl⟩:=Hy.1 hd;obtain⟨A4,n4,c4,al,n5,c5,a8,n6,c6,A7,n7,c7,A8,n8,c8,rfl,_⟩:=cX h;exact⟨rfl,λ u hu=>by simp only[G6,Hm,or_false]at hu;rcases hu with rfl|rfl|rfl|rfl|rfl|rfl|rfl|rfl<;>rfl⟩
theorem qM{aa:au}{l:List ae}: ∀d∈l.map aD,∀cs,ad aa d cs->cs.length=3/\ ∀u∈cs,u.oneCell'=true:=λ d hd cs h=>by
 obtain⟨a,_,rfl⟩:=Hy.1 hd;obtain⟨E,n2,c2,Q,n3,c3,rfl,_⟩:=bn h;exact⟨rfl,λ u hu=>by simp only[G6,Hm,or_false]at hu;rcases hu with rfl|rfl|rfl<;>rfl⟩
theorem uA{aa:au}{E sz n1 n2 c:Nat}{A:Option Addr}{a b:List Dt}{k n:List (List Value)}(G:k.length=a.length)(H:n.length=b.length)
 (s1: ∀cs∈k,cs.length=sz) (s2: ∀cs∈n,cs.length=sz) (r1: ∀(i:Nat)(d:Dt)(cs:List Value),a[i]?=some d->k[i]?=some cs->ad aa d cs) (V: ∀(i:Nat)(d:Dt)(cs:List Value),b[i]?=some d->n[i]?=some cs->ad aa d cs)
 (aw:n1=a.length) (az:n2=b.length) (hf:wb aa E (0+n1+n2) c A ([]++k.flatten++n.flatten)):ad aa (.sl (a++b)) [vl A (0+n1+n2) c]:=by
 refine ad.pC (E:=E) (sz:=sz) (aY:=k++n) (by simpa using hf) so so (λ i d cs hd J=>?_) (λ cs J=>?_);rcases Hh i a.length with h|h
 rw[Jf h]at hd;rw[Jf om]at J;exact r1 i d cs hd J;rw[JQ h]at hd;rw[JQ om,G]at J;exact V _ d cs hd J;rcases HM.1 J with h|h
 exact s1 cs h;exact s2 cs h
def aL.pw(d:aL):Prop:= ∀a∈d.args,a.pw
def aL.ft(d:aL):Prop:=jq d.doc/\ ∀a∈d.args,a.ft
structure aH.pw(s:aH):Prop where
 defs: ∀d∈s.defs,iE d.ah
 exts: ∀d∈s.exts,iE d.ah
 ah: ∀d∈s.ah,d.pw
 types: ∀d∈s.types,d.pw
 ai: ∀d∈s.ai,d.pw
structure aH.ft(s:aH):Prop where
 defs: ∀d∈s.defs,d.ft
 exts: ∀d∈s.exts,d.ft
 ah: ∀d∈s.ah,d.ft
 types: ∀d∈s.types,d.ft
 ai: ∀d∈s.ai,d.ft
def Def.nk(d:Def):Prop:= ¬iU d.name/\ ∀f∈d.fields,¬iU f.name
theorem c8: ∀(d:aH)(aa:au)(A1:Option Addr)(n1 D:Nat)(E:Option Addr)(n2 c2:Nat)(Q:Option Addr)(n3 c3:Nat)(A4:Option Addr)(n4 c4:Nat)(al:Option Addr)(n5 c5:Nat),d.wt<=4294967296->d.pw->ad aa (.sl (d.defs.map aD)) [vl A1 n1 D]->ad aa (.sl (d.exts.map aD)) [vl E n2 c2]->ad aa (.sl (d.ah.map cn)) [vl Q n3 c3]->ad aa (.sl (d.types.map d_)) [vl A4 n4 c4]->ad aa (.sl (d.ai.map d_)) [vl al n5 c5]->Sp 8 [.agg #[vl A1 n1 D,vl E n2 c2,vl Q n3 c3,vl A4 n4 c4,vl al n5 c5],vi 60] [] aa (λ v M' _=> ∃r,v=vb r/\M'=[]/\(r=true->d.ft)):=by
 intro d aa A1 n1 D E n2 c2 Q n3 c3 A4 n4 c4 al n5 c5 hw hp a_ aq u j B;simp only[aH.wt]at hw;refine aW Tryz.func8 λ F=>?_
 refine(ra 7 [] [1,0] [1,2]) ?_;intro b1;obtain⟨k,bI,b9,aF,b3,aw⟩:=fD.rep 3 (tx:=26) (e:=53) (by kernel_rfl) a_ qM;obtain⟨n,bj,b0,oI,b4,bH⟩:=fD.rep 3 (tx:=26) (e:=53) (by kernel_rfl) aq qM;rw[HX]at bI bj;have w:=ax ae.wt d.defs;have R:=ax ae.wt d.exts;refine(qz)<|(kz [1,2,4,2,8,1] [0,0] [1,2,18,19,21,22,25])<|(uz 0 [5,1,2,1] [1,2,17,18,19,21,22,25]) λ b2=>(ug 0 (b2 0) 53 3 0 []) ?_;refine(eF)<|(gq nX 0 n1 [] k.flatten [0] (aw)) ?_;intro Aa ca;refine(aG [5,1])<|(eF)<|(gq nX (0+n1) n2 ([]++k.flatten) n.flatten [0] (bH)) ?_;intro Ab cb;refine(aG [])<|(kf [7,1] [] [1,2,23,24,25])<|(ra 3 [] [1,1,0,0,0] [1,2,23,24,25]) λ _=>(fo 0 53 3 Ab (0+n1+n2) cb ([]++k.flatten++n.flatten)) ?_;intro ja la bU;have l:=uA (by rw[b9]) (by rw[b0]) aF oI (λ i d cs a b=>(b3 i d cs a b).mono la) (λ i d cs a b=>(b4 i d cs a b).mono la) (by rw[HX];exact bI) (by rw[HX];exact bj) bU;rw[<-JH]at l;have cv:=pz ae.wt d.defs d.exts;have cy:0+n1+n2=(d.defs++d.exts).length:=by rw[HT];omega
 have az: ∀x∈d.defs++d.exts,iE x.ah:=λ x L=>(HM.1 L).elim (hp.defs x) (hp.exts x)
 have f:=aq.len;rw[HX]at f;have U:=u.len;rw[HX]at U;have cm:=j.len;rw[HX]at cm;have bb:=B.len;rw[HX]at bb;have R:=ax ae.wt d.exts;have aK:=ax aL.wt d.ah;have aR:=ax Def.wt d.types;have aV:=ax Def.wt d.ai;refine(wz (ι:=Nat×au) (λ i=>(0+n1+n2)-i.1) (λ i=>i.2) [1,2,23,24] (λ i=>[(25,vi i.1)]) (λ i c=>c) (λ i=>au.le ja i.2/\ ∀y(h:y<(d.defs++d.exts).length),y<i.1->(d.defs++d.exts)[y].ft) ⟨0,ja⟩ ⟨lq,λ y _ h=>absurd h (JO y)⟩) ?_;rintro⟨W,aM⟩ ⟨p,q⟩ bS;dsimp only at p q;refine(rv 4 [] 1 [1] [1,2,23,24,25,26])<|(iz 26 (decide ((W:Int)<(0+n1+n2:Int)))) (λ m=>?_) (λ m=>?_);have m:W<(0+n1+n2):=by have h9:=m;simp at h9;omega
 have X:W<(d.defs++d.exts).length:=by omega
 obtain⟨cr,aE,aQ,T2,a1,rfl,aN,aI,a8⟩:=((l.mono p)).elem 3 X (λ cs h=>by obtain⟨B2,p2,t2,B3,p3,t3,rfl,bh,bg⟩:=bn h;rfl);obtain⟨B2,p2,t2,B3,p3,t3,rfl,bh,bg⟩:=bn aN;have aX:=aU ae.wt (HY X);simp only[ae.wt]at aX;refine(cP aI (a8))<|(rv 6 [] 1 [2,0,0,0] [1,2,23,24,25])<|(xz nX m)<|(fj 8 [0,0,0] 2 [1,2] [1,2,23,24,25,29,30]) λ b6=>(cE [] (GX _ _ _ _ _ _ _ _ (by simp only[ae.wt];omega) (az _ (HY X)) bh bg)) λ ak P r1 aC=>(rv 2 [] 2 [2] [1,2,23,24,25,32])<|(eL 32 r1) (λ q2=>?_) (λ q2=>?_);refine(rv 5 [] 0 [0,1] [4])<|ez 0 (vb false) [] [0,0,0] lq ⟨false,rfl,rfl,λ h=>by cases h⟩;refine(rv 9 [] 3 [0] [1,2,23,24,25])<|(sv 25 (ag m om))<|(dz [1,0])<|lz (bS ⟨W+1,ak⟩ ⟨lq,λ y hy I=>(JN.1 I).elim (q y hy) λ e=>by subst e;exact aC (by assumption)⟩ dm);have cl: ¬W<(0+n1+n2):=by have h9:=m;simp at h9;omega
 have hA: ∀x∈(d.defs++d.exts),x.ft:=fV λ y hy=>q y hy om
 refine(ra 13 [0] [2,1,0,0,0] [1,2,35,36,37]) λ _=>(wz (ι:=Nat×au) (λ i=>n2-i.1) (λ i=>i.2) [1,2,35,36] (λ i=>[(37,vi i.1)]) (λ i c=>c) (λ i=>au.le aM i.2/\True) ⟨0,aM⟩ ⟨lq,trivial⟩) ?_;rintro⟨J,bF⟩ ⟨V,bV⟩ bB;dsimp only at V bV;refine(rv 4 [] 1 [1] [1,2,35,36,37,38])<|(eX 38 J n2) (λ T=>?_) (λ bM=>?_);have ao:J<d.exts.length:=by omega
 obtain⟨bP,aE,aQ,T2,a1,rfl,bw,bu,bx⟩:=((aq.mono ((la.trans p).trans V))).elem 3 ao (λ cs h=>by obtain⟨B2,p2,t2,B3,p3,t3,rfl,bh,bg⟩:=bn h;rfl);obtain⟨B2,p2,t2,B3,p3,t3,rfl,bh,bg⟩:=bn bw;have bO:=aU ae.wt (HY ao);simp only[ae.wt]at bO;refine cP bu (bx) ?_;refine(rv 6 [] 1 [2,0,0,0] [1,2,35,36,37])<|(xz nX T)<|(fj 10 [0,0,0] 2 [2] [1,2,35,36,37,43]) λ bQ=>(eL 43 (ay d.exts[J].doc ⟨#[]⟩)) (λ q3=>?_) (λ q3=>?_);refine(rv 5 [] 0 [0,1] [4])<|ez 0 (vb false) [] [0,0,0] lq ⟨false,rfl,rfl,λ h=>by cases h⟩;refine(rv 9 [] 3 [0] [1,2,35,36,37])<|(sv 37 (ag T om))<|(dz [1,0])<|lz (bB ⟨J+1,bF⟩ ⟨V,trivial⟩ dm);refine(ra 13 [0] [3,1,0,0,0] [1,2,46,47,48]) λ _=>(wz (ι:=Nat×au) (λ i=>n3-i.1) (λ i=>i.2) [1,2,46,47] (λ i=>[(48,vi i.1)]) (λ i c=>c) (λ i=>au.le bF i.2/\ ∀y(h:y<d.ah.length),y<i.1->d.ah[y].ft) ⟨0,bF⟩ ⟨lq,λ y _ h=>absurd h (JO y)⟩) ?_;rintro⟨kc,bY⟩ ⟨an,H⟩ bT;dsimp only at an H;refine(rv 4 [] 1 [1] [1,2,46,47,48,49])<|(eX 49 kc n3) (λ bm=>?_) (λ bX=>?_);have bl:kc<d.ah.length:=by omega
 obtain⟨b7,aE,aQ,T2,a1,rfl,bE,bD,bG⟩:=((u.mono (((la.trans p).trans V).trans an))).elem 5 bl (λ cs h=>by obtain⟨B3,p3,t3,B4,p4,t4,rfl,bg,bp⟩:=b' h;rfl);obtain⟨B3,p3,t3,B4,p4,t4,rfl,bg,bp⟩:=b' bE;have bK:=aU aL.wt (HY bl);simp only[aL.wt]at bK;refine cP bD (bG) ?_;refine(rv 6 [] 1 [2,0,0,0] [1,2,46,47,48])<|(xz qN bm)<|(fj 9 [0,0,0] 2 [1,0,2] [1,2,10,46,47,48,53]) λ cc=>(cE (args:=[vs d.ah[kc].doc]) (M:=[]) [] (BN _ _ om)) λ j4 l4 r4 N=>(rv 2 [] 1 [5] [1,2,10,46,47,48,56])<|(eL 56 r4) (λ q5=>?_) (λ q5=>?_);refine(rv 24 [] 2 [1,0,1] [4])<|ez 0 (vb false) [] [0,0,0] lq ⟨false,rfl,rfl,λ h=>by cases h⟩;refine(rv 2 [0] 1 [7] [1,2,10,46,47,48,56,58])<|(cz (args:=[vs d.ah[kc].name]) (M:=[]) [] (nT _ _ om)) λ|_,_,j6,l6,⟨r6,rfl,rfl⟩=>(rv 3 [] 1 [11] [1,2,10,46,47,48,62])<|(eL 62 r6) (λ q7=>?_) (λ q7=>?_);refine(rv 18 [] 2 [1,0,1] [4])<|ez 0 (vb false) [] [0,0,0] lq ⟨false,rfl,rfl,λ h=>by cases h⟩;refine(rv 3 [0] 1 [14] [1,2,10,46,47,48,62,64,65])<|(cE [] (c20 _ _ _ _ _ om (hp.ah _ (HY bl)) (bg.mono lq))) λ j8 aP r8 g=>(rv 3 [] 1 [18] [1,2,10,46,47,48,69])<|(eL 69 r8) (λ q9=>?_) (λ q9=>?_);refine(rv 11 [] 2 [1,0,1] [4])<|ez 0 (vb false) [] [0,0,0] lq ⟨false,rfl,rfl,λ h=>by cases h⟩;refine(rv 6 [0] 2 [1] [1,2,10,46,47,48,74])<|(iz 74 ((p4:Int)==0)) (λ C=>?_) (λ C=>?_);refine(rv 5 [] 0 [0,1] [4])<|ez 0 (vb false) [] [0,0,0] lq ⟨false,rfl,rfl,λ h=>by cases h⟩;refine(rv 12 [0] 2 [3,0,0,0] [1,2,46,47,48,76,77,78]) ?_;have bd:d.ah[kc].ft:=by have s:=C;(try simp at s);exact⟨N (by assumption),g (by assumption)⟩
 have br:=bp.len;rw[HX]at br;have bf:=ax H0 d.ah[kc].ba;refine(dz [1,0])<|(wz (ι:=Nat×au) (λ i=>p4-i.1) (λ i=>i.2) [1,2,46,47,48,76,77] (λ i=>[(78,vi i.1)]) (λ i c=>c) (λ i=>au.le j8 i.2/\True) ⟨0,j8⟩ ⟨lq,trivial⟩) ?_;rintro⟨ke,bW⟩ ⟨Y,z⟩ b8;dsimp only at Y z;refine(rv 4 [] 1 [1] [1,2,46,47,48,76,77,78,79])<|(eX 79 ke p4) (λ O=>?_) (λ O=>?_);have ab:ke<d.ah[kc].ba.length:=by omega
 obtain⟨cx,aQ,T2,a1,rfl,a',aZ⟩:=jK (bp.mono (((l4.trans l6).trans aP).trans Y)) ab;have bL:=aU H0 (HY ab);refine cP a' (aZ) ?_;refine(rv 6 [] 1 [2,0,0,0] [1,2,46,47,48,76,77,78])<|(xz cY O)<|(rv 6 [0] 2 [1,1] [1,2,46,47,48,76,77,78,82])<|(cz (args:=[vs d.ah[kc].ba[ke]]) (M:=[]) [] (c21 _ _)) λ|_,_,bz,hL,⟨aS,rfl,rfl⟩=>(rv 2 [] 2 [2] [1,2,46,47,48,76,77,78,84])<|(eL 84 aS) (λ aY=>?_) (λ aY=>?_);refine(rv 5 [] 0 [0,1] [4])<|ez 0 (vb false) [] [0,0] lq ⟨false,rfl,rfl,λ h=>by cases h⟩;refine(rv 9 [] 3 [0] [1,2,46,47,48,76,77,78])<|(sv 78 (ag O om))<|(dz [0])<|lz (b8 ⟨ke+1,bz⟩ ⟨lq,trivial⟩ dm);refine(rv 9 [] 6 [0] [1,2,46,47,48])<|(sv 48 (ag bm om))<|lz (bT ⟨kc+1,bW⟩ ⟨lq,λ y hy I=>(JN.1 I).elim (H y hy) λ e=>by subst e;skip;exact bd⟩ dm);have hC: ∀x∈d.ah,x.ft:=fV λ y hy=>H y hy om
 refine(ra 13 [0] [4,1,0,0,0] [1,2,88,89,90]) λ _=>(wz (ι:=Nat×au) (λ i=>n4-i.1) (λ i=>i.2) [1,2,88,89] (λ i=>[(90,vi i.1)]) (λ i c=>c) (λ i=>au.le bY i.2/\ ∀y(h:y<d.types.length),y<i.1->d.types[y].ft) ⟨0,bY⟩ ⟨lq,λ y _ h=>absurd h (JO y)⟩) ?_;rintro⟨A,cp⟩ ⟨a7,K⟩ cu;dsimp only at a7 K;refine(rv 4 [] 1 [1] [1,2,88,89,90,91])<|(eX 91 A n4) (λ bs=>?_) (λ cB=>?_);have aO:A<d.types.length:=by omega
 obtain⟨cC,aE,aQ,T2,a1,rfl,cg,cj,ch⟩:=((j.mono ((((la.trans p).trans V).trans an).trans a7))).elem 8 aO (λ cs h=>by obtain⟨B4,p4,t4,B5,t,t5,B6,p6,t6,B7,p7,t7,B8,p8,t8,rfl,bp,bq,bt,av,aA⟩:=cX h;rfl);obtain⟨B4,p4,t4,B5,t,t5,B6,p6,t6,B7,p7,t7,B8,p8,t8,rfl,bp,bq,bt,av,aA⟩:=cX cg;have b5:=aU Def.wt (HY aO);simp only[Def.wt]at b5;refine cP cj (ch) ?_;refine(rv 6 [] 1 [2,0,0,0] [1,2,88,89,90])<|(xz nv bs)<|(fj 8 [0,0,0] 2 [1,2] [1,2,88,89,90,94,95]) λ cF=>(cE [] (F' _ _ _ _ _ _ _ _ _ _ _ _ _ _ _ _ _ (by simp only[Def.wt];omega) (hp.types _ (HY aO)) bp bq bt av aA)) λ bC l8 aB G=>(rv 2 [] 2 [2] [1,2,88,89,90,97])<|(eL 97 aB) (λ bA=>?_) (λ bA=>?_);refine(rv 5 [] 0 [0,1] [4])<|ez 0 (vb false) [] [0,0,0] lq ⟨false,rfl,rfl,λ h=>by cases h⟩;refine(rv 9 [] 3 [0] [1,2,88,89,90])<|(sv 90 (ag bs om))<|(dz [1,0])<|lz (cu ⟨A+1,bC⟩ ⟨lq,λ y hy I=>(JN.1 I).elim (K y hy) λ e=>by subst e;exact G (by assumption)⟩ dm);have hD: ∀x∈d.types,x.ft:=fV λ y hy=>K y hy om
 refine(ra 13 [0] [5,1,0,0,0] [1,2,100,101,102]) λ _=>(wz (ι:=Nat×au) (λ i=>n5-i.1) (λ i=>i.2) [1,2,100,101] (λ i=>[(102,vi i.1)]) (λ i c=>c) (λ i=>au.le cp i.2/\ ∀y(h:y<d.ai.length),y<i.1->d.ai[y].ft) ⟨0,cp⟩ ⟨lq,λ y _ h=>absurd h (JO y)⟩) ?_;rintro⟨kf,cG⟩ ⟨bN,ar⟩ bZ;dsimp only at bN ar;refine(rv 4 [] 1 [1] [1,2,100,101,102,103])<|(eX 103 kf n5) (λ bJ=>?_) (λ cA=>?_);have bc:kf<d.ai.length:=by omega
 obtain⟨cD,aE,aQ,T2,a1,rfl,cd,ck,cq⟩:=((B.mono (((((la.trans p).trans V).trans an).trans a7).trans bN))).elem 8 bc (λ cs h=>by obtain⟨B4,p4,t4,B5,t,t5,B6,p6,t6,B7,p7,t7,B8,p8,t8,rfl,bp,bq,bt,av,aA⟩:=cX h;rfl);obtain⟨B4,p4,t4,B5,t,t5,B6,p6,t6,B7,p7,t7,B8,p8,t8,rfl,bp,bq,bt,av,aA⟩:=cX cd;have cf:=aU Def.wt (HY bc);simp only[Def.wt]at cf;refine cP ck (cq) ?_;refine(rv 6 [] 1 [2,0,0,0] [1,2,100,101,102])<|(xz nv bJ)<|(fj 8 [0,0,0] 2 [1,2] [1,2,16,100,101,102,106,107]) λ bR=>(cE [] (F' _ _ _ _ _ _ _ _ _ _ _ _ _ _ _ _ _ (by simp only[Def.wt];omega) (hp.ai _ (HY bc)) bp bq bt av aA)) λ bo bk a6 aT=>(rv 2 [] 1 [5] [1,2,16,100,101,102,110])<|(eL 110 a6) (λ aJ=>?_) (λ aJ=>?_);refine(rv 14 [] 2 [2,0,1] [4])<|ez 0 (vb false) [] [0,0,0] lq ⟨false,rfl,rfl,λ h=>by cases h⟩;refine(rv 5 [0] 1 [10] [1,2,16,100,101,102,115])<|(eL 115 (ay d.ai[kf].doc ⟨#[]⟩)) (λ af=>?_) (λ af=>?_);refine(rv 9 [] 2 [2,0,1] [4])<|ez 0 (vb false) [] [0,0,0] lq ⟨false,rfl,rfl,λ h=>by cases h⟩;refine(rv 1 [0] 1 [11] [1,2,100,101,102,115,116])<|(cz (args:=[.agg #[vs d.ai[kf].kind,vs d.ai[kf].doc,vs d.ai[kf].name,vl B4 p4 t4,vl B5 t t5,vl B6 p6 t6,vl B7 p7 t7,vl B8 p8 t8]]) (M:=[]) [] (GL _ _ _ _ _ _ _ _ _ _ _ _ _ _ _ _ _ _ _)) λ|_,_,b_,cw,⟨ct,rfl,rfl⟩=>(rv 2 [] 2 [2] [1,2,100,101,102,118])<|(iz 118 ct) (λ S=>?_) (λ S=>?_);refine(rv 5 [] 0 [0,1] [4])<|ez 0 (vb false) [] [0,0,0] lq ⟨false,rfl,rfl,λ h=>by cases h⟩;refine(rv 9 [] 3 [0] [1,2,100,101,102])<|(sv 102 (ag bJ om))<|(dz [1,0])<|lz (bZ ⟨kf+1,b_⟩ ⟨lq,λ y hy I=>(JN.1 I).elim (ar y hy) λ e=>by subst e;have o:=S;(try simp at o);exact aT (by assumption)⟩ dm);have Z: ∀x∈d.ai,x.ft:=fV λ y hy=>ar y hy om
 refine(ra 26 [0,0,0,0,0] [7] [4]) λ _=>ez 0 (vb (decide ((aj ((aj ((aj ((aj ((n1:Int)+(n2:Int)))+(n3:Int)))+(n4:Int)))+(n5:Int)))>0))) [] [0] lq ⟨_,rfl,rfl,λ _=>⟨λ x L=>hA x (HM.2 (.inl L)),λ x L=>hA x (HM.2 (.inr L)),hC,hD,Z⟩⟩
theorem c9: ∀(d:aH)(aa:au)(A1:Option Addr)(n1 D:Nat)(E:Option Addr)(n2 c2:Nat)(Q:Option Addr)(n3 c3:Nat)(A4:Option Addr)(n4 c4:Nat)(al:Option Addr)(n5 c5:Nat),d.wt<=4294967296->ad aa (.sl (d.defs.map aD)) [vl A1 n1 D]->ad aa (.sl (d.exts.map aD)) [vl E n2 c2]->ad aa (.sl (d.ah.map cn)) [vl Q n3 c3]->ad aa (.sl (d.types.map d_)) [vl A4 n4 c4]->ad aa (.sl (d.ai.map d_)) [vl al n5 c5]->Sp 9 [.agg #[vl A1 n1 D,vl E n2 c2,vl Q n3 c3,vl A4 n4 c4,vl al n5 c5]] [] aa (λ v M' _=> ∃r,v=vb r/\M'=[]/\(r=false->(∀x∈d.types,x.nk)/\ ∀x∈d.ai,x.nk)):=by
 intro d aa A1 n1 D E n2 c2 Q n3 c3 A4 n4 c4 al n5 c5 hw a_ aq u j B;simp only[aH.wt]at hw;refine aW Tryz.func9 λ F=>?_
 refine(ra 7 [] [1,0] [1]) ?_;intro b1;obtain⟨k,bI,b9,aF,b3,aw⟩:=fD.rep 8 (tx:=28) (e:=63) (by kernel_rfl) j rD;obtain⟨n,bj,b0,oI,b4,bH⟩:=fD.rep 8 (tx:=28) (e:=63) (by kernel_rfl) B rD;rw[HX]at bI bj;have w:=ax Def.wt d.types;have R:=ax Def.wt d.ai;refine(qz)<|(kz [1,2,4,2,8,1] [0,0] [1,10,11,13,14,17])<|(uz 0 [5,1,2,1] [1,9,10,11,13,14,17]) λ b2=>(ug 0 (b2 0) 63 8 0 [])<|(eF)<|(gq nv 0 n4 [] k.flatten [0] (aw)) λ Aa ca=>(aG [5,1])<|(eF)<|(gq nv (0+n4) n5 ([]++k.flatten) n.flatten [0] (bH)) λ Ab cb=>(aG [])<|(kf [7,1] [] [1,15,16,17])<|(ra 3 [] [1,1,0,0,0] [1,15,16,17]) λ _=>(fo 0 63 8 Ab (0+n4+n5) cb ([]++k.flatten++n.flatten)) ?_;intro ja la bU;have l:=uA (by rw[b9]) (by rw[b0]) aF oI (λ i d cs a b=>(b3 i d cs a b).mono la) (λ i d cs a b=>(b4 i d cs a b).mono la) (by rw[HX];exact bI) (by rw[HX];exact bj) bU;rw[<-JH]at l;have cv:=pz Def.wt d.types d.ai;have cy:0+n4+n5=(d.types++d.ai).length:=by rw[HT];omega
 have U:=u.len;rw[HX]at U;have aK:=ax aL.wt d.ah;refine(wz (ι:=Nat×au) (λ i=>(0+n4+n5)-i.1) (λ i=>i.2) [1,15,16] (λ i=>[(17,vi i.1)]) (λ i c=>c) (λ i=>au.le ja i.2/\ ∀y(h:y<(d.types++d.ai).length),y<i.1->(d.types++d.ai)[y].nk) ⟨0,ja⟩ ⟨lq,λ y _ h=>absurd h (JO y)⟩) ?_;rintro⟨W,aM⟩ ⟨p,q⟩ bS;dsimp only at p q;refine(rv 4 [] 1 [1] [1,15,16,17,18])<|(iz 18 (decide ((W:Int)<(0+n4+n5:Int)))) (λ m=>?_) (λ m=>?_);have m:W<(0+n4+n5):=by have h9:=m;simp at h9;omega
 have X:W<(d.types++d.ai).length:=by omega
 obtain⟨cr,aE,aQ,T2,a1,rfl,aN,aI,a8⟩:=((l.mono p)).elem 8 X (λ cs h=>by obtain⟨B4,p4,t4,B5,t,t5,B6,p6,t6,B7,p7,t7,B8,p8,t8,rfl,bp,bq,bt,av,aA⟩:=cX h;rfl);obtain⟨B4,p4,t4,B5,t,t5,B6,p6,t6,B7,p7,t7,B8,p8,t8,rfl,bp,bq,bt,av,aA⟩:=cX aN;have aX:=aU Def.wt (HY X);simp only[Def.wt]at aX;refine(cP aI (a8))<|(rv 6 [] 1 [2,0,0,0] [1,15,16,17])<|(xz nv m)<|(fj 9 [0,0,0] 2 [1,0,2] [1,4,15,16,17,22]) λ b6=>(cE (args:=[vs ((d.types++d.ai)[W].name)]) (M:=[]) [] (c24 _ _ om)) λ ak P r1 aC=>(rv 1 [] 2 [1] [1,4,15,16,17,23])<|(iz 23 r1) (λ q2=>?_) (λ q2=>?_);refine(rv 5 [] 0 [0,1] [2])<|ez 0 (vb true) [] [0,0,0] lq ⟨true,rfl,rfl,λ h=>by cases h⟩;refine(rv 12 [0] 2 [3,0,0,0] [1,15,16,17,25,26,27]) ?_;have A: ¬iU (d.types++d.ai)[W].name:=by have f:=q2;(try simp at f);exact aC (by assumption)
 have br:=bt.len;rw[HX]at br;have bf:=ax cK.wt (d.types++d.ai)[W].fields;refine(dz [1,0])<|(wz (ι:=Nat×au) (λ i=>p6-i.1) (λ i=>i.2) [1,15,16,17,25,26] (λ i=>[(27,vi i.1)]) (λ i c=>c) (λ i=>au.le ak i.2/\ ∀y(h:y<(d.types++d.ai)[W].fields.length),y<i.1-> ¬iU (d.types++d.ai)[W].fields[y].name) ⟨0,ak⟩ ⟨lq,λ y _ h=>absurd h (JO y)⟩) ?_;rintro⟨ke,bW⟩ ⟨Y,z⟩ b8;dsimp only at Y z;refine(rv 4 [] 1 [1] [1,15,16,17,25,26,27,28])<|(eX 28 ke p6) (λ O=>?_) (λ C=>?_);have ab:ke<(d.types++d.ai)[W].fields.length:=by omega
 obtain⟨cx,aE,aQ,T2,a1,rfl,s,a',aZ⟩:=((bt.mono (P.trans Y))).elem 8 ab (λ cs h=>by obtain⟨D3,e3,f3,D4,aS,f4,s5,D5,o,f5,b5,D6,e6,f6,rfl,_,_,_,_⟩:=dT h;rfl);obtain⟨D3,e3,f3,D4,aS,f4,s5,D5,o,f5,b5,D6,e6,f6,rfl,_,_,_,_⟩:=dT s;have bL:=aU cK.wt (HY ab);simp only[cK.wt]at bL;refine cP a' (aZ) ?_;refine(rv 6 [] 1 [2,0,0,0] [1,15,16,17,25,26,27])<|(xz qC O)<|(fj 8 [0,0,0] 2 [1,2] [1,15,16,17,25,26,27,32]) λ ba=>(cE (args:=[vs ((d.types++d.ai)[W].fields[ke].name)]) (M:=[]) [] (c24 _ _ om)) λ j3 l3 r3 aj=>(rv 1 [] 2 [2] [1,15,16,17,25,26,27,33])<|(iz 33 r3) (λ Z=>?_) (λ Z=>?_);refine(rv 5 [] 0 [0,1] [2])<|ez 0 (vb true) [] [0,0,0] lq ⟨true,rfl,rfl,λ h=>by cases h⟩;refine(rv 9 [] 3 [0] [1,15,16,17,25,26,27])<|(sv 27 (ag O om))<|(dz [1,0])<|lz (b8 ⟨ke+1,j3⟩ ⟨lq,λ y hy I=>(JN.1 I).elim (z y hy) λ e=>by subst e;have g:=Z;(try simp at g);exact aj (by assumption)⟩ dm);refine(rv 9 [] 6 [0] [1,15,16,17])<|(sv 17 (ag m om))<|lz (bS ⟨W+1,bW⟩ ⟨lq,λ y hy I=>(JN.1 I).elim (q y hy) λ e=>by subst e;skip;exact⟨A,fV λ y hy=>z y hy om⟩⟩ dm);have cl: ¬W<(0+n4+n5):=by have h9:=m;simp at h9;omega
 have hA: ∀x∈(d.types++d.ai),x.nk:=fV λ y hy=>q y hy om
 refine(ra 13 [0] [2,1,0,0,0] [37,38,39]) λ _=>(wz (ι:=Nat×au) (λ i=>n3-i.1) (λ i=>i.2) [37,38] (λ i=>[(39,vi i.1)]) (λ i c=>c) (λ i=>au.le aM i.2/\True) ⟨0,aM⟩ ⟨lq,trivial⟩) ?_;rintro⟨kc,bY⟩ ⟨an,H⟩ bT;dsimp only at an H;refine(rv 4 [] 1 [1] [37,38,39,40])<|(eX 40 kc n3) (λ bm=>?_) (λ bX=>?_);have bl:kc<d.ah.length:=by omega
 obtain⟨b7,aE,aQ,T2,a1,rfl,bE,bD,bG⟩:=((u.mono ((la.trans p).trans an))).elem 5 bl (λ cs h=>by obtain⟨B3,p3,t3,B4,p4,t4,rfl,bg,bp⟩:=b' h;rfl);obtain⟨B3,p3,t3,B4,p4,t4,rfl,bg,bp⟩:=b' bE;have bK:=aU aL.wt (HY bl);simp only[aL.wt]at bK;refine cP bD (bG) ?_;refine(rv 6 [] 1 [2,0,0,0] [37,38,39])<|(xz qN bm)<|(fj 8 [0,0,0] 2 [1,2] [37,38,39,44]) λ aV=>(cE (args:=[vs d.ah[kc].name]) (M:=[]) [] (c24 _ _ om)) λ bc a7 r5 K=>(rv 1 [] 2 [2] [37,38,39,45])<|(iz 45 r5) (λ ae=>?_) (λ ae=>?_);refine(rv 5 [] 0 [0,1] [2])<|ez 0 (vb true) [] [0,0,0] lq ⟨true,rfl,rfl,λ h=>by cases h⟩;refine(rv 9 [] 3 [0] [37,38,39])<|(sv 39 (ag bm om))<|(dz [1,0])<|lz (bT ⟨kc+1,bc⟩ ⟨lq,trivial⟩ dm);refine(ra 6 [] [4] [2]) λ _=>ez 0 (vb false) [] [0] lq ⟨_,rfl,rfl,λ _=>⟨λ x L=>hA x (HM.2 (.inl L)),λ x L=>hA x (HM.2 (.inr L))⟩⟩
mutual
def bo.str:bo->bo
 | .mk k r a=>.mk (if k=4 then 3 else k) r a.str
def Kids.str:Kids->Kids
 | .nil=>.nil
 | .cons n v r=>.cons n v.str r.str
end
theorem bo.rJ(v:bo):v.str.kind=if v.kind=4 then 3 else v.kind:=by obtain⟨k,r,a⟩:=v;rfl
theorem bo.tn(v:bo):v.str.raw=v.raw:=by obtain⟨k,r,a⟩:=v;rfl
theorem Kids.k9: ∀a:Kids,a.str.list=a.list.map λ p=>(p.1,p.2.str)
 | .nil=>rfl
 | .cons n v r=>by simp[Kids.str,Kids.list,Kids.k9 r]
theorem bo.qV(v:bo):v.str.kids.list=v.kids.list.map λ p=>(p.1,p.2.str):=by obtain⟨k,r,a⟩:=v;exact Kids.k9 a
def bT.str(a:bT):bT:=⟨a.name,a.v.str⟩
def cB.str(d:cB):cB:=⟨d.name,d.args.map bT.str⟩
def aq.str(a:aq):aq:=⟨a.doc,a.name,a.t,a.bV.map bo.str,a.ah.map cB.str⟩
def cK.str(a:cK):cK:=⟨a.doc,a.name,a.args.map aq.str,a.bV.map bo.str,a.t,a.ah.map cB.str⟩
def a_.str(a:a_):a_:=⟨a.doc,a.name,a.ah.map cB.str⟩
def Def.str(d:Def):Def:=⟨d.kind,d.doc,d.name,d.ah.map cB.str,d.ifaces,d.fields.map cK.str,d.types,d.enums.map a_.str⟩
def aL.str(d:aL):aL:=⟨d.doc,d.name,d.args.map aq.str,d.ba,d.rep⟩
def ae.str(d:ae):ae:=⟨d.doc,d.ah.map cB.str,d.roots⟩
def aH.str(s:aH):aH:=⟨s.defs.map ae.str,s.exts.map ae.str,s.ah.map aL.str,s.types.map Def.str,s.ai.map Def.str⟩
theorem vK{aa}{a:bT}{A}{n c}(h:ad aa (eI a.v.str) [vi a.v.str.kind,vs a.v.raw,vl A n c]):ad aa (fH a.str) [vs a.name,vi a.v.str.kind,vs a.v.raw,vl A n c]:=by
 rw[<-a.v.tn]at h⊢;exact r2 (a:=a.str) h
theorem CR: ∀N v,v.wt<=N->N<=68719476736-> ∀aa A n c,ad aa (eI v) [vi v.kind,vs v.raw,vl A n c]->Sp 102 [.agg #[vi v.kind,vs v.raw,vl A n c]] [] aa (λ r M' C=>M'=[]/\ ∃A' n' ai,r=.agg #[vi v.str.kind,vs v.raw,vl A' n' ai]/\ad C (eI v.str) [vi v.str.kind,vs v.raw,vl A' n' ai]):=by
 intro N;induction N with
 |zero=>intro v hv;have:=v.iP;omega
 |succ N u=>
  intro v hv hN aa A n c K;obtain⟨A0,n0,c0,he,U⟩:=dv K;simp only[List.cons.injEq,JC,and_true,true_and]at he;obtain⟨rfl,rfl,rfl⟩:=he;have O:=U.len;have aV:=v.o1;have ba:=v.kids.kl;have al:(ic v.kids).length=v.kids.list.length:=by rw[e7];simp
  refine aW Tryz.func102 λ F=>(ra 22 [1,1,0,2] [2,1] [1,2,3,13]) λ b1=>jY (ι:=Nat×Unit) (λ i=>aa) (λ i=>⟨[3,0,0],[(1,vp (b1 0) 0),(2,vp (b1 1) 0),(3,vp (b1 2) 0)],.av (b1 2) 220 [vi i.1,vs v.raw,vz]::.av (b1 1) 220 [vi 0,vs ⟨#[]⟩,vz]::.av (b1 0) 220 [vi v.kind,vs v.raw,vl A n c]::F⟩) (λ i=>i.1=v.str.kind) ?_ (λ rest=>?_);rintro⟨J,a⟩ ay;dsimp only at ay;refine(ra 8 [2] [3,1,0,0,0] [2,3,16,17,18]) λ _=>nz 257 4 ?_;refine(wz (ι:=LS) (λ i=>n-i.k) (λ i=>i.im) [2,3,16,17] (λ i=>[(18,vi i.k)]) (λ i c=>sV 1 2 (vl i.A i.k i.c) (sC 0 (own 257 4 (vl i.A i.k i.c) i.k i.aY.flatten) c)) (λ i=>au.le aa i.im/\eQ i.im (ic v.str.kids) 4 i.k i.aY) ⟨0,none,0,[],aa⟩ ⟨lq,eQ.nil _ _ _⟩) ?_;rintro⟨k,A1,D,aY,bd⟩ ⟨hle,f⟩ af;refine(rv 4 [] 1 [1] [2,3,16,17,18,19])<|(eX 19 k n) (λ I=>?_) (λ aO=>?_);have z:k<v.kids.list.length:=by omega
  obtain⟨g2,aE,aQ,T2,a1,rfl,ab,W,p⟩:=(U.mono hle).xE z;obtain⟨A4,n4,c4,rfl,j⟩:=ab;have aF:=v.kids.gA (HY z);refine(cP W (p))<|(rv 6 [] 1 [2,0,0,0] [2,3,16,17,18])<|(xz ei I)<|(fj 4 [0,0] 2 [1] [2,3,5,16,17,18]) λ b5=>(qz)<|(kz [0,6] [3,0,0] [2,3,5,16,17,18,22,23,24,25,27])<|(bj [] (u _ om om _ _ _ _ j)) λ|_,_,ak,P,⟨rfl,H1,i1,w1,rfl,aC⟩=>(aG [1,3])<|(kz [7,1] [] [2,3,16,17,18,22,23,29])<|(uz 0 [1,4] [2,3,16,17,18,22,23,30]) λ b6=>(eF)<|(jo ei k 1 aY [vs v.kids.list[k].1,vi (v.kids.list[k].2.str.kind:Int),vs v.kids.list[k].2.raw,vl H1 i1 w1] [3,0]) λ Q c3=>(aG [])<|(kz [10,1] [] [2,3,16,17,18,31,32])<|(uz 3 [] [2,3,16,17,18]) λ _=>(bL)<|(rv 7 [] 4 [0] [2,3,16,17,18])<|(sv 18 (ag I om))<|(dz [2,1])<|lz (af ⟨k+1,Q,c3,_,ak⟩ ⟨lq,(f.mono P).step (d:=.st [tS v.kids.list[k].1,eI v.kids.list[k].2.str]) (by rw[e7,v.qV,HW,HW,HH z];rfl) (.bY _ _ _ _ (.val _) (.bY _ _ _ _ aC .dU)) rfl⟩ dm);refine(ra 7 [1,2] [5] [2]) λ _=>(fo 0 257 4 A1 k D aY.flatten) λ bk aN hf=>ez 1 (.agg #[vi J,vs v.raw,vl A1 k D]) [] [0,0,0] lq ?_;subst ay;exact⟨rfl,_,_,D,rfl,by have hD:=(f.mono aN).done (c:=D) (by rw[e7,v.qV];simp;omega) hf;have h9:=pN (v:=v.str) hD;rw[v.tn]at h9;exact h9⟩;refine(iz 13 ((v.kind:Int)==4)) (λ Y=>?_) (λ Y=>?_);have Y:v.kind=4:=by have S:=Y;simp at S;omega
  refine(ra 8 [0] [3,0,0] [1,2,3]) ?_;intro _;exact lz (rest ⟨3,()⟩ (by dsimp only;rw[v.rJ,if_pos Y]));have Y:v.kind≠4:=by have S:=Y;simp at S;omega
  refine(ra 5 [] [3,0,0] [1,2,3]) ?_;intro _;exact lz (rest ⟨v.kind,()⟩ (by dsimp only;rw[v.rJ,if_neg Y]))
theorem C_: ∀l aa A n c,aZ bo.wt l<=68719476736->ad aa (.sl (l.map eI)) [vl A n c]->Sp 76 [vl A n c] [] aa (λ r M' C=>M'=[]/\ ∃A' n' ai,r=vl A' n' ai/\ad C (.sl ((l.map bo.str).map eI)) [vl A' n' ai]):=by
 intro l aa A n c hw U;have O:=U.len;rw[HX]at O;have hl:=ax bo.wt l;refine aW Tryz.func76 λ F=>(ra 18 [] [2,1,0,0,0] [3,6,7,8]) λ _=>nz 220 3 ?_;refine(wz (ι:=LS) (λ i=>n-i.k) (λ i=>i.im) [6,7] (λ i=>[(3,vl i.A i.k i.c),(8,vi i.k)]) (λ i c=>sC 0 (own 220 3 (vl i.A i.k i.c) i.k i.aY.flatten) c) (λ i=>au.le aa i.im/\eQ i.im (l.map λ a=>eI a.str) 3 i.k i.aY) ⟨0,none,0,[],aa⟩ ⟨lq,eQ.nil _ _ _⟩) ?_;rintro⟨k,A1,D,aY,bd⟩ ⟨hle,f⟩ af;refine(rv 4 [] 1 [1] [3,6,7,8,9])<|(eX 9 k n) (λ I=>?_) (λ aO=>?_);have z:k<l.length:=by omega
 obtain⟨g2,aE,aQ,T2,a1,rfl,ab,W,p⟩:=((U.mono hle)).elem 3 z (λ cs h=>by obtain⟨Q,n3,c3,rfl,b⟩:=dv h;rfl);obtain⟨Q,n3,c3,rfl,b⟩:=dv ab;refine(cP W (p))<|(rv 6 [] 1 [2,0,0,0] [3,6,7,8])<|(xz vn I) ?_;have aF:=aU bo.wt (HY z);have u:=pN b;refine(fj 7 [0,0,0] 2 [1,2] [6,7,8,12,13]) λ b4=>(cz [] (CR _ l[k] (HZ _) om _ _ _ _ u)) λ|_,_,ak,P,⟨rfl,H1,i1,w1,rfl,aC⟩=>(fj 1 [] 1 [4] [6,7,8,12,15]) λ b5=>(sH vn k 1 aY [vi (l[k].str.kind:Int),vs l[k].raw,vl H1 i1 w1] [3,0]) λ A9 c9=>(rv 9 [] 4 [0] [3,6,7,8])<|(sv 8 (ag I om))<|(dz [2,1])<|lz (af ⟨k+1,A9,c9,_,ak⟩ ⟨lq,(f.mono P).step (d:=eI l[k].str) (by rw[HW,HH z];rfl) aC rfl⟩ dm);refine(ra 7 [] [4] [2]) λ _=>(fo 0 220 3 A1 k D aY.flatten) ?_;intro bk aN hf;exact ez 0 (vl A1 k D) [] [] lq ⟨rfl,_,_,D,rfl,by rw[Hz];exact(f.mono aN).done so hf⟩
theorem c76 o aa A n c(hw:gN o<=68719476736)(U:ad aa (vU o) [vl A n c]):Sp 76 [vl A n c] [] aa (λ r M' C=>M'=[]/\ ∃A' n' ai,r=vl A' n' ai/\ad C (vU (o.map bo.str)) [vl A' n' ai]):=by
 cases o with
 |none=>exact C_ [] aa A n c dc U
 |some v=>exact C_ [v] aa A n c (by simp only[aZ,gN]at*;omega) U
theorem Fy: ∀l aa A n c,aZ bT.wt l<=68719476736->ad aa (.sl (l.map fH)) [vl A n c]->Sp 101 [vl A n c] [] aa (λ r M' C=>M'=[]/\ ∃A' n' ai,r=vl A' n' ai/\ad C (.sl ((l.map bT.str).map fH)) [vl A' n' ai]):=by
 intro l aa A n c hw U;have O:=U.len;rw[HX]at O;have hl:=ax bT.wt l;refine aW Tryz.func101 λ F=>(ra 18 [] [2,1,0,0,0] [3,6,7,8]) λ _=>nz 227 4 ?_;refine(wz (ι:=LS) (λ i=>n-i.k) (λ i=>i.im) [6,7] (λ i=>[(3,vl i.A i.k i.c),(8,vi i.k)]) (λ i c=>sC 0 (own 227 4 (vl i.A i.k i.c) i.k i.aY.flatten) c) (λ i=>au.le aa i.im/\eQ i.im (l.map λ a=>fH a.str) 4 i.k i.aY) ⟨0,none,0,[],aa⟩ ⟨lq,eQ.nil _ _ _⟩) ?_;rintro⟨k,A1,D,aY,bd⟩ ⟨hle,f⟩ af;refine(rv 4 [] 1 [1] [3,6,7,8,9])<|(eX 9 k n) (λ I=>?_) (λ aO=>?_);have z:k<l.length:=by omega
 obtain⟨g2,aE,aQ,T2,a1,rfl,ab,W,p⟩:=((U.mono hle)).elem 4 z (λ cs h=>by obtain⟨Q,n3,c3,rfl,u⟩:=dK h;rfl);obtain⟨Q,n3,c3,rfl,u⟩:=dK ab;have aF:=aU bT.wt (HY z);simp only[bT.wt]at aF;refine(cP W (p))<|(rv 6 [] 1 [2,0,0,0] [3,6,7,8])<|(xz ni I)<|(fj 4 [0,0] 2 [1] [3,5,6,7,8]) λ b4=>(qz)<|(kz [0,5] [0,0] [3,5,6,7,8,12,13,14,16])<|(bj [] (CR _ l[k].v (HZ _) om _ _ _ _ u)) λ|_,_,ak,P,⟨rfl,H1,i1,w1,rfl,aC⟩=>(aG [])<|(kz [6,1] [] [3,6,7,8,12,18])<|(uz 0 [] [3,6,7,8,12,19]) λ b5=>(eF)<|(jo ni k 1 aY [vs l[k].name,vi (l[k].v.str.kind:Int),vs l[k].v.raw,vl H1 i1 w1] [3,0]) λ Aa ca=>(aG [])<|(uz 0 [] [3,6,7,8]) λ _=>(bL)<|(rv 7 [] 4 [0] [3,6,7,8])<|(sv 8 (ag I om))<|(dz [2,1])<|lz (af ⟨k+1,Aa,ca,_,ak⟩ ⟨lq,(f.mono P).step (d:=fH l[k].str) (by rw[HW,HH z];rfl) (vK aC) rfl⟩ dm);refine(ra 7 [] [4] [2]) λ _=>(fo 0 227 4 A1 k D aY.flatten) ?_;intro bk aN hf;exact ez 0 (vl A1 k D) [] [] lq ⟨rfl,_,_,D,rfl,by rw[Hz];exact(f.mono aN).done so hf⟩
theorem c75: ∀l aa A n c,aZ cB.wt l<=68719476736->ad aa (.sl (l.map ju)) [vl A n c]->Sp 75 [vl A n c] [] aa (λ r M' C=>M'=[]/\ ∃A' n' ai,r=vl A' n' ai/\ad C (.sl ((l.map cB.str).map ju)) [vl A' n' ai]):=by
 intro l aa A n c hw U;have O:=U.len;rw[HX]at O;have hl:=ax cB.wt l;refine aW Tryz.func75 λ F=>(ra 18 [] [2,1,0,0,0] [3,6,7,8]) λ _=>nz 171 2 ?_;refine(wz (ι:=LS) (λ i=>n-i.k) (λ i=>i.im) [6,7] (λ i=>[(3,vl i.A i.k i.c),(8,vi i.k)]) (λ i c=>sC 0 (own 171 2 (vl i.A i.k i.c) i.k i.aY.flatten) c) (λ i=>au.le aa i.im/\eQ i.im (l.map λ a=>ju a.str) 2 i.k i.aY) ⟨0,none,0,[],aa⟩ ⟨lq,eQ.nil _ _ _⟩) ?_;rintro⟨k,A1,D,aY,bd⟩ ⟨hle,f⟩ af;refine(rv 4 [] 1 [1] [3,6,7,8,9])<|(eX 9 k n) (λ I=>?_) (λ aO=>?_);have z:k<l.length:=by omega
 obtain⟨g2,aE,aQ,T2,a1,rfl,ab,W,p⟩:=((U.mono hle)).elem 2 z (λ cs h=>by obtain⟨Q,n3,c3,rfl,u⟩:=eB h;rfl);obtain⟨Q,n3,c3,rfl,u⟩:=eB ab;have aF:=aU cB.wt (HY z);simp only[cB.wt]at aF;refine(cP W (p))<|(rv 6 [] 1 [2,0,0,0] [3,6,7,8])<|(xz si I)<|(fj 4 [0,0] 2 [1] [3,5,6,7,8]) λ b4=>(qz)<|(kz [0,5] [0,0] [3,5,6,7,8,12,13,14,16])<|(bj [] (Fy _ _ _ _ _ om u)) λ|_,_,ak,P,⟨rfl,H1,i1,w1,rfl,aC⟩=>(aG [])<|(kz [6,1] [] [3,6,7,8,12,18])<|(uz 0 [] [3,6,7,8,12,19]) λ b5=>(eF)<|(jo si k 1 aY [vs l[k].name,vl H1 i1 w1] [3,0]) λ Aa ca=>(aG [])<|(uz 0 [] [3,6,7,8]) λ _=>(bL)<|(rv 7 [] 4 [0] [3,6,7,8])<|(sv 8 (ag I om))<|(dz [2,1])<|lz (af ⟨k+1,Aa,ca,_,ak⟩ ⟨lq,(f.mono P).step (d:=ju l[k].str) (by rw[HW,HH z];rfl) (uO (d:=l[k].str) aC) rfl⟩ dm);refine(ra 7 [] [4] [2]) λ _=>(fo 0 171 2 A1 k D aY.flatten) ?_;intro bk aN hf;exact ez 0 (vl A1 k D) [] [] lq ⟨rfl,_,_,D,rfl,by rw[Hz];exact(f.mono aN).done so hf⟩
theorem F0: ∀l aa A n c,aZ aq.wt l<=68719476736->ad aa (.sl (l.map cx)) [vl A n c]->Sp 39 [vl A n c] [] aa (λ r M' C=>M'=[]/\ ∃A' n' ai,r=vl A' n' ai/\ad C (.sl ((l.map aq.str).map cx)) [vl A' n' ai]):=by
 intro l aa A n c hw U;have O:=U.len;rw[HX]at O;have hl:=ax aq.wt l;refine aW Tryz.func39 λ F=>(ra 18 [] [2,1,0,0,0] [3,6,7,8]) λ _=>nz 145 7 ?_;refine(wz (ι:=LS) (λ i=>n-i.k) (λ i=>i.im) [6,7] (λ i=>[(3,vl i.A i.k i.c),(8,vi i.k)]) (λ i c=>sC 0 (own 145 7 (vl i.A i.k i.c) i.k i.aY.flatten) c) (λ i=>au.le aa i.im/\eQ i.im (l.map λ a=>cx a.str) 7 i.k i.aY) ⟨0,none,0,[],aa⟩ ⟨lq,eQ.nil _ _ _⟩) ?_;rintro⟨k,A1,D,aY,bd⟩ ⟨hle,f⟩ af;refine(rv 4 [] 1 [1] [3,6,7,8,9])<|(eX 9 k n) (λ I=>?_) (λ aO=>?_);have z:k<l.length:=by omega
 obtain⟨g2,aE,aQ,T2,a1,rfl,ab,W,p⟩:=((U.mono hle)).elem 7 z (λ cs h=>by obtain⟨s3,Q,n3,c3,b3,A4,n4,c4,al,n5,c5,rfl,u,j,B⟩:=cH h;rfl);obtain⟨s3,Q,n3,c3,b3,A4,n4,c4,al,n5,c5,rfl,u,j,B⟩:=cH ab;have aF:=aU aq.wt (HY z);simp only[aq.wt]at aF;refine(cP W (p))<|(rv 6 [] 1 [2,0,0,0] [3,6,7,8])<|(xz sZ I)<|(fj 5 [0,0] 2 [1] [3,5,6,7,8]) λ b4=>(qz)<|(kz [0,2,3,2] [0,0] [3,5,6,7,8,13,15,16])<|(bj [] (c76 _ _ _ _ _ om j)) λ|_,_,ak,P,⟨rfl,H1,i1,w1,rfl,aC⟩=>(aG [])<|(kz [6,1] [] [3,5,6,7,8,14,16,18])<|(bj [] (c75 _ _ _ _ _ om (B.mono P))) λ|_,_,aB,aA,⟨rfl,y,i2,w2,rfl,aR⟩=>(aG [])<|(uz 0 [] [3,5,6,7,8,17]) λ _=>(kz [8,1] [] [3,5,6,7,8,17,19])<|(uz 0 [] [3,5,6,7,8]) λ _=>(bL)<|(fj 4 [0] 2 [2,3] [6,7,8,20,22]) λ e=>(sH sZ k 1 aY [vs l[k].doc,vs l[k].name,vs s3,vl Q n3 c3,vb b3,vl H1 i1 w1,vl y i2 w2] [3,0]) λ Aa ca=>(rv 9 [] 4 [0] [3,6,7,8])<|(sv 8 (ag I om))<|(dz [2,1])<|lz (af ⟨k+1,Aa,ca,_,aB⟩ ⟨lq,(f.mono lq).step (d:=cx l[k].str) (by rw[HW,HH z];rfl) (nB (a:=l[k].str) (u.mono lq) (aC.mono aA) aR) rfl⟩ dm);refine(ra 7 [] [4] [2]) λ _=>(fo 0 145 7 A1 k D aY.flatten) ?_;intro bk aN hf;exact ez 0 (vl A1 k D) [] [] lq ⟨rfl,_,_,D,rfl,by rw[Hz];exact(f.mono aN).done so hf⟩
theorem c37: ∀l aa A n c,aZ ae.wt l<=68719476736->ad aa (.sl (l.map aD)) [vl A n c]->Sp 37 [vl A n c] [] aa (λ r M' C=>M'=[]/\ ∃A' n' ai,r=vl A' n' ai/\ad C (.sl ((l.map ae.str).map aD)) [vl A' n' ai]):=by
 intro l aa A n c hw U;have O:=U.len;rw[HX]at O;have hl:=ax ae.wt l;refine aW Tryz.func37 λ F=>(ra 18 [] [2,1,0,0,0] [3,6,7,8]) λ _=>nz 53 3 ?_;refine(wz (ι:=LS) (λ i=>n-i.k) (λ i=>i.im) [6,7] (λ i=>[(3,vl i.A i.k i.c),(8,vi i.k)]) (λ i c=>sC 0 (own 53 3 (vl i.A i.k i.c) i.k i.aY.flatten) c) (λ i=>au.le aa i.im/\eQ i.im (l.map λ a=>aD a.str) 3 i.k i.aY) ⟨0,none,0,[],aa⟩ ⟨lq,eQ.nil _ _ _⟩) ?_;rintro⟨k,A1,D,aY,bd⟩ ⟨hle,f⟩ af;refine(rv 4 [] 1 [1] [3,6,7,8,9])<|(eX 9 k n) (λ I=>?_) (λ aO=>?_);have z:k<l.length:=by omega
 obtain⟨g2,aE,aQ,T2,a1,rfl,ab,W,p⟩:=((U.mono hle)).elem 3 z (λ cs h=>by obtain⟨E,n2,c2,Q,n3,c3,rfl,aq,u⟩:=bn h;rfl);obtain⟨E,n2,c2,Q,n3,c3,rfl,aq,u⟩:=bn ab;have aF:=aU ae.wt (HY z);simp only[ae.wt]at aF;refine(cP W (p))<|(rv 6 [] 1 [2,0,0,0] [3,6,7,8])<|(xz nX I)<|(fj 8 [0,0,0] 2 [1,2] [3,5,6,7,8,13]) λ b4=>(cz [] (c75 _ _ _ _ _ om aq)) λ|_,_,ak,P,⟨rfl,H1,i1,w1,rfl,aC⟩=>(fj 7 [0,0] 2 [2,3] [6,7,8,16,18]) λ b5=>(sH nX k 1 aY [vs l[k].doc,vl H1 i1 w1,vl Q n3 c3] [3,0]) λ Aa ca=>(rv 9 [] 4 [0] [3,6,7,8])<|(sv 8 (ag I om))<|(dz [2,1])<|lz (af ⟨k+1,Aa,ca,_,ak⟩ ⟨lq,(f.mono P).step (d:=aD l[k].str) (by rw[HW,HH z];rfl) (j8 (d:=l[k].str) aC (u.mono P)) rfl⟩ dm);refine(ra 7 [] [4] [2]) λ _=>(fo 0 53 3 A1 k D aY.flatten) ?_;intro bk aN hf;exact ez 0 (vl A1 k D) [] [] lq ⟨rfl,_,_,D,rfl,by rw[Hz];exact(f.mono aN).done so hf⟩
mutual
def bo.dep:bo->Nat
 | .mk k _ a=>if k<8 then 0 else 1+a.dep
def Kids.dep:Kids->Nat
 | .nil=>0
 | .cons _ v r=>max v.dep r.dep
end
def eg.dep:eg->Nat
 | .named _ _=>0
 | .list t _=>1+t.dep
def DM(o:Option bo):Prop:= ∀v,o=some v->v.dep<=1000
def cB.dp(d:cB):Prop:= ∀a∈d.args,a.v.dep<=1000
def il(l:List cB):Prop:= ∀d∈l,d.dp
def aq.dp(a:aq):Prop:=a.t.dep<=1000/\DM a.bV/\il a.ah
def cK.dp(f:cK):Prop:=(∀a∈f.args,a.dp)/\f.t.dep<=1000/\DM f.bV/\il f.ah
theorem l3 t r:cV (some (t::r))=t:=rfl
theorem px{t}{r}(h:t.k≠0):dR (some (t::r))=some r:=by rw[dR,if_neg h]
theorem Ab{k}{t}{r}(h:t.k=k)(N:k≠0):aA k (some (t::r))=(t.v,some r):=by
 unfold aA;rw[l3,if_pos h,px om]
theorem gj s r:aA 16 (some (nt s::r))=(s,some r):=Ab rfl dc
theorem k5{k}r(N:k≠0):aA k (some (pt k::r))=(e0,some r):=Ab rfl N
theorem pq{k}{t}{r}(h:t.k=k)(N:k≠0):aC k (some (t::r))=(true,some r):=by
 unfold aC;rw[l3,if_pos h,px om]
theorem nr{k}{q}(h:(cV q).k≠k):aC k q=(false,q):=by unfold aC;rw[if_neg h]
abbrev Nx(k:Nat)(r:List Tok):Prop:=(eY r).k≠k
section
variable{α:Type}{m:Q->α×Q}{tk:α->List Tok}{sr:α->α}
theorem o8 e(t:e≠0){C:List Tok->Prop}: ∀(l:List α)n r,(∀x∈l,∀r,C r->m (some (tk x++r))=(sr x,some r))->(∀x∈l,tk x≠[]/\ ∀r,(eY (tk x++r)).k≠e/\C (tk x++r))->C (pt e::r)->
 (l.flatMap tk).length<n->fv e m n (some (l.flatMap tk++pt e::r))=(l.map sr,some r)
 |[],0,r,_,_,_,O=>by simp at O
 |[],n+1,r,_,_,_,_=>by
  show fv e m (n+1) (some (pt e::r))=_;rw[fv,if_pos (show(eY (pt e::r)).k=e from rfl),px t];rfl
 |x::l,0,r,_,_,_,O=>by simp at O
 |x::l,n+1,r,hm,hh,J,O=>by
  have L:=hh x sm;rw[G0,HT]at O;have hp:0<(tk x).length:=JT.2 L.1;have af:=o8 e t (C:=C) l n r (λ y hy=>hm y (Hb _ hy)) (λ y hy=>hh y (Hb _ hy)) J om;have hC:C (l.flatMap tk++pt e::r):=by
   cases l with
   |nil=>exact J
   |cons y c=>rw[G0,Js];exact((hh y sm).2 _).2
  rw[G0,Js,fv,if_neg (L.2 _).1];simp only[hm x sm _ hC,af,HF]
theorem w9 b e(aj:b≠0)(t:e≠0){C:List Tok->Prop}(l:List α)r(hm: ∀x∈l,∀r,C r->m (some (tk x++r))=(sr x,some r))(hh: ∀x∈l,tk x≠[]/\ ∀r,(eY (tk x++r)).k≠e/\C (tk x++r))(J:C (pt e::r)):
 dx b e m (some (pt b::(l.flatMap tk++pt e::r)))=(l.map sr,some r):=by
 unfold dx;rw[l3,if_pos rfl,px aj];refine o8 e t (C:=C) l _ r hm hh J ?_;show _<(l.flatMap tk++pt e::r).length+1;rw[HT];omega
theorem mz b e(aj:b≠0)(t:e≠0){C:List Tok->Prop}(l:List α)r(V:Nx b r)(hm: ∀x∈l,∀r,C r->m (some (tk x++r))=(sr x,some r))(hh: ∀x∈l,tk x≠[]/\ ∀r,(eY (tk x++r)).k≠e/\C (tk x++r))(J: ∀r,C (pt e::r)):
 db b e m (some (hM b e (l.flatMap tk) l.isEmpty++r))=(l.map sr,some r):=by
 unfold db;cases l with
 |nil=>rw[show hM b e (([]:List α).flatMap tk) ([]:List α).isEmpty++r=r from rfl,if_neg (show¬(cV (some r)).k=b from V)];rfl
 |cons x l=>
  have aw:hM b e ((x::l).flatMap tk) (x::l).isEmpty++r=pt b::((x::l).flatMap tk++pt e::r):=by simp[hM]
  rw[aw,l3,if_pos rfl,px aj,if_neg];refine o8 e t (C:=C) (x::l) _ r hm hh (J r) ?_;show _<((x::l).flatMap tk++pt e::r).length+1;rw[HT];omega;rw[G0,Js];exact((hh x sm).2 _).1
theorem pM k{C:List Tok->Prop}: ∀(l:List α)n r,(∀x∈l,∀r,C r->m (some (tk x++r))=(sr x,some r))->(∀x∈l,tk x≠[]/\ ∀r,(eY (tk x++r)).k=k/\C (tk x++r))->C r->Nx k r->
 (l.flatMap tk).length<n->cy k m n (some (l.flatMap tk++r))=(l.map sr,some r)
 |[],0,r,_,_,_,_,O=>by simp at O
 |[],n+1,r,_,_,_,U,_=>by
  show cy k m (n+1) (some r)=_;rw[cy,if_neg (show¬(cV (some r)).k=k from U)];rfl
 |x::l,0,r,_,_,_,_,O=>by simp at O
 |x::l,n+1,r,hm,hh,J,U,O=>by
  have L:=hh x sm;rw[G0,HT]at O;have hp:0<(tk x).length:=JT.2 L.1;have af:=pM k (C:=C) l n r (λ y hy=>hm y (Hb _ hy)) (λ y hy=>hh y (Hb _ hy)) J U om;have hC:C (l.flatMap tk++r):=by
   cases l with
   |nil=>exact J
   |cons y c=>rw[G0,Js];exact((hh y sm).2 _).2
  rw[G0,Js,cy,if_pos (show(cV (some (tk x++_))).k=k from(L.2 _).1)];simp only[hm x sm _ hC,af,HF]
end
theorem Kids.mo: ∀(a:Kids)o,a.bk o=a.list.flatMap λ p=>(if o then[nt p.1,pt 8]else[])++p.2.bk
 | .nil,_=>rfl
 | .cons n v r,o=>by rw[Kids.bk,Kids.list,G0,Kids.mo r o]
theorem Kids.pf: ∀{a:Kids}{p},p∈a.list->p.2.dep<=a.dep
 | .cons n v r,p,hp=>by
  rw[Kids.dep];rcases G6.1 hp with rfl|hp
  exact Nat.le_max_left _ _;exact Nat.le_trans (Kids.pf hp) (Nat.le_max_right _ _)
theorem bo.hd(v:bo)(h:v.pr)r: ∃t q,v.bk++r=t::q/\(t.k=11\/t.k=13\/(16<=t.k/\t.k<=19))/\v.bk≠[]:=by
 obtain⟨k,raw,a⟩:=v;rw[bo.bk];obtain⟨G,-,-⟩:=h
 match k,G with
 |1,_=>exact⟨_,_,rfl,by simp,by simp⟩
 |2,_=>exact⟨_,_,rfl,by simp,by simp⟩
 |3,_=>exact⟨_,_,rfl,by simp,by simp⟩
 |4,_=>exact⟨_,_,rfl,by simp,by simp⟩
 |5,_=>exact⟨_,_,rfl,by simp,by simp⟩
 |6,_=>exact⟨_,_,rfl,by simp,by simp⟩
 |7,_=>exact⟨_,_,rfl,by simp,by simp⟩
 |8,_=>exact⟨_,_,rfl,by simp,by simp⟩
 |9,_=>exact⟨_,_,rfl,by simp,by simp⟩
theorem zI: ∀n(v:bo)c r,v.pr->v.dep<=n->ga n c (some (v.bk++r))=(v.str,some r):=by
 have leaf: ∀(m:Rc bo)(v:bo)(c:Bool)(r:List Tok),v.pr->v.kind<8->c1 m c (some (v.bk++r))=(v.str,some r):=by
  intro m v c r hp U;obtain⟨k,raw,a⟩:=v;obtain⟨G,H,S⟩:=hp;simp[bo.kind]at U;obtain rfl:=H U;rw[bo.bk,bo.str]
  match k,G with
  |1,_=>rfl
  |2,_=>rfl
  |3,_=>rfl
  |4,_=>rfl
  |5,h=>show(bo.mk (fl raw) raw .nil,_)=_;rw[h.2];rfl
  |6,h=>show(bo.mk (fl raw) raw .nil,_)=_;rw[h.2];rfl
  |7,h=>show(bo.mk (fl raw) raw .nil,_)=_;rw[h.2];rfl
  |8,_=>exact absurd U dc
  |9,_=>exact absurd U dc
 intro n;induction n with
 |zero=>
  intro v c r hp hd;refine leaf none v c r hp ?_;obtain⟨k,raw,a⟩:=v;rw[bo.dep]at hd;simp only[bo.kind];rcases Hh k 8 with h|h
  exact h;rw[if_neg om]at hd;omega
 |succ n af=>
  intro v c r hp hd;rcases Hh v.kind 8 with U|U
  exact leaf _ v c r hp U;obtain⟨k,raw,a⟩:=v;obtain⟨G,H,S⟩:=hp;simp[bo.kind]at U;rw[bo.dep,if_neg om]at hd;have d: ∀o,Kids.of ((a.list.map λ p=>(p.1,p.2.str)).map id)=a.str\/o=true:=λ o=>.inl (by rw[List.map_id,<-Kids.k9,Kids.qg])
  have b:Kids.of (a.list.map λ p=>(p.1,p.2.str))=a.str:=by rw[<-Kids.k9,Kids.qg]
  match k,G,S,U with
  |8,G,S,_=>
   obtain rfl:raw=e0:=G;have e:(bo.mk 8 e0 a).bk++r=pt 11::(a.list.flatMap (λ p=>p.2.bk)++pt 12::r):=by
    simp[bo.bk,Kids.mo]
   have key:=w9 (m:=l4 (ga n c)) (tk:=λ p:ao×bo=>p.2.bk) (sr:=λ p=>(p.1,p.2.str)) 11 12 dc dc (C:=λ _=>True) a.list r
    (λ p hp r _=>by
     have h:=Kids.lh S hp;have O:p.1=e0:=by simpa using h.1
     show(((e0,(ga n c (some (p.2.bk++r))).1),(ga n c (some (p.2.bk++r))).2):(ao×bo)×Q)=_;rw[af p.2 c r h.2 (by have:=Kids.pf hp;omega),O])
    (λ p hp=>by
     have h:=Kids.lh S hp;exact⟨(bo.hd p.2 h.2 []).choose_spec.choose_spec.2.2,λ r=>by obtain⟨t,q,e,B,_⟩:=bo.hd p.2 h.2 r;rw[e];exact⟨by show t.k≠12;omega,trivial⟩⟩) trivial
   rw[e];show c1 (some (ga n c)) c _=_;unfold c1;simp only[l3,if_true];rw[key];rw[b];rfl
  |9,G,S,_=>
   obtain rfl:raw=e0:=G;have e:(bo.mk 9 e0 a).bk++r=pt 13::(a.list.flatMap (λ p=>nt p.1::pt 8::p.2.bk)++pt 14::r):=by
    simp[bo.bk,Kids.mo]
   have key:=w9 (m:=hK (ga n c)) (tk:=λ p:ao×bo=>nt p.1::pt 8::p.2.bk) (sr:=λ p=>(p.1,p.2.str)) 13 14 dc dc (C:=λ _=>True) a.list r
    (λ p hp r _=>by
     have h:=Kids.lh S hp;unfold hK;dsimp only[Hi];rw[gj];dsimp only;rw[k5 _ dc];dsimp only;rw[af p.2 c r h.2 (by have:=Kids.pf hp;omega)])
    (λ p hp=>⟨by simp,λ r=>⟨by show(16:Nat)≠14;decide,trivial⟩⟩) trivial
   rw[e];show c1 (some (ga n c)) c _=_;unfold c1;simp only[l3];rw[if_neg dc,if_pos trivial];rw[key];rw[b];rfl
  |k+10,G,_,_=>exact G.elim
theorem uc b{r}(h:Nx 2 r):aC 2 (some (Ah b++r))=(b,some r):=by
 cases b with
 |false=>exact nr (q:=some r) h
 |true=>exact pq rfl dc
theorem ud: ∀t n r,t.dep<=n->Nx 2 r->ks n (some (t.bk++r))=(t,some r)
 | .named nm nn,n,r,_,h=>by
  have key: ∀m:Rc eg,iv m (some (nt nm::(Ah nn++r)))=(.named nm nn,some r):=λ m=>by
   unfold iv;rw[nr (k:=11) (by show(16:Nat)≠11;decide)];dsimp only;rw[if_neg dc,gj];dsimp only;rw[uc nn h]
  cases n with
  |zero=>exact key none
  |succ n=>exact key _
 | .list t nn,0,r,hd,h=>by rw[eg.dep]at hd;omega
 | .list t nn,n+1,r,hd,h=>by
  have af:=ud t n (pt 12::(Ah nn++r)) (by rw[eg.dep]at hd;omega) (by show(12:Nat)≠2;decide);have e:(eg.list t nn).bk++r=pt 11::(t.bk++(pt 12::(Ah nn++r))):=by simp[eg.bk]
  rw[e];show iv (some (ks n)) _=_;unfold iv;rw[pq (k:=11) rfl dc];dsimp only;rw[if_pos rfl,af];dsimp only;rw[k5 _ dc];dsimp only;rw[uc nn h]
theorem Au c{a:bT}(h:a.pr)(hd:a.v.dep<=1000)r:gh c (some (a.bk++r))=(a.str,some r):=by
 have e:a.bk++r=nt a.name::pt 8::(a.v.bk++r):=rfl;unfold gh;rw[e,gj];dsimp only;rw[k5 _ dc];dsimp only;rw[zI 1000 a.v c r h.2 hd];rfl
theorem mB{k b e}{l}{em}{r}(U:k≠b)(h:Nx k r):Nx k (hM b e l em++r):=by
 cases em with
 |true=>exact h
 |false=>show b≠k;omega
theorem jH{k}{l}{r}(U:k≠10)(h:Nx k r):Nx k (du l++r):=by
 cases l with
 |nil=>exact h
 |cons d l=>show(10:Nat)≠k;omega
theorem zV{k}{o}{r}(U:k≠9)(h:Nx k r):Nx k (ru o++r):=by
 cases o with
 |none=>exact h
 |some v=>show(9:Nat)≠k;omega
theorem CK c{d:cB}(h:d.pr)(hd:d.dp)r(V:Nx 5 r):ko c (some (d.bk++r))=(d.str,some r):=by
 have e:d.bk++r=pt 10::nt d.name::(hM 5 6 (d.args.flatMap bT.bk) d.args.isEmpty++r):=rfl;unfold ko;rw[e,k5 _ dc];dsimp only;rw[gj];dsimp only;rw[mz (tk:=bT.bk) (sr:=bT.str) 5 6 dc dc (C:=λ _=>True) d.args r V (λ x L r _=>Au c (h.2 x L) (hd x L) r) (λ x L=>⟨by simp[bT.bk],λ r=>⟨by show(16:Nat)≠6;decide,trivial⟩⟩) λ _=>trivial];rfl
theorem hF c{l}(h:iK l)(hd:il l)r(aI:Nx 5 r)(aC:Nx 10 r):a7 c (some (du l++r))=(l.map cB.str,some r):=
 pM (m:=ko c) (tk:=cB.bk) (sr:=cB.str) 10 (C:=Nx 5) l _ r (λ x L r V=>CK c (h x L) (hd x L) r V) (λ x L=>⟨by simp[cB.bk],λ r=>⟨rfl,by show(10:Nat)≠5;decide⟩⟩) aI aC (by
  show _<(du l++r).length+1;rw[HT];show _<(l.flatMap cB.bk).length+_+1;omega)
theorem C4{o}(h:wu o)(hd:DM o){r}(V:Nx 9 r):hW (some (ru o++r))=(o.map bo.str,some r):=by
 unfold hW;cases o with
 |none=>rw[show ru none++r=r from rfl,nr (q:=some r) V];rfl
 |some v=>
  rw[show ru (some v)++r=pt 9::(v.bk++r)from rfl,pq (k:=9) rfl dc];dsimp only;rw[if_pos rfl,zI 1000 v true r (h v rfl) (hd v rfl)];rfl
theorem mA{s x}{r}:bC (some (b7 s++nt x::r))=(s,some (nt x::r)):=by
 unfold bC b7;by_cases N:s.size=0;rw[if_pos N];show(if(16:Nat)=20\/(16:Nat)=19 then _ else _)=_;rw[if_neg dc,kZ N];rfl;rw[if_neg N];show(if(20:Nat)=20\/(20:Nat)=19 then _ else _)=_;rw[if_pos (.inl rfl)];rfl
structure Fl(r:List Tok):Prop where
 a:Nx 2 r
 b:Nx 9 r
 c:Nx 10 r
 d:Nx 5 r
 e:Nx 4 r
 f:Nx 13 r
 g:Nx 15 r
theorem Fl.of{k}{t}{r}(h:t.k=k)(U:k=6\/k=14\/k=16\/k=20):Fl (t::r):=by
 constructor<;>(show t.k≠_;omega)
theorem Fl.nil:Fl []:=by constructor<;>(show(1:Nat)≠_;decide)
theorem Fl.desc{s x}{r}:Fl (b7 s++nt x::r):=by
 unfold b7;split;exact Fl.of (k:=16) rfl dc;exact Fl.of (k:=20) rfl dc
theorem pT{s x}{r}:(eY (b7 s++nt x::r)).k=16\/(eY (b7 s++nt x::r)).k=20:=by
 unfold b7;split;exact .inl rfl;exact .inr rfl
theorem A4{a:aq}(h:a.pr)(hd:a.dp)r(V:Fl r):fG (some (a.bk++r))=(a.str,some r):=by
 obtain⟨G,H,S,Y,aI⟩:=h;obtain⟨d1,d2,d3⟩:=hd;have e:a.bk++r=b7 a.doc++nt a.name::(pt 8::(a.t.bk++(ru a.bV++(du a.ah++r)))):=by simp[aq.bk]
 unfold fG;rw[e,mA];dsimp only;rw[gj];dsimp only;rw[k5 _ dc];dsimp only;rw[ud a.t 1000 _ d1 (zV dc (jH dc V.a))];dsimp only;rw[C4 Y d2 (jH dc V.b)];dsimp only;rw[hF true aI d3 r V.d V.c];rfl
theorem tH{l}(h: ∀a∈l,a.pr)(hd: ∀a∈l,a.dp)r(V:Nx 5 r):gP (some (fB l++r))=(l.map aq.str,some r):=
 mz (m:=fG) (tk:=aq.bk) (sr:=aq.str) 5 6 dc dc (C:=Fl) l r V (λ x L r V=>A4 (h x L) (hd x L) r V) (λ x L=>⟨by simp[aq.bk],λ r=>by
  have e: ∃q,x.bk++r=b7 x.doc++nt x.name::q:=⟨_,by rw[aq.bk,Js];rfl⟩;obtain⟨q,e⟩:=e;rw[e];exact⟨by have:=pT (s:=x.doc) (x:=x.name) (r:=q);omega,Fl.desc⟩⟩) λ r=>Fl.of rfl dc
theorem Ez{f:cK}(h:f.pr)(hd:f.dp)(ha:f.args=[])r(V:Fl r):nV (some (f.bk++r))=(f.str,some r):=by
 obtain⟨G,H,S,Y,aI,h6⟩:=h;obtain⟨d0,d1,d2,d3⟩:=hd;have e:f.bk++r=b7 f.doc++nt f.name::(pt 8::(f.t.bk++(ru f.bV++(du f.ah++r)))):=by simp[cK.bk,ha,fB,hM]
 unfold nV;rw[e,mA];dsimp only;rw[gj];dsimp only;rw[k5 _ dc];dsimp only;rw[ud f.t 1000 _ d1 (zV dc (jH dc V.a))];dsimp only;rw[C4 Y d2 (jH dc V.b)];dsimp only;rw[hF true h6 d3 r V.d V.c];unfold cK.str;rw[ha];rfl
theorem Cl{f:cK}(h:f.pr)(hd:f.dp)(ha:f.bV=none)r(V:Fl r):jd (some (f.bk++r))=(f.str,some r):=by
 obtain⟨G,H,S,Y,aI,h6⟩:=h;obtain⟨d0,d1,d2,d3⟩:=hd;have e:f.bk++r=b7 f.doc++nt f.name::(fB f.args++(pt 8::(f.t.bk++(du f.ah++r)))):=by simp[cK.bk,ha,ru]
 unfold jd;rw[e,mA];dsimp only;rw[gj];dsimp only;rw[tH S d0 _ (by show(8:Nat)≠5;decide)];dsimp only;rw[k5 _ dc];dsimp only;rw[ud f.t 1000 _ d1 (jH dc V.a)];dsimp only;rw[hF true h6 d3 r V.d V.c];unfold cK.str;rw[ha];rfl
theorem FA{f:a_}(h:f.pr)(hd:il f.ah)r(V:Fl r):ri (some (f.bk++r))=(f.str,some r):=by
 obtain⟨G,H,S⟩:=h;have e:f.bk++r=b7 f.doc++nt f.name::(du f.ah++r):=by simp[a_.bk]
 unfold ri;rw[e,mA];dsimp only;rw[gj];dsimp only;rw[hF true S hd r V.d V.c];rfl
theorem xU(f:cK)r: ∃q,f.bk++r=b7 f.doc++nt f.name::q:=⟨_,by rw[cK.bk,Js];rfl⟩
theorem Cb(f:a_)r: ∃q,f.bk++r=b7 f.doc++nt f.name::q:=⟨_,by rw[a_.bk,Js];rfl⟩
theorem v8{s x}{l r}{e}(he:e=6\/e=14)(h: ∃q,l++r=b7 s++nt x::q):(eY (l++r)).k≠e/\Fl (l++r):=by
 obtain⟨q,h⟩:=h;rw[h];exact⟨by have:=pT (s:=s) (x:=x) (r:=q);omega,Fl.desc⟩
theorem BI{l:List cK}(h: ∀f∈l,f.pr)(hd: ∀f∈l,f.dp)(ha: ∀f∈l,f.bV=none)r(V:Nx 13 r):m_ (some (hM 13 14 (l.flatMap cK.bk) l.isEmpty++r))=(l.map cK.str,some r):=
 mz (m:=jd) (tk:=cK.bk) (sr:=cK.str) 13 14 dc dc (C:=Fl) l r V (λ x L r V=>Cl (h x L) (hd x L) (ha x L) r V) (λ x L=>⟨by simp[cK.bk],λ r=>v8 dc (xU x r)⟩) λ r=>Fl.of rfl dc
theorem B_{l:List cK}(h: ∀f∈l,f.pr)(hd: ∀f∈l,f.dp)(ha: ∀f∈l,f.args=[])r(V:Nx 13 r):sU (some (hM 13 14 (l.flatMap cK.bk) l.isEmpty++r))=(l.map cK.str,some r):=
 mz (m:=nV) (tk:=cK.bk) (sr:=cK.str) 13 14 dc dc (C:=Fl) l r V (λ x L r V=>Ez (h x L) (hd x L) (ha x L) r V) (λ x L=>⟨by simp[cK.bk],λ r=>v8 dc (xU x r)⟩) λ r=>Fl.of rfl dc
theorem BZ{l:List a_}(h: ∀f∈l,f.pr)(hd: ∀f∈l,il f.ah)r(V:Nx 13 r):sN (some (hM 13 14 (l.flatMap a_.bk) l.isEmpty++r))=(l.map a_.str,some r):=
 mz (m:=ri) (tk:=a_.bk) (sr:=a_.str) 13 14 dc dc (C:=Fl) l r V (λ x L r V=>FA (h x L) (hd x L) r V) (λ x L=>⟨by simp[a_.bk],λ r=>v8 dc (Cb x r)⟩) λ r=>Fl.of rfl dc
theorem w3{k}(U:k≠0/\k≠16){m:Q->ao×Q}{l}(hl:l≠[])(hm: ∀x∈l,∀r,m (some (nt x::r))=(x,some r)){r}(V:Nx k r):fR k m (some (f' k l++r))=(l,some r):=by
 cases l with
 |nil=>exact absurd rfl hl
 |cons a l=>
  unfold fR;rw[show f' k (a::l)++r=nt a::((l.flatMap λ b=>[pt k,nt b])++r)from rfl,nr (k:=k) (by show(16:Nat)≠k;omega),hm a sm];dsimp only;rw[pM (m:=λ q=>m (dR q)) (tk:=λ b=>[pt k,nt b]) (sr:=id) k (C:=λ _=>True) l _ r (λ x L r _=>by
   show m (dR (some (pt k::nt x::r)))=_;rw[px U.1,hm x (Hb _ L)];rfl) (λ x L=>⟨by simp,λ r=>⟨rfl,trivial⟩⟩) trivial V (by
   show _<((l.flatMap λ b=>[pt k,nt b])++r).length+1;rw[HT];omega)]
  simp
theorem Dv{l:List ao}{r}(G:(eY r).v≠a8)(Y:Nx 4 r):fC (some ((if l.isEmpty then[]else nt a8::f' 4 l)++r))=(l,some r):=by
 unfold fC;cases l with
 |nil=>show(if(eY r).v=a8 then _ else _)=_;rw[if_neg G];rfl
 |cons a l=>
  show(if a8=a8 then fR 4 (aA 16) (dR (some (nt a8::(f' 4 (a::l)++r))))else _)=_;rw[if_pos rfl,px dc,w3 dc sm (λ x _ r=>gj x r) Y]
theorem Dj{l:List ao}{r}(h9:Nx 9 r)(aQ:Nx 15 r):j3 (some ((if l.isEmpty then[]else pt 9::f' 15 l)++r))=(l,some r):=by
 unfold j3;cases l with
 |nil=>rw[show(if([]:List ao).isEmpty then[]else pt 9::f' 15 [])++r=r from rfl,nr (q:=some r) h9];rfl
 |cons a l=>
  rw[show(if(a::l).isEmpty then[]else pt 9::f' 15 (a::l))++r=pt 9::(f' 15 (a::l)++r)from rfl,pq (k:=9) rfl dc];dsimp only;rw[if_pos rfl,w3 dc sm (λ x _ r=>gj x r) aQ]
theorem nY{s}{r}:dM s (some (nt s::r))=some r:=by unfold dM;rw[l3,if_pos ⟨rfl,rfl⟩,px (by show(16:Nat)≠0;decide)]
def Def.sh(d:Def):Prop:=
 (d.kind=jQ/\d.ifaces=[]/\d.fields=[]/\d.types=[]/\d.enums=[])\/
 ((d.kind=dg\/d.kind=bM)/\d.types=[]/\d.enums=[]/\ ∀f∈d.fields,f.bV=none)\/
 (d.kind=lJ/\d.ifaces=[]/\d.fields=[]/\d.enums=[])\/
 (d.kind=n_/\d.ifaces=[]/\d.fields=[]/\d.types=[])\/
 (d.kind=lE/\d.ifaces=[]/\d.types=[]/\d.enums=[]/\ ∀f∈d.fields,f.args=[])
def Def.dp(d:Def):Prop:=il d.ah/\(∀f∈d.fields,f.dp)/\ ∀e∈d.enums,il e.ah
def Def.body(d:Def):List Tok:=nt (fL d.kind)::nt d.name::((if d.ifaces.isEmpty then[]else nt a8::f' 4 d.ifaces)++(du d.ah++
 ((if d.types.isEmpty then[]else pt 9::f' 15 d.types)++(hM 13 14 (d.fields.flatMap cK.bk) d.fields.isEmpty++hM 13 14 (d.enums.flatMap a_.bk) d.enums.isEmpty))))
theorem Def.qq x(d:Def):d.bk x=b7 d.doc++(l7 x++d.body):=rfl
section
variable{d:Def}{r:List Tok}
theorem GA:fL jQ=cw:=by decide
theorem GN:fL lJ=c_:=by decide
theorem Gj:fL n_=ey:=by decide
theorem Gs:fL lE=da:=by decide
theorem xa doc(hp:d.pr)(hd:d.dp)(V:Fl r)(U:d.kind=jQ)(G:d.ifaces=[])(H:d.fields=[])(S:d.types=[])(Y:d.enums=[]):dS doc (some (d.body++r))=({d.str with doc:=doc},some r):=by
 obtain⟨_,_,_,_,p3,_⟩:=hp;have e:d.body++r=nt cw::nt d.name::(du d.ah++r):=by unfold Def.body;rw[U,GA,G,H,S,Y];simp[hM]
 unfold dS;rw[e,nY,gj];dsimp only;rw[hF true p3 hd.1 r V.d V.c];unfold Def.str;rw[U,G,H,S,Y];rfl
theorem Ad kw A doc(hp:d.pr)(hd:d.dp)(V:Fl r)(U:d.kind=A)(b:fL A=kw)(S:d.types=[])(Y:d.enums=[])(hf: ∀f∈d.fields,f.bV=none)(O:d.fields≠[]):fc kw A doc (some (d.body++r))=({d.str with doc:=doc},some r):=by
 obtain⟨_,_,_,_,p3,p4,t,_⟩:=hp;have e:d.body++r=nt kw::nt d.name::((if d.ifaces.isEmpty then[]else nt a8::f' 4 d.ifaces)++(du d.ah++(hM 13 14 (d.fields.flatMap cK.bk) d.fields.isEmpty++r))):=by
  unfold Def.body;rw[U,b,S,Y];simp[hM]
 have hb: ∃q,hM 13 14 (d.fields.flatMap cK.bk) d.fields.isEmpty++r=pt 13::q:=by
  cases g:d.fields with
  |nil=>exact absurd g O
  |cons f l=>exact⟨_,rfl⟩
 have hv:(eY (du d.ah++(hM 13 14 (d.fields.flatMap cK.bk) d.fields.isEmpty++r))).v≠a8:=by
  obtain⟨q,hb⟩:=hb;rw[hb];cases d.ah with
  |nil=>show e0≠a8;decide
  |cons a l=>show e0≠a8;decide
 unfold fc;rw[e,nY,gj];dsimp only;rw[Dv hv (jH dc (mB dc V.e))];dsimp only;rw[hF true p3 hd.1 _ (mB dc V.d) (mB dc V.c)];dsimp only;rw[BI (λ f h=>(t f h).1) hd.2.1 hf r V.f];unfold Def.str;rw[U,S,Y];rfl
theorem yg doc(hp:d.pr)(hd:d.dp)(V:Fl r)(U:d.kind=lJ)(G:d.ifaces=[])(H:d.fields=[])(Y:d.enums=[]):en doc (some (d.body++r))=({d.str with doc:=doc},some r):=by
 obtain⟨_,_,_,_,p3,_⟩:=hp;have e:d.body++r=nt c_::nt d.name::(du d.ah++((if d.types.isEmpty then[]else pt 9::f' 15 d.types)++r)):=by unfold Def.body;rw[U,GN,G,H,Y];simp[hM]
 have L: ∀k,k≠9->Nx k r->Nx k ((if d.types.isEmpty then[]else pt 9::f' 15 d.types)++r):=λ k U h=>by
  cases d.types with
  |nil=>exact h
  |cons a l=>show(9:Nat)≠k;omega
 unfold en;rw[e,nY,gj];dsimp only;rw[hF true p3 hd.1 _ (L 5 dc V.d) (L 10 dc V.c)];dsimp only;rw[Dj V.b V.g];unfold Def.str;rw[U,G,H,Y];rfl
theorem Bp doc(hp:d.pr)(hd:d.dp)(V:Fl r)(U:d.kind=n_)(G:d.ifaces=[])(H:d.fields=[])(S:d.types=[]):fX doc (some (d.body++r))=({d.str with doc:=doc},some r):=by
 obtain⟨_,_,_,_,p3,_,_,_,p7⟩:=hp;have e:d.body++r=nt ey::nt d.name::(du d.ah++(hM 13 14 (d.enums.flatMap a_.bk) d.enums.isEmpty++r)):=by unfold Def.body;rw[U,Gj,G,H,S];simp[hM]
 unfold fX;rw[e,nY,gj];dsimp only;rw[hF true p3 hd.1 _ (mB dc V.d) (mB dc V.c)];dsimp only;rw[BZ p7 hd.2.2 r V.f];unfold Def.str;rw[U,G,H,S];rfl
theorem yU c doc(hp:d.pr)(hd:d.dp)(V:Fl r)(U:d.kind=lE)(G:d.ifaces=[])(S:d.types=[])(Y:d.enums=[])(hf: ∀f∈d.fields,f.args=[]):eu c doc (some (d.body++r))=({d.str with doc:=doc},some r):=by
 obtain⟨_,_,_,_,p3,_,t,_⟩:=hp;have e:d.body++r=nt da::nt d.name::(du d.ah++(hM 13 14 (d.fields.flatMap cK.bk) d.fields.isEmpty++r)):=by unfold Def.body;rw[U,Gs,G,S,Y];simp[hM]
 unfold eu;rw[e,nY,gj];dsimp only;rw[hF c p3 hd.1 _ (mB dc V.d) (mB dc V.c)];dsimp only;rw[B_ (λ f h=>(t f h).1) hd.2.1 hf r V.f];unfold Def.str;rw[U,G,S,Y];rfl
theorem Ac doc(hp:d.pr)(hd:d.dp)(aJ:d.sh)(O:gC d.kind->d.fields≠[])(V:Fl r):
 gn doc (some (d.body++r))=({d.str with doc:=doc},some r)/\gg (eY (d.body++r)).v/\(bP ({d.str with doc:=e0},some r)=({d.str with doc:=e0},some r)->hN (some (d.body++r))=({d.str with doc:=e0},some r)):=by
 have hb:eY (d.body++r)=nt (fL d.kind):=rfl;have z:cV (some (d.body++r))=nt (fL d.kind):=rfl;unfold gn hN;rw[z,hb,if_pos (show(nt (fL d.kind)).k=16 from rfl)];rcases aJ with⟨U,G,H,S,Y⟩|⟨U|U,S,Y,hf⟩|⟨U,G,H,Y⟩|⟨U,G,H,S⟩|⟨U,G,S,Y,hf⟩
 have k:=λ doc=>xa doc hp hd V U G H S Y
 have a:fL d.kind=cw:=by rw[U];decide
 rw[a];refine⟨by rw[if_pos rfl,k],by unfold gg;simp,λ aJ=>by rw[if_pos rfl,k,aJ]⟩;have k:=λ doc=>Ad cM dg doc hp hd V U dc S Y hf (O (.inl U))
 have a:fL d.kind=cM:=by rw[U];decide
 rw[a];refine⟨by rw[if_neg dc,if_pos rfl,k],by unfold gg;simp,λ aJ=>by rw[if_neg dc,if_pos rfl,k,aJ]⟩;have k:=λ doc=>Ad aO bM doc hp hd V U dc S Y hf (O (.inr (.inl U)))
 have a:fL d.kind=aO:=by rw[U];decide
 rw[a];refine⟨by rw[if_neg dc,if_neg dc,if_pos rfl,k],by unfold gg;simp,λ aJ=>by rw[if_neg dc,if_neg dc,if_pos rfl,k,aJ]⟩;have k:=λ doc=>yg doc hp hd V U G H Y
 have a:fL d.kind=c_:=by rw[U];decide
 rw[a];refine⟨by rw[if_neg dc,if_neg dc,if_neg dc,if_pos rfl,k],by unfold gg;simp,λ aJ=>by rw[if_neg dc,if_neg dc,if_neg dc,if_pos rfl,k,aJ]⟩;have k:=λ doc=>Bp doc hp hd V U G H S
 have a:fL d.kind=ey:=by rw[U];decide
 rw[a];refine⟨by rw[if_neg dc,if_neg dc,if_neg dc,if_neg dc,if_pos rfl,k],by unfold gg;simp,λ aJ=>by rw[if_neg dc,if_neg dc,if_neg dc,if_neg dc,if_pos rfl,k,aJ]⟩;have k:=λ c doc=>yU c doc hp hd V U G S Y hf
 have a:fL d.kind=da:=by rw[U];decide
 rw[a];refine⟨by rw[if_neg dc,if_neg dc,if_neg dc,if_neg dc,if_neg dc,if_pos rfl,k],by unfold gg;simp,λ aJ=>by rw[if_neg dc,if_neg dc,if_neg dc,if_neg dc,if_neg dc,if_pos rfl,k,aJ]⟩
end
end Go.Proofs.YtdpmeahgjjmdiaaGreatDoor
