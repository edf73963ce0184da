/- Part of the proof that laws.FnSchemaAgain answers true. Conditions: none. -/
import Derived.Laws.StructEq
import Derived.Test.YtdpmeahgjjmdiaaGreatDoorC14
import Derived.Test.YtdpmeahgjjmdiaaGreatDoorC17
set_option linter.all false
open Nat renaming le_add_right->JY,le_refl->HZ,le_trans->Ji,zero_le->HD
open List renaming append_assoc->Js,flatMap_cons->G0,foldl_cons->JW,getElem?_eq_getElem->HH,getElem_mem->HY,length_append->HT,length_map->HX,map_eq_nil_iff->JX,mem_append->HM,mem_cons->G6,mem_cons_of_mem->Hb
open ByteArray renaming size->H0
open Go.Proofs.Tryz renaming prog->HB
namespace Go.Proofs.YtdpmeahgjjmdiaaGreatDoor
open Go
variable[OO]
def eU(ab:ao):Q:=some (fN (b0 (al ab 0)))
theorem Gi s ab:PI s ab 0 (eU ab) (⟨0,0,0,0,1,0,.nilIface,false,0,e0,0,0,0,0,none,.nilIface,0,e0,0,0,0,0,none,none,0,0⟩:PR):=
 ⟨rfl,_,⟨rfl,λ _=>⟨0,rfl,HD _,rfl⟩,λ h=>(by cases h),hq _ _⟩,rfl,λ h=>(by cases h)⟩
theorem GK: ∀aa s,Sp 40 [vp s 0] [] aa (λ v M' _=>v=.agg #[vp s 0,vi 0,vi 0,vi 0,vi 0,vi 1,vi 0]/\M'=[]):=by
 intro aa s;refine aW Tryz.func40 λ F=>(ra 10 [0] [2] [2]) λ b1=>ez 0 (.agg #[vp s 0,vi 0,vi 0,vi 0,vi 0,vi 1,vi 0]) [] [0] lq ⟨rfl,rfl⟩
theorem Gp: ∀aa s ab,Lx aa s ab->Sp 15 [vp s 0] [] aa (λ v M' C=> ∃o e,v=.tuple #[vq o,e]/\M'=[]/\((ep (eU ab)).2=none-> ∃g,e=eE g)/\((ep (eU ab)).2≠none->e=.nilIface/\ad C (.ptr (gZ .any .any .any (ep (eU ab)).1)) [vq o])):=by
 intro aa s ab L;refine aW Tryz.func15 λ F=>(ra 8 [] [1,1] [0,11]) λ _=>(cR [] (GK _ s)) λ ak w=>(ra 6 [0] [2,0] [0,4]) ?_;intro b2;have f:=L.mono w;refine(eh (args:=[vp (b2 0) 0]) (M:=[.av (b2 0) 108 [vp s 0,vi 0,vi 0,vi 0,vi 0,vi 1,vi 0,.nilIface,vb false,vi 0,vs ⟨#[]⟩,vi 0,vi 0,vi 0,vi 0,.pointer none,.nilIface,vi 0,vs ⟨#[]⟩,vi 0,vi 0,vi 0,vi 0,.pointer none,.pointer none,vb false,vi 0,vi 0,vi 0]]) [0] (Gt s ab _ ak (eU ab) (⟨0,0,0,0,1,0,.nilIface,false,0,e0,0,0,0,0,none,.nilIface,0,e0,0,0,0,0,none,none,0,0⟩:PR) f (Gi s ab))) ?_;rintro aB R V z ⟨H,aP⟩;obtain⟨q,K⟩: ∃q,q=(ep (eU ab)).2:=⟨_,rfl⟩;rw[<-K]at H aP;rcases q with _|ts
 obtain⟨g2,W⟩:=H.none;rw[W];refine(ra 21 [0] [4,1,0,1] [2,3]) λ _=>ez 0 (.tuple #[.pointer none,.iface 264 (vp g2 0)]) [] [0] lq ⟨none,_,rfl,rfl,λ _=>⟨g2,rfl⟩,λ O=>absurd K.symm O⟩;have W:=H.ok;rw[W];obtain⟨l,g,ar,⟨al,n5,c5,G⟩,⟨a8,n6,c6,E⟩,hv,P,A,h,D,B,n,p⟩:=aP sm;obtain rfl:z=sa g 0:=by injection hv
 dsimp only at A h n p;obtain⟨T,Y,X,J,Q⟩:=(f.mono R).src;refine cP (off:=4) (cells:=[vl al n5 c5]) P (λ j u hj=>by match j,hj with|0,hj=>(simp at hj;subst hj;exact A))<|(ra 29 [1,0] [5,1,0,0,0] [0,5,23,24,25]) λ _=>(dz [0])<|(wz (ι:=Nat) (λ k=>n5-k) (λ _=>aB) [0,5,23,24] (λ k=>[(25,vi k)]) (λ k c=>c) (λ k=>k<=n5) 0 (HD _)) ?_;rintro k U af;refine(rv 4 [] 1 [1] [0,5,23,24,25,26])<|(eX 26 k n5) (λ I=>?_) (λ I=>?_);rcases D.2.2 with⟨N,_⟩|⟨y,aQ,m,i,an⟩;·exact absurd N dm
 dsimp only at m;obtain rfl:al=sa y 0:=m;have hD:=D.1;obtain⟨t,x,b⟩:=hD;dsimp only at t x b i an;have ax:k<G.length:=by omega
 obtain⟨_,gd,S,r,d,aC⟩:=b k _ G[k] (HH om) (HH ax);have a:aQ[k]?=some (vp gd 0):=r▸an k _ (HH ax);refine(rv 6 [] 1 [2,0,0,0] [0,5,23,24,25])<|(xz iR I)<|cP (off:=(k*1)) (cells:=[vp gd 0]) i (λ j u hj=>by match j,hj with|0,hj=>(simp at hj;subst hj;simpa using a)) ?_;refine eW J Q ?_;refine rZ 11 [1,200] [5,1,0,0,2,0,1,7] (λ _=>[(0,vp s 0),(5,vp g 0),(23,vl (sa y 0) n5 c5),(24,vi n5),(25,vi k),(33,vb false),(35,vp gd 10)]) (λ _=>.ro s 0 [vs e0,vs ab,vb false]::.ro y (k*1) [vp gd 0]::pb (b2 0) s false {V with er:=.nilIface}::F) λ _=>FV (.tmp 35) (.tmp 33) 10 false [5,1,0,0,2,0,1,8] (d) (aC) ?_;refine bf.drop 1 rfl ?_;refine bf.drop 0 rfl ?_;refine rn 8 [] [5,1,0,0,0] (λ _=>[(0,vp s 0),(5,vp g 0),(23,vl (sa y 0) n5 c5),(24,vi n5),(25,vi (aj ((k:Int)+1)))]) (λ _=>pb (b2 0) s false {V with er:=.nilIface}::F) ?_;intro _;rw[show(aj ((k:Int)+1))=((k+1:Nat):Int)from by have:=n;rw[b_ om om];omega];exact zg (lz (af (k+1) I om));refine cP (off:=5) (cells:=[vl a8 n6 c6]) P (λ j u hj=>by match j,hj with|0,hj=>(simp at hj;subst hj;exact h))<|(ra 15 [0] [6,1,0,0,0] [0,5,40,41,42]) λ _=>(dz [0])<|(wz (ι:=Nat) (λ k=>n6-k) (λ _=>aB) [0,5,40,41] (λ k=>[(42,vi k)]) (λ k c=>c) (λ k=>k<=n6) 0 (HD _)) ?_;rintro k U af;refine(rv 4 [] 1 [1] [0,5,40,41,42,43])<|(eX 43 k n6) (λ I=>?_) (λ I=>?_);rcases B.2.2 with⟨N,_⟩|⟨y,aQ,m,i,an⟩;·exact absurd N dm
 dsimp only at m;obtain rfl:a8=sa y 0:=m;have hD:=B.1;obtain⟨t,x,b⟩:=hD;dsimp only at t x b i an;have ax:k<E.length:=by omega
 obtain⟨_,gd,S,r,d,aC⟩:=b k _ E[k] (HH om) (HH ax);have a:aQ[k]?=some (vp gd 0):=r▸an k _ (HH ax);refine(rv 6 [] 1 [2,0,0,0] [0,5,40,41,42])<|(xz iR I)<|cP (off:=(k*1)) (cells:=[vp gd 0]) i (λ j u hj=>by match j,hj with|0,hj=>(simp at hj;subst hj;simpa using a)) ?_;refine eW J Q ?_;refine rZ 11 [1,200] [6,1,0,0,2,0,1,7] (λ _=>[(0,vp s 0),(5,vp g 0),(40,vl (sa y 0) n6 c6),(41,vi n6),(42,vi k),(50,vb false),(52,vp gd 10)]) (λ _=>.ro s 0 [vs e0,vs ab,vb false]::.ro y (k*1) [vp gd 0]::pb (b2 0) s false {V with er:=.nilIface}::F) λ _=>FV (.tmp 52) (.tmp 50) 10 false [6,1,0,0,2,0,1,8] (d) (aC) ?_;refine bf.drop 1 rfl ?_;refine bf.drop 0 rfl ?_;refine rn 8 [] [6,1,0,0,0] (λ _=>[(0,vp s 0),(5,vp g 0),(40,vl (sa y 0) n6 c6),(41,vi n6),(42,vi (aj ((k:Int)+1)))]) (λ _=>pb (b2 0) s false {V with er:=.nilIface}::F) ?_;intro _;rw[show(aj ((k:Int)+1))=((k+1:Nat):Int)from by have:=p;rw[b_ om om];omega];exact zg (lz (af (k+1) I om));refine(ra 8 [] [8] [2,3]) λ _=>ez 0 (.tuple #[vp g 0,.nilIface]) [] [0] lq ⟨sa g 0,_,rfl,rfl,λ O=>absurd (K.trans O) sm,λ _=>⟨rfl,l⟩⟩
theorem C7: ∀aa ab,U8 aa->ab.size<=17179869184->((ep (eU ab)).2≠none->(ep (eU ab)).1.wt<=68719476736)->
 Sp 7 [vs ab] [] aa (λ v M' C=>M'=[]/\ ∃cs ok,v=.tuple #[.agg cs.toArray,vb ok]/\(ok=true<->(ep (eU ab)).2≠none)/\(ok=true->ad C (iL (ep (eU ab)).1) cs)/\(ok=false->cs=[vz,vz,vz,vz,vz])):=by
 intro aa ab an dB aV;refine aW Tryz.func7 λ F=>(ra 10 [] [1,3] [2,9]) λ b1=>(fb 0 (b1 1) 48 [vs ⟨#[]⟩,vs ab,vb false]) ?_;intro ak w y;have L:Lx ak (b1 1) ab:=⟨an.mono w,⟨_,_,_,y,λ j u hj=>by simpa using hj⟩,dB⟩;refine(BQ [] (Gp _ (b1 1) ab L)) ?_;rintro aB R z az ⟨k,a6⟩;by_cases O:(ep (eU ab)).2=none;obtain⟨g,rfl⟩:=k O;refine(ra 19 [0] [2,1,0,1] [2,3]) λ _=>ez 0 (.tuple #[.agg #[vz,vz,vz,vz,vz],vb false]) [] [0] lq ⟨rfl,_,false,rfl,by simp[O],λ h=>(by cases h),λ _=>rfl⟩;obtain⟨rfl,l⟩:=a6 O;refine(ra 17 [] [3,1] [2,16]) λ _=>(cz [] (GQ rfl _ _ z (aV O) l)) ?_;rintro _ _ j3 aK ⟨rfl,cs,rfl,K⟩;obtain⟨A1,n1,D,E,n2,c2,Q,n3,c3,A4,n4,c4,al,n5,c5,rfl,_⟩:=gH K;refine(ra 3 [0] [4] [2,3]) λ _=>ez 0 (.tuple #[.agg #[vl A1 n1 D,vl E n2 c2,vl Q n3 c3,vl A4 n4 c4,vl al n5 c5],vb true]) [] [0] lq ⟨rfl,_,true,rfl,by simp[O],λ _=>K,λ h=>(by cases h)⟩
theorem Di{b:Bool}{r}:iJ (some ((if b then[nt bE]else[])++(nt su::r)))=(b,some (nt su::r)):=by
 unfold iJ;cases b with
 |false=>
  show(if(16:Nat)=16/\su=bE then _ else _)=_;rw[if_neg dc];rfl
 |true=>
  show(if(16:Nat)=16/\bE=bE then _ else _)=_;rw[if_pos ⟨rfl,rfl⟩];rfl
theorem DD{x}(h:x∈ba)r:fu (some (nt x::r))=(x,some r):=by
 unfold fu;rw[gj];dsimp only;rw[if_pos ⟨x,h,rfl⟩]
def aL.body(d:aL):List Tok:=nt aK::pt 10::nt d.name::(fB d.args++((if d.rep then[nt bE]else[])++(nt su::f' 15 d.ba)))
def aL.wd(d:aL):Prop:=(∀a∈d.args,a.dp)/\ ∀l∈d.ba,l∈Go.Proofs.YtdpmeahgjjmdiaaGreatDoor.ba
theorem D' doc{d:aL}(hp:d.pr)(hd:d.wd){r}(V:Fl r):q6 doc (some (d.body++r))=({d.str with doc:=doc},some r):=by
 obtain⟨G,H,S,Y,aI⟩:=hp;have e:d.body++r=nt aK::pt 10::nt d.name::(fB d.args++((if d.rep then[nt bE]else[])++(nt su::(f' 15 d.ba++r)))):=by unfold aL.body;simp
 have L: ∀k,k≠16->Nx k ((if d.rep then[nt bE]else[])++(nt su::(f' 15 d.ba++r))):=λ k U=>by
  cases d.rep with
  |false=>show(16:Nat)≠k;omega
  |true=>show(16:Nat)≠k;omega
 have a:=hF true (l:=[]) (λ d h=>by cases h) (λ d h=>by cases h) _ (L 5 dc) (L 10 dc);rw[show du []=[]from rfl,List.nil_append]at a;unfold q6;rw[e,nY];dsimp only;rw[k5 _ dc];dsimp only;rw[gj];dsimp only;rw[tH S hd.1 _ (L 5 dc)];dsimp only;rw[a];dsimp only;rw[Di];dsimp only;rw[nY,w3 dc aI (λ x L r=>DD (hd.2 x L) r) V.g];rfl
def ae.body(d:ae):List Tok:=nt bW::(du d.ah++(pt 13::(d.roots.flatMap cQ.bk++[pt 14])))
theorem A_{x}(h:x.pr)r:fF (some (x.bk++r))=(x,some r):=by
 have e:x.bk++r=nt x.op::pt 8::nt x.t::r:=rfl;have ho:rG (some (nt x.op::pt 8::nt x.t::r))=(x.op,some (pt 8::nt x.t::r)):=by
  unfold rG;rw[if_pos ⟨x.op,h.1,rfl⟩];rfl
 unfold fF;rw[e,ho];dsimp only;rw[k5 _ dc];dsimp only;rw[gj]
theorem zy doc{d:ae}(hp:d.pr)(hd:il d.ah){r}:gU doc (some (d.body++r))=({d.str with doc:=doc},some r):=by
 obtain⟨G,H,S,Y⟩:=hp;have e:d.body++r=nt bW::(du d.ah++(hM 13 14 (d.roots.flatMap cQ.bk) d.roots.isEmpty++r)):=by
  unfold ae.body;rw[show d.roots.isEmpty=false by cases V:d.roots with|nil=>exact absurd V Y|cons a l=>rfl];simp[hM]
 have hb: ∀k,k≠13->Nx k (hM 13 14 (d.roots.flatMap cQ.bk) d.roots.isEmpty++r):=λ k U=>by
  rw[show d.roots.isEmpty=false by cases V:d.roots with|nil=>exact absurd V Y|cons a l=>rfl];show(13:Nat)≠k;omega
 have key:db 13 14 fF (some (hM 13 14 (d.roots.flatMap cQ.bk) d.roots.isEmpty++r))=(d.roots,some r):=by
  cases V:d.roots with
  |nil=>exact absurd V Y
  |cons a l=>
   have p: ∀x∈a::l,x.pr:=by rw[<-V];exact S
   have aw:hM 13 14 ((a::l).flatMap cQ.bk) (a::l).isEmpty++r=pt 13::((a::l).flatMap cQ.bk++pt 14::r):=by simp[hM]
   have hm:=o8 (m:=fF) (tk:=cQ.bk) (sr:=id) 14 dc (C:=λ _=>True) (a::l) (((a::l).flatMap cQ.bk++pt 14::r).length+1) r (λ x L r _=>A_ (p x L) r)
    (λ x L=>⟨by simp[cQ.bk],λ r=>⟨by show(16:Nat)≠14;decide,trivial⟩⟩) trivial (by rw[HT];omega)
   unfold db;rw[aw,l3,if_pos rfl,px dc,if_neg (by show(16:Nat)≠14;decide)];show fv 14 fF (((a::l).flatMap cQ.bk++pt 14::r).length+1) _=_;rw[hm,List.map_id]
 unfold gU;rw[e,nY];dsimp only;rw[hF true H hd _ (hb 5 dc) (hb 10 dc)];dsimp only;rw[key];rfl
theorem mj{doc x}{s}{q}:bX s (some (b7 doc++nt x::q))=gl s doc (some (nt x::q)):=by
 unfold bX;rw[mA]
structure Def.go(d:Def):Prop where
 pr:d.pr
 dp:d.dp
 sh:d.sh
 fs:gC d.kind->d.fields≠[]
theorem wB{d:Def}(h:d.go)s{r}(V:Fl r):bX s (some (d.bk false++r))=({s with types:=s.types++[d.str]},some r):=by
 obtain⟨G,H,_⟩:=Ac d.doc h.pr h.dp h.sh h.fs V;have e:d.bk false++r=b7 d.doc++(d.body++r):=by rw[Def.qq];simp[l7]
 have c: ∃q,d.body++r=nt (fL d.kind)::q:=⟨_,rfl⟩;rw[e];obtain⟨q,c⟩:=c;rw[c]at G H⊢;rw[mj];unfold gl;rw[l3,if_neg sm,if_pos (show gg (nt (fL d.kind)).v from H),G];rfl
def Def.w_(d:Def):Prop:= ¬(d.ah=[]/\d.ifaces=[]/\d.fields=[]/\d.types=[]/\d.enums=[])
theorem p6: ¬gg bU/\bU≠bW/\bU≠aK:=by decide
theorem Av{v}(h:gg v):v≠bW/\v≠aK:=by
 unfold gg at h;rcases h with rfl|rfl|rfl|rfl|rfl|rfl<;>decide
theorem rV{doc}(b:doc=e0)s q:bX s (some (b7 doc++nt bU::q))=lf s (some (nt bU::q)):=by
 rw[mj];unfold gl;rw[l3,if_neg sm,if_neg p6.1,if_neg p6.2.1,if_neg p6.2.2,if_pos rfl,if_neg (by rw[b];simp)]
theorem vj{d:Def}(h:d.go)(b:d.doc=e0)(aJ:d.w_)s{r}(V:Fl r):bX s (some (d.bk true++r))=({s with ai:=s.ai++[d.str]},some r):=by
 obtain⟨_,H,S⟩:=Ac e0 h.pr h.dp h.sh h.fs V;have e:d.bk true++r=b7 d.doc++(nt bU::(d.body++r)):=by rw[Def.qq];simp[l7]
 have L:hN (some (d.body++r))=({d.str with doc:=e0},some r):=S (by
  unfold bP;rw[if_neg];rintro⟨a1,a2,a3,a4,a5⟩;refine aJ ⟨?_,a2,?_,a4,?_⟩;exact JX.1 a1;exact JX.1 a3;exact JX.1 a5)
 rw[e,rV b];unfold lf;dsimp only;rw[nY];have hv:(cV (some (d.body++r))).v=(eY (d.body++r)).v:=rfl;obtain⟨n1,n2⟩:=Av H;rw[hv,if_neg n1,if_neg n2,L];have:({d.str with doc:=e0}:Def)=d.str:=by unfold Def.str;rw[b]
 rw[this]
theorem wE{d:ae}(h:d.pr)(hd:il d.ah)s{r}:bX s (some (d.bk false++r))=({s with defs:=s.defs++[d.str]},some r):=by
 have e:d.bk false++r=b7 d.doc++(d.body++r):=by unfold ae.bk ae.body;simp[l7]
 have G:=zy d.doc h hd (r:=r);rw[e];have c: ∃q,d.body++r=nt bW::q:=⟨_,rfl⟩;obtain⟨q,c⟩:=c;rw[c]at G⊢;rw[mj];unfold gl;rw[l3,if_neg sm,if_neg (by show¬gg bW;decide),if_pos rfl,G];rfl
theorem u1{d:ae}(h:d.pr)(hd:il d.ah)(b:d.doc=e0)s{r}:bX s (some (d.bk true++r))=({s with exts:=s.exts++[d.str]},some r):=by
 have e:d.bk true++r=b7 d.doc++(nt bU::(d.body++r)):=by unfold ae.bk ae.body;simp[l7]
 have G:=zy e0 h hd (r:=r);have H:dy (some (d.body++r))=({d.str with doc:=e0},some r):=by
  unfold dy;rw[G];dsimp only;rw[if_neg];rintro⟨_,a⟩;exact h.2.2.2 a
 rw[e,rV b];unfold lf;dsimp only;rw[nY];have hv:(cV (some (d.body++r))).v=bW:=rfl;rw[hv,if_pos rfl,H];have:({d.str with doc:=e0}:ae)=d.str:=by unfold ae.str;rw[b]
 rw[this]
theorem yC{d:aL}(h:d.pr)(hd:d.wd)s{r}(V:Fl r):bX s (some (d.bk++r))=({s with ah:=s.ah++[d.str]},some r):=by
 have e:d.bk++r=b7 d.doc++(d.body++r):=by unfold aL.bk aL.body;simp
 have G:=D' d.doc h hd V;rw[e];have c: ∃q,d.body++r=nt aK::q:=⟨_,rfl⟩;obtain⟨q,c⟩:=c;rw[c]at G⊢;rw[mj];unfold gl;rw[l3,if_neg sm,if_neg (by show¬gg aK;decide),if_neg (by show aK≠bW;decide),if_pos rfl,G];rfl
theorem gw{α:Type}{tk}{up}: ∀(l:List α)n s r,(∀x∈l,∀s r,Fl r->bX s (some (tk x++r))=(up s x,some r))->
 (∀x∈l,∃doc y q,tk x=b7 doc++nt y::q)->Fl r->(l.flatMap tk++r).length<n-> ∃n',r.length<n'/\lk n s (some (l.flatMap tk++r))=lk n' (l.foldl up s) (some r)
 |[],n,s,r,_,_,_,O=>⟨n,by simpa using O,rfl⟩
 |x::l,0,s,r,_,_,_,O=>by simp at O
 |x::l,n+1,s,r,hm,hh,V,O=>by
  obtain⟨doc,y,q,L⟩:=hh x sm;have E:Fl (l.flatMap tk++r):=by
   cases l with
   |nil=>exact V
   |cons z c=>
    obtain⟨a,b,q',hz⟩:=hh z sm;rw[G0,hz,Js,Js];exact Fl.desc
  have U:(eY (tk x++(l.flatMap tk++r))).k≠1:=by
   rw[L,Js];have:=pT (s:=doc) (x:=y) (r:=q++(l.flatMap tk++r));show(eY (b7 doc++(nt y::(q++(l.flatMap tk++r))))).k≠1;omega
  have hlen:0<(tk x).length:=by rw[L,HT,List.length_cons];omega
  rw[G0,Js,HT]at O;obtain⟨n',G,H⟩:=gw l n (up s x) r (λ z hz=>hm z (Hb _ hz)) (λ z hz=>hh z (Hb _ hz)) V om;refine⟨n',G,?_⟩;rw[G0,Js,lk,if_neg U];dsimp only;rw[hm x sm s _ E];exact H
structure aH.go(d:aH):Prop where
 pr:d.pr
 defs: ∀x∈d.defs,il x.ah
 exts: ∀x∈d.exts,il x.ah/\x.doc=e0
 ah: ∀x∈d.ah,x.wd
 types: ∀x∈d.types,x.go
 ai: ∀x∈d.ai,x.go/\x.doc=e0/\x.w_
theorem oT f: ∀(l:List ae)(s:aH),l.foldl (λ s x=>{s with defs:=s.defs++[f x]}) s={s with defs:=s.defs++l.map f}
 |[],s=>by simp
 |x::l,s=>by rw[JW,oT f l];simp
theorem o6 f: ∀(l:List ae)(s:aH),l.foldl (λ s x=>{s with exts:=s.exts++[f x]}) s={s with exts:=s.exts++l.map f}
 |[],s=>by simp
 |x::l,s=>by rw[JW,o6 f l];simp
theorem o5 f: ∀(l:List aL)(s:aH),l.foldl (λ s x=>{s with ah:=s.ah++[f x]}) s={s with ah:=s.ah++l.map f}
 |[],s=>by simp
 |x::l,s=>by rw[JW,o5 f l];simp
theorem nO f: ∀(l:List Def)(s:aH),l.foldl (λ s x=>{s with types:=s.types++[f x]}) s={s with types:=s.types++l.map f}
 |[],s=>by simp
 |x::l,s=>by rw[JW,nO f l];simp
theorem rC f: ∀(l:List Def)(s:aH),l.foldl (λ s x=>{s with ai:=s.ai++[f x]}) s={s with ai:=s.ai++l.map f}
 |[],s=>by simp
 |x::l,s=>by rw[JW,rC f l];simp
theorem l'{α:Type}{tk}{l:List α}{r}(hh: ∀x,∃doc y q,tk x=b7 doc++nt y::q)(V:Fl r):Fl (l.flatMap tk++r):=by
 cases l with
 |nil=>exact V
 |cons z c=>
  obtain⟨a,b,q',hz⟩:=hh z;rw[G0,hz,Js,Js];exact Fl.desc
theorem wF x(d:ae): ∃doc y q,d.bk x=b7 doc++nt y::q:=by cases x<;>exact⟨_,_,_,rfl⟩
theorem zF(d:aL): ∃doc y q,d.bk=b7 doc++nt y::q:=⟨_,_,_,rfl⟩
theorem uW x(d:Def): ∃doc y q,d.bk x=b7 doc++nt y::q:=by cases x<;>exact⟨_,_,_,rfl⟩
theorem Ce{d:aH}(h:d.go):ep (some d.bk)=(d.str,some []):=by
 have e:d.bk=d.defs.flatMap (ae.bk false)++(d.exts.flatMap (ae.bk true)++(d.ah.flatMap aL.bk++(d.types.flatMap (Def.bk false)++(d.ai.flatMap (Def.bk true)++[])))):=by simp[aH.bk]
 unfold ep;obtain⟨p1,p2,p3,p4,t,_,_⟩:=h.pr;have f5:Fl (d.ai.flatMap (Def.bk true)++[]):=l' (uW true) Fl.nil;have f4:=l' (l:=d.types) (uW false) f5;have f3:=l' (l:=d.ah) zF f4;have f2:=l' (l:=d.exts) (wF true) f3;show lk (d.bk.length+1) _ (some d.bk)=_;rw[e];obtain⟨n1,P,aw⟩:=gw (up:=λ s x=>{s with defs:=s.defs++[x.str]}) d.defs _ ⟨[],[],[],[],[]⟩ _ (λ x L s r _=>wE (p1 x L) (h.defs x L) s) (λ x _=>wF false x) f2 (Nat.lt_succ_self _);rw[aw,oT];obtain⟨n2,aA,az⟩:=gw (up:=λ s x=>{s with exts:=s.exts++[x.str]}) d.exts n1 _ _ (λ x L s r _=>u1 (p2 x L) (h.exts x L).1 (h.exts x L).2 s) (λ x _=>wF true x) f3 P;rw[az,o6];obtain⟨n3,l3,e3⟩:=gw (up:=λ s x=>{s with ah:=s.ah++[x.str]}) d.ah n2 _ _ (λ x L s r V=>yC (p3 x L) (h.ah x L) s V) (λ x _=>zF x) f4 aA;rw[e3,o5];obtain⟨n4,l4,aS⟩:=gw (up:=λ s x=>{s with types:=s.types++[x.str]}) d.types n3 _ _ (λ x L s r V=>wB (h.types x L) s V) (λ x _=>uW false x) f5 l3;rw[aS,nO];obtain⟨n5,a7,o⟩:=gw (up:=λ s x=>{s with ai:=s.ai++[x.str]}) d.ai n4 _ [] (λ x L s r V=>vj (h.ai x L).1 (h.ai x L).2.1 (h.ai x L).2.2 s V) (λ x _=>uW true x) Fl.nil l4;rw[o,rC];cases n5 with
 |zero=>simp at a7
 |succ n5=>
  rw[lk,if_pos (show(eY []).k=1 from rfl)];simp[aH.str]
theorem jL s: ∀t∈b7 s,t.k≠21:=λ t B=>by
 unfold b7 at B;split at B;cases B;simp at B;subst B;simp
mutual
theorem bo.nc: ∀v:bo,∀t∈v.bk,t.k≠21
 | .mk k r a=>λ t B=>by
  rw[bo.bk]at B;split at B;simp at B;subst B;simp;split at B;rcases G6.1 B with rfl|B
  decide;rcases HM.1 B with B|B
  exact Kids.nc a _ t B;simp at B;subst B;simp;split at B;rcases G6.1 B with rfl|B
  decide;rcases HM.1 B with B|B
  exact Kids.nc a _ t B;simp at B;subst B;simp;split at B;simp at B;subst B;simp;split at B;simp at B;subst B;simp;simp at B;subst B;simp
theorem Kids.nc: ∀(a:Kids)(o:Bool),∀t∈a.bk o,t.k≠21
 | .nil,_=>λ t B=>by cases B
 | .cons n v r,o=>λ t B=>by
  rw[Kids.bk]at B;rcases HM.1 B with B|B
  rcases HM.1 B with B|B
  cases o with
  |false=>cases B
  |true=>simp at B;rcases B with rfl|rfl<;>simp
  exact bo.nc v t B;exact Kids.nc r o t B
end
abbrev NC(l:List Tok):Prop:= ∀t∈l,t.k≠21
section
variable{a b:List Tok}{t:Tok}
theorem NC.app(G:NC a)(H:NC b):NC (a++b):=λ t B=>(HM.1 B).elim (G t) (H t)
theorem NC.cons(G:t.k≠21)(H:NC b):NC (t::b):=λ x L=>by
 rcases G6.1 L with rfl|L
 exact G;exact H x L
theorem NC.nil:NC []:=λ t B=>by cases B
theorem NC.flat{α:Type}{tk}(h: ∀x,NC (tk x))(l:List α):NC (l.flatMap tk):=λ t B=>by
 obtain⟨x,_,L⟩:=List.mem_flatMap.1 B;exact h x t L
theorem NC.br{k e}(U:k≠21)(he:e≠21)(h:NC a)em:NC (hM k e a em):=by
 cases em with
 |true=>exact .nil
 |false=>exact .cons U (h.app (.cons he .nil))
theorem NC.ite{c}[Decidable c](G:NC a)(H:NC b):NC (if c then a else b):=by split;exact G;exact H
end
theorem NC.nt s{b}(h:NC b):NC (nt s::b):=.cons sm h
theorem zK b:NC (Ah b):=.ite (.cons dc .nil) .nil
theorem eg.nc: ∀t:eg,NC t.bk
 | .named n b=>.nt n (zK b)
 | .list t b=>.cons dc ((eg.nc t).app (.cons dc (zK b)))
theorem cB.nc(d:cB):NC d.bk:=.cons dc (.nt _ (.br dc dc (.flat (λ a=>.nt _ (.cons dc a.v.nc)) _) _))
theorem k4 l:NC (du l):=.flat cB.nc l
theorem Al: ∀o:Option bo,NC (ru o)
 |none=>.nil
 |some v=>.cons dc v.nc
theorem aq.nc(a:aq):NC a.bk:=NC.app (jL _) (.nt _ (.cons dc ((eg.nc _).app ((Al _).app (k4 _)))))
theorem rR l:NC (fB l):=.br dc dc (.flat aq.nc _) _
theorem cK.nc(f:cK):NC f.bk:=NC.app (jL _) (.nt _ ((rR _).app (.cons dc ((eg.nc _).app ((Al _).app (k4 _))))))
theorem a_.nc(f:a_):NC f.bk:=NC.app (jL _) (.nt _ (k4 _))
theorem s'{k}(U:k≠21): ∀l:List ao,NC (f' k l)
 |[]=>.nil
 |a::l=>.nt _ (.flat (λ b=>.cons U (.nt _ .nil)) l)
theorem aL.nc(d:aL):NC d.bk:=NC.app (jL _) (.nt _ (.cons dc (.nt _ ((rR _).app ((NC.ite (.nt _ .nil) .nil).app (.nt _ (s' dc _)))))))
theorem xp x:NC (l7 x):=.ite (.nt _ .nil) .nil
theorem ae.nc x(d:ae):NC (d.bk x):=NC.app (jL _) ((xp x).app (.nt _ ((k4 _).app (.cons dc ((NC.flat (λ r=>.nt _ (.cons dc (.nt _ .nil))) _).app (.cons dc .nil))))))
theorem Def.nc x(d:Def):NC (d.bk x):=NC.app (jL _) ((xp x).app (.nt _ (.nt _ ((NC.ite .nil (.nt _ (s' dc _))).app ((k4 _).app ((NC.ite .nil (.cons dc (s' dc _))).app
 ((NC.br dc dc (.flat cK.nc _) _).app (NC.br dc dc (.flat a_.nc _) _))))))))
theorem aH.nc(d:aH):NC d.bk:=((((NC.flat (ae.nc false) _).app (NC.flat (ae.nc true) _)).app (NC.flat aL.nc _)).app (NC.flat (Def.nc false) _)).app (NC.flat (Def.nc true) _)
theorem again{ind}co(hi: ∀x∈bl ind,x=32\/x=9)(aJ:ind.size<=16){d}(h:d.go):ep (eU (sB ((⟨ind,0,false,co,false,false,[]⟩:FS).doc d).out))=(d.str,some []):=by
 have e:eU (sB ((⟨ind,0,false,co,false,false,[]⟩:FS).doc d).out)=some d.bk:=by
  unfold eU;rw[mC,yZ co hi aJ h.pr]
  congr 1
  unfold fN;rw[List.filter_eq_self];intro t B;have:=d.nc t B;simpa using this
 rw[e,Ce h]
def Rd(P:Prop)(w:Nat)(q q':Q):Prop:= ∀y,q'=some y-> ∃ts,q=some ts/\(uZ ts->uZ y/\P/\w+4*qn y<=4*qn ts)
section
variable{P P':Prop}{w w':Nat}{q q1 q2 q':Q}
theorem Rd.err:Rd P w q none:=λ y h=>by cases h
theorem Rd.refl:Rd True 0 q q:=λ y h=>⟨y,h,λ U=>⟨U,trivial,om⟩⟩
theorem Rd.trans(G:Rd P w q q1)(H:Rd P' w' q1 q2):Rd (P/\P') (w+w') q q2:=λ y h=>by
 obtain⟨t1,aw,k1⟩:=H y h;obtain⟨t0,e0,k0⟩:=G t1 aw;refine⟨t0,e0,λ U=>?_⟩;obtain⟨a1,a2,a3⟩:=k0 U;obtain⟨b1,b2,b3⟩:=k1 a1;exact⟨b1,⟨a2,b2⟩,om⟩
theorem Rd.bH(h:Rd P w q q')(hp:P->P')(hw:w'<=w):Rd P' w' q q':=λ y e=>by
 obtain⟨t,aw,k⟩:=h y e;exact⟨t,aw,λ U=>by obtain⟨a,b,c⟩:=k U;exact⟨a,hp b,om⟩⟩
end
theorem mM(t:Tok)(l:List Tok):qn (t::l)=1+t.v.size+qn l:=by simp[qn]
theorem oK{q:Q}:Rd True 0 q (dR q):=λ y h=>by
 match q,h with
 |some [],h=>injection h with h;subst h;exact⟨_,rfl,λ U=>⟨U,trivial,om⟩⟩
 |some (t::r),h=>
  rw[dR]at h;split at h;cases h;injection h with h;subst h
  exact⟨_,rfl,λ U=>⟨λ x L=>U x (Hb _ L),trivial,by rw[mM];omega⟩⟩
theorem iH{q:Q}(H:2<=(cV q).k):Rd (vX (cV q)) (4+4*(cV q).v.size) q (dR q):=λ y h=>by
 match q,h,H with
 |some [],h,H=>exact absurd H dc
 |none,h,H=>cases h
 |some (t::r),h,_=>
  rw[dR]at h;split at h;cases h;injection h with h;subst h
  exact⟨_,rfl,λ U=>⟨λ x L=>U x (Hb _ L),U t sm,by rw[mM];show 4+4*t.v.size+_<=_;omega⟩⟩
theorem cp{k:Nat}(H:2<=k)(q:Q):Rd (k=16->gB (aA k q).1) (4+4*(aA k q).1.size) q (aA k q).2:=by
 unfold aA;split;rename_i h;exact(iH om).bH (λ U e=>U.nm om) (HZ _);exact .err
theorem iT(s:ao)(q:Q):Rd True (4+4*s.size) q (dM s q):=by
 unfold dM;split;rename_i h;exact(iH om).bH (λ _=>trivial) (by rw[h.2];exact HZ _);exact .err
theorem jV(k:Nat)(q:Q):Rd True 0 q (aC k q).2:=by
 unfold aC;split;exact oK;exact .refl
section
variable{α:Type}{m:Q->α×Q}{P:α->Prop}{wt:α->Nat}
theorem ns(e:Nat)(h: ∀q,Rd (P (m q).1) (wt (m q).1+1) q (m q).2): ∀(n:Nat)(q:Q),Rd (∀x∈(fv e m n q).1,P x) (aZ wt (fv e m n q).1) q (fv e m n q).2
 |0,q=>.err
 |n+1,none=>.err
 |n+1,some ts=>by
  rw[fv];split;exact oK.bH (λ _ x L=>by cases L) (HD _);dsimp only;refine((h _).trans (ns e h n _)).bH (λ⟨a,b⟩ x L=>?_) (by rw[aZ];omega);rcases G6.1 L with rfl|L
  exact a;exact b x L
theorem lD(k:Nat)(h: ∀q,Rd (P (m q).1) (wt (m q).1+1) q (m q).2): ∀(n:Nat)(q:Q),Rd (∀x∈(cy k m n q).1,P x) (aZ wt (cy k m n q).1) q (cy k m n q).2
 |0,q=>.err
 |n+1,q=>by
  rw[cy];split;dsimp only;refine((h _).trans (lD k h n _)).bH (λ⟨a,b⟩ x L=>?_) (by rw[aZ];omega);rcases G6.1 L with rfl|L
  exact a;exact b x L;exact Rd.refl.bH (λ _ x L=>by cases L) (HD _)
theorem r4{b e:Nat}(h: ∀q,Rd (P (m q).1) (wt (m q).1+1) q (m q).2){q:Q}(hb:(cV q).k=b)(H:2<=b):Rd (∀x∈(dx b e m q).1,P x) (4+aZ wt (dx b e m q).1) q (dx b e m q).2:=by
 unfold dx;rw[if_pos hb];exact((iH om).trans (ns e h _ _)).bH (λ a=>a.2) om
theorem iu(b e:Nat)(h: ∀q,Rd (P (m q).1) (wt (m q).1+1) q (m q).2)(q:Q):Rd (∀x∈(db b e m q).1,P x) (aZ wt (db b e m q).1) q (db b e m q).2:=by
 unfold db;split;split;exact .err;exact(oK.trans (ns e h _ _)).bH (λ a=>a.2) om;exact Rd.refl.bH (λ _ x L=>by cases L) (HD _)
end
def bo.wf(n:Nat)(v:bo):Prop:=v.pw/\v.dep<=n
theorem yS(s:ao):fl s=5\/fl s=6\/fl s=7:=by
 unfold fl;split;exact .inl rfl;split;exact .inr (.inl rfl);exact .inr (.inr rfl)
theorem qb{o:Bool}{n:Nat}: ∀l:List (ao×bo),(∀p∈l,(if o then gB p.1 else p.1=e0)/\p.2.wf n)->(Kids.of l).pw o/\(Kids.of l).dep<=n
 |[],_=>⟨trivial,HD _⟩
 |p::l,h=>by
  obtain⟨a,b⟩:=qb l λ x L=>h x (Hb _ L)
  obtain⟨c,d⟩:=h p sm;exact⟨⟨c,d.1,a⟩,Nat.max_le.2 ⟨d.2,b⟩⟩
theorem qf: ∀l:List (ao×bo),(Kids.of l).wt=aZ (λ p=>p.1.size+p.2.wt) l
 |[]=>rfl
 |p::l=>by rw[Kids.of,Kids.wt,qf l,aZ];omega
theorem jU{k n:Nat}{s:ao}{q q':Q}{P:Prop}(h:Rd P (4+4*s.size) q q')(U:k<8)(hp:P->(bo.mk k s .nil).pw):Rd ((bo.mk k s .nil).wf n) ((bo.mk k s .nil).wt+2) q q':=
 h.bH (λ a=>⟨hp a,by rw[bo.dep,if_pos U];exact HD _⟩) (by rw[bo.wt,Kids.wt];omega)
theorem tp{n:Nat}{m:Rc bo}(hm: ∀f,m=some f->n≠0/\ ∀q,Rd ((f q).1.wf (n-1)) ((f q).1.wt+2) q (f q).2)(c:Bool)(q:Q):Rd ((c1 m c q).1.wf n) ((c1 m c q).1.wt+2) q (c1 m c q).2:=by
 unfold c1;dsimp only;split;rename_i U;cases m with
 |none=>exact .err
 |some f=>
  obtain⟨O,hf⟩:=hm f rfl;have key:=r4 (m:=l4 f) (P:=λ p=>(if false then gB p.1 else p.1=e0)/\p.2.wf (n-1)) (wt:=λ p=>p.1.size+p.2.wt) (e:=12) (λ q=>(hf q).bH (λ a=>⟨rfl,a⟩) (by show(0+_)+1<=_;show 0+(f q).1.wt+1<=_;omega)) U dc;refine key.bH (λ a=>?_) ?_;obtain⟨G,H⟩:=qb _ a;exact⟨⟨rfl,λ h=>absurd h dc,G⟩,by rw[bo.dep,if_neg dc];omega⟩;rw[bo.wt,qf];show 1+0+_+2<=_;omega
 split;rename_i U;cases m with
 |none=>exact .err
 |some f=>
  obtain⟨O,hf⟩:=hm f rfl;have key:=r4 (m:=hK f) (P:=λ p=>(if true then gB p.1 else p.1=e0)/\p.2.wf (n-1)) (wt:=λ p=>p.1.size+p.2.wt) (e:=14) (λ q=>(((cp dc q).trans (cp dc _)).trans (hf _)).bH (λ a=>⟨a.1.1 rfl,a.2⟩) (by
   show(aA 16 q).1.size+(f (aA 8 (aA 16 q).2).2).1.wt+1<=_;omega)) U dc
  refine key.bH (λ a=>?_) ?_;obtain⟨G,H⟩:=qb _ a;exact⟨⟨rfl,λ h=>absurd h dc,G⟩,by rw[bo.dep,if_neg dc];omega⟩;rw[bo.wt,qf];show 1+0+_+2<=_;omega
 split;split;exact .err;exact jU (k:=0) (((cp dc q).trans (cp dc _)).bH (λ a=>a.2) om) dc (λ a=>⟨a rfl,λ _=>rfl,trivial⟩);split;rename_i U;exact jU (iH om) dc (λ a=>⟨a.int U,λ _=>rfl,trivial⟩);split;rename_i U;exact jU (iH om) dc (λ a=>⟨a.Gf U,λ _=>rfl,trivial⟩);split;rename_i U;exact jU (iH om) dc (λ a=>⟨trivial,λ _=>rfl,trivial⟩);split;rename_i U;exact jU (iH om) dc (λ a=>⟨trivial,λ _=>rfl,trivial⟩);split;rename_i U;have O:=yS (cV q).v;refine jU (iH om) om (λ a=>?_);have d:=a.nm U;rcases O with h|h|h
 rw[h];exact⟨⟨d,h⟩,λ _=>rfl,trivial⟩;rw[h];exact⟨⟨d,h⟩,λ _=>rfl,trivial⟩;rw[h];exact⟨⟨d,h⟩,λ _=>rfl,trivial⟩;exact .err
theorem pJ: ∀(n:Nat)(c:Bool)(q:Q),Rd ((ga n c q).1.wf n) ((ga n c q).1.wt+2) q (ga n c q).2
 |0,c,q=>tp (λ f h=>by cases h) c q
 |n+1,c,q=>tp (λ f h=>by injection h with h;subst h;exact⟨om,pJ n c⟩) c q
def eg.wf(n:Nat)(t:eg):Prop:=t.pr/\t.dep<=n
theorem tF{n:Nat}{m:Rc eg}(hm: ∀f,m=some f->n≠0/\ ∀q,Rd ((f q).1.wf (n-1)) ((f q).1.wt+2) q (f q).2)(q:Q):Rd ((iv m q).1.wf n) ((iv m q).1.wt+2) q (iv m q).2:=by
 unfold iv;dsimp only;split;cases m with
 |none=>exact .err
 |some f=>
  obtain⟨O,hf⟩:=hm f rfl;exact((((jV 11 q).trans (hf _)).trans (cp dc _)).trans (jV 2 _)).bH (λ a=>⟨a.1.1.2.1,by have:=a.1.1.2.2;rw[eg.dep];omega⟩) (by rw[eg.wt];omega)
 exact((cp dc q).trans (jV 2 _)).bH (λ a=>⟨a.1 rfl,HD _⟩) (by rw[eg.wt];omega)
theorem l_: ∀(n:Nat)(q:Q),Rd ((ks n q).1.wf n) ((ks n q).1.wt+2) q (ks n q).2
 |0,q=>tF (λ f h=>by cases h) q
 |n+1,q=>tF (λ f h=>by injection h with h;subst h;exact⟨om,l_ n⟩) q
def bT.wf(a:bT):Prop:=gB a.name/\a.v.wf 1000
def cB.wf(d:cB):Prop:=gB d.name/\ ∀a∈d.args,a.wf
def j9(l:List cB):Prop:= ∀d∈l,d.wf
def Ap(o:Option bo):Prop:= ∀v,o=some v->v.wf 1000
def aq.wf(a:aq):Prop:=gB a.name/\a.t.wf 1000/\Ap a.bV/\j9 a.ah
def cK.wf(f:cK):Prop:=gB f.name/\(∀a∈f.args,a.wf)/\f.t.wf 1000/\Ap f.bV/\j9 f.ah
def a_.wf(e:a_):Prop:=gB e.name/\j9 e.ah
structure Def.wf(d:Def):Prop where
 name:gB d.name
 ah:j9 d.ah
 ifaces: ∀x∈d.ifaces,gB x
 fields: ∀f∈d.fields,f.wf
 types: ∀x∈d.types,gB x
 enums: ∀e∈d.enums,e.wf
 sh:d.sh
def aL.wf(d:aL):Prop:=gB d.name/\(∀a∈d.args,a.wf)/\(∀l∈d.ba,l∈Go.Proofs.YtdpmeahgjjmdiaaGreatDoor.ba)/\d.ba≠[]
def cQ.wf(r:cQ):Prop:=r.op∈de/\gB r.t
def ae.wf(d:ae):Prop:=j9 d.ah/\ ∀r∈d.roots,r.wf
structure aH.wf(s:aH):Prop where
 defs: ∀d∈s.defs,d.wf
 exts: ∀d∈s.exts,d.wf/\d.doc=e0
 ah: ∀d∈s.ah,d.wf
 types: ∀d∈s.types,d.wf
 ai: ∀d∈s.ai,d.wf/\d.doc=e0/\d.w_
theorem yX(c:Bool)(q:Q):Rd (gh c q).1.wf ((gh c q).1.wt+2) q (gh c q).2:=
 (((cp dc q).trans (cp dc _)).trans (pJ 1000 c _)).bH (λ a=>⟨a.1.1 rfl,a.2⟩) (by rw[bT.wt];unfold gh;dsimp only;omega)
theorem As(c:Bool)(q:Q):Rd (ko c q).1.wf ((ko c q).1.wt+2) q (ko c q).2:=
 (((cp (k:=10) dc q).trans (cp (k:=16) dc _)).trans (iu 5 6 (wt:=bT.wt) (λ q=>(yX c q).bH id om) _)).bH (λ a=>⟨a.1.2 rfl,a.2⟩) (by rw[cB.wt];unfold ko;dsimp only;omega)
theorem fx(c:Bool)(q:Q):Rd (j9 (a7 c q).1) (aZ cB.wt (a7 c q).1) q (a7 c q).2:=lD 10 (λ q=>(As c q).bH id om) _ _
theorem kB(q:Q):Rd True (bC q).1.size q (bC q).2:=by
 unfold bC;split;exact(iH om).bH (λ _=>trivial) dm;exact Rd.refl.bH id (HZ _)
theorem zG(q:Q):Rd (Ap (hW q).1) (gN (hW q).1) q (hW q).2:=by
 unfold hW;dsimp only;split;exact((jV 9 q).trans (pJ 1000 true _)).bH (λ a v hv=>by injection hv with hv;subst hv;exact a.2) (by rw[gN];omega);exact Rd.refl.bH (λ _ v hv=>by cases hv) (HZ _)
theorem zv(q:Q):Rd (fG q).1.wf ((fG q).1.wt+2) q (fG q).2:=
 ((((((kB q).trans (cp (k:=16) dc _)).trans (cp (k:=8) dc _)).trans (l_ 1000 _)).trans (zG _)).trans (fx true _)).bH (λ a=>⟨a.1.1.1.1.2 rfl,a.1.1.2,a.1.2,a.2⟩) (by rw[aq.wt];unfold fG;dsimp only;omega)
theorem Cu(q:Q):Rd ((nV q).1.wf/\(nV q).1.args=[]) ((nV q).1.wt+2) q (nV q).2:=
 ((((((kB q).trans (cp (k:=16) dc _)).trans (cp (k:=8) dc _)).trans (l_ 1000 _)).trans (zG _)).trans (fx true _)).bH (λ a=>⟨⟨a.1.1.1.1.2 rfl,λ x L=>(by cases L),a.1.1.2,a.1.2,a.2⟩,rfl⟩) (by rw[cK.wt];unfold nV;dsimp only;rw[aZ];omega)
theorem q9(q:Q):Rd (∀a∈(gP q).1,a.wf) (aZ aq.wt (gP q).1) q (gP q).2:=iu 5 6 (λ q=>(zv q).bH id om) q
theorem At(q:Q):Rd ((jd q).1.wf/\(jd q).1.bV=none) ((jd q).1.wt+2) q (jd q).2:=
 ((((((kB q).trans (cp (k:=16) dc _)).trans (q9 _)).trans (cp (k:=8) dc _)).trans (l_ 1000 _)).trans (fx true _)).bH (λ a=>⟨⟨a.1.1.1.1.2 rfl,a.1.1.1.2,a.1.2,λ v hv=>(by cases hv),a.2⟩,rfl⟩) (by rw[cK.wt];unfold jd;dsimp only;rw[gN];omega)
theorem B9(q:Q):Rd (ri q).1.wf ((ri q).1.wt+2) q (ri q).2:=
 (((kB q).trans (cp (k:=16) dc _)).trans (fx true _)).bH (λ a=>⟨a.1.2 rfl,a.2⟩) (by rw[a_.wt];unfold ri;dsimp only;omega)
theorem tf(k:Nat){m:Q->ao×Q}{P:ao->Prop}(h: ∀q,Rd (P (m q).1) ((m q).1.size+1) q (m q).2)(q:Q):Rd ((∀x∈(fR k m q).1,P x)/\(fR k m q).1≠[]) (aZ H0 (fR k m q).1) q (fR k m q).2:=by
 unfold fR;dsimp only;refine(((jV k q).trans (h _)).trans (lD k (m:=λ q=>m (dR q)) (P:=P) (wt:=H0) (λ q=>(oK.trans (h _)).bH (λ a=>a.2) om) _ _)).bH (λ a=>⟨λ x L=>?_,by simp⟩) (by rw[aZ];omega);rcases G6.1 L with rfl|L
 exact a.1.2;exact a.2 x L
theorem z'(q:Q):Rd (gB (aA 16 q).1) ((aA 16 q).1.size+1) q (aA 16 q).2:=(cp dc q).bH (λ a=>a rfl) om
theorem A2(q:Q):Rd (∀x∈(fC q).1,gB x) (aZ H0 (fC q).1) q (fC q).2:=by
 unfold fC;split;exact(oK.trans (tf 4 z' _)).bH (λ a=>a.2.1) om;exact Rd.refl.bH (λ _ x L=>by cases L) (HZ _)
theorem BB(q:Q):Rd (∀x∈(j3 q).1,gB x) (aZ H0 (j3 q).1) q (j3 q).2:=by
 unfold j3;dsimp only;split;exact((jV 9 q).trans (tf 15 z' _)).bH (λ a=>a.2.1) om;exact Rd.refl.bH (λ _ x L=>by cases L) (HZ _)
theorem zb(q:Q):Rd (∀f∈(m_ q).1,f.wf/\f.bV=none) (aZ cK.wt (m_ q).1) q (m_ q).2:=iu 13 14 (λ q=>(At q).bH id om) q
theorem BD(q:Q):Rd (∀f∈(sU q).1,f.wf/\f.args=[]) (aZ cK.wt (sU q).1) q (sU q).2:=iu 13 14 (λ q=>(Cu q).bH id om) q
theorem A3(q:Q):Rd (∀f∈(sN q).1,f.wf) (aZ a_.wt (sN q).1) q (sN q).2:=iu 13 14 (λ q=>(B9 q).bH id om) q
abbrev dW(doc:ao)(d:Def):Nat:=d.wt+2-doc.size
theorem c7{α:Type}{P:α->Prop}: ∀x∈([]:List α),P x:=λ x h=>by cases h
theorem DL:cw.size=6/\cM.size=4/\aO.size=9/\c_.size=5/\ey.size=4/\da.size=5/\jQ.size=6/\dg.size=6/\bM.size=9/\lJ.size=5/\n_.size=4/\lE.size=12:=by decide
theorem oj(doc:ao)(q:Q):Rd ((dS doc q).1.wf/\(dS doc q).1.doc=doc) (dW doc (dS doc q).1) q (dS doc q).2:=
 (((iT cw q).trans (cp (k:=16) dc _)).trans (fx true _)).bH (λ a=>⟨⟨a.1.2 rfl,a.2,c7,c7,c7,c7,.inl ⟨rfl,rfl,rfl,rfl,rfl⟩⟩,rfl⟩) (by
  have:=DL;unfold dW;rw[Def.wt];unfold dS;dsimp only;simp only[aZ];omega)
theorem o'(kw A doc:ao)(U:A=dg\/A=bM)(aJ:A.size<=2*kw.size)(q:Q):Rd ((fc kw A doc q).1.wf/\(fc kw A doc q).1.doc=doc) (dW doc (fc kw A doc q).1) q (fc kw A doc q).2:=
 (((((iT kw q).trans (cp (k:=16) dc _)).trans (A2 _)).trans (fx true _)).trans (zb _)).bH (λ a=>⟨⟨a.1.1.1.2 rfl,a.1.2,a.1.1.2,λ f hf=>(a.2 f hf).1,c7,c7,.inr (.inl ⟨U,rfl,rfl,λ f hf=>(a.2 f hf).2⟩)⟩,rfl⟩) (by
  unfold dW;rw[Def.wt];unfold fc;dsimp only;simp only[aZ];omega)
theorem rH(doc:ao)(q:Q):Rd ((en doc q).1.wf/\(en doc q).1.doc=doc) (dW doc (en doc q).1) q (en doc q).2:=
 ((((iT c_ q).trans (cp (k:=16) dc _)).trans (fx true _)).trans (BB _)).bH (λ a=>⟨⟨a.1.1.2 rfl,a.1.2,c7,c7,a.2,c7,.inr (.inr (.inl ⟨rfl,rfl,rfl,rfl⟩))⟩,rfl⟩) (by
  have:=DL;unfold dW;rw[Def.wt];unfold en;dsimp only;simp only[aZ];omega)
theorem uJ(doc:ao)(q:Q):Rd ((fX doc q).1.wf/\(fX doc q).1.doc=doc) (dW doc (fX doc q).1) q (fX doc q).2:=
 ((((iT ey q).trans (cp (k:=16) dc _)).trans (fx true _)).trans (A3 _)).bH (λ a=>⟨⟨a.1.1.2 rfl,a.1.2,c7,c7,c7,a.2,.inr (.inr (.inr (.inl ⟨rfl,rfl,rfl,rfl⟩)))⟩,rfl⟩) (by
  have:=DL;unfold dW;rw[Def.wt];unfold fX;dsimp only;simp only[aZ];omega)
theorem q8(c:Bool)(doc:ao)(q:Q):Rd ((eu c doc q).1.wf/\(eu c doc q).1.doc=doc) (dW doc (eu c doc q).1) q (eu c doc q).2:=
 ((((iT da q).trans (cp (k:=16) dc _)).trans (fx c _)).trans (BD _)).bH (λ a=>⟨⟨a.1.1.2 rfl,a.1.2,c7,λ f hf=>(a.2 f hf).1,c7,c7,.inr (.inr (.inr (.inr ⟨rfl,rfl,rfl,rfl,λ f hf=>(a.2 f hf).2⟩)))⟩,rfl⟩) (by
  have:=DL;unfold dW;rw[Def.wt];unfold eu;dsimp only;simp only[aZ];omega)
theorem Bv(doc:ao)(q:Q):Rd ((gn doc q).1.wf/\(gn doc q).1.doc=doc) (dW doc (gn doc q).1) q (gn doc q).2:=by
 unfold gn;split;split;exact oj _ _;split;exact o' _ _ _ (.inl rfl) dc _;split;exact o' _ _ _ (.inr rfl) dc _;split;exact rH _ _;split;exact uJ _ _;split;exact q8 _ _ _;exact .err;exact .err
theorem jO{x:Def×Q}{q:Q}(h:Rd (x.1.wf/\x.1.doc=e0) (dW e0 x.1) q x.2):Rd ((bP x).1.wf/\(bP x).1.doc=e0/\(bP x).1.w_) (dW e0 (bP x).1) q (bP x).2:=by
 unfold bP;split;exact .err;rename_i aJ;exact h.bH (λ a=>⟨a.1,a.2,aJ⟩) (HZ _)
theorem A0(q:Q):Rd ((hN q).1.wf/\(hN q).1.doc=e0/\(hN q).1.w_) (dW e0 (hN q).1) q (hN q).2:=by
 unfold hN;split;exact jO (oj _ _);split;exact jO (o' _ _ _ (.inl rfl) dc _);split;exact jO (o' _ _ _ (.inr rfl) dc _);split;exact jO (rH _ _);split;exact jO (uJ _ _);split;exact jO (q8 _ _ _);exact .err
theorem C2 q:Rd ((rG q).1∈de) ((rG q).1.size) q (rG q).2:=by
 unfold rG;split;rename_i h;obtain⟨l,hl,e⟩:=h;intro y h
 match q,h,e with
 |none,h,_=>cases h
 |some [],h,e=>exact absurd (show e0∈de by rw[show e0=l from e];exact hl) (λ h=>by
  simp[de]at h;rcases h with h|h|h<;>exact absurd h dc)
 |some (t::r),h,e=>
  rw[dR]at h;split at h;cases h;injection h with h;subst h
  refine⟨_,rfl,λ U=>⟨λ x L=>U x (Hb _ L),?_,?_⟩⟩;show t.v∈de;rw[show t.v=l from e];exact hl;rw[mM];show t.v.size+_<=_;omega
 exact .err
theorem y8 q:Rd (fF q).1.wf ((fF q).1.wt+2) q (fF q).2:=
 (((C2 q).trans (cp (k:=8) dc _)).trans (cp (k:=16) dc _)).bH (λ a=>⟨a.1.1,a.2 rfl⟩) (by rw[cQ.wt];unfold fF;dsimp only;omega)
theorem w5 doc q:Rd ((gU doc q).1.wf/\(gU doc q).1.doc=doc) ((gU doc q).1.wt+2-doc.size) q (gU doc q).2:=
 (((iT bW q).trans (fx true _)).trans (iu 13 14 (wt:=cQ.wt) (λ q=>(y8 q).bH id om) _)).bH (λ a=>⟨⟨a.1.2,a.2⟩,rfl⟩) (by rw[ae.wt];unfold gU;dsimp only;omega)
theorem yw q:Rd ((dy q).1.wf/\(dy q).1.doc=e0) ((dy q).1.wt+2) q (dy q).2:=by
 unfold dy;dsimp only;split;exact .err;exact(w5 e0 q).bH id (by have:e0.size=0:=rfl;omega)
theorem Bt q:Rd ((fu q).1∈ba) ((fu q).1.size+1) q (fu q).2:=by
 unfold fu;dsimp only;split;rename_i h;obtain⟨l,hl,e⟩:=h;exact(cp dc q).bH (λ _=>by rw[e];exact hl) om;exact .err
theorem By q:Rd True 0 q (iJ q).2:=by
 unfold iJ;split;exact oK;exact .refl
theorem BX doc q:Rd ((q6 doc q).1.wf/\(q6 doc q).1.doc=doc) ((q6 doc q).1.wt+2-doc.size) q (q6 doc q).2:=by
 unfold q6;dsimp only;have G:=(iT aK q).trans (cp (k:=10) dc _);generalize(aA 10 (dM aK q)).2=q1 at G⊢;have H:=G.trans (cp (k:=16) dc q1);generalize aA 16 q1=a' at H⊢;have S:=H.trans (q9 a'.2);generalize gP a'.2=x3 at S⊢;have Y:=S.trans (fx true x3.2);generalize a7 true x3.2=x4 at Y⊢;have aI:=(Y.trans (By x4.2)).trans (iT su _);generalize iJ x4.2=x5 at aI⊢;generalize dM su x5.2=x6 at aI⊢;have h6:=aI.trans (tf 15 Bt x6);generalize fR 15 fu x6=x7 at h6⊢;refine h6.bH (λ a=>⟨⟨a.1.1.1.1.1.2 rfl,a.1.1.1.1.2,a.2.1,a.2.2⟩,rfl⟩) ?_;rw[aL.wt];dsimp only;omega
theorem Ay q:Rd True 0 q (hI q):=by
 unfold hI;dsimp only;split;exact .err;exact((((iT aK q).trans (cp (k:=10) dc _)).trans (cp (k:=16) dc _)).trans (fx true _)).bH (λ _=>trivial) (HD _)
def Sd(doc:Nat)(s:aH)(q:Q)(x:aH×Q):Prop:= ∀y,x.2=some y-> ∃ts,q=some ts/\(uZ ts->uZ y/\(s.wf->x.1.wf)/\x.1.wt+4*qn y<=s.wt+doc+4*qn ts)
theorem kF{α:Type}{P:α->Prop}{l}{y}(h: ∀x∈l,P x)(hy:P y): ∀x∈l++[y],P x:=λ x L=>by
 rcases HM.1 L with L|L
 exact h x L;simp at L;subst L;exact hy
theorem lb{α}f l(y:α):aZ f (l++[y])=aZ f l+f y+1:=by
 rw[pz];simp[aZ];omega
theorem Sd.of{P}{w}{doc}{s B}{q q'}(h:Rd P w q q')(hp:P->s.wf->B.wf)(hw:B.wt<=s.wt+doc+w):Sd doc s q (B,q'):=λ y e=>by
 obtain⟨ts,aw,k⟩:=h y e;exact⟨ts,aw,λ U=>by obtain⟨a,b,c⟩:=k U;exact⟨a,hp b,dm⟩⟩
theorem Sd.err{doc}{s B}{q}:Sd doc s q (B,none):=λ y h=>by cases h
theorem CO s q:Sd 0 s q (lf s q):=by
 unfold lf;dsimp only;have t:e0.size=0:=rfl;split;exact Sd.of ((iT bU q).trans (yw _)) (λ a h=>⟨h.defs,kF h.exts a.2,h.ah,h.types,h.ai⟩) (by simp only[aH.wt,lb];omega);split;exact Sd.of ((iT bU q).trans (Ay _)) (λ _ h=>h) om;exact Sd.of ((iT bU q).trans (A0 _)) (λ a h=>⟨h.defs,h.exts,h.ah,h.types,kF h.ai a.2⟩) (by simp only[aH.wt,lb];unfold dW;omega)
theorem wm s doc q:Sd doc.size s q (gl s doc q):=by
 unfold gl;split;exact .err;split;exact Sd.of (Bv doc q) (λ a h=>⟨h.defs,h.exts,h.ah,kF h.types a.1,h.ai⟩) (by simp only[aH.wt,lb];unfold dW;omega);split;exact Sd.of (w5 doc q) (λ a h=>⟨kF h.defs a.1,h.exts,h.ah,h.types,h.ai⟩) (by simp only[aH.wt,lb];omega);split;exact Sd.of (BX doc q) (λ a h=>⟨h.defs,h.exts,kF h.ah a.1,h.types,h.ai⟩) (by simp only[aH.wt,lb];omega);split;split;exact .err;intro y e;obtain⟨ts,aw,k⟩:=CO s q y e;exact⟨ts,aw,λ U=>by obtain⟨a,b,c⟩:=k U;exact⟨a,b,om⟩⟩;exact .err
theorem zf s q:Sd 0 s q (bX s q):=λ y e=>by
 obtain⟨t1,aw,k1⟩:=wm s _ _ y e;obtain⟨t0,e0,k0⟩:=kB q t1 aw;refine⟨t0,e0,λ U=>?_⟩;obtain⟨a1,_,a3⟩:=k0 U;obtain⟨b1,b2,b3⟩:=k1 a1;exact⟨b1,b2,by unfold bX;omega⟩
theorem t_: ∀n s q,Sd 0 s q (lk n s q)
 |0,s,q=>.err
 |n+1,s,none=>.err
 |n+1,s,some ts=>λ y e=>by
  rw[lk]at e⊢;split at e;rename_i U;rw[if_pos U];exact⟨y,e,λ U=>⟨U,id,dm⟩⟩;rename_i U;rw[if_neg U];dsimp only at e⊢;obtain⟨t1,aw,k1⟩:=t_ n _ _ y e;obtain⟨t0,e0,k0⟩:=zf s (some ts) t1 aw;refine⟨t0,e0,λ U=>?_⟩;obtain⟨a1,a2,a3⟩:=k0 U;obtain⟨b1,b2,b3⟩:=k1 a1;exact⟨b1,λ h=>b2 (a2 h),om⟩
theorem wT{ab}(h:(ep (eU ab)).2≠none):(ep (eU ab)).1.wf/\(ep (eU ab)).1.wt<=20*ab.size+4:=by
 obtain⟨y,he⟩: ∃y,(ep (eU ab)).2=some y:=by
  cases K:(ep (eU ab)).2 with
  |none=>exact absurd K h
  |some t=>exact⟨t,rfl⟩
 obtain⟨ts,e,k⟩:=t_ _ ⟨[],[],[],[],[]⟩ (eU ab) y he;obtain⟨o1,z⟩:=BH (al ab 0);injection(show eU ab=some ts from e)with e
 subst e;obtain⟨_,H,S⟩:=k o1;rw[aP]at z;refine⟨H ⟨c7,c7,c7,c7,c7⟩,?_⟩;have:(⟨[],[],[],[],[]⟩:aH).wt=0:=rfl;have Y:(ep (eU ab)).1.wt<=(⟨[],[],[],[],[]⟩:aH).wt+0+4*qn (fN (b0 (al ab 0))):=Ji (JY _ _) S;omega
theorem jT{l}(h:j9 l):iE l:=λ d hd x L=>((h d hd).2 x L).2.1
theorem Ae{o}(h:Ap o):zp o:=λ v hv=>(h v hv).1
theorem aq.wf.pw{a:aq}(h:a.wf):a.pw:=⟨Ae h.2.2.1,jT h.2.2.2⟩
theorem cK.wf.pw{a:cK}(h:a.wf):a.pw:=⟨λ x L=>(h.2.1 x L).pw,Ae h.2.2.2.1,jT h.2.2.2.2⟩
theorem Def.wf.pw{d:Def}(h:d.wf):d.pw:=by
 refine⟨jT h.ah,λ f hf=>(h.fields f hf).pw,λ e he=>jT (h.enums e he).2,?_⟩;rcases h.sh with⟨U,G,H,S,Y⟩|⟨U|U,S,Y,hf⟩|⟨U,G,H,Y⟩|⟨U,G,H,S⟩|⟨U,G,S,Y,hf⟩
 exact .inr H;exact .inl (.inl U);exact .inl (.inr (.inl U));exact .inr H;exact .inr H;exact .inl (.inr (.inr U))
theorem aH.wf.pw{s:aH}(h:s.wf):s.pw:=⟨λ d hd=>jT (h.defs d hd).1,λ d hd=>jT (h.exts d hd).1.1,λ d hd a ha=>((h.ah d hd).2.1 a ha).pw,λ d hd=>(h.types d hd).pw,λ d hd=>(h.ai d hd).1.pw⟩
theorem Dm{s}(h:gB s):s.size≠0:=λ e=>by
 obtain⟨x,r,L,_⟩:=h;have:=bp s;rw[L,e]at this;simp at this
mutual
theorem bo.oX: ∀v:bo,v.pw->v.ok
 | .mk k r a,⟨G,H,S⟩=>by
  refine⟨?_,Kids.oX a _ S⟩;rcases Nat.lt_or_ge k 10 with h|h
  omega
  match k,G,h with
  |k+10,G,_=>exact G.elim
theorem Kids.oX: ∀(a:Kids)(o:Bool),a.pw o->a.ok
 | .nil,_,_=>trivial
 | .cons n v r,o,⟨_,H,S⟩=>⟨bo.oX v H,Kids.oX r o S⟩
end
theorem eg.wM: ∀t:eg,t.pr->t.ok
 | .named n _,h=>Dm h
 | .list t _,h=>eg.wM t h
theorem kJ{l}(h:j9 l):lG l:=λ d hd a ha=>bo.oX _ ((h d hd).2 a ha).2.1
theorem zB{o}(h:Ap o):zi o:=λ v hv=>bo.oX _ (h v hv).1
theorem aq.wf.ok{a:aq}(h:a.wf):a.ok:=⟨eg.wM _ h.2.1.1,zB h.2.2.1,kJ h.2.2.2⟩
theorem cK.wf.ok{a:cK}(h:a.wf):a.ok:=⟨λ x L=>(h.2.1 x L).ok,eg.wM _ h.2.2.1.1,zB h.2.2.2.1,kJ h.2.2.2.2⟩
theorem Def.wf.kind{d:Def}(h:d.wf):d.kind∈hr:=by
 rcases h.sh with⟨U,_⟩|⟨U|U,_⟩|⟨U,_⟩|⟨U,_⟩|⟨U,_⟩
 rw[U];exact .head _;rw[U];exact .tail _ (.head _);rw[U];exact .tail _ (.tail _ (.head _));rw[U];exact .tail _ (.tail _ (.tail _ (.head _)));rw[U];exact .tail _ (.tail _ (.tail _ (.tail _ (.head _))));rw[U];exact .tail _ (.tail _ (.tail _ (.tail _ (.tail _ (.head _)))))
theorem Def.wf.ok{d:Def}(h:d.wf):d.ok:=⟨h.kind,kJ h.ah,λ f hf=>(h.fields f hf).ok,λ e he=>kJ (h.enums e he).2⟩
theorem ae.wf.ok{d:ae}(h:d.wf):d.ok:=⟨kJ h.1,λ r V=>(h.2 r V).1⟩
theorem aH.wf.ok{s:aH}(h:s.wf):s.ok:=⟨λ d hd=>(h.defs d hd).ok,λ d hd=>(h.exts d hd).1.ok,λ d hd a ha=>((h.ah d hd).2.1 a ha).ok,λ d hd=>(h.types d hd).ok,λ d hd=>(h.ai d hd).1.ok⟩
theorem kK{l}(h:j9 l)(hf: ∀d∈l,d.ft):iK l:=λ d hd=>⟨(h d hd).1,λ a ha=>⟨((h d hd).2 a ha).1,bo.o2 _ ((h d hd).2 a ha).2.1 (hf d hd a ha)⟩⟩
theorem zY{o}(h:Ap o)(hf:yJ o):wu o:=λ v hv=>bo.o2 _ (h v hv).1 (hf v hv)
theorem aq.wf.pr{a:aq}(h:a.wf)(hf:a.ft):a.pr:=⟨hf.1,h.1,h.2.1.1,zY h.2.2.1 hf.2.1,kK h.2.2.2 hf.2.2⟩
theorem cK.wf.pr{a:cK}(h:a.wf)(hf:a.ft):a.pr:=⟨hf.1,h.1,λ x L=>(h.2.1 x L).pr (hf.2.1 x L),zY h.2.2.2.1 hf.2.2.1,h.2.2.1.1,kK h.2.2.2.2 hf.2.2.2⟩
theorem a_.wf.pr{a:a_}(h:a.wf)(hf:a.ft):a.pr:=⟨hf.1,h.1,kK h.2 hf.2⟩
theorem Def.wf.pr{d:Def}(h:d.wf)(hf:d.ft)(U:d.nk):d.pr:=
 ⟨h.kind,hf.1,h.name,U.1,kK h.ah hf.2.1,h.ifaces,λ f hm=>⟨(h.fields f hm).pr (hf.2.2.1 f hm),U.2 f hm⟩,h.types,λ e he=>(h.enums e he).pr (hf.2.2.2.1 e he)⟩
theorem y1{l}(h:l∈ba):gB l:=by
 have key: ∀l∈ba,ea ((bl l).headD 0)=true/\((bl l).drop 1).all dj=true/\bl l≠[]:=by decide
 obtain⟨G,H,S⟩:=key l h;cases hb:bl l with
 |nil=>exact absurd hb S
 |cons x r=>rw[hb]at G H;exact fi x r hb G H
theorem aL.wf.pr{d:aL}(h:d.wf)(hf:d.ft):d.pr:=⟨hf.1,h.1,λ a ha=>(h.2.1 a ha).pr (hf.2 a ha),λ l hl=>y1 (h.2.2.1 l hl),h.2.2.2⟩
theorem ae.wf.pr{d:ae}(h:d.wf)(hf:d.ft):d.pr:=⟨hf.1,kK h.1 hf.2.1,λ r V=>h.2 r V,hf.2.2⟩
theorem aH.wf.pr{s:aH}(h:s.wf)(hf:s.ft)(G: ∀x∈s.types,x.nk)(H: ∀x∈s.ai,x.nk)(P:s.defs.length<=1)(aA:s.exts.length<=1):s.pr:=
 ⟨λ d hd=>(h.defs d hd).pr (hf.defs d hd),λ d hd=>(h.exts d hd).1.pr (hf.exts d hd),λ d hd=>(h.ah d hd).pr (hf.ah d hd),λ d hd=>(h.types d hd).pr (hf.types d hd) (G d hd),λ d hd=>(h.ai d hd).1.pr (hf.ai d hd) (H d hd),P,aA⟩
theorem lM{l}(h:j9 l):il l:=λ d hd a ha=>((h d hd).2 a ha).2.2
theorem Cv{o}(h:Ap o):DM o:=λ v hv=>(h v hv).2
theorem aq.wf.dp{a:aq}(h:a.wf):a.dp:=⟨h.2.1.2,Cv h.2.2.1,lM h.2.2.2⟩
theorem cK.wf.dp{a:cK}(h:a.wf):a.dp:=⟨λ x L=>(h.2.1 x L).dp,h.2.2.1.2,Cv h.2.2.2.1,lM h.2.2.2.2⟩
theorem Def.wf.go{d:Def}(h:d.wf)(hf:d.ft)(U:d.nk):d.go:=⟨h.pr hf U,⟨lM h.ah,λ f hm=>(h.fields f hm).dp,λ e he=>lM (h.enums e he).2⟩,h.sh,hf.2.2.2.2⟩
theorem aH.wf.go{s:aH}(h:s.wf)(hf:s.ft)(G: ∀x∈s.types,x.nk)(H: ∀x∈s.ai,x.nk)(P:s.defs.length<=1)(aA:s.exts.length<=1):s.go:=
 ⟨h.pr hf G H P aA,λ d hd=>lM (h.defs d hd).1,λ d hd=>⟨lM (h.exts d hd).1.1,(h.exts d hd).2⟩,λ d hd=>⟨λ a ha=>((h.ah d hd).2.1 a ha).dp,(h.ah d hd).2.2.1⟩,
  λ d hd=>(h.types d hd).go (hf.types d hd) (G d hd),λ d hd=>⟨(h.ai d hd).1.go (hf.ai d hd) (H d hd),(h.ai d hd).2.1,(h.ai d hd).2.2⟩⟩
structure Ln(st:FS)(n:Nat):Prop where
 len:st.out.length<=n
 ind:st.ind.size<=16
section
variable{st:FS}{n n' m:Nat}
theorem Ln.mono(h:Ln st n)(O:n<=n'):Ln st n':=⟨Ji h.len O,h.ind⟩
theorem oo(h:st.ind.size<=16)(hm:m<=2):(eC st m).length<=33:=by
 unfold eC;split;rw[Lib.repeatL_length];have G:st.ind.data.toList.length=st.ind.size:=by simp
 have:=Nat.mul_le_mul hm h;rw[G];omega;split;simp;simp
theorem Ln.ws(h:Ln st n)(hm:m<=2)s:Ln (st.ws m s) (n+(33+s.length)):=by
 obtain⟨G,_,S⟩:=kd st m s;have:=oo h.ind hm;exact⟨by rw[G,HT,HT];have:=h.len;omega,by rw[S];exact h.ind⟩
theorem Ln.ww(h:Ln st n)(hm:m<=2)s:Ln (st.ww m s) (n+(33+s.length)):=by
 obtain⟨G,_,S⟩:=qh st m s;have:=oo h.ind hm;exact⟨by rw[G,HT,HT];have:=h.len;omega,by rw[S];exact h.ind⟩
theorem Ln.nl(h:Ln st n):Ln st.nl (n+1):=⟨by show(st.out++[10]).length<=_;rw[HT];have:=h.len;simp;omega,h.ind⟩
theorem Ln.np(h:Ln st n):Ln st.np n:=⟨h.len,h.ind⟩
theorem Ln.pd(h:Ln st n):Ln st.pd n:=⟨h.len,h.ind⟩
theorem Ln.inc(h:Ln st n):Ln st.inc n:=⟨h.len,h.ind⟩
theorem Ln.dec(h:Ln st n):Ln st.dec n:=⟨h.len,h.ind⟩
theorem cU(x:UInt8):[x].length=1:=rfl
theorem Ln.ld(h:Ln st n)(hm:m<=2)a:Ln (st.ld m a) (n+101*a.wt):=
 ((((h.ww hm (bl a.name)).np.ws hm [58]).pd).ws hm a.v.by).mono (by have:=bo.fS a.v;rw[bT.wt,bp,cU];omega)
theorem Ln.e1(hm:m<=2): ∀l{st}{n},Ln st n->Ln (FS.e1 m st l) (n+150*aZ bT.wt l)
 |[],st,n,h=>h.mono (JY _ _)
 |a::r,st,n,h=>by
  rw[FS.e1];have G:=h.ld hm a;have H:Ln (if r.isEmpty=true then st.ld m a else(st.ld m a).np.ww m [44]) (n+101*a.wt+34):=by
   split;exact G.mono om;exact(G.np.ww hm [44]).mono (by rw[cU];omega)
  exact(Ln.e1 hm r H).mono (by rw[aZ];omega)
theorem Ln.jr(h:Ln st n)(hm:m<=2)l:Ln (st.jr m l) (n+(68+150*aZ bT.wt l)):=by
 unfold FS.jr;split;exact h.mono om;exact((Ln.e1 hm l (h.np.ws hm [40])).ws hm [41]).pd.mono (by rw[cU,cU];omega)
theorem Ln.dir(h:Ln st n)(hm:m<=2)d:Ln (st.dir m d) (n+150*d.wt):=
 (((h.ws hm [64]).ww hm (bl d.name)).jr hm d.args).mono (by rw[cB.wt,bp,cU];omega)
theorem Ln.ah(hm:m<=2): ∀l{st}{n},Ln st n->Ln (FS.ah m st l) (n+150*aZ cB.wt l)
 |[],st,n,h=>h.mono (JY _ _)
 |a::r,st,n,h=>(Ln.ah hm r (h.dir hm a)).mono (by rw[aZ];omega)
theorem Ln.desc(h:Ln st n)(hm:m<=2)s:Ln (st.desc m s) (n+(108+s.size)):=by
 unfold FS.desc;split;exact h.mono om;exact((((((h.ws hm q3).nl).ws hm (bl s)).nl).ws hm q3).nl).mono (by rw[bp];show _+(33+3)+1+_+1+(33+3)+1<=_;omega)
theorem Ln.bV(h:Ln st n)(hm:m<=2): ∀o:Option bo,Ln (st.bV m o) (n+70*gN o)
 |none=>h.mono (JY _ _)
 |some v=>((h.ww hm [61]).ws hm v.by).mono (by have:=bo.fS v;rw[gN,cU];omega)
theorem Ln.hy(h:Ln st n)(hm:m<=2)a:Ln (st.hy m a) (n+(101+a.name.size+4*a.t.wt+70*gN a.bV+150*aZ cB.wt a.ah)):=
 (Ln.ah hm a.ah ((((((h.ww hm (bl a.name)).np.ws hm [58]).pd).ww hm a.t.by).bV hm a.bV).pd)).mono (by have:=eg.fS a.t;rw[bp,cU];omega)
theorem Ln.h2(h:Ln st n)(hm:m<=1)a:Ln (st.h2 m a) (n+250*a.wt):=by
 unfold FS.h2;split;exact(h.hy om a).mono (by rw[aq.wt];omega);exact(((h.nl.inc).desc (m:=m+1) om a.doc).hy (m:=m+1) om a).dec.nl.mono (by rw[aq.wt];omega)
theorem Ln.eM(hm:m<=1): ∀l{st}{n},Ln st n->Ln (FS.eM m st l) (n+250*aZ aq.wt l)
 |[],st,n,h=>h.mono (JY _ _)
 |a::r,st,n,h=>by
  rw[FS.eM];have G:=h.h2 hm a;have H:Ln (if r.isEmpty=false/\a.doc.size=0 then(st.h2 m a).np.ww m [44]else st.h2 m a) (n+250*a.wt+34):=by
   split;exact(G.np.ww om [44]).mono (by rw[cU];omega);exact G.mono om
  exact(Ln.eM hm r H).mono (by rw[aZ];omega)
theorem Ln.gm(h:Ln st n)(hm:m<=1)l:Ln (st.gm m l) (n+(68+250*aZ aq.wt l)):=by
 unfold FS.gm;split;exact h.mono om;exact((Ln.eM hm l (h.ws om [40])).np.ws om [41]).pd.mono (by rw[cU,cU];omega)
theorem Ln.x'(h:Ln st n)(hm:m<=1)f:Ln (st.x' m f) (n+300*f.wt):=
 (Ln.ah om f.ah ((((((((h.desc om f.doc).ww om (bl f.name)).np).gm hm f.args).np.ws om [58]).pd).ww om f.t.by).bV om f.bV)).nl.mono (by have:=eg.fS f.t;rw[cK.wt,bp,cU];omega)
theorem Ln.hn(hm:m<=1): ∀l{st}{n},Ln st n->Ln (FS.hn m st l) (n+300*aZ cK.wt l)
 |[],st,n,h=>h.mono (JY _ _)
 |a::r,st,n,h=>(Ln.hn hm r (h.x' hm a)).mono (by rw[aZ];omega)
theorem Ln.nP(h:Ln st n)(hm:m<=0)l:Ln (st.nP m l) (n+(69+300*aZ cK.wt l)):=by
 unfold FS.nP;split;exact h.mono om;exact(((Ln.hn (m:=m+1) om l ((h.ws om [123]).nl.inc)).dec).ws om [125]).mono (by rw[cU,cU];omega)
theorem Ln.ev(h:Ln st n)(hm:m<=2)e:Ln (st.ev m e) (n+300*e.wt):=
 (Ln.ah hm e.ah ((h.desc hm e.doc).ww hm (bl e.name))).nl.mono (by rw[a_.wt,bp];omega)
theorem Ln.kt(hm:m<=2): ∀l{st}{n},Ln st n->Ln (FS.kt m st l) (n+300*aZ a_.wt l)
 |[],st,n,h=>h.mono (JY _ _)
 |a::r,st,n,h=>(Ln.kt hm r (h.ev hm a)).mono (by rw[aZ];omega)
theorem Ln.xx(h:Ln st n)(hm:m<=1)l:Ln (st.xx m l) (n+(69+300*aZ a_.wt l)):=by
 unfold FS.xx;split;exact h.mono om;exact(((Ln.kt (m:=m+1) om l ((h.ws om [123]).nl.inc)).dec).ws om [125]).mono (by rw[cU,cU];omega)
theorem Ln.dY(hm:m<=2): ∀l{st}{n},Ln st n->Ln (FS.dY m st l) (n+70*aZ H0 l)
 |[],st,n,h=>h.mono (JY _ _)
 |a::r,st,n,h=>by
  rw[FS.dY];have G:=h.ww hm (bl a);have H:Ln (if r.isEmpty=true then st.ww m (bl a)else(st.ww m (bl a)).ww m [124]) (n+(33+(bl a).length)+34):=by
   split;exact G.mono om;exact(G.ww hm [124]).mono (by rw[cU];omega)
  exact(Ln.dY hm r H).mono (by rw[aZ,bp];omega)
theorem Ln.ba(h:Ln st n)(hm:m<=2)l:Ln (st.ba m l) (n+(35+70*aZ H0 l)):=by
 unfold FS.ba;split;exact h.mono om;exact(Ln.dY hm l (h.ww hm (bl su))).mono (by show n+(33+2)+_<=_;omega)
theorem Ln.kS(h:Ln st n)(hm:m<=1)d:Ln (st.kS m d) (n+400*d.wt):=by
 unfold FS.kS;dsimp only;have s1:=(((h.desc (m:=m) om d.doc).ww (m:=m) om (bl aK)).ws (m:=m) om [64]).ww (m:=m) om (bl d.name);generalize((((st.desc m d.doc).ww m (bl aK)).ws m [64]).ww m (bl d.name))=s0 at s1⊢;have s2:Ln (if d.args.isEmpty=true then s0 else s0.np.gm m d.args) (n+(108+d.doc.size)+(33+(bl aK).length)+(33+[(64:UInt8)].length)+(33+(bl d.name).length)+(68+250*aZ aq.wt d.args)):=by
  split;exact s1.mono om;exact s1.np.gm hm d.args
 generalize(if d.args.isEmpty=true then s0 else s0.np.gm m d.args)=s at s2⊢;have s3:Ln (if d.rep=true then s.ww m (bl bE)else s) (n+(108+d.doc.size)+(33+(bl aK).length)+(33+[(64:UInt8)].length)+(33+(bl d.name).length)+(68+250*aZ aq.wt d.args)+43):=by
  split;exact s2.ww om _;exact s2.mono om
 exact(s3.ba om d.ba).nl.mono (by
  have aw:(bl aK).length=9:=rfl;rw[aL.wt,aw,cU,bp];omega)
theorem Ln.hA(hm:m<=1): ∀l{st}{n},Ln st n->Ln (FS.hA m st l) (n+400*aZ aL.wt l)
 |[],st,n,h=>h.mono (JY _ _)
 |a::r,st,n,h=>(Ln.hA hm r (h.kS hm a)).mono (by rw[aZ];omega)
theorem Ln.root(h:Ln st n)(hm:m<=2)r:Ln (st.root m r) (n+200*r.wt):=
 (((((h.ww hm (bl r.op)).np.ws hm [58]).pd).ww hm (bl r.t)).nl).mono (by rw[cQ.wt,bp,bp,cU];omega)
theorem Ln.roots(hm:m<=2): ∀l{st}{n},Ln st n->Ln (FS.roots m st l) (n+200*aZ cQ.wt l)
 |[],st,n,h=>h.mono (JY _ _)
 |a::r,st,n,h=>(Ln.roots hm r (h.root hm a)).mono (by rw[aZ];omega)
theorem Ln.ext(h:Ln st n)(hm:m<=2)x:Ln (st.ext m x) (n+39):=by
 unfold FS.ext;split;exact h.ww hm _;exact h.mono om
theorem Ln.nU(h:Ln st n)(hm:m<=1)x d:Ln (st.nU m x d) (n+400*d.wt):=by
 have s1:=(Ln.ah (m:=m+1) om d.ah (((h.desc (m:=m) om d.doc).ext (m:=m) om x).ww (m:=m) om (bl bW)).inc).dec;exact((((Ln.roots (m:=m+1) om d.roots ((s1.ws (m:=m) om [123]).nl).inc).dec).ws (m:=m) om [125])).nl.mono (by
  have aw:(bl bW).length=6:=rfl;rw[ae.wt,aw,cU,cU];omega)
theorem Ln.jw(h:Ln st n)(hm:m<=1)x l:Ln (st.jw m x l) (n+400*aZ ae.wt l):=by
 cases l with
 |nil=>exact h.mono (JY _ _)
 |cons d r=>exact(h.nU hm x d).mono (by rw[aZ];omega)
theorem Bb k:(bl (fL k)).length<=9:=by
 unfold fL
 repeat' split
 all_goals decide
theorem Ln.oW(h:Ln st n)(hm:m<=0)x d:Ln (st.oW m x d) (n+600*d.wt):=by
 have s1:=(((h.desc (m:=m) om d.doc).ext (m:=m) om x).ww (m:=m) om (bl (fL d.kind))).ww (m:=m) om (bl d.name);have U:=Bb d.kind;have ak:=dJ [32,38,32] d.ifaces;have aB:=dJ [32,124,32] d.types;have ak:(ff [32,38,32] d.ifaces).length<=aZ H0 d.ifaces*4:=ak;have aB:(ff [32,124,32] d.types).length<=aZ H0 d.types*4:=aB;have O:(bl a8).length=10:=rfl;unfold FS.oW;dsimp only;generalize((((st.desc m d.doc).ext m x).ww m (bl (fL d.kind))).ww m (bl d.name))=s at s1⊢;have s2:Ln (if d.ifaces.isEmpty=true then s else(s.ww m (bl a8)).ww m (ff [32,38,32] d.ifaces)) (n+(108+d.doc.size)+39+(33+9)+(33+(bl d.name).length)+(76+4*aZ H0 d.ifaces)):=by
  split;exact s1.mono om;exact((s1.ww (m:=m) om (bl a8)).ww (m:=m) om _).mono om
 generalize(if d.ifaces.isEmpty=true then s else(s.ww m (bl a8)).ww m (ff [32,38,32] d.ifaces))=B at s2⊢;have s3:=Ln.ah (m:=m) om d.ah s2;generalize FS.ah m B d.ah=a at s3⊢;have s4:Ln (if d.types.isEmpty=true then a else(a.ww m [61]).ww m (ff [32,124,32] d.types)) (n+(108+d.doc.size)+39+(33+9)+(33+(bl d.name).length)+(76+4*aZ H0 d.ifaces)+150*aZ cB.wt d.ah+(67+4*aZ H0 d.types)):=by
  split;exact s3.mono om;exact((s3.ww (m:=m) om [61]).ww (m:=m) om _).mono (by rw[cU];omega)
 exact(((s4.nP hm d.fields).xx om d.enums).nl).mono (by rw[Def.wt,bp];omega)
theorem Ln.jc(hm:m<=0)x: ∀l{st}{n},Ln st n->Ln (FS.jc m x st l) (n+600*aZ Def.wt l)
 |[],st,n,h=>h.mono (JY _ _)
 |a::r,st,n,h=>(Ln.jc hm x r (h.oW hm x a)).mono (by rw[aZ];omega)
end
theorem za{ind}co(aJ:ind.size<=16)d:((⟨ind,0,false,co,false,false,[]⟩:FS).doc d).out.length<=600*d.wt:=by
 have N:Ln (⟨ind,0,false,co,false,false,[]⟩:FS) 0:=⟨HZ _,aJ⟩;exact((Ln.jc (HZ _) true d.ai (Ln.jc (HZ _) false d.types (Ln.hA dc d.ah ((N.jw dc false d.defs).jw dc true d.exts)))).mono (n':=600*d.wt) (by rw[aH.wt];omega)).len
theorem qK{U}{x y}{a b:ao}:h3 HB (.binOp .eql 141 x y U) [.agg #[vs a,vs b],.agg #[vs a,vs b]] (vb true):=by
 refine⟨λ ρ ty pos dst af g w h=>?_⟩;simp[Op.operands]at h;have G:=run_eqGuard_agg (P:=HB) w .eql 141 x y #[vs a,vs b] #[vs a,vs b] kr;have H:(binOp .eql 141 (.agg #[vs a,vs b]) (.agg #[vs a,vs b])).run HB w=.ok (vb true) w:=by
  rw[run_eql_struct,run_equalIn_struct (P:=HB) w 9999 141 _ _ kr kr];have hf: ∃f1 f2:Go.Field,(HB.fieldsOf 141).toList=[f1,f2]/\f1.type=9/\f1.offset=0/\f2.type=9/\f2.offset=1:=⟨(HB.fieldsOf 141)[0]!,(HB.fieldsOf 141)[1]!,by kernel_rfl,by kernel_rfl,by kernel_rfl,by kernel_rfl,by kernel_rfl⟩;obtain⟨f1,f2,hf,aw,az,e3,aS⟩:=hf;rw[hf];have u:HB.underlying 9=some .string:=by kernel_rfl
  simp[Op.eqFields,aw,az,e3,aS,part,run_equalIn_string w 9998 9 _ _ u]
 simp only[execOp,h.1,h.2];simp[G,H]
theorem pX{aa}{s}{cs}(h:ad aa (tS s) cs):cs=[vs s]:=ad.aB.1 h
theorem we o:aZ bo.wt o.toList<=gN o+1:=by cases o<;>simp[aZ,gN]<;>omega
theorem c70: ∀aa(s:ao),Sp 70 [vs s,vs s] [] aa (λ v M' _=>v=vb true/\M'=[]):=by
 intro aa s;refine aW Tryz.func70 λ F=>(dI 11 [2] [4])<|G' (vb (ay s s)) [] [] ⟨congrArg vb (by simp[ay]),rfl⟩
theorem GO: ∀r aa l aE,cQ.wt r<=68719476736->ad aa (iZ r) l->ad aa (iZ r) aE->Sp 66 [.agg l.toArray,.agg aE.toArray] [] aa (λ v M' _=>v=vb true/\M'=[]):=by
 intro r aa l aE hw G H;obtain rfl:=eH G;obtain rfl:=eH H;refine aW Tryz.func66 λ F=>(ra 10 [1,0] [1,2] [5,6]) λ b1=>(e5 (.binOp .eql 141 (.tmp 5) (.tmp 6) 141) [.agg #[vs r.op,vs r.t],.agg #[vs r.op,vs r.t]] (v:=(vb true)) (qK))<|(dI 2 [2] [4])<|H4 true [0,0] ⟨rfl,rfl⟩
theorem Bn: ∀aa A c E c2,Sp 137 [vl A 0 c,vl E 0 c2,vf 98 #[]] [] aa (λ v M' _=>v=vb true/\M'=[]):=by
 intro aa A c E c2;refine aW Tryz.func137 λ F=>(dI 25 [2,1,0,0,0] [0,1,2,14,15])<|(dI 10 [4] [6])<|H4 true [] ⟨rfl,rfl⟩
theorem Dz aa A c E c2(_:Nat):Sp 137 [vl A 0 c,vl E 0 c2,vf 98 #[]] [] aa (λ v M' _=>v=vb true/\M'=[]):=Bn aa A c E c2
theorem Dw: ∀t aa g g' c ai ar T fz f T' i{s:ao}{A}{n c2}{b}{B:ao}{A'}{n' h}{z},aa g=some (.cells ar T fz)->(∀j u,([vs s,vl A n c2,vb b]:List Value)[j]?=some u->ar[0*3+j]?=some u)->aa g'=some (.cells f T' i)->(∀j u,([vs B,vl A' n' h,vb z]:List Value)[j]?=some u->f[0*3+j]?=some u)->ad aa (fU t) [vs s,vl A n c2,vb b]->ad aa (fU t) [vs B,vl A' n' h,vb z]->(∀im,au.le aa im->Sp 98 [.agg #[vs s,vl A n c2,vb b],.agg #[vs B,vl A' n' h,vb z]] [] im (λ v M' _=>v=vb true/\M'=[]))->
 Sp 137 [vl (sa g 0) 1 c,vl (sa g' 0) 1 ai,vf 98 #[]] [] aa (λ v M' _=>v=vb true/\M'=[]):=by
 intro t aa g g' c ai ar T fz f T' i s A n c2 b B A' n' h z hg J a q hv p af;refine aW Tryz.func137 λ F=>(cP hg (J))<|(cP a (q))<|(dI 25 [2,1,0,0,0] [0,1,2,14,15])<|(aM 14 1 [2,0,1] [7])<|(qz)<|(cu [0,3,5,2] [] [18,19,20,23,24])<|(nS 7 (.indexAddr 67 (.tmp 23) (.tmp 24)) [vl (sa g' 0) 1 ai,vi 0] (v:=(vp g' (0*3))) (bG (k:=0) yE dc))<|(cu [8,1] [0] [26])<|(nS 3 (.indexAddr 67 (.tmp 19) (.tmp 20)) [vl (sa g 0) 1 c,vi 0] (v:=(vp g (0*3))) (bG (k:=0) yE dc))<|(cu [4,1] [1] [22])<|(bj [] (af _ lq)) λ|_,_,ak,P,⟨rfl,rfl⟩=>(aG [])<|(mK [10,1] [] [28])<|(aM 9 4 [0] [])<|(dI 10 [4] [6])<|H4 true [0,0] ⟨rfl,rfl⟩
theorem FZ: ∀t aa l aE,ad aa (fU t) l->ad aa (fU t) aE->Sp 98 [.agg l.toArray,.agg aE.toArray] [] aa (λ v M' _=>v=vb true/\M'=[]):=by
 intro t;induction t with
 |named nm nn=>
  intro aa l aE G H;obtain⟨s,A,n,c,b,rfl⟩:=eG G;obtain⟨B,A',n',ai,z,rfl⟩:=eG H;obtain⟨rfl,rfl,rfl⟩:=kg G;obtain⟨rfl,rfl,rfl⟩:=kg H;refine aW Tryz.func98 λ F=>(ra 15 [1,0] [1,0,6] [2,3,10]) λ b1=>(sv 10 (show(!(z==z))=false from by simp[ay]))<|(cI 13 [1,1,0] [1,1] [22])<|(sv 22 (I' B))<|(h5 8 [1,0] [2,4] [24,26])<|(cR [] (Dz _ A c A' ai 98)) λ ak P=>(dI 2 [3] [4])<|H4 true [0,0] ⟨rfl,rfl⟩
 |list t nn af=>
  intro aa l aE G H;obtain⟨s,A,n,c,b,rfl⟩:=eG G;obtain⟨B,A',n',ai,z,rfl⟩:=eG H;have d:=G;have C:=H;obtain⟨rfl,rfl,rfl,g,s2,E,n2,c2,b2,ar,T,fz,rfl,hg,J,hv⟩:=lC G;obtain⟨rfl,rfl,rfl,g',r,j,k,h,m,f,T',i,rfl,a,q,p⟩:=lC H;refine aW Tryz.func98 λ F=>(ra 15 [1,0] [1,0,6] [2,3,10]) λ b5=>(sv 10 (show(!(z==z))=false from by simp[ay]))<|(h5 21 [1,1,0] [2,4] [24,26])<|(cR [] (Dw t _ g g' c ai _ _ _ _ _ _ hg J a q hv p (λ im hl=>af im _ _ (hv.mono hl) (p.mono hl)))) λ aB aA=>(dI 2 [3] [4])<|H4 true [0,0] ⟨rfl,rfl⟩
theorem CI: ∀N v,v.wt<=N->N<=137438953472-> ∀aa l aE,ad aa (eI v) l->ad aa (eI v) aE->Sp 100 [.agg l.toArray,.agg aE.toArray] [] aa (λ v M' _=>v=vb true/\M'=[]):=by
 intro N;induction N with
 |zero=>intro v hv;have:=v.iP;omega
 |succ N u=>
  intro v hv hN aa l aE G H;obtain⟨t,nx,r,rfl,ax⟩:=dv G;obtain⟨n,f,h,rfl,d⟩:=dv H;have aV:=v.o1;have ba:=v.kids.kl;have al:(ic v.kids).length=v.kids.list.length:=by rw[e7];simp
  obtain rfl:nx=v.kids.list.length:=by rw[<-al];exact ax.len
  obtain rfl:f=v.kids.list.length:=by rw[<-al];exact d.len
  refine aW Tryz.func100 λ F=>(ra 15 [1,0] [1,0,6] [2,3,11]) λ b1=>(sv 11 (H9 v.kind))<|(cI 9 [1,0] [1,1] [19])<|(sv 19 (H9 v.kids.list.length))<|(cI 9 [1] [2,0,4] [23])<|(iz 23 ((v.kind:Int) !=8)) (λ q1=>?_) (λ q1=>?_);refine(gK 5 [1] 1 [9] [28])<|(iz 28 ((v.kind:Int) !=9)) (λ q2=>?_) (λ q2=>?_);refine(cI 7 [1,0] [2,1] [34])<|(sv 34 (I' v.raw))<|(cI 13 [1] [3,1,0,0,0] [37,38])<|(wz (ι:=Nat×au) (λ i=>v.kids.list.length-i.1) (λ i=>i.2) [2,3,37] (λ i=>[(38,vi i.1)]) (λ i c=>c) (λ i=>au.le aa i.2/\True) ⟨0,aa⟩ ⟨lq,trivial⟩) ?_;rintro⟨k,bd⟩ ⟨hle,hinv⟩ af;dsimp only at hle hinv;refine(aM 4 1 [1] [39])<|(eX 39 k v.kids.list.length) (λ I=>?_) (λ I=>?_);obtain⟨q,W,D,Tx,Q,rfl,⟨J,R,y,rfl,a⟩,j,g⟩:=(ax.mono hle).xE I;obtain⟨gy,X,Z,Ty,T,rfl,⟨M,L,K,rfl,b⟩,p,m⟩:=(d.mono hle).xE I;have aF:=v.kids.gA (HY I);refine(cP j (g))<|(cP p (m))<|(aM 10 1 [2,0,1] [5])<|(qz)<|(cu [0,4] [3] [44])<|(lP 44 ((v.kind:Int)==9)) (λ q3=>?_) (λ q3=>?_);refine(cu [4,3,10,3] [3,2] [46,47,52,53])<|(h6 13 ei I)<|(cu [14,2] [0] [56])<|(h6 7 ei I)<|(cu [8,2,16,3] [1] [59])<|(qo 59 (I' v.kids.list[k].1))<|(cu [19,3,25,3] [3,2] [61,62,67,68])<|(h6 28 ei I)<|(cu [29,2] [100] [71])<|(h6 22 ei I)<|(cu [23,2] [101] [65])<|(bj [] (u _ om om _ _ _ a b)) λ|_,_,j4,l4,⟨rfl,rfl⟩=>(aG [])<|(mK [32,2] [] [74])<|(aM 9 4 [0] [])<|(sv 38 (ag I om))<|(dz [1,0])<|lz (af ⟨k+1,j4⟩ ⟨lq,trivial⟩ dm);refine(cu [4,18,25,3] [3,2] [59,61,62,67,68])<|(h6 28 ei I)<|(cu [29,2] [100] [71])<|(h6 22 ei I)<|(cu [23,2] [101] [65])<|(bj [] (u _ om om _ _ _ a b)) λ|_,_,bc,a7,⟨rfl,rfl⟩=>(aG [])<|(mK [32,2] [] [74])<|(aM 9 4 [0] [])<|(sv 38 (ag I om))<|(dz [1,0])<|lz (af ⟨k+1,bc⟩ ⟨lq,trivial⟩ dm);refine(dI 6 [5] [4])<|H4 true [0,0] ⟨rfl,rfl⟩;refine(cI 20 [1] [3,1,0,0,0] [37,38])<|(wz (ι:=Nat×au) (λ i=>v.kids.list.length-i.1) (λ i=>i.2) [2,3,37] (λ i=>[(38,vi i.1)]) (λ i c=>c) (λ i=>au.le aa i.2/\True) ⟨0,aa⟩ ⟨lq,trivial⟩) ?_;rintro⟨k,bd⟩ ⟨hle,hinv⟩ af;dsimp only at hle hinv;refine(aM 4 1 [1] [39])<|(eX 39 k v.kids.list.length) (λ I=>?_) (λ I=>?_);obtain⟨q,W,D,Tx,Q,rfl,⟨J,R,y,rfl,a⟩,j,g⟩:=(ax.mono hle).xE I;obtain⟨gy,X,Z,Ty,T,rfl,⟨M,L,K,rfl,b⟩,p,m⟩:=(d.mono hle).xE I;have aF:=v.kids.gA (HY I);refine(cP j (g))<|(cP p (m))<|(aM 10 1 [2,0,1] [5])<|(qz)<|(cu [0,4] [3] [44])<|(lP 44 ((v.kind:Int)==9)) (λ ae=>?_) (λ ae=>?_);refine(cu [4,3,10,3] [3,2] [46,47,52,53])<|(h6 13 ei I)<|(cu [14,2] [0] [56])<|(h6 7 ei I)<|(cu [8,2,16,3] [1] [59])<|(qo 59 (I' v.kids.list[k].1))<|(cu [19,3,25,3] [3,2] [61,62,67,68])<|(h6 28 ei I)<|(cu [29,2] [100] [71])<|(h6 22 ei I)<|(cu [23,2] [101] [65])<|(bj [] (u _ om om _ _ _ a b)) λ|_,_,j7,l7,⟨rfl,rfl⟩=>(aG [])<|(mK [32,2] [] [74])<|(aM 9 4 [0] [])<|(sv 38 (ag I om))<|(dz [1,0])<|lz (af ⟨k+1,j7⟩ ⟨lq,trivial⟩ dm);refine(cu [4,18,25,3] [3,2] [59,61,62,67,68])<|(h6 28 ei I)<|(cu [29,2] [100] [71])<|(h6 22 ei I)<|(cu [23,2] [101] [65])<|(bj [] (u _ om om _ _ _ a b)) λ|_,_,j8,aP,⟨rfl,rfl⟩=>(aG [])<|(mK [32,2] [] [74])<|(aM 9 4 [0] [])<|(sv 38 (ag I om))<|(dz [1,0])<|lz (af ⟨k+1,j8⟩ ⟨lq,trivial⟩ dm);refine(dI 6 [5] [4])<|H4 true [0,0] ⟨rfl,rfl⟩;refine(h5 25 [1] [3,1,0,0,0] [2,3,37,38])<|(wz (ι:=Nat×au) (λ i=>v.kids.list.length-i.1) (λ i=>i.2) [2,3,37] (λ i=>[(38,vi i.1)]) (λ i c=>c) (λ i=>au.le aa i.2/\True) ⟨0,aa⟩ ⟨lq,trivial⟩) ?_;rintro⟨k,bd⟩ ⟨hle,hinv⟩ af;dsimp only at hle hinv;refine(aM 4 1 [1] [39])<|(eX 39 k v.kids.list.length) (λ I=>?_) (λ I=>?_);obtain⟨q,W,D,Tx,Q,rfl,⟨J,R,y,rfl,a⟩,j,g⟩:=(ax.mono hle).xE I;obtain⟨gy,X,Z,Ty,T,rfl,⟨M,L,K,rfl,b⟩,p,m⟩:=(d.mono hle).xE I;have aF:=v.kids.gA (HY I);refine(cP j (g))<|(cP p (m))<|(aM 10 1 [2,0,1] [5])<|(qz)<|(cu [0,4] [3] [44])<|(lP 44 ((v.kind:Int)==9)) (λ q9=>?_) (λ q9=>?_);refine(cu [4,3,10,3] [3,2] [46,47,52,53])<|(h6 13 ei I)<|(cu [14,2] [0] [56])<|(h6 7 ei I)<|(cu [8,2,16,3] [1] [59])<|(qo 59 (I' v.kids.list[k].1))<|(cu [19,3,25,3] [3,2] [61,62,67,68])<|(h6 28 ei I)<|(cu [29,2] [100] [71])<|(h6 22 ei I)<|(cu [23,2] [101] [65])<|(bj [] (u _ om om _ _ _ a b)) λ|_,_,bE,x,⟨rfl,rfl⟩=>(aG [])<|(mK [32,2] [] [74])<|(aM 9 4 [0] [])<|(sv 38 (ag I om))<|(dz [1,0])<|lz (af ⟨k+1,bE⟩ ⟨lq,trivial⟩ dm);refine(cu [4,18,25,3] [3,2] [59,61,62,67,68])<|(h6 28 ei I)<|(cu [29,2] [100] [71])<|(h6 22 ei I)<|(cu [23,2] [101] [65])<|(bj [] (u _ om om _ _ _ a b)) λ|_,_,bz,hL,⟨rfl,rfl⟩=>(aG [])<|(mK [32,2] [] [74])<|(aM 9 4 [0] [])<|(sv 38 (ag I om))<|(dz [1,0])<|lz (af ⟨k+1,bz⟩ ⟨lq,trivial⟩ dm);refine(dI 6 [5] [4])<|H4 true [0,0] ⟨rfl,rfl⟩
theorem Gu: ∀d aa l aE,bT.wt d<=68719476736->ad aa (fH d) l->ad aa (fH d) aE->Sp 97 [.agg l.toArray,.agg aE.toArray] [] aa (λ v M' _=>v=vb true/\M'=[]):=by
 intro d aa l aE hw G H;obtain⟨av,S,ar,rfl,Y⟩:=dK G;obtain⟨ai,aw,aq,rfl,V⟩:=dK H;simp[bT.wt]at hw;refine aW Tryz.func97 λ F=>(ra 14 [1,0] [1,6] [2,3,10]) λ b1=>(sv 10 (H8 d.name))<|(cI 4 [1,0] [1,10] [12,14])<|(cR [] (CI _ _ (HZ _) om _ _ _ Y V)) λ ak P=>(dI 3 [2] [4])<|H4 true [0,0] ⟨rfl,rfl⟩
theorem Eb: ∀l aa A n c E n2 c2,aZ bT.wt l<=68719476736->ad aa (.sl (l.map fH)) [vl A n c]->ad aa (.sl (l.map fH)) [vl E n2 c2]->Sp 96 [vl A n c,vl E n2 c2,vf 97 #[]] [] aa (λ v M' _=>v=vb true/\M'=[]):=by
 intro l aa A n c E n2 c2 hw U b;have O:=U.len;rw[HX]at O;subst O;have O:=b.len;rw[HX]at O;subst O;have hl:=ax bT.wt l;refine aW Tryz.func96 λ F=>(dI 13 [1,1] [0,1,2,12])<|(sv 12 (H9 l.length))<|(gp 12 [2,1,0,0,0] [14,15])<|(xY 15 l.length [0,1,2,14] (λ o j9=>True) trivial) λ k bd hle hinv af=>(aM 4 1 [1] [16])<|(eX 16 k l.length) (λ I=>?_) (λ I=>?_);obtain⟨q,W,D,Tx,Q,rfl,d,j,g⟩:=((U.mono hle)).elem 4 I (λ cs h=>by obtain⟨av,S,ar,rfl,Y⟩:=dK h;rfl);have e:=d;obtain⟨av,S,ar,rfl,Y⟩:=dK d;obtain⟨gy,X,Z,Ty,T,rfl,a,p,m⟩:=((b.mono hle)).elem 4 I (λ cs h=>by obtain⟨ai,aw,aq,rfl,V⟩:=dK h;rfl);have f:=a;obtain⟨ai,aw,aq,rfl,V⟩:=dK a;have aF:=aU bT.wt (HY I);refine(cP j (g))<|(cP p (m))<|(aM 10 1 [2,0,1] [7])<|(qz)<|(cu [0,3,5,2] [] [18,19,20,23,24])<|(h6 7 ni I)<|(cu [8,1] [0] [26])<|(h6 3 ni I)<|(cu [4,1] [1] [22])<|(bj [] (Gu _ _ _ _ om e f)) λ|_,_,ak,P,⟨rfl,rfl⟩=>(aG [])<|(mK [10,1] [] [28])<|(aM 9 4 [0] [])<|(sv 15 (ag I om))<|(dz [1,0])<|lz (af (k+1) ak lq trivial om);refine(dI 6 [4] [6])<|H4 true [] ⟨rfl,rfl⟩
theorem DC: ∀d aa l aE,cB.wt d<=68719476736->ad aa (ju d) l->ad aa (ju d) aE->Sp 64 [.agg l.toArray,.agg aE.toArray] [] aa (λ v M' _=>v=vb true/\M'=[]):=by
 intro d aa l aE hw G H;obtain⟨av,S,ar,rfl,Y⟩:=eB G;obtain⟨ai,aw,aq,rfl,V⟩:=eB H;simp[cB.wt]at hw;refine aW Tryz.func64 λ F=>(ra 14 [1,0] [1,6] [2,3,10]) λ b1=>(sv 10 (H8 d.name))<|(cI 4 [1,0] [1,10] [12,14])<|(cR [] (Eb _ _ _ _ _ _ _ _ om Y V)) λ ak P=>(dI 3 [2] [4])<|H4 true [0,0] ⟨rfl,rfl⟩
theorem vZ: ∀l aa A n c E n2 c2,aZ cB.wt l<=68719476736->ad aa (.sl (l.map ju)) [vl A n c]->ad aa (.sl (l.map ju)) [vl E n2 c2]->Sp 63 [vl A n c,vl E n2 c2,vf 64 #[]] [] aa (λ v M' _=>v=vb true/\M'=[]):=by
 intro l aa A n c E n2 c2 hw U b;have O:=U.len;rw[HX]at O;subst O;have O:=b.len;rw[HX]at O;subst O;have hl:=ax cB.wt l;refine aW Tryz.func63 λ F=>(dI 13 [1,1] [0,1,2,12])<|(sv 12 (H9 l.length))<|(gp 12 [2,1,0,0,0] [14,15])<|(xY 15 l.length [0,1,2,14] (λ o j9=>True) trivial) λ k bd hle hinv af=>(aM 4 1 [1] [16])<|(eX 16 k l.length) (λ I=>?_) (λ I=>?_);obtain⟨q,W,D,Tx,Q,rfl,d,j,g⟩:=((U.mono hle)).elem 2 I (λ cs h=>by obtain⟨av,S,ar,rfl,Y⟩:=eB h;rfl);have e:=d;obtain⟨av,S,ar,rfl,Y⟩:=eB d;obtain⟨gy,X,Z,Ty,T,rfl,a,p,m⟩:=((b.mono hle)).elem 2 I (λ cs h=>by obtain⟨ai,aw,aq,rfl,V⟩:=eB h;rfl);have f:=a;obtain⟨ai,aw,aq,rfl,V⟩:=eB a;have aF:=aU cB.wt (HY I);refine(cP j (g))<|(cP p (m))<|(aM 10 1 [2,0,1] [7])<|(qz)<|(cu [0,3,5,2] [] [18,19,20,23,24])<|(h6 7 si I)<|(cu [8,1] [0] [26])<|(h6 3 si I)<|(cu [4,1] [1] [22])<|(bj [] (DC _ _ _ _ om e f)) λ|_,_,ak,P,⟨rfl,rfl⟩=>(aG [])<|(mK [10,1] [] [28])<|(aM 9 4 [0] [])<|(sv 15 (ag I om))<|(dz [1,0])<|lz (af (k+1) ak lq trivial om);refine(dI 6 [4] [6])<|H4 true [] ⟨rfl,rfl⟩
theorem CG: ∀l aa A n c E n2 c2,aZ bo.wt l<=137438953472->ad aa (.sl (l.map eI)) [vl A n c]->ad aa (.sl (l.map eI)) [vl E n2 c2]->Sp 99 [vl A n c,vl E n2 c2,vf 100 #[]] [] aa (λ v M' _=>v=vb true/\M'=[]):=by
 intro l aa A n c E n2 c2 hw U b;have O:=U.len;rw[HX]at O;subst O;have O:=b.len;rw[HX]at O;subst O;have hl:=ax bo.wt l;refine aW Tryz.func99 λ F=>(dI 13 [1,1] [0,1,2,12])<|(sv 12 (H9 l.length))<|(gp 12 [2,1,0,0,0] [14,15])<|(xY 15 l.length [0,1,2,14] (λ o j9=>True) trivial) λ k bd hle hinv af=>(aM 4 1 [1] [16])<|(eX 16 k l.length) (λ I=>?_) (λ I=>?_);obtain⟨q,W,D,Tx,Q,rfl,d,j,g⟩:=((U.mono hle)).elem 3 I (λ cs h=>by obtain⟨J,R,y,rfl,i⟩:=dv h;rfl);have e:=d;obtain⟨J,R,y,rfl,i⟩:=dv d;obtain⟨gy,X,Z,Ty,T,rfl,a,p,m⟩:=((b.mono hle)).elem 3 I (λ cs h=>by obtain⟨M,L,K,rfl,r⟩:=dv h;rfl);have f:=a;obtain⟨M,L,K,rfl,r⟩:=dv a;have aF:=aU bo.wt (HY I);refine(cP j (g))<|(cP p (m))<|(aM 10 1 [2,0,1] [7])<|(qz)<|(cu [0,3,5,2] [] [18,19,20,23,24])<|(h6 7 vn I)<|(cu [8,1] [0] [26])<|(h6 3 vn I)<|(cu [4,1] [1] [22])<|(bj [] (CI _ _ (HZ _) om _ _ _ e f)) λ|_,_,ak,P,⟨rfl,rfl⟩=>(aG [])<|(mK [10,1] [] [28])<|(aM 9 4 [0] [])<|(sv 15 (ag I om))<|(dz [1,0])<|lz (af (k+1) ak lq trivial om);refine(dI 6 [4] [6])<|H4 true [] ⟨rfl,rfl⟩
theorem Bx: ∀(l:List ao)aa A n c E n2 c2,aZ H0 l<=68719476736->ad aa (.sl (l.map tS)) [vl A n c]->ad aa (.sl (l.map tS)) [vl E n2 c2]->Sp 69 [vl A n c,vl E n2 c2,vf 70 #[]] [] aa (λ v M' _=>v=vb true/\M'=[]):=by
 intro l aa A n c E n2 c2 hw U b;have O:=U.len;rw[HX]at O;subst O;have O:=b.len;rw[HX]at O;subst O;have hl:=ax H0 l;refine aW Tryz.func69 λ F=>(dI 13 [1,1] [0,1,2,12])<|(sv 12 (H9 l.length))<|(gp 12 [2,1,0,0,0] [14,15])<|(xY 15 l.length [0,1,2,14] (λ o j9=>True) trivial) λ k bd hle hinv af=>(aM 4 1 [1] [16])<|(eX 16 k l.length) (λ I=>?_) (λ I=>?_);obtain⟨q,W,D,Tx,Q,rfl,d,j,g⟩:=((U.mono hle)).elem 1 I (λ cs h=>by obtain⟨rfl⟩:=pX h;rfl);have e:=d;obtain⟨rfl⟩:=pX d;obtain⟨gy,X,Z,Ty,T,rfl,a,p,m⟩:=((b.mono hle)).elem 1 I (λ cs h=>by obtain⟨rfl⟩:=pX h;rfl);have f:=a;obtain⟨rfl⟩:=pX a;have aF:=aU H0 (HY I);refine(cP j (g))<|(cP p (m))<|(aM 10 1 [2,0,1] [7])<|(qz)<|(cu [0,3,5,2] [] [18,19,20,23,24])<|(h6 7 cY I)<|(cu [8,1] [0] [26])<|(h6 3 cY I)<|(cu [4,1] [1] [22])<|(bj (args:=[vs l[k],vs l[k]]) (M:=[]) [] (c70 _ _)) λ|_,_,ak,P,⟨rfl,rfl⟩=>(aG [])<|(mK [10,1] [] [28])<|(aM 9 4 [0] [])<|(sv 15 (ag I om))<|(dz [1,0])<|lz (af (k+1) ak lq trivial om);refine(dI 6 [4] [6])<|H4 true [] ⟨rfl,rfl⟩
theorem GG: ∀d aa l aE,aq.wt d<=68719476736->ad aa (cx d) l->ad aa (cx d) aE->Sp 68 [.agg l.toArray,.agg aE.toArray] [] aa (λ v M' _=>v=vb true/\M'=[]):=by
 intro d aa l aE hw G H;obtain⟨ar,u,x,z,Y,al,an,ao,J,R,y,rfl,i,t,N⟩:=cH G;obtain⟨ai,C,w,B,V,ah,ae,aj,M,L,K,rfl,r,s,ab⟩:=cH H;simp[aq.wt]at hw;refine aW Tryz.func68 λ F=>(ra 14 [1,0] [1,6] [2,3,10]) λ b1=>(sv 10 (H8 d.doc))<|(cI 7 [1,0] [1,13] [17])<|(sv 17 (H8 d.name))<|(cI 4 [1,0] [1,17] [19,21])<|(cR [] (FZ _ _ _ _ i r)) λ ak P=>(cI 6 [1,0] [1,24] [24,26,28])<|(cR [] (CG _ _ _ _ _ _ _ _ (by have h9:=we d.bV;omega) (t.mono P) (s.mono P))) λ aB aA=>(h5 6 [1,0] [1,31] [31,33,35])<|(cR [] (vZ _ _ _ _ _ _ _ _ om (N.mono lq) (ab.mono lq))) λ j3 l3=>(dI 3 [2] [4])<|H4 true [0,0] ⟨rfl,rfl⟩
theorem BU: ∀l aa A n c E n2 c2,aZ aq.wt l<=68719476736->ad aa (.sl (l.map cx)) [vl A n c]->ad aa (.sl (l.map cx)) [vl E n2 c2]->Sp 67 [vl A n c,vl E n2 c2,vf 68 #[]] [] aa (λ v M' _=>v=vb true/\M'=[]):=by
 intro l aa A n c E n2 c2 hw U b;have O:=U.len;rw[HX]at O;subst O;have O:=b.len;rw[HX]at O;subst O;have hl:=ax aq.wt l;refine aW Tryz.func67 λ F=>(dI 13 [1,1] [0,1,2,12])<|(sv 12 (H9 l.length))<|(gp 12 [2,1,0,0,0] [14,15])<|(xY 15 l.length [0,1,2,14] (λ o j9=>True) trivial) λ k bd hle hinv af=>(aM 4 1 [1] [16])<|(eX 16 k l.length) (λ I=>?_) (λ I=>?_);obtain⟨q,W,D,Tx,Q,rfl,d,j,g⟩:=((U.mono hle)).elem 7 I (λ cs h=>by obtain⟨ar,u,x,z,Y,al,an,ao,J,R,y,rfl,i,t,N⟩:=cH h;rfl);have e:=d;obtain⟨ar,u,x,z,Y,al,an,ao,J,R,y,rfl,i,t,N⟩:=cH d;obtain⟨gy,X,Z,Ty,T,rfl,a,p,m⟩:=((b.mono hle)).elem 7 I (λ cs h=>by obtain⟨ai,C,w,B,V,ah,ae,aj,M,L,K,rfl,r,s,ab⟩:=cH h;rfl);have f:=a;obtain⟨ai,C,w,B,V,ah,ae,aj,M,L,K,rfl,r,s,ab⟩:=cH a;have aF:=aU aq.wt (HY I);refine(cP j (g))<|(cP p (m))<|(aM 10 1 [2,0,1] [7])<|(qz)<|(cu [0,3,5,2] [] [18,19,20,23,24])<|(h6 7 sZ I)<|(cu [8,1] [0] [26])<|(h6 3 sZ I)<|(cu [4,1] [1] [22])<|(bj [] (GG _ _ _ _ om e f)) λ|_,_,ak,P,⟨rfl,rfl⟩=>(aG [])<|(mK [10,1] [] [28])<|(aM 9 4 [0] [])<|(sv 15 (ag I om))<|(dz [1,0])<|lz (af (k+1) ak lq trivial om);refine(dI 6 [4] [6])<|H4 true [] ⟨rfl,rfl⟩
theorem c72: ∀d aa l aE,cK.wt d<=68719476736->ad aa (i_ d) l->ad aa (i_ d) aE->Sp 72 [.agg l.toArray,.agg aE.toArray] [] aa (λ v M' _=>v=vb true/\M'=[]):=by
 intro d aa l aE hw G H;obtain⟨u,x,z,al,an,ao,aD,J,R,y,az,ar,S,ai,rfl,i,t,N,V⟩:=dT G;obtain⟨C,w,B,ah,ae,aj,ay,M,L,K,aC,aq,av,aw,rfl,r,s,ab,Y⟩:=dT H;simp[cK.wt]at hw;refine aW Tryz.func72 λ F=>(ra 14 [1,0] [1,6] [2,3,10]) λ b1=>(sv 10 (H8 d.doc))<|(cI 7 [1,0] [1,13] [17])<|(sv 17 (H8 d.name))<|(cI 4 [1,0] [1,17] [19,21])<|(cR [] (BU _ _ _ _ _ _ _ _ om i r)) λ ak P=>(cI 6 [1,0] [1,24] [24,26,28])<|(cR [] (CG _ _ _ _ _ _ _ _ (by have h9:=we d.bV;omega) (t.mono P) (s.mono P))) λ aB aA=>(cI 6 [1,0] [1,31] [31,33,35])<|(cR [] (FZ _ _ _ _ (N.mono lq) (ab.mono lq))) λ j3 l3=>(h5 6 [1,0] [1,38] [38,40,42])<|(cR [] (vZ _ _ _ _ _ _ _ _ om (V.mono lq) (Y.mono lq))) λ j4 l4=>(dI 3 [2] [4])<|H4 true [0,0] ⟨rfl,rfl⟩
theorem E5: ∀l aa A n c E n2 c2,aZ cK.wt l<=68719476736->ad aa (.sl (l.map i_)) [vl A n c]->ad aa (.sl (l.map i_)) [vl E n2 c2]->Sp 71 [vl A n c,vl E n2 c2,vf 72 #[]] [] aa (λ v M' _=>v=vb true/\M'=[]):=by
 intro l aa A n c E n2 c2 hw U b;have O:=U.len;rw[HX]at O;subst O;have O:=b.len;rw[HX]at O;subst O;have hl:=ax cK.wt l;refine aW Tryz.func71 λ F=>(dI 13 [1,1] [0,1,2,12])<|(sv 12 (H9 l.length))<|(gp 12 [2,1,0,0,0] [14,15])<|(xY 15 l.length [0,1,2,14] (λ o j9=>True) trivial) λ k bd hle hinv af=>(aM 4 1 [1] [16])<|(eX 16 k l.length) (λ I=>?_) (λ I=>?_);obtain⟨q,W,D,Tx,Q,rfl,d,j,g⟩:=((U.mono hle)).elem 8 I (λ cs h=>by obtain⟨u,x,z,al,an,ao,aD,J,R,y,az,ar,S,ai,rfl,i,t,N,V⟩:=dT h;rfl);have e:=d;obtain⟨u,x,z,al,an,ao,aD,J,R,y,az,ar,S,ai,rfl,i,t,N,V⟩:=dT d;obtain⟨gy,X,Z,Ty,T,rfl,a,p,m⟩:=((b.mono hle)).elem 8 I (λ cs h=>by obtain⟨C,w,B,ah,ae,aj,ay,M,L,K,aC,aq,av,aw,rfl,r,s,ab,Y⟩:=dT h;rfl);have f:=a;obtain⟨C,w,B,ah,ae,aj,ay,M,L,K,aC,aq,av,aw,rfl,r,s,ab,Y⟩:=dT a;have aF:=aU cK.wt (HY I);refine(cP j (g))<|(cP p (m))<|(aM 10 1 [2,0,1] [7])<|(qz)<|(cu [0,3,5,2] [] [18,19,20,23,24])<|(h6 7 qC I)<|(cu [8,1] [0] [26])<|(h6 3 qC I)<|(cu [4,1] [1] [22])<|(bj [] (c72 _ _ _ _ om e f)) λ|_,_,ak,P,⟨rfl,rfl⟩=>(aG [])<|(mK [10,1] [] [28])<|(aM 9 4 [0] [])<|(sv 15 (ag I om))<|(dz [1,0])<|lz (af (k+1) ak lq trivial om);refine(dI 6 [4] [6])<|H4 true [] ⟨rfl,rfl⟩
theorem GJ: ∀d aa l aE,a_.wt d<=68719476736->ad aa (e2 d) l->ad aa (e2 d) aE->Sp 74 [.agg l.toArray,.agg aE.toArray] [] aa (λ v M' _=>v=vb true/\M'=[]):=by
 intro d aa l aE hw G H;obtain⟨u,x,z,rfl,i⟩:=c' G;obtain⟨C,w,B,rfl,r⟩:=c' H;simp[a_.wt]at hw;refine aW Tryz.func74 λ F=>(ra 14 [1,0] [1,6] [2,3,10]) λ b1=>(sv 10 (H8 d.doc))<|(cI 7 [1,0] [1,13] [17])<|(sv 17 (H8 d.name))<|(cI 4 [1,0] [1,17] [19,21])<|(cR [] (vZ _ _ _ _ _ _ _ _ om i r)) λ ak P=>(dI 3 [2] [4])<|H4 true [0,0] ⟨rfl,rfl⟩
theorem FB: ∀l aa A n c E n2 c2,aZ a_.wt l<=68719476736->ad aa (.sl (l.map e2)) [vl A n c]->ad aa (.sl (l.map e2)) [vl E n2 c2]->Sp 73 [vl A n c,vl E n2 c2,vf 74 #[]] [] aa (λ v M' _=>v=vb true/\M'=[]):=by
 intro l aa A n c E n2 c2 hw U b;have O:=U.len;rw[HX]at O;subst O;have O:=b.len;rw[HX]at O;subst O;have hl:=ax a_.wt l;refine aW Tryz.func73 λ F=>(dI 13 [1,1] [0,1,2,12])<|(sv 12 (H9 l.length))<|(gp 12 [2,1,0,0,0] [14,15])<|(xY 15 l.length [0,1,2,14] (λ o j9=>True) trivial) λ k bd hle hinv af=>(aM 4 1 [1] [16])<|(eX 16 k l.length) (λ I=>?_) (λ I=>?_);obtain⟨q,W,D,Tx,Q,rfl,d,j,g⟩:=((U.mono hle)).elem 3 I (λ cs h=>by obtain⟨u,x,z,rfl,i⟩:=c' h;rfl);have e:=d;obtain⟨u,x,z,rfl,i⟩:=c' d;obtain⟨gy,X,Z,Ty,T,rfl,a,p,m⟩:=((b.mono hle)).elem 3 I (λ cs h=>by obtain⟨C,w,B,rfl,r⟩:=c' h;rfl);have f:=a;obtain⟨C,w,B,rfl,r⟩:=c' a;have aF:=aU a_.wt (HY I);refine(cP j (g))<|(cP p (m))<|(aM 10 1 [2,0,1] [7])<|(qz)<|(cu [0,3,5,2] [] [18,19,20,23,24])<|(h6 7 sy I)<|(cu [8,1] [0] [26])<|(h6 3 sy I)<|(cu [4,1] [1] [22])<|(bj [] (GJ _ _ _ _ om e f)) λ|_,_,ak,P,⟨rfl,rfl⟩=>(aG [])<|(mK [10,1] [] [28])<|(aM 9 4 [0] [])<|(sv 15 (ag I om))<|(dz [1,0])<|lz (af (k+1) ak lq trivial om);refine(dI 6 [4] [6])<|H4 true [] ⟨rfl,rfl⟩
theorem EV: ∀l aa A n c E n2 c2,aZ cQ.wt l<=68719476736->ad aa (.sl (l.map iZ)) [vl A n c]->ad aa (.sl (l.map iZ)) [vl E n2 c2]->Sp 65 [vl A n c,vl E n2 c2,vf 66 #[]] [] aa (λ v M' _=>v=vb true/\M'=[]):=by
 intro l aa A n c E n2 c2 hw U b;have O:=U.len;rw[HX]at O;subst O;have O:=b.len;rw[HX]at O;subst O;have hl:=ax cQ.wt l;refine aW Tryz.func65 λ F=>(dI 13 [1,1] [0,1,2,12])<|(sv 12 (H9 l.length))<|(gp 12 [2,1,0,0,0] [14,15])<|(xY 15 l.length [0,1,2,14] (λ o j9=>True) trivial) λ k bd hle hinv af=>(aM 4 1 [1] [16])<|(eX 16 k l.length) (λ I=>?_) (λ I=>?_);obtain⟨q,W,D,Tx,Q,rfl,d,j,g⟩:=((U.mono hle)).elem 2 I (λ cs h=>by obtain⟨rfl⟩:=eH h;rfl);have e:=d;obtain⟨rfl⟩:=eH d;obtain⟨gy,X,Z,Ty,T,rfl,a,p,m⟩:=((b.mono hle)).elem 2 I (λ cs h=>by obtain⟨rfl⟩:=eH h;rfl);have f:=a;obtain⟨rfl⟩:=eH a;have aF:=aU cQ.wt (HY I);refine(cP j (g))<|(cP p (m))<|(aM 10 1 [2,0,1] [7])<|(qz)<|(cu [0,3,5,2] [] [18,19,20,23,24])<|(h6 7 w6 I)<|(cu [8,1] [0] [26])<|(h6 3 w6 I)<|(cu [4,1] [1] [22])<|(bj [] (GO _ _ _ _ om e f)) λ|_,_,ak,P,⟨rfl,rfl⟩=>(aG [])<|(mK [10,1] [] [28])<|(aM 9 4 [0] [])<|(sv 15 (ag I om))<|(dz [1,0])<|lz (af (k+1) ak lq trivial om);refine(dI 6 [4] [6])<|H4 true [] ⟨rfl,rfl⟩
theorem GR: ∀d aa l aE,ae.wt d<=68719476736->ad aa (aD d) l->ad aa (aD d) aE->Sp 32 [.agg l.toArray,.agg aE.toArray] [] aa (λ v M' _=>v=vb true/\M'=[]):=by
 intro d aa l aE hw G H;obtain⟨av,S,ar,u,x,z,rfl,Y,i⟩:=bn G;obtain⟨ai,aw,aq,C,w,B,rfl,V,r⟩:=bn H;simp[ae.wt]at hw;refine aW Tryz.func32 λ F=>(ra 14 [1,0] [1,6] [2,3,10]) λ b1=>(sv 10 (H8 d.doc))<|(cI 4 [1,0] [1,10] [12,14])<|(cR [] (vZ _ _ _ _ _ _ _ _ om Y V)) λ ak P=>(h5 6 [1,0] [1,17] [17,19,21])<|(cR [] (EV _ _ _ _ _ _ _ _ om (i.mono P) (r.mono P))) λ aB aA=>(dI 3 [2] [4])<|H4 true [0,0] ⟨rfl,rfl⟩
theorem BR: ∀l aa A n c E n2 c2,aZ ae.wt l<=68719476736->ad aa (.sl (l.map aD)) [vl A n c]->ad aa (.sl (l.map aD)) [vl E n2 c2]->Sp 31 [vl A n c,vl E n2 c2,vf 32 #[]] [] aa (λ v M' _=>v=vb true/\M'=[]):=by
 intro l aa A n c E n2 c2 hw U b;have O:=U.len;rw[HX]at O;subst O;have O:=b.len;rw[HX]at O;subst O;have hl:=ax ae.wt l;refine aW Tryz.func31 λ F=>(dI 13 [1,1] [0,1,2,12])<|(sv 12 (H9 l.length))<|(gp 12 [2,1,0,0,0] [14,15])<|(xY 15 l.length [0,1,2,14] (λ o j9=>True) trivial) λ k bd hle hinv af=>(aM 4 1 [1] [16])<|(eX 16 k l.length) (λ I=>?_) (λ I=>?_);obtain⟨q,W,D,Tx,Q,rfl,d,j,g⟩:=((U.mono hle)).elem 3 I (λ cs h=>by obtain⟨av,S,ar,u,x,z,rfl,Y,i⟩:=bn h;rfl);have e:=d;obtain⟨av,S,ar,u,x,z,rfl,Y,i⟩:=bn d;obtain⟨gy,X,Z,Ty,T,rfl,a,p,m⟩:=((b.mono hle)).elem 3 I (λ cs h=>by obtain⟨ai,aw,aq,C,w,B,rfl,V,r⟩:=bn h;rfl);have f:=a;obtain⟨ai,aw,aq,C,w,B,rfl,V,r⟩:=bn a;have aF:=aU ae.wt (HY I);refine(cP j (g))<|(cP p (m))<|(aM 10 1 [2,0,1] [7])<|(qz)<|(cu [0,3,5,2] [] [18,19,20,23,24])<|(h6 7 nX I)<|(cu [8,1] [0] [26])<|(h6 3 nX I)<|(cu [4,1] [1] [22])<|(bj [] (GR _ _ _ _ om e f)) λ|_,_,ak,P,⟨rfl,rfl⟩=>(aG [])<|(mK [10,1] [] [28])<|(aM 9 4 [0] [])<|(sv 15 (ag I om))<|(dz [1,0])<|lz (af (k+1) ak lq trivial om);refine(dI 6 [4] [6])<|H4 true [] ⟨rfl,rfl⟩
theorem Gr: ∀d aa l aE,aL.wt d<=68719476736->ad aa (cn d) l->ad aa (cn d) aE->Sp 34 [.agg l.toArray,.agg aE.toArray] [] aa (λ v M' _=>v=vb true/\M'=[]):=by
 intro d aa l aE hw G H;obtain⟨u,x,z,al,an,ao,rfl,i,t⟩:=b' G;obtain⟨C,w,B,ah,ae,aj,rfl,r,s⟩:=b' H;simp[aL.wt]at hw;refine aW Tryz.func34 λ F=>(ra 14 [1,0] [1,6] [2,3,10]) λ b1=>(sv 10 (H8 d.doc))<|(cI 7 [1,0] [1,13] [17])<|(sv 17 (H8 d.name))<|(cI 4 [1,0] [1,17] [19,21])<|(cR [] (BU _ _ _ _ _ _ _ _ om i r)) λ ak P=>(cI 6 [1,0] [1,24] [24,26,28])<|(cR [] (Bx _ _ _ _ _ _ _ _ om (t.mono P) (s.mono P))) λ aB aA=>(h5 10 [1,0] [2] [4])<|G' (vb (d.rep==d.rep)) [] [0,0] ⟨congrArg vb (by simp[ay]),rfl⟩
theorem ED: ∀l aa A n c E n2 c2,aZ aL.wt l<=68719476736->ad aa (.sl (l.map cn)) [vl A n c]->ad aa (.sl (l.map cn)) [vl E n2 c2]->Sp 33 [vl A n c,vl E n2 c2,vf 34 #[]] [] aa (λ v M' _=>v=vb true/\M'=[]):=by
 intro l aa A n c E n2 c2 hw U b;have O:=U.len;rw[HX]at O;subst O;have O:=b.len;rw[HX]at O;subst O;have hl:=ax aL.wt l;refine aW Tryz.func33 λ F=>(dI 13 [1,1] [0,1,2,12])<|(sv 12 (H9 l.length))<|(gp 12 [2,1,0,0,0] [14,15])<|(xY 15 l.length [0,1,2,14] (λ o j9=>True) trivial) λ k bd hle hinv af=>(aM 4 1 [1] [16])<|(eX 16 k l.length) (λ I=>?_) (λ I=>?_);obtain⟨q,W,D,Tx,Q,rfl,d,j,g⟩:=((U.mono hle)).elem 5 I (λ cs h=>by obtain⟨u,x,z,al,an,ao,rfl,i,t⟩:=b' h;rfl);have e:=d;obtain⟨u,x,z,al,an,ao,rfl,i,t⟩:=b' d;obtain⟨gy,X,Z,Ty,T,rfl,a,p,m⟩:=((b.mono hle)).elem 5 I (λ cs h=>by obtain⟨C,w,B,ah,ae,aj,rfl,r,s⟩:=b' h;rfl);have f:=a;obtain⟨C,w,B,ah,ae,aj,rfl,r,s⟩:=b' a;have aF:=aU aL.wt (HY I);refine(cP j (g))<|(cP p (m))<|(aM 10 1 [2,0,1] [7])<|(qz)<|(cu [0,3,5,2] [] [18,19,20,23,24])<|(h6 7 qN I)<|(cu [8,1] [0] [26])<|(h6 3 qN I)<|(cu [4,1] [1] [22])<|(bj [] (Gr _ _ _ _ om e f)) λ|_,_,ak,P,⟨rfl,rfl⟩=>(aG [])<|(mK [10,1] [] [28])<|(aM 9 4 [0] [])<|(sv 15 (ag I om))<|(dz [1,0])<|lz (af (k+1) ak lq trivial om);refine(dI 6 [4] [6])<|H4 true [] ⟨rfl,rfl⟩
theorem GS: ∀d aa l aE,Def.wt d<=68719476736->ad aa (d_ d) l->ad aa (d_ d) aE->Sp 36 [.agg l.toArray,.agg aE.toArray] [] aa (λ v M' _=>v=vb true/\M'=[]):=by
 intro d aa l aE hw G H;obtain⟨al,an,ao,J,R,y,ar,S,ai,aK,az,aI,aC,aD,aJ,rfl,t,N,V,r,i⟩:=cX G;obtain⟨ah,ae,aj,M,L,K,aq,av,aw,C,x,z,ay,B,aH,rfl,s,ab,Y,w,u⟩:=cX H;simp[Def.wt]at hw;refine aW Tryz.func36 λ F=>(ra 14 [1,0] [1,6] [2,3,10]) λ b1=>(sv 10 (H8 d.kind))<|(cI 7 [1,0] [1,13] [17])<|(sv 17 (H8 d.doc))<|(cI 7 [1,0] [1,20] [24])<|(sv 24 (H8 d.name))<|(cI 4 [1,0] [1,24] [26,28])<|(cR [] (vZ _ _ _ _ _ _ _ _ om t s)) λ ak P=>(cI 6 [1,0] [1,31] [31,33,35])<|(cR [] (Bx _ _ _ _ _ _ _ _ om (N.mono P) (ab.mono P))) λ aB aA=>(cI 6 [1,0] [1,38] [38,40,42])<|(cR [] (E5 _ _ _ _ _ _ _ _ om (V.mono lq) (Y.mono lq))) λ j3 l3=>(cI 6 [1,0] [1,45] [45,47,49])<|(cR [] (Bx _ _ _ _ _ _ _ _ om (r.mono lq) (w.mono lq))) λ j4 l4=>(h5 6 [1,0] [1,52] [52,54,56])<|(cR [] (FB _ _ _ _ _ _ _ _ om (i.mono lq) (u.mono lq))) λ bc a7=>(dI 3 [2] [4])<|H4 true [0,0] ⟨rfl,rfl⟩
theorem Dd: ∀l aa A n c E n2 c2,aZ Def.wt l<=68719476736->ad aa (.sl (l.map d_)) [vl A n c]->ad aa (.sl (l.map d_)) [vl E n2 c2]->Sp 35 [vl A n c,vl E n2 c2,vf 36 #[]] [] aa (λ v M' _=>v=vb true/\M'=[]):=by
 intro l aa A n c E n2 c2 hw U b;have O:=U.len;rw[HX]at O;subst O;have O:=b.len;rw[HX]at O;subst O;have hl:=ax Def.wt l;refine aW Tryz.func35 λ F=>(dI 13 [1,1] [0,1,2,12])<|(sv 12 (H9 l.length))<|(gp 12 [2,1,0,0,0] [14,15])<|(xY 15 l.length [0,1,2,14] (λ o j9=>True) trivial) λ k bd hle hinv af=>(aM 4 1 [1] [16])<|(eX 16 k l.length) (λ I=>?_) (λ I=>?_);obtain⟨q,W,D,Tx,Q,rfl,d,j,g⟩:=((U.mono hle)).elem 8 I (λ cs h=>by obtain⟨al,an,ao,J,R,y,ar,S,ai,aK,az,aI,aC,aD,aJ,rfl,t,N,V,r,i⟩:=cX h;rfl);have e:=d;obtain⟨al,an,ao,J,R,y,ar,S,ai,aK,az,aI,aC,aD,aJ,rfl,t,N,V,r,i⟩:=cX d;obtain⟨gy,X,Z,Ty,T,rfl,a,p,m⟩:=((b.mono hle)).elem 8 I (λ cs h=>by obtain⟨ah,ae,aj,M,L,K,aq,av,aw,C,x,z,ay,B,aH,rfl,s,ab,Y,w,u⟩:=cX h;rfl);have f:=a;obtain⟨ah,ae,aj,M,L,K,aq,av,aw,C,x,z,ay,B,aH,rfl,s,ab,Y,w,u⟩:=cX a;have aF:=aU Def.wt (HY I);refine(cP j (g))<|(cP p (m))<|(aM 10 1 [2,0,1] [7])<|(qz)<|(cu [0,3,5,2] [] [18,19,20,23,24])<|(h6 7 nv I)<|(cu [8,1] [0] [26])<|(h6 3 nv I)<|(cu [4,1] [1] [22])<|(bj [] (GS _ _ _ _ om e f)) λ|_,_,ak,P,⟨rfl,rfl⟩=>(aG [])<|(mK [10,1] [] [28])<|(aM 9 4 [0] [])<|(sv 15 (ag I om))<|(dz [1,0])<|lz (af (k+1) ak lq trivial om);refine(dI 6 [4] [6])<|H4 true [] ⟨rfl,rfl⟩
theorem c12: ∀d aa l aE,aH.wt d<=68719476736->ad aa (iL d) l->ad aa (iL d) aE->Sp 12 [.agg l.toArray,.agg aE.toArray] [] aa (λ v M' _=>v=vb true/\M'=[]):=by
 intro d aa l aE hw G H;obtain⟨e,f,g,av,S,ar,u,x,z,al,an,ao,J,R,y,rfl,a,Y,i,t,N⟩:=gH G;obtain⟨c,j,h,ai,aw,aq,C,w,B,ah,ae,aj,M,L,K,rfl,b,V,r,s,ab⟩:=gH H;simp[aH.wt]at hw;refine aW Tryz.func12 λ F=>(ra 12 [1,0] [1,4] [2,3,6,8]) λ b1=>(cR [] (BR _ _ _ _ _ _ _ _ om a b)) λ ak P=>(cI 5 [1,0] [1,10] [10,12,14])<|(cR [] (BR _ _ _ _ _ _ _ _ om (Y.mono P) (V.mono P))) λ aB aA=>(cI 6 [1,0] [1,17] [17,19,21])<|(cR [] (ED _ _ _ _ _ _ _ _ om (i.mono lq) (r.mono lq))) λ j3 l3=>(cI 6 [1,0] [1,24] [24,26,28])<|(cR [] (Dd _ _ _ _ _ _ _ _ om (t.mono lq) (s.mono lq))) λ j4 l4=>(h5 6 [1,0] [1,31] [31,33,35])<|(cR [] (Dd _ _ _ _ _ _ _ _ om (N.mono lq) (ab.mono lq))) λ bc a7=>(dI 3 [2] [4])<|H4 true [0,0] ⟨rfl,rfl⟩
end Go.Proofs.YtdpmeahgjjmdiaaGreatDoor
