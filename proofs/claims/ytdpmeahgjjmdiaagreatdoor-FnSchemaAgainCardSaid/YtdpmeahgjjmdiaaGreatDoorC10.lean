/- Part of the proof that laws.FnSchemaAgain answers true. Conditions: none. -/
import Derived.Laws.Strings
import Derived.Test.YtdpmeahgjjmdiaaGreatDoorC09
set_option linter.all false
open List renaming append_assoc->Js,append_nil->Ju,cons_append->Hi,drop_eq_getElem_cons->Jg,drop_eq_nil_of_le->Jh,eq_nil_of_length_eq_zero->HI,flatMap_append->JG,flatMap_cons->G0,getElem?_eq_getElem->HH,getElem?_map->HW,getElem_mem->HY,isEmpty_eq_false_iff->JI,length_append->HT,length_cons->Iz,length_map->HX,length_take->Jt,map_append->JH,map_cons->HF,mem_append->HM,mem_cons->G6,mem_cons_of_mem->Hb,mem_of_getElem?->GZ,nil_append->Hj,take_add_one->Jk,take_length->JE,take_of_length_le->Ir
open Go.Lib renaming byteCells->IE,join->IA,join_cons->Jz,join_nil->JF,join_one->JA,lt_of_heap->Iv
open Go.Proofs.Tryz renaming prog->HB
open Nat renaming add_mul->HJ,le_refl->HZ,lt_or_ge->Hh,mul_add->JB,zero_le->HD
open ByteArray renaming data_extract->Ii,size->H0,size_append->Jy,size_extract->ID
open Go.ByteArray renaming toList_eq->Ix
open Array renaming length_toList->Ih
open Go.Value.slice renaming injEq->JC
open Go.IntKind renaming wrap->HK
open UInt8 renaming toNat_inj->Ig
namespace Go.Proofs.YtdpmeahgjjmdiaaGreatDoor
open Go
section
variable[OO]
abbrev pt(k:Nat):Tok:=⟨k,e0⟩
abbrev nt(s:ao):Tok:=⟨16,s⟩
mutual
def bo.bk:bo->List Tok
 | .mk k r a=>if k=3\/k=4 then[⟨19,r⟩]else if k=8 then pt 11::(a.bk false++[pt 12])else if k=9 then pt 13::(a.bk true++[pt 14])
  else if k=1 then[⟨17,r⟩]else if k=2 then[⟨18,r⟩]else[nt r]
def Kids.bk:Kids->Bool->List Tok
 | .nil,_=>[]
 | .cons n v r,o=>((if o then[nt n,pt 8]else[])++v.bk)++r.bk o
end
def Ah(b:Bool):List Tok:=if b then[pt 2]else[]
def eg.bk:eg->List Tok
 | .named n nn=>nt n::Ah nn
 | .list t nn=>pt 11::(t.bk++(pt 12::Ah nn))
def bT.bk(a:bT):List Tok:=nt a.name::pt 8::a.v.bk
def hM(b e:Nat)(l:List Tok)(em:Bool):List Tok:=if em then[]else pt b::(l++[pt e])
def cB.bk(d:cB):List Tok:=pt 10::nt d.name::hM 5 6 (d.args.flatMap bT.bk) d.args.isEmpty
def du(l:List cB):List Tok:=l.flatMap cB.bk
def ru:Option bo->List Tok
 |none=>[]
 |some v=>pt 9::v.bk
def aq.bk(a:aq):List Tok:=b7 a.doc++(nt a.name::pt 8::(a.t.bk++(ru a.bV++du a.ah)))
def fB(l:List aq):List Tok:=hM 5 6 (l.flatMap aq.bk) l.isEmpty
def cK.bk(f:cK):List Tok:=b7 f.doc++(nt f.name::(fB f.args++(pt 8::(f.t.bk++(ru f.bV++du f.ah)))))
def a_.bk(e:a_):List Tok:=b7 e.doc++(nt e.name::du e.ah)
def f'(k:Nat):List ao->List Tok
 |[]=>[]
 |a::r=>nt a::r.flatMap λ b=>[pt k,nt b]
def aL.bk(d:aL):List Tok:=b7 d.doc++(nt aK::pt 10::nt d.name::(fB d.args++((if d.rep then[nt bE]else[])++(nt su::f' 15 d.ba))))
def cQ.bk(r:cQ):List Tok:=[nt r.op,pt 8,nt r.t]
def l7(x:Bool):List Tok:=if x then[nt bU]else[]
def ae.bk(x:Bool)(d:ae):List Tok:=b7 d.doc++(l7 x++(nt bW::(du d.ah++(pt 13::(d.roots.flatMap cQ.bk++[pt 14])))))
def Def.bk(x:Bool)(d:Def):List Tok:=b7 d.doc++(l7 x++(nt (fL d.kind)::nt d.name::((if d.ifaces.isEmpty then[]else nt a8::f' 4 d.ifaces)++(du d.ah++
 ((if d.types.isEmpty then[]else pt 9::f' 15 d.types)++(hM 13 14 (d.fields.flatMap cK.bk) d.fields.isEmpty++hM 13 14 (d.enums.flatMap a_.bk) d.enums.isEmpty))))))
def aH.bk(s:aH):List Tok:=s.defs.flatMap (ae.bk false)++s.exts.flatMap (ae.bk true)++s.ah.flatMap aL.bk++s.types.flatMap (Def.bk false)++s.ai.flatMap (Def.bk true)
section
variable{w w1 w2:List UInt8}{t t1 t2:List Tok}{x:UInt8}{k:Nat}
theorem bD.nil:bD [] []:=λ r _=>rfl
theorem bD.p(hp:Pu x k)(h:bD w t):bD (x::w) (pt k::t):=λ r V=>by
 show b0 (x::(w++r))=_;rw[tC hp,h r V];rfl
theorem bD.app(G:bD w1 t1)(H:bD w2 t2)(hb: ∀r,Bd r->Bd (w2++r)):bD (w1++w2) (t1++t2):=λ r V=>by
 rw[Js,G _ (hb r V),H r V,Js]
theorem bD.name{s}(h:gB s):bD (bl s) [nt s]:=λ r V=>rB h V
end
theorem sR.ez{s}(h:sR s):uX s:=λ x L=>.inr (.inr ⟨(h.2 x L).1,(h.2 x L).2.1⟩)
theorem bD.pc{w}{t}{x}{k}(h:bD w t)(hp:Pu x k):bD (w++[x]) (t++[pt k]):=h.app (bD.p hp .nil) λ r _=>hp.bd
theorem xg x y r sep:IA (x::y::r) sep=x++(sep++IA (y::r) sep):=by
 rw[Jz,Jz];simp[Lib.joinTail]
theorem yQ{n}{v:bo}{o:Bool}(O:if o then gB n else n=e0)(hv:bD v.by v.bk):bD ((if o then bl n++[58]else[])++v.by) ((if o then[nt n,pt 8]else[])++v.bk):=by
 cases o with
 |false=>exact hv
 |true=>
  intro r V;have O:gB n:=by simpa using O
  have e:(bl n++[58])++v.by++r=bl n++(58::(v.by++r)):=by simp
  show b0 ((bl n++[58])++v.by++r)=_;rw[e,rB O vo.bd,tC vo,hv r V];rfl
mutual
theorem bo.lex: ∀v:bo,v.pr->bD v.by v.bk
 | .mk k raw a,⟨G,H,S⟩=>by
  rw[bo.by,bo.bk]
  match k,G,H,S with
  |1,G,_,_=>exact λ r V=>uS G V
  |2,G,_,_=>exact λ r V=>uS G V
  |3,G,_,_=>exact λ r V=>tL G V
  |4,G,_,_=>exact λ r V=>tL (sR.ez G) V
  |5,G,_,_=>exact bD.name G.1
  |6,G,_,_=>exact bD.name G.1
  |7,G,_,_=>exact bD.name G.1
  |8,_,_,S=>exact bD.p CW ((Kids.lex a false S).pc Be)
  |9,_,_,S=>exact bD.p tr ((Kids.lex a true S).pc tQ)
  |0,G,_,_=>exact G.elim
  |k+10,G,_,_=>exact G.elim
theorem Kids.lex: ∀(a:Kids)(o:Bool),a.pr o->bD (IA (a.jA o) [44]) (a.bk o)
 | .nil,_,_=>.nil
 | .cons n v r,o,⟨G,H,S⟩=>by
  have U:=yQ G (bo.lex v H);have V:=Kids.lex r o S;rw[Kids.jA,Kids.bk];cases r with
  |nil=>rw[Kids.jA,JA,Kids.bk,Ju];exact U
  |cons n' v' t=>
   rw[Kids.jA]at V⊢;rw[xg];refine U.app (t2:=(Kids.cons n' v' t).bk o) (λ q K=>?_) λ q _=>Bd.ws dc
   exact(ke (x:=44) (l:=_++q) dc).trans (V q K)
end
theorem xf b:bD (yc b) (Ah b):=by cases b;exact .nil;exact bD.p B0 .nil
theorem Du b r(h:Bd r):Bd (yc b++r):=by cases b;exact h;exact B0.bd
theorem eg.lex: ∀t:eg,t.pr->bD t.by t.bk
 | .named n nn,h=>(bD.name h).app (xf nn) (Du nn)
 | .list t nn,h=>bD.p CW ((eg.lex t h).app (bD.p Be (xf nn)) λ r _=>Be.bd)
theorem pK{x}{k}(hp:Pu x k): ∀l:List ao,(∀s∈l,gB s)->bD (ff [32,x,32] l) (f' k l)
 |[],_=>.nil
 |[a],h=>by show bD (IA [bl a] _) _;rw[JA];exact bD.name (h a sm)
 |a::b::r,h=>by
  have af:=pK hp (b::r) λ s aJ=>h s (Hb _ aJ)
  show bD (IA (bl a::bl b::r.map bl) _) ([nt a]++(pt k::f' k (b::r)));rw[xg];refine(bD.name (h a sm)).app (λ q K=>?_) λ q _=>Bd.ws dc
  show b0 (32::x::32::(_++q))=_;rw[ke dc,tC hp,ke dc];exact congrArg (pt k:: ·) (af q K)
section
variable{st:FS}{T T':List Tok}{m:Nat}
theorem Hf.cast(h:Hf st T)(e:T=T'):Hf st T':=e▸h
theorem Dn.cast(h:Dn st T)(e:T=T'):Dn st T':=e▸h
theorem Ft.cast(h:Ft st T)(e:T=T'):Ft st T':=e▸h
theorem Ft.pd(h:Ft st T):Ft st.pd T:=by
 rcases h.2 with H|⟨H,S⟩
 exact H.pd.ft;exact h.1.pd S
theorem Ft.ld(h:Ft st T){a}(ha:a.pr):Hf (st.ld m a) (T++a.bk):=
 (((h.ww (bD.name ha.1) m).hf.np.sd vo m).pd.ft.ws (bo.lex _ ha.2) m).cast (by simp[bT.bk])
theorem Ft.e1: ∀l{st}{T},Ft st T->l≠[]->(∀a∈l,a.pr)->Hf (FS.e1 m st l) (T++l.flatMap bT.bk)
 |[],_,_,_,O,_=>absurd rfl O
 |[a],st,T,h,_,hp=>by
  show Hf (st.ld m a) _;exact(h.ld (hp a sm)).cast sm
 |a::b::r,st,T,h,_,hp=>by
  show Hf (FS.e1 m ((st.ld m a).np.ww m [44]) (b::r)) _;exact(Ft.e1 (b::r) ((h.ld (hp a sm)).np.Ga m).ft sm λ x L=>hp x (Hb _ L)).cast sm
theorem Ft.jr(h:Ft st T){l}(hp: ∀a∈l,a.pr):Ft (st.jr m l) (T++hM 5 6 (l.flatMap bT.bk) l.isEmpty):=by
 unfold FS.jr;cases l with
 |nil=>exact h.cast (by simp[hM])
 |cons a r=>
  show Ft ((FS.e1 m (st.np.ws m [40]) (a::r)).ws m [41]).pd _;exact((Ft.e1 (a::r) (h.hf.np.sd B6 m).ft sm hp).sd Dq m).pd.ft.cast (by simp[hM])
theorem Hf.dir(h:Hf st T){d}(hp:d.pr):Ft (st.dir m d) (T++d.bk):=
 (((h.sd pu64 m).ft.ww (bD.name hp.1) m).jr hp.2).cast (by simp[cB.bk])
theorem Ft.ah: ∀l{st}{T},Ft st T->iK l->Ft (FS.ah m st l) (T++du l)
 |[],st,T,h,_=>h.cast (by simp[du])
 |d::r,st,T,h,hp=>(Ft.ah r (h.hf.dir (hp d sm)) λ x L=>hp x (Hb _ L)).cast (by simp[du])
theorem Hf.ah{l}(h:Hf st T)(hp:iK l):Hf (FS.ah m st l) (T++du l):=by
 cases l with
 |nil=>exact h.cast (by simp[du])
 |cons d r=>exact(Ft.ah r (h.dir (hp d sm)) λ x L=>hp x (Hb _ L)).hf.cast (by simp[du])
theorem Ft.bV(h:Ft st T){o}(hp:wu o):Hf (st.bV m o) (T++ru o)/\Ft (st.bV m o).pd (T++ru o):=by
 cases o with
 |none=>exact⟨h.hf.cast (by simp[ru]),h.pd.cast (by simp[ru])⟩
 |some v=>
  have G:Hf (st.bV m (some v)) (T++ru (some v)):=((h.hf.DT CN m).ft.ws (bo.lex v (hp v rfl)) m).cast (by simp[ru]);exact⟨G,G.pd (kd _ _ _).2.1⟩
theorem Ft.hy(h:Ft st T){a}(hp:a.pr):Ft (st.hy m a) (T++(nt a.name::pt 8::(a.t.bk++(ru a.bV++du a.ah)))):=by
 obtain⟨G,H,S,Y,aI⟩:=hp;exact(Ft.ah a.ah ((((h.ww (bD.name H) m).hf.np.sd vo m).pd.ft.ww (eg.lex _ S) m).bV Y).2 aI).cast sm
theorem Ft.h2(h:Ft st T){a}(hp:a.pr)(hm:m<=7):Hf (st.h2 m a) (T++a.bk)/\(a.doc.size≠0->Dn (st.h2 m a) (T++a.bk)):=by
 unfold FS.h2;by_cases N:a.doc.size=0;rw[if_pos N];exact⟨(h.hy hp).hf.cast (by simp[aq.bk,b7,N]),λ h=>absurd N h⟩;rw[if_neg N];have H:Dn ((st.nl.inc).desc (m+1) a.doc) (T++b7 a.doc):=h.hf.nl.inc.desc hp.1 om;generalize(st.nl.inc).desc (m+1) a.doc=s2 at H⊢;have Y:=Ft.hy (m:=m+1) H.ft hp;generalize FS.hy (m+1) s2 a=s3 at Y⊢;have S:=Y.dec.hf.nl;have G:Dn s3.dec.nl (T++a.bk):=S.cast (by simp[aq.bk]);exact⟨G.hf,λ _=>G⟩
theorem Ft.eM(hm:m<=7): ∀l{st}{T},Ft st T->l≠[]->(∀a∈l,a.pr)->Hf (FS.eM m st l) (T++l.flatMap aq.bk)
 |[],_,_,_,O,_=>absurd rfl O
 |[a],st,T,h,_,hp=>by
  show Hf (FS.eM m (if _ then _ else _) []) _;rw[if_neg sm];exact(h.h2 (hp a sm) hm).1.cast sm
 |a::b::r,st,T,h,_,hp=>by
  have G:=h.h2 (hp a sm) hm;rw[FS.eM];have H:Ft (if(b::r).isEmpty=false/\a.doc.size=0 then(st.h2 m a).np.ww m [44]else st.h2 m a) (T++a.bk):=by
   split;exact(G.1.np.Ga m).ft;rename_i J;exact(G.2 λ N=>J ⟨rfl,N⟩).ft
  exact(Ft.eM hm (b::r) H sm λ x L=>hp x (Hb _ L)).cast sm
theorem Hf.qQ(h:Hf st T){l}(hl:l≠[])(hp: ∀a∈l,a.pr)(hm:m<=7):Ft (st.gm m l) (T++fB l):=by
 unfold FS.gm;cases l with
 |nil=>exact absurd rfl hl
 |cons a r=>
  show Ft ((FS.eM m (st.ws m [40]) (a::r)).np.ws m [41]).pd _;exact((Ft.eM hm (a::r) (h.sd B6 m).ft sm hp).np.sd Dq m).pd.ft.cast (by simp[fB,hM])
theorem Hf.gm(h:Hf st T){l}(hp: ∀a∈l,a.pr)(hm:m<=7):Hf (st.gm m l) (T++fB l):=by
 by_cases hl:l=[];subst hl;exact h.cast (by simp[fB,hM]);exact(h.qQ hl hp hm).hf
theorem Dn.x'(h:Dn st T){f}(hp:f.pr)(hm:m<=7):Dn (st.x' m f) (T++f.bk):=by
 obtain⟨G,H,S,Y,aI,h6⟩:=hp;exact((((((((h.desc G om).ft.ww (bD.name H) m).hf.np.gm S hm).np.sd vo m).pd.ft.ww (eg.lex _ aI) m).bV Y).1.ah h6).nl).cast (by simp[cK.bk])
theorem Dn.hn(hm:m<=7): ∀l{st}{T},Dn st T->(∀a∈l,a.pr)->Dn (FS.hn m st l) (T++l.flatMap cK.bk)
 |[],st,T,h,_=>h.cast sm
 |a::r,st,T,h,hp=>(Dn.hn hm r (h.x' (hp a sm) hm) λ x L=>hp x (Hb _ L)).cast sm
theorem Hf.nP(h:Hf st T){l}(hp: ∀a∈l,a.pr)(hm:m<=6):Hf (st.nP m l) (T++hM 13 14 (l.flatMap cK.bk) l.isEmpty):=by
 unfold FS.nP;cases l with
 |nil=>exact h.cast (by simp[hM])
 |cons a r=>
  show Hf ((FS.hn (m+1) ((st.ws m [123]).nl.inc) (a::r)).dec.ws m [125]) _;exact((Dn.hn om (a::r) (h.sd tr m).hf.nl.inc hp).dec.hf.sd tQ m).hf.cast (by simp[hM])
theorem Dn.ev(h:Dn st T){e}(hp:e.pr)(hm:m<=8):Dn (st.ev m e) (T++e.bk):=by
 obtain⟨G,H,S⟩:=hp;exact((((h.desc G hm).ft.ww (bD.name H) m).hf.ah S).nl).cast (by simp[a_.bk])
theorem Dn.kt(hm:m<=8): ∀l{st}{T},Dn st T->(∀a∈l,a.pr)->Dn (FS.kt m st l) (T++l.flatMap a_.bk)
 |[],st,T,h,_=>h.cast sm
 |a::r,st,T,h,hp=>(Dn.kt hm r (h.ev (hp a sm) hm) λ x L=>hp x (Hb _ L)).cast sm
theorem Hf.xx(h:Hf st T){l}(hp: ∀a∈l,a.pr)(hm:m<=7):Hf (st.xx m l) (T++hM 13 14 (l.flatMap a_.bk) l.isEmpty):=by
 unfold FS.xx;cases l with
 |nil=>exact h.cast (by simp[hM])
 |cons a r=>
  show Hf ((FS.kt (m+1) ((st.ws m [123]).nl.inc) (a::r)).dec.ws m [125]) _;exact((Dn.kt om (a::r) (h.sd tr m).hf.nl.inc hp).dec.hf.sd tQ m).hf.cast (by simp[hM])
theorem fi{s}x r(h:bl s=x::r)(L:ea x=true)(V:r.all dj=true):gB s:=⟨x,r,h,L,λ y hy=>List.all_eq_true.1 V y hy⟩
theorem Ft.dY: ∀l{st}{T},Ft st T->l≠[]->(∀a∈l,gB a)->Ft (FS.dY m st l) (T++f' 15 l)
 |[],_,_,_,O,_=>absurd rfl O
 |[a],st,T,h,_,hp=>h.ww (bD.name (hp a sm)) m
 |a::b::r,st,T,h,_,hp=>by
  show Ft (FS.dY m ((st.ww m (bl a)).ww m [124]) (b::r)) _;exact(Ft.dY (b::r) ((h.ww (bD.name (hp a sm)) m).hf.DT Aj m).ft sm λ x L=>hp x (Hb _ L)).cast (by simp[f'])
theorem Ft.ba(h:Ft st T){l}(hl:l≠[])(hp: ∀a∈l,gB a):Ft (st.ba m l) (T++(nt su::f' 15 l)):=by
 unfold FS.ba;rw[if_neg (by cases l;exact absurd rfl hl;simp)];exact(Ft.dY l (h.ww (bD.name (fi 111 [110] rfl dc dc)) m) hl hp).cast sm
theorem Dn.kS(h:Dn st T){d}(hp:d.pr)(hm:m<=7):Dn (st.kS m d) (T++d.bk):=by
 obtain⟨G,H,S,Y,aI⟩:=hp;have s1:=(((h.desc G (m:=m) om).ft.ww (bD.name (s:=aK) (fi 100 _ rfl dc dc)) m).hf.sd pu64 m).ft.ww (bD.name H) m;unfold FS.kS;dsimp only;generalize((((st.desc m d.doc).ww m (bl aK)).ws m [64]).ww m (bl d.name))=s0 at s1⊢;have s2:Ft (if d.args.isEmpty=true then s0 else s0.np.gm m d.args) ((((T++b7 d.doc)++[nt aK])++[pt 10]++[nt d.name])++fB d.args):=by
  by_cases ha:d.args=[];rw[if_pos (by rw[ha];rfl)];exact s1.cast (by rw[ha];simp[fB,hM]);rw[if_neg (by cases hd:d.args;exact absurd hd ha;simp)];exact s1.hf.np.qQ ha S hm
 generalize(if d.args.isEmpty=true then s0 else s0.np.gm m d.args)=s at s2⊢;have s3:Ft (if d.rep=true then s.ww m (bl bE)else s) ((((T++b7 d.doc)++[nt aK])++[pt 10]++[nt d.name])++fB d.args++(if d.rep then[nt bE]else[])):=by
  cases d.rep with
  |false=>exact s2.cast sm
  |true=>exact s2.ww (bD.name (s:=bE) (fi 114 _ rfl dc dc)) m
 exact((s3.ba aI Y).hf.nl).cast (by simp[aL.bk])
theorem Dn.hA(hm:m<=7): ∀l{st}{T},Dn st T->(∀a∈l,a.pr)->Dn (FS.hA m st l) (T++l.flatMap aL.bk)
 |[],st,T,h,_=>h.cast sm
 |a::r,st,T,h,hp=>(Dn.hA hm r (h.kS (hp a sm) hm) λ x L=>hp x (Hb _ L)).cast sm
theorem Aq{s}(h:s∈de):gB s:=by
 simp[de]at h;rcases h with rfl|rfl|rfl
 exact fi 113 _ rfl dc dc;exact fi 109 _ rfl dc dc;exact fi 115 _ rfl dc dc
theorem Dn.root(h:Dn st T){r}(hp:r.pr):Dn (st.root m r) (T++r.bk):=
 ((((h.ft.ww (bD.name (Aq hp.1)) m).hf.np.sd vo m).pd.ft.ww (bD.name hp.2) m).hf.nl).cast (by simp[cQ.bk])
theorem Dn.roots: ∀l{st}{T},Dn st T->(∀a∈l,a.pr)->Dn (FS.roots m st l) (T++l.flatMap cQ.bk)
 |[],st,T,h,_=>h.cast sm
 |a::r,st,T,h,hp=>(Dn.roots r (h.root (hp a sm)) λ x L=>hp x (Hb _ L)).cast sm
theorem Dn.ext(h:Ft st T)x:Ft (st.ext m x) (T++l7 x):=by
 cases x with
 |false=>exact h.cast (by simp[l7])
 |true=>exact h.ww (bD.name (s:=bU) (fi 101 _ rfl dc dc)) m
theorem Dn.nU(h:Dn st T){d}(hp:d.pr)x(hm:m<=8):Dn (st.nU m x d) (T++d.bk x):=by
 obtain⟨G,H,S,Y⟩:=hp;have s1:=(Ft.ah (m:=m+1) d.ah ((Dn.ext (m:=m) (h.desc G hm).ft x).ww (bD.name (s:=bW) (fi 115 _ rfl dc dc)) m).inc H).dec;exact(((Dn.roots (m:=m+1) d.roots (s1.hf.sd tr m).hf.nl.inc S).dec.hf.sd tQ m).hf.nl).cast (by simp[ae.bk])
theorem Dn.jw(h:Dn st T){l}(hp: ∀d∈l,d.pr)(hl:l.length<=1)x(hm:m<=8):Dn (st.jw m x l) (T++l.flatMap (ae.bk x)):=by
 cases l with
 |nil=>exact h.cast sm
 |cons d r=>
  have:r=[]:=by
   cases r with
   |nil=>rfl
   |cons a b=>simp at hl
  subst this;exact(h.nU (hp d sm) x hm).cast sm
theorem Bw k:gB (fL k):=by
 unfold fL
 repeat' split
 exact fi 115 _ rfl dc dc;exact fi 116 _ rfl dc dc;exact fi 105 _ rfl dc dc;exact fi 117 _ rfl dc dc;exact fi 101 _ rfl dc dc;exact fi 105 _ rfl dc dc
theorem Dn.oW(h:Dn st T){d}(hp:d.pr)x(hm:m<=6):Dn (st.oW m x d) (T++d.bk x):=by
 obtain⟨_,G,H,_,S,Y,aI,h6,aU⟩:=hp;have s1:=((Dn.ext (m:=m) (h.desc G (m:=m) om).ft x).ww (bD.name (Bw d.kind)) m).ww (bD.name H) m;unfold FS.oW;dsimp only;generalize((((st.desc m d.doc).ext m x).ww m (bl (fL d.kind))).ww m (bl d.name))=s at s1⊢;have s2:Ft (if d.ifaces.isEmpty=true then s else(s.ww m (bl a8)).ww m (ff [32,38,32] d.ifaces)) (T++b7 d.doc++l7 x++[nt (fL d.kind)]++[nt d.name]++(if d.ifaces.isEmpty then[]else nt a8::f' 4 d.ifaces)):=by
  cases d.ifaces.isEmpty with
  |true=>exact s1.cast sm
  |false=>exact((s1.ww (bD.name (s:=a8) (fi 105 _ rfl dc dc)) m).ww (pK Fw _ Y) m).cast sm
 generalize(if d.ifaces.isEmpty=true then s else(s.ww m (bl a8)).ww m (ff [32,38,32] d.ifaces))=B at s2⊢;have s3:=(Ft.ah (m:=m) d.ah s2 S).hf;generalize FS.ah m B d.ah=a at s3⊢;have s4:Hf (if d.types.isEmpty=true then a else(a.ww m [61]).ww m (ff [32,124,32] d.types)) (T++b7 d.doc++l7 x++[nt (fL d.kind)]++[nt d.name]++(if d.ifaces.isEmpty then[]else nt a8::f' 4 d.ifaces)++du d.ah++(if d.types.isEmpty then[]else pt 9::f' 15 d.types)):=by
  cases d.types.isEmpty with
  |true=>exact s3.cast sm
  |false=>exact((s3.DT CN m).ft.ww (pK Aj _ h6) m).hf.cast sm
 exact(((s4.nP (λ f hf=>(aI f hf).1) hm).xx aU om).nl).cast (by simp[Def.bk])
theorem Dn.jc x(hm:m<=6): ∀l{st}{T},Dn st T->(∀a∈l,a.pr)->Dn (FS.jc m x st l) (T++l.flatMap (Def.bk x))
 |[],st,T,h,_=>h.cast sm
 |a::r,st,T,h,hp=>(Dn.jc x hm r (h.oW (hp a sm) x hm) λ y hy=>hp y (Hb _ hy)).cast sm
theorem Dn.doc(h:Dn st T){s}(hp:s.pr):Dn (st.doc s) (T++s.bk):=by
 obtain⟨G,H,S,Y,aI,h6,aU⟩:=hp;exact(Dn.jc true dc _ (Dn.jc false dc _ (Dn.hA dc _ ((h.jw G h6 false dc).jw H aU true dc) S) Y) aI).cast (by simp[aH.bk])
end
theorem yZ{ind}co(hi: ∀x∈bl ind,x=32\/x=9)(aJ:ind.size<=16){d}(hp:d.pr):b0 ((⟨ind,0,false,co,false,false,[]⟩:FS).doc d).out=d.bk:=by
 have N:Dn (⟨ind,0,false,co,false,false,[]⟩:FS) []:=⟨⟨hi,aJ⟩,λ r=>rfl⟩;have G:=(N.doc hp).raw [];rw[Ju,qv,Ju,Hj]at G;exact G
end
section
open Go.RowKit
variable[OO]
section
variable{f:FuncId}{fn:Func}{R:Ending->World->Prop}{D:List Deferred}{aa:au}{path:List Nat}{env:Ev}{cs rest:List Chunk}{w:World}{b:Nat}
theorem xq{w'}(h:Heap aa rest w)(hb:fE aa rest b)(hw:Below b w w')(Z:Lib.BuilderAt 81 5 b b (vp b 0) [] w'):
 ∃A c,Heap aa (.av b 81 [vp b 0,vl A 0 c]::own 5 1 (vl A 0 c) 0 []::rest) w':=by
 obtain⟨G,v',H,S,Y⟩:=Z;obtain⟨aI,h6,aU⟩:=kI S;obtain⟨d,h8,h9⟩:=hR (aa:=aa) aI;have aN: ∃A c,v'=vl A 0 c:=by
  rcases h9.2 with⟨aw,_,_⟩|⟨g,cap,cur,aw,_⟩
  exact⟨none,0,aw⟩;exact⟨_,_,aw⟩
 obtain⟨A,c,rfl⟩:=aN;refine⟨A,c,(congr (congrArg Prod.mk hw.os) hw.output).trans h.io,λ x o L=>by rw[hw.block x (hb.im x o L)];exact h.dD x o L,?_,λ x L=>?_,λ ai J=>?_⟩;simp only[G0,own,Chunk.fp,Hi,Hj,List.nodup_cons,HM];refine⟨λ hm=>?_,List.nodup_append.2 ⟨?_,h.nodup,λ x L y hy e=>?_⟩⟩;rcases hm with hm|hm
 cases A with
 |none=>simp[aV]at hm
 |some a=>simp[aV]at hm;subst hm;exact Y rfl
 have:=hb.fp b hm;omega;cases A<;>simp[aV]
 subst e;have:=hb.fp x hy;have:=h6 x L;omega;simp only[G0,own,Chunk.fp,Hi,Hj,G6,HM]at L;rcases L with rfl|L|L
 refine⟨Iv H,?_⟩;cases hi:aa x with
 |none=>rfl
 |some o=>have:=hb.im x o hi;omega
 refine⟨aU x L,?_⟩;cases hi:aa x with
 |none=>rfl
 |some o=>have:=hb.im x o hi;have:=h6 x L;omega
 exact⟨Nat.lt_of_lt_of_le (h.old x L).1 hw.size,(h.old x L).2⟩;rcases G6.1 J with rfl|J
 exact H;rcases G6.1 J with rfl|J
 exact⟨d,h8,h9⟩;exact Chunk.d' (h.ok ai J) lq λ x L=>hw.block x (hb.fp x (List.mem_flatMap.2 ⟨ai,J,L⟩))
theorem Gk(n:Nat)(d:Option Nat)(ak:List Nat)(hb:fE aa rest b)(O:n<=281474976710656)
 (k: ∀A c,bf HB f fn R D aa ak (dF d (.tuple #[]) env) (.av b 81 [vp b 0,vl A 0 c]::own 5 1 (vl A 0 c) 0 []::rest))
 (G: ∀u,(cj fn.ntmps (bI (bd fn) path []) env).bind (λ x=>(pv HB (execOp (bB u env) x.1)).map λ y=>(y,x.1.dst,x.2))=some (.enter 214 ([vp b 0,vi n]:List Value).toArray,d,bI (bd fn) ak []):=by intros;kernel_rfl):
 bf HB f fn R D aa path env (.av b 81 [.pointer none,vz]::rest):=
 bf.enter 214 [vp b 0,vi n] d ak G λ w hh=>by
  have H:w.heap[b]?=some (.cells #[.pointer none,vz] 81 (0,0)):=hh.ok (.av b 81 [.pointer none,vz]) sm;refine(Tryz.Builder_Grow_fresh b b n w (HZ _) H (by have:=Iv H;omega) O).mono ?_;rintro e w' ⟨rfl,Z,C⟩;obtain⟨A,c,q⟩:=xq hh.tail hb C Z;exact⟨_,rfl,aa,_,q,k A c⟩
end
theorem iy x y r sep:IA (x::y::r) sep=x++sep++IA (y::r) sep:=by
 rw[Jz,Jz];simp[Lib.joinTail]
theorem dJ sep: ∀xs:List ao,(IA (xs.map bl) sep).length<=aZ H0 xs*(1+sep.length)
 |[]=>by simp[JF]
 |[x]=>by
  rw[HF,List.map_nil,JA,bp];simp only[aZ];rw[JB];omega
 |x::y::r=>by
  have af:=dJ sep (y::r);rw[HF,HF,iy,HT,HT,bp];rw[HF]at af;have e:aZ H0 (x::y::r)=(1+x.size)+aZ H0 (y::r):=rfl;rw[e,HJ];have az:(1+x.size)*(1+sep.length)=1+x.size+sep.length+x.size*sep.length:=by rw[HJ,JB,JB];omega
  omega
theorem qt aa l(sep:ao)A n c(h:ad aa (cW l) [vl A n c])(hw:aZ H0 l<=1099511627776)(aJ:sep.size<=16):
 Sp 190 [vl A n c,vs sep] [] aa (λ r M' _=>M'=[]/\ ∃t,r=vs t/\bl t=ff (bl sep) l):=by
 intro F w b;have N:=ax H0 l;have a:=h.at_;have O:n=l.length:=by have:=a.1;simpa using this
 cases l with
 |nil=>
  simp at O;subst O;refine(Tryz.strings_Join_none A c sep w).mono ?_;rintro e w' ⟨rfl,rfl⟩;exact⟨_,[],aa,rfl,lq,⟨rfl,_,rfl,rfl⟩,b⟩
 |cons x r=>
  have aF: ∀(k:Nat)(U:k<(x::r).length),∃(g:Nat)(ar:Array Value)(T:TypeId)(fz:Nat×Nat),A=sa g 0/\aa g=some (.cells ar T fz)/\ar[k*1]?=some (vs (x::r)[k]):=by
   intro k U;obtain⟨g,cs,ar,T,fz,S,Y,aI,h6⟩:=a.2 1 k (tS (x::r)[k]) (by rw[HW,HH U];rfl) (λ cs V=>by rw[ad.aB.1 V];rfl);obtain rfl:=ad.aB.1 Y;exact⟨g,ar,T,fz,S,aI,by have:=h6 0 _ rfl;simpa using this⟩
  obtain⟨g,ar,T,fz,rfl,hg,_⟩:=aF 0 sm;have E:=b.dD g _ hg;have q:=h.cap;rw[HX]at q;subst O;refine(Tryz.strings_Join g 0 c (x::r) sep w (λ j y hj=>?_) (Iv E) om q ?_).mono ?_;have K:j<(x::r).length:=by
   rcases Hh j (x::r).length with G|G
   exact G;rw[List.getElem?_eq_none G]at hj;cases hj
  obtain⟨g',f,T',i,aw,az,e3⟩:=aF j K;injection aw with aw;injection aw with aw;subst aw
  rw[hg]at az;injection az with az;injection az with az aS o;subst az
  rw[Lib.cell_of_heap E,Nat.zero_add];rw[HH K]at hj;injection hj with hj;subst hj
  simpa using e3;have:=dJ (bl sep) (x::r);rw[bp]at this;have H:aZ H0 (x::r)*(1+sep.size)<=1099511627776*17:=Nat.mul_le_mul hw om;exact Nat.le_trans this om;rintro e w' ⟨rfl,C⟩;exact⟨_,[],aa,rfl,lq,⟨rfl,_,rfl,rfl⟩,ku b C⟩
end
section
variable[OO]
theorem nb{aa}{p:ao×bo}{cs}(h:ad aa (.st [tS p.1,eI p.2]) cs): ∃A n c,cs=[vs p.1,vi p.2.kind,vs p.2.raw,vl A n c]/\ad aa (eI p.2) [vi p.2.kind,vs p.2.raw,vl A n c]:=by
 simp only[ad.bw,ad.bx]at h;obtain⟨a1,b1,aw,G,a2,b2,az,H,hz⟩:=h;obtain rfl:=ad.aB.1 G;obtain⟨A,n,c,rfl,_⟩:=dv H;subst hz az aw;exact⟨A,n,c,rfl,H⟩
theorem kj{s}(h:s.size≠0):ay s ⟨#[]⟩=false:=by
 rw[Bool.eq_false_iff];intro aJ;apply h;have G:s.toList=(⟨#[]⟩:ByteArray).toList:=by simpa[ay]using aJ
 have H:s.toList.length=(⟨#[]⟩:ByteArray).toList.length:=by rw[G]
 rw[Ix,Ix,Ih,Ih]at H;exact H
theorem vh{aa}{nm s:ao}{nn b}{A}{n c}(h:ad aa (fU (.named nm nn)) [vs s,vl A n c,vb b]): ∃ai,nm=s/\n=0/\nn=b/\c=ai:=by
 simp only[fU,ad.bw,ad.bx]at h;obtain⟨a1,b1,aw,G,a2,b2,az,H,a3,b3,e3,S,hz⟩:=h;obtain rfl:=ad.aB.1 G;obtain⟨A',n',ai,rfl⟩:=ad.aR H;obtain rfl:=ad.aB.1 S;have O:=H.len;subst hz e3 az;simp only[Hi,Hj,List.cons.injEq,Value.string.injEq,JC,Value.bool.injEq,and_true]at aw;obtain⟨rfl,⟨rfl,rfl,rfl⟩,rfl⟩:=aw;exact⟨_,rfl,O,rfl,rfl⟩
theorem vH{aa}{t}{s:ao}{nn b}{A}{n c}(h:ad aa (fU (.list t nn)) [vs s,vl A n c,vb b]): ∃(g:Nat)(ar:Array Value)(T:TypeId)(fz:Nat×Nat)(s2:ao)(E:Option Addr)(n2 c2:Nat)(b2:Bool),
 s=⟨#[]⟩/\n=1/\nn=b/\A=sa g 0/\aa g=some (.cells ar T fz)/\(∀j u,([vs s2,vl E n2 c2,vb b2]:List Value)[j]?=some u->ar[0*3+j]?=some u)/\ad aa (fU t) [vs s2,vl E n2 c2,vb b2]:=by
 simp only[fU,ad.bw,ad.bx]at h;obtain⟨a1,b1,aw,G,a2,b2,az,H,a3,b3,e3,S,hz⟩:=h;obtain rfl:=ad.aB.1 G;obtain⟨A',n',ai,rfl⟩:=ad.aR H;obtain rfl:=ad.aB.1 S;have O:=H.len;obtain⟨g,cs,ar,T,fz,hA,V,hg,J⟩:=ad.elem (l:=[t]) (f:=fU) 3 (k:=0) H sm (λ cs h=>by obtain⟨_,_,_,_,_,rfl⟩:=eG h;rfl);obtain⟨s2,E,n2,c2,m,rfl⟩:=eG V;subst hz e3 az;simp only[Hi,Hj,List.cons.injEq,Value.string.injEq,JC,Value.bool.injEq,and_true]at aw;obtain⟨rfl,⟨rfl,rfl,rfl⟩,rfl⟩:=aw;exact⟨g,ar,T,fz,s2,E,n2,c2,m,rfl,O,rfl,hA,hg,J,V⟩
theorem nZ: ∀aa m s x,ad aa l5 [vp s 0]->
 Sp 58 [vp m 0] [(.av m 77 [vp s 0,vi x,vb false])] aa (λ r M' C=> ∃x' q,M'=[.av m 77 [vp s 0,vi x',vb false]]/\r=vp q 0/\ad C jG [vp q 0]):=by
 intro aa m s x aJ;refine aW Tryz.func58 λ F=>(ra 16 [0,0] [2] [0]) λ _=>(qz)<|(kz [0,9] [0,0] [18])<|(uz 0 [] [19]) λ b2=>(uz 0 [] [2]) λ _=>(bL)<|(fb 0 (b2 0) 103 [vi 0,vi 0,vi (aj (x+1)),vi 1,vp s 0]) ?_;intro ak P y;exact ez 0 (vp (b2 0) 0) [.av m 77 [vp s 0,vi (aj (x+1)),vb false]] [] P ⟨_,_,rfl,rfl,ad.box y (.an rfl (.an rfl (.an rfl (.an rfl (.on (aJ.mono P) .dU)))))⟩
theorem DE: ∀N v,v.wt<=N->N<=68719476736->v.ok-> ∀aa m s x A n c,ad aa l5 [vp s 0]->ad aa (eI v) [vi v.kind,vs v.raw,vl A n c]->
 Sp 136 [vp m 0,.agg #[vi v.kind,vs v.raw,vl A n c]] [(.av m 77 [vp s 0,vi x,vb false])] aa (λ r M' C=> ∃x' q,M'=[.av m 77 [vp s 0,vi x',vb false]]/\r=vp q 0/\ad C (.ptr (dV v)) [vp q 0]):=by
 intro N;induction N with
 |zero=>intro v hv;have:=v.iP;omega
 |succ N af=>
  intro v hv hN a6 aa m s x A n c aJ hd;obtain⟨A1,n1,D,he,U⟩:=dv hd;simp only[List.cons.injEq,JC,and_true,true_and]at he;obtain⟨rfl,rfl,rfl⟩:=he;clear hd;have O:=U.len;have aV:=v.o1;have ba:=v.kids.kl;have al:(ic v.kids).length=v.kids.list.length:=by rw[e7];simp
  have L:=v.ok_eq.1 a6;rw[e7]at U;refine aW Tryz.func136 λ F=>(ra 12 [0] [1,0,4] [0,3,11]) λ b1=>(sv 11 (show(decide ((v.kind:Int)<0))=false from by simp))<|(ra 5 [0] [1,1] [0,3,15]) λ _=>(sv 15 (show(decide ((v.kind:Int)>9))=false from by have:=L.1;simp;omega))<|(ra 3 [] [2] [0,3]) λ _=>(qz)<|(kz [0,5] [0,0] [0,3,19,20,21,22,23])<|(bj [1] (nZ _ m s x (aJ))) λ|_,_,ak,P,⟨x1,a,rfl,rfl,l⟩=>(aG [3,1,1,1])<|(kz [6,1] [] [0,3,25])<|(uz 0 [] [0,3,26]) λ b4=>(uz 0 [] [0,3,5]) λ _=>(bL)<|(ra 11 [2] [3,1,0,0,0] [0,5,28,29,30]) λ _=>nz 295 1 ?_;refine(oz [0,1,0,0])<|(wz (ι:=LM) (λ i=>n-i.k) (λ i=>i.im) [0,5,28,29] (λ i=>[(30,vi i.k)]) (λ i c=>sV 2 1 (vl i.A i.k i.c) (sV 1 1 (vi i.x) (sC 0 (own 295 1 (vl i.A i.k i.c) i.k i.aY.flatten) c))) (λ i=>au.le ak i.im/\eQ i.im (iV v.kids) 1 i.k i.aY) ⟨0,none,0,[],ak,x1⟩ ⟨lq,eQ.nil _ _ _⟩) ?_;rintro⟨k,A1,D,aY,bd,y⟩ ⟨hle,f⟩ az;refine(rv 4 [] 1 [1] [0,5,28,29,30,31])<|(eX 31 k n) (λ I=>?_) (λ aO=>?_);have z:k<v.kids.list.length:=by omega
  obtain⟨g2,aE,aQ,T2,a1,rfl,ab,W,p⟩:=(U.mono (P.trans hle)).elem 4 z (λ cs h=>by obtain⟨_,_,_,rfl,_⟩:=nb h;rfl);obtain⟨E,n2,c2,rfl,aP⟩:=nb ab;have aF:=v.kids.gA (HY z);refine cP W (p) ?_;refine(rv 6 [] 1 [2,0,0,0] [0,5,28,29,30])<|(xz ei I)<|(fj 4 [0,0] 2 [1] [0,5,7,28,29,30]) λ b9=>(qz)<|(kz [0,10,11,1] [4,0,0] [0,5,7,28,29,30,34,35,36,37,38,39,40,41,43,45])<|(bj [3] (af _ om om (Kids.xv L.2 (HY z)) _ m s y _ _ _ (aJ.mono lq) aP)) λ|_,_,aB,aA,⟨a',q2,rfl,rfl,aR⟩=>(aG [6,1,4,4])<|(bj [0] (nZ _ m s a' (aJ.mono lq))) λ|_,_,j3,l3,⟨x3,b,rfl,rfl,w⟩=>(aG [6,1,4,4])<|(kz [13,1] [] [0,5,28,29,30,34,35,36,37,38,47])<|(uz 0 [4,5] [0,5,28,29,30,34,35,36,37,38,48]) λ bI=>(uz 0 [4,6] [0,5,28,29,30,34,35,36,37,38,49]) λ bV=>(eF)<|(jo oV k 1 aY [vp (bI 0) 0] [5,0]) λ Q c3=>(aG [])<|(kz [17,2] [] [0,5,28,29,30,50,52])<|(uz 5 [] [0,5,28,29,30]) λ _=>(bL)<|(rv 7 [] 4 [0] [0,5,28,29,30])<|(sv 30 (ag I om))<|(dz [4])<|(fb 1 (bI 0) 296 [vs v.kids.list[k].1,vp q2 0,vp b 0,.pointer none]) λ j4 l4 t=>(dz [2]) ?_;exact lz (az ⟨k+1,Q,c3,_,j4,x3⟩ ⟨((hle.trans aA).trans l3).trans l4,((f.mono ((aA.trans l3).trans l4)).step (d:=.ptr (.st [tS v.kids.list[k].1,.ptr (dV v.kids.list[k].2),.any,.any])) (by rw[fr,HW,HH z];rfl) (ad.box t (.vu _ (.on (aR.mono lq) (.an rfl (.an rfl .dU))))) rfl)⟩ dm);refine(ra 7 [] [5] [4]) λ _=>(fo 0 295 1 A1 k D aY.flatten) λ bk aN hf=>(fb 1 (b4 0) 294 [vs v.raw,vl A1 k D,vi v.kind,vp a 0,.pointer none,.pointer none,.pointer none,.pointer none,vb false]) ?_;intro bc a7 g;have bz:=(f.mono aN).done (c:=D) (by rw[fr];simp;omega) hf;exact ez 0 (vp (b4 0) 0) [.av m 77 [vp s 0,vi y,vb false]] [1] lq ⟨y,_,rfl,rfl,y0 g (bz.mono a7) rfl rfl rfl rfl rfl rfl⟩
theorem Ec: ∀l aa m s x A n c,aZ bT.wt l<=68719476736->(∀a∈l,a.ok)->ad aa l5 [vp s 0]->ad aa (.sl (l.map fH)) [vl A n c]->
 Sp 135 [vp m 0,vl A n c] [(.av m 77 [vp s 0,vi x,vb false])] aa (λ r M' C=> ∃x' A' n' ai,M'=[.av m 77 [vp s 0,vi x',vb false]]/\r=vl A' n' ai/\ad C (.sl (l.map eP)) [vl A' n' ai]):=by
 intro l aa m s x A n c hw a6 aJ U;have O:=U.len;rw[HX]at O;have hl:=ax bT.wt l;refine aW Tryz.func135 λ F=>(ra 18 [] [2,1,0,0,0] [0,5,8,9,10]) λ _=>nz 286 1 ?_;refine(wz (ι:=LM) (λ i=>n-i.k) (λ i=>i.im) [0,8,9] (λ i=>[(5,vl i.A i.k i.c),(10,vi i.k)]) (λ i c=>sV 1 1 (vi i.x) (sC 0 (own 286 1 (vl i.A i.k i.c) i.k i.aY.flatten) c)) (λ i=>au.le aa i.im/\eQ i.im (l.map eP) 1 i.k i.aY) ⟨0,none,0,[],aa,x⟩ ⟨lq,eQ.nil _ _ _⟩) ?_;rintro⟨k,A1,D,aY,bd,y⟩ ⟨hle,f⟩ af;refine(rv 4 [] 1 [1] [0,5,8,9,10,11])<|(eX 11 k n) (λ I=>?_) (λ aO=>?_);have z:k<l.length:=by omega
 obtain⟨g2,aE,aQ,T2,a1,rfl,ab,W,p⟩:=(U.mono hle).elem 4 z (λ cs h=>by obtain⟨E,n2,c2,rfl,aP⟩:=dK h;rfl);obtain⟨E,n2,c2,rfl,aP⟩:=dK ab;have aF:=aU bT.wt (HY z);simp only[bT.wt]at aF;have ho:=a6 _ (HY z);refine(cP W (p))<|(rv 6 [] 1 [2,0,0,0] [0,5,8,9,10])<|(xz ni I)<|(fj 4 [0,0] 2 [1] [0,5,7,8,9,10]) λ b4=>(qz)<|(kz [0,6,7,1] [0,0] [0,5,7,8,9,10,14,15,16,17,19,21])<|(bj [3] (DE _ _ (HZ _) om ho _ m s y _ _ _ (aJ.mono hle) aP)) λ|_,_,ak,P,⟨x1,q2,rfl,rfl,aR⟩=>(aG [2,1])<|(bj [0] (nZ _ m s x1 (aJ.mono lq))) λ|_,_,aB,aA,⟨a',b,rfl,rfl,N⟩=>(aG [2,1])<|(kz [9,1] [] [0,5,8,9,10,14,23])<|(uz 0 [] [0,5,8,9,10,14,24]) λ b5=>(uz 0 [] [0,5,8,9,10,14,25]) λ b6=>(eF)<|(jo uH k 1 aY [vp (b5 0) 0] [5,0]) λ e q=>(aG [])<|(uz 0 [] [0,5,8,9,10]) λ _=>(bL)<|(rv 7 [] 4 [0] [0,5,8,9,10])<|(sv 10 (ag I om))<|(dz [4])<|(fb 1 (b5 0) 288 [vs l[k].name,vp q2 0,vp b 0,.pointer none]) λ j9 l9 bH=>(dz [2])<|lz (af ⟨k+1,e,q,_,j9,a'⟩ ⟨lq,(f.mono lq).step (d:=eP l[k]) (by rw[HW,HH z];rfl) (xJ bH (aR.mono lq) rfl rfl) rfl⟩ dm);refine(ra 7 [] [4] [4]) λ _=>(fo 0 286 1 A1 k D aY.flatten) ?_;intro bk aN hf;exact ez 0 (vl A1 k D) [.av m 77 [vp s 0,vi y,vb false]] [] lq ⟨y,_,_,_,rfl,rfl,(f.mono aN).done (c:=D) so hf⟩
theorem c91: ∀l aa m s x A n c,aZ cB.wt l<=68719476736->(∀a∈l,a.ok)->ad aa l5 [vp s 0]->ad aa (.sl (l.map ju)) [vl A n c]->
 Sp 91 [vp m 0,vl A n c] [(.av m 77 [vp s 0,vi x,vb false])] aa (λ r M' C=> ∃x' A' n' ai,M'=[.av m 77 [vp s 0,vi x',vb false]]/\r=vl A' n' ai/\ad C (.sl (l.map ig)) [vl A' n' ai]):=by
 intro l aa m s x A n c hw a6 aJ U;have O:=U.len;rw[HX]at O;have hl:=ax cB.wt l;refine aW Tryz.func91 λ F=>(ra 18 [] [2,1,0,0,0] [0,5,8,9,10]) λ _=>nz 249 1 ?_;refine(wz (ι:=LM) (λ i=>n-i.k) (λ i=>i.im) [0,8,9] (λ i=>[(5,vl i.A i.k i.c),(10,vi i.k)]) (λ i c=>sV 1 1 (vi i.x) (sC 0 (own 249 1 (vl i.A i.k i.c) i.k i.aY.flatten) c)) (λ i=>au.le aa i.im/\eQ i.im (l.map ig) 1 i.k i.aY) ⟨0,none,0,[],aa,x⟩ ⟨lq,eQ.nil _ _ _⟩) ?_;rintro⟨k,A1,D,aY,bd,y⟩ ⟨hle,f⟩ af;refine(rv 4 [] 1 [1] [0,5,8,9,10,11])<|(eX 11 k n) (λ I=>?_) (λ aO=>?_);have z:k<l.length:=by omega
 obtain⟨g2,aE,aQ,T2,a1,rfl,ab,W,p⟩:=(U.mono hle).elem 2 z (λ cs h=>by obtain⟨E,n2,c2,rfl,aP⟩:=eB h;rfl);obtain⟨E,n2,c2,rfl,aP⟩:=eB ab;have aF:=aU cB.wt (HY z);simp only[cB.wt]at aF;have ho:=a6 _ (HY z);refine(cP W (p))<|(rv 6 [] 1 [2,0,0,0] [0,5,8,9,10])<|(xz si I)<|(fj 4 [0,0] 2 [1] [0,5,7,8,9,10]) λ b4=>(qz)<|(kz [0,6,7,1] [0,0] [0,5,7,8,9,10,14,15,16,17,19,21])<|(bj [3] (Ec _ _ m s y _ _ _ om ho (aJ.mono hle) aP)) λ|_,_,ak,P,⟨x1,A4,n4,c4,rfl,rfl,aR⟩=>(aG [2,1])<|(bj [0] (nZ _ m s x1 (aJ.mono lq))) λ|_,_,aB,aA,⟨a',b,rfl,rfl,N⟩=>(aG [2,1])<|(kz [9,1] [] [0,5,8,9,10,14,23])<|(uz 0 [] [0,5,8,9,10,14,24]) λ b5=>(uz 0 [] [0,5,8,9,10,14,25]) λ b6=>(eF)<|(jo wP k 1 aY [vp (b5 0) 0] [5,0]) λ e q=>(aG [])<|(uz 0 [] [0,5,8,9,10]) λ _=>(bL)<|(rv 7 [] 4 [0] [0,5,8,9,10])<|(sv 10 (ag I om))<|(dz [4])<|(fb 1 (b5 0) 253 [vs l[k].name,vl A4 n4 c4,vp b 0,.pointer none,.pointer none,vs ⟨#[]⟩]) λ j9 l9 bH=>(dz [2])<|lz (af ⟨k+1,e,q,_,j9,a'⟩ ⟨lq,(f.mono lq).step (d:=ig l[k]) (by rw[HW,HH z];rfl) (y9 bH (aR.mono lq) rfl rfl rfl rfl) rfl⟩ dm);refine(ra 7 [] [4] [4]) λ _=>(fo 0 249 1 A1 k D aY.flatten) ?_;intro bk aN hf;exact ez 0 (vl A1 k D) [.av m 77 [vp s 0,vi y,vb false]] [] lq ⟨y,_,_,_,rfl,rfl,(f.mono aN).done (c:=D) so hf⟩
theorem E': ∀t,t.ok-> ∀aa m s x(s1:ao)A n c b1,ad aa l5 [vp s 0]->ad aa (fU t) [vs s1,vl A n c,vb b1]->
 Sp 54 [vp m 0,.agg #[vs s1,vl A n c,vb b1]] [(.av m 77 [vp s 0,vi x,vb false])] aa (λ r M' C=> ∃x' q,M'=[.av m 77 [vp s 0,vi x',vb false]]/\r=vp q 0/\ad C (.ptr (h_ t)) [vp q 0]):=by
 intro t;induction t with
 |named nm nn=>
  intro a6 aa m s x s1 A n c b1 aJ hd;obtain⟨c,rfl,rfl,rfl,rfl⟩:=vh hd;refine aW Tryz.func54 λ F=>?_
  refine rZ 33 [1,0,0,0,1] [2] (λ b1=>[(0,vp m 0),(3,vp (b1 0) 0)]) (λ b1=>.av (b1 0) 69 [vs nm,vl A 0 c,vb nn]::.av m 77 [vp s 0,vi x,vb (!((ay nm ⟨#[]⟩)==false))]::F) λ b1=>dr [2,10] 9 ?_;refine cr [0,1,2,3,4] [0,0] [4,3,2,1,0] [5,6,7,8] [(0,vp m 0),(3,vp (b1 0) 0),(29,vp (b1 0) 0),(30,vs nm),(31,vp (b1 0) 2),(32,vb nn),(33,vp m 0)] ?_;rw[show(!(ay nm ⟨#[]⟩==false))=false from by rw[kj a6];rfl];refine on 5 ?_;refine ec 5 58 [vp m 0] (some 34) [1] [3,2,1,0] [6,7,8] (nZ _ m s x (aJ)) rfl ?_;rintro _ _ ak P ⟨x1,a,rfl,rfl,l⟩;refine im [(3,1),(2,0),(1,1),(0,0)] ?_;refine cr [6] [] [6,3,2,1,0] [7,8] [(0,vp m 0),(3,vp (b1 0) 0),(35,.agg #[vs nm,.pointer none,vb nn,vp a 0])] ?_;refine on 7 ?_;refine ex 7 0 [] [8] (λ b2=>[(0,vp m 0),(3,vp (b1 0) 0),(36,vp (b2 0) 0)]) (λ b2=>.av (b2 0) 222 [vs nm,.pointer none,vb nn,vp a 0]::.av m 77 [vp s 0,vi x1,vb false]::.av (b1 0) 69 [vs nm,vl A 0 c,vb nn]::F) λ b2=>im [] ?_;refine on 8 ?_;refine ex 8 0 [] [] (λ _=>[(0,vp m 0),(3,vp (b1 0) 0),(5,vp (b2 0) 0)]) (λ _=>.av (b2 0) 222 [vs nm,.pointer none,vb nn,vp a 0]::.av m 77 [vp s 0,vi x1,vb false]::.av (b1 0) 69 [vs nm,vl A 0 c,vb nn]::F) λ _=>im [] ?_;refine eS.fin ?_;refine zg<|(ra 15 [2] [5] [4]) λ _=>(fb 0 (b2 0) 222 [vs nm,.pointer none,vb nn,vp a 0]) ?_;intro bc a7 g;exact ez 0 (vp (b2 0) 0) [.av m 77 [vp s 0,vi x1,vb false]] [1] lq ⟨_,_,rfl,rfl,ad.box g (.vu _ (.on .nil (.vu _ (.an rfl .dU))))⟩
 |list t nn af=>
  intro a6 aa m s x s1 A n c b1 aJ hd;obtain⟨g2,aQ,T2,a1,s2,E,n2,c2,b,rfl,rfl,rfl,rfl,W,p,aP⟩:=vH hd;refine aW Tryz.func54 λ F=>?_
  refine rZ 33 [1,0,0,0,1] [2] (λ b1=>[(0,vp m 0),(3,vp (b1 0) 0)]) (λ b1=>.av (b1 0) 69 [vs ⟨#[]⟩,vl (sa g2 0) 1 c,vb nn]::.av m 77 [vp s 0,vi x,vb (!((ay ⟨#[]⟩ ⟨#[]⟩)==true))]::F) λ b1=>dr [2,10] 9 ?_;refine cr [0,1,2,3,4] [0,0] [4,3,2,1,0] [5,6,7,8] [(0,vp m 0),(3,vp (b1 0) 0),(29,vp (b1 0) 0),(30,vs ⟨#[]⟩),(31,vp (b1 0) 2),(32,vb nn),(33,vp m 0)] ?_;rw[show(!(ay ⟨#[]⟩ ⟨#[]⟩==true))=false from by simp[ay]];refine on 5 ?_;refine ec 5 58 [vp m 0] (some 34) [1] [3,2,1,0] [6,7,8] (nZ _ m s x (aJ)) rfl ?_;rintro _ _ ak P ⟨x1,a,rfl,rfl,l⟩;refine im [(3,1),(2,0),(1,1),(0,0)] ?_;refine cr [6] [] [6,3,2,1,0] [7,8] [(0,vp m 0),(3,vp (b1 0) 0),(35,.agg #[vs ⟨#[]⟩,.pointer none,vb nn,vp a 0])] ?_;refine on 7 ?_;refine ex 7 0 [] [8] (λ b2=>[(0,vp m 0),(3,vp (b1 0) 0),(36,vp (b2 0) 0)]) (λ b2=>.av (b2 0) 222 [vs ⟨#[]⟩,.pointer none,vb nn,vp a 0]::.av m 77 [vp s 0,vi x1,vb false]::.av (b1 0) 69 [vs ⟨#[]⟩,vl (sa g2 0) 1 c,vb nn]::F) λ b2=>im [] ?_;refine on 8 ?_;refine ex 8 0 [] [] (λ _=>[(0,vp m 0),(3,vp (b1 0) 0),(5,vp (b2 0) 0)]) (λ _=>.av (b2 0) 222 [vs ⟨#[]⟩,.pointer none,vb nn,vp a 0]::.av m 77 [vp s 0,vi x1,vb false]::.av (b1 0) 69 [vs ⟨#[]⟩,vl (sa g2 0) 1 c,vb nn]::F) λ _=>im [] ?_;refine eS.fin ?_;refine zg<|(ra 14 [2,2] [3,1,0,4] [5,41,42,44]) λ _=>cP (P _ _ W) (p)<|(e5 (.indexAddr 67 (.tmp 44) (.const (vi 0))) [vl (sa g2 0) 1 c,vi 0] (v:=(vp g2 (0*3))) (bG (k:=0) yE om))<|(rv 1 [0] 1 [6] [5,41,42,46])<|(eh [2] (af a6 _ m s x1 _ _ _ _ _ (aJ.mono P) (aP.mono P))) λ aB aA a' q2 aR=>(ra 9 [2] [5] [4]) λ _=>(fb 2 (b2 0) 222 [vs ⟨#[]⟩,vp q2 0,vb nn,vp a 0]) ?_;intro bc a7 g;exact ez 0 (vp (b2 0) 0) [.av m 77 [vp s 0,vi a',vb false]] [1,1] lq ⟨_,_,rfl,rfl,ad.box g (.vu _ (.on (aR.mono a7) (.vu _ (.an rfl .dU))))⟩
theorem F3: ∀o aa m s x A n c,gN o<=68719476736->zi o->ad aa l5 [vp s 0]->ad aa (vU o) [vl A n c]->
 Sp 92 [vp m 0,vl A n c] [(.av m 77 [vp s 0,vi x,vb false])] aa (λ r M' C=> ∃x' q,M'=[.av m 77 [vp s 0,vi x',vb false]]/\r=vq q/\ad C (x_ o) [vq q]):=by
 intro o aa m s x A n c hw a6 aJ hd;cases o with
 |none=>
  obtain rfl:=hd.len;refine aW Tryz.func92 λ F=>(ra 16 [] [1,1,0,1] [4]) λ _=>ez 0 (.pointer none) [.av m 77 [vp s 0,vi x,vb false]] [] lq ⟨_,_,rfl,rfl,.nil⟩
 |some v=>
  obtain⟨g2,aE,aQ,T2,a1,rfl,ab,W,p⟩:=ad.elem (l:=[v]) (f:=eI) 3 (k:=0) hd sm (λ cs h=>by obtain⟨_,_,_,rfl,_⟩:=dv h;rfl);obtain⟨E,n2,c2,rfl,_⟩:=dv ab;obtain rfl:=hd.len;simp only[List.getElem_cons_zero]at ab p;refine aW Tryz.func92 λ F=>(ra 33 [0,0] [3,2] [20,21]) λ _=>cP W (p)<|(e5 (.indexAddr 66 (.tmp 21) (.const (vi 0))) [vl (sa g2 0) 1 c,vi 0] (v:=(vp g2 (0*3))) (bG (k:=0) vn om))<|(ra 1 [0] [3,4] [20,23]) λ _=>(eh [1] (DE _ v (HZ _) (by simp only[gN]at hw;omega) (a6 v rfl) _ m s x _ _ _ aJ ab)) λ ak P x1 q1 aC=>(ra 2 [] [4] [4]) λ _=>ez 0 (vp q1 0) [.av m 77 [vp s 0,vi x1,vb false]] [1] P ⟨_,_,rfl,rfl,aC⟩
theorem c59: ∀l aa m s x A n c,aZ aq.wt l<=68719476736->(∀a∈l,a.ok)->ad aa l5 [vp s 0]->ad aa (.sl (l.map cx)) [vl A n c]->
 Sp 59 [vp m 0,vl A n c] [(.av m 77 [vp s 0,vi x,vb false])] aa (λ r M' C=> ∃x' A' n' ai,M'=[.av m 77 [vp s 0,vi x',vb false]]/\r=vl A' n' ai/\ad C (.sl (l.map cv)) [vl A' n' ai]):=by
 intro l aa m s x A n c hw a6 aJ U;have O:=U.len;rw[HX]at O;have hl:=ax aq.wt l;refine aW Tryz.func59 λ F=>(ra 18 [] [2,1,0,0,0] [0,5,8,9,10]) λ _=>nz 213 1 ?_;refine(wz (ι:=LM) (λ i=>n-i.k) (λ i=>i.im) [0,8,9] (λ i=>[(5,vl i.A i.k i.c),(10,vi i.k)]) (λ i c=>sV 1 1 (vi i.x) (sC 0 (own 213 1 (vl i.A i.k i.c) i.k i.aY.flatten) c)) (λ i=>au.le aa i.im/\eQ i.im (l.map cv) 1 i.k i.aY) ⟨0,none,0,[],aa,x⟩ ⟨lq,eQ.nil _ _ _⟩) ?_;rintro⟨k,A1,D,aY,bd,y⟩ ⟨hle,f⟩ af;refine(rv 4 [] 1 [1] [0,5,8,9,10,11])<|(eX 11 k n) (λ I=>?_) (λ aO=>?_);have z:k<l.length:=by omega
 obtain⟨g2,aE,aQ,T2,a1,rfl,ab,W,p⟩:=(U.mono hle).elem 7 z (λ cs h=>by obtain⟨s3,Q,n3,c3,b3,A4,n4,c4,al,n5,c5,rfl,bz,g,b⟩:=cH h;rfl);obtain⟨s3,Q,n3,c3,b3,A4,n4,c4,al,n5,c5,rfl,bz,g,b⟩:=cH ab;have aF:=aU aq.wt (HY z);simp only[aq.wt]at aF;have ho:=a6 _ (HY z);refine(cP W (p))<|(rv 6 [] 1 [2,0,0,0] [0,5,8,9,10])<|(xz sZ I)<|(fj 4 [0,0] 2 [1] [0,5,7,8,9,10]) λ b4=>(qz)<|(kz [0,8,9,3,13,3,17,1] [0,0,0,0,0] [0,5,7,8,9,10,14,15,16,17,18,19,21,23,24,25,27,28,29,31])<|(bj [3] (E' _ ho.1 _ m s y _ _ _ _ _ (aJ.mono hle) bz)) λ|_,_,ak,P,⟨x1,q1,rfl,rfl,aC⟩=>(aG [15,1,11,1,4,1,2,1])<|(bj [0] (F3 _ _ m s x1 _ _ _ om ho.2.1 (aJ.mono lq) (g.mono P))) λ|_,_,aB,aA,⟨a',q2,rfl,rfl,aR⟩=>(aG [15,1,4,1,2,1])<|(bj [0] (c91 _ _ m s a' _ _ _ om ho.2.2 (aJ.mono lq) (b.mono lq))) λ|_,_,j3,l3,⟨x3,a8,n6,c6,rfl,rfl,aj⟩=>(aG [4,1,2,1])<|(bj [0] (nZ _ m s x3 (aJ.mono lq))) λ|_,_,j4,l4,⟨x4,j,rfl,rfl,R⟩=>(aG [4,1,2,1])<|(kz [19,1] [] [0,5,8,9,10,14,33])<|(uz 0 [] [0,5,8,9,10,14,34]) λ b5=>(uz 0 [] [0,5,8,9,10,14,35]) λ b6=>(eF)<|(jo uI k 1 aY [vp (b5 0) 0] [5,0]) λ e q=>(aG [])<|(uz 0 [] [0,5,8,9,10]) λ _=>(bL)<|(rv 7 [] 4 [0] [0,5,8,9,10])<|(sv 10 (ag I om))<|(dz [4])<|(fb 1 (b5 0) 215 [vs l[k].doc,vs l[k].name,vq q2,vp q1 0,vl a8 n6 c6,vp j 0,.pointer none,.pointer none]) λ j9 l9 bH=>(dz [2])<|lz (af ⟨k+1,e,q,_,j9,x4⟩ ⟨lq,(f.mono lq).step (d:=cv l[k]) (by rw[HW,HH z];rfl) (sW bH (aR.mono lq) (aC.mono lq) (aj.mono lq) rfl rfl rfl) rfl⟩ dm);refine(ra 7 [] [4] [4]) λ _=>(fo 0 213 1 A1 k D aY.flatten) ?_;intro bk aN hf;exact ez 0 (vl A1 k D) [.av m 77 [vp s 0,vi y,vb false]] [] lq ⟨y,_,_,_,rfl,rfl,(f.mono aN).done (c:=D) so hf⟩
theorem yV{s}(h:gB s):s.size≠0:=by
 obtain⟨x,r,G,_⟩:=h;have:=bp s;rw[G]at this;simp at this;omega
theorem eg.fS: ∀t:eg,t.by.length<=4*t.wt
 | .named n nn=>by have:=bp n;cases nn<;>simp only[eg.by,eg.wt,yc,HT]<;>simp<;>omega
 | .list t nn=>by have:=eg.fS t;cases nn<;>simp only[eg.by,eg.wt,yc,HT,Iz]<;>simp<;>omega
theorem ti : ∀ l : List UInt8, (l.flatMap qB).length ≤ 2 * l.length
  | [] => HZ _
  | x :: r => by
    have h := ti r
    have H : (qB x).length ≤ 2 := by
     unfold qB; repeat' split
     all_goals simp
    rw [G0, HT, Iz]; omega
theorem mn{s}{k}(h:k<s.size):(bl s)[k]?=some (bb s k):=by
 rw[HH (by rw[bp];exact h)]
 congr 1
 have:=aE h;unfold al at this;rw[Jg (by simpa using h)]at this;injection this
theorem B1{s}{k}(h:uX s)(U:k<s.size):zD (bb s k):=h _ (GZ (mn U))
theorem tO s{k}(h:k<s.size):((bl s).take (k+1)).flatMap qB=((bl s).take k).flatMap qB++qB (bb s k):=by
 rw[Jk,mn h,JG];simp
theorem AM{s}{k}(h:k<s.size)(hp:((bl s).take k).flatMap qB=(bl s).take k)(O:kR (bt s (k:Int))=false):((bl s).take (k+1)).flatMap qB=(bl s).take (k+1):=by
 rw[tO s h,hp,Jk,mn h];rw[bO]at O;simp[kR,Bool.or_eq_false_iff]at O;have G: ∀y:UInt8,y.toNat<32\/y.toNat=34\/y.toNat=92->bb s k≠y:=λ y hy e=>by subst e;omega
 have:qB (bb s k)=[bb s k]:=by
  unfold qB;rw[if_neg (G 34 dc),if_neg (G 92 dc),if_neg (G 10 dc),if_neg (G 9 dc)]
 rw[this];rfl
theorem zC{x}(G:x.toNat≠34)(H:x.toNat≠92)(S:x.toNat≠10)(Y:x.toNat≠9):qB x=[x]:=by
 unfold qB;rw[if_neg (λ e=>G (by rw[e];rfl)),if_neg (λ e=>H (by rw[e];rfl)),if_neg (λ e=>S (by rw[e];rfl)),if_neg (λ e=>Y (by rw[e];rfl))]
theorem lH{x}(h:zD x):x.toNat=9\/x.toNat=10\/(32<=x.toNat/\x.toNat<=126):=by
 rcases h with rfl|rfl|h
 exact .inl rfl;exact .inr (.inl rfl);exact .inr (.inr h)
theorem xA{s}{k}:([]++[.int .u8 34])++byteCells (s.extract 0 k)=IE (34::(bl s).take k):=by
 have:bl (s.extract 0 k)=(bl s).take k:=by
  show(s.extract 0 k).data.toList=_;rw[Ii,Array.toList_extract];simp[List.extract,bl]
 show _=IE ([34]++(bl s).take k);rw[cf,<-this];rfl
theorem rI{T}{x i}{s}{k:Nat}(hT:HB.underlying T=some .string)(U:k<=s.size):h3 HB (.slice T x none (some i) none) [vs s,vi k] (vs (s.extract 0 k)):=
 iC hT (λ ρ h=>⟨rfl,.i64,by simp only[Op.operands]at h;simp at h;exact h.2⟩) (HD _) U
theorem u_{T U}{x y}(n:Nat)(O:n<=1099511627776):h3 HB (.binOp .quo T x y U) [vi n,vi 8] (vi ((n/8:Nat):Int)):=by
 refine⟨λ ρ ty pos dst af g w h=>?_⟩;simp[Op.operands]at h;simp only[execOp,eqGuard,binOp,h.1,h.2];have G:HK .i64 (Int.tdiv (n:Int) 8)=((n/8:Nat):Int):=by
  have e:Int.tdiv (n:Int) 8=((n/8:Nat):Int):=rfl;rw[e];exact b_ om om
 simp[Op.intDiv];simpa using G
theorem wx(n:Nat)(h:n<=1099511627776):aj (aj ((n:Int)+((n/8:Nat):Int))+2)=((n+n/8+2:Nat):Int):=by
 rw[b_ (n:=(n:Int)+((n/8:Nat):Int)) om om,b_ om om];omega
structure LT where
 k:Nat
 A:Option Addr
 c:Nat
 aY:List ao
 im:au
theorem bo.Cw(v:bo):v.by=if v.kind=0 then 36::bl v.raw else if v.kind=3\/v.kind=4 then fk (bl v.raw)else if v.kind=8 then 91::(IA (v.kids.jA false) [44]++[93])
 else if v.kind=9 then 123::(IA (v.kids.jA true) [44]++[125])else bl v.raw:=by obtain⟨k,r,a⟩:=v;rfl
section
variable{v:bo}
theorem h'(h:v.kind=1\/v.kind=2\/v.kind=5\/v.kind=6\/v.kind=7):(if v.kind=0 then 36::bl v.raw else if v.kind=3\/v.kind=4 then fk (bl v.raw)else if v.kind=8 then 91::(IA (v.kids.jA false) [44]++[93])
 else if v.kind=9 then 123::(IA (v.kids.jA true) [44]++[125])else bl v.raw)=bl v.raw:=by
 rw[if_neg om,if_neg om,if_neg om,if_neg om]
theorem uR(h:v.kind=3\/v.kind=4):(if v.kind=0 then 36::bl v.raw else if v.kind=3\/v.kind=4 then fk (bl v.raw)else if v.kind=8 then 91::(IA (v.kids.jA false) [44]++[93])
 else if v.kind=9 then 123::(IA (v.kids.jA true) [44]++[125])else bl v.raw)=fk (bl v.raw):=by
 rw[if_neg om,if_pos om]
theorem xd(h:v.kind=8):(if v.kind=0 then 36::bl v.raw else if v.kind=3\/v.kind=4 then fk (bl v.raw)else if v.kind=8 then 91::(IA (v.kids.jA false) [44]++[93])
 else if v.kind=9 then 123::(IA (v.kids.jA true) [44]++[125])else bl v.raw)=bl ⟨#[91]⟩++IA (v.kids.jA false) [44]++bl ⟨#[93]⟩:=by
 rw[if_neg om,if_neg om,if_pos om];rfl
theorem y2(h:v.kind=9):(if v.kind=0 then 36::bl v.raw else if v.kind=3\/v.kind=4 then fk (bl v.raw)else if v.kind=8 then 91::(IA (v.kids.jA false) [44]++[93])
 else if v.kind=9 then 123::(IA (v.kids.jA true) [44]++[125])else bl v.raw)=bl ⟨#[123]⟩++IA (v.kids.jA true) [44]++bl ⟨#[125]⟩:=by
 rw[if_neg om,if_neg om,if_neg om,if_pos om];rfl
end
theorem C0{s}(h:sR s):uX s:=λ x L=>.inr (.inr ⟨(h.2 x L).1,(h.2 x L).2.1⟩)
theorem Kids.lh: ∀{a:Kids}{o}{p},a.pr o->p∈a.list->(if o then gB p.1 else p.1=e0)/\p.2.pr
 | .cons n v r,o,p,h,hp=>by
  rcases G6.1 hp with rfl|hp
  exact⟨h.1,h.2.1⟩;exact Kids.lh h.2.2 hp
theorem Kids.kD o: ∀a:Kids,(a.jA o).length=a.list.length
 | .nil=>rfl
 | .cons n v r=>by simp only[Kids.jA,Kids.list,Iz,Kids.kD o r]
theorem Kids.sA o: ∀(a:Kids){k}(h:k<a.list.length),(a.jA o)[k]?=some ((if o then bl a.list[k].1++[58]else[])++a.list[k].2.by)
 | .cons n v r,0,h=>rfl
 | .cons n v r,k+1,h=>by
  simp only[Kids.jA,Kids.list,List.getElem?_cons_succ,List.getElem_cons_succ];exact Kids.sA o r _
def na(l:List (List UInt8)):Nat:=(l.map λ x=>1+x.length).sum
theorem rT l:(IA l [44]).length<=na l:=by
 have: ∀(x:List UInt8)(r:List (List UInt8)),(IA (x::r) [44]).length<=na (x::r):=by
  intro x r;induction r generalizing x with
  |nil=>rw[JA];simp[na]
  |cons y r af=>
   have h:=af y;rw[iy,HT,HT];simp[na]at h⊢;omega
 cases l with
 |nil=>simp[JF]
 |cons x r=>exact this x r
mutual
theorem bo.fS: ∀v:bo,v.by.length<=8*v.wt
 | .mk k r a=>by
  have G:=Kids.mb false a;have H:=Kids.mb true a;have S:=rT (a.jA false);have Y:=rT (a.jA true);have aI:=ti (bl r);have h6:=bp r;simp only[bo.by,bo.wt]
  repeat' split
  all_goals(try simp only[Iz,HT,fk,List.length_nil]);omega
theorem Kids.mb(o:Bool): ∀a:Kids,na (a.jA o)<=8*a.wt
 | .nil=>HD _
 | .cons n v r=>by
  have G:=bo.fS v;have H:=Kids.mb o r;have S:=bp n;have Y:(if o then bl n++[58]else[]).length<=n.size+1:=by split<;>simp
  have e:na (Kids.jA (.cons n v r) o)=(1+((if o then bl n++[58]else[])++v.by).length)+na (r.jA o):=by simp[Kids.jA,na]
  rw[e,HT];simp only[Kids.wt];omega
end
theorem tZ{aY:List ao}{l}(h:aY.map bl=l):aZ H0 aY=na l:=by
 subst h;induction aY with
 |nil=>rfl
 |cons x r af=>simp[aZ,na,bp]at af⊢;rw[af]
theorem Kids.x7 o(a:Kids):na (a.jA o)<=8*a.wt:=Kids.mb o a
theorem bo.AV(v:bo)(h:v.pr):(v.kind≠0/\v.kind<=9/\((v.kind=3\/v.kind=4)->uX v.raw))/\v.kids.pr (v.kind==9):=by
 obtain⟨k,r,a⟩:=v;obtain⟨G,H,S⟩:=h;refine⟨⟨?_,?_,?_⟩,S⟩;intro e;simp[bo.kind]at e;subst e;exact G;simp only[bo.kind];rcases Hh k 10 with Y|Y
 omega;exfalso
 match k,G,Y with
 |k+10,G,_=>exact G
 intro e;simp[bo.kind,bo.raw]at e⊢;rcases e with rfl|rfl
 exact G;exact C0 G
theorem F5: ∀t aa q,t.pr->t.wt<=68719476736->ad aa (.ptr (h_ t)) [vp q 0]->Sp 55 [vp q 0] [] aa (λ r M' _=>M'=[]/\ ∃s,r=vs s/\bl s=t.by):=by
 intro t;induction t with
 |named nm nn=>
  intro aa q hp hw K;obtain⟨g,ar,T,fz,x4,L,hg,J⟩:=oS K;rw[L];clear K L;simp[eg.wt]at hw;have dB:=yV hp;refine aW Tryz.func55 λ F=>(eW hg J)<|(h5 16 [200] [2,1] [0,3,7])<|(iz 7 nn) (λ c=>?_) (λ c=>?_);refine(cI 13 [0] [3,1] [12])<|(sv 12 (show(!(ay nm ⟨#[]⟩))=true from by rw[kj dB];rfl))<|(rv 8 [0] 0 [0,0,5] [16,17]) ?_;have hm:(⟨#[33]⟩:ao).size=1:=rfl;refine(e5 (.binOp .add 9 (.tmp 16) (.tmp 17) 9) [vs nm,vs ⟨#[33]⟩] (v:=(vs (nm++⟨#[33]⟩))) (ch om))<|(cq 2 2 [1] [2])<|G' (vs (nm++⟨#[33]⟩)) [] [0] ⟨rfl,_,rfl,by rw[eK,c];rfl⟩;refine(cI 11 [0] [3,1] [12])<|(sv 12 (show(!(ay nm ⟨#[]⟩))=true from by rw[kj dB];rfl))<|(rv 8 [0] 0 [0,0,5] [16,17]) ?_;have hm:(⟨#[]⟩:ao).size=0:=rfl;refine(e5 (.binOp .add 9 (.tmp 16) (.tmp 17) 9) [vs nm,vs ⟨#[]⟩] (v:=(vs (nm++⟨#[]⟩))) (ch om))<|(cq 2 2 [1] [2])<|G' (vs (nm++⟨#[]⟩)) [] [0] ⟨rfl,_,rfl,by rw[eK,c];rfl⟩
 |list t nn af=>
  intro aa q hp hw K;obtain⟨g,ar,T,fz,q2,x4,L,hg,J,aq⟩:=oy K;rw[L];clear K L;simp[eg.wt]at hw;refine aW Tryz.func55 λ F=>(eW hg J)<|(h5 16 [200] [2,1] [0,3,7])<|(iz 7 nn) (λ c=>?_) (λ c=>?_);refine(cI 13 [0] [3,1] [12])<|(sv 12 (I' ⟨#[]⟩))<|(cI 8 [100] [4,4] [22])<|(cz [] (af _ _ hp om aq)) ?_;rintro _ _ ak P ⟨rfl,s2,rfl,d⟩;have R:=bp s2;rw[d]at R;have aK:=eg.fS t;have hm:(⟨#[33]⟩:ao).size=1:=rfl;have M:(⟨#[91]⟩:ao).size=1:=rfl;have aI:(⟨#[93]⟩:ao).size=1:=rfl;have B:=Jy (a:=(⟨#[91]⟩:ao)) (b:=s2);have ax:=Jy (a:=(⟨#[91]⟩:ao)++s2) (b:=(⟨#[93]⟩:ao));refine(e5 (.binOp .add 9 (.const (vs ⟨#[91]⟩)) (.tmp 23) 9) [vs ⟨#[91]⟩,vs s2] (v:=(vs (⟨#[91]⟩++s2))) (ch om))<|(e5 (.binOp .add 9 (.tmp 24) (.const (vs ⟨#[93]⟩)) 9) [vs (⟨#[91]⟩++s2),vs ⟨#[93]⟩] (v:=(vs ((⟨#[91]⟩++s2)++⟨#[93]⟩))) (ch om))<|(dI 1 [4,8] [25,26])<|(e5 (.binOp .add 9 (.tmp 25) (.tmp 26) 9) [vs ((⟨#[91]⟩++s2)++⟨#[93]⟩),vs ⟨#[33]⟩] (v:=(vs (((⟨#[91]⟩++s2)++⟨#[93]⟩)++⟨#[33]⟩))) (ch om))<|(dI 2 [5] [2])<|G' (vs (((⟨#[91]⟩++s2)++⟨#[93]⟩)++⟨#[33]⟩)) [] [0] ⟨rfl,_,rfl,by rw[eK,eK,eK,d,c];simp[eg.by,yc,bl]⟩;refine(cI 11 [0] [3,1] [12])<|(sv 12 (I' ⟨#[]⟩))<|(cI 8 [100] [4,4] [22])<|(cz [] (af _ _ hp om aq)) ?_;rintro _ _ ak P ⟨rfl,s2,rfl,d⟩;have R:=bp s2;rw[d]at R;have aK:=eg.fS t;have hm:(⟨#[]⟩:ao).size=0:=rfl;have M:(⟨#[91]⟩:ao).size=1:=rfl;have aI:(⟨#[93]⟩:ao).size=1:=rfl;have B:=Jy (a:=(⟨#[91]⟩:ao)) (b:=s2);have ax:=Jy (a:=(⟨#[91]⟩:ao)++s2) (b:=(⟨#[93]⟩:ao));refine(e5 (.binOp .add 9 (.const (vs ⟨#[91]⟩)) (.tmp 23) 9) [vs ⟨#[91]⟩,vs s2] (v:=(vs (⟨#[91]⟩++s2))) (ch om))<|(e5 (.binOp .add 9 (.tmp 24) (.const (vs ⟨#[93]⟩)) 9) [vs (⟨#[91]⟩++s2),vs ⟨#[93]⟩] (v:=(vs ((⟨#[91]⟩++s2)++⟨#[93]⟩))) (ch om))<|(dI 1 [4,8] [25,26])<|(e5 (.binOp .add 9 (.tmp 25) (.tmp 26) 9) [vs ((⟨#[91]⟩++s2)++⟨#[93]⟩),vs ⟨#[]⟩] (v:=(vs (((⟨#[91]⟩++s2)++⟨#[93]⟩)++⟨#[]⟩))) (ch om))<|(dI 2 [5] [2])<|G' (vs (((⟨#[91]⟩++s2)++⟨#[93]⟩)++⟨#[]⟩)) [] [0] ⟨rfl,_,rfl,by rw[eK,eK,eK,d,c];simp[eg.by,yc,bl]⟩
theorem Cj: ∀aa s,uX s->s.size<=68719476736->Sp 319 [vs s] [] aa (λ r M' _=>M'=[]/\ ∃t,r=vs t/\bl t=fk (bl s)):=by
 intro aa s aJ dB;refine aW Tryz.func319 λ F=>(ra 13 [] [2,0,0,0,0] [0,3]) ?_;intro _;have O: ∀k,fk (bl s)=34::(((bl s).take k).flatMap qB++(((bl s).drop k).flatMap qB++[34])):=λ k=>by rw[<-Js,<-JG,List.take_append_drop];rfl
 refine(wz (ι:=Nat×au) (λ i=>s.size-i.1) (λ i=>i.2) [0] (λ i=>[(3,vi i.1)]) (λ i c=>c) (λ i=>i.1<=s.size/\au.le aa i.2/\((bl s).take i.1).flatMap qB=(bl s).take i.1) ⟨0,aa⟩ ⟨HD _,lq,rfl⟩) ?_;rintro⟨k,bd⟩ ⟨U,al,p⟩ af;dsimp only at U al p;refine(aM 6 1 [1] [10])<|(eX 10 k s.size) (λ I=>?_) (λ I=>?_);refine(aM 8 2 [1,0,0,2] [13,14])<|(e5 (.index 9 (.tmp 13) (.tmp 14)) [vs s,vi k] (v:=(.int .u8 (bt s (k:Int)))) (aS Tryz.underlying9 om om))<|(cR [] (D6 _ (bt s (k:Int)))) λ ak P=>(aM 1 2 [1] [16])<|(iz 16 (kR (bt s (k:Int)))) (λ ah=>?_) (λ ah=>?_);have al:=al.trans P;refine rZ 10 [] [3,1] (λ _=>[(0,vs s),(3,vi k),(20,vb ((k:Int)==s.size))]) (λ _=>F) λ _=>it 20 ((k:Int)==s.size) (λ ay=>?_) (λ ay=>?_);have ay:k=s.size:=by have S:=ay;simp at S;omega
 have hm:(⟨#[34]⟩:ao).size=1:=rfl;have B:=Jy (a:=(⟨#[34]⟩:ao)) (b:=s);refine zg<|(cq 4 0 [0,0,1] [21])<|(e5 (.binOp .add 9 (.const (vs ⟨#[34]⟩)) (.tmp 21) 9) [vs ⟨#[34]⟩,vs s] (v:=(vs (⟨#[34]⟩++s))) (ch om))<|(e5 (.binOp .add 9 (.tmp 22) (.const (vs ⟨#[34]⟩)) 9) [vs (⟨#[34]⟩++s),vs ⟨#[34]⟩] (v:=(vs ((⟨#[34]⟩++s)++⟨#[34]⟩))) (ch om))<|(cq 2 2 [1] [2])<|G' (vs ((⟨#[34]⟩++s)++⟨#[34]⟩)) [] [] ?_;refine⟨rfl,_,rfl,?_⟩;rw[ay,<-bp s,JE]at p;rw[eK,eK,fk,p];simp[bl];have ay:k<s.size:=by have S:=ay;simp at S;omega
 refine FU 12 [] [5,4] (λ l=>[(0,vs s),(3,vi k),(4,vp (l 0) 0),(25,vi s.size),(27,vi s.size)]) (λ l=>.av (l 0) 81 [.pointer none,vz]::F) λ l M=>va (.binOp .quo 3 (.tmp 27) (.const (vi 8)) 3) [vi s.size,vi 8] (vi ((s.size/8:Nat):Int)) (some 28) [5,5] (u_ s.size om) ?_;refine rn 2 [] [5,7] (λ _=>[(0,vs s),(3,vi k),(4,vp (l 0) 0),(30,vi (aj ((aj ((s.size:Int)+((s.size/8:Nat):Int)))+2)))]) (λ _=>.av (l 0) 81 [.pointer none,vz]::F) ?_;intro _;rw[show(aj ((aj ((s.size:Int)+((s.size/8:Nat):Int)))+2))=((s.size+s.size/8+2:Nat):Int)from wx s.size om];refine Gk (s.size+s.size/8+2) (some 31) [5,8] M om (λ A c=>?_);refine zg<|(dI 3 [6,0] [0,3,4])<|(cz [0,0] (zc _ (l 0) (vp (l 0) 0) A (0) c [] 34 (.inr rfl) om)) λ|_,_,k1,m1,⟨rfl,A1,D,rfl⟩=>(gp 5 [7,2] [33,34])<|(e5 (.slice 9 (.tmp 33) none (some (.tmp 34)) none) [vs s,vi k] (v:=(vs (s.extract 0 k))) (rI Tryz.underlying9 U)) ?_;have hex:(s.extract 0 k).size=k:=by rw[ID];omega
 refine(cz [0,0] (ta _ (l 0) (vp (l 0) 0) A1 ((0+1)) D ([]++[.int .u8 34]) (s.extract 0 k) (.inr rfl) om)) λ|_,_,k2,m2,⟨rfl,E,c2,rfl⟩=>rZ 6 [] [8,0,0,0,0] (λ _=>[(0,vs s),(3,vi k),(4,vp (l 0) 0)]) (λ _=>.av (l 0) 81 [vp (l 0) 0,vl E ((0+1)+(s.extract 0 k).size) c2]::own 5 1 (vl E ((0+1)+(s.extract 0 k).size) c2) ((0+1)+(s.extract 0 k).size) (([]++[.int .u8 34])++byteCells (s.extract 0 k))::F) ?_;intro _;have N: ∃acc:List UInt8,acc=34::((bl s).take k).flatMap qB:=⟨_,rfl⟩;obtain⟨AW,G⟩:=N;have aG:(([]++[.int .u8 34])++byteCells (s.extract 0 k))=IE AW:=by rw[G,p,xA]
 have j:((0+1)+(s.extract 0 k).size)=AW.length:=by rw[G,p,hex];simp[bp];omega
 rw[aG,j];refine bf.loop (ι:=Nat×List UInt8×Option Addr×Nat×au) (λ i=>s.size-i.1) (λ i=>i.2.2.2.2) (λ i=>[(0,vs s),(3,vi i.1),(4,vp (l 0) 0)]) (λ i=>.av (l 0) 81 [vp (l 0) 0,vl i.2.2.1 i.2.1.length i.2.2.2.1]::own 5 1 (vl i.2.2.1 i.2.1.length i.2.2.2.1) i.2.1.length (IE i.2.1)::F) (λ i=>i.1<=s.size/\au.le aa i.2.2.2.2/\i.2.1=34::((bl s).take i.1).flatMap qB) ⟨k,AW,E,c2,k2⟩ ⟨U,((al.trans m1).trans m2),G⟩ ?_;rintro⟨k2,acc,E,c2,C⟩ ⟨z,R,f⟩ az;dsimp only at z R f;have o:acc.length<=2*k2+1:=by have h8:=ti ((bl s).take k2);have h9:((bl s).take k2).length<=k2:=so;rw[f,Iz];omega
 refine zg<|(cq 6 1 [1] [0,3,4,40])<|(eX 40 k2 s.size) (λ aD=>?_) (λ aD=>?_);refine(aM 8 2 [1,0,0,2] [43,44])<|(e5 (.index 9 (.tmp 43) (.tmp 44)) [vs s,vi k2] (v:=(.int .u8 (bt s (k2:Int)))) (aS Tryz.underlying9 om om)) ?_;have q:=B1 aJ aD;have k8:=tO s aD;have w:=bO (s:=s) (k2);obtain⟨x,L⟩: ∃x,x=bb s k2:=⟨_,rfl⟩;rw[<-L]at q k8 w;rw[w];refine(aM 12 2 [2,0,1] [5,46,57])<|(iz 57 ((x.toNat:Int)==34)) (λ q0=>?_) (λ q0=>?_);refine rZ 2 [] [8,0,0,1,0,2,0,1,0,0] (λ _=>[(0,vs s),(3,vi k2),(4,vp (l 0) 0)]) (λ _=>.av (l 0) 81 [vp (l 0) 0,vl E acc.length c2]::own 5 1 (vl E acc.length c2) acc.length (IE acc)::F) ?_;intro _;have g0:=q0;simp at g0;obtain rfl:x=34:=Ig.1 (show x.toNat=34 from by omega);have hz:(⟨#[92,34]⟩:ao).size=2:=rfl;refine cl 215 [vp (l 0) 0,vs (⟨#[92,34]⟩)] (some 59) [8,0,0,1,0,2,0,1,0,1] [0,0] (ta _ (l 0) (vp (l 0) 0) E (acc.length) c2 (IE acc) (⟨#[92,34]⟩:ao) (.inr rfl) om) rfl ?_;rintro _ _ d m11 ⟨rfl,e,vd,rfl⟩;rw[show IE acc++byteCells ⟨#[92,34]⟩=IE (acc++[92,34])from(cf _ _).symm,show acc.length+(⟨#[92,34]⟩:ao).size=(acc++[92,34]).length from by rw[HT,hz];rfl];refine zg<|(cq 11 7 [0,0] [0,3,4])<|(sv 3 (ag aD om))<|gz (az ⟨k2+1,acc++[92,34],e,vd,d⟩ ⟨dm,(R.trans m11),by dsimp only;rw[k8,f];rfl⟩ dm);refine(aM 6 0 [1,1] [60])<|(iz 60 ((x.toNat:Int)==92)) (λ q1=>?_) (λ q1=>?_);refine rZ 2 [] [8,0,0,1,0,2,0,1,1,1,0,0] (λ _=>[(0,vs s),(3,vi k2),(4,vp (l 0) 0)]) (λ _=>.av (l 0) 81 [vp (l 0) 0,vl E acc.length c2]::own 5 1 (vl E acc.length c2) acc.length (IE acc)::F) ?_;intro _;have g0:=q0;simp at g0;have g1:=q1;simp at g1;obtain rfl:x=92:=Ig.1 (show x.toNat=92 from by omega);have hz:(⟨#[92,92]⟩:ao).size=2:=rfl;refine cl 215 [vp (l 0) 0,vs (⟨#[92,92]⟩)] (some 62) [8,0,0,1,0,2,0,1,1,1,0,1] [0,0] (ta _ (l 0) (vp (l 0) 0) E (acc.length) c2 (IE acc) (⟨#[92,92]⟩:ao) (.inr rfl) om) rfl ?_;rintro _ _ d m11 ⟨rfl,e,vd,rfl⟩;rw[show IE acc++byteCells ⟨#[92,92]⟩=IE (acc++[92,92])from(cf _ _).symm,show acc.length+(⟨#[92,92]⟩:ao).size=(acc++[92,92]).length from by rw[HT,hz];rfl];refine zg<|(cq 11 9 [0,0] [0,3,4])<|(sv 3 (ag aD om))<|gz (az ⟨k2+1,acc++[92,92],e,vd,d⟩ ⟨dm,(R.trans m11),by dsimp only;rw[k8,f];rfl⟩ dm);refine(aM 6 0 [1,1] [63])<|(iz 63 ((x.toNat:Int)==8)) (λ q2=>?_) (λ q2=>?_);refine(aM 2 0 [0,0] []) ?_;exfalso;have g0:=q0;simp at g0;have g1:=q1;simp at g1;have g2:=q2;simp at g2;have g:=lH q;omega;refine(aM 6 0 [1,1] [66])<|(iz 66 ((x.toNat:Int)==12)) (λ q3=>?_) (λ q3=>?_);refine(aM 2 0 [0,0] []) ?_;exfalso;have g0:=q0;simp at g0;have g1:=q1;simp at g1;have g2:=q2;simp at g2;have g3:=q3;simp at g3;have g:=lH q;omega;refine(aM 6 0 [1,1] [69])<|(iz 69 ((x.toNat:Int)==10)) (λ Z=>?_) (λ Z=>?_);refine rZ 2 [] (8::0::0::1::0::2::0::gf 9 [0,0]) (λ _=>[(0,vs s),(3,vi k2),(4,vp (l 0) 0)]) (λ _=>.av (l 0) 81 [vp (l 0) 0,vl E acc.length c2]::own 5 1 (vl E acc.length c2) acc.length (IE acc)::F) ?_;intro _;have g0:=q0;simp at g0;have g1:=q1;simp at g1;have g2:=q2;simp at g2;have g3:=q3;simp at g3;have g4:=Z;simp at g4;obtain rfl:x=10:=Ig.1 (show x.toNat=10 from by omega);have hz:(⟨#[92,110]⟩:ao).size=2:=rfl;refine cl 215 [vp (l 0) 0,vs (⟨#[92,110]⟩)] (some 71) (8::0::0::1::0::2::0::gf 9 [0,1]) [0,0] (ta _ (l 0) (vp (l 0) 0) E (acc.length) c2 (IE acc) (⟨#[92,110]⟩:ao) (.inr rfl) om) rfl ?_;rintro _ _ d m11 ⟨rfl,e,vd,rfl⟩;rw[show IE acc++byteCells ⟨#[92,110]⟩=IE (acc++[92,110])from(cf _ _).symm,show acc.length+(⟨#[92,110]⟩:ao).size=(acc++[92,110]).length from by rw[HT,hz];rfl]
 refine zg<|(cq 11 15 [0,0] [0,3,4])<|(sv 3 (ag aD om))<|gz (az ⟨k2+1,acc++[92,110],e,vd,d⟩ ⟨dm,(R.trans m11),by dsimp only;rw[k8,f];rfl⟩ dm);refine(aM 6 0 [1,1] [72])<|(iz 72 ((x.toNat:Int)==13)) (λ q5=>?_) (λ q5=>?_);refine(aM 2 0 [0,0] []) ?_;exfalso;have g0:=q0;simp at g0;have g1:=q1;simp at g1;have g2:=q2;simp at g2;have g3:=q3;simp at g3;have g4:=Z;simp at g4;have g5:=q5;simp at g5;have g:=lH q;omega;refine(aM 6 0 [1,1] [75])<|(iz 75 ((x.toNat:Int)==9)) (λ ae=>?_) (λ ae=>?_);refine rZ 2 [] (8::0::0::1::0::2::0::gf 13 [0,0]) (λ _=>[(0,vs s),(3,vi k2),(4,vp (l 0) 0)]) (λ _=>.av (l 0) 81 [vp (l 0) 0,vl E acc.length c2]::own 5 1 (vl E acc.length c2) acc.length (IE acc)::F) ?_;intro _;have g0:=q0;simp at g0;have g1:=q1;simp at g1;have g2:=q2;simp at g2;have g3:=q3;simp at g3;have g4:=Z;simp at g4;have g5:=q5;simp at g5;have g6:=ae;simp at g6;obtain rfl:x=9:=Ig.1 (show x.toNat=9 from by omega);have hz:(⟨#[92,116]⟩:ao).size=2:=rfl;refine cl 215 [vp (l 0) 0,vs (⟨#[92,116]⟩)] (some 77) (8::0::0::1::0::2::0::gf 13 [0,1]) [0,0] (ta _ (l 0) (vp (l 0) 0) E (acc.length) c2 (IE acc) (⟨#[92,116]⟩:ao) (.inr rfl) om) rfl ?_;rintro _ _ d m11 ⟨rfl,e,vd,rfl⟩;rw[show IE acc++byteCells ⟨#[92,116]⟩=IE (acc++[92,116])from(cf _ _).symm,show acc.length+(⟨#[92,116]⟩:ao).size=(acc++[92,116]).length from by rw[HT,hz];rfl];refine zg<|(cq 11 19 [0,0] [0,3,4])<|(sv 3 (ag aD om))<|gz (az ⟨k2+1,acc++[92,116],e,vd,d⟩ ⟨dm,(R.trans m11),by dsimp only;rw[k8,f];rfl⟩ dm);refine(aM 6 0 [1,1] [78])<|(iz 78 ((x.toNat:Int)==194)) (λ q7=>?_) (λ q7=>?_);refine(aM 15 0 [0,0,1,5] [6,86])<|(iz 86 (decide ((aj ((k2:Int)+1))<(s.size:Int)))) (λ H=>?_) (λ H=>?_);refine(aM 2 1 [7] [87,88]) ?_;exfalso;have g0:=q0;simp at g0;have g1:=q1;simp at g1;have g2:=q2;simp at g2;have g3:=q3;simp at g3;have g4:=Z;simp at g4;have g5:=q5;simp at g5;have g6:=ae;simp at g6;have g7:=q7;simp at g7;have g8:=H;simp at g8;have g:=lH q;omega;refine rZ 16 [] (8::0::0::1::0::2::0::gf 15 [0,1,1]) (λ _=>[(0,vs s),(3,vi k2),(4,vp (l 0) 0),(103,.int .u8 (x.toNat:Int))]) (λ _=>.av (l 0) 81 [vp (l 0) 0,vl E acc.length c2]::own 5 1 (vl E acc.length c2) acc.length (IE acc)::F) ?_;intro _;have g0:=q0;simp at g0;have g1:=q1;simp at g1;have g2:=q2;simp at g2;have g3:=q3;simp at g3;have g4:=Z;simp at g4;have g5:=q5;simp at g5;have g6:=ae;simp at g6;have g7:=q7;simp at g7;have g8:=H;simp at g8;have h:qB x=[x]:=zC om om om om;refine cl 322 [vp (l 0) 0,.int .u8 (x.toNat:Int)] (some 104) (8::0::0::1::0::2::0::gf 15 [0,1,2]) [0,0] (zc _ (l 0) (vp (l 0) 0) E (acc.length) c2 (IE acc) (x.toNat:Int) (.inr rfl) om) rfl ?_;rintro _ _ d m11 ⟨rfl,e,vd,rfl⟩;rw[show IE acc++[.int .u8 (x.toNat:Int)]=IE (acc++[x])from by rw[cf];rfl,show acc.length+1=(acc++[x]).length from by simp];refine zg<|(cq 11 22 [0,0] [0,3,4])<|(sv 3 (ag aD om))<|gz (az ⟨k2+1,acc++[x],e,vd,d⟩ ⟨dm,(R.trans m11),by dsimp only;rw[k8,f,h];rfl⟩ dm);refine(aM 6 0 [1,0,3] [49])<|(iz 49 (decide ((x.toNat:Int)<32))) (λ H=>?_) (λ H=>?_);refine(aM 7 2 [1,0,1] [53]) ?_;exfalso;have g0:=q0;simp at g0;have g1:=q1;simp at g1;have g2:=q2;simp at g2;have g3:=q3;simp at g3;have g4:=Z;simp at g4;have g5:=q5;simp at g5;have g6:=ae;simp at g6;have g7:=q7;simp at g7;have g8:=H;simp at g8;have g:=lH q;omega;refine(aM 4 2 [1] [52])<|(iz 52 ((x.toNat:Int)==127)) (λ q9=>?_) (λ q9=>?_)
 refine(aM 3 0 [0,1] []) ?_;exfalso;have g0:=q0;simp at g0;have g1:=q1;simp at g1;have g2:=q2;simp at g2;have g3:=q3;simp at g3;have g4:=Z;simp at g4;have g5:=q5;simp at g5;have g6:=ae;simp at g6;have g7:=q7;simp at g7;have g8:=H;simp at g8;have g9:=q9;simp at g9;have g:=lH q;omega;refine rZ 3 [] (8::0::0::1::0::2::0::gf 19 []) (λ _=>[(0,vs s),(3,vi k2),(4,vp (l 0) 0),(55,.int .u8 (x.toNat:Int))]) (λ _=>.av (l 0) 81 [vp (l 0) 0,vl E acc.length c2]::own 5 1 (vl E acc.length c2) acc.length (IE acc)::F) ?_;intro _;have g0:=q0;simp at g0;have g1:=q1;simp at g1;have g2:=q2;simp at g2;have g3:=q3;simp at g3;have g4:=Z;simp at g4;have g5:=q5;simp at g5;have g6:=ae;simp at g6;have g7:=q7;simp at g7;have g8:=H;simp at g8;have g9:=q9;simp at g9;have h:qB x=[x]:=zC om om om om;refine cl 322 [vp (l 0) 0,.int .u8 (x.toNat:Int)] (some 56) (8::0::0::1::0::2::0::gf 18 [2]) [0,0] (zc _ (l 0) (vp (l 0) 0) E (acc.length) c2 (IE acc) (x.toNat:Int) (.inr rfl) om) rfl ?_;rintro _ _ d m11 ⟨rfl,e,vd,rfl⟩;rw[show IE acc++[.int .u8 (x.toNat:Int)]=IE (acc++[x])from by rw[cf];rfl,show acc.length+1=(acc++[x]).length from by simp];refine zg<|(cq 11 23 [0,0] [0,3,4])<|(sv 3 (ag aD om))<|gz (az ⟨k2+1,acc++[x],e,vd,d⟩ ⟨dm,(R.trans m11),by dsimp only;rw[k8,f,h];rfl⟩ dm);have u:k2=s.size:=by have S:=aD;simp at S;omega
 refine rZ 4 [] [9,0] (λ _=>[(4,vp (l 0) 0)]) (λ _=>.av (l 0) 81 [vp (l 0) 0,vl E acc.length c2]::own 5 1 (vl E acc.length c2) acc.length (IE acc)::F) λ _=>cl 322 [vp (l 0) 0,.int .u8 34] (some 105) [9,1] [0,0] (zc _ (l 0) (vp (l 0) 0) E (acc.length) c2 (IE acc) 34 (.inr rfl) om) rfl ?_;rintro _ _ m m21 ⟨rfl,n,c21,rfl⟩;rw[show IE acc++[.int .u8 34]=IE (acc++[34])from by rw[cf];rfl,show acc.length+1=(acc++[34]).length from by simp];refine zg<|(dI 3 [10,0] [4])<|(cR [0,0] (Dg _ (l 0) (vp (l 0) 0) (vl n (acc++[34]).length c21) (acc++[34]))) λ eb cP=>(dI 2 [11] [2])<|G' (vs (sB (acc++[34]))) [] [] ⟨rfl,_,rfl,by rw[z1,f,u,<-bp s,JE];simp[fk]⟩;refine(aM 11 3 [0,0] [])<|(sv 3 (ag I om))<|lz (af ⟨k+1,ak⟩ ⟨dm,lq,by dsimp only;exact AM I p ah⟩ dm);have aO:k=s.size:=by have S:=I;simp at S;omega
 refine(gp 10 [3,1] [20])<|(sv 20 (show((k:Int)==s.size)=true from by simp;omega)) ?_;have hm:(⟨#[34]⟩:ao).size=1:=rfl;have B:=Jy (a:=(⟨#[34]⟩:ao)) (b:=s);refine(cq 4 0 [0,0,1] [21])<|(e5 (.binOp .add 9 (.const (vs ⟨#[34]⟩)) (.tmp 21) 9) [vs ⟨#[34]⟩,vs s] (v:=(vs (⟨#[34]⟩++s))) (ch om))<|(e5 (.binOp .add 9 (.tmp 22) (.const (vs ⟨#[34]⟩)) 9) [vs (⟨#[34]⟩++s),vs ⟨#[34]⟩] (v:=(vs ((⟨#[34]⟩++s)++⟨#[34]⟩))) (ch om))<|(cq 2 2 [1] [2])<|G' (vs ((⟨#[34]⟩++s)++⟨#[34]⟩)) [] [] ?_;refine⟨rfl,_,rfl,?_⟩;rw[aO,<-bp s,JE]at p;rw[eK,eK,fk,p];simp[bl]
theorem Ca: ∀N v,v.wt<=N->N<=68719476736-> ∀aa q,v.pr->ad aa (.ptr (dV v)) [vp q 0]->Sp 318 [vp q 0] [] aa (λ r M' _=>M'=[]/\ ∃s,r=vs s/\bl s=v.by):=by
 intro N;induction N with
 |zero=>intro v hv;have:=v.iP;omega
 |succ N af=>
  intro v hv hN aa q hp K;obtain⟨g,ar,T,fz,A,n,c,x1,a',x3,x4,x5,x6,L,hg,J,U⟩:=mu K;rw[L];clear K L;have O:=U.len;have aV:=v.o1;have ba:=v.kids.kl;have al:(iV v.kids).length=v.kids.list.length:=by rw[fr];simp
  have ah:=v.Cw;obtain⟨⟨bb,cD,aA⟩,aL⟩:=v.AV hp;have t:True/\((v.kind=3\/v.kind=4)->uX v.raw):=⟨trivial,aA⟩;refine aW Tryz.func318 λ F=>(eW hg J)<|(h5 25 [200] [3,0,1] [0,2,14,16])<|(iz 16 ((v.kind:Int)==0)) (λ q0=>?_) (λ q0=>?_);refine(rv 7 [0] 0 [0,0,4] [21]) ?_;exfalso;simp at q0;omega;refine(cq 7 0 [1,0,1] [0,2,14,23])<|(iz 23 ((v.kind:Int)==1)) (λ q1=>?_) (λ q1=>?_);refine(gK 11 [0] 2 [1,0,1] [])<|G' (vs v.raw) [] [0] ⟨rfl,_,rfl,by rw[ah];exact(h' (by simp at q0 q1;omega)).symm⟩;refine(aM 6 0 [1,1] [])<|(iz 23 ((v.kind:Int)==2)) (λ q2=>?_) (λ q2=>?_);refine(gK 11 [0] 4 [1,0,1] [])<|G' (vs v.raw) [] [0] ⟨rfl,_,rfl,by rw[ah];exact(h' (by simp at q0 q1 q2;omega)).symm⟩;refine(aM 6 0 [1,1] [])<|(iz 23 ((v.kind:Int)==7)) (λ q3=>?_) (λ q3=>?_);refine(gK 11 [0] 6 [1,0,1] [])<|G' (vs v.raw) [] [0] ⟨rfl,_,rfl,by rw[ah];exact(h' (by simp at q0 q1 q2 q3;omega)).symm⟩;refine(aM 6 0 [1,1] [])<|(iz 23 ((v.kind:Int)==5)) (λ Z=>?_) (λ Z=>?_);refine(gK 11 [0] 8 [1,0,1] [])<|G' (vs v.raw) [] [0] ⟨rfl,_,rfl,by rw[ah];exact(h' (by simp at q0 q1 q2 q3 Z;omega)).symm⟩;refine(aM 5 8 [1] [])<|(iz 23 ((v.kind:Int)==6)) (λ q5=>?_) (λ q5=>?_);refine(gK 9 [0] 0 [0,1] [])<|G' (vs v.raw) [] [0] ⟨rfl,_,rfl,by rw[ah];exact(h' (by simp at q0 q1 q2 q3 Z q5;omega)).symm⟩;refine(aM 7 0 [1,0,1] [33])<|(iz 33 ((v.kind:Int)==3)) (λ ae=>?_) (λ ae=>?_);refine(rv 9 [0] 2 [1,0,0,4] [39]) ?_;have g0:=q0;simp at g0;have g1:=q1;simp at g1;have g2:=q2;simp at g2;have g3:=q3;simp at g3;have g4:=Z;simp at g4;have g5:=q5;simp at g5;have g6:=ae;simp at g6;have aj:uX v.raw:=t.2 om;refine(cz [] (Cj _ v.raw aj om)) λ|_,_,ak,P,⟨rfl,s2,rfl,d⟩=>(cq 2 2 [1] [2])<|G' (vs s2) [] [0] ⟨rfl,_,rfl,by rw[ah,d];exact(uR om).symm⟩;refine(aM 5 2 [1] [])<|(iz 33 ((v.kind:Int)==4)) (λ q7=>?_) (λ q7=>?_);refine(rv 7 [0] 0 [0,0,4] [39]) ?_;have g0:=q0;simp at g0;have g1:=q1;simp at g1;have g2:=q2;simp at g2;have g3:=q3;simp at g3;have g4:=Z;simp at g4;have g5:=q5;simp at g5;have g6:=ae;simp at g6;have g7:=q7;simp at g7;have aj:uX v.raw:=t.2 om;refine(cz [] (Cj _ v.raw aj om)) λ|_,_,ak,P,⟨rfl,s2,rfl,d⟩=>(cq 2 2 [1] [2])<|G' (vs s2) [] [0] ⟨rfl,_,rfl,by rw[ah,d];exact(uR om).symm⟩;refine(aM 6 0 [1,1] [41])<|(iz 41 ((v.kind:Int)==8)) (λ H=>?_) (λ H=>?_);refine(rv 18 [100] 0 [0,1,1,0,0,0] [3,46,47,48]) ?_;have g0:=q0;simp at g0;have g1:=q1;simp at g1;have g2:=q2;simp at g2;have g3:=q3;simp at g3;have g4:=Z;simp at g4;have g5:=q5;simp at g5;have g6:=ae;simp at g6;have g7:=q7;simp at g7;have g8:=H;simp at g8;have ax:v.kids.pr false:=by rw[show false=(v.kind==9)from by simp;omega];exact aL
  refine(nz 9 1)<|(dz [1])<|(wz (ι:=LT) (λ i=>n-i.k) (λ i=>i.im) [46,47] (λ i=>[(3,vl i.A i.k i.c),(48,vi i.k)]) (λ i c=>sC 0 (own 9 1 (vl i.A i.k i.c) i.k (i.aY.map vs)) c) (λ i=>au.le aa i.im/\i.aY.length=i.k/\i.aY.map bl=(v.kids.jA false).take i.k) ⟨0,none,0,[],aa⟩ ⟨lq,rfl,rfl⟩) ?_;rintro⟨k,A1,D,aY,bd⟩ ⟨hle,an,f⟩ az;dsimp only at hle an f;refine(aM 4 1 [1] [49])<|(eX 49 k n) (λ I=>?_) (λ I=>?_);have e:k<v.kids.list.length:=by omega
  have ay:(iV v.kids)[k]?=some (.ptr (.st [tS v.kids.list[k].1,.ptr (dV v.kids.list[k].2),.any,.any])):=by rw[fr,HW,HH e];rfl
  obtain⟨g2,x,aQ,T2,a1,rfl,ab,W,p⟩:=(U.mono hle).dk ay;obtain⟨w,y1,bh,a6,T3,y,aE,aJ,h⟩:=ly ab;have aF:=v.kids.gA (HY e);have m:=Kids.lh ax (HY e);have l:=Kids.sA false v.kids e;refine(cP W (p))<|(eW aE aJ)<|(aM 6 1 [2,0,0,0] [])<|(xz oV I)<|(gK 9 [1,100] 2 [1,5] [52,56])<|(cz [] (af _ om om _ _ m.2 h)) ?_;rintro _ _ bk aN ⟨rfl,s2,rfl,d⟩;have R:=bp s2;rw[d]at R;have aK:=bo.fS v.kids.list[k].2;refine rZ 1 [] (3::0::gf 7 [0,1,1,0,0,2,0,1,7]) (λ G=>[(46,vl (sa g2 0) n c),(47,vi n),(48,vi k),(52,vl A1 k D),(58,vl (sa (G 0) 0) 1 1)]) (λ G=>.av (G 0) 9 [vs s2]::.ro x 0 [vs v.kids.list[k].1,vp w 0,y1,bh]::.ro g2 (k*1) [vp x 0]::own 9 1 (vl A1 k D) k (aY.map vs)::F) λ G=>bf.app (.tmp 52) (.tmp 58) 56 cY A1 k D (G 0) 1 1 9 (aY.map vs) [vs s2] 59 (3::0::gf 7 [0,1,1,0,0,2,0,1,8]) [3,0] rfl (rfl) (by simp[Value.oneCell']) om ?_;intro Q c3;rw[show((aY.map vs)++[vs s2])=(aY++[s2]).map vs from by simp];refine zg<|(cq 9 4 [0] [3,46,47,48])<|(sv 48 (ag I om))<|(dz [2,1])<|lz (az ⟨k+1,Q,c3,aY++[s2],bk⟩ ⟨lq,by simp[an],by dsimp only;rw[JH,f,Jk,l];simp[d,eK]⟩ dm);refine(cq 5 5 [2,1] [61]) ?_;have Y:k<=v.kids.list.length:=by have aU:=congrArg List.length f;rw[HX,Jt,Kids.kD]at aU;omega
  have aO:k=v.kids.list.length:=by have S:=I;simp at S;omega
  refine(fo 0 9 1 A1 k D (aY.map vs)) ?_;intro bk aN hf;have aw:=hj (E:=9) an.symm hf;have aT:=Kids.kD false v.kids;rw[Ir om]at f;have aB:=tZ f;have C:=Kids.x7 false v.kids;refine(cz [] (qt _ aY ⟨#[44]⟩ _ _ _ aw om dc)) ?_;rintro _ _ ai z ⟨rfl,s3,rfl,j⟩;have o:_<=aZ H0 aY*2:=dJ [44] aY;have aK:=bp s3;rw[j]at aK;have aq:ff (bl ⟨#[44]⟩) aY=IA (v.kids.jA false) [44]:=by unfold ff;rw[f]
  have aR:s3.size<=aZ H0 aY*2:=by rw[<-aK];exact o
  have M:(⟨#[91]⟩:ao).size=1:=rfl;have aI:(⟨#[93]⟩:ao).size=1:=rfl;have B:=Jy (a:=(⟨#[91]⟩:ao)) (b:=s3);refine(e5 (.binOp .add 9 (.const (vs ⟨#[91]⟩)) (.tmp 62) 9) [vs ⟨#[91]⟩,vs s3] (v:=(vs (⟨#[91]⟩++s3))) (ch om))<|(e5 (.binOp .add 9 (.tmp 63) (.const (vs ⟨#[93]⟩)) 9) [vs (⟨#[91]⟩++s3),vs ⟨#[93]⟩] (v:=(vs ((⟨#[91]⟩++s3)++⟨#[93]⟩))) (ch om))<|(cq 2 2 [3] [2])<|G' (vs ((⟨#[91]⟩++s3)++⟨#[93]⟩)) [] [] ⟨rfl,_,rfl,by rw[ah,eK,eK,j,aq];exact(xd om).symm⟩;refine(aM 6 0 [1,1] [65])<|(iz 65 ((v.kind:Int)==9)) (λ q9=>?_) (λ q9=>?_);refine(rv 18 [100] 0 [0,1,1,0,0,0] [6,70,71,72]) ?_;have g0:=q0;simp at g0;have g1:=q1;simp at g1;have g2:=q2;simp at g2;have g3:=q3;simp at g3;have g4:=Z;simp at g4;have g5:=q5;simp at g5;have g6:=ae;simp at g6;have g7:=q7;simp at g7;have g8:=H;simp at g8;have g9:=q9;simp at g9;have ax:v.kids.pr true:=by rw[show true=(v.kind==9)from by simp;omega];exact aL
  refine(nz 9 1)<|(dz [1])<|(wz (ι:=LT) (λ i=>n-i.k) (λ i=>i.im) [70,71] (λ i=>[(6,vl i.A i.k i.c),(72,vi i.k)]) (λ i c=>sC 0 (own 9 1 (vl i.A i.k i.c) i.k (i.aY.map vs)) c) (λ i=>au.le aa i.im/\i.aY.length=i.k/\i.aY.map bl=(v.kids.jA true).take i.k) ⟨0,none,0,[],aa⟩ ⟨lq,rfl,rfl⟩) ?_;rintro⟨k,A1,D,aY,bd⟩ ⟨hle,an,f⟩ az;dsimp only at hle an f;refine(aM 4 1 [1] [73])<|(eX 73 k n) (λ I=>?_) (λ I=>?_);have e:k<v.kids.list.length:=by omega
  have ay:(iV v.kids)[k]?=some (.ptr (.st [tS v.kids.list[k].1,.ptr (dV v.kids.list[k].2),.any,.any])):=by rw[fr,HW,HH e];rfl
  obtain⟨g2,x,aQ,T2,a1,rfl,ab,W,p⟩:=(U.mono hle).dk ay;obtain⟨w,y1,bh,a6,T3,y,aE,aJ,h⟩:=ly ab;have aF:=v.kids.gA (HY e);have m:=Kids.lh ax (HY e);have l:=Kids.sA true v.kids e;refine(cP W (p))<|(eW aE aJ)<|(aM 6 1 [2,0,0,0] [])<|(xz oV I) ?_;refine rZ 3 [1] (3::0::gf 9 [0,1,1,0,0,2,0,1]) (λ _=>[(6,vl A1 k D),(8,vp x 0),(70,vl (sa g2 0) n c),(71,vi n),(72,vi k)]) (λ _=>.ro x 0 [vs v.kids.list[k].1,vp w 0,y1,bh]::.ro g2 (k*1) [vp x 0]::own 9 1 (vl A1 k D) k (aY.map vs)::F) λ _=>dr (3::0::gf 9 [0,1,1,0,0,2,0,1,16]) 15 ?_;refine cr [0,1,2,3,4,6,7,8,9] [0,100] [9,8,7,6,4,3,2,1,0] [5,10,11,12,13,14] [(6,vl A1 k D),(8,vp x 0),(70,vl (sa g2 0) n c),(71,vi n),(72,vi k),(76,vl A1 k D),(77,vp x 0),(78,vp x 0),(79,vp x 0),(80,vs v.kids.list[k].1),(85,vp w 0)] ?_;have hm:(⟨#[58]⟩:ao).size=1:=rfl;have B:=Jy (a:=v.kids.list[k].1) (b:=(⟨#[58]⟩:ao));refine wI 5 (.binOp .add 9 (.tmp 80) (.const (vs ⟨#[58]⟩)) 9) [vs v.kids.list[k].1,vs ⟨#[58]⟩] (vs (v.kids.list[k].1++⟨#[58]⟩)) (some 81) [5,9,8,7,6,4,3,2,1,0] [10,11,12,13,14] (ch om) ?_;refine on 10 ?_;refine ec 10 318 [vp w 0] (some 86) [] [5,4,3,2,1,0] [11,12,13,14] (af _ om om _ _ m.2 h) rfl ?_;rintro _ _ bk aN ⟨rfl,s2,rfl,d⟩;refine Gw 5 (.binOp .add 9 (.tmp 80) (.const (vs ⟨#[58]⟩)) 9) [vs v.kids.list[k].1,vs ⟨#[58]⟩] (vs (v.kids.list[k].1++⟨#[58]⟩)) 81 (ch om) [(4,0),(3,0),(2,0),(1,0),(0,0)] ?_;have R:=bp s2;rw[d]at R;have aK:=bo.fS v.kids.list[k].2;refine wI 11 (.binOp .add 9 (.tmp 81) (.tmp 86) 9) [vs (v.kids.list[k].1++⟨#[58]⟩),vs s2] (vs ((v.kids.list[k].1++⟨#[58]⟩)++s2)) (some 87) [11,5,4,3,2,1,0] [12,13,14] (ch om) ?_;refine on 12 ?_;refine ex 12 0 [0] [13,14] (λ u=>[(6,vl A1 k D),(70,vl (sa g2 0) n c),(71,vi n),(72,vi k),(76,vl A1 k D),(88,vl (sa (u 0) 0) 1 1)]) (λ u=>.av (u 0) 9 [vs ((v.kids.list[k].1++⟨#[58]⟩)++s2)]::.ro x 0 [vs v.kids.list[k].1,vp w 0,y1,bh]::.ro g2 (k*1) [vp x 0]::own 9 1 (vl A1 k D) k (aY.map vs)::F) λ u=>im [(0,0)] ?_;refine on 13 ?_;refine kC.app 13 (.tmp 76) (.tmp 88) 56 cY A1 k D (u 0) 1 1 9 (aY.map vs) [vs ((v.kids.list[k].1++⟨#[58]⟩)++s2)] 89 [] [14] [3,0] rfl (rfl) (by simp[Value.oneCell']) om λ Q c3=>im [] ?_;rw[show((aY.map vs)++[vs ((v.kids.list[k].1++⟨#[58]⟩)++s2)])=(aY++[((v.kids.list[k].1++⟨#[58]⟩)++s2)]).map vs from by simp];refine on 14 ?_;refine ex 14 0 [] [] (λ _=>[(6,vl Q (k+1) c3),(70,vl (sa g2 0) n c),(71,vi n),(72,vi k)]) (λ _=>own 9 1 (vl Q (k+1) c3) (k+1) ((aY++[((v.kids.list[k].1++⟨#[58]⟩)++s2)]).map vs)::.ro x 0 [vs v.kids.list[k].1,vp w 0,y1,bh]::.ro g2 (k*1) [vp x 0]::F) λ _=>im [] ?_;refine eS.fin ?_;refine zg<|(cq 7 4 [0] [6,70,71,72])<|(sv 72 (ag I om))<|(dz [2,1])<|lz (az ⟨k+1,Q,c3,aY++[((v.kids.list[k].1++⟨#[58]⟩)++s2)],bk⟩ ⟨lq,by simp[an],by dsimp only;rw[JH,f,Jk,l];simp[d,eK]⟩ dm);refine(cq 5 5 [2,1] [91]) ?_;have Y:k<=v.kids.list.length:=by have aU:=congrArg List.length f;rw[HX,Jt,Kids.kD]at aU;omega
  have aO:k=v.kids.list.length:=by have S:=I;simp at S;omega
  refine(fo 0 9 1 A1 k D (aY.map vs)) ?_;intro bk aN hf;have aw:=hj (E:=9) an.symm hf;have aT:=Kids.kD true v.kids;rw[Ir om]at f;have aB:=tZ f;have C:=Kids.x7 true v.kids;refine(cz [] (qt _ aY ⟨#[44]⟩ _ _ _ aw om dc)) ?_;rintro _ _ ai z ⟨rfl,s3,rfl,j⟩;have o:_<=aZ H0 aY*2:=dJ [44] aY;have aK:=bp s3;rw[j]at aK;have aq:ff (bl ⟨#[44]⟩) aY=IA (v.kids.jA true) [44]:=by unfold ff;rw[f]
  have aR:s3.size<=aZ H0 aY*2:=by rw[<-aK];exact o
  have M:(⟨#[123]⟩:ao).size=1:=rfl;have aI:(⟨#[125]⟩:ao).size=1:=rfl;have B:=Jy (a:=(⟨#[123]⟩:ao)) (b:=s3);refine(e5 (.binOp .add 9 (.const (vs ⟨#[123]⟩)) (.tmp 92) 9) [vs ⟨#[123]⟩,vs s3] (v:=(vs (⟨#[123]⟩++s3))) (ch om))<|(e5 (.binOp .add 9 (.tmp 93) (.const (vs ⟨#[125]⟩)) 9) [vs (⟨#[123]⟩++s3),vs ⟨#[125]⟩] (v:=(vs ((⟨#[123]⟩++s3)++⟨#[125]⟩))) (ch om))<|(cq 2 2 [3] [2])<|G' (vs ((⟨#[123]⟩++s3)++⟨#[125]⟩)) [] [] ⟨rfl,_,rfl,by rw[ah,eK,eK,j,aq];exact(y2 om).symm⟩;refine(aM 2 0 [1,0] []) ?_;exfalso;simp at q0 q1 q2 q3 Z q5 ae q7 H q9;omega
theorem rb{x}(h:ea x=true):65<=x.toNat/\x.toNat<=122:=by
 unfold ea at h;simp only[Bool.or_eq_true,Bool.and_eq_true,decide_eq_true_eq,beq_iff_eq]at h;rcases h with(rfl|h)|h
 exact⟨by decide,by decide⟩;omega;omega
theorem xB{x}(h:dj x=true):48<=x.toNat/\x.toNat<=122:=by
 unfold dj at h;have:=of_decide_eq_true h;unfold j6 at this;omega
theorem sE{s}(h:gB s):bl s≠[]/\ ∀x∈bl s,32<x.toNat/\x.toNat<127:=by
 obtain⟨x,r,G,H,S⟩:=h;rw[G];refine⟨by simp,λ y hy=>?_⟩;rcases G6.1 hy with rfl|hy
 have:=rb H;omega;have:=xB (S y hy);omega
theorem oC{s}(N:bl s≠[])(h: ∀x∈bl s,32<x.toNat/\x.toNat<127):j7 s:=by
 refine⟨(bl s).head N,(bl s).getLast N,List.head?_eq_some_head N,List.getLast?_eq_some_getLast N,?_⟩;have G:=h _ (List.head_mem N);have H:=h _ (List.getLast_mem N);exact⟨G.1,G.2,H.1,H.2⟩
theorem bK{s}(h:gB s):j7 s:=oC (sE h).1 (sE h).2
theorem eg.FH: ∀t:eg,t.pr->t.by≠[]/\ ∀x∈t.by,32<x.toNat/\x.toNat<127
 | .named n nn,h=>by
  have G:=sE (s:=n) h;refine⟨by simp[eg.by,G.1],λ x L=>?_⟩;rcases HM.1 L with L|L
  exact G.2 x L;cases nn<;>simp[yc]at L;subst L;decide
 | .list t nn,h=>by
  have G:=eg.FH t h;refine⟨by simp[eg.by],λ x L=>?_⟩;simp only[eg.by,G6,HM]at L;rcases L with rfl|L|rfl|L
  decide;exact G.2 x L;decide;cases nn<;>simp[yc]at L;subst L;decide
theorem ve{t:eg}{s}(h:t.pr)(aJ:bl s=t.by):j7 s:=oC (by rw[aJ];exact(eg.FH t h).1) (by rw[aJ];exact(eg.FH t h).2)
theorem jD{α:Type}{l:List α}{k}(h:k<l.length):(l.drop k).isEmpty=false:=by
 rw[JI];intro e;have:=congrArg List.length e;simp at this;omega
theorem jB{α:Type}{l:List α}{k}(h:l.length<=k):(l.drop k).isEmpty=true:=by
 rw[Jh h];rfl
theorem kZ{s:ao}(h:s.size=0):s=⟨#[]⟩:=by
 apply ByteArray.ext;exact Array.eq_empty_of_size_eq_zero h
theorem CU: ∀aa f b v st m n x,Fo st m n->Sp 270 [vp f 0,x] [aF f b v st] aa (FW f b (st) m (n) uT):=by
 intro aa f b v st m n x h;refine aW Tryz.func270 λ F=>(uy 0 f b v st) ?_;rintro p1 A1 D C l;(try subst C);refine(ra 14 [0] [0,1,0] []) λ _=>(mS st l)<|ez 0 (.tuple #[]) [aF f b (vl A1 (FS.out st).length D) st] [] lq ⟨rfl,_,_,rfl,h,rfl⟩
theorem gJ{aa}{f b}{v}{st}{m n}x(h:Fo st m n):Sp 270 [vp f 0,x] [aF f b v st] aa (FW f b (st) m (n) uT):=CU aa f b v st m n x h
theorem D4: ∀aa f b v st m n a q,Fo st m n->n+4000*a.wt<=70368744177664->U8 aa->a.pr->ad aa (eP a) [vp q 0]->Sp 312 [vp f 0,vp q 0] [aF f b v st] aa (FW f b (st.ld m a) m (n+4000*a.wt) uT):=by
 intro aa f b v st m n a q h hb an hp V;obtain⟨g,ar,T,fz,q2,x3,x4,L,hg,J,hv,_,_⟩:=oL V;rw[L];clear L V;have hw:a.wt=1+a.name.size+a.v.wt:=rfl;refine aW Tryz.func312 λ F=>?_
 refine eW hg J ?_;refine(ra 7 [300] [0,5] [0,1,4,8]) λ _=>(cz (M:=[aF f b v st]) [1] (gJ x4 h)) ?_;rintro _ _ ak P ⟨rfl,v1,s1,aw,G,rfl⟩;refine(ra 8 [1] [1,5] [0,1,10,14]) λ _=>(cz (M:=[aF f b v1 s1]) [0] (b9 a.name (a.name.size) rfl G om (an.mono P) (bK hp.1))) ?_;rintro _ _ aB aA ⟨rfl,v2,s2,az,H,rfl⟩;refine(cz (M:=[aF f b v2 s2]) [0] (nh H)) ?_;rintro _ _ j3 l3 ⟨rfl,v3,s3,e3,S,rfl⟩;refine(cz (M:=[aF f b v3 s3]) [0] (g_ (⟨#[58]⟩:ao) 1 rfl S om)) ?_;rintro _ _ j4 l4 ⟨rfl,v4,s4,aS,Y,rfl⟩;refine(cz (M:=[aF f b v4 s4]) [0] (mI Y)) ?_;rintro _ _ bc a7 ⟨rfl,v5,s5,o,aI,rfl⟩;refine rZ 7 [101] [2,5] (λ _=>[(19,vp f 0),(23,vp q2 0)]) (λ _=>aF f b v5 s5::.ro g 0 [vs a.name,vp q2 0,x3,x4]::F) ?_;intro _;refine cl 318 [vp q2 0] (some 24) [2,6] [] (Ca _ a.v (HZ _) om _ _ hp.2 (hv.mono ((((P.trans aA).trans l3).trans l4).trans a7))) rfl ?_;rintro _ _ j6 l6 ⟨rfl,s6,rfl,c⟩;have bf:=bp s6;rw[c]at bf;have d:=bo.fS a.v;refine cl 276 [vp f 0,vs s6] (some 25) [2,7] [0] (g_ s6 (s6.size) rfl aI om) rfl ?_;rintro _ _ j7 l7 ⟨rfl,v7,s7,I,aU,rfl⟩;refine zg ?_;refine(ra 1 [] [2,8] []) λ _=>ez 0 (.tuple #[]) [aF f b v7 s7] [1] ((((((P.trans aA).trans l3).trans l4).trans a7).trans l6).trans l7) ?_;exact⟨rfl,_,_,by subst aw;subst az;subst e3;subst aS;subst o;subst I;rw[show s6.data.toList=_ from c];rfl,aU.mono om,rfl⟩
theorem En: ∀aa f b v st m n l A k0 c,Fo st m n->n+2000+4000*aZ bT.wt l<=70368744177664->U8 aa->(∀a∈l,a.pr)->ad aa (.sl (l.map eP)) [vl A k0 c]->Sp 301 [vp f 0,vl A k0 c] [aF f b v st] aa (FW f b (st.jr m l) m (n+2000+4000*aZ bT.wt l) uT):=by
 intro aa f b v st m n l A k0 c h hb an hp V;have O:=V.len;rw[HX]at O;have hl:=ax bT.wt l;refine aW Tryz.func301 λ F=>?_
 refine(ra 7 [] [0,1] [0,1,8]) λ _=>(iz 8 ((k0:Int)==0)) (λ N=>?_) (λ N=>?_);have N:l=[]:=HI (by have S:=N;simp at S;omega);refine(rv 1 [] 0 [0] [])<|ez 0 (.tuple #[]) [aF f b v st] [] (au.le.refl _) ?_;exact⟨rfl,_,_,by rw[N];rfl,h.mono om,rfl⟩;have N:l.isEmpty=false:=by rw[JI];rintro rfl;have S:=N;simp at S O;omega
 have C:0<l.length:=by cases l with|nil=>simp at N|cons x r=>simp
 refine(ra 5 [] [1,1] [0,1,9]) λ _=>(cz (M:=[aF f b v st]) [0] (nh h)) ?_;rintro _ _ ak P ⟨rfl,v1,s1,aw,G,rfl⟩;refine(cz (M:=[aF f b v1 s1]) [0] (g_ (⟨#[40]⟩:ao) 1 rfl G om)) ?_;rintro _ _ aB aA ⟨rfl,v2,s2,az,H,rfl⟩;refine(ra 11 [] [2,1,0,0,0] [0,1,12,13,14]) λ _=>(wz (ι:=LF) (λ i=>k0-i.k) (λ i=>i.im) [0,1,12,13] (λ i=>[(14,vi (i.k:Int))]) (λ i c=>sC 0 (aF f b i.v i.s) c) (λ i=>au.le aB i.im/\FS.e1 m i.s (l.drop i.k)=FS.e1 m s2 l/\Fo i.s m i.n/\i.n+4000*aZ bT.wt (l.drop i.k)<=n+200+1+4000*aZ bT.wt l) ⟨0,v2,s2,n+200+1,aB⟩ ⟨au.le.refl _,rfl,H,HZ _⟩) ?_;rintro⟨k3,v3,s3,n3,E⟩ ⟨z,e,S,g⟩ j;dsimp only at z e S g;refine(rv 4 [] 1 [1] [0,1,12,13,14,15])<|(iz 15 (decide ((k3:Int)<k0))) (λ B=>?_) (λ B=>?_);have B:k3<k0:=by simpa using B
 have D:k3<l.length:=by omega
 have u:(l.map eP)[k3]?=some (eP l[k3]):=by rw[HW,HH D];rfl
 obtain⟨g3,q3,a6,T3,y,rfl,p,aE,aJ⟩:=ad.dk (d:=_) (V.mono ((P.trans aA).trans z)) (show(l.map eP)[k3]?=some (.ptr _)from u);have q:=Jg D;rw[q]at e g;simp only[FS.e1,aZ]at e g;refine cP aE (aJ) ?_;refine(rv 7 [] 1 [2,0,0,1] [0,1,12,13,14,16])<|(xz uH B)<|(rv 8 [0] 2 [1,2] [0,1,4,12,13,14,19,20])<|(cz (M:=[aF f b v3 s3]) [1] (D4 _ f b _ _ _ _ l[k3] _ S om (an.mono ((P.trans aA).trans z)) (hp _ (HY D)) p)) ?_;rintro _ _ j4 l4 ⟨rfl,v4,s4,aS,Y,rfl⟩;refine rZ 9 [] [2,1,0,0,2,0,3] (λ _=>[(0,vp f 0),(1,vl (sa g3 0) k0 c),(12,vl (sa g3 0) k0 c),(13,vi k0),(14,vi k3),(26,vb ((k3:Int) !=(aj ((k0:Int)-1))))]) (λ _=>aF f b v4 s4::.ro g3 (k3*1) [vp q3 0]::F) ?_;intro _;rw[show(aj ((k0:Int)-1))=((k0:Int)-1)from b_ om om];refine it 26 ((k3:Int) !=(((k0:Int)-1))) (λ J=>?_) (λ J=>?_);have t:(l.drop (k3+1)).isEmpty=false:=jD (by have S:=J;simp at S;omega);rw[t,if_neg sm]at e;refine zg ?_;refine(rv 3 [] 0 [0,1] [0,1,12,13,14,27])<|(cz (M:=[aF f b v4 s4]) [0] (nh Y)) ?_;rintro _ _ bc a7 ⟨rfl,v5,s5,o,aI,rfl⟩;refine(cz (M:=[aF f b v5 s5]) [0] (b9 (⟨#[44]⟩:ao) 1 rfl aI om (an.mono ((((P.trans aA).trans z).trans l4).trans a7)) (aT dc))) ?_;rintro _ _ j6 l6 ⟨rfl,v6,s6,e6,h6,rfl⟩;refine(rv 8 [] 5 [0] [0,1,12,13,14])<|(sv 14 (ag B om))<|(dz [1]) ?_;exact lz (j ⟨k3+1,v6,s6,_,j6⟩ ⟨(((z.trans l4).trans a7).trans l6),by rw[e6,o,aS];exact e,h6,by dsimp only;omega⟩ dm);have t:(l.drop (k3+1)).isEmpty=true:=jB (by have S:=J;simp at S;omega);rw[t,if_pos rfl]at e;refine zg ?_;refine(rv 9 [] 3 [0] [0,1,12,13,14])<|(sv 14 (ag B om))<|(dz [1]) ?_;exact lz (j ⟨k3+1,v4,s4,_,j4⟩ ⟨(z.trans l4),by rw[aS];exact e,Y,by dsimp only;omega⟩ dm);have w: ¬k3<k0:=by simpa using B
 rw[Jh om]at e g;simp only[FS.e1,aZ]at e g;refine(ra 4 [] [3,1] [31]) λ _=>(cz (M:=[aF f b v3 s3]) [0] (g_ (⟨#[41]⟩:ao) 1 rfl S om)) ?_;rintro _ _ j7 l7 ⟨rfl,v7,s7,I,aU,rfl⟩;refine(cz (M:=[aF f b v7 s7]) [0] (mI aU)) ?_;rintro _ _ j8 aP ⟨rfl,v8,s8,e8,h8,rfl⟩;refine(ra 1 [] [3,4] []) λ _=>ez 0 (.tuple #[]) [aF f b v8 s8] [] ((((P.trans aA).trans z).trans l7).trans aP) ?_;exact⟨rfl,_,_,by subst aw;subst az;subst e;subst I;subst e8;simp only[FS.jr,N];(try rfl),h8.mono om,rfl⟩
theorem Ek: ∀aa f b v st m n d q,Fo st m n->n+4000*d.wt<=70368744177664->U8 aa->d.pr->ad aa (ig d) [vp q 0]->Sp 288 [vp f 0,vp q 0] [aF f b v st] aa (FW f b (st.dir m d) m (n+4000*d.wt) uT):=by
 intro aa f b v st m n d q h hb an hp V;obtain⟨g,ar,T,fz,E,n2,c2,x3,x4,x5,x6,L,hg,J,hv,_⟩:=qY V;rw[L];clear L V;have hw:d.wt=1+d.name.size+aZ bT.wt d.args:=rfl;refine aW Tryz.func288 λ F=>?_
 refine(eW hg J)<|(ra 1 [] [0] [0,1]) λ _=>(qz)<|(kz [0,1,2,4] [0] [0,1,4,6,7,8,9])<|(bj (M:=[aF f b v st]) [1] (g_ (⟨#[64]⟩:ao) 1 rfl h om)) λ|_,_,ak,P,⟨rfl,v1,s1,aw,G,rfl⟩=>(aG [5,1])<|(bj (M:=[aF f b v1 s1]) [0] (b9 d.name (d.name.size) rfl G om (an.mono P) (bK hp.1))) λ|_,_,aB,aA,⟨rfl,v2,s2,az,H,rfl⟩=>(aG [])<|(bL)<|(ra 6 [101] [1,5] [11,15]) λ _=>(cF v2 [0] (En _ f b _ _ _ _ d.args _ _ _ H om (an.mono lq) hp.2 (hv.mono lq))) λ j3 l3 v3 s3 e3 S=>(ra 1 [] [1,7] []) λ _=>ez 0 (.tuple #[]) [aF f b v3 s3] [1] lq ⟨rfl,_,_,by subst aw az e3;rfl,S.mono om,rfl⟩
theorem kn: ∀aa f b v st m n l A k0 c,Fo st m n->n+4000*aZ cB.wt l<=70368744177664->U8 aa->(∀a∈l,a.pr)->ad aa (.sl (l.map ig)) [vl A k0 c]->Sp 274 [vp f 0,vl A k0 c] [aF f b v st] aa (FW f b (FS.ah m st l) m (n+4000*aZ cB.wt l) uT):=by
 intro aa f b v st m n l A k0 c h hb an hp V;have O:=V.len;rw[HX]at O;have hl:=ax cB.wt l;refine aW Tryz.func274 λ F=>(ra 7 [] [0,1] [0,1,8]) λ _=>(iz 8 ((k0:Int)==0)) (λ N=>?_) (λ N=>?_);have N:l=[]:=HI (by have S:=N;simp at S;omega);refine(rv 1 [] 0 [0] [])<|ez 0 (.tuple #[]) [aF f b v st] [] lq ⟨rfl,_,_,by rw[N];rfl,h.mono om,rfl⟩;refine(ra 11 [] [2,0,0,0] [0,9,10,11]) λ _=>(wz (ι:=LF) (λ i=>k0-i.k) (λ i=>i.im) [0,9,10] (λ i=>[(11,vi i.k)]) (λ i c=>sC 0 (aF f b i.v i.s) c) (λ i=>au.le aa i.im/\FS.ah m i.s (l.drop i.k)=FS.ah m st l/\Fo i.s m i.n/\i.n+4000*aZ cB.wt (l.drop i.k)<=n+4000*aZ cB.wt l) ⟨0,v,st,n,aa⟩ ⟨lq,rfl,h,HZ _⟩) ?_;rintro⟨k1,v1,s1,n1,C⟩ ⟨L,e,G,g⟩ r;dsimp only at L e G g;refine(rv 4 [] 1 [1] [0,9,10,11,12])<|(eX 12 k1 k0) (λ w=>?_) (λ u=>?_);have t:k1<l.length:=by omega
 have j:(l.map ig)[k1]?=some (ig l[k1]):=by rw[HW,HH t];rfl
 obtain⟨g1,q1,B,D,z,rfl,o,y,q⟩:=ad.dk (d:=_) (V.mono L) (show(l.map ig)[k1]?=some (.ptr _)from j);have p:=Jg t;rw[p]at e g;simp only[FS.ah,aZ]at e g;refine(cP y (q))<|(rv 6 [] 1 [2,0,0,0] [0,9,10,11])<|(xz wP w)<|(rv 6 [0] 2 [1,2] [0,9,10,11,15,16])<|(cF v1 [1] (Ek _ f b _ _ _ _ l[k1] _ G om (an.mono L) (hp _ (HY t)) o)) λ aB aA v2 s2 az H=>(rv 8 [] 4 [0] [0,9,10,11])<|(sv 11 (ag w om))<|(dz [1])<|lz (r ⟨k1+1,v2,s2,_,aB⟩ ⟨lq,by rw[az];exact e,H,dm⟩ dm);rw[Jh om]at e g;simp only[FS.ah,aZ]at e g;refine(ra 2 [] [2,2] []) λ _=>ez 0 (.tuple #[]) [aF f b v1 s1] [] L ⟨rfl,_,_,by subst e;(try rfl),G.mono om,rfl⟩
end
section
open Go.RowKit
variable[OO]
section
variable{f:FuncId}{fn:Func}{R:Ending->World->Prop}{D:List Deferred}{aa:au}{path:List Nat}{env:Ev}{cs:List Chunk}
theorem nu{w}{v}{l}(h:w.ownsRow 0 5 1 v l.length (IE l)):(convert 79 9 v).run HB w=.ok (vs (sB l)) w:=by
 rcases h.2 with⟨rfl,hz⟩|⟨g,cap,cur,rfl,_,hg,R,f,K,k8⟩
 have hl:l=[]:=HI hz;subst hl;exact Lib.run_convert_nil_bytes w 79 9 5 0 u' u5 u9;exact run_convert_bytes_back (P:=HB) w 79 9 5 ⟨g,0,none⟩ cap l u' u5 u9 (Lib.bytes_of_row hg (by rw[<-Nat.mul_one l.length];exact k8))
theorem Gx(i:Nat)(x:Operand){v:Value}{l:List UInt8}(d:Nat)(ak:List Nat)(J:cs[i]?=some (own 5 1 v l.length (IE l)))
 (k:bf HB f fn R D aa ak ((d,vs (sB l))::env) cs)
 (N: ∀u,(cj fn.ntmps (bI (bd fn) path []) env).map (λ q=>(q.1.op,bB u env x,q.1.dst,q.2))=some (.convert 79 9 x,v,some d,bI (bd fn) ak []):=by intros;kernel_rfl):
 bf HB f fn R D aa path env cs:=by
 have a:=N (λ _=>undef);cases ho:cj fn.ntmps (bI (bd fn) path []) env with
 |none=>rw[ho]at a;cases a
 |some q=>
  obtain⟨op,B⟩:=q;have H: ∀u,op.op=.convert 79 9 x/\bB u env x=v/\op.dst=some d/\B=bI (bd fn) ak []:=by
   intro u;have h:=N u;rw[ho]at h;simp at h;exact h
  obtain⟨aw,_,az,rfl⟩:=H (λ _=>undef);refine lu.op (Q:=λ v' C M=>v'=vs (sB l)/\C=aa/\M=cs) ho (λ u w hw=>?_) ?_;have Z:=iM (hw.ok _ (GZ J));refine⟨_,w,aa,_,?_,lq,hw,rfl,rfl,rfl⟩;unfold execOp;simp[aw,(H u).2.1,go_sem,nu Z];rintro v' C M _ ⟨rfl,rfl,rfl⟩;rw[az];exact k
end
end
end Go.Proofs.YtdpmeahgjjmdiaaGreatDoor
