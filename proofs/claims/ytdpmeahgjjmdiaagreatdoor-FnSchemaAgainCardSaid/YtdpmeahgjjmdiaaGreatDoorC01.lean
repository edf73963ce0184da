/- Part of the proof that laws.FnSchemaAgain answers true. Conditions: none. -/
import Derived.Maps.AppendAt
import Derived.Deep.AppendSrc
import Derived.Test.YtdpmeahgjjmdiaaGreatDoorC00
set_option linter.all false
open Go.IntKind renaming wrap->HK
open Go.Proofs.Tryz renaming prog->HB
open Bool renaming true_and->HL
open Nat renaming add_mul->HJ,eq_of_beq_eq_true->G2,le_mul_of_pos_right->HP,lt_or_ge->Hh,succ_mul->HS,zero_add->HR,zero_le->HD
open List renaming eq_nil_of_length_eq_zero->HI,flatMap_cons->G0,flatten_cons->HQ,getElem?_eq_getElem->HH,getElem?_eq_none->Hp,getElem?_map->HW,getElem?_take->HN,length_append->HT,map_cons->HF,map_map->Hz,map_nil->HG,map_toArray->HO,mem_append->HM,mem_cons->G6,mem_flatMap->Ha,mem_map->Hy,mem_singleton->HC,nodup_append->Hq,size_toArray->HU,take_left->HV
open Array renaming getElem?_eq_none->HE
open Option renaming bind_some->Hl,isSome_iff_exists->HA,map_some->Hd
open Option.some renaming injEq->G8
open Prod.mk renaming injEq->He
namespace Go.Proofs.YtdpmeahgjjmdiaaGreatDoor
open Go
variable[OO]
abbrev vp(b o:Nat):Value:=.pointer (some ⟨b,o,none⟩)
abbrev vq(a:Option Addr):Value:=.pointer a
abbrev vi(n:Int):Value:=.int .i64 n
abbrev vs(s:ByteArray):Value:=.string s
abbrev vb(b:Bool):Value:=.bool b
abbrev vl(a:Option Addr)(n c:Nat):Value:=.slice a n c
abbrev vz:Value:=.slice none 0 0
abbrev vf(f:Nat)(cs:Array Value):Value:=.func (.func f) #[] cs
abbrev sa(b o:Nat):Option Addr:=some ⟨b,o,none⟩
abbrev aj(n:Int):Int:=HK .i64 n
section
variable{f:FuncId}{fn:Func}{R:Ending->World->Prop}{D:List Deferred}{aa:au}{path ak:List Nat}{X rem:List Nat}{env:Ev}{cs:List Chunk}
theorem Bc{g:FuncId}{args:List Value}{M:List Chunk}{ca:Value->List Chunk->au->Prop}(hf:HB.funcs[g]?=some fn)
 (h: ∀F,bf HB g fn (SR aa F ca) [] aa [] (kv 0 args) (M++F)) (hb:fn.body=some (bd fn):=by kernel_rfl) (O:Nat.ble args.length fn.ntmps=true:=by kernel_rfl):Sp g args M aa ca:=
 Spec.body hf hb O h
theorem rn(m:Nat)(aJ:List Nat)(ak:List Nat)(b:(Nat->Nat)->Ev)(M:(Nat->Nat)->List Chunk)
 (k: ∀g,bf HB f fn R D aa ak (b g) (M g))
 (G: ∀u g,(exec HB fn.ntmps u g m aJ (bI (bd fn) path []) env cs 0 []).map (λ o=>(o.todo,(b g).map (λ x=>look o.env x.1),o.cs))=some (bI (bd fn) ak [],(b g).map (λ x=>some x.2),M g):=by intros;kernel_rfl)
 (H: ∀u g,(exec HB fn.ntmps u g m aJ (bI (bd fn) path []) env cs 0 []).map (λ o=>o.es.map (·.1))=(exec HB fn.ntmps u g m aJ (bI (bd fn) path []) env cs 0 []).map (λ o=>o.es.map (·.2)):=by intros;kernel_rfl):
 bf HB f fn R D aa path env cs:=bf.run m aJ ak b M G H k
theorem cl(g:FuncId)(args:List Value)(d:Option Nat)(ak:List Nat)(is:List Nat){M rest:List Chunk}{ca:Value->List Chunk->au->Prop}
 (E:Sp g args M aa ca) (hp:bF is cs=some (M,rest))
 (k: ∀v M' C,au.le aa C->ca v M' C->bf HB f fn R D C ak (dF d v env) (M'++rest))
 (G: ∀u,(cj fn.ntmps (bI (bd fn) path []) env).bind (λ x=>(pv HB (execOp (bB u env) x.1)).map λ y=>(y,x.1.dst,x.2))=some (.enter g args.toArray,d,bI (bd fn) ak []):=by intros;kernel_rfl):
 bf HB f fn R D aa path env cs:=bf.call g args d ak is G E hp k
theorem rt{gI:au}{F:List Chunk}{ca:Value->List Chunk->au->Prop}(hf:HB.funcs[f]?=some fn)(hint:Nat)(v:Value)(M':List Chunk)
 (is:List Nat) {dropped:List Chunk} (hp:bF is cs=some (dropped,M'++F)) (hl:au.le gI aa) (k:ca v M' aa)
 (N:jx (bI (bd fn) path [])=true:=by kernel_rfl)
 (G: ∀u,(lx HB (bq [hint]) (fJ fn λ t=>bB u env (.tmp t)) 0 cs []).map (·.1)=some v:=by intros;kernel_rfl)
 (H: ∀u,(lx HB (bq [hint]) (fJ fn λ t=>bB u env (.tmp t)) 0 cs []).map (·.2.map (·.1))=(lx HB (bq [hint]) (fJ fn λ t=>bB u env (.tmp t)) 0 cs []).map (·.2.map (·.2)):=by intros;kernel_rfl):
 bf HB f fn (SR gI F ca) [] aa path env cs:=bf.FG hf hint v M' N G H is hp hl k
theorem it(t:Nat)(c:Bool)(k1:c=true->bf HB f fn R D aa path ((t,.bool true)::env) cs)(k2:c=false->bf HB f fn R D aa path ((t,.bool false)::env) cs)
 (B:look env t=some (.bool c):=by kernel_rfl):bf HB f fn R D aa path env cs:=bf.ite t B k1 k2
theorem Bm(t:Nat)(c:Bool)(k1:c=true->eS HB f fn R D aa path ak X rem ((t,.bool true)::env) cs)(k2:c=false->eS HB f fn R D aa path ak X rem ((t,.bool false)::env) cs)
 (B:look env t=some (.bool c):=by kernel_rfl):eS HB f fn R D aa path ak X rem env cs:=eS.ite t B k1 k2
theorem va(o:Op)(vs:List Value)(v:Value)(d:Option Nat)(ak:List Nat)(J:h3 HB o vs v)
 (k:bf HB f fn R D aa ak (dF d v env) cs)
 (G: ∀u,(cj fn.ntmps (bI (bd fn) path []) env).map (λ x=>(x.1.op,x.1.op.operands.toList.map (bB u env),x.1.dst,x.2))=some (o,vs,d,bI (bd fn) ak []):=by intros;kernel_rfl):
 bf HB f fn R D aa path env cs:=bf.val o vs v d ak J G k
theorem wI(i:Nat)(o:Op)(vs:List Value)(v:Value)(d:Option Nat)(F p:List Nat)(J:h3 HB o vs v)
 (k:eS HB f fn R D aa path ak F p (dF d v env) cs)
 (hX:F=i::X:=by kernel_rfl) (z:p=rem.erase i:=by kernel_rfl) (hm:(rem.contains i&&!dE (aI fn path) i&&jf (eV (aI fn path)) i rem)=true:=by kernel_rfl)
 (G: ∀u,(fK fn.ntmps (aI fn path) env i).map (λ x=>(x.op,x.op.operands.toList.map (bB u env),x.dst))=some (o,vs,d):=by intros;kernel_rfl):
 eS HB f fn R D aa path ak X rem env cs:=eS.val i o vs v d F p J hX z hm G k
theorem dr(ak:List Nat)(n:Nat)(k:eS HB f fn R D aa path ak [] (List.range n) env cs)
 (hm:HB.follows .mixedOrders=true:=by kernel_rfl)
 (N:(match bI (bd fn) path []with| .code (.region _ ops true)::k=>some (ops.size,k)|_=>none)=some (n,bI (bd fn) ak []):=by kernel_rfl)
 (a6:mZ (aI fn path) (dE (aI fn path)) (eV (aI fn path))=true:=by kernel_rfl):bf HB f fn R D aa path env cs:=bf.draw ak n hm N a6 k
theorem cr(l aJ:List Nat)(F p:List Nat)(b:Ev)(k:eS HB f fn R D aa path ak F p b cs)
 (G: ∀u,(gS HB fn.ntmps u (aI fn path) (eV (aI fn path)) cs l aJ env X rem []).map (λ r=>(b.map (λ x=>look r.1 x.1),r.2.1,r.2.2.1))=some (b.map (λ x=>some x.2),F,p):=by intros;kernel_rfl)
 (H: ∀u,(gS HB fn.ntmps u (aI fn path) (eV (aI fn path)) cs l aJ env X rem []).map (λ r=>r.2.2.2.map (·.1))=(gS HB fn.ntmps u (aI fn path) (eV (aI fn path)) cs l aJ env X rem []).map (λ r=>r.2.2.2.map (·.2)):=by intros;kernel_rfl):
 eS HB f fn R D aa path ak X rem env cs:=eS.run l aJ F p b G H k
theorem im(b:List (Nat×Nat))(k:eS HB f fn R D aa path ak X rem env cs)(hX:b.map (·.1)=X:=by kernel_rfl)
 (G: ∀u,(b.map (oQ HB u (aI fn path) env cs)).all (·.isSome)=true:=by intros;kernel_rfl)
 (H: ∀u,(b.map (oQ HB u (aI fn path) env cs)).map (·.map λ r=>(r.1,r.2.2.1))=(b.map (oQ HB u (aI fn path) env cs)).map (·.map λ r=>(r.2.1,r.2.2.2)):=by intros;kernel_rfl):
 sb HB f fn R D aa path ak X rem env cs:=sb.mk b hX G H k
theorem on(e:Nat)(k:kC HB f fn R D aa path ak e X rem env cs)(ah:rem.isEmpty=false:=by kernel_rfl)
 (q:(rem.all λ i=>dE (aI fn path) i||!jf (eV (aI fn path)) i rem)=true:=by kernel_rfl)
 (he:rem.filter (λ e=>jf (eV (aI fn path)) e rem)=[e]:=by kernel_rfl):eS HB f fn R D aa path ak X rem env cs:=eS.one e ah q he k
theorem ex(e:Nat)(h:Nat)(F p:List Nat)(b:(Nat->Nat)->Ev)(M:(Nat->Nat)->List Chunk)
 (k: ∀g,sb HB f fn R D aa path ak F p (b g) (M g))
 (hX:X.filter (λ j=>!pre (eV (aI fn path)) j e)=F:=by kernel_rfl) (z:rem.erase e=p:=by kernel_rfl)
 (G: ∀u g,((fK fn.ntmps (aI fn path) env e).bind λ o=>(Go.Proofs.YtdpmeahgjjmdiaaGreatDoor.sx HB (bq [h]) g (execOp (bB u env) o) 0 cs 0 []).bind λ r=>match r.1 with
  | .value v=>some ((b g).map (λ x=>look (dF o.dst v env) x.1),r.2.1)
  | .skip=>some ((b g).map (λ x=>look (dF o.dst undef env) x.1),r.2.1)
  |_=>none)=some ((b g).map (λ x=>some x.2),M g):=by intros;kernel_rfl)
 (H: ∀u g,((fK fn.ntmps (aI fn path) env e).bind λ o=>(Go.Proofs.YtdpmeahgjjmdiaaGreatDoor.sx HB (bq [h]) g (execOp (bB u env) o) 0 cs 0 []).map λ r=>r.2.2.2.map (·.1))=
  ((fK fn.ntmps (aI fn path) env e).bind λ o=>(Go.Proofs.YtdpmeahgjjmdiaaGreatDoor.sx HB (bq [h]) g (execOp (bB u env) o) 0 cs 0 []).map λ r=>r.2.2.2.map (·.2)):=by intros;kernel_rfl):
 kC HB f fn R D aa path ak e X rem env cs:=kC.sx e h F p b M hX z G H k
theorem ec(e:Nat)(g:FuncId)(args:List Value)(d:Option Nat)(is:List Nat)(F p:List Nat){M rest:List Chunk}{ca:Value->List Chunk->au->Prop}
 (E:Sp g args M aa ca) (hp:bF is cs=some (M,rest))
 (k: ∀v M' C,au.le aa C->ca v M' C->sb HB f fn R D C path ak F p (dF d v env) (M'++rest))
 (hX:X.filter (λ j=>!pre (eV (aI fn path)) j e)=F:=by kernel_rfl) (z:rem.erase e=p:=by kernel_rfl)
 (G: ∀u,(fK fn.ntmps (aI fn path) env e).bind (λ o=>(pv HB (execOp (bB u env) o)).map λ y=>(y,o.dst))=some (.enter g args.toArray,d):=by intros;kernel_rfl):
 kC HB f fn R D aa path ak e X rem env cs:=kC.call e g args d is F p hX z G E hp k
end
theorem b_{n}(G: -9223372036854775808<=n)(H:n<9223372036854775808):aj n=n:=by
 have aw:(2^IntKind.i64.bits:Int)=18446744073709551616:=by decide
 have az:(2^(IntKind.i64.bits-1):Int)=9223372036854775808:=by decide
 have e3:IntKind.i64.signed=true:=rfl;show(let m:=n%(2^IntKind.i64.bits:Int);if IntKind.i64.signed&&m>=(2^(IntKind.i64.bits-1):Int)then m-(2^IntKind.i64.bits:Int)else m)=n;simp only[aw,az,e3,HL,decide_eq_true_eq];split<;>omega
theorem uk{n}(G: -2147483648<=n)(H:n<2147483648):HK .i32 n=n:=by
 have aw:(2^IntKind.i32.bits:Int)=4294967296:=by decide
 have az:(2^(IntKind.i32.bits-1):Int)=2147483648:=by decide
 have e3:IntKind.i32.signed=true:=rfl;show(let m:=n%(2^IntKind.i32.bits:Int);if IntKind.i32.signed&&m>=(2^(IntKind.i32.bits-1):Int)then m-(2^IntKind.i32.bits:Int)else m)=n;simp only[aw,az,e3,HL,decide_eq_true_eq];split<;>omega
theorem ag{k n:Nat}(h:k<n)(O:n<=9223372036854775807):aj ((k:Int)+1)=((k+1:Nat):Int):=by
 rw[b_ om om];omega
theorem wn(z:Int)(n:Nat)(h:z=n:=by omega)(H:(n:Int)<9223372036854775808:=by omega):aj z=n:=by rw[h];exact b_ om H
theorem wj(z:Int)(h: -9223372036854775808<=z:=by omega)(H:z<9223372036854775808:=by omega):aj z=z:=b_ h H
theorem kr{P:Prop}(h:P:=by kernel_rfl):P:=h
def aV:Value->List Nat
 | .slice (some a) _ _=>[a.block]
 |_=>[]
def tu(E sz:Nat)(v:Value)(n:Nat)(xs:List Value)(os:List Obj):Prop:=
 xs.length=n*sz/\((v=.slice none 0 0/\n=0/\os=[])\/
  ∃g cap cur,v=.slice (some ⟨g,0,none⟩) n cap/\os=[.cells cur E (0,0)]/\n<=cap/\cap<=maxLen/\cur.size=cap*sz/\cur.toList.take (n*sz)=xs)
def own(E sz:Nat)(v:Value)(n:Nat)(xs:List Value):Chunk:=.abs (aV v) (tu E sz v n xs)
section
variable{aa:au}{w:World}{E sz n:Nat}{v:Value}{xs:List Value}{cs:List Chunk}
theorem iM(h:(own E sz v n xs).ok aa w):w.ownsRow 0 E sz v n xs:=by
 obtain⟨os,G,H,S⟩:=h;refine⟨H,?_⟩;rcases S with⟨rfl,Y,_⟩|⟨g,cap,cur,rfl,Y,aI,h6,aU,h8⟩
 exact .inl ⟨rfl,Y⟩;refine .inr ⟨g,cap,cur,rfl,HD _,?_,aI,h6,aU,h8⟩;subst Y;simpa[aV]using G
theorem hR(h:w.ownsRow 0 E sz v n xs):(own E sz v n xs).ok aa w:=by
 obtain⟨G,H⟩:=h;rcases H with⟨rfl,rfl⟩|⟨g,cap,cur,rfl,_,Y,aI,h6,aU,h8⟩
 exact⟨[],rfl,G,.inl ⟨rfl,rfl,rfl⟩⟩;exact⟨[.cells cur E (0,0)],by simp[aV,Y],G,.inr ⟨g,cap,cur,rfl,rfl,aI,h6,aU,h8⟩⟩
theorem Heap.kc(h:Heap aa cs w)(E sz:Nat):Heap aa (own E sz vz 0 []::cs) w:=
 ⟨h.io,h.dD,by simpa[own,Chunk.fp,aV]using h.nodup,by simpa[own,Chunk.fp,aV]using h.old,λ c J=>by
  rcases G6.1 J with rfl|J
  exact hR ⟨by simp,.inl ⟨rfl,rfl⟩⟩;exact h.ok c J⟩
theorem oJ(h:(own E sz v n xs).ok aa w): ∃A c,v=.slice A n c/\xs.length=n*sz:=by
 obtain⟨G,H⟩:=iM h;rcases H with⟨rfl,rfl⟩|⟨g,cap,cur,rfl,_⟩
 exact⟨_,_,rfl,G⟩;exact⟨_,_,rfl,G⟩
theorem ye{P:Program}{t ty:TypeId}{i:TypeInfo}{z:Value}{bytes b T m c:Nat}{ys:List Value}(hh:Heap aa (own E sz v n xs::.av b T ys::cs) w)
 (B:P.underlying t=some (.slice E)) (hi:P.info? E=some i) (hz:i.zero=some z) (C:i.size=sz) (ah:i.bytes=bytes) (I:z.cells.size=sz) (dB:0<sz)
 (hl:ys.length=m*sz) (G: ∀u∈ys,u.oneCell'=true) (F:n+m<=maxLen) (h:(n+m)*bytes<=140737488355328):
 ∃A' ai w',(Builtin.append_ #[t,t] ty #[v,.slice (some ⟨b,0,none⟩) m c]).run P w=.ok (.slice A' (n+m) ai) w'/\Heap aa (own E sz (.slice A' (n+m) ai) (n+m) (xs++ys)::cs) w':=by
 have ho:=iM (hh.ok (own E sz v n xs) sm);have hb:w.heap[b]?=some (.cells ys.toArray T (0,0)):=hh.ok (.av b T ys) sm;have A: ∀j,(⟨b,0,none⟩:Addr).add j=⟨b,j,none⟩:=by intro j;unfold Addr.add;split<;>simp_all
 obtain⟨v',w',V,Z,hg,_,f⟩:=run_append_own_at (P:=P) (w:=w) 0 t ty E i z sz bytes B hi hz C ah I dB v n xs ho ⟨b,0,none⟩ m c ys hl
  (λ j u hu=>by rw[A];simp[World.cell?,hb,hu]) G F h (HD _)
 have r:(own E sz v n xs::.av b T ys::cs).flatMap Chunk.fp=aV v++(b::cs.flatMap Chunk.fp):=by simp[own,Chunk.fp]
 have s:=hh.nodup;rw[r]at s;have p:=Hq.1 s;have k: ∀x o,aa x=some o->x<w.heap.size:=λ x o L=>by
  have:=hh.dD x o L;rcases Hh x w.heap.size with G|G
  exact G;rw[HE G]at this;cases this
 have D: ∀x,some x=v.ownBlock->x∈aV v:=by
  intro x L;unfold Value.ownBlock at L;split at L;injection L with L;subst L;simp[aV]
  cases L
 have l: ∀x,x<w.heap.size->x∉aV v->w'.heap[x]?=w.heap[x]?:=λ x L O=>hg.block x L λ e=>O (D x e)
 have K: ∀x∈cs.flatMap Chunk.fp,x<w.heap.size/\aa x=none/\x∉aV v:=by
  intro x L;have H:=hh.old x (by rw[r];simp[L]);exact⟨H.1,H.2,λ hm=>p.2.2 x hm x (by simp[L]) rfl⟩
 have d: ∀x∈aV v,x<w.heap.size/\aa x=none:=λ x L=>hh.old x (by rw[r];simp[L])
 obtain⟨A',ai,rfl,_⟩:=oJ (aa:=aa) (hR Z);have q: ∀x∈aV (.slice A' (n+m) ai),x∈aV v\/x=w.heap.size:=by
  intro x L;cases A' with
  |none=>cases L
  |some a=>
   simp[aV,HC]at L;subst L;rcases f with H|H
   exact .inl (D _ H);simp[Value.ownBlock]at H;exact .inr H
 refine⟨A',ai,w',V,⟨(congr (congrArg Prod.mk hg.os) hg.output).trans hh.io,λ x o L=>?_,?_,λ x L=>?_,λ M J=>?_⟩⟩;rw[l x (k x o L) λ hm=>by rw[(d x hm).2]at L;cases L];exact hh.dD x o L;simp only[G0,own,Chunk.fp];refine Hq.2 ⟨?_,(List.nodup_cons.1 p.2.1).2,λ x L y hy=>?_⟩;cases A'<;>simp[aV]
 rintro rfl;rcases q x L with H|H
 exact(K x hy).2.2 H;have:=(K x hy).1;omega;simp only[G0,own,Chunk.fp,HM]at L;have aJ:=hg.size;rcases L with L|L
 refine⟨?_,?_⟩;obtain⟨_,H⟩:=Z;rcases H with⟨H,_⟩|⟨g,cap,cur,H,_,S,_⟩
 injection H with H _ _;subst H;simp[aV]at L
 injection H with H _ _;subst H
 simp only[aV,HC]at L;subst L;rcases Hh x w'.heap.size with Y|Y
 exact Y;rw[HE Y]at S;cases S;rcases q x L with H|H
 exact(d x H).2;cases N:aa x with
 |none=>rfl
 |some o=>have:=k x o N;omega
 exact⟨by have:=(K x L).1;omega,(K x L).2.1⟩;rcases G6.1 J with rfl|J
 exact hR Z;refine Chunk.d' (hh.ok M (by simp[J])) lq λ x L=>?_
 have:=K x (Ha.2 ⟨M,J,L⟩);exact l x this.1 this.2.2
def wb(aa:au)(E n c:Nat)(A:Option Addr)(xs:List Value):Prop:=
 n<=c/\((n=0/\A=none)\/ ∃(g:Nat)(ar:Array Value),A=some ⟨g,0,none⟩/\aa g=some (.cells ar E (0,0))/\ ∀(j:Nat)(u:Value),xs[j]?=some u->ar[j]?=some u)
theorem Heap.ee{A:Option Addr}{c:Nat}(h:Heap aa (own E sz (.slice A n c) n xs::cs) w):
 ∃C,au.le aa C/\Heap C cs w/\wb C E n c A xs:=by
 obtain⟨os,G,H,S⟩:=h.ok (own E sz (.slice A n c) n xs) sm;rcases S with⟨S,Y,_⟩|⟨g,cap,cur,S,Y,aI,h6,aU,h8⟩
 injection S with S _ _
 exact⟨aa,lq,h.tail,om,.inl ⟨Y,S⟩⟩;injection S with S p a
 subst S;have hb:Heap aa (.av g E cur.toList::cs) w:=by
  refine⟨h.io,h.dD,by simpa[own,Chunk.fp,aV]using h.nodup,by simpa[own,Chunk.fp,aV]using h.old,λ M J=>?_⟩;rcases G6.1 J with rfl|J
  subst Y;simpa[Chunk.ok,aV]using G;exact h.ok M (by simp[J])
 obtain⟨h9,aC⟩:=hb.freeze;refine⟨_,au.jv aC,h9,om,.inr ⟨g,cur,rfl,by simp[au.set],λ j u hj=>?_⟩⟩;have I:j<n*sz:=by
  rcases Hh j (n*sz)with I|aO
  exact I;rw[<-h8,HN]at hj;rw[if_neg om]at hj;cases hj
 rw[<-h8,HN,if_pos I]at hj;simpa using hj
end
inductive Dt where
 |val (v:Value)
 |any
 |st (ds:List Dt)
 |sl (ds:List Dt)
 |ptr (d:Dt)
 |nil
inductive ad (aa:au):Dt->List Value->Prop where
 |val (v:Value):ad aa (.val v) [v]
 |any (v:Value):v.oneCell'=true->ad aa .any [v]
 |dU:ad aa (.st []) []
 |bY (d:Dt) (ds:List Dt) (a b:List Value):ad aa d a->ad aa (.st ds) b->ad aa (.st (d::ds)) (a++b)
 |eR (A:Option Addr) (c:Nat):ad aa (.sl []) [.slice A 0 c]
 |sl (ds:List Dt) (g sz c:Nat) (ar:Array Value) (T:TypeId) (fz:Nat×Nat) (aY:List (List Value)):ds.length<=c->aY.length=ds.length->aa g=some (.cells ar T fz)->
  (∀(i:Nat)(d:Dt)(cs:List Value),ds[i]?=some d->aY[i]?=some cs->ad aa d cs)->(∀cs∈aY,cs.length=sz)->(∀(i j:Nat)(cs:List Value)(u:Value),aY[i]?=some cs->cs[j]?=some u->ar[i*sz+j]?=some u)->ad aa (.sl ds) [.slice (some ⟨g,0,none⟩) ds.length c]
 |ptr (d:Dt) (g:Nat) (ar:Array Value) (T:TypeId) (fz:Nat×Nat) (cs:List Value):aa g=some (.cells ar T fz)->ad aa d cs->(∀(j:Nat)(u:Value),cs[j]?=some u->ar[j]?=some u)->ad aa (.ptr d) [.pointer (some ⟨g,0,none⟩)]
 |nil:ad aa .nil [.pointer none]
theorem ad.mono{aa C:au}(hl:au.le aa C){d:Dt}{cs:List Value}(h:ad aa d cs):ad C d cs:=by
 induction h with
 |val v=>exact .val v
 |any v h=>exact .any v h
 |dU=>exact .dU
 |bY d ds a b _ _ G H=>exact .bY d ds a b G H
 |eR A c=>exact .eR A c
 |sl ds g sz c ar T fz aY q hlen hg _ dB J af=>exact .sl ds g sz c ar T fz aY q hlen (hl _ _ hg) (λ i d cs G H=>af i d cs G H) dB J
 |ptr d g ar T fz cs hg _ J af=>exact .ptr d g ar T fz cs (hl _ _ hg) af J
 |nil=>exact .nil
theorem ad.aB{aa:au}{v:Value}{cs:List Value}:ad aa (.val v) cs<->cs=[v]:=⟨λ h=>by cases h;rfl,λ h=>h▸.val v⟩
theorem ad.bg{aa:au}{cs:List Value}:ad aa .any cs<-> ∃v,cs=[v]/\v.oneCell'=true:=⟨λ h=>by cases h;exact⟨_,rfl,by assumption⟩,λ⟨v,h,G⟩=>h▸.any v G⟩
theorem ad.jN{aa:au}{cs:List Value}:ad aa .nil cs<->cs=[.pointer none]:=⟨λ h=>by cases h;rfl,λ h=>h▸.nil⟩
theorem ad.bx{aa:au}{cs:List Value}:ad aa (.st []) cs<->cs=[]:=⟨λ h=>by cases h;rfl,λ h=>h▸.dU⟩
theorem ad.bw{aa:au}{d:Dt}{ds:List Dt}{cs:List Value}:ad aa (.st (d::ds)) cs<-> ∃a b,cs=a++b/\ad aa d a/\ad aa (.st ds) b:=
 ⟨λ h=>by cases h;exact⟨_,_,rfl,by assumption,by assumption⟩,λ⟨a,b,h,G,H⟩=>h▸.bY d ds a b G H⟩
theorem ad.tb{aa:au}{ds:List Dt}{cs:List Value}(h:ad aa (.sl ds) cs): ∃A c,cs=[.slice A ds.length c]/\
 (ds=[]\/ ∃(g sz:Nat)(ar:Array Value)(T:TypeId)(fz:Nat×Nat)(aY:List (List Value)),A=some ⟨g,0,none⟩/\aY.length=ds.length/\aa g=some (.cells ar T fz)/\(∀(i:Nat)(d:Dt)(cs:List Value),ds[i]?=some d->aY[i]?=some cs->ad aa d cs)/\
  (∀cs∈aY,cs.length=sz)/\(∀(i j:Nat)(cs:List Value)(u:Value),aY[i]?=some cs->cs[j]?=some u->ar[i*sz+j]?=some u)):=by
 cases h with
 |eR A c=>exact⟨A,c,rfl,.inl rfl⟩
 |sl _ g sz c ar T fz aY _ G H S Y aI=>exact⟨_,c,rfl,.inr ⟨g,sz,ar,T,fz,aY,rfl,G,H,S,Y,aI⟩⟩
theorem ad.cap{aa:au}{ds:List Dt}{A:Option Addr}{n c:Nat}(h:ad aa (.sl ds) [.slice A n c]):ds.length<=c:=by
 cases h with
 |eR=>exact HD _
 |sl _ _ _ _ _ _ _ _ J=>exact J
theorem ad.dO{aa:au}{d:Dt}{v:Value}(h:ad aa (.ptr d) [v]): ∃(g:Nat)(ar:Array Value)(T:TypeId)(fz:Nat×Nat)(cs:List Value),v=.pointer (some ⟨g,0,none⟩)/\aa g=some (.cells ar T fz)/\ad aa d cs/\ ∀(j:Nat)(u:Value),cs[j]?=some u->ar[j]?=some u:=by
 cases h with
 |ptr _ g ar T fz cs G H S=>exact⟨g,ar,T,fz,cs,rfl,G,H,S⟩
theorem ad.at_{aa:au}{ds:List Dt}{A:Option Addr}{n c:Nat}(h:ad aa (.sl ds) [.slice A n c]):n=ds.length/\ ∀(sz i:Nat)(d:Dt),ds[i]?=some d->(∀cs,ad aa d cs->cs.length=sz)->
 ∃(g:Nat)(cs:List Value)(ar:Array Value)(T:TypeId)(fz:Nat×Nat),A=some ⟨g,0,none⟩/\ad aa d cs/\aa g=some (.cells ar T fz)/\ ∀(j:Nat)(u:Value),cs[j]?=some u->ar[i*sz+j]?=some u:=by
 obtain⟨A',ai,he,L⟩:=h.tb;clear h;simp at he;obtain⟨rfl,rfl,rfl⟩:=he;refine⟨rfl,λ sz i d hd dB=>?_⟩;rcases L with F|⟨g,b,ar,T,fz,aY,hA,G,H,S,Y,aI⟩
 subst F;simp at hd;have hi:i<aY.length:=by
  rw[G];rcases Hh i ds.length with h6|h6
  exact h6;rw[Hp h6]at hd;cases hd
 have J:=HH hi;have l:=S i d _ hd J;have:b=sz:=by rw[<-Y _ (List.getElem_mem hi),dB _ l]
 subst this;exact⟨g,aY[i],ar,T,fz,hA,l,H,λ j u hu=>aI i j _ u J hu⟩
structure gL(t E sz bytes:Nat):Prop where
 under:HB.underlying t=some (.slice E)
 info: ∃i z,HB.info? E=some i/\i.zero=some z/\i.size=sz/\i.bytes=bytes/\z.cells.size=sz
 pos:0<sz
 Cf:0<bytes
theorem gL.mk'{t E sz bytes:Nat}(G:HB.underlying t=some (.slice E))
 (H:(HB.info? E).map (λ i=>(i.zero.map (λ z=>z.cells.size),i.size,i.bytes))=some (some sz,sz,bytes)) (S:Nat.blt 0 sz=true) (Y:Nat.blt 0 bytes=true):gL t E sz bytes:=by
 refine⟨G,?_,by simpa using S,by simpa using Y⟩;cases hi:HB.info? E with
 |none=>rw[hi]at H;cases H
 |some i=>
  rw[hi]at H;simp only[Hd,G8,He]at H;obtain⟨aw,az,e3⟩:=H;cases hz:i.zero with
  |none=>rw[hz]at aw;cases aw
  |some z=>rw[hz]at aw;simp at aw;exact⟨i,z,rfl,hz,az,e3,aw⟩
theorem rk{P}{ρ}{o}{x y}{t}{a vy v}{w w'}(l:o.op=.call ⟨.builtin .append,#[x,y],#[t,t]⟩)(L:ρ x=a)(hy:ρ y=vy)
 (V:(Builtin.append_ #[t,t] o.type #[a,vy]).run P w=.ok v w'):(execOp ρ o).run P w=.ok (.value v) w':=by
 unfold execOp;simp only[l,resolve,invoke,builtin,Sem.run_bind,Sem.run_pure,Result.andThen_ok,HO,HF,HG,L,hy,V]
section
variable{f:FuncId}{fn:Func}{R:Ending->World->Prop}{D:List Deferred}{aa:au}{path ak:List Nat}{X rem:List Nat}{env:Ev}{cs rest:List Chunk}
theorem q0{x y}{t E sz bytes}{A}{n cc b m c T:Nat}{xs ys}{o}(st:gL t E sz bytes)
 (l:o.op=.call ⟨.builtin .append,#[x,y],#[t,t]⟩) (L: ∀u,bB u env x=.slice A n cc) (hy: ∀u,bB u env y=.slice (some ⟨b,0,none⟩) m c)
 (hp:cs.Perm ([own E sz (.slice A n cc) n xs,.av b T ys]++rest)) (hl:ys.length=m*sz) (G: ∀u∈ys,u.oneCell'=true) (hb:(n+m)*bytes<=140737488355328):
 ∀u w,Heap aa cs w-> ∃v w' C M,(execOp (bB u env) o).run HB w=.ok (.value v) w'/\au.le aa C/\Heap C M w'/\
  (∃A' ai,v=.slice A' (n+m) ai/\C=aa/\M=own E sz (.slice A' (n+m) ai) (n+m) (xs++ys)::rest):=by
 intro u w hw;obtain⟨i,z,hi,hz,H,S,Y⟩:=st.info;have d:n+m<=maxLen:=by
  have:=st.Cf;have:n+m<=(n+m)*bytes:=HP _ this;unfold maxLen;omega
 obtain⟨A',ai,w',V,hh⟩:=ye (P:=HB) (ty:=o.type) (c:=c) (hw.perm hp) st.under hi hz H S Y st.pos hl G d hb;exact⟨_,w',aa,_,rk l (L u) (hy u) V,lq,hh,A',ai,rfl,rfl,rfl⟩
theorem bf.app(x y:Operand)(t:Nat){E sz bytes:Nat}(st:gL t E sz bytes)(A:Option Addr)(n cc b m c T:Nat)(xs ys:List Value)(d:Nat)(ak:List Nat)(is:List Nat)
 (hp:bF is cs=some ([own E sz (.slice A n cc) n xs,.av b T ys],rest)) (hl:ys.length=m*sz) (G: ∀u∈ys,u.oneCell'=true) (hb:(n+m)*bytes<=140737488355328)
 (k: ∀A' ai,bf HB f fn R D aa ak ((d,.slice A' (n+m) ai)::env) (own E sz (.slice A' (n+m) ai) (n+m) (xs++ys)::rest))
 (N: ∀u,(cj fn.ntmps (bI (bd fn) path []) env).map (λ q=>(q.1.op,bB u env x,bB u env y,q.1.dst,q.2))=some (.call ⟨.builtin .append,#[x,y],#[t,t]⟩,.slice A n cc,.slice (some ⟨b,0,none⟩) m c,some d,bI (bd fn) ak []):=by intros;kernel_rfl):
 bf HB f fn R D aa path env cs:=by
 have a:=N (λ _=>undef);cases ho:cj fn.ntmps (bI (bd fn) path []) env with
 |none=>rw[ho]at a;cases a
 |some q=>
  obtain⟨o,B⟩:=q;have H: ∀u,o.op=.call ⟨.builtin .append,#[x,y],#[t,t]⟩/\bB u env x=.slice A n cc/\bB u env y=.slice (some ⟨b,0,none⟩) m c/\o.dst=some d/\B=bI (bd fn) ak []:=by
   intro u;have h:=N u;rw[ho]at h;simp at h;exact h
  obtain⟨aw,_,_,az,rfl⟩:=H (λ _=>undef);refine lu.op ho (q0 st aw (λ u=>(H u).2.1) (λ u=>(H u).2.2.1) (bR hp) hl G hb) ?_;rintro v C M _ ⟨A',ai,rfl,rfl,rfl⟩;rw[az];exact k A' ai
theorem kC.app(e:Nat)(x y:Operand)(t:Nat){E sz bytes:Nat}(st:gL t E sz bytes)(A:Option Addr)(n cc b m c T:Nat)(xs ys:List Value)(d:Nat)(F p:List Nat)(is:List Nat)
 (hp:bF is cs=some ([own E sz (.slice A n cc) n xs,.av b T ys],rest)) (hl:ys.length=m*sz) (G: ∀u∈ys,u.oneCell'=true) (hb:(n+m)*bytes<=140737488355328)
 (k: ∀A' ai,sb HB f fn R D aa path ak F p ((d,.slice A' (n+m) ai)::env) (own E sz (.slice A' (n+m) ai) (n+m) (xs++ys)::rest))
 (hX:X.filter (λ j=>!pre (eV (aI fn path)) j e)=F:=by kernel_rfl) (z:rem.erase e=p:=by kernel_rfl)
 (N: ∀u,(fK fn.ntmps (aI fn path) env e).map (λ q=>(q.op,bB u env x,bB u env y,q.dst))=some (.call ⟨.builtin .append,#[x,y],#[t,t]⟩,.slice A n cc,.slice (some ⟨b,0,none⟩) m c,some d):=by intros;kernel_rfl):
 kC HB f fn R D aa path ak e X rem env cs:=by
 have a:=N (λ _=>undef);cases ho:fK fn.ntmps (aI fn path) env e with
 |none=>rw[ho]at a;cases a
 |some o=>
  have H: ∀u,o.op=.call ⟨.builtin .append,#[x,y],#[t,t]⟩/\bB u env x=.slice A n cc/\bB u env y=.slice (some ⟨b,0,none⟩) m c/\o.dst=some d:=by
   intro u;have h:=N u;rw[ho]at h;simp at h;exact h
  obtain⟨aw,_,_,az⟩:=H (λ _=>undef);refine kC.op (Q:=λ v C M=> ∃A' ai,v=.slice A' (n+m) ai/\C=aa/\M=own E sz (.slice A' (n+m) ai) (n+m) (xs++ys)::rest) ho hX z (λ u w hw=>?_) ?_;obtain⟨v,w',C,M,V,hle,hh,K⟩:=q0 st aw (λ u=>(H u).2.1) (λ u=>(H u).2.2.1) (bR hp) hl G hb u w hw;exact⟨v,w',C,M,.inl V,hle,hh,K⟩;rintro v C M _ ⟨A',ai,rfl,rfl,rfl⟩;rw[az];exact k A' ai
theorem bf.kc E sz(k:bf HB f fn R D aa path env (own E sz vz 0 []::cs)):bf HB f fn R D aa path env cs:=
 λ a w he hd hh=>k a w he hd (hh.kc E sz)
theorem bf.ee i{E sz n}{A}{c}{xs}(J:cs[i]?=some (own E sz (.slice A n c) n xs))
 (k: ∀C,au.le aa C->wb C E n c A xs->
  bf HB f fn R D C path env (cs.eraseIdx i)):bf HB f fn R D aa path env cs:=by
 intro a w he hd hh;obtain⟨C,G,H,S⟩:=(hh.perm (e3 J)).ee;exact k C G S a w he hd H
end
theorem bG{T E sz bytes}{x i}{g n c k}(st:gL T E sz bytes)(h:k<n):h3 HB (.indexAddr T x i) [vl (sa g 0) n c,vi k] (vp g (k*sz)):=by
 obtain⟨i',z,hi,hz,H,_⟩:=st.info;have:=nq (P:=HB) (T:=T) (x:=x) (i:=i) (b:=g) (off:=0) (len:=n) (cap:=c) (k:=.i64) (n:=(k:Int)) st.under hi H om om;simpa using this
theorem ad.pC{aa}{E sz n c}{A}{ds}{aY:List (List Value)}(h:wb aa E n c A aY.flatten)
 (O:ds.length=n) (hl:aY.length=n) (V: ∀(i:Nat)d cs,ds[i]?=some d->aY[i]?=some cs->ad aa d cs) (aJ: ∀cs∈aY,cs.length=sz):ad aa (.sl ds) [.slice A n c]:=by
 obtain⟨q,h⟩:=h;rcases h with⟨rfl,rfl⟩|⟨g,ar,rfl,G,H⟩
 have:ds=[]:=HI O;subst this;exact .eR _ _;subst O;refine .sl ds g sz c ar E (0,0) aY q hl G V aJ λ i j cs u hi hj=>H _ _ ?_
 have key: ∀(aY:List (List Value))(i:Nat),(∀cs∈aY,cs.length=sz)->aY[i]?=some cs->aY.flatten[i*sz+j]?=some u:=by
  intro aY;induction aY with
  |nil=>intro i _ h;simp at h
  |cons x xs af=>
   intro i aJ h;have L:x.length=sz:=aJ x sm;cases i with
   |zero=>
    simp at h;subst h;have:j<x.length:=by
     rcases Hh j x.length with S|S
     exact S;rw[Hp S]at hj;cases hj
    simp only[HQ,Nat.zero_mul,HR];rw[List.getElem?_append_left this];exact hj
   |succ i=>
    simp at h;simp only[HQ];rw[List.getElem?_append_right (by rw[L,HS];omega),L,show(i+1)*sz+j-sz=i*sz+j from by rw[HS];omega];exact af i (λ cs J=>aJ cs (by simp[J])) h
 exact key aY i aJ hi
section
variable{P:Program}(w:World)
theorem ng(t tx ty e:TypeId)(i:TypeInfo)(z:Value)(size bytes:Nat)(B:P.underlying t=some (.slice e))(hi:P.info? e=some i)(hz:i.zero=some z)
 (C:i.size=size) (ah:i.bytes=bytes) (I:z.cells.size=size)
 (v:Value) (n:Nat) (xs:List Value) (Z:w.ownsRow 0 e size v n xs) (x:Value) (m:Nat) (news:List Value) (aJ:Src P size tx x m news w)
 (F:n+m<=maxLen) (h:(n+m)*bytes<=140737488355328):
 ∃v' w',(Builtin.append_ #[t,tx] ty #[v,x]).run P w=.ok v' w'/\w'.ownsRow 0 e size v' (n+m) (xs++news)/\w.grownBy w' v.ownBlock/\(v'.ownBlock=v.ownBlock\/v'.ownBlock=some w.heap.size):=by
 subst C ah;have l:n+m<=9223372036854775807:=by simp[maxLen]at F;omega
 have hlen:(xs++news).length=(n+m)*i.size:=by rw[HT,Z.1,aJ.newsLen,HJ]
 have grown: ∀(old:Nat),old<n+m-> ∀(row:Option Nat),
  (w.drew.alloc (.cells ((xs++news).toArray++Builtin.zeroCells z.cells (grownCap w (n+m) old e-(n+m))) e)).ownsRow 0 e i.size
   (.slice (some ⟨w.heap.size,0,none⟩) (n+m) (grownCap w (n+m) old e)) (n+m) (xs++news)/\
  w.grownBy (w.drew.alloc (.cells ((xs++news).toArray++Builtin.zeroCells z.cells (grownCap w (n+m) old e-(n+m))) e)) row:=by
  intro old ho row;have aO:=grownCap_ge w (n+m) old e;have f:grownCap w (n+m) old e<=maxLen:=grownCap_le_maxLen w (n+m) old e F;refine⟨⟨hlen,.inr ⟨w.heap.size,_,_,rfl,HD _,heap_alloc_new w.drew _,aO,f,?_,?_⟩⟩,⟨rfl,rfl,rfl,by simp,λ k U _=>heap_alloc_old w.drew _ k U⟩⟩;simp only[Array.size_append,HU,size_zeroCells,I,hlen,<-HJ]
  congr 1
  omega;simp only[Array.toList_append];rw[<-hlen];exact HV
 rcases Z.2 with⟨rfl,rfl⟩|⟨g,cap,cur,rfl,r,hg,R,f,K,d⟩
 have L:xs=[]:=HI (by simpa using Z.1);subst L;by_cases hm:m=0;subst hm;have O:news=[]:=HI (by simpa using aJ.newsLen);subst O;refine⟨.slice none 0 0,w,?_,World.ownsRow_nil w 0 e i.size,⟨rfl,rfl,rfl,Nat.le_refl _,λ _ _ _=>rfl⟩,Or.inl rfl⟩;rcases aJ.kind with⟨o,U⟩|U<;>simp[Builtin.append_,run_underlying B,run_underlying U,sizeOf,typeInfo,hi,aJ.len,aJ.cells,storeCells]
 have V:=run_append_grow_src (P:=P) w t tx ty e i z B hi hz none 0 0 [] (run_firstCells_none w.drew i.size 0 0 0) x m news aJ om om (growslice_fits om h);have c:=grown 0 om (Value.ownBlock (.slice none 0 0));exact⟨_,_,V,c.1,c.2,Or.inr rfl⟩;have p: ∀j,j<cur.size->w.cell? ⟨g,j,none⟩=cur[j]?:=λ j hj=>by simp[World.cell?,hg]
 by_cases a:n+m<=cap;have b:n*i.size+news.length<=cur.size:=by rw[aJ.newsLen,K,<-HJ];exact Nat.mul_le_mul_right _ a
 have A:=run_storeCells_at P g (n*i.size) e news 0 cur w hg (by simpa using b) aJ.one;simp[Nat.add_zero]at A;have V:(Builtin.append_ #[t,tx] ty #[.slice (some ⟨g,0,none⟩) n cap,x]).run P w=.ok (.slice (some ⟨g,0,none⟩) (n+m) cap) (w.setRow g (cur.toList.take (n*i.size)++news++cur.toList.drop (n*i.size+news.length)).toArray):=by
  rcases aJ.kind with⟨o,U⟩|U<;>simp[Builtin.append_,run_underlying B,run_underlying U,sizeOf,typeInfo,hi,aJ.len,a,aJ.cells,Addr.add_lit,A]
 refine⟨_,_,V,⟨hlen,.inr ⟨g,cap,_,rfl,r,setRow_heap w g cur _ e _ hg,a,f,?_,?_⟩⟩,⟨rfl,rfl,rfl,by simp,λ k _ U=>setRow_other w g k _ (λ e=>U (by simp[Value.ownBlock,e]))⟩,Or.inl rfl⟩;simp only[HU,HT,List.length_take,List.length_drop,Array.length_toList];omega;rw[d,<-hlen];exact HV;have holds: ∀j u,xs[j]?=some u->w.cell? ((⟨g,0,none⟩:Addr).add j)=some u:=Z.cells (g:=g) rfl;have V:=run_append_grow_src (P:=P) w t tx ty e i z B hi hz (some ⟨g,0,none⟩) n cap xs (run_firstCells_some w.drew i.size n ⟨g,0,none⟩ n cap xs Z.1 (by simpa using holds)) x m news aJ om om (growslice_fits om h);have c:=grown cap om (Value.ownBlock (.slice (some ⟨g,0,none⟩) n cap));exact⟨_,_,V,c.1,c.2,Or.inr rfl⟩
end
def fD(aa:au)(sz tx:Nat)(x:Value)(m:Nat)(ys:List Value):Prop:= ∀w:World,(∀b o,aa b=some o->w.heap[b]?=some o)->Src HB sz tx x m ys w
theorem fD.str{aa:au}{tx:Nat}(U:HB.underlying tx=some .string)(s:ByteArray):fD aa 1 tx (vs s) s.size (byteCells s):=λ w _=>Src.ofString w U s
theorem fD.nil{aa:au}{sz tx e:Nat}(U:HB.underlying tx=some (.slice e))(c:Nat):fD aa sz tx (vl none 0 c) 0 []:=λ w _=>Src.ofNil w U c
theorem fD.aa{aa:au}{sz tx e:Nat}(U:HB.underlying tx=some (.slice e)){g off m c T:Nat}{ar:Array Value}{fz:Nat×Nat}{ys:List Value}(hg:aa g=some (.cells ar T fz))(hl:ys.length=m*sz)
 (J: ∀(j:Nat)(u:Value),ys[j]?=some u->ar[off+j]?=some u) (G: ∀u∈ys,u.oneCell'=true):fD aa sz tx (vl (sa g off) m c) m ys:=λ w hw=>
 Src.ofSlice w U ⟨g,off,none⟩ m c ys hl (λ j u hu=>by rw[Addr.add_lit];simp[World.cell?,hw g _ hg,J j u hu]) G
theorem fD.strs{aa:au}{tx e:Nat}(U:HB.underlying tx=some (.slice e)){l:List ByteArray}{A:Option Addr}{n c:Nat}(h:ad aa (.sl (l.map λ s=>.val (vs s))) [vl A n c]):n=l.length/\fD aa 1 tx (vl A n c) n (l.map vs):=by
 obtain⟨G,H⟩:=h.at_;rw[List.length_map]at G;refine⟨G,?_⟩;cases l with
 |nil=>
  subst G;rcases A with _|a
  exact fD.nil U c;intro w hw;obtain⟨m,o,W⟩:=a;exact Src.ofSlice w U _ 0 c [] sm (λ j u hu=>by simp at hu) (λ u hu=>by cases hu)
 |cons s0 l0=>
  obtain⟨g,cs,ar,T,fz,S,Y,aI,h6⟩:=H 1 0 (.val (vs s0)) sm (λ cs V=>by rw[ad.aB.1 V];rfl);subst S;refine fD.aa U (off:=0) aI (by simp[G]) (λ j u hu=>?_) (λ u hu=>by obtain⟨s,_,rfl⟩:=Hy.1 hu;rfl);have hj:j<(s0::l0).length:=by
   rcases Hh j (s0::l0).length with aU|aU
   exact aU;rw[Hp (by simpa using aU)]at hu;cases hu
  obtain⟨g',M,f,T',i,p,d,b,k⟩:=H 1 j (.val (vs (s0::l0)[j])) (by rw[HW,HH hj];rfl) (λ cs V=>by rw[ad.aB.1 V];rfl);simp[sa,Addr.mk.injEq]at p;subst p;rw[aI]at b;simp[Obj.cells.injEq]at b;obtain⟨b,_,_⟩:=b;subst b;obtain rfl:=ad.aB.1 d;rw[HW,HH hj]at hu;simp at hu;subst hu;have:=k 0 _ rfl;simpa using this
section
variable{aa:au}{w w':World}{E sz n n':Nat}{v v':Value}{xs DK:List Value}{cs:List Chunk}
theorem td(hh:Heap aa (own E sz v n xs::cs) w)(Z:w'.ownsRow 0 E sz v' n' DK)(hg:w.grownBy w' v.ownBlock)(f:v'.ownBlock=v.ownBlock\/v'.ownBlock=some w.heap.size):
 ∃A' ai,v'=.slice A' n' ai/\Heap aa (own E sz v' n' DK::cs) w':=by
 have r:(own E sz v n xs::cs).flatMap Chunk.fp=aV v++cs.flatMap Chunk.fp:=by simp[own,Chunk.fp]
 have s:=hh.nodup;rw[r]at s;have p:=Hq.1 s;have k: ∀x o,aa x=some o->x<w.heap.size:=λ x o L=>by
  have:=hh.dD x o L;rcases Hh x w.heap.size with G|G
  exact G;rw[HE G]at this;cases this
 have D: ∀x,some x=v.ownBlock->x∈aV v:=by
  intro x L;unfold Value.ownBlock at L;split at L;injection L with L;subst L;simp[aV]
  cases L
 have l: ∀x,x<w.heap.size->x∉aV v->w'.heap[x]?=w.heap[x]?:=λ x L O=>hg.block x L λ e=>O (D x e)
 have K: ∀x∈cs.flatMap Chunk.fp,x<w.heap.size/\aa x=none/\x∉aV v:=by
  intro x L;have H:=hh.old x (by rw[r];simp[L]);exact⟨H.1,H.2,λ hm=>p.2.2 x hm x L rfl⟩
 have d: ∀x∈aV v,x<w.heap.size/\aa x=none:=λ x L=>hh.old x (by rw[r];simp[L])
 obtain⟨A',ai,rfl,_⟩:=oJ (aa:=aa) (hR Z);have q: ∀x∈aV (.slice A' n' ai),x∈aV v\/x=w.heap.size:=by
  intro x L;cases A' with
  |none=>cases L
  |some a=>
   simp[aV,HC]at L;subst L;rcases f with H|H
   exact .inl (D _ H);simp[Value.ownBlock]at H;exact .inr H
 refine⟨A',ai,rfl,⟨(congr (congrArg Prod.mk hg.os) hg.output).trans hh.io,λ x o L=>?_,?_,λ x L=>?_,λ M J=>?_⟩⟩;rw[l x (k x o L) λ hm=>by rw[(d x hm).2]at L;cases L];exact hh.dD x o L;simp only[G0,own,Chunk.fp];refine Hq.2 ⟨?_,p.2.1,λ x L y hy=>?_⟩;cases A'<;>simp[aV]
 rintro rfl;rcases q x L with H|H
 exact(K x hy).2.2 H;have:=(K x hy).1;omega;simp only[G0,own,Chunk.fp,HM]at L;have aJ:=hg.size;rcases L with L|L
 refine⟨?_,?_⟩;obtain⟨_,H⟩:=Z;rcases H with⟨H,_⟩|⟨g,cap,cur,H,_,S,_⟩
 injection H with H _ _;subst H;simp[aV]at L
 injection H with H _ _;subst H
 simp only[aV,HC]at L;subst L;rcases Hh x w'.heap.size with Y|Y
 exact Y;rw[HE Y]at S;cases S;rcases q x L with H|H
 exact(d x H).2;cases N:aa x with
 |none=>rfl
 |some o=>have:=k x o N;omega
 exact⟨by have:=(K x L).1;omega,(K x L).2.1⟩;rcases G6.1 J with rfl|J
 exact hR Z;refine Chunk.d' (hh.ok M (by simp[J])) lq λ x L=>?_
 have:=K x (Ha.2 ⟨M,J,L⟩);exact l x this.1 this.2.2
end
theorem qc{P:Program}{ρ:Operand->Value}{o:Oper}{x y:Operand}{t tx:TypeId}{a vy v:Value}{w w':World}(l:o.op=.call ⟨.builtin .append,#[x,y],#[t,tx]⟩)(L:ρ x=a)(hy:ρ y=vy)
 (V:(Builtin.append_ #[t,tx] o.type #[a,vy]).run P w=.ok v w'):(execOp ρ o).run P w=.ok (.value v) w':=by
 unfold execOp;simp only[l,resolve,invoke,builtin,Sem.run_bind,Sem.run_pure,Result.andThen_ok,HO,HF,HG,L,hy,V]
section
variable{f:FuncId}{fn:Func}{R:Ending->World->Prop}{D:List Deferred}{aa:au}{path ak:List Nat}{X rem:List Nat}{env:Ev}{cs rest:List Chunk}
theorem ot{x y:Operand}{t tx E sz bytes:Nat}{A:Option Addr}{n cc m:Nat}{vy:Value}{xs ys:List Value}{o:Oper}(st:gL t E sz bytes)
 (l:o.op=.call ⟨.builtin .append,#[x,y],#[t,tx]⟩) (L: ∀u,bB u env x=.slice A n cc) (hy: ∀u,bB u env y=vy)
 (hp:cs.Perm ([own E sz (.slice A n cc) n xs]++rest)) (aJ:fD aa sz tx vy m ys) (hb:(n+m)*bytes<=140737488355328):
 ∀u w,Heap aa cs w-> ∃v w' C M,(execOp (bB u env) o).run HB w=.ok (.value v) w'/\au.le aa C/\Heap C M w'/\
  (∃A' ai,v=.slice A' (n+m) ai/\C=aa/\M=own E sz (.slice A' (n+m) ai) (n+m) (xs++ys)::rest):=by
 intro u w hw;obtain⟨i,z,hi,hz,H,S,Y⟩:=st.info;have d:n+m<=maxLen:=by
  have:=st.Cf;have:n+m<=(n+m)*bytes:=HP _ this;unfold maxLen;omega
 have hh:=hw.perm hp;obtain⟨v',w',V,Z,hg,f⟩:=ng (P:=HB) w t tx o.type E i z sz bytes st.under hi hz H S Y _ n xs (iM (hh.ok (own E sz (.slice A n cc) n xs) sm)) vy m ys (aJ w hw.dD) d hb;obtain⟨A',ai,rfl,aI⟩:=td hh Z hg f;exact⟨_,w',aa,_,qc l (L u) (hy u) V,lq,aI,A',ai,rfl,rfl,rfl⟩
theorem bf.vN(x y:Operand)(t tx:Nat){E sz bytes:Nat}(st:gL t E sz bytes)(A:Option Addr)(n cc m:Nat)(vy:Value)(xs ys:List Value)(d:Nat)(ak:List Nat)(is:List Nat)
 (hp:bF is cs=some ([own E sz (.slice A n cc) n xs],rest)) (aJ:fD aa sz tx vy m ys) (hb:(n+m)*bytes<=140737488355328)
 (k: ∀A' ai,bf HB f fn R D aa ak ((d,.slice A' (n+m) ai)::env) (own E sz (.slice A' (n+m) ai) (n+m) (xs++ys)::rest))
 (N: ∀u,(cj fn.ntmps (bI (bd fn) path []) env).map (λ q=>(q.1.op,bB u env x,bB u env y,q.1.dst,q.2))=some (.call ⟨.builtin .append,#[x,y],#[t,tx]⟩,.slice A n cc,vy,some d,bI (bd fn) ak []):=by intros;kernel_rfl):
 bf HB f fn R D aa path env cs:=by
 have a:=N (λ _=>undef);cases ho:cj fn.ntmps (bI (bd fn) path []) env with
 |none=>rw[ho]at a;cases a
 |some q=>
  obtain⟨o,B⟩:=q;have H: ∀u,o.op=.call ⟨.builtin .append,#[x,y],#[t,tx]⟩/\bB u env x=.slice A n cc/\bB u env y=vy/\o.dst=some d/\B=bI (bd fn) ak []:=by
   intro u;have h:=N u;rw[ho]at h;simp at h;exact h
  obtain⟨aw,_,_,az,rfl⟩:=H (λ _=>undef);refine lu.op ho (ot st aw (λ u=>(H u).2.1) (λ u=>(H u).2.2.1) (bR hp) aJ hb) ?_;rintro v C M _ ⟨A',ai,rfl,rfl,rfl⟩;rw[az];exact k A' ai
theorem kC.vN(e:Nat)(x y:Operand)(t tx:Nat){E sz bytes:Nat}(st:gL t E sz bytes)(A:Option Addr)(n cc m:Nat)(vy:Value)(xs ys:List Value)(d:Nat)(F p:List Nat)(is:List Nat)
 (hp:bF is cs=some ([own E sz (.slice A n cc) n xs],rest)) (aJ:fD aa sz tx vy m ys) (hb:(n+m)*bytes<=140737488355328)
 (k: ∀A' ai,sb HB f fn R D aa path ak F p ((d,.slice A' (n+m) ai)::env) (own E sz (.slice A' (n+m) ai) (n+m) (xs++ys)::rest))
 (hX:X.filter (λ j=>!pre (eV (aI fn path)) j e)=F:=by kernel_rfl) (z:rem.erase e=p:=by kernel_rfl)
 (N: ∀u,(fK fn.ntmps (aI fn path) env e).map (λ q=>(q.op,bB u env x,bB u env y,q.dst))=some (.call ⟨.builtin .append,#[x,y],#[t,tx]⟩,.slice A n cc,vy,some d):=by intros;kernel_rfl):
 kC HB f fn R D aa path ak e X rem env cs:=by
 have a:=N (λ _=>undef);cases ho:fK fn.ntmps (aI fn path) env e with
 |none=>rw[ho]at a;cases a
 |some o=>
  have H: ∀u,o.op=.call ⟨.builtin .append,#[x,y],#[t,tx]⟩/\bB u env x=.slice A n cc/\bB u env y=vy/\o.dst=some d:=by
   intro u;have h:=N u;rw[ho]at h;simp at h;exact h
  obtain⟨aw,_,_,az⟩:=H (λ _=>undef);refine kC.op (Q:=λ v C M=> ∃A' ai,v=.slice A' (n+m) ai/\C=aa/\M=own E sz (.slice A' (n+m) ai) (n+m) (xs++ys)::rest) ho hX z (λ u w hw=>?_) ?_;obtain⟨v,w',C,M,V,hle,hh,K⟩:=ot st aw (λ u=>(H u).2.1) (λ u=>(H u).2.2.1) (bR hp) aJ hb u w hw;exact⟨v,w',C,M,.inl V,hle,hh,K⟩;rintro v C M _ ⟨A',ai,rfl,rfl,rfl⟩;rw[az];exact k A' ai
theorem tw(aw az:Nat)(k1:kC HB f fn R D aa path ak aw X rem env cs)(k2:kC HB f fn R D aa path ak az X rem env cs)(ah:rem.isEmpty=false:=by kernel_rfl)
 (q:(rem.all λ i=>dE (aI fn path) i||!jf (eV (aI fn path)) i rem)=true:=by kernel_rfl)
 (he:rem.filter (λ e=>jf (eV (aI fn path)) e rem)=[aw,az]:=by kernel_rfl):eS HB f fn R D aa path ak X rem env cs:=
 eS.wait ah q λ o hm=>by
  rw[he]at hm;rcases G6.1 hm with rfl|hm
  exact k1;rw[HC.1 hm];exact k2
theorem cut{ι:Type}(bn:ι->au)(rA:List Nat)(a:ι->Ev)(l:ι->List Chunk)(H:ι->Prop)(k1: ∀i,H i->bf HB f fn R D (bn i) rA (a i) (l i))
 (k2:(∀i,H i->bf HB f fn R D (bn i) rA (a i) (l i))->bf HB f fn R D aa path env cs):bf HB f fn R D aa path env cs:=k2 k1
end
abbrev u0:Nat->Value:=λ _=>undef
section
variable{f:FuncId}{fn:Func}{R:Ending->World->Prop}{D:List Deferred}{aa:au}{path ak:List Nat}{env:Ev}{cs:List Chunk}
def vR(is:List Nat)(cs:List Chunk):List Chunk:=match bF is cs with|some p=>p.2|none=>[]
def mP(is:List Nat)(cs:List Chunk):List Chunk:=match bF is cs with|some p=>p.1|none=>[]
theorem eo{is}{cs}(h:(bF is cs).isSome=true):bF is cs=some (mP is cs,vR is cs):=by
 unfold mP vR;cases hp:bF is cs with
 |none=>rw[hp]at h;cases h
 |some p=>rfl
end
structure St where
 p:List Nat
 e:Ev
 c:List Chunk
def rp(p:List Nat)(k:Nat)(s:List Nat):List Nat:=p.take (p.length-k)++s
def pI:List Nat->List Nat
 |[]=>[]
 |x::r=>match r with
  |[]=>[x+1]
  |_=>x::pI r
def kp(K:List Nat)(e:Ev):Ev:=K.map λ t=>(t,(look e t).getD undef)
abbrev n0:Nat->Nat:=λ _=>0
class Vy(α:Type)where
 v:α->Value
instance:Vy Int:=⟨λ n=>vi n⟩
instance:Vy Bool:=⟨λ n=>vb n⟩
instance:Vy ByteArray:=⟨λ n=>vs n⟩
instance:Vy Value:=⟨λ n=>n⟩
noncomputable def xr(fn:Func)(m:Nat)(aJ:List Nat)(u:Nat->Value)(g:Nat->Nat)(s:St):Option Out:=exec HB fn.ntmps u g m aJ (bI (bd fn) s.p []) s.e s.c 0 []
noncomputable def s1(fn:Func)(m:Nat)(aJ:List Nat)(k:Nat)(gE K:List Nat)(g:Nat->Nat)(s:St):St:=match xr fn m aJ u0 g s with
 |some o=>⟨rp s.p k gE,kp K o.env,o.cs⟩
 |none=>s
noncomputable def s0(fn:Func)(m:Nat)(aJ p K:List Nat)(g:Nat->Nat)(s:St):St:=match xr fn m aJ u0 g s with
 |some o=>⟨p,kp K o.env,o.cs⟩
 |none=>s
noncomputable def oI(o:Option Out):List (Nat×Nat):=match o with|some o=>o.es|none=>[]
noncomputable def s2(t:Nat)(v:Value)(s:St):St:=⟨s.p,(t,v)::s.e,s.c⟩
noncomputable def cD(fn:Func)(s:St):Option Nat:=(cj fn.ntmps (bI (bd fn) s.p []) s.e).bind λ x=>x.1.dst
noncomputable def s3(fn:Func)(is:List Nat)(v:Value)(M:List Chunk)(s:St):St:=⟨pI s.p,dF (cD fn s) v s.e,M++vR is s.c⟩
noncomputable def s4(fn:Func)(v:Value)(s:St):St:=⟨pI s.p,dF (cD fn s) v s.e,s.c⟩
noncomputable def s9(is:List Nat)(M:List Chunk)(s:St):St:=⟨s.p,s.e,M++vR is s.c⟩
def sV(i j:Nat)(v:Value)(c:List Chunk):List Chunk:=match c[i]? with
 |some (.av b T l)=>c.set i (.av b T (l.set j v))
 |_=>c
def sC(i:Nat)(x:Chunk)(c:List Chunk):List Chunk:=c.set i x
noncomputable def s6(i j:Nat)(v:Value)(s:St):St:=⟨s.p,s.e,sV i j v s.c⟩
noncomputable def s7(e:Ev)(K:List Nat)(g:List Chunk->List Chunk)(s:St):St:=⟨s.p,e++kp K s.e,g s.c⟩
noncomputable def s8(i:Nat)(x:Chunk)(s:St):St:=⟨s.p,s.e,sC i x s.c⟩
def yB(o:Op):Option (TypeId×Operand×Operand):=match o with| .indexAddr T x i=>some (T,x,i)|_=>none
def r9(v:Value):Nat:=match v with| .slice (some a) _ _=>a.block|_=>0
def lV(v:Value):Nat:=match v with| .slice _ _ c=>c|_=>0
noncomputable def yb(o:Option Oper)(e:Ev):Value:=match o with
 |some o=>match yB o.op with
  |some y=>bB u0 e y.2.1
  |none=>undef
 |none=>undef
noncomputable def oA(fn:Func)(s:St):Option Oper:=(cj fn.ntmps (bI (bd fn) s.p []) s.e).map (·.1)
section
variable{f:FuncId}{fn:Func}{R:Ending->World->Prop}{D:List Deferred}{aa:au}{s:St}{p:List Nat}{e:Ev}{c:List Chunk}
structure Z(f:FuncId)(fn:Func)(R:Ending->World->Prop)(D:List Deferred)(aa:au)(s:St):Prop where
 x:bf HB f fn R D aa s.p s.e s.c
theorem zg(h:Z f fn R D aa ⟨p,e,c⟩):bf HB f fn R D aa p e c:=h.x
theorem aW{g:FuncId}{args:List Value}{M:List Chunk}{ca:Value->List Chunk->au->Prop}(hf:HB.funcs[g]?=some fn)
 (h: ∀F,Z g fn (SR aa F ca) [] aa ⟨[],kv 0 args,M++F⟩) (hb:fn.body=some (bd fn):=by kernel_rfl) (O:Nat.ble args.length fn.ntmps=true:=by kernel_rfl):Sp g args M aa ca:=
 Spec.body hf hb O λ F=>(h F).x
theorem rZ(m:Nat)(aJ:List Nat)(ak:List Nat)(b:(Nat->Nat)->Ev)(M:(Nat->Nat)->List Chunk)
 (k: ∀g,bf HB f fn R D aa ak (b g) (M g))
 (G: ∀u g,(xr fn m aJ u g s).map (λ o=>(o.todo,(b g).map (λ x=>look o.env x.1),o.cs))=some (bI (bd fn) ak [],(b g).map (λ x=>some x.2),M g):=by intros;kernel_rfl)
 (H: ∀u g,(xr fn m aJ u g s).map (λ o=>o.es.map (·.1))=(xr fn m aJ u g s).map (λ o=>o.es.map (·.2)):=by intros;kernel_rfl):
 Z f fn R D aa s:=⟨rn m aJ ak b M k G H⟩
theorem Gl(m:Nat)(aJ:List Nat)(k:Nat)(gE K:List Nat)(h: ∀g,Z f fn R D aa (s1 fn m aJ k gE K g s))
 (G: ∀u g,(xr fn m aJ u g s).map (λ o=>(o.todo,(s1 fn m aJ k gE K g s).e.map (λ x=>look o.env x.1),o.cs,o.es,o.es.map (·.1)))=some (bI (bd fn) (rp s.p k gE) [],(s1 fn m aJ k gE K g s).e.map (λ x=>some x.2),(s1 fn m aJ k gE K g s).c,oI (xr fn m aJ u0 g s),(oI (xr fn m aJ u0 g s)).map (·.2))):Z f fn R D aa s:=by
 have hp: ∀g,(s1 fn m aJ k gE K g s).p=rp s.p k gE:=λ g=>by
  have:=G u0 g;unfold s1;cases L:xr fn m aJ u0 g s with
  |none=>rw[L]at this;cases this
  |some o=>rfl
 refine⟨bf.run m aJ (rp s.p k gE) (λ g=>(s1 fn m aJ k gE K g s).e) (λ g=>(s1 fn m aJ k gE K g s).c) (λ u g=>?_) (λ u g=>?_) (λ g=>?_)⟩;have:=G u g;change(xr fn m aJ u g s).map _=_;cases L:xr fn m aJ u g s with
 |none=>rw[L]at this;cases this
 |some o=>
  rw[L]at this;simp only[Hd,G8,He]at this⊢;exact⟨this.1,this.2.1,this.2.2.1⟩
 have h:=G u g;have N:=G u0 g;change(xr fn m aJ u g s).map _=(xr fn m aJ u g s).map _;cases L:xr fn m aJ u g s with
 |none=>rfl
 |some o=>
  rw[L]at h;simp only[Hd,G8,He]at h⊢;rw[h.2.2.2.2,<-h.2.2.2.1]
 have l:=(h g).x;rw[hp g]at l;exact l
theorem fj(m:Nat)(aJ:List Nat)(k:Nat)(gE K:List Nat)(G: ∀u g,(xr fn m aJ u g s).map (λ o=>(o.todo,(s1 fn m aJ k gE K g s).e.map (λ x=>look o.env x.1),o.cs,o.es,o.es.map (·.1)))=some (bI (bd fn) (rp s.p k gE) [],(s1 fn m aJ k gE K g s).e.map (λ x=>some x.2),(s1 fn m aJ k gE K g s).c,oI (xr fn m aJ u0 g s),(oI (xr fn m aJ u0 g s)).map (·.2)):=by intros;kernel_rfl)
 (h: ∀g,Z f fn R D aa (s1 fn m aJ k gE K g s)):Z f fn R D aa s:=Gl m aJ k gE K h G
theorem rv(m:Nat)(aJ:List Nat)(k:Nat)(gE K:List Nat)(G: ∀u g,(xr fn m aJ u g s).map (λ o=>(o.todo,(s1 fn m aJ k gE K n0 s).e.map (λ x=>look o.env x.1),o.cs,o.es,o.es.map (·.1)))=some (bI (bd fn) (rp s.p k gE) [],(s1 fn m aJ k gE K n0 s).e.map (λ x=>some x.2),(s1 fn m aJ k gE K n0 s).c,oI (xr fn m aJ u0 n0 s),(oI (xr fn m aJ u0 n0 s)).map (·.2)):=by intros;kernel_rfl)
 (h:Z f fn R D aa (s1 fn m aJ k gE K n0 s)):Z f fn R D aa s:=by
 have hp:(s1 fn m aJ k gE K n0 s).p=rp s.p k gE:=by
  have:=G u0 n0;unfold s1;cases L:xr fn m aJ u0 n0 s with
  |none=>rw[L]at this;cases this
  |some o=>rfl
 refine⟨bf.run m aJ (rp s.p k gE) (λ _=>(s1 fn m aJ k gE K n0 s).e) (λ _=>(s1 fn m aJ k gE K n0 s).c) (λ u g=>?_) (λ u g=>?_) (λ g=>?_)⟩;have:=G u g;change(xr fn m aJ u g s).map _=_;cases L:xr fn m aJ u g s with
 |none=>rw[L]at this;cases this
 |some o=>
  rw[L]at this;simp only[Hd,G8,He]at this⊢;exact⟨this.1,this.2.1,this.2.2.1⟩
 have h:=G u g;change(xr fn m aJ u g s).map _=(xr fn m aJ u g s).map _;cases L:xr fn m aJ u g s with
 |none=>rfl
 |some o=>
  rw[L]at h;simp only[Hd,G8,He]at h⊢;rw[h.2.2.2.2,<-h.2.2.2.1]
 have l:=h.x;rw[hp]at l;exact l
theorem ra(m:Nat)(aJ p K:List Nat)(G: ∀u g,(xr fn m aJ u g s).map (λ o=>(o.todo,(s0 fn m aJ p K g s).e.map (λ x=>look o.env x.1),o.cs,o.es,o.es.map (·.1)))=some (bI (bd fn) p [],(s0 fn m aJ p K g s).e.map (λ x=>some x.2),(s0 fn m aJ p K g s).c,oI (xr fn m aJ u0 g s),(oI (xr fn m aJ u0 g s)).map (·.2)):=by intros;kernel_rfl)
 (h: ∀g,Z f fn R D aa (s0 fn m aJ p K g s)):Z f fn R D aa s:=by
 have hp: ∀g,(s0 fn m aJ p K g s).p=p:=λ g=>by
  have:=G u0 g;unfold s0;cases L:xr fn m aJ u0 g s with
  |none=>rw[L]at this;cases this
  |some o=>rfl
 refine⟨bf.run m aJ p (λ g=>(s0 fn m aJ p K g s).e) (λ g=>(s0 fn m aJ p K g s).c) (λ u g=>?_) (λ u g=>?_) (λ g=>?_)⟩;have:=G u g;change(xr fn m aJ u g s).map _=_;cases L:xr fn m aJ u g s with
 |none=>rw[L]at this;cases this
 |some o=>
  rw[L]at this;simp only[Hd,G8,He]at this⊢;exact⟨this.1,this.2.1,this.2.2.1⟩
 have h:=G u g;change(xr fn m aJ u g s).map _=(xr fn m aJ u g s).map _;cases L:xr fn m aJ u g s with
 |none=>rfl
 |some o=>
  rw[L]at h;simp only[Hd,G8,He]at h⊢;rw[h.2.2.2.2,<-h.2.2.2.1]
 have l:=(h g).x;rw[hp g]at l;exact l
theorem iz(t:Nat)(c:Bool)(B:look s.e t=some (.bool c):=by kernel_rfl)
 (k1:c=true->Z f fn R D aa (s2 t (vb true) s)) (k2:c=false->Z f fn R D aa (s2 t (vb false) s)):Z f fn R D aa s:=⟨bf.ite t B (λ h=>(k1 h).x) λ h=>(k2 h).x⟩
theorem cz(is:List Nat){g:FuncId}{args:List Value}{M:List Chunk}{ca:Value->List Chunk->au->Prop}(E:Sp g args M aa ca)(z:mP is s.c=M:=by kernel_rfl)(aJ:(bF is s.c).isSome=true:=by kernel_rfl)(G: ∀u,(cj fn.ntmps (bI (bd fn) s.p []) s.e).bind (λ x=>(pv HB (execOp (bB u s.e) x.1)).map λ y=>(y,x.1.dst,x.2))=some (.enter g args.toArray,cD fn s,bI (bd fn) (pI s.p) []):=by intros;kernel_rfl)
 (k: ∀v M' C,au.le aa C->ca v M' C->Z f fn R D C (s3 fn is v M' s)):
 Z f fn R D aa s:=⟨cl g args (cD fn s) (pI s.p) is E (z▸eo aJ) (λ v M' i l p=>(k v M' i l p).x) G⟩
theorem ez{gI:au}{F:List Chunk}{ca:Value->List Chunk->au->Prop}(hint:Nat)(v:Value)(M':List Chunk)
 (is:List Nat) (hl:au.le gI aa) (k:ca v M' aa) (hf:HB.funcs[f]?=some fn:=by kernel_rfl) (hp:vR is s.c=M'++F:=by kernel_rfl) (aJ:(bF is s.c).isSome=true:=by kernel_rfl)
 (N:jx (bI (bd fn) s.p [])=true:=by kernel_rfl)
 (G: ∀u,(lx HB (bq [hint]) (fJ fn λ t=>bB u s.e (.tmp t)) 0 s.c []).map (·.1)=some v:=by intros;kernel_rfl)
 (H: ∀u,(lx HB (bq [hint]) (fJ fn λ t=>bB u s.e (.tmp t)) 0 s.c []).map (·.2.map (·.1))=(lx HB (bq [hint]) (fJ fn λ t=>bB u s.e (.tmp t)) 0 s.c []).map (·.2.map (·.2)):=by intros;kernel_rfl):
 Z f fn (SR gI F ca) [] aa s:=⟨rt hf hint v M' is (hp▸eo aJ) hl k N G H⟩
theorem lz{B:St}(h:Z f fn R D aa B)(hp:bI (bd fn) s.p []=bI (bd fn) B.p []:=by kernel_rfl)(he:B.e.map (λ x=>look s.e x.1)=B.e.map (λ x=>some x.2):=by kernel_rfl)(J:s.c=B.c:=by kernel_rfl):Z f fn R D aa s:=by
 refine⟨λ a w G H S=>?_⟩;rw[hp];exact h.x a w (hk G he) H (J▸S)
theorem gz(h:bf HB f fn R D aa p e c)(hp:bI (bd fn) s.p []=bI (bd fn) p []:=by kernel_rfl)(he:e.map (λ x=>look s.e x.1)=e.map (λ x=>some x.2):=by kernel_rfl)(J:s.c=c:=by kernel_rfl):Z f fn R D aa s:=lz (B:=⟨p,e,c⟩) ⟨h⟩ hp he J
theorem sv{α:Type}[Vy α](t:Nat){a b:α}(h:a=b)(hl:look s.e t=some (Vy.v a):=by kernel_rfl)
 (k:Z f fn R D aa (s2 t (Vy.v b) s)):Z f fn R D aa s:=by
 subst h;refine⟨λ x w he hd hh=>k.x x w ⟨he.1,λ t' v hv=>?_⟩ hd hh⟩;simp only[s2,look]at hv;cases hb:Nat.beq t t' with
 |true=>rw[hb]at hv;simp at hv;subst hv;rw[<-G2 hb];exact he.2 _ _ hl
 |false=>rw[hb]at hv;simp at hv;exact he.2 _ _ hv
theorem sw{α:Type}[Vy α](i j:Nat){a b:α}(h:a=b)(hl:s.c=sV i j (Vy.v a) s.c:=by kernel_rfl)
 (k:Z f fn R D aa (s6 i j (Vy.v b) s)):Z f fn R D aa s:=by
 subst h;refine⟨λ x w he hd hh=>k.x x w he hd ?_⟩;show Heap aa (sV i j (Vy.v a) s.c) w;rw[<-hl];exact hh
theorem dz(is:List Nat)(aJ:(bF is s.c).isSome=true:=by kernel_rfl)
 (k:Z f fn R D aa (s9 is [] s)):Z f fn R D aa s:=by
 refine⟨λ a w he hd hh=>k.x a w he hd ?_⟩;have h:=hh.perm (bR (eo aJ));change Heap aa (vR is s.c) w;revert h;generalize mP is s.c=l;intro h;induction l with
 |nil=>exact h
 |cons x xs af=>exact af h.tail
theorem oz(is:List Nat)(aJ:(bF is s.c).isSome=true:=by kernel_rfl)
 (k:Z f fn R D aa (s9 is (mP is s.c) s)):Z f fn R D aa s:=
 ⟨λ a w he hd hh=>k.x a w he hd (hh.perm (bR (eo aJ)))⟩
theorem Gg(i:Nat){b T:Nat}{cells:List Value}(x:Chunk)(L:x=.av b T cells:=by rfl)(z:mP [i] s.c=[x]:=by kernel_rfl)(aJ:(bF [i] s.c).isSome=true:=by kernel_rfl)
 (k: ∀C,au.le aa C->C b=some (.cells cells.toArray T (0,0))->Z f fn R D C (s9 [i] [] s)):Z f fn R D aa s:=by
 subst L;refine⟨λ a w he hd hh=>?_⟩;have h:=hh.perm (bR (eo aJ));rw[z]at h;obtain⟨G,H⟩:=Heap.freeze h;exact(k _ (au.jv H) (by simp[au.set])).x a w he hd G
theorem fo(i:Nat)(E sz:Nat)(A:Option Addr)(n c:Nat)(xs:List Value)(z:mP [i] s.c=[own E sz (vl A n c) n xs]:=by kernel_rfl)(aJ:(bF [i] s.c).isSome=true:=by kernel_rfl)
 (k: ∀C,au.le aa C->wb C E n c A xs->Z f fn R D C (s9 [i] [] s)):Z f fn R D aa s:=by
 refine⟨λ a w he hd hh=>?_⟩;have h:=hh.perm (bR (eo aJ));rw[z]at h;obtain⟨C,G,H,S⟩:=Heap.ee h;exact(k C G S).x a w he hd H
theorem nz(E sz:Nat)(k:Z f fn R D aa ⟨s.p,s.e,own E sz vz 0 []::s.c⟩):Z f fn R D aa s:=⟨bf.kc E sz k.x⟩
theorem cP{b off:Nat}{cells:List Value}{ar:Array Value}{T:TypeId}{fz:Nat×Nat}(hb:aa b=some (.cells ar T fz))(J: ∀j v,cells[j]?=some v->ar[off+j]?=some v)(k:Z f fn R D aa ⟨s.p,s.e,.ro b off cells::s.c⟩):Z f fn R D aa s:=⟨bf.ro hb J k.x⟩
theorem eW{b:Nat}{cells:List Value}{ar:Array Value}{T:TypeId}{fz:Nat×Nat}(hb:aa b=some (.cells ar T fz))(J: ∀(j:Nat)(v:Value),cells[j]?=some v->ar[j]?=some v)(k:Z f fn R D aa ⟨s.p,s.e,.ro b 0 cells::s.c⟩):Z f fn R D aa s:=⟨bf.ro (off:=0) hb (λ j v h=>by rw[HR];exact J j v h) k.x⟩
theorem wz{ι:Type}(m:ι->Nat)(im:ι->au)(K:List Nat)(ev:ι->Ev)(g:ι->List Chunk->List Chunk)(inv:ι->Prop)(i0:ι)(N:inv i0)(he:(s7 (ev i0) K (g i0) s).e.map (λ x=>look s.e x.1)=(s7 (ev i0) K (g i0) s).e.map (λ x=>some x.2):=by kernel_rfl)(J:s.c=g i0 s.c:=by kernel_rfl)
 (step: ∀i,inv i->(∀j,inv j->m j<m i->Z f fn R D (im j) (s7 (ev j) K (g j) s))->Z f fn R D (im i) (s7 (ev i) K (g i) s)):Z f fn R D (im i0) s:=
 lz (B:=s7 (ev i0) K (g i0) s) ⟨bf.loop (path:=s.p) m im (λ i=>ev i++kp K s.e) (λ i=>g i s.c) inv i0 N λ i hi af=>(step i hi λ j hj hl=>⟨af j hj hl⟩).x⟩ rfl he J
theorem xz{E sz bytes T:Nat}{k n:Nat}(st:gL T E sz bytes)(h:k<n)(G: ∀u,(cj fn.ntmps (bI (bd fn) s.p []) s.e).bind (λ x=>(yB x.1.op).map λ y=>(y.1,bB u s.e y.2.1,bB u s.e y.2.2,x.1.dst,x.2))=some (T,vl (sa (r9 (yb (oA fn s) s.e)) 0) n (lV (yb (oA fn s) s.e)),vi k,cD fn s,bI (bd fn) (pI s.p) []):=by intros;kernel_rfl)
 (J:Z f fn R D aa (s4 fn (vp (r9 (yb (oA fn s) s.e)) (k*sz)) s)):Z f fn R D aa s:=by
 have N:=G u0;cases ho:cj fn.ntmps (bI (bd fn) s.p []) s.e with
 |none=>rw[ho]at N;cases N
 |some x=>
  obtain⟨⟨dst,op,ty,pos,af,g⟩,B⟩:=x;rw[ho]at N;simp only[Hl]at N;cases op with
  |indexAddr T' a b=>
   simp only[yB,Hd,G8,He]at N;obtain⟨rfl,ha,hb,e3,aS⟩:=N;refine⟨va (.indexAddr T' a b) _ _ (cD fn s) (pI s.p) (bG (x:=a) (i:=b) (c:=lV (yb (oA fn s) s.e)) (g:=r9 (yb (oA fn s) s.e)) st h) J.x λ u=>?_⟩;have H:=G u;rw[ho]at H⊢;simp only[Hl,yB,Hd,G8,He]at H;obtain⟨_,j,l,_,_⟩:=H;simp only[Hd,Op.operands,G8,He];refine⟨trivial,?_,e3,aS⟩;simp only[HF,HG];rw[j,l]
  |_=>simp[yB]at N
theorem e5(o:Op)(vs:List Value){v:Value}(J:h3 HB o vs v)(G: ∀u,(cj fn.ntmps (bI (bd fn) s.p []) s.e).map (λ x=>(x.1.op,x.1.op.operands.toList.map (bB u s.e),x.1.dst,x.2))=some (o,vs,cD fn s,bI (bd fn) (pI s.p) []):=by intros;kernel_rfl)
 (k:Z f fn R D aa (s4 fn v s)):
 Z f fn R D aa s:=⟨va o vs v (cD fn s) (pI s.p) J k.x G⟩
end
structure jF where
 s:St
 q:List Nat
 X:List Nat
 r:List Nat
def sg:List Nat->List Nat
 |a::n::r=>List.range' a n++sg r
 |_=>[]
def hl:List Nat->Nat->Nat
 |a::h::r,i=>cond (Nat.beq a i) h (hl r i)
 |_,_=>0
noncomputable def d0(fn:Func)(s:St):jF:=⟨s,s.p++[(aI fn s.p).size+1],[],List.range (aI fn s.p).size⟩
noncomputable abbrev jF.ops(d:jF)(fn:Func):Array Oper:=aI fn d.s.p
noncomputable abbrev jF.pm(d:jF)(fn:Func):List (List Nat):=eV (aI fn d.s.p)
noncomputable def xc(fn:Func)(u:Nat->Value)(l aJ:List Nat)(d:jF):=gS HB fn.ntmps u (d.ops fn) (d.pm fn) d.s.c (sg l) aJ d.s.e d.X d.r []
noncomputable def d1(fn:Func)(l aJ K:List Nat)(d:jF):jF:=match xc fn u0 l aJ d with
 |some r=>⟨⟨d.s.p,kp K r.1,d.s.c⟩,d.q,r.2.1,r.2.2.1⟩
 |none=>d
noncomputable def d2(t:Nat)(v:Value)(d:jF):jF:=⟨s2 t v d.s,d.q,d.X,d.r⟩
noncomputable def d3(d:jF):St:=⟨d.q,d.s.e,d.s.c⟩
noncomputable def eO(fn:Func)(d:jF):Nat:=(d.r.filter λ e=>jf (d.pm fn) e d.r).headD 0
noncomputable def dX(fn:Func)(e:Nat)(d:jF):List Nat:=d.X.filter λ j=>!pre (d.pm fn) j e
noncomputable def eD(fn:Func)(e:Nat)(d:jF):Option Nat:=(fK fn.ntmps (d.ops fn) d.s.e e).bind (·.dst)
noncomputable def d5(fn:Func)(e:Nat)(is:List Nat)(v:Value)(M:List Chunk)(d:jF):jF:=⟨⟨d.s.p,dF (eD fn e d) v d.s.e,M++vR is d.s.c⟩,d.q,dX fn e d,d.r.erase e⟩
noncomputable def xe(fn:Func)(e:Nat)(u:Nat->Value)(h:Nat)(g:Nat->Nat)(d:jF):Option (Ev×List Chunk×List (Nat×Nat)):=
 (fK fn.ntmps (d.ops fn) d.s.e e).bind λ o=>(sx HB (bq [h]) g (execOp (bB u d.s.e) o) 0 d.s.c 0 []).bind λ r=>match r.1 with
  | .value v=>some (dF o.dst v d.s.e,r.2.1,r.2.2.2)
  | .skip=>some (dF o.dst undef d.s.e,r.2.1,r.2.2.2)
  |_=>none
noncomputable def d4(fn:Func)(e:Nat)(h:Nat)(K:List Nat)(g:Nat->Nat)(d:jF):jF:=match xe fn e u0 h g d with
 |some r=>⟨⟨d.s.p,kp K r.1,r.2.1⟩,d.q,dX fn e d,d.r.erase e⟩
 |none=>d
noncomputable def d6(fn:Func)(i:Nat)(v:Value)(d:jF):jF:=⟨⟨d.s.p,dF (eD fn i d) v d.s.e,d.s.c⟩,d.q,i::d.X,d.r.erase i⟩
section
variable{f:FuncId}{fn:Func}{R:Ending->World->Prop}{D:List Deferred}{aa:au}{s:St}{d:jF}{e:Nat}
structure ZC(f:FuncId)(fn:Func)(R:Ending->World->Prop)(D:List Deferred)(aa:au)(d:jF):Prop where
 x:eS HB f fn R D aa d.s.p d.q d.X d.r d.s.e d.s.c
structure ZI(f:FuncId)(fn:Func)(R:Ending->World->Prop)(D:List Deferred)(aa:au)(d:jF):Prop where
 x:sb HB f fn R D aa d.s.p d.q d.X d.r d.s.e d.s.c
structure ZE(f:FuncId)(fn:Func)(R:Ending->World->Prop)(D:List Deferred)(aa:au)(e:Nat)(d:jF):Prop where
 x:kC HB f fn R D aa d.s.p d.q e d.X d.r d.s.e d.s.c
theorem qz(hm:HB.follows .mixedOrders=true:=by kernel_rfl)(N:(match bI (bd fn) s.p []with| .code (.region _ ops true)::k=>some (ops.size,k)|_=>none)=some ((aI fn s.p).size,bI (bd fn) (s.p++[(aI fn s.p).size+1]) []):=by kernel_rfl)(a6:mZ (aI fn s.p) (dE (aI fn s.p)) (eV (aI fn s.p))=true:=by kernel_rfl)
 (k:ZC f fn R D aa (d0 fn s)):Z f fn R D aa s:=⟨bf.draw _ _ hm N a6 k.x⟩
theorem kz(l aJ K:List Nat)(G: ∀u,(xc fn u l aJ d).map (λ r=>((d1 fn l aJ K d).s.e.map (λ x=>look r.1 x.1),r.2.1,r.2.2.1))=some ((d1 fn l aJ K d).s.e.map (λ x=>some x.2),(d1 fn l aJ K d).X,(d1 fn l aJ K d).r):=by intros;kernel_rfl)(H: ∀u,(xc fn u l aJ d).map (λ r=>r.2.2.2.map (·.1))=(xc fn u l aJ d).map (λ r=>r.2.2.2.map (·.2)):=by intros;kernel_rfl)
 (k:ZC f fn R D aa (d1 fn l aJ K d)):ZC f fn R D aa d:=by
 have hp:((d1 fn l aJ K d).s.p,(d1 fn l aJ K d).s.c,(d1 fn l aJ K d).q)=(d.s.p,d.s.c,d.q):=by
  unfold d1;cases xc fn u0 l aJ d with
  |none=>rfl
  |some o=>rfl
 simp only[He]at hp;have k:=k.x;rw[hp.1,hp.2.1,hp.2.2]at k;exact⟨eS.run (sg l) aJ _ _ _ G H k⟩
theorem bL(V:d.r=[]:=by kernel_rfl)
 (k:Z f fn R D aa (d3 d)):ZC f fn R D aa d:=by
 have:eS HB f fn R D aa d.s.p d.q d.X [] d.s.e d.s.c:=eS.fin k.x;refine⟨?_⟩;rw[V];exact this
theorem kf(l aJ K:List Nat)(G: ∀u,(xc fn u l aJ d).map (λ r=>((d1 fn l aJ K d).s.e.map (λ x=>look r.1 x.1),r.2.1,r.2.2.1))=some ((d1 fn l aJ K d).s.e.map (λ x=>some x.2),(d1 fn l aJ K d).X,[]):=by intros;kernel_rfl)(H: ∀u,(xc fn u l aJ d).map (λ r=>r.2.2.2.map (·.1))=(xc fn u l aJ d).map (λ r=>r.2.2.2.map (·.2)):=by intros;kernel_rfl)
 (k:Z f fn R D aa (d3 (d1 fn l aJ K d))):ZC f fn R D aa d:=by
 have V:(d1 fn l aJ K d).r=[]:=by
  have:=G u0;unfold d1 at this⊢;cases L:xc fn u0 l aJ d with
  |none=>rw[L]at this;cases this
  |some o=>
   rw[L]at this;simp only[Hd,G8,He]at this;exact this.2.2
 exact kz l aJ K (λ u=>by rw[V];exact G u) H (bL V k)
theorem lP(t:Nat)(c:Bool)(B:look d.s.e t=some (.bool c):=by kernel_rfl)
 (k1:c=true->ZC f fn R D aa (d2 t (vb true) d)) (k2:c=false->ZC f fn R D aa (d2 t (vb false) d)):ZC f fn R D aa d:=⟨eS.ite t B (λ h=>(k1 h).x) λ h=>(k2 h).x⟩
theorem qo{α:Type}[Vy α](t:Nat){a b:α}(h:a=b)(hl:look d.s.e t=some (Vy.v a):=by kernel_rfl)
 (k:ZC f fn R D aa (d2 t (Vy.v b) d)):ZC f fn R D aa d:=by
 subst h;refine⟨λ x w he hd hh=>k.x x w ⟨he.1,λ t' v hv=>?_⟩ hd hh⟩;simp only[d2,s2,look]at hv;cases hb:Nat.beq t t' with
 |true=>rw[hb]at hv;simp at hv;subst hv;rw[<-G2 hb];exact he.2 _ _ hl
 |false=>rw[hb]at hv;simp at hv;exact he.2 _ _ hv
theorem eF(ah:d.r.isEmpty=false:=by kernel_rfl)(q:(d.r.all λ i=>dE (d.ops fn) i||!jf (d.pm fn) i d.r)=true:=by kernel_rfl)(he:d.r.filter (λ e=>jf (d.pm fn) e d.r)=[eO fn d]:=by kernel_rfl)
 (k:ZE f fn R D aa (eO fn d) d):ZC f fn R D aa d:=⟨eS.one _ ah q he k.x⟩
theorem aG(L:List Nat)(G: ∀u,((d.X.map λ i=>(i,hl L i)).map (oQ HB u (d.ops fn) d.s.e d.s.c)).all (·.isSome)=true:=by intros;kernel_rfl)(H: ∀u,((d.X.map λ i=>(i,hl L i)).map (oQ HB u (d.ops fn) d.s.e d.s.c)).map (·.map λ r=>(r.1,r.2.2.1))=((d.X.map λ i=>(i,hl L i)).map (oQ HB u (d.ops fn) d.s.e d.s.c)).map (·.map λ r=>(r.2.1,r.2.2.2)):=by intros;kernel_rfl)
 (k:ZC f fn R D aa d):
 ZI f fn R D aa d:=⟨sb.mk (d.X.map λ i=>(i,hl L i)) (by rw[Hz];exact List.map_id _) G H k.x⟩
theorem th(is:List Nat){g:FuncId}{args:List Value}{M:List Chunk}{ca:Value->List Chunk->au->Prop}(E:Sp g args M aa ca)(z:mP is d.s.c=M:=by kernel_rfl)(aJ:(bF is d.s.c).isSome=true:=by kernel_rfl)(G: ∀u,(fK fn.ntmps (d.ops fn) d.s.e e).bind (λ o=>(pv HB (execOp (bB u d.s.e) o)).map λ y=>(y,o.dst))=some (.enter g args.toArray,eD fn e d):=by intros;kernel_rfl)
 (k: ∀v M' C,au.le aa C->ca v M' C->ZI f fn R D C (d5 fn e is v M' d)):ZE f fn R D aa e d:=
 ⟨kC.call e g args (eD fn e d) is (dX fn e d) (d.r.erase e) rfl rfl G E (z▸eo aJ) λ v M' i l p=>(k v M' i l p).x⟩
theorem nQ(h:Nat)(K:List Nat)(G: ∀u g,(xe fn e u h g d).map (λ r=>((d4 fn e h K g d).s.e.map (λ x=>look r.1 x.1),r.2.1,r.2.2))=(xe fn e u0 h g d).map (λ r=>((d4 fn e h K g d).s.e.map (λ x=>some x.2),r.2.1,r.2.2)):=by intros;kernel_rfl)(H: ∀g,(xe fn e u0 h g d).map (λ r=>r.2.2.map (·.1))=(xe fn e u0 h g d).map (λ r=>r.2.2.map (·.2)):=by intros;kernel_rfl)(S: ∀g,(xe fn e u0 h g d).isSome=true:=by intros;kernel_rfl)
 (k: ∀g,ZI f fn R D aa (d4 fn e h K g d)):ZE f fn R D aa e d:=by
 have hd: ∀g,∃r,xe fn e u0 h g d=some r/\d4 fn e h K g d=⟨⟨d.s.p,kp K r.1,r.2.1⟩,d.q,dX fn e d,d.r.erase e⟩:=λ g=>by
  have Y:=S g;unfold d4;cases L:xe fn e u0 h g d with
  |none=>rw[L]at Y;cases Y
  |some r=>exact⟨r,rfl,rfl⟩
 refine⟨kC.sx e h (dX fn e d) (d.r.erase e) (λ g=>(d4 fn e h K g d).s.e) (λ g=>(d4 fn e h K g d).s.c) rfl rfl (λ u g=>?_) (λ u g=>?_) (λ g=>?_)⟩;obtain⟨r,aw,az⟩:=hd g;have Y:=G u g;rw[aw]at Y;rw[az]at Y⊢;unfold xe at Y;cases ho:fK fn.ntmps (d.ops fn) d.s.e e with
 |none=>rw[ho]at Y;cases Y
 |some o=>
  rw[ho]at Y;simp only[Hl]at Y⊢;cases L:sx HB (bq [h]) g (execOp (bB u d.s.e) o) 0 d.s.c 0 []with
  |none=>rw[L]at Y;cases Y
  |some q=>
   obtain⟨nx,l,n,aF⟩:=q;rw[L]at Y;simp only[Hl]at Y⊢;cases nx with
   |value v=>simp only[Hd,G8,He]at Y⊢;exact⟨Y.1,Y.2.1⟩
   |skip=>simp only[Hd,G8,He]at Y⊢;exact⟨Y.1,Y.2.1⟩
   |_=>cases Y
 obtain⟨r,aw,az⟩:=hd g;have Y:=G u g;have aI:=H g;rw[aw]at Y aI;unfold xe at Y;cases ho:fK fn.ntmps (d.ops fn) d.s.e e with
 |none=>rfl
 |some o=>
  rw[ho]at Y;simp only[Hl]at Y⊢;cases L:sx HB (bq [h]) g (execOp (bB u d.s.e) o) 0 d.s.c 0 []with
  |none=>rfl
  |some q=>
   obtain⟨nx,l,n,aF⟩:=q;rw[L]at Y;simp only[Hl]at Y⊢;simp only[Hd,G8]at aI;cases nx with
   |value v=>simp only[Hd,G8,He]at Y⊢;rw[Y.2.2];exact aI
   |skip=>simp only[Hd,G8,He]at Y⊢;rw[Y.2.2];exact aI
   |_=>cases Y
 obtain⟨r,aw,az⟩:=hd g;have:=(k g).x;rw[az]at this⊢;exact this
theorem uz(h:Nat)(L K:List Nat)(ah:d.r.isEmpty=false:=by kernel_rfl)(q:(d.r.all λ i=>dE (d.ops fn) i||!jf (d.pm fn) i d.r)=true:=by kernel_rfl)(he:d.r.filter (λ e=>jf (d.pm fn) e d.r)=[eO fn d]:=by kernel_rfl)(G: ∀u g,(xe fn (eO fn d) u h g d).map (λ r=>((d4 fn (eO fn d) h K g d).s.e.map (λ x=>look r.1 x.1),r.2.1,r.2.2))=(xe fn (eO fn d) u0 h g d).map (λ r=>((d4 fn (eO fn d) h K g d).s.e.map (λ x=>some x.2),r.2.1,r.2.2)):=by intros;kernel_rfl)(H: ∀g,(xe fn (eO fn d) u0 h g d).map (λ r=>r.2.2.map (·.1))=(xe fn (eO fn d) u0 h g d).map (λ r=>r.2.2.map (·.2)):=by intros;kernel_rfl)(S: ∀g,(xe fn (eO fn d) u0 h g d).isSome=true:=by intros;kernel_rfl)(Y: ∀g u,(((d4 fn (eO fn d) h K g d).X.map λ i=>(i,hl L i)).map (oQ HB u ((d4 fn (eO fn d) h K g d).ops fn) (d4 fn (eO fn d) h K g d).s.e (d4 fn (eO fn d) h K g d).s.c)).all (·.isSome)=true:=by intros;kernel_rfl)(aI: ∀g u,(((d4 fn (eO fn d) h K g d).X.map λ i=>(i,hl L i)).map (oQ HB u ((d4 fn (eO fn d) h K g d).ops fn) (d4 fn (eO fn d) h K g d).s.e (d4 fn (eO fn d) h K g d).s.c)).map (·.map λ r=>(r.1,r.2.2.1))=(((d4 fn (eO fn d) h K g d).X.map λ i=>(i,hl L i)).map (oQ HB u ((d4 fn (eO fn d) h K g d).ops fn) (d4 fn (eO fn d) h K g d).s.e (d4 fn (eO fn d) h K g d).s.c)).map (·.map λ r=>(r.2.1,r.2.2.2)):=by intros;kernel_rfl)
 (k: ∀g,ZC f fn R D aa (d4 fn (eO fn d) h K g d)):
 ZC f fn R D aa d:=eF ah q he (nQ h K G H S λ g=>aG L (Y g) (aI g) (k g))
theorem bj(is:List Nat){g:FuncId}{args:List Value}{M:List Chunk}{ca:Value->List Chunk->au->Prop}(E:Sp g args M aa ca)(ah:d.r.isEmpty=false:=by kernel_rfl)(q:(d.r.all λ i=>dE (d.ops fn) i||!jf (d.pm fn) i d.r)=true:=by kernel_rfl)(he:d.r.filter (λ e=>jf (d.pm fn) e d.r)=[eO fn d]:=by kernel_rfl)(z:mP is d.s.c=M:=by kernel_rfl)(aJ:(bF is d.s.c).isSome=true:=by kernel_rfl)(G: ∀u,(fK fn.ntmps (d.ops fn) d.s.e (eO fn d)).bind (λ o=>(pv HB (execOp (bB u d.s.e) o)).map λ y=>(y,o.dst))=some (.enter g args.toArray,eD fn (eO fn d) d):=by intros;kernel_rfl)
 (k: ∀v M' C,au.le aa C->ca v M' C->ZI f fn R D C (d5 fn (eO fn d) is v M' d)):ZC f fn R D aa d:=
 eF ah q he (th is E z aJ G k)
theorem h6(i:Nat){E sz bytes T:Nat}{k n:Nat}(st:gL T E sz bytes)(h:k<n)(hm:(d.r.contains i&&!dE (d.ops fn) i&&jf (d.pm fn) i d.r)=true:=by kernel_rfl)(G: ∀u,(fK fn.ntmps (d.ops fn) d.s.e i).bind (λ x=>(yB x.op).map λ y=>(y.1,bB u d.s.e y.2.1,bB u d.s.e y.2.2,x.dst))=some (T,vl (sa (r9 (yb (fK fn.ntmps (d.ops fn) d.s.e i) d.s.e)) 0) n (lV (yb (fK fn.ntmps (d.ops fn) d.s.e i) d.s.e)),vi k,eD fn i d):=by intros;kernel_rfl)
 (J:ZC f fn R D aa (d6 fn i (vp (r9 (yb (fK fn.ntmps (d.ops fn) d.s.e i) d.s.e)) (k*sz)) d)):ZC f fn R D aa d:=by
 have N:=G u0;cases ho:fK fn.ntmps (d.ops fn) d.s.e i with
 |none=>rw[ho]at N;cases N
 |some x=>
  obtain⟨dst,op,ty,pos,af,g⟩:=x;rw[ho]at N;simp only[Hl]at N;cases op with
  |indexAddr T' a b=>
   simp only[yB,Hd,G8,He]at N;obtain⟨rfl,ha,hb,e3⟩:=N;refine⟨eS.val i (.indexAddr T' a b) _ _ (eD fn i d) _ _ (bG (x:=a) (i:=b) (c:=lV (yb (fK fn.ntmps (d.ops fn) d.s.e i) d.s.e)) (g:=r9 (yb (fK fn.ntmps (d.ops fn) d.s.e i) d.s.e)) st h) rfl rfl hm (λ u=>?_) J.x⟩;have H:=G u;rw[ho]at H⊢;simp only[Hl,yB,Hd,G8,He]at H;obtain⟨_,j,l,_⟩:=H;simp only[Hd,Op.operands,G8,He];refine⟨trivial,?_,e3⟩;simp only[HF,HG];rw[j,l]
  |_=>simp[yB]at N
theorem nS(i:Nat)(o:Op)(vs:List Value){v:Value}(J:h3 HB o vs v)(hm:(d.r.contains i&&!dE (d.ops fn) i&&jf (d.pm fn) i d.r)=true:=by kernel_rfl)(G: ∀u,(fK fn.ntmps (d.ops fn) d.s.e i).map (λ x=>(x.op,x.op.operands.toList.map (bB u d.s.e),x.dst))=some (o,vs,eD fn i d):=by intros;kernel_rfl)
 (k:ZC f fn R D aa (d6 fn i v d)):ZC f fn R D aa d:=
 ⟨eS.val i o vs v (eD fn i d) _ _ J rfl rfl hm G k.x⟩
end
section
variable{f:FuncId}{fn:Func}{R:Ending->World->Prop}{D:List Deferred}{aa:au}{s:St}{g:FuncId}{args:List Value}{M:List Chunk}
theorem cR(is:List Nat){X:Value}{Y:List Chunk}(E:Sp g args M aa (λ v M' _=>v=X/\M'=Y))(z:mP is s.c=M:=by kernel_rfl)(aJ:(bF is s.c).isSome=true:=by kernel_rfl)(G: ∀u,(cj fn.ntmps (bI (bd fn) s.p []) s.e).bind (λ x=>(pv HB (execOp (bB u s.e) x.1)).map λ y=>(y,x.1.dst,x.2))=some (.enter g args.toArray,cD fn s,bI (bd fn) (pI s.p) []):=by intros;kernel_rfl)
 (k: ∀C,au.le aa C->Z f fn R D C (s3 fn is X Y s)):Z f fn R D aa s:=cz is E z aJ G (by rintro _ _ j l ⟨rfl,rfl⟩;exact k j l)
theorem cE(is:List Nat){α:Type}{X:α->Value}{Y:α->List Chunk}{P:α->au->Prop}(E:Sp g args M aa (λ v M' i=> ∃r,v=X r/\M'=Y r/\P r i))(z:mP is s.c=M:=by kernel_rfl)(aJ:(bF is s.c).isSome=true:=by kernel_rfl)(G: ∀u,(cj fn.ntmps (bI (bd fn) s.p []) s.e).bind (λ x=>(pv HB (execOp (bB u s.e) x.1)).map λ y=>(y,x.1.dst,x.2))=some (.enter g args.toArray,cD fn s,bI (bd fn) (pI s.p) []):=by intros;kernel_rfl)
 (k: ∀C,au.le aa C-> ∀r,P r C->Z f fn R D C (s3 fn is (X r) (Y r) s)):Z f fn R D aa s:=cz is E z aJ G (by rintro _ _ j l ⟨r,rfl,rfl,h⟩;exact k j l r h)
theorem BQ(is:List Nat){α β:Type}{X:α->β->Value}{Y:α->β->List Chunk}{P:α->β->au->Prop}(E:Sp g args M aa (λ v M' i=> ∃r q,v=X r q/\M'=Y r q/\P r q i))(z:mP is s.c=M:=by kernel_rfl)(aJ:(bF is s.c).isSome=true:=by kernel_rfl)(G: ∀u,(cj fn.ntmps (bI (bd fn) s.p []) s.e).bind (λ x=>(pv HB (execOp (bB u s.e) x.1)).map λ y=>(y,x.1.dst,x.2))=some (.enter g args.toArray,cD fn s,bI (bd fn) (pI s.p) []):=by intros;kernel_rfl)
 (k: ∀C,au.le aa C-> ∀r q,P r q C->Z f fn R D C (s3 fn is (X r q) (Y r q) s)):Z f fn R D aa s:=cz is E z aJ G (by rintro _ _ j l ⟨r,q,rfl,rfl,h⟩;exact k j l r q h)
theorem cT(is:List Nat){α:Type}{X:α->Value}{Y:α->List Chunk}{P:α->au->Prop}(E:Sp g args M aa (λ v M' i=> ∃r,M'=Y r/\v=X r/\P r i))(z:mP is s.c=M:=by kernel_rfl)(aJ:(bF is s.c).isSome=true:=by kernel_rfl)(G: ∀u,(cj fn.ntmps (bI (bd fn) s.p []) s.e).bind (λ x=>(pv HB (execOp (bB u s.e) x.1)).map λ y=>(y,x.1.dst,x.2))=some (.enter g args.toArray,cD fn s,bI (bd fn) (pI s.p) []):=by intros;kernel_rfl)
 (k: ∀C,au.le aa C-> ∀r,P r C->Z f fn R D C (s3 fn is (X r) (Y r) s)):Z f fn R D aa s:=cz is E z aJ G (by rintro _ _ j l ⟨r,rfl,rfl,h⟩;exact k j l r h)
theorem eh(is:List Nat){α β:Type}{X:α->β->Value}{Y:α->β->List Chunk}{P:α->β->au->Prop}(E:Sp g args M aa (λ v M' i=> ∃r q,M'=Y r q/\v=X r q/\P r q i))(z:mP is s.c=M:=by kernel_rfl)(aJ:(bF is s.c).isSome=true:=by kernel_rfl)(G: ∀u,(cj fn.ntmps (bI (bd fn) s.p []) s.e).bind (λ x=>(pv HB (execOp (bB u s.e) x.1)).map λ y=>(y,x.1.dst,x.2))=some (.enter g args.toArray,cD fn s,bI (bd fn) (pI s.p) []):=by intros;kernel_rfl)
 (k: ∀C,au.le aa C-> ∀r q,P r q C->Z f fn R D C (s3 fn is (X r q) (Y r q) s)):Z f fn R D aa s:=cz is E z aJ G (by rintro _ _ j l ⟨r,q,rfl,rfl,h⟩;exact k j l r q h)
theorem cS(is:List Nat){X:Value}{Y:List Chunk}(E:Sp g args M aa (λ v M' _=>M'=Y/\v=X))(z:mP is s.c=M:=by kernel_rfl)(aJ:(bF is s.c).isSome=true:=by kernel_rfl)(G: ∀u,(cj fn.ntmps (bI (bd fn) s.p []) s.e).bind (λ x=>(pv HB (execOp (bB u s.e) x.1)).map λ y=>(y,x.1.dst,x.2))=some (.enter g args.toArray,cD fn s,bI (bd fn) (pI s.p) []):=by intros;kernel_rfl)
 (k: ∀C,au.le aa C->Z f fn R D C (s3 fn is X Y s)):Z f fn R D aa s:=cz is E z aJ G (by rintro _ _ j l ⟨rfl,rfl⟩;exact k j l)
end
def gf:Nat->List Nat->List Nat
 |0,l=>l
 |n+1,l=>1::gf n l
abbrev H6(b:Nat):Chunk:=.av b 105 [vi 0,vs ⟨#[]⟩,vi 0,vi 0,vi 0,vi 0,.pointer none]
abbrev GY(p b:Nat)(ab:ByteArray)(l:Ev):Ev:=(0,vp p 0)::(2,vp b 0)::(4,vi ab.size)::l
noncomputable abbrev gV(s:St):List Nat:=s.e.map (·.1)
def Q1(fn:Func)(m:Nat)(aJ:List Nat)(k:Nat)(gE K:List Nat)(s:St):Prop:= ∀u g,(xr fn m aJ u g s).map (λ o=>(o.todo,(s1 fn m aJ k gE K n0 s).e.map (λ x=>look o.env x.1),o.cs,o.es,o.es.map (·.1)))=some (bI (bd fn) (rp s.p k gE) [],(s1 fn m aJ k gE K n0 s).e.map (λ x=>some x.2),(s1 fn m aJ k gE K n0 s).c,oI (xr fn m aJ u0 n0 s),(oI (xr fn m aJ u0 n0 s)).map (·.2))
def Q0(fn:Func)(m:Nat)(aJ p K:List Nat)(s:St):Prop:= ∀u g,(xr fn m aJ u g s).map (λ o=>(o.todo,(s0 fn m aJ p K n0 s).e.map (λ x=>look o.env x.1),o.cs,o.es,o.es.map (·.1)))=some (bI (bd fn) p [],(s0 fn m aJ p K n0 s).e.map (λ x=>some x.2),(s0 fn m aJ p K n0 s).c,oI (xr fn m aJ u0 n0 s),(oI (xr fn m aJ u0 n0 s)).map (·.2))
section
variable{f:FuncId}{fn:Func}{R:Ending->World->Prop}{D:List Deferred}{aa:au}{s:St}{d:jF}
theorem cq(m:Nat)(k:Nat)(gE K:List Nat)(G:Q1 fn m [] k gE K s:=by intro _ _;kernel_rfl)(h:Z f fn R D aa (s1 fn m [] k gE K n0 s)):Z f fn R D aa s:=rv m [] k gE K G h
theorem aM(m:Nat)(k:Nat)(gE K:List Nat)(G:Q1 fn m [] k gE (K++gV s) s:=by intro _ _;kernel_rfl)(h:Z f fn R D aa (s1 fn m [] k gE (K++gV s) n0 s)):Z f fn R D aa s:=rv m [] k gE (K++gV s) G h
theorem gK(m:Nat)(aJ:List Nat)(k:Nat)(gE K:List Nat)(G:Q1 fn m aJ k gE (K++gV s) s:=by intro _ _;kernel_rfl)(h:Z f fn R D aa (s1 fn m aJ k gE (K++gV s) n0 s)):Z f fn R D aa s:=rv m aJ k gE (K++gV s) G h
theorem h5(m:Nat)(aJ p K:List Nat)(G:Q0 fn m aJ p K s:=by intro _ _;kernel_rfl)(h:Z f fn R D aa (s0 fn m aJ p K n0 s)):Z f fn R D aa s:=by
 have hp:(s0 fn m aJ p K n0 s).p=p:=by
  have:=G u0 n0;unfold s0;cases L:xr fn m aJ u0 n0 s with
  |none=>rw[L]at this;cases this
  |some o=>rfl
 refine⟨bf.run m aJ p (λ _=>(s0 fn m aJ p K n0 s).e) (λ _=>(s0 fn m aJ p K n0 s).c) (λ u g=>?_) (λ u g=>?_) (λ g=>?_)⟩;have:=G u g;change(xr fn m aJ u g s).map _=_;cases L:xr fn m aJ u g s with
 |none=>rw[L]at this;cases this
 |some o=>
  rw[L]at this;simp only[Hd,G8,He]at this⊢;exact⟨this.1,this.2.1,this.2.2.1⟩
 have h:=G u g;change(xr fn m aJ u g s).map _=(xr fn m aJ u g s).map _;cases L:xr fn m aJ u g s with
 |none=>rfl
 |some o=>
  rw[L]at h;simp only[Hd,G8,He]at h⊢;rw[h.2.2.2.2,<-h.2.2.2.1]
 have l:=h.x;rw[hp]at l;exact l
theorem dI(m:Nat)(p K:List Nat)(G:Q0 fn m [] p K s:=by intro _ _;kernel_rfl)(h:Z f fn R D aa (s0 fn m [] p K n0 s)):Z f fn R D aa s:=h5 m [] p K G h
theorem gp(m:Nat)(p K:List Nat)(G:Q0 fn m [] p (K++gV s) s:=by intro _ _;kernel_rfl)(h:Z f fn R D aa (s0 fn m [] p (K++gV s) n0 s)):Z f fn R D aa s:=h5 m [] p (K++gV s) G h
theorem cI(m:Nat)(aJ p K:List Nat)(G:Q0 fn m aJ p (K++gV s) s:=by intro _ _;kernel_rfl)(h:Z f fn R D aa (s0 fn m aJ p (K++gV s) n0 s)):Z f fn R D aa s:=h5 m aJ p (K++gV s) G h
theorem jb(m:Nat)(aJ p K:List Nat)(G: ∀u g,(xr fn m aJ u g s).map (λ o=>(o.todo,(s0 fn m aJ p (K++gV s) g s).e.map (λ x=>look o.env x.1),o.cs,o.es,o.es.map (·.1)))=some (bI (bd fn) p [],(s0 fn m aJ p (K++gV s) g s).e.map (λ x=>some x.2),(s0 fn m aJ p (K++gV s) g s).c,oI (xr fn m aJ u0 g s),(oI (xr fn m aJ u0 g s)).map (·.2)):=by intros;kernel_rfl)(h: ∀g,Z f fn R D aa (s0 fn m aJ p (K++gV s) g s)):Z f fn R D aa s:=ra m aJ p (K++gV s) G h
theorem ya(m:Nat)(aJ:List Nat)(k:Nat)(gE K:List Nat)(G: ∀u g,(xr fn m aJ u g s).map (λ o=>(o.todo,(s1 fn m aJ k gE (K++gV s) g s).e.map (λ x=>look o.env x.1),o.cs,o.es,o.es.map (·.1)))=some (bI (bd fn) (rp s.p k gE) [],(s1 fn m aJ k gE (K++gV s) g s).e.map (λ x=>some x.2),(s1 fn m aJ k gE (K++gV s) g s).c,oI (xr fn m aJ u0 g s),(oI (xr fn m aJ u0 g s)).map (·.2)):=by intros;kernel_rfl)(h: ∀g,Z f fn R D aa (s1 fn m aJ k gE (K++gV s) g s)):Z f fn R D aa s:=fj m aJ k gE (K++gV s) G h
theorem cu(l aJ K:List Nat)(G: ∀u,(xc fn u l aJ d).map (λ r=>((d1 fn l aJ (K++gV d.s) d).s.e.map (λ x=>look r.1 x.1),r.2.1,r.2.2.1))=some ((d1 fn l aJ (K++gV d.s) d).s.e.map (λ x=>some x.2),(d1 fn l aJ (K++gV d.s) d).X,(d1 fn l aJ (K++gV d.s) d).r):=by intros;kernel_rfl)(H: ∀u,(xc fn u l aJ d).map (λ r=>r.2.2.2.map (·.1))=(xc fn u l aJ d).map (λ r=>r.2.2.2.map (·.2)):=by intros;kernel_rfl)(k:ZC f fn R D aa (d1 fn l aJ (K++gV d.s) d)):ZC f fn R D aa d:=kz l aJ (K++gV d.s) G H k
theorem mK(l aJ K:List Nat)(G: ∀u,(xc fn u l aJ d).map (λ r=>((d1 fn l aJ (K++gV d.s) d).s.e.map (λ x=>look r.1 x.1),r.2.1,r.2.2.1))=some ((d1 fn l aJ (K++gV d.s) d).s.e.map (λ x=>some x.2),(d1 fn l aJ (K++gV d.s) d).X,[]):=by intros;kernel_rfl)(H: ∀u,(xc fn u l aJ d).map (λ r=>r.2.2.2.map (·.1))=(xc fn u l aJ d).map (λ r=>r.2.2.2.map (·.2)):=by intros;kernel_rfl)(k:Z f fn R D aa (d3 (d1 fn l aJ (K++gV d.s) d))):ZC f fn R D aa d:=kf l aJ (K++gV d.s) G H k
theorem ja(h:Nat)(L K:List Nat)(ah:d.r.isEmpty=false:=by kernel_rfl)(q:(d.r.all λ i=>dE (d.ops fn) i||!jf (d.pm fn) i d.r)=true:=by kernel_rfl)(he:d.r.filter (λ e=>jf (d.pm fn) e d.r)=[eO fn d]:=by kernel_rfl)(G: ∀u g,(xe fn (eO fn d) u h g d).map (λ r=>((d4 fn (eO fn d) h (K++gV d.s) g d).s.e.map (λ x=>look r.1 x.1),r.2.1,r.2.2))=(xe fn (eO fn d) u0 h g d).map (λ r=>((d4 fn (eO fn d) h (K++gV d.s) g d).s.e.map (λ x=>some x.2),r.2.1,r.2.2)):=by intros;kernel_rfl)(H: ∀g,(xe fn (eO fn d) u0 h g d).map (λ r=>r.2.2.map (·.1))=(xe fn (eO fn d) u0 h g d).map (λ r=>r.2.2.map (·.2)):=by intros;kernel_rfl)(S: ∀g,(xe fn (eO fn d) u0 h g d).isSome=true:=by intros;kernel_rfl)(Y: ∀g u,(((d4 fn (eO fn d) h (K++gV d.s) g d).X.map λ i=>(i,hl L i)).map (oQ HB u ((d4 fn (eO fn d) h (K++gV d.s) g d).ops fn) (d4 fn (eO fn d) h (K++gV d.s) g d).s.e (d4 fn (eO fn d) h (K++gV d.s) g d).s.c)).all (·.isSome)=true:=by intros;kernel_rfl)(aI: ∀g u,(((d4 fn (eO fn d) h (K++gV d.s) g d).X.map λ i=>(i,hl L i)).map (oQ HB u ((d4 fn (eO fn d) h (K++gV d.s) g d).ops fn) (d4 fn (eO fn d) h (K++gV d.s) g d).s.e (d4 fn (eO fn d) h (K++gV d.s) g d).s.c)).map (·.map λ r=>(r.1,r.2.2.1))=(((d4 fn (eO fn d) h (K++gV d.s) g d).X.map λ i=>(i,hl L i)).map (oQ HB u ((d4 fn (eO fn d) h (K++gV d.s) g d).ops fn) (d4 fn (eO fn d) h (K++gV d.s) g d).s.e (d4 fn (eO fn d) h (K++gV d.s) g d).s.c)).map (·.map λ r=>(r.2.1,r.2.2.2)):=by intros;kernel_rfl)(k: ∀g,ZC f fn R D aa (d4 fn (eO fn d) h (K++gV d.s) g d)):ZC f fn R D aa d:=uz h L (K++gV d.s) ah q he G H S Y aI k
theorem eX(t k n:Nat)(B:look s.e t=some (.bool (decide ((k:Int)<n))):=by kernel_rfl)
 (k1:k<n->Z f fn R D aa (s2 t (vb true) s)) (k2: ¬k<n->Z f fn R D aa (s2 t (vb false) s)):Z f fn R D aa s:=iz t _ B (λ h=>k1 (by simpa using h)) λ h=>k2 (by simpa using h)
theorem eL(t:Nat)(c:Bool)(B:look s.e t=some (.bool (!c)):=by kernel_rfl)
 (k1:c=false->Z f fn R D aa (s2 t (vb true) s)) (k2:c=true->Z f fn R D aa (s2 t (vb false) s)):Z f fn R D aa s:=iz t _ B (λ h=>k1 (by simpa using h)) λ h=>k2 (by simpa using h)
end
section
variable{f:FuncId}{fn:Func}{R:Ending->World->Prop}{D:List Deferred}{j0:au}{s:St}
theorem xY(t n:Nat)(K:List Nat)(inv:Nat->au->Prop)(N:inv 0 j0)(he:(s7 [(t,vi ((0:Nat):Int))] K (λ c=>c) s).e.map (λ x=>look s.e x.1)=(s7 [(t,vi ((0:Nat):Int))] K (λ c=>c) s).e.map (λ x=>some x.2):=by kernel_rfl)
 (step: ∀k im,au.le j0 im->inv k im->(∀F a,au.le j0 a->inv F a->n-F<n-k->Z f fn R D a (s7 [(t,vi F)] K (λ c=>c) s))->Z f fn R D im (s7 [(t,vi k)] K (λ c=>c) s)):Z f fn R D j0 s:=
 wz (ι:=Nat×au) (λ i=>n-i.1) (λ i=>i.2) K (λ i=>[(t,vi i.1)]) (λ _ c=>c) (λ i=>au.le j0 i.2/\inv i.1 i.2) ⟨0,j0⟩ ⟨lq,N⟩ he rfl
  λ i hi af=>step i.1 i.2 hi.1 hi.2 λ F a hl h U=>af ⟨F,a⟩ ⟨hl,h⟩ U
end
section
variable{f:FuncId}{fn:Func}{R:Ending->World->Prop}{D:List Deferred}{aa:au}{path ak:List Nat}{X rem:List Nat}{env:Ev}{cs:List Chunk}
theorem Gw(h:Nat)(o:Op)(vs:List Value)(v:Value)(d:Nat)(J:h3 HB o vs v)(b:List (Nat×Nat))(k:eS HB f fn R D aa path ak X rem env cs)
 (hl:look env d=some v:=by kernel_rfl) (hX:b.map (·.1)=X.filter (λ j=>j !=h):=by kernel_rfl)
 (S: ∀u,(fK fn.ntmps (aI fn path) env h).map (λ x=>(x.op,x.op.operands.toList.map (bB u env),x.dst))=some (o,vs,some d):=by intros;kernel_rfl)
 (G: ∀u,(b.map (oQ HB u (aI fn path) env cs)).all (·.isSome)=true:=by intros;kernel_rfl)
 (H: ∀u,(b.map (oQ HB u (aI fn path) env cs)).map (·.map λ r=>(r.1,r.2.2.1))=(b.map (oQ HB u (aI fn path) env cs)).map (·.map λ r=>(r.2.1,r.2.2.2)):=by intros;kernel_rfl):
 sb HB f fn R D aa path ak X rem env cs:=by
 intro a w he hd hh;refine⟨λ j hj=>?_,k a w he hd hh⟩;by_cases c:j=h;subst c;have p:=S (un a);cases ho:fK fn.ntmps (aI fn path) env j with
 |none=>rw[ho]at p;cases p
 |some op=>
  rw[ho]at p;simp at p;obtain⟨aw,az,e3⟩:=p;obtain⟨Q,hg,m⟩:=hE ho;obtain⟨dst,l,ty,pos,af,g⟩:=op;simp only at aw e3;subst aw e3;refine⟨_,v,Q,.inl ⟨cC he hg,by rw[he.eval];exact J.run _ _ _ _ _ _ _ az⟩,?_⟩;have:=he.2 d v hl;obtain⟨I,e⟩:=Array.getElem?_eq_some_iff.1 this;simp only[Act.put]
  congr 1
  refine Array.ext_getElem? λ i=>?_
  by_cases hi:d=i;subst hi;rw[Array.getElem?_setIfInBounds_self];simp[I,e];rw[Array.getElem?_setIfInBounds_ne hi]
 have aq:j∈X.filter (λ j=>j !=h):=List.mem_filter.2 ⟨hj,by simpa using c⟩;rw[<-hX]at aq;obtain⟨x,L,rfl⟩:=Hy.1 aq;have aJ:=List.all_eq_true.1 (G (un a)) _ (Hy.2 ⟨x,L,rfl⟩);obtain⟨r,V⟩:=HA.1 aJ;have C:=H (un a);rw[Hz,Hz]at C;have:=List.map_inj_left.1 C x L;simp[Function.comp_apply,V]at this;exact oO he hh V this.1 this.2
theorem sk(e:Nat)(d:Option Nat)(F p:List Nat)(k:sb HB f fn R D aa path ak F p (dF d undef env) cs)
 (hX:X.filter (λ j=>!pre (eV (aI fn path)) j e)=F:=by kernel_rfl) (z:rem.erase e=p:=by kernel_rfl)
 (G:((aI fn path)[e]?).map (λ o=>(gd (aI fn path) env o.guard,o.dst,iS fn.ntmps o.dst))=some (some false,d,true):=by kernel_rfl):
 kC HB f fn R D aa path ak e X rem env cs:=by
 intro a w he hd hh;cases ho:(aI fn path)[e]? with
 |none=>rw[ho]at G;cases G
 |some o=>
  rw[ho]at G;simp at G;obtain⟨hg,rfl,m⟩:=G;refine⟨o,ho,.inl ⟨cC he hg,?_⟩⟩;obtain⟨p1,_⟩:=cL he he.eval m undef;have U:=k _ w p1 ((put_defers _ _ _).trans hd) hh;rw[<-hX,<-z]at U;exact U
end
end Go.Proofs.YtdpmeahgjjmdiaaGreatDoor
