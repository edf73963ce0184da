/- Part of the proof that laws.FnSchemaAgain answers true. Conditions: none. -/
import Derived.Test.YtdpmeahgjjmdiaaGreatDoorProg
import Derived.KernelRfl
import Derived.Orders
import Derived.Tactics
set_option linter.all false
open Nat renaming eq_of_beq_eq_true->G2,lt_or_ge->Hh
open List renaming all_eq_true->G3,cons_append->Hi,contains_iff_mem->Hw,flatMap_cons->G0,getElem?_eq_none->Hp,getElem?_of_mem->G7,length_erase_of_mem->G_,length_pos_of_mem->Hx,map_map->Hz,mem_append_right->Hk,mem_cons->G6,mem_cons_of_mem->Hb,mem_erase_of_ne->Hr,mem_filter->G5,mem_flatMap->Ha,mem_map->Hy,mem_of_getElem?->GZ,mem_of_mem_erase->G4,mem_range->G9,nil_append->Hj,nodup_append->Hq,nodup_cons->Hn,nodup_range->Hu,not_mem_nil->Hm
open Array renaming ext_getElem?->Ht,getD_eq_getD_getElem?->G1,getElem?_eq_some_iff->Hg,getElem?_modify->Ho,getElem?_setIfInBounds_ne->Hc,getElem?_setIfInBounds_self->Hs
open Option renaming bind_some->Hl,isSome_iff_exists->HA,map_some->Hd
open Option.some renaming injEq->G8
open Prod.mk renaming injEq->He
open Bool renaming not_eq_true'->Hv
namespace Go.Proofs.YtdpmeahgjjmdiaaGreatDoor
open Go
section
theorem om{P:Prop}(h:P:=by omega):P:=h
theorem dc{P:Prop}(h:P:=by decide):P:=h
theorem sm{P:Prop}(h:P:=by simp):P:=h
theorem dm{P:Prop}(h:P:=by dsimp only;omega):P:=h
theorem so{P:Prop}(h:P:=by simp;omega):P:=h
def bs(f:FuncId):Frame:={(default:Frame)with fn:=f,kind:=.normal}
def bd(fn:Func):Code:=fn.body.getD .skip
def ct(P:Program)(f:FuncId)(R:Ending->World->Prop)(todo:List Item)(a:Act)(w:World):Prop:=
 ∀cs,∃e w' j,R e w'/\Comes P (lone ((bs f).at a todo) cs w) (lone j cs w') e/\j.fn=f/\j.leaving P w' e
section
variable{P:Program}{f:FuncId}{R:Ending->World->Prop}{a a':Act}{w w':World}{t t' k:List Item}{fn:Func}{ops:Array Oper}{i:Nat}{rest:List Nat}{o:Oper}
theorem ct.AI(h: ∀cs,step P (lone ((bs f).at a t) cs w)=.next (lone ((bs f).at a' t') cs w'))(r:ct P f R t' a' w'):ct P f R t a w:=
 λ cs=>let⟨e,w2,j,hR,J,G,H⟩:=r cs;⟨e,w2,j,hR,.of_steps (.one (h cs)) J,G,H⟩
theorem n2{args}{c}(hf:P.funcs[f]?=some fn)(hb:fn.body=some c)
 (h:ct P f R [.code c] {tmps:=args++Array.replicate (fn.ntmps-args.size) undef,defers:=[]} w):Calls P f args w R:=by
 intro cs;have d:Frame.enter P f args .normal=
  (bs f).at {tmps:=args++Array.replicate (fn.ntmps-args.size) undef,defers:=[]} [.code c]:=by
  simp[Frame.enter,Frame.at,hf,hb,bs]
 rw[d];exact h cs
theorem ct.ret(hf:P.funcs[f]?=some fn)(hd:a.defers=[]){v}(V:(results fn a.tmps).run P w=.ok v w)(hR:R (.returned v) w):
 ct P f R (.code .ret::k) a w:=
 λ _=>⟨.returned v,w,_,hR,.one step_ret,rfl,rfl,hd,rfl,fn,hf,V⟩
theorem ct.fin(hf:P.funcs[f]?=some fn)(hd:a.defers=[]){v}(V:(results fn a.tmps).run P w=.ok v w)(hR:R (.returned v) w):
 ct P f R [] a w:=
 λ _=>⟨.returned v,w,_,hR,.one step_end,rfl,rfl,hd,rfl,fn,hf,V⟩
theorem ct.DP{v}(ho:ops[i]?=some o)(hw:Region.wanted o (yielded ops a.tmps)=true)(V:(execOp a.eval o).run P w=.ok (.value v) w')
 (h:ct P f R (.inRegion ops rest::k) (a.put o.dst v) w'):ct P f R (.inRegion ops (i::rest)::k) a w:=
 ct.AI (λ cs=>step_lone_go (by
  have c:((bs f).at a (.inRegion ops (i::rest)::k)).finish v=(bs f).at (a.put o.dst v) (.inRegion ops rest::k):=by
   rw[Frame.finish_at,ho];rfl
  rw[stepG_op ho hw,<-c];simp[stepG.apply,V])) h
theorem ct.BO(ho:ops[i]?=some o)(hw:Region.wanted o (yielded ops a.tmps)=true)(V:(execOp a.eval o).run P w=.ok .skip w')
 (h:ct P f R (.inRegion ops rest::k) (a.put o.dst undef) w'):ct P f R (.inRegion ops (i::rest)::k) a w:=
 ct.AI (λ cs=>step_lone_go (by
  have c:((bs f).at a (.inRegion ops (i::rest)::k)).finish undef=(bs f).at (a.put o.dst undef) (.inRegion ops rest::k):=by
   rw[Frame.finish_at,ho];rfl
  rw[stepG_op ho hw,<-c];simp[stepG.apply,V])) h
theorem ct.Fq(ho:ops[i]?=some o)(hw:Region.wanted o (yielded ops a.tmps)=false)
 (h:ct P f R (.inRegion ops rest::k) (a.put o.dst undef) w):ct P f R (.inRegion ops (i::rest)::k) a w:=
 ct.AI (λ cs=>by
  have aJ:=step_op_skip (P:=P) (b:=bs f) (a:=a) (k:=k) (cs:=cs) (w:=w) (ops:=ops) (i:=i) (rest:=rest) (by simp[ho];simpa using hw);simp[ho]at aJ;exact aJ) h
theorem ct.defer{d}(ho:ops[i]?=some o)(hw:Region.wanted o (yielded ops a.tmps)=true)(V:(execOp a.eval o).run P w=.ok (.defer d) w')
 (h:ct P f R (.inRegion ops rest::k) ({a with defers:=d::a.defers}.put o.dst undef) w'):ct P f R (.inRegion ops (i::rest)::k) a w:=
 ct.AI (λ cs=>step_lone_go (by
  have:({(bs f).at a (.inRegion ops (i::rest)::k)with defers:=d::a.defers}:Frame).finish undef=
   (bs f).at ({a with defers:=d::a.defers}.put o.dst undef) (.inRegion ops rest::k):=by
   have:=Frame.finish_at (bs f) {a with defers:=d::a.defers} ops i rest k undef;rw[ho]at this;exact this
  rw[stepG_op ho hw];simp only[stepG.apply,Sem.runT_eq,V,GStep.bare_after];exact congrArg (λ j=>GStep.go {frame:=j,callers:=cs,status:=.running,dying:=none} w') this)) h
theorem ct.enter{g}{args}(ho:ops[i]?=some o)(hw:Region.wanted o (yielded ops a.tmps)=true)(V:(execOp a.eval o).run P w=.ok (.enter g args) w')
 (J:Calls P g args w' λ e w2=> ∃v,e=.returned v/\ct P f R (.inRegion ops rest::k) (a.put o.dst v) w2):ct P f R (.inRegion ops (i::rest)::k) a w:=by
 intro cs;obtain⟨e,w2,j,⟨v,rfl,U⟩,l,_,m⟩:=J ((bs f).at a (.inRegion ops (i::rest)::k)::cs);have hg:=stepG_op (P:=P) (b:=bs f) (k:=k) (cs:=cs) (w:=w) (rest:=rest) ho hw;have d:step P (lone ((bs f).at a (.inRegion ops (i::rest)::k)) cs w)=
  .next (lone (Frame.enter P g args .normal) ((bs f).at a (.inRegion ops (i::rest)::k)::cs) w'):=
  step_lone_go (by rw[hg];simp[stepG.apply,V,Frame.at,bs])
 have c:((bs f).at a (.inRegion ops (i::rest)::k)).finish v=(bs f).at (a.put o.dst v) (.inRegion ops rest::k):=by
  rw[Frame.finish_at,ho];rfl
 obtain⟨e,w3,n,hR,h,G,H⟩:=U cs;refine⟨e,w3,n,hR,.of_steps (.head d (Steps.trans l (.one ?_))) h,G,H⟩;rw[<-c];exact step_leave_returned m
end
abbrev au:=Nat->Option Obj
def au.le(i j:au):Prop:= ∀b o,i b=some o->j b=some o
theorem au.le.refl i:au.le i i:=λ _ _ h=>h
theorem au.le.trans{i j k}(h:au.le i j)(l:au.le j k):au.le i k:=λ b o x=>l b o (h b o x)
theorem lq{i j:au}(h:au.le i j:=by repeat(first|exact au.le.refl _|assumption|refine au.le.trans (by assumption) ?_)):au.le i j:=h
def au.set(i:au)(b:Nat)(o:Obj):au:=λ x=>if x=b then some o else i x
inductive Chunk where
 |av (b:Nat) (T:TypeId) (cells:List Value)
 |ro (b:Nat) (off:Nat) (cells:List Value)
 |abs (fp:List Nat) (ok:List Obj->Prop)
def Chunk.fp:Chunk->List Nat
 | .av b _ _=>[b]
 | .ro .. =>[]
 | .abs fp _=>fp
def Chunk.ok(aa:au)(w:World):Chunk->Prop
 | .av b T cells=>w.heap[b]?=some (.cells cells.toArray T (0,0))
 | .ro b off cells=> ∃cs T fz,aa b=some (.cells cs T fz)/\ ∀j v,cells[j]?=some v->cs[off+j]?=some v
 | .abs fp ok=> ∃os,fp.map (λ b=>w.heap[b]?)=os.map some/\ok os
class OO where
 io:Os×Array (Nat×ByteArray)
variable[OO]
structure Heap(aa:au)(cs:List Chunk)(w:World):Prop where
 io:(w.os,w.output)=OO.io
 dD: ∀b o,aa b=some o->w.heap[b]?=some o
 nodup:(cs.flatMap Chunk.fp).Nodup
 old: ∀b,b∈cs.flatMap Chunk.fp->b<w.heap.size/\aa b=none
 ok: ∀c,c∈cs->c.ok aa w
theorem Chunk.d'{aa C}{w w'}{c:Chunk}(h:c.ok aa w)(hi:au.le aa C)(hh: ∀b,b∈c.fp->w'.heap[b]?=w.heap[b]?):c.ok C w':=by
 cases c with
 |av b T cells=>simpa[Chunk.ok,hh b (by simp[Chunk.fp])]using h
 |ro b off cells=>obtain⟨cs,T,fz,G,H⟩:=h;exact⟨cs,T,fz,hi _ _ G,H⟩
 |abs fp ok=>
  obtain⟨os,G,H⟩:=h;refine⟨os,?_,H⟩;rw[<-G];exact List.map_congr_left λ b hb=>hh b hb
theorem Heap.drew{aa}{cs}{w}(h:Heap aa cs w)d:Heap aa cs {w with drawn:=d}:=
 ⟨h.io,h.dD,h.nodup,h.old,λ c J=>Chunk.d' (h.ok c J) lq λ _ _=>rfl⟩
theorem Heap.new{aa}{cs}{w}(h:Heap aa cs w)c T:
 Heap aa (.av w.heap.size T c.toList::cs) {w with heap:=w.heap.push (.cells c T (0,0))}:=by
 have I: ∀b,b<w.heap.size->(w.heap.push (.cells c T (0,0)))[b]?=w.heap[b]?:=λ b hb=>by
  rw[Array.getElem?_push,if_neg om]
 have k: ∀b o,aa b=some o->b<w.heap.size:=λ b o hb=>by
  have:=h.dD b o hb;rcases Hh b w.heap.size with G|G
  exact G;rw[Array.getElem?_eq_none G]at this;cases this
 refine⟨h.io,λ b o hb=>?_,?_,?_,?_⟩;rw[I b (k b o hb)];exact h.dD b o hb;simp only[G0,Chunk.fp,Hi,Hj,Hn];exact⟨λ hm=>absurd (h.old _ hm).1 om,h.nodup⟩;intro b hb;simp only[G0,Chunk.fp,Hi,Hj,G6]at hb;simp only[Array.size_push];rcases hb with rfl|hb
 refine⟨by omega,?_⟩;cases J:aa w.heap.size with
 |none=>rfl
 |some o=>exact absurd (k _ _ J) om
 exact⟨by have:=(h.old b hb).1;omega,(h.old b hb).2⟩;intro ai J;rcases G6.1 J with rfl|J
 simp[Chunk.ok];refine Chunk.d' (h.ok ai J) lq λ b hb=>I b ?_
 exact(h.old b (Ha.2 ⟨ai,J,hb⟩)).1
theorem BG{cs:List Chunk}{i}{c ai}(h:cs[i]?=some c)(hf:ai.fp=c.fp):(cs.set i ai).flatMap Chunk.fp=cs.flatMap Chunk.fp:=by
 induction cs generalizing i with
 |nil=>rfl
 |cons x xs af=>
  cases i with
  |zero=>simp at h;subst h;simp[hf]
  |succ i=>simp at h;simp[af h]
theorem Heap.cell{aa}{cs}{w}(h:Heap aa cs w){i b:Nat}{T}{cells}(J:cs[i]?=some (.av b T cells)){o}{v}(hv:cells[o]?=some v):
 w.cell? ⟨b,o,none⟩=some v/\w.frozen? ⟨b,o,none⟩=false:=by
 have G:w.heap[b]?=some (.cells cells.toArray T (0,0)):=h.ok _ (GZ J);simp[World.cell?,World.frozen?,G,hv]
theorem Heap.vV{aa}{cs}{w}(h:Heap aa cs w){i b off:Nat}{cells}(J:cs[i]?=some (.ro b off cells)){j}{v}(hv:cells[j]?=some v):
 w.cell? ⟨b,off+j,none⟩=some v:=by
 obtain⟨M,T,fz,G,H⟩:=h.ok _ (GZ J);have S:=h.dD _ _ G;simp[World.cell?,S,H j v hv]
theorem Heap.set{aa}{cs}{w}(h:Heap aa cs w){i b}{T}{cells}(J:cs[i]?=some (.av b T cells))o v:
 Heap aa (cs.set i (.av b T (cells.set o v))) (w.setCell ⟨b,o,none⟩ v):=by
 have G:w.heap[b]?=some (.cells cells.toArray T (0,0)):=h.ok _ (GZ J);have g:(cs.set i (.av b T (cells.set o v))).flatMap Chunk.fp=cs.flatMap Chunk.fp:=BG J rfl;have A:b∈cs.flatMap Chunk.fp:=Ha.2 ⟨_,GZ J,by simp[Chunk.fp]⟩;have ah: ∀x,x≠b->(w.setCell ⟨b,o,none⟩ v).heap[x]?=w.heap[x]?:=λ x L=>by
  simp only[World.setCell,Ho];rw[if_neg (λ e=>L e.symm)]
 refine⟨h.io,λ x R L=>?_,by rw[g];exact h.nodup,?_,?_⟩;rw[ah x (λ e=>by subst e;rw[(h.old _ A).2]at L;cases L)];exact h.dD x R L;intro x L;rw[g]at L;simpa[World.setCell]using h.old x L;intro c f;obtain⟨j,hj⟩:=G7 f;by_cases z:j=i;subst z;rw[List.getElem?_set]at hj;have ab:j<cs.length:=by
  rcases Hh j cs.length with H|H
  exact H;rw[Hp H]at J;cases J
 simp[ab]at hj;subst hj;simp[Chunk.ok,World.setCell,Ho,G];rw[List.getElem?_set_ne (λ e=>z e.symm)]at hj;refine Chunk.d' (h.ok c (GZ hj)) lq λ x L=>ah x ?_
 rintro rfl;have key: ∀(l:List Chunk)(i j:Nat)(c d:Chunk),l[i]?=some c->l[j]?=some d->i≠j->x∈c.fp->x∈d.fp->(l.flatMap Chunk.fp).Nodup->False:=by
  intro l;induction l with
  |nil=>intro i j c d G;simp at G
  |cons y ys af=>
   intro i j c d G H a I bd O;simp only[G0,Hq]at O;cases i with
   |zero=>
    cases j with
    |zero=>exact a rfl
    |succ j=>
     simp at G H;subst G;exact O.2.2 x I x (Ha.2 ⟨d,GZ H,bd⟩) rfl
   |succ i=>
    cases j with
    |zero=>
     simp at G H;subst H;exact O.2.2 x bd x (Ha.2 ⟨c,GZ G,I⟩) rfl
    |succ j=>
     simp at G H;exact af i j c d G H (λ e=>a (by rw[e])) I bd O.2.1
 exact key cs j i c _ hj J z L (by simp[Chunk.fp]) h.nodup
theorem Heap.perm{aa}{cs M}{w}(h:Heap aa cs w)(hp:cs.Perm M):Heap aa M w:=
 have hf:=hp.flatMap_right Chunk.fp
 ⟨h.io,h.dD,hf.nodup_iff.1 h.nodup,λ b hb=>h.old b (hf.mem_iff.2 hb),λ c J=>h.ok c (hp.mem_iff.2 J)⟩
theorem Heap.tail{aa}{c}{cs}{w}(h:Heap aa (c::cs) w):Heap aa cs w:=
 ⟨h.io,h.dD,by have:=h.nodup;simp[G0,Hq]at this;exact this.2.1,
  λ b hb=>h.old b (by simp only[G0];exact Hk _ hb),λ c J=>h.ok c (Hb _ J)⟩
end
section
variable[OO]
abbrev Ev:=List (Nat×Value)
def look:Ev->Nat->Option Value
 |[],_=>none
 |(k,v)::r,t=>cond (Nat.beq k t) (some v) (look r t)
def Env(n:Nat)(l:Ev)(a:Act):Prop:=a.tmps.size=n/\ ∀t v,look l t=some v->a.tmps[t]?=some v
def bB(u:Nat->Value)(l:Ev):Operand->Value
 | .tmp t=>(look l t).getD (u t)
 | .const v=>v
 | .global g=>.pointer (some ⟨g,0,none⟩)
 | .func f=>.func (.func f) #[] #[]
def un(a:Act):Nat->Value:=λ t=>a.tmps.getD t undef
theorem Env.eval{n}{l}{a}(h:Env n l a):a.eval=bB (un a) l:=by
 funext x
 cases x with
 |tmp t=>
  simp only[Act.eval,bB,un];cases hl:look l t with
  |none=>simp
  |some v=>have:=h.2 t v hl;simp[G1,this]
 |_=>rfl
theorem Env.put{n}{l}{a}(h:Env n l a){d}(hd:Nat.blt d n=true)v:Env n ((d,v)::l) (a.put (some d) v):=by
 have z:d<n:=by simpa using hd
 refine⟨by simp[Act.put,h.1],λ t x L=>?_⟩;simp[look]at L;simp only[Act.put];cases hb:Nat.beq d t with
 |true=>
  rw[hb]at L;simp at L;subst L;have:d=t:=G2 hb;subst this;have I:d<a.tmps.size:=by rw[h.1];exact z
  simp[I]
 |false=>
  rw[hb]at L;simp at L;have ah:d≠t:=λ e=>by subst e;simp at hb
  rw[Hc ah];exact h.2 t x L
def sx(P:Program)(hj:Nat×Nat)(g:Nat->Nat){α:Type}:Sem α->Nat->List Chunk->Nat->List (Nat×Nat)->Option (α×List Chunk×Nat×List (Nat×Nat))
 | .pure a,_,cs,nn,es=>some (a,cs,nn,es)
 | .program k,j,cs,nn,es=>sx P hj g (k P) j cs nn es
 | .mark _ k,j,cs,nn,es=>sx P hj g k j cs nn es
 | .load _ a k,j,cs,nn,es=>
  match a.spot with
  |some _=>none
  |none=>
   match cs[hj.1]? with
   |some (.av z _ cells)=>
    match cells[a.off]? with
    |some v=>sx P hj g (k v) (j+1) cs nn ((a.block,z)::es)
    |none=>none
   |some (.ro z off cells)=>
    match cells[hj.2+j]? with
    |some v=>sx P hj g (k v) (j+1) cs nn ((a.block,z)::(a.off,off+(hj.2+j))::es)
    |none=>none
   |_=>none
 | .store _ a v k,j,cs,nn,es=>
  match v with
  | .agg _=>none
  | .tuple _=>none
  |v=>
   match a.spot with
   |some _=>none
   |none=>
    match cs[hj.1]? with
    |some (.av z T cells)=>
     match cells[a.off]? with
     |some _=>sx P hj g k (j+1) (cs.set hj.1 (.av z T (cells.set a.off v))) nn ((a.block,z)::es)
     |none=>none
    |_=>none
 | .new o k,j,cs,nn,es=>
  match o with
  | .cells c T (0,0)=>sx P hj g (k (g nn)) j (.av (g nn) T c.toList::cs) (nn+1) es
  |_=>none
 |_,_,_,_,_=>none
theorem vP{P}{α}{m}{a}{v x}{k:Sem α}{w}(hv:(∀c,v≠.agg c)/\ ∀c,v≠.tuple c)(J:w.cell? a=some x)(hf:w.frozen? a=false):
 (Sem.store m a v k).run P w=k.run P (w.setCell a v):=by
 cases v with
 |agg c=>exact absurd rfl (hv.1 c)
 |tuple c=>exact absurd rfl (hv.2 c)
 |_=>simp[Sem.run,J,hf]
theorem ny{P}{hj}{N}{aa}{α}{r}{M}{p}{d}(E: ∀e,e∈d->e.1=e.2):
 ∀(s:Sem α)j cs nn es w,sx P hj (λ i=>N+i) s j cs nn es=some (r,M,p,d)->
  Heap aa cs w->w.heap.size=N+nn->(∃w',s.run P w=.ok r w'/\Heap aa M w'/\w'.heap.size=N+p)/\ ∀e,e∈es->e∈d:=by
 intro s;induction s with
 |pure a=>
  intro j cs nn es w h hh O;simp[sx]at h;obtain⟨rfl,rfl,rfl,rfl⟩:=h;exact⟨⟨w,rfl,hh,O⟩,λ e he=>he⟩
 |program k af=>intro j cs nn es w h hh O;exact af P j cs nn es w h hh O
 |mark m k af=>intro j cs nn es w h hh O;exact af j cs nn es w h hh O
 |load m a k af=>
  intro j cs nn es w h hh O;obtain⟨b,o,sp⟩:=a;cases sp with
  |some s=>simp[sx]at h
  |none=>
   simp[sx]at h;cases J:cs[hj.1]? with
   |none=>rw[J]at h;cases h
   |some c=>
    rw[J]at h;cases c with
    |abs fp ok=>cases h
    |av z T cells=>
     simp only at h;cases hv:cells[o]? with
     |none=>rw[hv]at h;cases h
     |some v=>
      rw[hv]at h;simp only at h;obtain⟨G,H⟩:=af v (j+1) cs nn ((b,z)::es) w h hh O;have hb:b=z:=E _ (H (b,z) sm);subst hb;refine⟨?_,λ e he=>H e (by simp[he])⟩;obtain⟨w',V,S⟩:=G;exact⟨w',by simp only[Sem.run,(hh.cell J hv).1];exact V,S⟩
    |ro z off cells=>
     simp only at h;cases hv:cells[hj.2+j]? with
     |none=>rw[hv]at h;cases h
     |some v=>
      rw[hv]at h;simp only at h;obtain⟨G,H⟩:=af v (j+1) cs nn ((b,z)::(o,off+(hj.2+j))::es) w h hh O;have hb:b=z:=E _ (H (b,z) sm);have ho:o=off+(hj.2+j):=E _ (H (o,off+(hj.2+j)) sm);subst hb ho;refine⟨?_,λ e he=>H e (by simp[he])⟩;obtain⟨w',V,S⟩:=G;exact⟨w',by simp only[Sem.run,hh.vV J hv];exact V,S⟩
 |store m a v k af=>
  intro j cs nn es w h hh O;have hv:(∀c,v≠.agg c)/\ ∀c,v≠.tuple c:=by
   constructor;rintro c rfl;simp[sx]at h;rintro c rfl;simp[sx]at h
  obtain⟨b,o,sp⟩:=a;cases sp with
  |some s=>cases v<;>simp[sx]at h
  |none=>
   have l:(match cs[hj.1]? with
    |some (.av z T cells)=>
     match cells[o]? with
     |some _=>sx P hj (λ i=>N+i) k (j+1) (cs.set hj.1 (.av z T (cells.set o v))) nn ((b,z)::es)
     |none=>none
    |_=>none)=some (r,M,p,d):=by
    cases v with
    |agg c=>exact absurd rfl (hv.1 c)
    |tuple c=>exact absurd rfl (hv.2 c)
    |_=>exact h
   clear h;cases J:cs[hj.1]? with
   |none=>rw[J]at l;cases l
   |some c=>
    rw[J]at l;cases c with
    |abs fp ok=>cases l
    |ro z off cells=>cases l
    |av z T cells=>
     simp only at l;cases L:cells[o]? with
     |none=>rw[L]at l;cases l
     |some x=>
      rw[L]at l;simp only at l;have A: ∀e,e∈(b,z)::es->e∈d:=(af (j+1) _ nn ((b,z)::es) (w.setCell ⟨z,o,none⟩ v) l (hh.set J o v) (by simpa[World.setCell]using O)).2;have hb:b=z:=E _ (A (b,z) sm);subst hb;obtain⟨G,_⟩:=af (j+1) _ nn ((b,b)::es) (w.setCell ⟨b,o,none⟩ v) l (hh.set J o v) (by simpa[World.setCell]using O);refine⟨?_,λ e he=>A e (by simp[he])⟩;obtain⟨w',V,S⟩:=G;exact⟨w',by rw[vP hv (hh.cell J L).1 (hh.cell J L).2];exact V,S⟩
 |new o k af=>
  intro j cs nn es w h hh O;cases o with
  |cells c T fz=>
   obtain⟨lo,hi⟩:=fz;cases lo with
   |succ lo=>simp[sx]at h
   |zero=>
    cases hi with
    |succ hi=>simp[sx]at h
    |zero=>
     simp[sx]at h;have hN:=hh.new c T;rw[O]at hN;obtain⟨⟨w',V,S,Y⟩,aI⟩:=af (N+nn) j _ (nn+1) es {w with heap:=w.heap.push (.cells c T (0,0))} h hN (by simp[O];omega);exact⟨⟨w',by simp only[Sem.run];rw[O];exact V,S,Y⟩,aI⟩
  |_=>simp[sx]at h
 |_=>intro j cs nn es w h;simp[sx]at h
structure Out where
 todo:List Item
 env:Ev
 cs:List Chunk
 nn:Nat
 es:List (Nat×Nat)
def dF(d:Option Nat)(v:Value)(env:Ev):Ev:=match d with|some d=>(d,v)::env|none=>env
def iS(n:Nat)(d:Option Nat):Bool:=match d with|some d=>Nat.blt d n|none=>true
def bq(aJ:List Nat):Nat×Nat:=match aJ with|[]=>(0,0)|h::_=>(h%100,h/100)
def xT:Op->Bool
 | .load .. | .store .. =>true
 |_=>false
def exec(P:Program)(n:Nat)(u:Nat->Value)(g:Nat->Nat):Nat->List Nat->List Item->Ev->List Chunk->Nat->List (Nat×Nat)->Option Out
 |0,_,todo,env,cs,nn,es=>some ⟨todo,env,cs,nn,es⟩
 |m+1,aJ,todo,env,cs,nn,es=>
  match todo with
  | .inRegion _ []::k=>exec P n u g m aJ k env cs nn es
  | .inRegion ops (i::rest)::k=>
   match ops[i]? with
   |none=>none
   |some o=>
    match(match o.guard with
     |none=>some true
     |some (j,want)=>match((ops[j]?).bind (·.dst)).bind (look env)with
      |some (.bool b)=>some (b==want)
      |some (.tuple _)=>some false
      |_=>none)with
    |none=>none
    |some false=>match iS n o.dst with
     |true=>exec P n u g m aJ (.inRegion ops rest::k) (dF o.dst undef env) cs nn es
     |false=>none
    |some true=>
     match iS n o.dst with
     |false=>none
     |true=>
      match sx P (bq aJ) g (execOp (bB u env) o) 0 cs nn es with
      |some (.value v,M,p,d)=>exec P n u g m (if xT o.op then aJ.tail else aJ) (.inRegion ops rest::k) (dF o.dst v env) M p d
      |some (.skip,M,p,d)=>exec P n u g m (if xT o.op then aJ.tail else aJ) (.inRegion ops rest::k) (dF o.dst undef env) M p d
      |_=>none
  | .code .skip::k=>exec P n u g m aJ k env cs nn es
  | .code (.region _ ops false)::k=>exec P n u g m aJ (.inRegion ops (List.range ops.size)::k) env cs nn es
  | .code (.seq x y)::k=>exec P n u g m aJ (.code x::.code y::k) env cs nn es
  | .code (.cond c x y)::k=>
   match bB u env c with
   | .bool true=>exec P n u g m aJ (.code x::k) env cs nn es
   | .bool false=>exec P n u g m aJ (.code y::k) env cs nn es
   |_=>none
  | .code (.block id c)::k=>exec P n u g m aJ (.code c::.inBlock id::k) env cs nn es
  | .code (.loop c)::k=>exec P n u g m aJ (.code c::.inLoop c::k) env cs nn es
  | .code (.exit id)::k=>match exitTo id k with
   |some F=>exec P n u g m aJ F env cs nn es
   |none=>none
  | .inBlock _::k=>exec P n u g m aJ k env cs nn es
  | .inLoop c::k=>exec P n u g m aJ (.code c::.inLoop c::k) env cs nn es
  |_=>none
theorem yv{u}{l}{a:Act}(h:a.eval=bB u l){n d}(aJ:a.tmps.size=n)(hd:Nat.blt d n=true)v:
 (a.put (some d) v).eval=bB u ((d,v)::l):=by
 have z:d<n:=by simpa using hd
 funext x
 cases x with
 |tmp t=>
  have B:=congrFun h (.tmp t);simp[Act.eval,bB]at B;simp only[Act.eval,bB,Act.put,look];cases hb:Nat.beq d t with
  |true=>
   have:d=t:=G2 hb;subst this;have I:d<a.tmps.size:=by omega
   simp[G1,I]
  |false=>
   have ah:d≠t:=λ e=>by subst e;simp at hb
   simp only[cond_false];rw[<-B];simp[G1,Hc ah]
 |_=>rfl
theorem cL{n}{u}{l}{a}(h:Env n l a)(he:a.eval=bB u l){d}(hd:iS n d=true)v:
 Env n (dF d v l) (a.put d v)/\(a.put d v).eval=bB u (dF d v l):=by
 cases d with
 |none=>exact⟨h,he⟩
 |some d=>exact⟨h.put hd v,yv he h.1 hd v⟩
theorem put_defers(a:Act)(d:Option Nat)v:(a.put d v).defers=a.defers:=by cases d<;>rfl
def gd(ops:Array Oper)(env:Ev)(g:Option (Nat×Bool)):Option Bool:=
 match g with
 |none=>some true
 |some (j,want)=>match((ops[j]?).bind (·.dst)).bind (look env)with
  |some (.bool b)=>some (b==want)
  |some (.tuple _)=>some false
  |_=>none
theorem cC{n}{ops}{env}{a}(h:Env n env a){o}{b}(hg:gd ops env o.guard=some b):Region.wanted o (yielded ops a.tmps)=b:=by
 unfold gd at hg;unfold Region.wanted;cases ho:o.guard with
 |none=>rw[ho]at hg;simpa using hg
 |some g=>
  obtain⟨j,want⟩:=g;rw[ho]at hg;simp only at hg⊢;cases hd:(ops[j]?).bind (·.dst)with
  |none=>rw[hd]at hg;simp at hg
  |some d=>
   rw[hd]at hg;simp at hg;cases hl:look env d with
   |none=>rw[hl]at hg;simp at hg
   |some v=>
    rw[hl]at hg;cases v with
    |bool c=>
     simp at hg;have:=h.2 d _ hl;simp[yielded,hd,this,hg]
    |tuple xs=>
     simp at hg;have:=h.2 d _ hl;simp[yielded,hd,this,<-hg]
    |_=>simp at hg
theorem Ai{P}{hj}{g}{α}{r}{M}{p}{d}:
 ∀(s:Sem α)j cs nn es,sx P hj g s j cs nn es=some (r,M,p,d)-> ∀e,e∈es->e∈d:=by
 intro s;induction s with
 |pure a=>
  intro j cs nn es h e he;simp[sx]at h;rw[<-h.2.2.2];exact he
 |program k af=>intro j cs nn es h;exact af P j cs nn es h
 |mark m k af=>intro j cs nn es h;exact af j cs nn es h
 |load m a k af=>
  intro j cs nn es h e he;unfold sx at h
  repeat' split at h
  all_goals first
   |exact af _ _ _ _ _ h e (by simp[he])
   |cases h
 |store m a v k af=>
  intro j cs nn es h e he;unfold sx at h
  repeat' split at h
  all_goals first
   |exact af _ _ _ _ h e (by simp[he])
   |cases h
 |new o k af=>
  intro j cs nn es h e he;unfold sx at h
  repeat' split at h
  all_goals first
   |exact af _ _ _ _ _ h e he
   |cases h
 |_=>intro j cs nn es h;simp[sx]at h
theorem ue{P}{n}{u}{g}{out}:
 ∀m aJ todo env cs nn es,exec P n u g m aJ todo env cs nn es=some out-> ∀e,e∈es->e∈out.es:=by
 intro m;induction m with
 |zero=>intro aJ todo env cs nn es h e he;simp[exec]at h;subst h;exact he
 |succ m af=>
  intro aJ todo env cs nn es h e he;unfold exec at h
  repeat' split at h
  all_goals first
   |exact af _ _ _ _ _ _ h e he
   |cases h;done
   |(rename_i K;exact af _ _ _ _ _ _ h e (Ai _ _ _ _ _ K e he))
   |(rename_i K _;exact af _ _ _ _ _ _ h e (Ai _ _ _ _ _ K e he))
theorem nG{P}{n}{u}{N}{aa}{f}{R}{out}(E: ∀e,e∈out.es->e.1=e.2):
 ∀m aJ todo env cs nn es a w,
  exec P n u (λ i=>N+i) m aJ todo env cs nn es=some out->Env n env a->a.eval=bB u env->Heap aa cs w->w.heap.size=N+nn->
   ((∀a' w',Env n out.env a'->a'.eval=bB u out.env->a'.defers=a.defers->Heap aa out.cs w'->w'.heap.size=N+out.nn->ct P f R out.todo a' w')->ct P f R todo a w)/\ ∀e,e∈es->e∈out.es:=by
 intro m;induction m with
 |zero=>
  intro aJ todo env cs nn es a w h he hv hh O;simp[exec]at h;subst h;exact⟨λ k=>k a w he hv rfl hh O,λ e h=>h⟩
 |succ m af=>
  intro aJ todo env cs nn es a w h he hv hh O;have simple: ∀{B:List Item},exec P n u (λ i=>N+i) m aJ B env cs nn es=some out->(∀c,Go.step P (lone ((bs f).at a todo) c w)=.next (lone ((bs f).at a B) c w))->
   ((∀a' w',Env n out.env a'->a'.eval=bB u out.env->a'.defers=a.defers->Heap aa out.cs w'->w'.heap.size=N+out.nn->ct P f R out.todo a' w')->ct P f R todo a w)/\ ∀e,e∈es->e∈out.es:=by
   intro B l A;obtain⟨G,H⟩:=af aJ B env cs nn es a w l he hv hh O;exact⟨λ k=>ct.AI A (G k),H⟩
  match todo,h with
  | .inRegion ops []::k,h=>exact simple h λ c=>step_region_end
  | .inRegion ops (i::rest)::k,h=>
   simp[exec]at h;cases ho:ops[i]? with
   |none=>rw[ho]at h;cases h
   |some o=>
    rw[ho]at h;simp only at h;change(match gd ops env o.guard with
     |none=>none
     |some false=>_
     |some true=>_)=some out at h
    cases hg:gd ops env o.guard with
    |none=>rw[hg]at h;cases h
    |some b=>
     have C:=cC he hg;rw[hg]at h;cases hd:iS n o.dst with
     |false=>rw[hd]at h;cases b<;>cases h
     |true=>
      rw[hd]at h;cases b with
      |false=>
       simp only at h;obtain⟨p1,p2⟩:=cL he hv hd undef;obtain⟨G,H⟩:=af aJ _ _ cs nn es _ w h p1 p2 hh O;exact⟨λ J=>ct.Fq ho C (G λ a' w' x y z t s=>J a' w' x y (z.trans (put_defers _ _ _)) t s),H⟩
      |true=>
       simp only at h;cases D:sx P (bq aJ) (λ i=>N+i) (execOp (bB u env) o) 0 cs nn es with
       |none=>rw[D]at h;cases h
       |some r=>
        obtain⟨nx,M,p,d⟩:=r;rw[D]at h;cases nx with
        |value v=>
         simp only at h;obtain⟨p1,p2⟩:=cL he hv hd v;have key: ∀w',Heap aa M w'->w'.heap.size=N+p->_:=λ w'=>af _ _ _ M p d _ w' h p1 p2
         have g: ∀e,e∈d->e∈out.es:=ue _ _ _ _ _ _ _ h;obtain⟨⟨w',V,q,K⟩,Y⟩:=ny (aa:=aa) (λ e j=>E e (g e j)) _ _ _ _ _ w D hh O;obtain⟨G,H⟩:=key w' q K;refine⟨λ J=>ct.DP ho C (by rw[hv];exact V) (G λ a' w' x y z t s=>J a' w' x y (z.trans (put_defers _ _ _)) t s),λ e j=>g e (Y e j)⟩
        |skip=>
         simp only at h;obtain⟨p1,p2⟩:=cL he hv hd undef;have key: ∀w',Heap aa M w'->w'.heap.size=N+p->_:=λ w'=>af _ _ _ M p d _ w' h p1 p2
         have g: ∀e,e∈d->e∈out.es:=ue _ _ _ _ _ _ _ h;obtain⟨⟨w',V,q,K⟩,Y⟩:=ny (aa:=aa) (λ e j=>E e (g e j)) _ _ _ _ _ w D hh O;obtain⟨G,H⟩:=key w' q K;refine⟨λ J=>ct.BO ho C (by rw[hv];exact V) (G λ a' w' x y z t s=>J a' w' x y (z.trans (put_defers _ _ _)) t s),λ e j=>g e (Y e j)⟩
        |_=>cases h
  | .code .skip::k,h=>exact simple h λ c=>step_skip
  | .code (.region id ops false)::k,h=>exact simple h λ c=>step_region
  | .code (.seq x y)::k,h=>exact simple h λ c=>step_seq
  | .code (.cond c x y)::k,h=>
   simp[exec]at h;cases hb:bB u env c with
   |bool t=>
    rw[hb]at h;cases t with
    |true=>exact simple h λ cc=>step_cond (t:=true) (by rw[hv];exact hb)
    |false=>exact simple h λ cc=>step_cond (t:=false) (by rw[hv];exact hb)
   |_=>rw[hb]at h;cases h
  | .code (.block id c)::k,h=>exact simple h λ c=>step_block
  | .code (.loop c)::k,h=>exact simple h λ c=>step_loop
  | .code (.exit id)::k,h=>
   simp[exec]at h;cases L:exitTo id k with
   |none=>rw[L]at h;cases h
   |some F=>rw[L]at h;exact simple h λ c=>step_exit L
  | .inBlock id::k,h=>exact simple h λ c=>step_inBlock
  | .inLoop c::k,h=>exact simple h λ c=>step_inLoop
  |[],h=>simp[exec]at h
  | .code (.region _ _ true)::_,h=>simp[exec]at h
  | .code (.rangeFunc ..)::_,h=>simp[exec]at h
  | .code (.scope _)::_,h=>simp[exec]at h
  | .code (.label _)::_,h=>simp[exec]at h
  | .code (.goto _)::_,h=>simp[exec]at h
  | .code .ret::_,h=>simp[exec]at h
  | .code (.refuse _)::_,h=>simp[exec]at h
  | .inScope _::_,h=>simp[exec]at h
  | .inRangeFunc _::_,h=>simp[exec]at h
  | .endRangeFunc _::_,h=>simp[exec]at h
  | .beginRound::_,h=>simp[exec]at h
  | .call .. ::_,h=>simp[exec]at h
  | .extern .. ::_,h=>simp[exec]at h
def bI:Code->List Nat->List Item->List Item
 | .seq x y,p,k=>
  match p with
  |[]=>.code (.seq x y)::k
  |0::p=>bI x p (.code y::k)
  |(n+1)::p=>match y with
   | .seq .. =>bI y (n::p) k
   |_=>bI y p k
 | .cond c x y,p,k=>
  match p with
  |[]=>.code (.cond c x y)::k
  |0::p=>bI x p k
  |_::p=>bI y p k
 | .block id c,p,k=>
  match p with
  |[]=>.code (.block id c)::k
  |0::p=>bI c p (.inBlock id::k)
  |1::_=>.inBlock id::k
  |_::_=>k
 | .loop c,p,k=>
  match p with
  |[]=>.code (.loop c)::k
  |0::p=>bI c p (.inLoop c::k)
  |_::_=>.inLoop c::k
 | .region id ops d,p,k=>
  match p with
  |[]=>.code (.region id ops d)::k
  |i::_=>cond (Nat.blt ops.size i) k (.inRegion ops (List.range' i (ops.size-i))::k)
 |c,_,k=>.code c::k
def lu(P:Program)(f:FuncId)(n:Nat)(R:Ending->World->Prop)(D:List Deferred)(aa:au)(todo:List Item)(env:Ev)(cs:List Chunk):Prop:=
 ∀a w,Env n env a->a.defers=D->Heap aa cs w->ct P f R todo a w
def bf(P:Program)(f:FuncId)(fn:Func)(R:Ending->World->Prop)(D:List Deferred)(aa:au)(path:List Nat)(env:Ev)(cs:List Chunk):Prop:=
 lu P f fn.ntmps R D aa (bI (bd fn) path []) env cs
def Spec(P:Program)(g:FuncId)(args:List Value)(M:List Chunk)(aa:au)(ca:Value->List Chunk->au->Prop):Prop:=
 ∀(F:List Chunk)(w:World),Heap aa (M++F) w->
  Calls P g args.toArray w λ e w'=> ∃v M' C,e=.returned v/\au.le aa C/\ca v M' C/\Heap C (M'++F) w'
abbrev Sp:=Spec Tryz.prog
def SR(aa:au)(F:List Chunk)(ca:Value->List Chunk->au->Prop):Ending->World->Prop:=
 λ e w'=> ∃v M' C,e=.returned v/\au.le aa C/\ca v M' C/\Heap C (M'++F) w'
theorem Spec.mono{P}{g}{args}{M}{aa}{ca a}(h:Spec P g args M aa ca)
 (hp: ∀v M' C,au.le aa C->ca v M' C->a v M' C):Spec P g args M aa a:=
 λ F w hw=>(h F w hw).mono λ _ _⟨v,M',C,he,hl,K,hh⟩=>⟨v,M',C,he,hl,hp v M' C hl K,hh⟩
def kv:Nat->List Value->Ev
 |_,[]=>[]
 |i,v::vs=>(i,v)::kv (i+1) vs
theorem l1: ∀vs i t v,look (kv i vs) t=some v-> ∃j,t=i+j/\vs[j]?=some v
 |[],i,t,v,h=>by simp[kv,look]at h
 |x::xs,i,t,v,h=>by
  simp[kv,look]at h;cases hb:Nat.beq i t with
  |true=>rw[hb]at h;simp at h;subst h;exact⟨0,by simp[G2 hb],rfl⟩
  |false=>
   rw[hb]at h;simp at h;obtain⟨j,G,H⟩:=l1 xs (i+1) t v h;exact⟨j+1,om,by simpa using H⟩
section
variable{P:Program}{f:FuncId}{fn:Func}{R:Ending->World->Prop}{D:List Deferred}{aa:au}{path:List Nat}{env:Ev}{cs:List Chunk}
theorem Spec.body{g}{args}{M}{ca}(hf:P.funcs[g]?=some fn)(hb:fn.body=some (bd fn))(O:Nat.ble args.length fn.ntmps=true)
 (h: ∀F,bf P g fn (SR aa F ca) [] aa [] (kv 0 args) (M++F)):Spec P g args M aa ca:=by
 intro F w hw;refine n2 hf hb ?_;have B:bI (bd fn) [] []=[.code (bd fn)]:=by cases bd fn<;>rfl
 have:=h F {tmps:=args.toArray++Array.replicate (fn.ntmps-args.toArray.size) undef,defers:=[]} w ?_ rfl hw;rw[B]at this;exact this;have K:args.length<=fn.ntmps:=by simpa using O
 refine⟨by simp;omega,λ t v hv=>?_⟩;obtain⟨j,G,H⟩:=l1 _ _ _ _ hv;have hj:t=j:=by omega
 subst hj;have I:t<args.length:=by
  rcases Hh t args.length with S|S
  exact S;rw[Hp S]at H;cases H
 simp[Array.getElem?_append,I]at H⊢;exact H
theorem lu.run{n}{todo}m aJ B(b:(Nat->Nat)->Ev)(M:(Nat->Nat)->List Chunk)
 (G: ∀u g,(exec P n u g m aJ todo env cs 0 []).map (λ o=>(o.todo,(b g).map (λ x=>look o.env x.1),o.cs))=some (B,(b g).map (λ x=>some x.2),M g))
 (H: ∀u g,(exec P n u g m aJ todo env cs 0 []).map (λ o=>o.es.map (·.1))=(exec P n u g m aJ todo env cs 0 []).map (λ o=>o.es.map (·.2)))
 (k: ∀g,lu P f n R D aa B (b g) (M g)):lu P f n R D aa todo env cs:=by
 intro a w he hd hh
 let g:Nat->Nat:=λ i=>w.heap.size+i
 have d:=G (un a) g;have C:=H (un a) g;cases L:exec P n (un a) g m aJ todo env cs 0 []with
 |none=>rw[L]at d;cases d
 |some out=>
  rw[L]at d C;simp only[Hd,G8,He]at d C;obtain⟨aw,az,e3⟩:=d;have E: ∀e,e∈out.es->e.1=e.2:=by
   intro e hm;obtain⟨i,hi⟩:=G7 hm;have:=congrArg (λ l=>l[i]?) C;simpa[hi]using this
  refine(nG (aa:=aa) (f:=f) (R:=R) E m aJ todo env cs 0 [] a w L he he.eval hh sm).1 λ a' w' j _ z q _=>?_
  rw[aw];refine k g a' w' ⟨j.1,λ t v hv=>?_⟩ (z.trans hd) (e3▸q);have c: ∀(l:Ev)(t:Nat)(v:Value),look l t=some v->(t,v)∈l:=by
   intro l;induction l with
   |nil=>intro t v h;simp[look]at h
   |cons x xs af=>
    intro t v h;obtain⟨k,y⟩:=x;simp only[look]at h;cases hb:Nat.beq k t with
    |true=>rw[hb]at h;simp at h;subst h;rw[G2 hb];simp
    |false=>rw[hb]at h;simp at h;exact Hb _ (af t v h)
  have hm:=c _ t v hv;obtain⟨i,hi⟩:=G7 hm;have:=congrArg (λ l=>l[i]?) az;simp[hi]at this;exact j.2 t v this
theorem bf.run m aJ ak(b:(Nat->Nat)->Ev)(M:(Nat->Nat)->List Chunk)
 (G: ∀u g,(exec P fn.ntmps u g m aJ (bI (bd fn) path []) env cs 0 []).map (λ o=>(o.todo,(b g).map (λ x=>look o.env x.1),o.cs))=some (bI (bd fn) ak [],(b g).map (λ x=>some x.2),M g))
 (H: ∀u g,(exec P fn.ntmps u g m aJ (bI (bd fn) path []) env cs 0 []).map (λ o=>o.es.map (·.1))=(exec P fn.ntmps u g m aJ (bI (bd fn) path []) env cs 0 []).map (λ o=>o.es.map (·.2)))
 (k: ∀g,bf P f fn R D aa ak (b g) (M g)):bf P f fn R D aa path env cs:=lu.run m aJ _ b M G H k
def cj(n:Nat)(todo:List Item)(env:Ev):Option (Oper×List Item):=
 match todo with
 | .inRegion ops (i::rest)::k=>
  match ops[i]? with
  |none=>none
  |some o=>match gd ops env o.guard with
   |some true=>match iS n o.dst with
    |true=>some (o,.inRegion ops rest::k)
    |false=>none
   |_=>none
 |_=>none
theorem ia{n}{todo B}{o}(h:cj n todo env=some (o,B)):
 ∃ops i rest k,todo=.inRegion ops (i::rest)::k/\ops[i]?=some o/\gd ops env o.guard=some true/\iS n o.dst=true/\B=.inRegion ops rest::k:=by
 unfold cj at h;split at h;rename_i ops i rest k;split at h;cases h;rename_i u ho;split at h;rename_i hg;split at h;rename_i hd;simp at h;obtain⟨rfl,rfl⟩:=h;exact⟨ops,i,rest,k,rfl,ho,hg,hd,rfl⟩;cases h;cases h;cases h
theorem lu.op{n}{todo B}{o}{Q:Value->au->List Chunk->Prop}(G:cj n todo env=some (o,B))
 (H: ∀u w,Heap aa cs w-> ∃v w' C M,(execOp (bB u env) o).run P w=.ok (.value v) w'/\au.le aa C/\Heap C M w'/\Q v C M)
 (k: ∀v C M,au.le aa C->Q v C M->lu P f n R D C B (dF o.dst v env) M):lu P f n R D aa todo env cs:=by
 intro a w he hd hh;obtain⟨ops,i,rest,J,rfl,ho,hg,m,rfl⟩:=ia G;obtain⟨v,w',C,M,V,hl,q,K⟩:=H (un a) w hh;obtain⟨p1,_⟩:=cL he he.eval m v;exact ct.DP ho (cC he hg) (by rw[he.eval];exact V) (k v C M hl K _ w' p1 ((put_defers _ _ _).trans hd) q)
theorem lu.call{n}{todo B}{o}{g}{args}{M rest}{ca}(G:cj n todo env=some (o,B))
 (H: ∀u w,(execOp (bB u env) o).run P w=.ok (.enter g args.toArray) w)
 (E:Spec P g args M aa ca) (hp:cs.Perm (M++rest))
 (k: ∀v M' C,au.le aa C->ca v M' C->lu P f n R D C B (dF o.dst v env) (M'++rest)):lu P f n R D aa todo env cs:=by
 intro a w he hd hh;obtain⟨ops,i,b,J,rfl,ho,hg,m,rfl⟩:=ia G;refine ct.enter ho (cC he hg) (by rw[he.eval];exact H _ w)<|(E rest w (hh.perm hp)).mono ?_;rintro e w' ⟨v,M',C,rfl,hl,K,q⟩;refine⟨v,rfl,?_⟩;obtain⟨p1,_⟩:=cL he he.eval m v;exact k v M' C hl K _ w' p1 ((put_defers _ _ _).trans hd) q
def pv(P:Program){α:Type}:Sem α->Option α
 | .pure a=>some a
 | .program k=>pv P (k P)
 | .mark _ k=>pv P k
 |_=>none
theorem lI{P}{α}{r}: ∀(s:Sem α),pv P s=some r-> ∀w,s.run P w=.ok r w:=by
 intro s;induction s with
 |pure a=>intro h w;simp[pv]at h;subst h;rfl
 |program k af=>intro h w;exact af P h w
 |mark m k af=>intro h w;exact af h w
 |_=>intro h;simp[pv]at h
def bF:List Nat->List Chunk->Option (List Chunk×List Chunk)
 |[],cs=>some ([],cs)
 |i::is,cs=>match cs[i]? with
  |some c=>match bF is (cs.eraseIdx i)with
   |some (m,r)=>some (c::m,r)
   |none=>none
  |none=>none
theorem e3: ∀{cs:List Chunk}{i}{c},cs[i]?=some c->cs.Perm (c::cs.eraseIdx i)
 |[],i,c,h=>by simp at h
 |x::xs,0,c,h=>by simp at h;subst h;simp
 |x::xs,i+1,c,h=>by
  simp at h;simp only[List.eraseIdx_cons_succ];exact((e3 h).cons x).trans (List.Perm.swap _ _ _)
theorem bR: ∀{is}{cs M rest},bF is cs=some (M,rest)->cs.Perm (M++rest)
 |[],cs,M,rest,h=>by simp[bF]at h;obtain⟨rfl,rfl⟩:=h;simp
 |i::is,cs,M,rest,h=>by
  simp[bF]at h;cases J:cs[i]? with
  |none=>rw[J]at h;cases h
  |some c=>
   rw[J]at h;simp only at h;cases hp:bF is (cs.eraseIdx i)with
   |none=>rw[hp]at h;cases h
   |some a=>
    obtain⟨m,r⟩:=a;rw[hp]at h;simp at h;obtain⟨rfl,rfl⟩:=h;exact(e3 J).trans ((bR hp).cons c)
theorem bf.call g args(d:Option Nat)ak is{M rest}{ca}
 (G: ∀u,(cj fn.ntmps (bI (bd fn) path []) env).bind (λ x=>(pv P (execOp (bB u env) x.1)).map λ y=>(y,x.1.dst,x.2))=some (.enter g args.toArray,d,bI (bd fn) ak []))
 (E:Spec P g args M aa ca) (hp:bF is cs=some (M,rest))
 (k: ∀v M' C,au.le aa C->ca v M' C->bf P f fn R D C ak (dF d v env) (M'++rest)):bf P f fn R D aa path env cs:=by
 have N:=G (λ _=>undef);cases ho:cj fn.ntmps (bI (bd fn) path []) env with
 |none=>rw[ho]at N;cases N
 |some x=>
  obtain⟨o,B⟩:=x;have H: ∀u,pv P (execOp (bB u env) o)=some (.enter g args.toArray)/\o.dst=d/\B=bI (bd fn) ak []:=by
   intro u;have h:=G u;rw[ho]at h;simp only[Hl]at h;cases hp:pv P (execOp (bB u env) o)with
   |none=>rw[hp]at h;cases h
   |some y=>rw[hp]at h;simp at h;exact⟨by rw[h.1],h.2.1,h.2.2⟩
  obtain⟨_,rfl,rfl⟩:=H (λ _=>undef);exact lu.call ho (λ u w=>lI _ (H u).1 w) E (bR hp) k
def lx(P:Program)(hj:Nat×Nat){α:Type}:Sem α->Nat->List Chunk->List (Nat×Nat)->Option (α×List (Nat×Nat))
 | .pure a,_,_,es=>some (a,es)
 | .program k,j,cs,es=>lx P hj (k P) j cs es
 | .mark _ k,j,cs,es=>lx P hj k j cs es
 | .load _ a k,j,cs,es=>
  match a.spot with
  |some _=>none
  |none=>
   match cs[hj.1]? with
   |some (.av z _ cells)=>
    match cells[a.off]? with
    |some v=>lx P hj (k v) (j+1) cs ((a.block,z)::es)
    |none=>none
   |some (.ro z off cells)=>
    match cells[hj.2+j]? with
    |some v=>lx P hj (k v) (j+1) cs ((a.block,z)::(a.off,off+(hj.2+j))::es)
    |none=>none
   |_=>none
 |_,_,_,_=>none
theorem kQ{P}{hj}{aa}{α}{r}{d}{w}{cs}(E: ∀e,e∈d->e.1=e.2)(hh:Heap aa cs w):
 ∀(s:Sem α)j es,lx P hj s j cs es=some (r,d)->s.run P w=.ok r w/\ ∀e,e∈es->e∈d:=by
 intro s;induction s with
 |pure a=>
  intro j es h;simp[lx]at h;obtain⟨rfl,rfl⟩:=h;exact⟨rfl,λ e he=>he⟩
 |program k af=>intro j es h;exact af P j es h
 |mark m k af=>intro j es h;exact af j es h
 |load m a k af=>
  intro j es h;obtain⟨b,o,sp⟩:=a;cases sp with
  |some s=>simp[lx]at h
  |none=>
   simp[lx]at h;cases J:cs[hj.1]? with
   |none=>rw[J]at h;cases h
   |some c=>
    rw[J]at h;cases c with
    |abs fp ok=>cases h
    |av z T cells=>
     simp only at h;cases hv:cells[o]? with
     |none=>rw[hv]at h;cases h
     |some v=>
      rw[hv]at h;simp only at h;obtain⟨G,H⟩:=af v (j+1) ((b,z)::es) h;have hb:b=z:=E _ (H (b,z) sm);subst hb;exact⟨by simp only[Sem.run,(hh.cell J hv).1];exact G,λ e he=>H e (by simp[he])⟩
    |ro z off cells=>
     simp only at h;cases hv:cells[hj.2+j]? with
     |none=>rw[hv]at h;cases h
     |some v=>
      rw[hv]at h;simp only at h;obtain⟨G,H⟩:=af v (j+1) ((b,z)::(o,off+(hj.2+j))::es) h;have hb:b=z:=E _ (H (b,z) sm);have ho:o=off+(hj.2+j):=E _ (H (o,off+(hj.2+j)) sm);subst hb ho;exact⟨by simp only[Sem.run,hh.vV J hv];exact G,λ e he=>H e (by simp[he])⟩
 |_=>intro j es h;simp[lx]at h
def fJ(fn:Func)(ρ:Nat->Value):Sem Value:=do
 let vs<-fn.results.mapM λ
  | .tmp t=>pure (ρ t)
  | .cell a t=>do loadVar t (<-asAddr (ρ a))
 pure (if h:vs.size=1 then vs[0]else .tuple vs)
theorem uF fn tmps:results fn tmps=fJ fn (λ t=>tmps.getD t undef):=rfl
def jx:List Item->Bool
 |[]=>true
 | .code .ret::_=>true
 |_=>false
theorem bf.ret(hf:P.funcs[f]?=some fn)(N:jx (bI (bd fn) path [])=true)hint v
 (G: ∀u,(lx P (bq [hint]) (fJ fn λ t=>bB u env (.tmp t)) 0 cs []).map (·.1)=some v)
 (H: ∀u,(lx P (bq [hint]) (fJ fn λ t=>bB u env (.tmp t)) 0 cs []).map (·.2.map (·.1))=(lx P (bq [hint]) (fJ fn λ t=>bB u env (.tmp t)) 0 cs []).map (·.2.map (·.2)))
 (k: ∀w,Heap aa cs w->R (.returned v) w):bf P f fn R [] aa path env cs:=by
 intro a w he hd hh;have V:(results fn a.tmps).run P w=.ok v w:=by
  have y:(λ t=>a.tmps.getD t undef)=λ t=>bB (un a) env (.tmp t):=by
   funext t
   exact congrFun he.eval (.tmp t)
  rw[uF,y];have d:=G (un a);have C:=H (un a);cases L:lx P (bq [hint]) (fJ fn λ t=>bB (un a) env (.tmp t)) 0 cs []with
  |none=>rw[L]at d;cases d
  |some r=>
   obtain⟨r,es⟩:=r;rw[L]at d C;simp only[Hd,G8]at d C;subst d;refine(kQ (aa:=aa) ?_ hh _ _ _ L).1;intro e hm;obtain⟨i,hi⟩:=G7 hm;have:=congrArg (λ l=>l[i]?) C;simpa[hi]using this
 have m: ∀t,jx t=true->t=[]\/ ∃k,t=.code .ret::k:=by
  intro t B
  match t,B with
  |[],_=>exact .inl rfl
  | .code .ret::k,_=>exact .inr ⟨k,rfl⟩
 rcases m _ N with h|⟨F,h⟩
 rw[h];exact ct.fin hf hd V (k w hh);rw[h];exact ct.ret hf hd V (k w hh)
theorem bf.FG{gI}{F}{ca}(hf:P.funcs[f]?=some fn)hint v M'(N:jx (bI (bd fn) path [])=true)
 (G: ∀u,(lx P (bq [hint]) (fJ fn λ t=>bB u env (.tmp t)) 0 cs []).map (·.1)=some v)
 (H: ∀u,(lx P (bq [hint]) (fJ fn λ t=>bB u env (.tmp t)) 0 cs []).map (·.2.map (·.1))=(lx P (bq [hint]) (fJ fn λ t=>bB u env (.tmp t)) 0 cs []).map (·.2.map (·.2)))
 is {dropped} (hp:bF is cs=some (dropped,M'++F)) (hl:au.le gI aa) (k:ca v M' aa):bf P f fn (SR gI F ca) [] aa path env cs:=
 bf.ret hf N hint v G H λ w hh=>⟨v,M',aa,rfl,hl,k,by
  have h:=hh.perm (bR hp);clear hh hp;induction dropped with
  |nil=>exact h
  |cons x xs af=>exact af h.tail⟩
theorem bf.ite t{c}(B:look env t=some (.bool c))(k1:c=true->bf P f fn R D aa path ((t,.bool true)::env) cs)(k2:c=false->bf P f fn R D aa path ((t,.bool false)::env) cs):bf P f fn R D aa path env cs:=by
 intro a w he hd hh;have same: ∀{b:Bool},c=b->Env fn.ntmps ((t,.bool b)::env) a:=by
  rintro b rfl;refine⟨he.1,λ t' v hv=>?_⟩;simp[look]at hv;cases hb:Nat.beq t t' with
  |true=>rw[hb]at hv;simp at hv;subst hv;rw[<-G2 hb];exact he.2 _ _ B
  |false=>rw[hb]at hv;simp at hv;exact he.2 _ _ hv
 cases c with
 |true=>exact k1 rfl a w (same rfl) hd hh
 |false=>exact k2 rfl a w (same rfl) hd hh
theorem Heap.freeze{b}{T}{cells}{w}(h:Heap aa (.av b T cells::cs) w):Heap (aa.set b (.cells cells.toArray T (0,0))) cs w/\aa b=none:=by
 have O:=h.nodup;simp only[G0,Chunk.fp,Hi,Hj,Hn]at O;have hb:=h.old b (by simp[Chunk.fp]);have hle:au.le aa (aa.set b (.cells cells.toArray T (0,0))):=λ x o L=>by
  unfold au.set;rw[if_neg (λ e=>by subst e;rw[hb.2]at L;cases L)];exact L
 refine⟨⟨h.io,λ x o L=>?_,O.2,λ x L=>?_,λ c J=>?_⟩,hb.2⟩;unfold au.set at L;by_cases m:x=b;rw[if_pos m]at L;subst m;injection L with L;subst L;exact h.ok (.av x T cells) sm
 rw[if_neg m]at L;exact h.dD x o L;have:=h.old x (by simp only[G0];exact Hk _ L);refine⟨this.1,?_⟩;unfold au.set;rw[if_neg (λ e=>by subst e;exact O.1 L)];exact this.2;exact Chunk.d' (h.ok c (Hb _ J)) hle λ _ _=>rfl
theorem au.jv{aa}{b}{o}(h:aa b=none):au.le aa (aa.set b o):=λ x u L=>by
 unfold au.set;rw[if_neg (λ e=>by subst e;rw[h]at L;cases L)];exact L
theorem bf.freeze i{b}{T}{cells}(J:cs[i]?=some (.av b T cells))
 (k:aa b=none->bf P f fn R D (aa.set b (.cells cells.toArray T (0,0))) path env (cs.eraseIdx i)):bf P f fn R D aa path env cs:=by
 intro a w he hd hh;obtain⟨G,H⟩:=(hh.perm (e3 J)).freeze;exact k H a w he hd G
theorem bf.drop i{c}(J:cs[i]?=some c)(k:bf P f fn R D aa path env (cs.eraseIdx i)):bf P f fn R D aa path env cs:=
 λ a w he hd hh=>k a w he hd (hh.perm (e3 J)).tail
theorem bf.ro{b off}{cells}{ar}{T}{fz}(hb:aa b=some (.cells ar T fz))(J: ∀j v,cells[j]?=some v->ar[off+j]?=some v)
 (k:bf P f fn R D aa path env (.ro b off cells::cs)):bf P f fn R D aa path env cs:=by
 intro a w he hd hh;refine k a w he hd ⟨hh.io,hh.dD,by simpa[Chunk.fp]using hh.nodup,by simpa[Chunk.fp]using hh.old,λ c hm=>?_⟩;rcases G6.1 hm with rfl|hm
 exact⟨ar,T,fz,hb,J⟩;exact hh.ok c hm
end
section
variable(P:Program)(f:FuncId)(R:Ending->World->Prop)(ops:Array Oper)(E:Nat->Bool)(pm:List (List Nat))(k:List Item)
def pre(i j:Nat):Bool:=(pm.getD j []).contains i
def jf(i:Nat)(rem:List Nat):Bool:=rem.all λ x=>!pre pm x i
def u7(j:Nat)(a:Act)(w:World):Prop:=
 ∃o v,ops[j]?=some o/\((Region.wanted o (yielded ops a.tmps)=true/\(execOp a.eval o).run P w=.ok (.value v) w)\/(Region.wanted o (yielded ops a.tmps)=false/\v=undef))/\a.put o.dst v=a
def z8(K:Act->World->Prop)(e:Nat)(a:Act)(w:World):Prop:=
 ∃o,ops[e]?=some o/\
  ((Region.wanted o (yielded ops a.tmps)=false/\K (a.put o.dst undef) w)\/
   (Region.wanted o (yielded ops a.tmps)=true/\
    ((∃v w',(execOp a.eval o).run P w=.ok (.value v) w'/\K (a.put o.dst v) w')\/
     (∃w',(execOp a.eval o).run P w=.ok .skip w'/\K (a.put o.dst undef) w')\/
     (∃g args,(execOp a.eval o).run P w=.ok (.enter g args) w/\Calls P g args w λ c w'=> ∃v,c=.returned v/\K (a.put o.dst v) w'))))
def Can:Nat->List Nat->List Nat->Act->World->Prop
 |0,_,rem,a,w=>rem=[]/\ct P f R k a w
 |m+1,X,rem,a,w=>
  (∃i o,i∈rem/\E i=false/\jf pm i rem=true/\ops[i]?=some o/\
   ((Region.wanted o (yielded ops a.tmps)=true/\ ∃v,(execOp a.eval o).run P w=.ok (.value v) w/\Can m (i::X) (rem.erase i) (a.put o.dst v) w)\/
    (Region.wanted o (yielded ops a.tmps)=false/\Can m (i::X) (rem.erase i) (a.put o.dst undef) w)))\/
  ((∀i∈rem,E i=false->jf pm i rem=false)/\
   ∀e∈rem,jf pm e rem=true->
    z8 P ops (λ a' w'=>(∀j∈X.filter (λ j=>!pre pm j e),u7 P ops j a' w')/\Can m (X.filter λ j=>!pre pm j e) (rem.erase e) a' w') e a w)
def mZ:Bool:=
 (List.range ops.size).all λ j=>
  match ops[j]? with
  |none=>false
  |some o=>
   ((pm.getD j []).all λ i=>o.after.toList.any λ e=>Region.binds .any e&&(e.on==i||pre pm i e.on))&&
   (o.after.toList.all λ e=>!Region.binds .any e||Nat.blt e.on j)&&
   (match o.op with| .select .. =>false|_=>true)&&
   ((List.range ops.size).all λ i=>match ops[i]? with
    |none=>false
    |some p=>match p.dst with
     |none=>true
     |some d=>(i==j||o.dst !=some d)&&(!(o.looksAt ops).contains d||(i !=j&&(pre pm i j||(E i&&pre pm j i))))||(i==j&&!(o.looksAt ops).contains d)||(i==j&&E j))
end
section
variable{P:Program}{f:FuncId}{R:Ending->World->Prop}{ops:Array Oper}{E:Nat->Bool}{pm:List (List Nat)}{k:List Item}
structure Ej(ops:Array Oper)(E:Nat->Bool)(pm:List (List Nat)):Prop where
 yH: ∀(j:Nat)(o:Oper),ops[j]?=some o-> ∀i,pre pm i j=true-> ∃e∈o.after,Region.binds .any e=true/\(e.on=i\/pre pm i e.on=true)
 back: ∀(j:Nat)(o:Oper),ops[j]?=some o-> ∀e∈o.after,Region.binds .any e=true->e.on<j
 uG: ∀(j:Nat)(o:Oper)(cs:Array SelectCase)(b:Bool),ops[j]?=some o->o.op≠.select cs b
 ER: ∀(i j:Nat)(p o:Oper)(d:Nat),ops[i]?=some p->ops[j]?=some o->i≠j->p.dst=some d->o.dst≠some d
 wX: ∀(i j:Nat)(p o:Oper)(d:Nat),ops[i]?=some p->ops[j]?=some o->p.dst=some d->d∈o.looksAt ops->(i≠j/\(pre pm i j=true\/(E i=true/\pre pm j i=true)))\/(i=j/\E j=true)
theorem qI(h:mZ ops E pm=true):Ej ops E pm:=by
 have I: ∀{j:Nat}{o:Oper},ops[j]?=some o->j<ops.size:=λ{j o} hj=>(Hg.1 hj).1
 have key: ∀j o,ops[j]?=some o->((pm.getD j []).all λ i=>o.after.toList.any λ e=>Region.binds .any e&&(e.on==i||pre pm i e.on))=true/\
  (o.after.toList.all λ e=>!Region.binds .any e||Nat.blt e.on j)=true/\(match o.op with| .select .. =>false|_=>true)=true/\
  ((List.range ops.size).all λ i=>match ops[i]? with
   |none=>false
   |some p=>match p.dst with
    |none=>true
    |some d=>(i==j||o.dst !=some d)&&(!(o.looksAt ops).contains d||(i !=j&&(pre pm i j||(E i&&pre pm j i))))||(i==j&&!(o.looksAt ops).contains d)||(i==j&&E j))=true:=by
  intro j o hj;have:=G3.1 h j (G9.2 (I hj));rw[hj]at this;simp only[Bool.and_eq_true]at this;exact⟨this.1.1.1,this.1.1.2,this.1.2,this.2⟩
 have pair: ∀i j p o d,ops[i]?=some p->ops[j]?=some o->p.dst=some d->((i==j||o.dst !=some d)&&(!(o.looksAt ops).contains d||(i !=j&&(pre pm i j||(E i&&pre pm j i))))||(i==j&&!(o.looksAt ops).contains d)||(i==j&&E j))=true:=by
  intro i j p o d hi hj hd;have:=G3.1 (key j o hj).2.2.2 i (G9.2 (I hi));rw[hi]at this;simp only[hd]at this;exact this
 refine⟨?_,?_,?_,?_,?_⟩;intro j o hj i hi;have G:=G3.1 (key j o hj).1 i (by simpa[pre]using hi);obtain⟨e,he,H⟩:=List.any_eq_true.1 G;simp at H;exact⟨e,by simpa using he,H⟩;intro j o hj e he hb;have:=G3.1 (key j o hj).2.1 e (by simpa using he);simpa[hb]using this;intro j o cs b hj aJ;have:=(key j o hj).2.2.1;rw[aJ]at this;cases this;intro i j p o d hi hj ah hd J;have:=pair i j p o d hi hj hd;simp[ah,J]at this;intro i j p o d hi hj hd hm;have:=pair i j p o d hi hj hd;by_cases a:i=j;right;refine⟨a,?_⟩;subst a;simpa[hm]using this;left;refine⟨a,?_⟩;simp[a,hm]at this;exact this.2
theorem agree{o:Oper}(aJ: ∀cs b,o.op≠.select cs b){a a':Act}(h: ∀t∈o.looksAt ops,a.tmps[t]?=a'.tmps[t]?):
 execOp a.eval o=execOp a'.eval o/\Region.wanted o (yielded ops a.tmps)=Region.wanted o (yielded ops a'.tmps):=by
 constructor;refine execOp_congr o aJ λ x L=>?_
 cases x with
 |tmp t=>
  have:=h t (List.mem_append_left _ (List.mem_filterMap.2 ⟨.tmp t,by simpa using L,rfl⟩));simp only[Act.eval,G1,this]
 |_=>rfl
 unfold Region.wanted;cases hg:o.guard with
 |none=>rfl
 |some c=>
  obtain⟨g,want⟩:=c;have hy:yielded ops a.tmps g=yielded ops a'.tmps g:=by
   unfold yielded;cases B:(ops[g]?).bind (·.dst)with
   |none=>rfl
   |some t=>
    have:=h t (Hk _ (by simp[hg,B]));simp[this]
  simp only[hy]
theorem hh(a:Act)(d:Option Nat)(v:Value)(t:Nat)(h:d≠some t):(a.put d v).tmps[t]?=a.tmps[t]?:=by
 cases d with
 |none=>rfl
 |some d=>simp[Act.put,Hc (λ e:d=t=>h (by rw[e]))]
theorem kE(a:Act)(d:Option Nat)(v:Value):(a.put d v).tmps.size=a.tmps.size:=by cases d<;>simp[Act.put]
theorem ua{i:Nat}{rem:List Nat}:jf pm i rem=true<-> ∀x∈rem,pre pm x i=false:=by
 simp[jf,G3]
structure tg(P:Program)(f:FuncId)(R:Ending->World->Prop)(ops:Array Oper)(E:Nat->Bool)(pm:List (List Nat))(k:List Item)(m:Nat)(X rem:List Nat)(b:Act)(listed:Array Bool)(a:Act)(w:World):Prop where
 can:Can P f R ops E pm k m X rem b w
 all: ∀i,i<ops.size->listed.getD i false=true\/i∈rem\/i∈X
 nM: ∀i∈rem,listed.getD i false=false/\i<ops.size
 oa:rem.Nodup
 idem: ∀j∈X,listed.getD j false=false->u7 P ops j b w
 same: ∀t:Nat,(∀j∈X,listed.getD j false=false-> ∀o:Oper,ops[j]?=some o->o.dst≠some t)->a.tmps[t]?=b.tmps[t]?
 size:a.tmps.size=b.tmps.size
 defs:a.defers=b.defers
 xC: ∀j∈X,listed.getD j false=false->E j=false/\j∉rem/\ ∀x∈rem,pre pm x j=false
 dc: ∀j,listed.getD j false=true-> ∀i,pre pm i j=true->listed.getD i false=true
 xl: ∀j∈X,j<ops.size
theorem tg.F8(ok:Ej ops E pm){listed:Array Bool}{a:Act}{w:World}: ∀(m:Nat)(X rem:List Nat)(b:Act),tg P f R ops E pm k m X rem b listed a w->rem.length=m->
 ∃g F p z,tg P f R ops E pm k g F p z listed a w/\p.length=g/\(p=[]\/ ∀i∈p,E i=false->jf pm i p=false):=by
 intro m;induction m with
 |zero=>intro X rem b h hm;exact⟨0,X,rem,b,h,hm,.inl (by simpa using hm)⟩
 |succ m af=>
  intro X rem b h hm;rcases h.can with⟨i,o,hi,Z,V,ho,hv⟩|⟨q,ae⟩
  have hlen:(rem.erase i).length=m:=by rw[G_ hi];omega
  have step: ∀v,((Region.wanted o (yielded ops b.tmps)=true/\(execOp b.eval o).run P w=.ok (.value v) w)\/(Region.wanted o (yielded ops b.tmps)=false/\v=undef))->
   Can P f R ops E pm k m (i::X) (rem.erase i) (b.put o.dst v) w->tg P f R ops E pm k m (i::X) (rem.erase i) (b.put o.dst v) listed a w:=by
   intro v T J;have aw:=(h.nM i hi).1;refine⟨J,?_,?_,h.oa.erase i,?_,?_,by rw[kE];exact h.size,by rw[put_defers];exact h.defs,?_,h.dc,λ j hj=>by
    rcases G6.1 hj with rfl|hj
    exact(Hg.1 ho).1;exact h.xl j hj⟩
   intro x L;rcases h.all x L with G|G|G
   exact .inl G;by_cases r:x=i;subst r;exact .inr (.inr sm);exact .inr (.inl ((Hr r).2 G));exact .inr (.inr (by simp[G]));intro x L;exact h.nM x (G4 L);intro j hj K;rcases G6.1 hj with rfl|hj
   have n:=agree (ops:=ops) (ok.uG _ o · · ho) (a:=b.put o.dst v) (a':=b) (λ t B=>hh _ _ _ _ λ e=>by
    rcases ok.wX _ _ o o t ho ho e B with⟨G,_⟩|⟨_,H⟩
    exact G rfl;rw[Z]at H;cases H)
   refine⟨o,v,ho,?_,?_⟩;rw[n.1,n.2];exact T;cases o.dst with
   |none=>rfl
   |some d=>simp[Act.put]
   obtain⟨M,u,s,c,A⟩:=h.idem j hj K;have ah:i≠j:=λ e=>by subst e;exact(h.xC i hj K).2.1 hi
   have n:=agree (ops:=ops) (ok.uG _ M · · s) (a:=b.put o.dst v) (a':=b) (λ t B=>hh _ _ _ _ λ e=>by
    rcases ok.wX _ _ o M t ho s e B with⟨_,G|⟨G,_⟩⟩|⟨G,_⟩
    have:=(h.xC j hj K).2.2 i hi;rw[G]at this;cases this;rw[Z]at G;cases G;exact ah G)
   refine⟨M,u,s,?_,?_⟩;rw[n.1,n.2];exact c;rw[Act.put_comm b v u (x:=o.dst) (y:=M.dst) (λ d hd=>ok.ER i j o M d ho s ah hd),A];intro t B;have G:o.dst≠some t:=B i sm aw o ho;rw[hh _ _ _ _ G];exact h.same t λ j hj=>B j (by simp[hj])
   intro j hj K;rcases G6.1 hj with rfl|hj
   exact⟨Z,λ hm=>(List.Nodup.mem_erase_iff h.oa).1 hm|>.1 rfl,λ x L=>ua.1 V x (G4 L)⟩;obtain⟨G,H,S⟩:=h.xC j hj K;exact⟨G,λ hm=>H (G4 hm),λ x L=>S x (G4 L)⟩
  rcases hv with⟨hw,v,T,J⟩|⟨hw,J⟩
  exact af _ _ _ (step v (.inl ⟨hw,T⟩) J) hlen;exact af _ _ _ (step undef (.inr ⟨hw,rfl⟩) J) hlen;exact⟨m+1,X,rem,b,h,hm,.inr q⟩
theorem ur(a b:Act)(t:Nat)(v:Value)(h:a.tmps.size=b.tmps.size):(a.put (some t) v).tmps[t]?=(b.put (some t) v).tmps[t]?:=by
 simp only[Act.put,Hs];rw[h]
theorem tg.fin{X:List Nat}{rem:List Nat}{b:Act}{listed:Array Bool}{a:Act}{w:World}{m:Nat}(h:tg P f R ops E pm k m X rem b listed a w)(hm:rem.length=m)
 (ae: ∀i,i<ops.size->listed.getD i false=true) (hX: ∀j∈X,j<ops.size):ct P f R k a w:=by
 have z:rem=[]:=by
  cases rem with
  |nil=>rfl
  |cons x xs=>have:=h.nM x sm;rw[ae x this.2]at this;simp at this
 subst z;have c:m=0:=by simpa using hm.symm
 subst c;have o:a=b:=by
  have B:a.tmps=b.tmps:=Ht λ t=>h.same t λ j hj hl=>by rw[ae j (hX j hj)]at hl;simp at hl
  have hd:=h.defs;cases a;cases b;simp_all
 rw[o];exact h.can.2
theorem tg.runs(ok:Ej ops E pm): ∀(fuel t:Nat)(listed:Array Bool)(a:Act)(w:World)(m:Nat)(X rem:List Nat)(b:Act),
 tg P f R ops E pm k m X rem b listed a w->rem.length=m->(rem=[]\/ ∀i∈rem,E i=false->jf pm i rem=false)->listed.size=ops.size->
  ((List.range ops.size).filter λ i=>!listed.getD i false).length<=fuel->
   ct P f R (.inRegion ops (Region.linearise.go .any ops fuel t listed [])::k) a w:=by
 have stop: ∀(listed:Array Bool)(a:Act)(w:World)(m:Nat)(X rem:List Nat)(b:Act),tg P f R ops E pm k m X rem b listed a w->rem.length=m->(∀i,i<ops.size->listed.getD i false=true)->
  ct P f R (.inRegion ops []::k) a w:=by
  intro listed a w m X rem b h hm ae;exact ct.AI (λ c=>step_region_end) (h.fin hm ae h.xl)
 intro fuel;induction fuel with
 |zero=>
  intro t listed a w m X rem b h hm _ _ hf;simp only[Region.linearise.go,List.reverse_nil];refine stop listed a w m X rem b h hm λ i hi=>?_
  cases hl:listed.getD i false with
  |true=>rfl
  |false=>
   have F:((List.range ops.size).filter λ i=>!listed.getD i false)=[]:=List.eq_nil_of_length_eq_zero om;have:i∈((List.range ops.size).filter λ i=>!listed.getD i false):=G5.2 ⟨G9.2 hi,by simpa using hl⟩;rw[F]at this;cases this
 |succ fuel af=>
  intro t listed a w m X rem b h hm C dB hf;simp only[Region.linearise.go];change ct P f R (.inRegion ops (match(Region.ready .any ops listed)[t%(Region.ready .any ops listed).length]? with
   |some i=>Region.linearise.go .any ops fuel (t/(Region.ready .any ops listed).length) (listed.setIfInBounds i true) [i]
   |none=>[].reverse)::k) a w
  cases hi:(Region.ready .any ops listed)[t%(Region.ready .any ops listed).length]? with
  |none=>
   have F:Region.ready .any ops listed=[]:=by
    cases V:Region.ready .any ops listed with
    |nil=>rfl
    |cons x xs=>
     rw[V]at hi;have I:t%(x::xs).length<(x::xs).length:=Nat.mod_lt _ sm;simp at hi;simp at I;omega
   refine stop listed a w m X rem b h hm ?_;intro i;induction i using Nat.strongRecOn with
   |_ i aB=>
    intro I;cases hl:listed.getD i false with
    |true=>rfl
    |false=>
     have az:ops[i]?=some ops[i]:=Array.getElem?_eq_getElem I;have:i∈Region.ready .any ops listed:=by
      refine mem_ready.2 ⟨?_,ops[i],az,λ e he hb=>?_⟩;have:i<listed.size:=by omega
      simpa[G1,this]using hl;have av:=ok.back i _ az e he hb;exact aB e.on av om
     rw[F]at this;cases this
  |some i=>
   simp only[];rw[linearise_go_acc,List.reverse_singleton,List.singleton_append];have aC:=GZ hi;obtain⟨ab,o,ho,p⟩:=mem_ready.1 aC;have ar:i<ops.size:=(Hg.1 ho).1;have aw:listed.getD i false=false:=by
    have:i<listed.size:=by omega
    simpa[G1,this]using ab
   have ag: ∀x,pre pm x i=true->listed.getD x false=true:=by
    intro x L;obtain⟨e,he,hb,G⟩:=ok.yH i o ho x L;have aF:=p e he hb;rcases G with G|G
    rw[<-G];exact aF;exact h.dc _ aF x G
   have y: ∀x,x≠i->(listed.setIfInBounds i true).getD x false=listed.getD x false:=λ x L=>getD_set_ne false (Ne.symm L)
   have D:(listed.setIfInBounds i true).getD i false=true:=by simp[show i<listed.size by omega]
   have ad: ∀x,listed.getD x false=true->(listed.setIfInBounds i true).getD x false=true:=λ x L=>getD_set_true L
   have O: ∀x,(listed.setIfInBounds i true).getD x false=false->x≠i/\listed.getD x false=false:=by
    intro x L;have ah:x≠i:=λ e=>by subst e;rw[D]at L;cases L
    exact⟨ah,by rw[<-y x ah];exact L⟩
   have an:((List.range ops.size).filter λ x=>!(listed.setIfInBounds i true).getD x false).length<=fuel:=by
    have G:((List.range ops.size).filter λ x=>!(listed.setIfInBounds i true).getD x false)=((List.range ops.size).filter λ x=>!listed.getD x false).erase i:=by
     rw[List.Nodup.erase_eq_filter (Hu.filter _),List.filter_filter];refine List.filter_congr λ x L=>?_
     by_cases r:x=i;subst r;simp[D];simp[y x r,r]
    rw[G,G_ (G5.2 ⟨G9.2 ar,by simpa using aw⟩)];omega
   have aV: ∀j,(listed.setIfInBounds i true).getD j false=true-> ∀x,pre pm x j=true->(listed.setIfInBounds i true).getD x false=true:=by
    intro j hj x L;by_cases z:j=i;subst z;exact ad x (ag x L);rw[y j z]at hj;exact ad x (h.dc j hj x L)
   have aq:(∀j∈X,listed.getD j false=false->j=i->E i=false)-> ∀t∈o.looksAt ops,a.tmps[t]?=b.tmps[t]?:=by
    intro ax t B;refine h.same t λ j hj K M s hd=>?_
    rcases ok.wX j i M o t s ho hd B with⟨_,G|⟨G,_⟩⟩|⟨G,H⟩
    rw[ag j G]at K;cases K;rw[(h.xC j hj K).1]at G;cases G;rw[ax j hj K G]at H;cases H
   rcases h.all i ar with G|G|G
   rw[G]at aw;cases aw;have ao:jf pm i rem=true:=ua.2 λ x L=>by
    cases hp:pre pm x i with
    |false=>rfl
    |true=>have:=(h.nM x L).1;rw[ag x hp]at this;cases this
   have ay:E i=true:=by
    cases Z:E i with
    |true=>rfl
    |false=>
     rcases C with H|H
     rw[H]at G;cases G;have:=H i G Z;rw[ao]at this;cases this
   cases m with
   |zero=>rw[List.length_eq_zero_iff.1 hm]at G;cases G
   |succ m=>
    rcases h.can with⟨i',u,N,Q,al,_⟩|⟨_,ae⟩
    rcases C with H|H
    rw[H]at G;cases G;have:=H i' N Q;rw[al]at this;cases this;obtain⟨u,aa,ak⟩:=ae i G ao;have au:u=o:=by rw[ho]at aa;exact(Option.some.inj aa).symm
    subst au;have n:=agree (ops:=ops) (ok.uG i u · · ho) (aq λ j hj K e=>by subst e;exact absurd G (h.xC j hj K).2.1);have cont: ∀v w',((∀j∈X.filter (λ j=>!pre pm j i),u7 P ops j (b.put u.dst v) w')/\Can P f R ops E pm k m (X.filter λ j=>!pre pm j i) (rem.erase i) (b.put u.dst v) w')->
     ct P f R (.inRegion ops (Region.linearise.go .any ops fuel (t/(Region.ready .any ops listed).length) (listed.setIfInBounds i true) [])::k) (a.put u.dst v) w':=by
     rintro v w' ⟨hid,J⟩;have q:tg P f R ops E pm k m (X.filter λ j=>!pre pm j i) (rem.erase i) (b.put u.dst v) (listed.setIfInBounds i true) (a.put u.dst v) w':=by
      refine⟨J,?_,?_,h.oa.erase i,λ j hj _=>hid j hj,?_,by rw[kE,kE];exact h.size,by rw[put_defers,put_defers];exact h.defs,?_,aV,λ j hj=>h.xl j (G5.1 hj).1⟩;intro x L;rcases h.all x L with H|H|H
      exact .inl (ad x H);by_cases r:x=i;subst r;exact .inl D;exact .inr (.inl ((Hr r).2 H));cases hp:pre pm x i with
      |true=>exact .inl (ad x (ag x hp))
      |false=>exact .inr (.inr (G5.2 ⟨H,by simp[hp]⟩))
      intro x L;have r:x≠i:=((List.Nodup.mem_erase_iff h.oa).1 L).1;have:=h.nM x (G4 L);exact⟨by rw[y x r];exact this.1,this.2⟩;intro t B;by_cases hd:u.dst=some t;rw[hd];exact ur a b t v h.size;rw[hh _ _ _ _ hd,hh _ _ _ _ hd];refine h.same t λ j hj K M s=>?_
      have z:j≠i:=λ e=>by subst e;exact(h.xC j hj K).2.1 G
      refine B j (G5.2 ⟨hj,?_⟩) (by rw[y j z];exact K) M s;cases hp:pre pm j i with
      |false=>rfl
      |true=>rw[ag j hp]at K;cases K
      intro j hj K;obtain⟨H,S,Y⟩:=h.xC j (G5.1 hj).1 (O j K).2;exact⟨H,λ aA=>S (G4 aA),λ x L=>Y x (G4 L)⟩
     obtain⟨m2,X2,ai,b2,d,aI,l⟩:=tg.F8 ok m _ _ _ q (by rw[G_ G];omega);exact af _ _ _ _ m2 X2 ai b2 d aI l (by simpa using dB) an
    rcases ak with⟨hw,U⟩|⟨hw,⟨v,w',V,U⟩|⟨w',V,U⟩|⟨g,args,V,U⟩⟩
    exact ct.Fq ho (by rw[n.2];exact hw) (cont _ _ U);exact ct.DP ho (by rw[n.2];exact hw) (by rw[n.1];exact V) (cont _ _ U);exact ct.BO ho (by rw[n.2];exact hw) (by rw[n.1];exact V) (cont _ _ U);refine ct.enter ho (by rw[n.2];exact hw) (by rw[n.1];exact V) (U.mono ?_);rintro e w' ⟨v,rfl,aj⟩;exact⟨v,rfl,cont _ _ aj⟩
   obtain⟨u,v,aa,T,A⟩:=h.idem i G aw;have au:u=o:=by rw[ho]at aa;exact(Option.some.inj aa).symm
   subst au;have ay:=(h.xC i G aw).1;have n:=agree (ops:=ops) (ok.uG i u · · ho) (aq λ j hj K e=>ay);have q:tg P f R ops E pm k m X rem b (listed.setIfInBounds i true) (a.put u.dst v) w:=by
    refine⟨h.can,?_,?_,h.oa,λ j hj K=>h.idem j hj (O j K).2,?_,by rw[kE];exact h.size,by rw[put_defers];exact h.defs,λ j hj K=>h.xC j hj (O j K).2,aV,h.xl⟩;intro x L;rcases h.all x L with H|H|H
    exact .inl (ad x H);exact .inr (.inl H);exact .inr (.inr H);intro x L;have r:x≠i:=λ e=>by subst e;exact(h.xC x G aw).2.1 L
    have:=h.nM x L;exact⟨by rw[y x r];exact this.1,this.2⟩;intro t B;by_cases hd:u.dst=some t;rw[hd]at A;rw[hd,ur a b t v h.size,A];rw[hh _ _ _ _ hd];refine h.same t λ j hj K M s=>?_
    by_cases z:j=i;subst z;have:M=u:=by rw[ho]at s;exact(Option.some.inj s).symm
    rw[this];exact hd;exact B j hj (by rw[y j z];exact K) M s
   have W:=af (t/(Region.ready .any ops listed).length) _ _ _ m X rem b q hm C (by simpa using dB) an;rcases T with⟨hw,V⟩|⟨hw,rfl⟩
   exact ct.DP ho (by rw[n.2];exact hw) (by rw[n.1];exact V) W;exact ct.Fq ho (by rw[n.2];exact hw) W
theorem ct.draw{id:Nat}{a:Act}{w:World}(hm:P.follows .mixedOrders=true)(a6:mZ ops E pm=true)
 (h:Can P f R ops E pm k ops.size [] (List.range ops.size) a {w with drawn:=w.drawn+1}):ct P f R (.code (.region id ops true)::k) a w:=by
 refine ct.AI (λ c=>step_region_draw) ?_;have b: ∀t,Region.schedule (P.follows .mixedOrders) ops t=Region.linearise.go .any ops ops.size t (Array.replicate ops.size false) []:=by
  intro t;simp only[Region.schedule,hm,Bool.true_or,if_true,Region.linearise]
 rw[b];have hf: ∀i,(Array.replicate ops.size false).getD i false=false:=by
  intro i;simp[G1,Array.getElem?_replicate];split<;>rfl
 have ok:=qI a6;have N:tg P f R ops E pm k ops.size [] (List.range ops.size) a (Array.replicate ops.size false) a {w with drawn:=w.drawn+1}:=by
  exact{can:=h,all:=λ i hi=>.inr (.inl (G9.2 hi)),nM:=λ i hi=>⟨hf i,G9.1 hi⟩,oa:=Hu,idem:=λ j hj=>absurd hj Hm,same:=λ t _=>rfl,size:=rfl,defs:=rfl,xC:=λ j hj=>absurd hj Hm,dc:=λ j hj=>by rw[hf j]at hj;(cases hj),xl:=λ j hj=>absurd hj Hm}
 obtain⟨m2,X2,ai,b2,d,aI,l⟩:=tg.F8 ok _ _ _ _ N sm;exact tg.runs ok _ _ _ _ _ m2 X2 ai b2 d aI l sm (by
  refine Nat.le_trans (List.length_filter_le _ _) ?_;simp)
end
def BW(t:List Item):Array Oper:=
 match t with
 | .code (.region _ ops true)::_=>ops
 |_=>#[]
def xh:Op->Bool
 | .alloc .. | .box .. | .buildSlice .. | .store .. | .makeSlice .. | .makeMap .. | .assign .. =>true
 | .convert .. =>false
 | .call c=>match c.callee with
  | .builtin .len| .builtin .cap| .builtin .min| .builtin .max=>false
  |_=>true
 |_=>false
def dE(ops:Array Oper)(i:Nat):Bool:=match ops[i]? with
 |some o=>xh o.op
 |none=>false
def eV(ops:Array Oper):List (List Nat):=
 ops.toList.foldl (λ acc o=>acc++[(o.after.toList.foldl (λ s e=>if Region.binds .any e then(e.on::acc.getD e.on [])++s else s) []).eraseDups]) []
section
variable(P:Program)(f:FuncId)(fn:Func)(R:Ending->World->Prop)(D:List Deferred)(aa:au)(path ak:List Nat)
def aI:Array Oper:=BW (bI (bd fn) path [])
def eS(X rem:List Nat)(env:Ev)(cs:List Chunk):Prop:=
 ∀a w,Env fn.ntmps env a->a.defers=D->Heap aa cs w->Can P f R (aI fn path) (dE (aI fn path)) (eV (aI fn path)) (bI (bd fn) ak []) rem.length X rem a w
def sb(X rem:List Nat)(env:Ev)(cs:List Chunk):Prop:=
 ∀a w,Env fn.ntmps env a->a.defers=D->Heap aa cs w->(∀j∈X,u7 P (aI fn path) j a w)/\Can P f R (aI fn path) (dE (aI fn path)) (eV (aI fn path)) (bI (bd fn) ak []) rem.length X rem a w
def kC(e:Nat)(X rem:List Nat)(env:Ev)(cs:List Chunk):Prop:=
 ∀a w,Env fn.ntmps env a->a.defers=D->Heap aa cs w->
  z8 P (aI fn path) (λ a' w'=>(∀j∈X.filter (λ j=>!pre (eV (aI fn path)) j e),u7 P (aI fn path) j a' w')/\
   Can P f R (aI fn path) (dE (aI fn path)) (eV (aI fn path)) (bI (bd fn) ak []) (rem.erase e).length (X.filter λ j=>!pre (eV (aI fn path)) j e) (rem.erase e) a' w') e a w
end
section
variable{P:Program}{f:FuncId}{fn:Func}{R:Ending->World->Prop}{D:List Deferred}{aa:au}{path ak:List Nat}{X rem:List Nat}{env:Ev}{cs:List Chunk}
theorem bf.draw(ak:List Nat)(n:Nat)(hm:P.follows .mixedOrders=true)
 (N:(match bI (bd fn) path []with| .code (.region _ ops true)::k=>some (ops.size,k)|_=>none)=some (n,bI (bd fn) ak []))
 (a6:mZ (aI fn path) (dE (aI fn path)) (eV (aI fn path))=true)
 (k:eS P f fn R D aa path ak [] (List.range n) env cs):bf P f fn R D aa path env cs:=by
 intro a w he hd hh;unfold aI at a6;unfold eS aI at k;have U:=k a {w with drawn:=w.drawn+1} he hd (hh.drew _);generalize B:bI (bd fn) path []=t at*
 match t,N with
 | .code (.region id ops true)::F,N=>
  simp at N;obtain⟨rfl,rfl⟩:=N;simp[BW,List.length_range]at U a6;exact ct.draw hm a6 U
theorem eS.fin(k:bf P f fn R D aa ak env cs):eS P f fn R D aa path ak X [] env cs:=
 λ a w he hd hh=>⟨rfl,k a w he hd hh⟩
def gS(P:Program)(n:Nat)(u:Nat->Value)(ops:Array Oper)(pm:List (List Nat))(cs:List Chunk):List Nat->List Nat->Ev->List Nat->List Nat->List (Nat×Nat)->Option (Ev×List Nat×List Nat×List (Nat×Nat))
 |[],_,env,X,rem,es=>some (env,X,rem,es)
 |i::l,aJ,env,X,rem,es=>
  match ops[i]? with
  |none=>none
  |some o=>
   match rem.contains i&&!xh o.op&&jf pm i rem&&iS n o.dst with
   |false=>none
   |true=>
    match gd ops env o.guard with
    |none=>none
    |some false=>gS P n u ops pm cs l aJ (dF o.dst undef env) (i::X) (rem.erase i) es
    |some true=>
     match lx P (bq aJ) (execOp (bB u env) o) 0 cs es with
     |some (.value v,d)=>gS P n u ops pm cs l (if xT o.op then aJ.tail else aJ) (dF o.dst v env) (i::X) (rem.erase i) d
     |_=>none
theorem Aa{P:Program}{hj:Nat×Nat}{α:Type}{r:α}{cs:List Chunk}{d:List (Nat×Nat)}:
 ∀(s:Sem α)(j:Nat)(es:List (Nat×Nat)),lx P hj s j cs es=some (r,d)-> ∀e,e∈es->e∈d:=by
 intro s;induction s with
 |pure a=>
  intro j es h e he;simp[lx]at h;rw[<-h.2];exact he
 |program k af=>intro j es h;exact af P j es h
 |mark m k af=>intro j es h;exact af j es h
 |load m a k af=>
  intro j es h e he;unfold lx at h
  repeat' split at h
  all_goals first
   |exact af _ _ _ h e (by simp[he])
   |cases h
 |_=>intro j es h;simp[lx]at h
theorem wo{P:Program}{n:Nat}{u:Nat->Value}{ops:Array Oper}{pm:List (List Nat)}{cs:List Chunk}{r:Ev×List Nat×List Nat×List (Nat×Nat)}:
 ∀(l aJ:List Nat)(env:Ev)(X rem:List Nat)(es:List (Nat×Nat)),gS P n u ops pm cs l aJ env X rem es=some r-> ∀e,e∈es->e∈r.2.2.2:=by
 intro l;induction l with
 |nil=>intro aJ env X rem es h e he;simp[gS]at h;subst h;exact he
 |cons i l af=>
  intro aJ env X rem es h e he;unfold gS at h
  repeat' split at h
  all_goals first
   |exact af _ _ _ _ _ h e he
   |cases h;done
   |(rename_i K;exact af _ _ _ _ _ h e (Aa _ _ _ K e he))
   |(rename_i K _;exact af _ _ _ _ _ h e (Aa _ _ _ K e he))
theorem rK{P:Program}{f:FuncId}{R:Ending->World->Prop}{n:Nat}{u:Nat->Value}{ops:Array Oper}{pm:List (List Nat)}{k:List Item}{aa:au}{cs:List Chunk}{w:World}{r:Ev×List Nat×List Nat×List (Nat×Nat)}
 (E: ∀e,e∈r.2.2.2->e.1=e.2) (hh:Heap aa cs w):
 ∀(l aJ:List Nat)(env:Ev)(X rem:List Nat)(es:List (Nat×Nat))(a:Act),gS P n u ops pm cs l aJ env X rem es=some r->Env n env a->a.eval=bB u env->
  (∀a',Env n r.1 a'->a'.defers=a.defers->Can P f R ops (dE ops) pm k r.2.2.1.length r.2.1 r.2.2.1 a' w)->Can P f R ops (dE ops) pm k rem.length X rem a w:=by
 intro l;induction l with
 |nil=>intro aJ env X rem es a h he hv U;simp[gS]at h;subst h;exact U a he rfl
 |cons i l af=>
  intro aJ env X rem es a h he hv U;simp only[gS]at h;cases ho:ops[i]? with
  |none=>rw[ho]at h;cases h
  |some o=>
   rw[ho]at h;simp only at h;cases J:(rem.contains i&&!xh o.op&&jf pm i rem&&iS n o.dst)with
   |false=>rw[J]at h;cases h
   |true=>
    rw[J]at h;simp only at h;simp[Hv,Hw]at J;obtain⟨⟨⟨A,Z⟩,V⟩,hd⟩:=J;have hlen:rem.length=(rem.erase i).length+1:=by
     rw[G_ A];have:0<rem.length:=Hx A;omega
    rw[hlen];have Q:dE ops i=false:=by simp[dE,ho,Z]
    cases hg:gd ops env o.guard with
    |none=>rw[hg]at h;cases h
    |some b=>
     rw[hg]at h;have hw:=cC he hg;cases b with
     |false=>
      simp only at h;obtain⟨p1,p2⟩:=cL he hv hd undef;exact .inl ⟨i,o,A,Q,V,ho,.inr ⟨hw,af _ _ _ _ _ _ h p1 p2 λ a' x y=>U a' x (y.trans (put_defers _ _ _))⟩⟩
     |true=>
      simp only at h;cases L:lx P (bq aJ) (execOp (bB u env) o) 0 cs es with
      |none=>rw[L]at h;cases h
      |some q=>
       obtain⟨nx,d⟩:=q;rw[L]at h;cases nx with
       |value v=>
        simp only at h;obtain⟨p1,p2⟩:=cL he hv hd v;have T:=(kQ (λ e j=>E e (wo _ _ _ _ _ _ h e j)) hh _ _ _ L).1;exact .inl ⟨i,o,A,Q,V,ho,.inl ⟨hw,v,by rw[hv];exact T,af _ _ _ _ _ _ h p1 p2 λ a' x y=>U a' x (y.trans (put_defers _ _ _))⟩⟩
       |_=>cases h
theorem hk{n:Nat}{env b:Ev}{a:Act}(he:Env n env a)(h:b.map (λ x=>look env x.1)=b.map (λ x=>some x.2)):Env n b a:=by
 refine⟨he.1,λ t v hv=>?_⟩;have c: ∀(l:Ev)(t:Nat)(v:Value),look l t=some v->(t,v)∈l:=by
  intro l;induction l with
  |nil=>intro t v h;simp[look]at h
  |cons x xs af=>
   intro t v h;obtain⟨k,y⟩:=x;simp[look]at h;cases hb:Nat.beq k t with
   |true=>rw[hb]at h;simp at h;subst h;rw[G2 hb];simp
   |false=>rw[hb]at h;simp at h;exact Hb _ (af t v h)
 obtain⟨i,hi⟩:=G7 (c _ t v hv);have:=congrArg (λ l=>l[i]?) h;simp[hi]at this;exact he.2 t v this
theorem pn{es:List (Nat×Nat)}(h:es.map (·.1)=es.map (·.2)): ∀e,e∈es->e.1=e.2:=by
 intro e hm;obtain⟨i,hi⟩:=G7 hm;have:=congrArg (λ l=>l[i]?) h;simpa[hi]using this
theorem eS.run(l aJ:List Nat)(F p:List Nat)(b:Ev)
 (G: ∀u,(gS P fn.ntmps u (aI fn path) (eV (aI fn path)) cs l aJ env X rem []).map (λ r=>(b.map (λ x=>look r.1 x.1),r.2.1,r.2.2.1))=some (b.map (λ x=>some x.2),F,p))
 (H: ∀u,(gS P fn.ntmps u (aI fn path) (eV (aI fn path)) cs l aJ env X rem []).map (λ r=>r.2.2.2.map (·.1))=(gS P fn.ntmps u (aI fn path) (eV (aI fn path)) cs l aJ env X rem []).map (λ r=>r.2.2.2.map (·.2)))
 (k:eS P f fn R D aa path ak F p b cs):eS P f fn R D aa path ak X rem env cs:=by
 intro a w he hd hh;have d:=G (un a);have C:=H (un a);cases L:gS P fn.ntmps (un a) (aI fn path) (eV (aI fn path)) cs l aJ env X rem []with
 |none=>rw[L]at d;cases d
 |some r=>
  rw[L]at d C;simp only[Hd,G8,He]at d C;obtain⟨aw,az,e3⟩:=d;refine rK (pn C) hh l aJ env X rem [] a L he he.eval λ a' j z=>?_
  rw[az,e3];exact k a' w (hk j aw) (z.trans hd) hh
theorem eS.wait(ah:rem.isEmpty=false)(q:(rem.all λ i=>dE (aI fn path) i||!jf (eV (aI fn path)) i rem)=true)
 (k: ∀e∈rem.filter (λ e=>jf (eV (aI fn path)) e rem),kC P f fn R D aa path ak e X rem env cs):eS P f fn R D aa path ak X rem env cs:=by
 intro a w he hd hh;cases rem with
 |nil=>cases ah
 |cons x xs=>
  refine .inr ⟨λ i hi Z=>?_,λ e t V=>?_⟩;have:=G3.1 q i hi;rw[Z]at this;simpa using this;have:=k e (G5.2 ⟨t,V⟩) a w he hd hh;have hlen:((x::xs).erase e).length=xs.length:=by rw[G_ t];simp
  rw[hlen]at this;exact this
theorem eS.one(e:Nat)(ah:rem.isEmpty=false)(q:(rem.all λ i=>dE (aI fn path) i||!jf (eV (aI fn path)) i rem)=true)
 (he:rem.filter (λ e=>jf (eV (aI fn path)) e rem)=[e])
 (k:kC P f fn R D aa path ak e X rem env cs):eS P f fn R D aa path ak X rem env cs:=
 eS.wait ah q λ o hm=>by rw[he]at hm;have:=List.mem_singleton.1 hm;subst this;exact k
def oQ(P:Program)(u:Nat->Value)(ops:Array Oper)(env:Ev)(cs:List Chunk)(x:Nat×Nat):Option (Option Value×Option Value×List Nat×List Nat):=
 match ops[x.1]? with
 |none=>none
 |some o=>match gd ops env o.guard with
  |none=>none
  |some false=>some (some undef,(match o.dst with|some d=>look env d|none=>some undef),[],[])
  |some true=>match lx P (bq [x.2]) (execOp (bB u env) o) 0 cs []with
   |some (.value v,es)=>some (some v,(match o.dst with|some d=>look env d|none=>some v),es.map (·.1),es.map (·.2))
   |_=>none
theorem oO{P:Program}{ops:Array Oper}{env:Ev}{cs:List Chunk}{x:Nat×Nat}{n:Nat}{a:Act}{w:World}(he:Env n env a)(hh:Heap aa cs w)
 {r:Option Value×Option Value×List Nat×List Nat} (h:oQ P (un a) ops env cs x=some r) (G:r.1=r.2.1) (H:r.2.2.1=r.2.2.2):u7 P ops x.1 a w:=by
 have A: ∀{d:Option Nat}{v:Value},some v=(match d with|some d=>look env d|none=>some v)->a.put d v=a:=by
  intro d v hv;cases d with
  |none=>rfl
  |some d=>
   have:=he.2 d v hv.symm;obtain⟨I,e⟩:=Hg.1 this;simp only[Act.put]
   congr 1
   refine Ht λ i=>?_
   by_cases hi:d=i;subst hi;rw[Hs];simp[I,e];rw[Hc hi]
 unfold oQ at h;cases ho:ops[x.1]? with
 |none=>rw[ho]at h;cases h
 |some o=>
  rw[ho]at h;simp only at h;cases hg:gd ops env o.guard with
  |none=>rw[hg]at h;cases h
  |some b=>
   rw[hg]at h;have hw:=cC he hg;cases b with
   |false=>
    simp at h;subst h;exact⟨o,undef,ho,.inr ⟨hw,rfl⟩,A G⟩
   |true=>
    simp only at h;cases L:lx P (bq [x.2]) (execOp (bB (un a) env) o) 0 cs []with
    |none=>rw[L]at h;cases h
    |some q=>
     obtain⟨nx,es⟩:=q;rw[L]at h;cases nx with
     |value v=>
      simp at h;subst h;refine⟨o,v,ho,.inl ⟨hw,?_⟩,A G⟩;rw[he.eval];exact(kQ (pn H) hh _ _ _ L).1
     |_=>cases h
theorem sb.mk(b:List (Nat×Nat))(hX:b.map (·.1)=X)
 (G: ∀u,(b.map (oQ P u (aI fn path) env cs)).all (·.isSome)=true)
 (H: ∀u,(b.map (oQ P u (aI fn path) env cs)).map (·.map λ r=>(r.1,r.2.2.1))=(b.map (oQ P u (aI fn path) env cs)).map (·.map λ r=>(r.2.1,r.2.2.2)))
 (k:eS P f fn R D aa path ak X rem env cs):sb P f fn R D aa path ak X rem env cs:=by
 intro a w he hd hh;refine⟨λ j hj=>?_,k a w he hd hh⟩;rw[<-hX]at hj;obtain⟨x,L,rfl⟩:=Hy.1 hj;have aJ:=G3.1 (G (un a)) _ (Hy.2 ⟨x,L,rfl⟩);obtain⟨r,V⟩:=HA.1 aJ;have C:=H (un a);rw[Hz,Hz]at C;have:=List.map_inj_left.1 C x L;simp[Function.comp_apply,V]at this;exact oO he hh V this.1 this.2
def fK(n:Nat)(ops:Array Oper)(env:Ev)(e:Nat):Option Oper:=
 match ops[e]? with
 |none=>none
 |some o=>match gd ops env o.guard with
  |some true=>match iS n o.dst with
   |true=>some o
   |false=>none
  |_=>none
theorem hE{n:Nat}{ops:Array Oper}{e:Nat}{o:Oper}(h:fK n ops env e=some o):ops[e]?=some o/\gd ops env o.guard=some true/\iS n o.dst=true:=by
 unfold fK at h;split at h;cases h;rename_i u ho;split at h;rename_i hg;split at h;rename_i hd;injection h with h;subst h;exact⟨ho,hg,hd⟩
 cases h;cases h
theorem kC.op{e:Nat}{o:Oper}{F p:List Nat}{Q:Value->au->List Chunk->Prop}(G:fK fn.ntmps (aI fn path) env e=some o)
 (hX:X.filter (λ j=>!pre (eV (aI fn path)) j e)=F) (z:rem.erase e=p)
 (H: ∀u w,Heap aa cs w-> ∃v w' C M,((execOp (bB u env) o).run P w=.ok (.value v) w'\/(v=undef/\(execOp (bB u env) o).run P w=.ok .skip w'))/\au.le aa C/\Heap C M w'/\Q v C M)
 (k: ∀v C M,au.le aa C->Q v C M->sb P f fn R D C path ak F p (dF o.dst v env) M):kC P f fn R D aa path ak e X rem env cs:=by
 intro a w he hd hh;obtain⟨ho,hg,m⟩:=hE G;obtain⟨v,w',C,M,V,hl,q,K⟩:=H (un a) w hh;obtain⟨p1,_⟩:=cL he he.eval m v;have U:=k v C M hl K _ w' p1 ((put_defers _ _ _).trans hd) q;rw[<-hX,<-z]at U;refine⟨o,ho,.inr ⟨cC he hg,?_⟩⟩;rcases V with V|⟨rfl,V⟩
 exact .inl ⟨v,w',by rw[he.eval];exact V,U⟩;exact .inr (.inl ⟨w',by rw[he.eval];exact V,U⟩)
theorem kC.sx(e:Nat)(h:Nat)(F p:List Nat)(b:(Nat->Nat)->Ev)(M:(Nat->Nat)->List Chunk)
 (hX:X.filter (λ j=>!pre (eV (aI fn path)) j e)=F) (z:rem.erase e=p)
 (G: ∀u g,((fK fn.ntmps (aI fn path) env e).bind λ o=>(Go.Proofs.YtdpmeahgjjmdiaaGreatDoor.sx P (bq [h]) g (execOp (bB u env) o) 0 cs 0 []).bind λ r=>match r.1 with
  | .value v=>some ((b g).map (λ x=>look (dF o.dst v env) x.1),r.2.1)
  | .skip=>some ((b g).map (λ x=>look (dF o.dst undef env) x.1),r.2.1)
  |_=>none)=some ((b g).map (λ x=>some x.2),M g))
 (H: ∀u g,((fK fn.ntmps (aI fn path) env e).bind λ o=>(Go.Proofs.YtdpmeahgjjmdiaaGreatDoor.sx P (bq [h]) g (execOp (bB u env) o) 0 cs 0 []).map λ r=>r.2.2.2.map (·.1))=
  ((fK fn.ntmps (aI fn path) env e).bind λ o=>(Go.Proofs.YtdpmeahgjjmdiaaGreatDoor.sx P (bq [h]) g (execOp (bB u env) o) 0 cs 0 []).map λ r=>r.2.2.2.map (·.2)))
 (k: ∀g,sb P f fn R D aa path ak F p (b g) (M g)):kC P f fn R D aa path ak e X rem env cs:=by
 intro a w he hd hh
 let g:Nat->Nat:=λ i=>w.heap.size+i
 have d:=G (un a) g;have C:=H (un a) g;cases ho:fK fn.ntmps (aI fn path) env e with
 |none=>rw[ho]at d;cases d
 |some o=>
  rw[ho]at d C;simp at d C;cases L:Go.Proofs.YtdpmeahgjjmdiaaGreatDoor.sx P (bq [h]) g (execOp (bB (un a) env) o) 0 cs 0 []with
  |none=>rw[L]at d;cases d
  |some r=>
   obtain⟨nx,l,n,aF⟩:=r;rw[L]at d C;simp only[Hl,Hd,G8]at d C;obtain⟨Q,hg,m⟩:=hE ho;obtain⟨⟨w',V,q,K⟩,_⟩:=ny (aa:=aa) (pn C) _ _ _ _ _ w L hh sm;refine⟨o,Q,.inr ⟨cC he hg,?_⟩⟩;cases nx with
   |value v=>
    simp only[G8,He]at d;obtain⟨p1,_⟩:=cL he he.eval m v;have U:=k g _ w' (hk p1 d.1) ((put_defers _ _ _).trans hd) (d.2▸q);rw[<-hX,<-z]at U;exact .inl ⟨v,w',by rw[he.eval];exact V,U⟩
   |skip=>
    simp only[G8,He]at d;obtain⟨p1,_⟩:=cL he he.eval m undef;have U:=k g _ w' (hk p1 d.1) ((put_defers _ _ _).trans hd) (d.2▸q);rw[<-hX,<-z]at U;exact .inr (.inl ⟨w',by rw[he.eval];exact V,U⟩)
   |_=>cases d
theorem kC.call(e:Nat)(g:FuncId)(args:List Value)(d:Option Nat)(is:List Nat)(F p:List Nat){M rest:List Chunk}{ca:Value->List Chunk->au->Prop}
 (hX:X.filter (λ j=>!pre (eV (aI fn path)) j e)=F) (z:rem.erase e=p)
 (G: ∀u,(fK fn.ntmps (aI fn path) env e).bind (λ o=>(pv P (execOp (bB u env) o)).map λ y=>(y,o.dst))=some (.enter g args.toArray,d))
 (E:Spec P g args M aa ca) (hp:bF is cs=some (M,rest))
 (k: ∀v M' C,au.le aa C->ca v M' C->sb P f fn R D C path ak F p (dF d v env) (M'++rest)):kC P f fn R D aa path ak e X rem env cs:=by
 intro a w he hd hh;have N:=G (un a);cases ho:fK fn.ntmps (aI fn path) env e with
 |none=>rw[ho]at N;cases N
 |some o=>
  rw[ho]at N;simp only[Hl]at N;cases h:pv P (execOp (bB (un a) env) o)with
  |none=>rw[h]at N;cases N
  |some y=>
   rw[h]at N;simp at N;obtain⟨rfl,rfl⟩:=N;obtain⟨Q,hg,m⟩:=hE ho;refine⟨o,Q,.inr ⟨cC he hg,.inr (.inr ⟨g,args.toArray,by rw[he.eval];exact lI _ h w,?_⟩)⟩⟩;refine(E rest w (hh.perm (bR hp))).mono ?_;rintro c w' ⟨v,M',C,rfl,hl,K,q⟩;refine⟨v,rfl,?_⟩;obtain⟨p1,_⟩:=cL he he.eval m v;have U:=k v M' C hl K _ w' p1 ((put_defers _ _ _).trans hd) q;rw[<-hX,<-z]at U;exact U
end
def bt(s:ByteArray)(n:Int):Int:=((s.data.toList.getD n.toNat 0).toNat:Int)
def ay(s t:ByteArray):Bool:=s.toList==t.toList
structure h3(P:Program)(o:Op)(vs:List Value)(v:Value):Prop where
 run: ∀(ρ:Operand->Value)(ty:TypeId)(pos:String)(dst:Option Nat)(af:Array Edge)(g:Option (Nat×Bool))(w:World),o.operands.toList.map ρ=vs->(execOp ρ ⟨dst,o,ty,pos,af,g⟩).run P w=.ok (.value v) w
theorem AD{s:ByteArray}{n}(h:n<s.size):s[n]?=some (s.data.toList.getD n 0):=by
 have l:n<s.data.toList.length:=by rw[Array.length_toList];exact h
 have H:s.data.toList.getD n 0=s[n]:=by
  rw[List.getD_eq_getElem?_getD,List.getElem?_eq_getElem l];rfl
 rw[H];exact getElem?_pos s n h
theorem aS{P}{T}{x i}{s}{k}{n}(hT:P.underlying T=some .string)(N:0<=n)(G:n<s.size):
 h3 P (.index T x i) [.string s,.int k n] (.int .u8 (bt s n)):=by
 refine⟨λ ρ ty pos dst af g w h=>?_⟩;simp[Op.operands]at h;simp only[execOp,Instr.index,h.1,h.2];have O:n.toNat<s.size:=by omega
 simp[asIntOf,run_underlying hT,N,AD O,bt]
theorem iC{P:Program}{T:TypeId}{x:Operand}{lo hi:Option Operand}{s:ByteArray}{vs:List Value}{a b:Nat}(hT:P.underlying T=some .string)
 (d: ∀ρ:Operand->Value,(Op.slice T x lo hi none).operands.toList.map ρ=.string s::vs->(match lo with|none=>a=0|some l=> ∃k,ρ l=.int k a)/\(match hi with|none=>b=s.size|some l=> ∃k,ρ l=.int k b))
 (o:a<=b) (hb:b<=s.size):h3 P (.slice T x lo hi none) (.string s::vs) (.string (s.extract a b)):=by
 refine⟨λ ρ ty pos dst af g w h=>?_⟩;have H:=d ρ h;have L:ρ x=.string s:=by
  simp[Op.operands]at h;cases lo<;>cases hi<;>simp at h<;>exact h.1
 simp only[execOp,Instr.sliceAt,L];cases lo with
 |none=>
  obtain⟨rfl,S⟩:=H;cases hi with
  |none=>subst S;simp[run_underlying hT,Instr.slice,Instr.sliceBounds]
  |some l=>obtain⟨k,U⟩:=S;simp[run_underlying hT,Instr.slice,Instr.sliceBounds,Instr.sliceBound,U,asIntOf,hb]
 |some c=>
  obtain⟨⟨F,aj⟩,S⟩:=H;cases hi with
  |none=>subst S;simp[run_underlying hT,Instr.slice,Instr.sliceBounds,Instr.sliceBound,aj,asIntOf,o]
  |some l=>obtain⟨k,U⟩:=S;simp[run_underlying hT,Instr.slice,Instr.sliceBounds,Instr.sliceBound,U,aj,asIntOf,hb,o]
theorem ch{P}{T U}{x y}{s t}(h:s.size+t.size<=9223372036854775807):
 h3 P (.binOp .add T x y U) [.string s,.string t] (.string (s++t)):=by
 refine⟨λ ρ ty pos dst af g w l=>?_⟩;simp[Op.operands]at l;simp only[execOp,eqGuard,binOp,l.1,l.2,Op.stringOp];simp;omega
theorem nq{P}{T E}{x i}{b off len cap:Nat}{k}{n:Int}{sz}{inf}(hT:P.underlying T=some (.slice E))(Z:P.info? E=some inf)(dB:inf.size=sz)
 (N:0<=n) (G:n<len):h3 P (.indexAddr T x i) [.slice (some ⟨b,off,none⟩) len cap,.int k n] (.pointer (some ⟨b,off+n.toNat*sz,none⟩)):=by
 refine⟨λ ρ ty pos dst af g w h=>?_⟩;simp[Op.operands]at h;simp only[execOp,Instr.indexAt,h.1,h.2];have A:(⟨b,off,none⟩:Addr).add (n.toNat*sz)=⟨b,off+n.toNat*sz,none⟩:=by
  unfold Addr.add;split;rename_i h;simp[h];rfl
 simp[asIntOf,run_underlying hT,N,G,sizeOf,typeInfo,Z,dB,A]
section
variable{P:Program}{f:FuncId}{fn:Func}{R:Ending->World->Prop}{D:List Deferred}{aa:au}{path ak:List Nat}{X rem:List Nat}{env:Ev}{cs:List Chunk}
theorem bf.val o vs v(d:Option Nat)ak(J:h3 P o vs v)
 (G: ∀u,(cj fn.ntmps (bI (bd fn) path []) env).map (λ x=>(x.1.op,x.1.op.operands.toList.map (bB u env),x.1.dst,x.2))=some (o,vs,d,bI (bd fn) ak []))
 (k:bf P f fn R D aa ak (dF d v env) cs):bf P f fn R D aa path env cs:=by
 have N:=G (λ _=>undef);cases ho:cj fn.ntmps (bI (bd fn) path []) env with
 |none=>rw[ho]at N;cases N
 |some x=>
  obtain⟨op,B⟩:=x;have H: ∀u,op.op=o/\op.op.operands.toList.map (bB u env)=vs/\op.dst=d/\B=bI (bd fn) ak []:=by
   intro u;have h:=G u;rw[ho]at h;simp at h;exact h
  obtain⟨aw,_,rfl,rfl⟩:=H (λ _=>undef);obtain⟨dst,l,ty,pos,af,g⟩:=op;simp only at aw H;subst aw;exact lu.op (Q:=λ v' C M=>v'=v/\C=aa/\M=cs) ho (λ u w hw=>⟨v,w,aa,cs,J.run _ _ _ _ _ _ _ (H u).2.1,lq,hw,rfl,rfl,rfl⟩)
   (λ v' C M _⟨G,H,S⟩=>by subst G H S;exact k)
theorem eS.val i o vs v(d:Option Nat)F p(J:h3 P o vs v)
 (hX:F=i::X) (z:p=rem.erase i) (hm:(rem.contains i&&!dE (aI fn path) i&&jf (eV (aI fn path)) i rem)=true)
 (G: ∀u,(fK fn.ntmps (aI fn path) env i).map (λ x=>(x.op,x.op.operands.toList.map (bB u env),x.dst))=some (o,vs,d))
 (k:eS P f fn R D aa path ak F p (dF d v env) cs):eS P f fn R D aa path ak X rem env cs:=by
 intro a w he hd hh;have H:=G (un a);cases ho:fK fn.ntmps (aI fn path) env i with
 |none=>rw[ho]at H;cases H
 |some op=>
  rw[ho]at H;simp at H;obtain⟨aw,az,rfl⟩:=H;obtain⟨Q,hg,m⟩:=hE ho;simp[Hv,Hw]at hm;obtain⟨⟨A,Z⟩,V⟩:=hm;have hlen:rem.length=(rem.erase i).length+1:=by
   rw[G_ A];have:0<rem.length:=Hx A;omega
  rw[hlen];obtain⟨p1,_⟩:=cL he he.eval m v;have U:=k _ w p1 ((put_defers _ _ _).trans hd) hh;rw[hX,z]at U;obtain⟨dst,l,ty,pos,af,g⟩:=op;simp only at aw;subst aw;exact .inl ⟨i,_,A,Z,V,Q,.inl ⟨cC he hg,v,by rw[he.eval];exact J.run _ _ _ _ _ _ _ az,U⟩⟩
theorem eS.ite t{c}(B:look env t=some (.bool c))(k1:c=true->eS P f fn R D aa path ak X rem ((t,.bool true)::env) cs)(k2:c=false->eS P f fn R D aa path ak X rem ((t,.bool false)::env) cs):eS P f fn R D aa path ak X rem env cs:=by
 intro a w he hd hh;have same: ∀{b:Bool},c=b->Env fn.ntmps ((t,.bool b)::env) a:=by
  rintro b rfl;refine⟨he.1,λ t' v hv=>?_⟩;simp[look]at hv;cases hb:Nat.beq t t' with
  |true=>rw[hb]at hv;simp at hv;subst hv;rw[<-G2 hb];exact he.2 _ _ B
  |false=>rw[hb]at hv;simp at hv;exact he.2 _ _ hv
 cases c with
 |true=>exact k1 rfl a w (same rfl) hd hh
 |false=>exact k2 rfl a w (same rfl) hd hh
theorem bf.loop{ι:Type}(m:ι->Nat)(C:ι->au)(b:ι->Ev)(M:ι->List Chunk)(inv:ι->Prop)i0(N:inv i0)
 (step: ∀i,inv i->(∀j,inv j->m j<m i->bf P f fn R D (C j) path (b j) (M j))->bf P f fn R D (C i) path (b i) (M i)):bf P f fn R D (C i0) path (b i0) (M i0):=by
 have key: ∀n i,m i=n->inv i->bf P f fn R D (C i) path (b i) (M i):=by
  intro n;induction n using Nat.strongRecOn with
  |_ n af=>intro i O hi;exact step i hi λ j hj I=>af (m j) om j rfl hj
 exact key _ i0 rfl N
end
end
end Go.Proofs.YtdpmeahgjjmdiaaGreatDoor
