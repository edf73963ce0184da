/- Part of the proof that laws.FnSchemaAgain answers true. Conditions: none. -/
import Derived.Defers
import Derived.Laws.Strings
import Derived.Test.YtdpmeahgjjmdiaaGreatDoorC02
set_option linter.all false
open Nat renaming le_refl->HZ,lt_or_ge->Hh
open Array renaming getElem?_eq_none->HE
open List renaming cons_append->Hi,flatMap_cons->G0,getElem?_eq_getElem->HH,length_drop->Ia,mem_cons->G6,mem_flatMap->Ha,nil_append->Hj,nodup_cons->Hn,take_succ_cons->Ic,take_zero->Ie
open Go.Proofs.Tryz renaming prog->HB
open Option renaming bind_some->Hl,map_some->Hd
open Option.some renaming injEq->G8
open Bool renaming eq_false_iff->Ib,false_or->H_,or_false->H5,or_true->H2,true_or->H3
open UInt8 renaming toNat_inj->Ig
namespace Go.Proofs.YtdpmeahgjjmdiaaGreatDoor
open Go
variable[OO]
def obj(r:Nat)(o:Obj):Chunk:=.abs [r] (λ os=>os=[o])
theorem pa{aa}{w}{r}{o}:(obj r o).ok aa w<->w.heap[r]?=some o:=by
 constructor;rintro⟨os,G,rfl⟩;simpa using G;intro h;exact⟨[o],by simp[h],rfl⟩
section
variable{aa:au}{cs:List Chunk}{w:World}
theorem Heap.newObj(h:Heap aa cs w)o:Heap aa (obj w.heap.size o::cs) {w with heap:=w.heap.push o}:=by
 have I: ∀b,b<w.heap.size->(w.heap.push o)[b]?=w.heap[b]?:=λ b hb=>by rw[Array.getElem?_push,if_neg om]
 have k: ∀b o,aa b=some o->b<w.heap.size:=λ b o hb=>by
  have:=h.dD b o hb;rcases Hh b w.heap.size with G|G
  exact G;rw[HE G]at this;cases this
 refine⟨h.io,λ b u hb=>?_,?_,?_,?_⟩;rw[I b (k b u hb)];exact h.dD b u hb;simp only[G0,obj,Chunk.fp,Hi,Hj,Hn];exact⟨λ hm=>absurd (h.old _ hm).1 om,h.nodup⟩;intro b hb;simp only[G0,obj,Chunk.fp,Hi,Hj,G6]at hb;simp only[Array.size_push];rcases hb with rfl|hb
 refine⟨by omega,?_⟩;cases J:aa w.heap.size with
 |none=>rfl
 |some u=>exact absurd (k _ _ J) om
 exact⟨by have:=(h.old b hb).1;omega,(h.old b hb).2⟩;intro ai J;rcases G6.1 J with rfl|J
 exact pa.2 sm;refine Chunk.d' (h.ok ai J) lq λ b hb=>I b ?_
 exact(h.old b (Ha.2 ⟨ai,J,hb⟩)).1
theorem Heap.setObj{r:Nat}{o u:Obj}{w':World}(h:Heap aa (obj r o::cs) w)(aJ:w'.heap.size=w.heap.size)(V:w'.heap[r]?=some u)(O: ∀x,x≠r->w'.heap[x]?=w.heap[x]?)(a:(w'.os,w'.output)=(w.os,w.output):=by rfl):Heap aa (obj r u::cs) w':=by
 have g: ∀c∈cs,r∉c.fp:=λ c J L=>by
  have:=h.nodup;simp only[G0,obj,Chunk.fp,Hi,Hj,Hn]at this;exact this.1 (Ha.2 ⟨c,J,L⟩)
 have hold:=h.old r (by simp[obj,Chunk.fp]);refine⟨a.trans h.io,λ b z hb=>?_,h.nodup,λ b hb=>by rw[aJ];exact h.old b hb,λ c J=>?_⟩;rw[O b (λ e=>by subst e;rw[hold.2]at hb;cases hb)];exact h.dD b z hb;rcases G6.1 J with rfl|p
 exact pa.2 V;exact Chunk.d' (h.ok c (by simp[p])) lq λ b hb=>O b (λ e=>by rw[e]at hb;exact g c p hb)
end
section
variable{f:FuncId}{fn:Func}{R:Ending->World->Prop}{D:List Deferred}{aa:au}{path ak:List Nat}{env:Ev}{cs rest:List Chunk}
theorem rg(T:Nat)(x:Operand)(s:ByteArray)(d:Nat)(ak:List Nat)(hT:HB.underlying T=some .string)
 (k: ∀r,bf HB f fn R D aa ak ((d,vp r 0)::env) (obj r (.stringIter s 0)::cs))
 (N: ∀u,(cj fn.ntmps (bI (bd fn) path []) env).map (λ q=>(q.1.op,bB u env x,q.1.dst,q.2))=some (.range T x,vs s,some d,bI (bd fn) ak []):=by intros;kernel_rfl):
 bf HB f fn R D aa path env cs:=by
 have a:=N (λ _=>undef);cases ho:cj fn.ntmps (bI (bd fn) path []) env with
 |none=>rw[ho]at a;cases a
 |some q=>
  obtain⟨o,B⟩:=q;have H: ∀u,o.op=.range T x/\bB u env x=vs s/\o.dst=some d/\B=bI (bd fn) ak []:=by
   intro u;have h:=N u;rw[ho]at h;simp at h;exact h
  obtain⟨aw,_,az,rfl⟩:=H (λ _=>undef);refine lu.op (Q:=λ v C M=> ∃r,v=vp r 0/\C=aa/\M=obj r (.stringIter s 0)::cs) ho (λ u w hw=>?_) ?_;refine⟨_,_,aa,_,?_,lq,hw.newObj (.stringIter s 0),_,rfl,rfl,rfl⟩;unfold execOp;simp only[aw,(H u).2.1,Instr.range,Sem.run_bind,run_underlying hT,Result.andThen_ok,Sem.run_pure,run_newObj];rintro v C M _ ⟨r,rfl,rfl,rfl⟩;rw[az];exact k r
theorem nx(i:Operand)(T:Nat)(r pos:Nat)(s:ByteArray)(d:Nat)(ak:List Nat)(is:List Nat)
 (hp:bF is cs=some ([obj r (.stringIter s pos)],rest))
 (k1: ∀c n,pos<s.size->Utf8.decode s pos=(c,n)->bf HB f fn R D aa ak ((d,.tuple #[vb true,vi pos,.int .i32 (c:Int)])::env) (obj r (.stringIter s (pos+n))::rest))
 (k2: ¬pos<s.size->bf HB f fn R D aa ak ((d,.tuple #[vb false])::env) (obj r (.stringIter s pos)::rest))
 (N: ∀u,(cj fn.ntmps (bI (bd fn) path []) env).map (λ q=>(q.1.op,bB u env i,q.1.dst,q.2))=some (.next i true,vp r 0,some d,bI (bd fn) ak []):=by intros;kernel_rfl):
 bf HB f fn R D aa path env cs:=by
 have a:=N (λ _=>undef);cases ho:cj fn.ntmps (bI (bd fn) path []) env with
 |none=>rw[ho]at a;cases a
 |some q=>
  obtain⟨o,B⟩:=q;have H: ∀u,o.op=.next i true/\bB u env i=vp r 0/\o.dst=some d/\B=bI (bd fn) ak []:=by
   intro u;have h:=N u;rw[ho]at h;simp at h;exact h
  obtain⟨aw,_,az,rfl⟩:=H (λ _=>undef);by_cases I:pos<s.size
  .
   obtain⟨c,n,b⟩: ∃c n,Utf8.decode s pos=(c,n):=⟨_,_,rfl⟩;refine lu.op (Q:=λ v C M=>v=.tuple #[vb true,vi pos,.int .i32 (c:Int)]/\C=aa/\M=obj r (.stringIter s (pos+n))::rest) ho (λ u w hw=>?_) ?_
   .
    have hh:=hw.perm (bR hp);have hb:=pa.1 (hh.ok (obj r (.stringIter s pos)) sm);refine⟨_,{w with heap:=w.heap.setIfInBounds r (.stringIter s (pos+n))},aa,_,?_,lq,hh.setObj sm (by
     have:r<w.heap.size:=by
      rcases Hh r w.heap.size with G|G
      exact G;rw[HE G]at hb;cases hb
     simp[this]) (λ x L=>by simp[Array.getElem?_setIfInBounds,Ne.symm L]),rfl,rfl,rfl⟩
    unfold execOp;have y:(setObj r (.stringIter s (pos+n))).run HB w=.ok () {w with heap:=w.heap.setIfInBounds r (.stringIter s (pos+n))}:=by simp[setObj,Sem.run,hb]
    have e:(getObj r).run HB w=.ok (.stringIter s pos) w:=by simp[getObj,Sem.run,hb]
    simp only[aw,(H u).2.1,Instr.next,Sem.run_bind,e,Result.andThen_ok];simp[I,b,goInt,y]
   rintro v C M _ ⟨rfl,rfl,rfl⟩;rw[az];exact k1 c n I b
  .
   refine lu.op (Q:=λ v C M=>v=.tuple #[vb false]/\C=aa/\M=obj r (.stringIter s pos)::rest) ho (λ u w hw=>?_) ?_
   .
    have hh:=hw.perm (bR hp);have hb:=pa.1 (hh.ok (obj r (.stringIter s pos)) sm);refine⟨_,w,aa,_,?_,lq,hh,rfl,rfl,rfl⟩;unfold execOp;have e:(getObj r).run HB w=.ok (.stringIter s pos) w:=by simp[getObj,Sem.run,hb]
    simp only[aw,(H u).2.1,Instr.next,Sem.run_bind,e,Result.andThen_ok];simp[I]
   rintro v C M _ ⟨rfl,rfl,rfl⟩;rw[az];exact k2 I
end
section
variable{f:FuncId}{fn:Func}{R:Ending->World->Prop}{D:List Deferred}{aa:au}{path ak:List Nat}{env:Ev}{cs rest:List Chunk}
theorem lu.BO{n}{todo B}{o}{Q:au->List Chunk->Prop}(G:cj n todo env=some (o,B))
 (H: ∀u w,Heap aa cs w-> ∃w' C M,(execOp (bB u env) o).run HB w=.ok .skip w'/\au.le aa C/\Heap C M w'/\Q C M)
 (k: ∀C M,au.le aa C->Q C M->lu HB f n R D C B (dF o.dst undef env) M):lu HB f n R D aa todo env cs:=by
 intro a w he hd hh;obtain⟨ops,i,rest,J,rfl,ho,hg,m,rfl⟩:=ia G;obtain⟨w',C,M,V,hl,q,K⟩:=H (un a) w hh;obtain⟨p1,_⟩:=cL he he.eval m undef;exact ct.BO ho (cC he hg) (by rw[he.eval];exact V) (k C M hl K _ w' p1 ((put_defers _ _ _).trans hd) q)
theorem CS(i:Nat)(x y:Operand){b T:Nat}{cells:List Value}(o:Nat)(s:ByteArray)(ak:List Nat)(J:cs[i]?=some (.av b T cells))(hv:o<cells.length)
 (k:bf HB f fn R D aa ak env (cs.set i (.av b T (cells.set o (vs s)))))
 (N: ∀u,(cj fn.ntmps (bI (bd fn) path []) env).map (λ q=>(q.1.op,bB u env x,bB u env y,q.1.dst,q.2))=some (.store 9 x y,vp b o,vs s,none,bI (bd fn) ak []):=by intros;kernel_rfl):
 bf HB f fn R D aa path env cs:=by
 have a:=N (λ _=>undef);cases ho:cj fn.ntmps (bI (bd fn) path []) env with
 |none=>rw[ho]at a;cases a
 |some q=>
  obtain⟨op,B⟩:=q;have H: ∀u,op.op=.store 9 x y/\bB u env x=vp b o/\bB u env y=vs s/\op.dst=none/\B=bI (bd fn) ak []:=by
   intro u;have h:=N u;rw[ho]at h;simp at h;exact h
  obtain⟨aw,_,_,az,rfl⟩:=H (λ _=>undef);refine lu.BO (Q:=λ C M=>C=aa/\M=cs.set i (.av b T (cells.set o (vs s)))) ho (λ u w hw=>?_) ?_;obtain⟨g,e⟩:=hw.cell J (HH hv);refine⟨w.setCell ⟨b,o,none⟩ (vs s),aa,_,?_,lq,hw.set J o (vs s),rfl,rfl⟩;obtain⟨inf,z,hi,_,hz,_⟩:=cY.info;have dB:(sizeOf 9).run HB w=.ok 1 w:=by
   simp only[sizeOf,typeInfo,Sem.run_bind];simp[hi,hz]
  unfold execOp;simp only[aw,(H u).2.1,(H u).2.2.1,Instr.storeAt,Instr.sureAddr,storeVar,Sem.run_bind,Sem.run_pure,Result.andThen_ok,dB];simp only[Value.cells];simp[storeCells,Addr.add];rw[run_store _ _ _ _ _ rfl];simp[stored,g,e];rintro C M _ ⟨rfl,rfl⟩;rw[az];exact k
theorem vG(i:Nat)(x:Operand){b T:Nat}{cells:List Value}(o:Nat)(s:ByteArray)(d:Nat)(ak:List Nat)(J:cs[i]?=some (.av b T cells))(hv:cells[o]?=some (vs s))
 (k:bf HB f fn R D aa ak ((d,vs s)::env) cs)
 (N: ∀u,(cj fn.ntmps (bI (bd fn) path []) env).map (λ q=>(q.1.op,bB u env x,q.1.dst,q.2))=some (.load 9 x,vp b o,some d,bI (bd fn) ak []):=by intros;kernel_rfl):
 bf HB f fn R D aa path env cs:=by
 have a:=N (λ _=>undef);cases ho:cj fn.ntmps (bI (bd fn) path []) env with
 |none=>rw[ho]at a;cases a
 |some q=>
  obtain⟨op,B⟩:=q;have H: ∀u,op.op=.load 9 x/\bB u env x=vp b o/\op.dst=some d/\B=bI (bd fn) ak []:=by
   intro u;have h:=N u;rw[ho]at h;simp at h;exact h
  obtain⟨aw,_,az,rfl⟩:=H (λ _=>undef);refine lu.op (Q:=λ v C M=>v=vs s/\C=aa/\M=cs) ho (λ u w hw=>?_) ?_;have g:=hw.cell J hv;have hu:HB.underlying 9=some .string:=by kernel_rfl
  refine⟨_,w,aa,_,?_,lq,hw,rfl,rfl,rfl⟩;unfold execOp;simp only[aw,(H u).2.1,Instr.loadAt,Instr.sureAddr,loadVar,isAgg,Sem.run_bind,Sem.run_pure,Result.andThen_ok,run_underlying hu];simp[g];rintro v C M _ ⟨rfl,rfl,rfl⟩;rw[az];exact k
theorem Bo i{E sz n c}{A}{xs}(J:cs[i]?=some (own E sz (vl A n c) n xs))(O:0<n)
 (k: ∀g ys,A=sa g 0->ys.length=(c-n)*sz->n<=c->c<=maxLen->bf HB f fn R D aa path env (.av g E (xs++ys)::cs.eraseIdx i)):bf HB f fn R D aa path env cs:=by
 intro a w he hd hh;have h:=hh.perm (e3 J);obtain⟨os,G,H,S⟩:=h.ok (own E sz (vl A n c) n xs) sm;rcases S with⟨_,Y,_⟩|⟨g,cap,cur,Y,aI,h6,aU,h8,h9⟩
 omega;simp[vl]at Y;obtain⟨rfl,rfl⟩:=Y;refine k g (cur.toList.drop (n*sz)) rfl (by rw[Ia,Array.length_toList,h8,Nat.sub_mul]) h6 aU a w he hd ?_;have b:xs++cur.toList.drop (n*sz)=cur.toList:=by rw[<-h9];exact List.take_append_drop _ _
 rw[b];subst aI;refine⟨h.io,h.dD,?_,?_,λ M q=>?_⟩;have:=h.nodup;simpa[own,Chunk.fp,aV]using this;have:=h.old;simpa[own,Chunk.fp,aV]using this;rcases G6.1 q with rfl|q
 simpa[Chunk.ok,aV]using G;exact h.ok M (by simp[q])
end
theorem d198{w}{p}{n}(hb:1<=n/\n<=2000)(J:w.cell? ⟨p,28,none⟩=some (vi n))(hf:w.frozen? ⟨p,28,none⟩=false):
 CallsD HB 198 #[vp p 0] .returning w λ e D w'=>D=.returning/\(e=.returned (.tuple #[])/\w'=w.setCell ⟨p,28,none⟩ (vi (n-1))):=by
 go_enter_d Tryz.func198,Tryz.ntmps198
 go_wp2
 all_goals(go_end0;exact⟨rfl,by rw[show(n-1+9223372036854775808)%18446744073709551616-9223372036854775808=n-1 from by omega]⟩)
abbrev kb(p:Nat):Deferred:={target:=.fn (.func 198) #[],args:=#[vp p 0]}
section
variable{f:FuncId}{fn:Func}{R:Ending->World->Prop}{D:List Deferred}{aa:au}{path:List Nat}{env:Ev}{cs:List Chunk}
theorem df(x:Deferred)(d:Option Nat)(ak:List Nat)(k:bf HB f fn R (x::D) aa ak (dF d undef env) cs)
 (G: ∀u,(cj fn.ntmps (bI (bd fn) path []) env).bind (λ y=>(pv HB (execOp (bB u env) y.1)).map λ z=>(z,y.1.dst,y.2))=some (.defer x,d,bI (bd fn) ak []):=by intros;kernel_rfl):
 bf HB f fn R D aa path env cs:=by
 have N:=G (λ _=>undef);cases ho:cj fn.ntmps (bI (bd fn) path []) env with
 |none=>rw[ho]at N;cases N
 |some y=>
  obtain⟨o,B⟩:=y;have H: ∀u,pv HB (execOp (bB u env) o)=some (.defer x)/\o.dst=d/\B=bI (bd fn) ak []:=by
   intro u;have h:=G u;rw[ho]at h;simp only[Hl]at h;cases hp:pv HB (execOp (bB u env) o)with
   |none=>rw[hp]at h;cases h
   |some y=>rw[hp]at h;simp at h;exact⟨by rw[h.1],h.2.1,h.2.2⟩
  obtain⟨_,rfl,rfl⟩:=H (λ _=>undef);intro a w he hd hh;obtain⟨ops,i,b,J,ay,l,hg,m,c⟩:=ia ho;rw[ay];refine ct.defer l (cC he hg) (by rw[he.eval];exact lI _ (H (un a)).1 w) ?_;have j:Env fn.ntmps env {a with defers:=x::a.defers}:=he;obtain⟨p1,_⟩:=cL j j.eval m undef;rw[<-c];exact k _ w p1 ((put_defers _ _ _).trans (by simp[hd])) hh
theorem bf.EU(hf:HB.funcs[f]?=some fn)i{p}{cells}{n}(J:cs[i]?=some (.av p 108 cells))(O:cells[28]?=some (vi n))(hb:1<=n/\n<=2000)
 (N:jx (bI (bd fn) path [])=true) hint v {M} (K:M=cs.set i (.av p 108 (cells.set 28 (vi (n-1)))))
 (G: ∀u,(lx HB (bq [hint]) (fJ fn λ t=>bB u env (.tmp t)) 0 M []).map (·.1)=some v)
 (H: ∀u,(lx HB (bq [hint]) (fJ fn λ t=>bB u env (.tmp t)) 0 M []).map (·.2.map (·.1))=(lx HB (bq [hint]) (fJ fn λ t=>bB u env (.tmp t)) 0 M []).map (·.2.map (·.2)))
 (k: ∀w,Heap aa M w->R (.returned v) w):bf HB f fn R [kb p] aa path env cs:=by
 intro a w he hd hh;have g:=hh.cell J O;have q:Heap aa M (w.setCell ⟨p,28,none⟩ (vi (n-1))):=by rw[K];exact hh.set J 28 _
 generalize b:w.setCell ⟨p,28,none⟩ (vi (n-1))=w' at q;have V:(results fn a.tmps).run HB w'=.ok v w':=by
  have y:(λ t=>a.tmps.getD t undef)=λ t=>bB (un a) env (.tmp t):=by
   funext t
   exact congrFun he.eval (.tmp t)
  rw[uF,y];have d:=G (un a);have C:=H (un a);cases L:lx HB (bq [hint]) (fJ fn λ t=>bB (un a) env (.tmp t)) 0 M []with
  |none=>rw[L]at d;cases d
  |some r=>
   obtain⟨r,es⟩:=r;rw[L]at d C;simp only[Hd,G8]at d C;subst d;refine(kQ (aa:=aa) ?_ q _ _ _ L).1;intro e hm;obtain⟨i,hi⟩:=List.getElem?_of_mem hm;have:=congrArg (λ l=>l[i]?) C;simpa[hi]using this
 have x:Leaves HB fn a.tmps R [kb p] .returning w:=by
  refine(leaves_cons sm (f:=198) (args:=#[vp p 0]) kr)<|(d198 hb g.1 g.2).mono ?_;rintro e D w2 ⟨rfl,rfl,rfl⟩;rw[b];exact⟨v,V,k w' q⟩
 have m: ∀t,jx t=true->t=[]\/ ∃k,t=.code .ret::k:=by
  intro t B
  match t,B with
  |[],_=>exact .inl rfl
  | .code .ret::k,_=>exact .inr ⟨k,rfl⟩
 intro c;have key: ∀todo,(step HB (lone ((bs f).at a todo) c w)=.next (lone {(bs f).at a todo with mode:=.returning} c w))->
  ∃e w' j,R e w'/\Comes HB (lone ((bs f).at a todo) c w) (lone j c w') e/\j.fn=f/\j.leaving HB w' e:=by
  intro todo A;obtain⟨o,z,E,hR,aJ,s,hl⟩:=leaves_steps [kb p] .returning w {(bs f).at a todo with mode:=.returning} c rfl (by simpa[Frame.at]using hd) rfl hf rfl x;exact⟨o,z,E,hR,.of_steps (.one A) aJ,s,hl⟩
 rcases m _ N with h|⟨F,h⟩
 rw[h];exact key _ step_end;rw[h];exact key _ step_ret
theorem DO{gI:au}{F:List Chunk}{ca:Value->List Chunk->au->Prop}(hf:HB.funcs[f]?=some fn)(i:Nat){p:Nat}{cells:List Value}{n:Int}(hint:Nat)(v:Value)(M':List Chunk)
 (is:List Nat) {dropped M:List Chunk} (J:cs[i]?=some (.av p 108 cells)) (O:cells[28]?=some (vi n)) (hb:1<=n/\n<=2000) (K:M=cs.set i (.av p 108 (cells.set 28 (vi (n-1)))))
 (hp:bF is M=some (dropped,M'++F)) (hl:au.le gI aa) (k:ca v M' aa)
 (N:jx (bI (bd fn) path [])=true:=by kernel_rfl)
 (G: ∀u,(lx HB (bq [hint]) (fJ fn λ t=>bB u env (.tmp t)) 0 M []).map (·.1)=some v:=by intros;kernel_rfl)
 (H: ∀u,(lx HB (bq [hint]) (fJ fn λ t=>bB u env (.tmp t)) 0 M []).map (·.2.map (·.1))=(lx HB (bq [hint]) (fJ fn λ t=>bB u env (.tmp t)) 0 M []).map (·.2.map (·.2)):=by intros;kernel_rfl):
 bf HB f fn (SR gI F ca) [kb p] aa path env cs:=
 bf.EU hf i J O hb N hint v K G H λ w hh=>⟨v,M',aa,rfl,hl,k,by
  have h:=hh.perm (bR hp);clear hh hp;induction dropped with
  |nil=>exact h
  |cons x xs af=>exact af h.tail⟩
theorem GV(t:Nat)(g:FuncId)(cap:Array Value)(d:Option Nat)(ak:List Nat)(is:List Nat){M rest:List Chunk}{ca:Value->List Chunk->au->Prop}
 (c: ∀args,pv HB (callFunc g args)=some (.enter g args)) (E:Sp g cap.toList M aa ca) (hp:bF is cs=some (M,rest))
 (k: ∀v M' C,au.le aa C->ca v M' C->bf HB f fn R D C ak (dF d v env) (M'++rest))
 (a:look env t=some (.func (.func g) #[] cap):=by kernel_rfl)
 (G:(cj fn.ntmps (bI (bd fn) path []) env).map (λ x=>(x.1.op,x.1.dst,x.2))=some (.call ⟨.value (.tmp t),#[],#[]⟩,d,bI (bd fn) ak []):=by kernel_rfl):
 bf HB f fn R D aa path env cs:=by
 cases ho:cj fn.ntmps (bI (bd fn) path []) env with
 |none=>rw[ho]at G;cases G
 |some y=>
  obtain⟨o,B⟩:=y;rw[ho]at G;simp at G;obtain⟨l,rfl,rfl⟩:=G;refine lu.call (g:=g) (args:=cap.toList) ho (λ u w=>?_) E (bR hp) k;have he:bB u env (.tmp t)=.func (.func g) #[] cap:=by simp[bB,a]
  have H:=lI _ (c cap) w;unfold execOp;rw[l];simpa[he,go_sem]using H
end
def al(s:ao)(e:Nat):List UInt8:=s.data.toList.drop e
theorem wg{s}{e}(h:e<s.size):al s e=s.data.toList.getD e 0::al s (e+1):=by
 unfold al;have l:e<s.data.toList.length:=by simpa using h
 rw[List.drop_eq_getElem_cons l,List.getD_eq_getElem?_getD,HH l];rfl
theorem cA{s}{e}(h: ¬e<s.size):al s e=[]:=by
 unfold al;apply List.drop_eq_nil_of_le;have:s.data.toList.length=s.size:=by simp
 omega
theorem aP s e:(al s e).length=s.size-e:=by
 unfold al;rw[Ia];have:s.data.toList.length=s.size:=by simp
 omega
theorem dw s e n:(al s e).drop n=al s (e+n):=by unfold al;rw[List.drop_drop]
def bb(s:ao)(e:Nat):UInt8:=s.data.toList.getD e 0
theorem bO(s:ao)(e:Nat):bt s (e:Int)=((bb s e).toNat:Int):=by unfold bt bb;simp
theorem g'{T}{x lo hi}{s:ao}{a b}{k1 k2}(hT:HB.underlying T=some .string)(o:a<=b)(hb:b<=s.size):
 h3 HB (.slice T x (some lo) (some hi) none) [.string s,.int k1 (a:Int),.int k2 (b:Int)] (.string (s.extract a b)):=
 iC (a:=a) (b:=b) hT (λ ρ h=>by simp[Op.operands]at h;exact⟨⟨k1,h.2.1⟩,⟨k2,h.2.2⟩⟩) o hb
theorem j_{T}{x lo}{s:ao}{a}{k1}(hT:HB.underlying T=some .string)(o:a<=s.size):
 h3 HB (.slice T x (some lo) none none) [.string s,.int k1 (a:Int)] (.string (s.extract a s.size)):=
 iC (a:=a) (b:=s.size) hT (λ ρ h=>by simp[Op.operands]at h;exact⟨⟨k1,h.2⟩,rfl⟩) o (HZ _)
theorem qw{T}{x hi}{s:ao}{b}{k2}(hT:HB.underlying T=some .string)(hb:b<=s.size):
 h3 HB (.slice T x none (some hi) none) [.string s,.int k2 (b:Int)] (.string (s.extract 0 b)):=
 iC (a:=0) (b:=b) hT (λ ρ h=>by simp[Op.operands]at h;exact⟨rfl,⟨k2,h.2⟩⟩) (Nat.zero_le _) hb
abbrev FY(s:Nat)(a b e c ln l0:Int)(d:List Value):List Value:=vp s 0::vi a::vi b::vi e::vi c::vi ln::vi l0::d
abbrev aX(p s:Nat)(a b e c ln l0:Int)(d:List Value):Chunk:=.av p 108 (FY s a b e c ln l0 d)
abbrev zH(k:Int)(v:ao)(a b c d:Int)(s:Nat):Value:=.agg #[vi k,vs v,vi a,vi b,vi c,vi d,vp s 0]
abbrev iW(a b c d:Int)(s g:Nat):Value:=.tuple #[zH 0 ⟨#[]⟩ a b c d s,.iface 264 (vp g 0)]
abbrev hO(k:Int)(v:ao)(a b c d:Int)(s:Nat):Value:=.tuple #[zH k v a b c d s,.nilIface]
theorem j1: ∀aa p s k(v:ao)a b e c ln l0 d,d.length=22->
 Sp 140 [vp p 0,vi k,vs v] [aX p s a b e c ln l0 d] aa (λ r M' C=>M'=[aX p s a b e c ln l0 d]/\ ∃q1 q2 q3 Z,r=hO k v q1 q2 q3 Z s):=by
 intro aa p s k v a b e c ln l0 d f;refine aW Tryz.func140 λ F=>(ra 6 [] [1] [0,1,2,6]) λ b1=>(qz)<|(kz [0,30] (gf 6 []) [6,37])<|(uz 0 [] [6]) λ _=>(uz 0 [] [6,7]) λ _=>(bL)<|ez 0 (.tuple #[.agg #[vi k,vs v,vi b,vi c,vi ln,vi (aj ((aj (b-l0))+1)),vp s 0],.nilIface]) [aX p s a b e c ln l0 d] [0] lq ?_;exact⟨rfl,_,_,_,_,rfl⟩
theorem c139: ∀aa p s k a e b c ln l0 d ar T fz(nm ab:ao)bi,d.length=22->aa s=some (.cells ar T fz)->(∀(j:Nat)u,([vs nm,vs ab,vb bi]:List Value)[j]?=some u->ar[j]?=some u)->a<=e->e<=ab.size->
 Sp 139 [vp p 0,vi k] [.av p 108 (FY s a b e c ln l0 d)] aa (λ r M' C=>M'=[aX p s a b e c ln l0 d]/\ ∃q1 q2 q3 Z,r=hO k (ab.extract a e) q1 q2 q3 Z s):=by
 intro aa p s k a e b c ln l0 d ar T fz nm ab bi f hg J o he;refine aW Tryz.func139 λ F=>?_
 refine(eW hg J)<|(ra 6 [] [1] [0,1,4]) λ b1=>(qz)<|(kz [0,17] [2,101,2,2] [4,6,7,14,18,22])<|(nS 17 (.slice 9 (.tmp 14) (some (.tmp 18)) (some (.tmp 22)) none) [vs ab,vi a,vi e] (v:=(vs (ab.extract a e))) (g' kr o he))<|(bj [2] (j1 _ p s k (ab.extract a e) a b e c ln l0 d f)) λ|_,_,ak,P,⟨rfl,q1,q2,q3,Z,rfl⟩=>(aG [])<|(kz [19,2] [] [4,25,26])<|(uz 1 [] [4,26]) λ _=>(uz 0 [] [4,5]) λ _=>(bL)<|ez 1 (hO k (ab.extract a e) q1 q2 q3 Z s) [aX p s (a:Int) b (e:Int) c ln l0 d] [1,1] P ⟨rfl,_,_,_,_,rfl⟩
theorem c159: ∀aa a b(m:ao),Sp 159 [vs ⟨#[]⟩,vi a,vi b,vs m,vz] [] aa (λ r M' C=>M'=[]/\ ∃g,r=vp g 0):=by
 intro aa a b m;refine aW Tryz.func159 λ F=>(ra 14 [] [2,1] [0,1,2,3,11,13]) λ _=>(sv 13 (show(!(ay ⟨#[]⟩ ⟨#[]⟩))=false from by simp[ay]))<|(ra 14 [] [4] [10]) λ b2=>ez 0 (vp (b2 1) 0) [] [0,0] lq ⟨rfl,_,rfl⟩
theorem c146: ∀aa p s(m:ao)a b e c ln l0 d ar T fz(ab:ao)bi,d.length=22->aa s=some (.cells ar T fz)->(∀(j:Nat)u,([vs ⟨#[]⟩,vs ab,vb bi]:List Value)[j]?=some u->ar[j]?=some u)->
 Sp 146 [vp p 0,vs m] [aX p s a b e c ln l0 d] aa (λ r M' C=>M'=[aX p s a b e c ln l0 d]/\ ∃g q1 q2 q3 Z,r=.tuple #[zH 0 ⟨#[]⟩ q1 q2 q3 Z s,vp g 0]):=by
 intro aa p s m a b e c ln l0 d ar T fz ab bi f hg J;refine aW Tryz.func146 λ F=>?_
 refine(eW hg J)<|(ra 6 [] [1] [0,1,4]) λ b1=>(qz)<|(kz [0,10] [2,2] [0,1,4,16])<|(uz 0 [] [0,1,4,6]) λ _=>(bL)<|(ra 1 [] [2] [0,1,4,6]) λ _=>(qz)<|(kz [0,32] [2,2,2,2,2,1,2] [0,4,6,17,18,19,20,21,22,23,24,25,26,27,28,29,30,31,32,33,34,35,42,46,47,48])<|(bj (args:=[vs ⟨#[]⟩,vi ln,vi (aj ((aj (c-l0))+1)),vs m,vz]) (M:=[]) [] (c159 _ _ _ _)) λ|_,_,ak,P,⟨rfl,g,rfl⟩=>(aG [16,2,11,2,7,2,3,2])<|(uz 0 [] [4,49]) λ _=>(uz 0 [] [4,5]) λ _=>(bL)<|ez 0 (.tuple #[.agg #[vi 0,vs ⟨#[]⟩,vi b,vi c,vi ln,vi (aj ((aj (c-l0))+1)),vp s 0],vp g 0]) [aX p s a b e c ln l0 d] [0,0] P ?_;exact⟨rfl,_,_,_,_,_,rfl⟩
def hQ(x:UInt8):Bool:=x.toNat==9||x.toNat==32||x.toNat==44||x.toNat==10||x.toNat==13
def kU(l:List UInt8):List UInt8:=
 match l with
 |[]=>[]
 |x::l=>if hQ x then kU l else if x.toNat=239/\l.take 2=[187,191]then kU (l.drop 2)else x::l
termination_by l.length
decreasing_by all_goals simp_wf;try omega
theorem aE{s}{e}(h:e<s.size):al s e=bb s e::al s (e+1):=wg h
theorem tP:kU []=[]:=by rw[kU]
theorem hY{s:ao}{e}(h:e<s.size)(hb:bt s (e:Int)=9\/bt s (e:Int)=32\/bt s (e:Int)=44\/bt s (e:Int)=10\/bt s (e:Int)=13):kU (al s e)=kU (al s (e+1)):=by
 rw[aE h,kU];rw[bO]at hb;have:hQ (bb s e)=true:=by simp[hQ];omega
 rw[if_pos this]
theorem A9{s:ao}{e}(h:e+2<s.size)(N:bt s (e:Int)=239)(G:bt s ((e+1:Nat):Int)=187)(H:bt s ((e+2:Nat):Int)=191):kU (al s e)=kU (al s (e+3)):=by
 rw[aE om,kU];rw[bO]at N G H;have hw:hQ (bb s e)=false:=by rw[Ib];simp[hQ];omega
 have hb:(bb s e).toNat=239/\(al s (e+1)).take 2=[187,191]:=by
  refine⟨by omega,?_⟩;rw[aE om,aE (e:=e+1+1) om];simp only[Ic,Ie,List.cons.injEq,and_true];rw[show e+1+1=e+2 from rfl];exact⟨Ig.1 so,Ig.1 so⟩
 rw[hw,if_neg sm,if_pos hb,dw]
theorem l9{s:ao}{e}(h:e<s.size)(hb:bt s (e:Int)≠9/\bt s (e:Int)≠32/\bt s (e:Int)≠44/\bt s (e:Int)≠10/\bt s (e:Int)≠13)
 (H:bt s (e:Int)=239->e+2<s.size->bt s ((e+1:Nat):Int)=187->bt s ((e+2:Nat):Int)≠191):kU (al s e)=al s e:=by
 rw[aE h,kU];simp only[bO]at hb H;have hw:hQ (bb s e)=false:=by rw[Ib];simp[hQ];omega
 rw[hw,if_neg sm,if_neg];rintro⟨S,Y⟩;have hl:=congrArg List.length Y;rw[List.length_take,aP]at hl;simp at hl;have aI:e+2<s.size:=by omega
 rw[aE om,aE (e:=e+1+1) om]at Y;simp only[Ic,Ie,List.cons.injEq,and_true]at Y;refine H om aI ?_ ?_;rw[Y.1];rfl;rw[show e+2=e+1+1 from rfl,Y.2];rfl
theorem A1{s}{e}(h: ¬e<s.size):kU (al s e)=al s e:=by rw[cA h,tP]
theorem c138: ∀aa p s e0 a b c0 k h d ar T fz(nm ab:ao)bi,d.length=22->aa s=some (.cells ar T fz)->(∀(j:Nat)u,([vs nm,vs ab,vb bi]:List Value)[j]?=some u->ar[j]?=some u)->e0<=ab.size->ab.size<=1099511627776->
 Sp 138 [vp p 0] [aX p s a b (e0:Int) c0 k h d] aa (λ r M' _=>r=.tuple #[]/\ ∃e c ln l0,e0<=e/\e<=ab.size/\al ab e=kU (al ab e0)/\M'=[aX p s a b (e:Int) c ln l0 d]):=by
 intro aa p s e0 a b c0 k h d ar T fz nm ab bi f hg J t dB;refine aW Tryz.func138 λ F=>(ra 4 [] [0,0,0,0] [0]) λ _=>(wz (ι:=Nat×Int×Int×Int) (λ i=>ab.size-i.1) (λ i=>aa) [0] (λ i=>[]) (λ i c=>sV 0 6 (vi i.2.2.2) (sV 0 5 (vi i.2.2.1) (sV 0 4 (vi i.2.1) (sV 0 3 (vi i.1) c)))) (λ i=>e0<=i.1/\i.1<=ab.size/\kU (al ab i.1)=kU (al ab e0)) (e0,c0,k,h) ⟨HZ _,t,rfl⟩) ?_;rintro⟨e,c,ln,l0⟩ ⟨hle,g,hinv⟩ af;dsimp only at hle g hinv;refine(eW hg J)<|(qz)<|(kf [0,13] [1,1,100] [0,14])<|(iz 14 (decide ((e:Int)<ab.size))) (λ G=>?_) (λ G=>?_);refine(rv 4 [] 3 [1,0,0] [0])<|(qz)<|(kz [0,11] [1,100,1] [0,21,25])<|(nS 11 (.index 9 (.tmp 21) (.tmp 25)) [vs ab,vi e] (v:=(.int .u8 (bt ab (e:Int)))) (aS kr om (by simp only[decide_eq_true_eq]at*;omega)))<|(bL)<|(rv 7 [] 2 [1,0,0,1] [0,26,27])<|(iz 27 ((bt ab (e:Int))==9)) (λ H=>?_) (λ H=>?_);refine(rv 29 [1,1,1,1] 6 [0,0] [0])<|(sw 1 3 (wn (e+1) (e+1))) ?_;have I:e<ab.size:=by simp only[decide_eq_true_eq]at G;omega
 refine(dz [0])<|lz (af (e+1,aj (c+1),ln,l0) ⟨dm,dm,Eq.trans (Eq.symm (hY I (by simp only[beq_iff_eq]at H;omega))) hinv⟩ dm);refine(rv 6 [] 0 [1,1] [0,26,27])<|(iz 27 ((bt ab (e:Int))==32)) (λ S=>?_) (λ S=>?_);refine(rv 29 [1,1,1,1] 8 [0,0] [0])<|(sw 1 3 (wn (e+1) (e+1))) ?_;have I:e<ab.size:=by simp only[decide_eq_true_eq]at G;omega
 refine(dz [0])<|lz (af (e+1,aj (c+1),ln,l0) ⟨dm,dm,Eq.trans (Eq.symm (hY I (by simp only[beq_iff_eq]at S;omega))) hinv⟩ dm);refine(rv 5 [] 4 [1] [0,26,27])<|(iz 27 ((bt ab (e:Int))==44)) (λ Y=>?_) (λ Y=>?_);refine(rv 27 [1,1,1,1] 5 [0,0] [0])<|(sw 1 3 (wn (e+1) (e+1))) ?_;have I:e<ab.size:=by simp only[decide_eq_true_eq]at G;omega
 refine(dz [0])<|lz (af (e+1,aj (c+1),ln,l0) ⟨dm,dm,Eq.trans (Eq.symm (hY I (by simp only[beq_iff_eq]at Y;omega))) hinv⟩ dm);refine(rv 6 [] 0 [1,1] [0,26,45])<|(iz 45 ((bt ab (e:Int))==10)) (λ aI=>?_) (λ aI=>?_);refine(rv 49 (gf 8 []) 7 [0,0] [0])<|(sw 1 3 (wn (e+1) (e+1))) ?_;have I:e<ab.size:=by simp only[decide_eq_true_eq]at G;omega
 refine(dz [0])<|lz (af (e+1,aj (c+1),aj (ln+1),aj (c+1)) ⟨dm,dm,Eq.trans (Eq.symm (hY I (by simp only[beq_iff_eq]at aI;omega))) hinv⟩ dm);refine(rv 6 [] 0 [1,1] [0,26,75])<|(iz 75 ((bt ab (e:Int))==13)) (λ h6=>?_) (λ h6=>?_);refine rZ 46 (gf 8 []) [0,0,1,0,1,0,1,1,1,1,1,0,4] (λ _=>[(0,vp p 0)]) (λ _=>.ro s 0 [vs nm,vs ab,vb bi]::aX p s a b (aj ((e:Int)+1)) (aj (c+1)) (aj (ln+1)) (aj (c+1)) d::F) λ _=>dr [0,0,1,0,1,0,1,1,1,1,1,0,4,29] 28 ?_;refine cr [0,1,2,3,4,5,6,7,8,9,10,11,12,13] [1,1,100] [13,12,11,10,9,8,7,6,5,4,3,2,1,0] [14,15,16,17,18,19,20,21,22,23,24,25,26,27] [(0,vp p 0),(118,vb (decide ((aj ((e:Int)+1))<(ab.size:Int))))] ?_;rw[wn (e+1) (e+1)];refine Bm 118 (decide ((((e+1:Nat):Int))<(ab.size:Int))) (λ aU=>?_) (λ aU=>?_);refine cr [14,15,16,17,18,19,20,21,22,23,24] [1,100,1] [24,23,22,21,20,19,18,17,16,15,14,13,12,11,10,9,8,7,6,5,4,3,2,1,0] [25,26,27] [(0,vp p 0),(118,vb true),(125,vs ab),(129,vi ((e+1:Nat):Int))] ?_;refine wI 25 (.index 9 (.tmp 125) (.tmp 129)) [vs ab,vi ((e+1:Nat):Int)] (.int .u8 (bt ab ((e+1:Nat):Int))) (some 130) [25,24,23,22,21,20,19,18,17,16,15,14,13,12,11,10,9,8,7,6,5,4,3,2,1,0] [26,27] (aS kr om (by simp only[decide_eq_true_eq]at*;omega)) ?_;refine cr [26,27] [] [27,26,25,24,23,22,21,20,19,18,17,16,15,14,13,12,11,10,9,8,7,6,5,4,3,2,1,0] [] [(0,vp p 0),(132,vb ((bt ab ((e+1:Nat):Int))==10))] ?_;refine eS.fin ?_;refine it 132 ((bt ab ((e+1:Nat):Int))==10) (λ h8=>?_) (λ h8=>?_);refine zg<|(rv 27 [1,1,1,1] 12 [0,0] [0])<|(sw 1 3 (wn (((e+1:Nat):Int)+1) (e+2))) ?_;have I:e<ab.size:=by simp only[decide_eq_true_eq]at G;omega
 have aD:e+1<ab.size:=by simp only[decide_eq_true_eq]at*;omega
 refine(dz [0])<|lz (af (e+2,aj ((aj (c+1))+1),aj (ln+1),aj (c+1)) ⟨dm,dm,Eq.trans (Eq.symm ((hY (e:=e) I (by(try simp only[beq_iff_eq,beq_eq_false_iff_ne,ne_eq]at G H S Y aI h6 aU h8);omega)).trans (hY (e:=e+1) aD (by(try simp only[beq_iff_eq,beq_eq_false_iff_ne,ne_eq]at G H S Y aI h6 aU h8);omega)))) hinv⟩ dm);refine zg<|(rv 7 [] 12 [0,0] [0]) ?_;have I:e<ab.size:=by simp only[decide_eq_true_eq]at G;omega
 refine(dz [0])<|lz (af (e+1,aj (c+1),aj (ln+1),aj (c+1)) ⟨dm,dm,Eq.trans (Eq.symm (hY I (by simp only[beq_iff_eq]at h6;omega))) hinv⟩ dm);refine cr [14,15,16,17,18,19,20,21,22,23,24,25,26,27] [] [27,26,25,24,23,22,21,20,19,18,17,16,15,14,13,12,11,10,9,8,7,6,5,4,3,2,1,0] [] [(0,vp p 0),(132,vb false)] ?_;refine eS.fin ?_;refine zg<|(rv 7 [] 12 [0,0] [0]) ?_;have I:e<ab.size:=by simp only[decide_eq_true_eq]at G;omega
 refine(dz [0])<|lz (af (e+1,aj (c+1),aj (ln+1),aj (c+1)) ⟨dm,dm,Eq.trans (Eq.symm (hY I (by simp only[beq_iff_eq]at h6;omega))) hinv⟩ dm);refine(rv 6 [] 0 [1,1] [0,147])<|(iz 147 ((bt ab (e:Int))==239)) (λ aU=>?_) (λ aU=>?_);refine rZ 2 [] (0::0::1::0::1::0::gf 7 [0,0]) (λ _=>[(0,vp p 0)]) (λ _=>.ro s 0 [vs nm,vs ab,vb bi]::aX p s a b (e:Int) c ln l0 d::F) λ _=>dr (0::0::1::0::1::0::gf 7 [0,0,47]) 46 ?_;refine cr [0,1,2,3,4,5,6,7,8,9,10,11,12,13,14] [1,1,100] [14,13,12,11,10,9,8,7,6,5,4,3,2,1,0] [15,16,17,18,19,20,21,22,23,24,25,26,27,28,29,30,31,32,33,34,35,36,37,38,39,40,41,42,43,44,45] [(0,vp p 0),(163,vb (decide ((aj ((e:Int)+2))<(ab.size:Int))))] ?_;rw[wn (e+2) (e+2)];refine Bm 163 (decide ((((e+2:Nat):Int))<(ab.size:Int))) (λ h8=>?_) (λ h8=>?_);refine cr [15,16,17,18,19,20,21,22,23,24,25,26] [1,100,1] [26,25,24,23,22,21,20,19,18,17,16,15,14,13,12,11,10,9,8,7,6,5,4,3,2,1,0] [27,28,29,30,31,32,33,34,35,36,37,38,39,40,41,42,43,44,45] [(0,vp p 0),(163,vb true),(170,vs ab),(175,vi (aj ((e:Int)+1)))] ?_;rw[wn (e+1) (e+1)];refine wI 27 (.index 9 (.tmp 170) (.tmp 175)) [vs ab,vi ((e+1:Nat):Int)] (.int .u8 (bt ab ((e+1:Nat):Int))) (some 176) [27,26,25,24,23,22,21,20,19,18,17,16,15,14,13,12,11,10,9,8,7,6,5,4,3,2,1,0] [28,29,30,31,32,33,34,35,36,37,38,39,40,41,42,43,44,45] (aS kr om (by simp only[decide_eq_true_eq]at*;omega)) ?_;refine cr [28,29,30] [] [30,29,28,27,26,25,24,23,22,21,20,19,18,17,16,15,14,13,12,11,10,9,8,7,6,5,4,3,2,1,0] [31,32,33,34,35,36,37,38,39,40,41,42,43,44,45] [(0,vp p 0),(179,vb ((bt ab ((e+1:Nat):Int))==187))] ?_;refine Bm 179 ((bt ab ((e+1:Nat):Int))==187) (λ h9=>?_) (λ h9=>?_);refine cr [31,32,33,34,35,36,37,38,39,40,41,42] [1,100,1] [42,41,40,39,38,37,36,35,34,33,32,31,30,29,28,27,26,25,24,23,22,21,20,19,18,17,16,15,14,13,12,11,10,9,8,7,6,5,4,3,2,1,0] [43,44,45] [(0,vp p 0),(179,vb true),(186,vs ab),(191,vi (aj ((e:Int)+2)))] ?_;rw[wn (e+2) (e+2)];refine wI 43 (.index 9 (.tmp 186) (.tmp 191)) [vs ab,vi ((e+2:Nat):Int)] (.int .u8 (bt ab ((e+2:Nat):Int))) (some 192) [43,42,41,40,39,38,37,36,35,34,33,32,31,30,29,28,27,26,25,24,23,22,21,20,19,18,17,16,15,14,13,12,11,10,9,8,7,6,5,4,3,2,1,0] [44,45] (aS kr om (by simp only[decide_eq_true_eq]at*;omega)) ?_;refine cr [44,45] [] [45,44,43,42,41,40,39,38,37,36,35,34,33,32,31,30,29,28,27,26,25,24,23,22,21,20,19,18,17,16,15,14,13,12,11,10,9,8,7,6,5,4,3,2,1,0] [] [(0,vp p 0),(194,vb ((bt ab ((e+2:Nat):Int))==191))] ?_;refine eS.fin ?_;refine it 194 ((bt ab ((e+2:Nat):Int))==191) (λ aC=>?_) (λ aC=>?_);refine zg<|(rv 27 [1,1,1,1] 14 [0,0] [0])<|(sw 1 3 (wn (e+3) (e+3))) ?_;have I:e<ab.size:=by simp only[decide_eq_true_eq]at G;omega
 have aD:e+2<ab.size:=by simp only[decide_eq_true_eq]at*;omega
 refine(dz [0])<|lz (af (e+3,aj (c+1),ln,l0) ⟨dm,dm,Eq.trans (Eq.symm (A9 aD (by(try simp only[beq_iff_eq,beq_eq_false_iff_ne,ne_eq]at G H S Y aI h6 aU h8 h9 aC);omega) (by(try simp only[beq_iff_eq,beq_eq_false_iff_ne,ne_eq]at G H S Y aI h6 aU h8 h9 aC);omega) (by(try simp only[beq_iff_eq,beq_eq_false_iff_ne,ne_eq]at G H S Y aI h6 aU h8 h9 aC);omega))) hinv⟩ dm);refine zg<|(rv 1 [] 2 [1,1] []) ?_;have A:kU (al ab e)=al ab e:=l9 (by simp only[decide_eq_true_eq]at G;omega) (by simp only[beq_eq_false_iff_ne,ne_eq,beq_iff_eq]at*;omega) (λ g1 g2 g3 g4=>by simp only[beq_eq_false_iff_ne,ne_eq,beq_iff_eq,decide_eq_true_eq,decide_eq_false_iff_not]at*;omega);exact ez 0 (.tuple #[]) [aX p s a b (e:Int) c ln l0 d] [0] lq ⟨rfl,e,_,_,_,hle,g,by rw[<-hinv,A],rfl⟩;refine cr [31,32,33,34,35,36,37,38,39,40,41,42,43,44,45] [] [45,44,43,42,41,40,39,38,37,36,35,34,33,32,31,30,29,28,27,26,25,24,23,22,21,20,19,18,17,16,15,14,13,12,11,10,9,8,7,6,5,4,3,2,1,0] [] [(0,vp p 0),(194,vb false)] ?_;refine eS.fin ?_;refine zg<|(rv 1 [] 2 [1,1] []) ?_;have A:kU (al ab e)=al ab e:=l9 (by simp only[decide_eq_true_eq]at G;omega) (by simp only[beq_eq_false_iff_ne,ne_eq,beq_iff_eq]at*;omega) (λ g1 g2 g3 g4=>by simp only[beq_eq_false_iff_ne,ne_eq,beq_iff_eq,decide_eq_true_eq,decide_eq_false_iff_not]at*;omega);exact ez 0 (.tuple #[]) [aX p s a b (e:Int) c ln l0 d] [0] lq ⟨rfl,e,_,_,_,hle,g,by rw[<-hinv,A],rfl⟩;refine cr [15,16,17,18,19,20,21,22,23,24,25,26,27,28,29,30,31,32,33,34,35,36,37,38,39,40,41,42,43,44,45] [] [45,44,43,42,41,40,39,38,37,36,35,34,33,32,31,30,29,28,27,26,25,24,23,22,21,20,19,18,17,16,15,14,13,12,11,10,9,8,7,6,5,4,3,2,1,0] [] [(0,vp p 0),(194,vb false)] ?_;refine eS.fin ?_;refine zg<|(rv 1 [] 2 [1,1] []) ?_;have A:kU (al ab e)=al ab e:=l9 (by simp only[decide_eq_true_eq]at G;omega) (by simp only[beq_eq_false_iff_ne,ne_eq,beq_iff_eq]at*;omega) (λ g1 g2 g3 g4=>by simp only[beq_eq_false_iff_ne,ne_eq,beq_iff_eq,decide_eq_true_eq,decide_eq_false_iff_not]at*;omega);exact ez 0 (.tuple #[]) [aX p s a b (e:Int) c ln l0 d] [0] lq ⟨rfl,e,_,_,_,hle,g,by rw[<-hinv,A],rfl⟩;refine(rv 1 [] 0 [1] []) ?_;have A:kU (al ab e)=al ab e:=l9 (by simp only[decide_eq_true_eq]at G;omega) (by simp only[beq_eq_false_iff_ne,ne_eq,beq_iff_eq]at*;omega) (λ g1 g2 g3 g4=>by simp only[beq_eq_false_iff_ne,ne_eq,beq_iff_eq,decide_eq_true_eq,decide_eq_false_iff_not]at*;omega);exact ez 0 (.tuple #[]) [aX p s a b (e:Int) c ln l0 d] [0] lq ⟨rfl,e,_,_,_,hle,g,by rw[<-hinv,A],rfl⟩;refine(ra 2 [] [2] []) ?_;intro _;have A:kU (al ab e)=al ab e:=A1 (by simp only[decide_eq_false_iff_not]at G;omega);exact ez 0 (.tuple #[]) [aX p s a b (e:Int) c ln l0 d] [0] lq ⟨rfl,e,_,_,_,hle,g,by rw[<-hinv,A],rfl⟩
def bZ(x:UInt8):Bool:=decide (48<=x.toNat/\x.toNat<=57)
theorem x1{s:ao}{e}(h:e<s.size)(hb:48<=bt s (e:Int)/\bt s (e:Int)<=57):(al s e).dropWhile bZ=(al s (e+1)).dropWhile bZ:=by
 rw[bO]at hb;rw[aE h,List.dropWhile_cons_of_pos (by simp[bZ];omega)]
theorem r5{s:ao}{e}(h:e<s.size)(hb: ¬(48<=bt s (e:Int)/\bt s (e:Int)<=57)):(al s e).dropWhile bZ=al s e:=by
 rw[bO]at hb;rw[aE h,List.dropWhile_cons_of_neg (by simp[bZ];omega)]
theorem Bu: ∀aa g x y1,Sp 209 [vl (sa g 0) 1 1,.int .u8 x] [.av g 5 [.int .u8 y1]] aa (λ r M' _=> ∃k,r=vi k/\decide (k>=0)=((x==y1))/\M'=[.av g 5 [.int .u8 y1]]):=by
 intro aa g x y1;refine aW Tryz.func209 λ F=>(ra 14 [] [1,1,0,0,0] [0,1,7,8]) λ _=>(rv 18 [] 1 [2,0,1,3] [0,1,5,7,8,11,12,13])<|(e5 (.indexAddr 79 (.tmp 12) (.tmp 13)) [vl (sa g 0) 1 1,vi 0] (v:=(vp g 0)) (bG (k:=0) rN om))<|(rv 3 [0] 2 [2] [0,1,5,7,8,16])<|(iz 16 (x==y1)) (λ G=>?_) (λ G=>?_);refine(rv 6 [] 0 [0,1] [4])<|ez 0 (vi 0) [.av g 5 [.int .u8 y1]] [] lq ⟨_,rfl,by simp only[G,H2,H3,H5,H_];decide,rfl⟩;refine(rv 9 [] 3 [0] [0,1,7,8])<|(ra 10 [] [3] [4]) λ _=>ez 0 (vi (-1)) [.av g 5 [.int .u8 y1]] [] lq ⟨_,rfl,by simp only[G,H2,H3,H5,H_];decide,rfl⟩
theorem Ar: ∀aa g x y1 bh,Sp 209 [vl (sa g 0) 2 2,.int .u8 x] [.av g 5 [.int .u8 y1,.int .u8 bh]] aa (λ r M' _=> ∃k,r=vi k/\decide (k>=0)=((x==y1)||(x==bh))/\M'=[.av g 5 [.int .u8 y1,.int .u8 bh]]):=by
 intro aa g x y1 bh;refine aW Tryz.func209 λ F=>(ra 14 [] [1,1,0,0,0] [0,1,7,8]) λ _=>(rv 18 [] 1 [2,0,1,3] [0,1,5,7,8,11,12,13])<|(e5 (.indexAddr 79 (.tmp 12) (.tmp 13)) [vl (sa g 0) 2 2,vi 0] (v:=(vp g 0)) (bG (k:=0) rN om))<|(rv 3 [0] 2 [2] [0,1,5,7,8,16])<|(iz 16 (x==y1)) (λ G=>?_) (λ G=>?_);refine(rv 6 [] 0 [0,1] [4])<|ez 0 (vi 0) [.av g 5 [.int .u8 y1,.int .u8 bh]] [] lq ⟨_,rfl,by simp only[G,H2,H3,H5,H_];decide,rfl⟩;refine(rv 9 [] 3 [0] [0,1,7,8])<|(rv 18 [] 1 [2,0,1,3] [0,1,5,7,8,11,12,13])<|(e5 (.indexAddr 79 (.tmp 12) (.tmp 13)) [vl (sa g 0) 2 2,vi 1] (v:=(vp g 1)) (bG (k:=1) rN om))<|(rv 3 [0] 2 [2] [0,1,5,7,8,16])<|(iz 16 (x==bh)) (λ H=>?_) (λ H=>?_);refine(rv 6 [] 0 [0,1] [4])<|ez 0 (vi 1) [.av g 5 [.int .u8 y1,.int .u8 bh]] [] lq ⟨_,rfl,by simp only[G,H,H2,H3,H5,H_];decide,rfl⟩;refine(rv 9 [] 3 [0] [0,1,7,8])<|(ra 10 [] [3] [4]) λ _=>ez 0 (vi (-1)) [.av g 5 [.int .u8 y1,.int .u8 bh]] [] lq ⟨_,rfl,by simp only[G,H,H2,H3,H5,H_];decide,rfl⟩
theorem AQ: ∀aa g x y1,Sp 185 [vl (sa g 0) 1 1,.int .u8 x] [.av g 5 [.int .u8 y1]] aa (λ r M' _=>r=vb ((x==y1))/\M'=[.av g 5 [.int .u8 y1]]):=by
 intro aa g x y1;refine aW Tryz.func185 λ F=>(ra 8 [] [1,2] [5,6]) λ _=>(cz [0] (Bu _ g x y1)) λ|_,_,ak,P,⟨k,rfl,U,rfl⟩=>(ra 3 [] [2] [4]) λ _=>ez 0 (vb (decide (k>=0))) [.av g 5 [.int .u8 y1]] [] P ⟨congrArg Value.bool U,rfl⟩
theorem AB: ∀aa g x y1 bh,Sp 185 [vl (sa g 0) 2 2,.int .u8 x] [.av g 5 [.int .u8 y1,.int .u8 bh]] aa (λ r M' _=>r=vb ((x==y1)||(x==bh))/\M'=[.av g 5 [.int .u8 y1,.int .u8 bh]]):=by
 intro aa g x y1 bh;refine aW Tryz.func185 λ F=>(ra 8 [] [1,2] [5,6]) λ _=>(cz [0] (Ar _ g x y1 bh)) λ|_,_,ak,P,⟨k,rfl,U,rfl⟩=>(ra 3 [] [2] [4]) λ _=>ez 0 (vb (decide (k>=0))) [.av g 5 [.int .u8 y1,.int .u8 bh]] [] P ⟨congrArg Value.bool U,rfl⟩
theorem AJ: ∀aa p s g a b c ln l0 e y1 d ar T fz(nm ab:ao)bi,d.length=22->aa s=some (.cells ar T fz)->(∀(j:Nat)u,([vs nm,vs ab,vb bi]:List Value)[j]?=some u->ar[j]?=some u)->e<=ab.size->ab.size<=1099511627776->
 Sp 163 [vp p 0,vl (sa g 0) 1 1] [aX p s a b (e:Int) c ln l0 d,.av g 5 [.int .u8 y1]] aa (λ r M' _=> ∃ok ai,r=vb ok/\(ok=true<->e<ab.size/\(bt ab (e:Int)=y1))/\M'=[aX p s a b ((if ok then e+1 else e:Nat):Int) ai ln l0 d]):=by
 intro aa p s g a b c ln l0 e y1 d ar T fz nm ab bi f hg J he dB;refine aW Tryz.func163 λ F=>?_
 refine(eW hg J)<|(ra 6 [] [1,0] [0,1]) λ _=>(qz)<|(kf [0,13] [1,1,100] [0,1,17])<|(iz 17 (decide ((e:Int)>=ab.size))) (λ G=>?_) (λ G=>?_);refine(ra 5 [] [1,1,0,1] [4]) λ _=>ez 0 (vb false) [aX p s a b (e:Int) c ln l0 d] [0,1] lq ⟨false,_,rfl,by simp only[decide_eq_true_eq,ge_iff_le]at G;simp;omega,rfl⟩;refine(ra 4 [] [2,0] [0,1]) λ _=>(qz)<|(kz [0,12] [1,100,1] [0,18,25,29])<|(nS 12 (.index 9 (.tmp 25) (.tmp 29)) [vs ab,vi e] (v:=(.int .u8 (bt ab (e:Int)))) (aS kr om (by simp only[decide_eq_false_iff_not,ge_iff_le]at G;omega)))<|(bj [2] (AQ _ g (bt ab (e:Int)) y1)) λ|_,_,ak,P,⟨rfl,rfl⟩=>(aG [])<|(bL)<|(iz 31 (bt ab (e:Int)==y1)) (λ H=>?_) (λ H=>?_);refine(ra 27 [2,2,2,2] [2,1,0,3] [4]) λ _=>(sw 2 3 (wn (e+1) (e+1)))<|ez 0 (vb true) [aX p s a b ((e+1:Nat):Int) (aj (c+1)) ln l0 d] [0,0] P ⟨true,_,rfl,by simp only[decide_eq_false_iff_not,ge_iff_le]at G;simp at H;simp;omega,rfl⟩;refine(ra 6 [] [4] [4]) λ _=>ez 0 (vb false) [aX p s a b (e:Int) c ln l0 d] [0,0] P ⟨false,_,rfl,by simp only[decide_eq_false_iff_not,ge_iff_le]at G;simp at H;simp;omega,rfl⟩
theorem AU: ∀aa p s g a b c ln l0 e y1 bh d ar T fz(nm ab:ao)bi,d.length=22->aa s=some (.cells ar T fz)->(∀(j:Nat)u,([vs nm,vs ab,vb bi]:List Value)[j]?=some u->ar[j]?=some u)->e<=ab.size->ab.size<=1099511627776->
 Sp 163 [vp p 0,vl (sa g 0) 2 2] [aX p s a b (e:Int) c ln l0 d,.av g 5 [.int .u8 y1,.int .u8 bh]] aa (λ r M' _=> ∃ok ai,r=vb ok/\(ok=true<->e<ab.size/\(bt ab (e:Int)=y1\/bt ab (e:Int)=bh))/\M'=[aX p s a b ((if ok then e+1 else e:Nat):Int) ai ln l0 d]):=by
 intro aa p s g a b c ln l0 e y1 bh d ar T fz nm ab bi f hg J he dB;refine aW Tryz.func163 λ F=>?_
 refine(eW hg J)<|(ra 6 [] [1,0] [0,1]) λ _=>(qz)<|(kf [0,13] [1,1,100] [0,1,17])<|(iz 17 (decide ((e:Int)>=ab.size))) (λ G=>?_) (λ G=>?_);refine(ra 5 [] [1,1,0,1] [4]) λ _=>ez 0 (vb false) [aX p s a b (e:Int) c ln l0 d] [0,1] lq ⟨false,_,rfl,by simp only[decide_eq_true_eq,ge_iff_le]at G;simp;omega,rfl⟩;refine(ra 4 [] [2,0] [0,1]) λ _=>(qz)<|(kz [0,12] [1,100,1] [0,18,25,29])<|(nS 12 (.index 9 (.tmp 25) (.tmp 29)) [vs ab,vi e] (v:=(.int .u8 (bt ab (e:Int)))) (aS kr om (by simp only[decide_eq_false_iff_not,ge_iff_le]at G;omega)))<|(bj [2] (AB _ g (bt ab (e:Int)) y1 bh)) λ|_,_,ak,P,⟨rfl,rfl⟩=>(aG [])<|(bL)<|(iz 31 ((bt ab (e:Int)==y1)||(bt ab (e:Int)==bh))) (λ H=>?_) (λ H=>?_);refine(ra 27 [2,2,2,2] [2,1,0,3] [4]) λ _=>(sw 2 3 (wn (e+1) (e+1)))<|ez 0 (vb true) [aX p s a b ((e+1:Nat):Int) (aj (c+1)) ln l0 d] [0,0] P ⟨true,_,rfl,by simp only[decide_eq_false_iff_not,ge_iff_le]at G;simp at H;simp;omega,rfl⟩;refine(ra 6 [] [4] [4]) λ _=>ez 0 (vb false) [aX p s a b (e:Int) c ln l0 d] [0,0] P ⟨false,_,rfl,by simp only[decide_eq_false_iff_not,ge_iff_le]at G;simp at H;simp;omega,rfl⟩
theorem c164: ∀aa p s a b c0 ln l0 e0 d ar T fz(nm ab:ao)bi,d.length=22->aa s=some (.cells ar T fz)->(∀(j:Nat)u,([vs nm,vs ab,vb bi]:List Value)[j]?=some u->ar[j]?=some u)->e0<=ab.size->ab.size<=1099511627776->
 Sp 164 [vp p 0] [aX p s a b (e0:Int) c0 ln l0 d] aa (λ r M' _=> ∃e k c,e=e0+k/\e<=ab.size/\al ab e=(al ab e0).dropWhile bZ/\r=vi k/\M'=[aX p s a b (e:Int) c ln l0 d]):=by
 intro aa p s a b c0 ln l0 e0 d ar T fz nm ab bi f hg J t dB;refine aW Tryz.func164 λ F=>(ra 13 [] [2,0,0,0,0] [0,3]) λ _=>(wz (ι:=Nat×Int×Nat) (λ i=>ab.size-i.1) (λ i=>aa) [0] (λ i=>[(3,vi i.2.2)]) (λ i c=>sV 0 4 (vi i.2.1) (sV 0 3 (vi i.1) c)) (λ i=>i.1=e0+i.2.2/\i.1<=ab.size/\(al ab i.1).dropWhile bZ=(al ab e0).dropWhile bZ) (e0,c0,0) ⟨rfl,t,rfl⟩) ?_;rintro⟨e,c,k⟩ ⟨hle,g,hinv⟩ af;dsimp only at hle g hinv;refine(eW hg J)<|(qz)<|(kz [0,14] [1,1,100] [0,3,17])<|(lP 17 (decide ((e:Int)<ab.size))) (λ G=>?_) (λ G=>?_);refine(kz [14,11] [1,100,1] [0,3,17,24,28])<|(nS 25 (.index 9 (.tmp 24) (.tmp 28)) [vs ab,vi e] (v:=(.int .u8 (bt ab (e:Int)))) (aS kr om (by simp only[decide_eq_true_eq]at G;omega)))<|(kz [26,3] [] [0,3,32])<|(lP 32 (decide ((bt ab (e:Int))>=48))) (λ H=>?_) (λ H=>?_);refine(kz [29,11] [1,100,1] [0,3,32,39,43])<|(nS 40 (.index 9 (.tmp 39) (.tmp 43)) [vs ab,vi e] (v:=(.int .u8 (bt ab (e:Int)))) (aS kr om (by simp only[decide_eq_true_eq]at G;omega)))<|(kf [41,2] [] [0,3,46])<|(iz 46 (decide ((bt ab (e:Int))<=57))) (λ S=>?_) (λ S=>?_);refine(rv 34 [1,1,1,1] 1 [] [0,3])<|(sw 1 3 (wn (e+1) (e+1)))<|(sv 3 (wn (k+1) (k+1)))<|(dz [0]) ?_;have I:e<ab.size:=by simp only[decide_eq_true_eq]at G;omega
 exact lz (af (e+1,aj (c+1),k+1) ⟨dm,dm,(x1 I (by simp only[decide_eq_true_eq,ge_iff_le]at H S;omega)).symm.trans hinv⟩ dm);refine(ra 7 [] [4] [2]) ?_;intro _;have A:(al ab e).dropWhile bZ=al ab e:=r5 (by simp only[decide_eq_true_eq]at G;omega) (by simp only[decide_eq_true_eq,decide_eq_false_iff_not,ge_iff_le]at H S;omega);exact ez 0 (vi k) [aX p s a b (e:Int) c ln l0 d] [0] lq ⟨e,k,_,hle,g,by rw[<-hinv,A],rfl,rfl⟩;refine(kf [29,14] [] [0,3,46])<|(ra 7 [] [4] [2]) ?_;intro _;have A:(al ab e).dropWhile bZ=al ab e:=r5 (by simp only[decide_eq_true_eq]at G;omega) (by simp only[decide_eq_true_eq,decide_eq_false_iff_not,ge_iff_le]at H;omega);exact ez 0 (vi k) [aX p s a b (e:Int) c ln l0 d] [0] lq ⟨e,k,_,hle,g,by rw[<-hinv,A],rfl,rfl⟩;refine(kf [14,29] [] [0,3,46])<|(ra 7 [] [4] [2]) ?_;intro _;have A:(al ab e).dropWhile bZ=al ab e:=by rw[cA (by simp only[decide_eq_false_iff_not]at G;omega)];rfl
 exact ez 0 (vi k) [aX p s a b (e:Int) c ln l0 d] [0] lq ⟨e,k,_,hle,g,by rw[<-hinv,A],rfl,rfl⟩
def RT(p s:Nat)(ab:ao)(d:List Value)(o:Option (Int×ao×List UInt8))(r:Value)(M':List Chunk):Prop:=
 match o with
 |some (k,v,rest)=> ∃(a:Int)(e:Nat)(b c ln l0 q1 q2 q3 Z:Int),e<=ab.size/\al ab e=rest/\r=hO k v q1 q2 q3 Z s/\M'=[aX p s a b e c ln l0 d]
 |none=> ∃(a b e c ln l0:Int)(g:Nat)(q1 q2 q3 Z:Int),r=iW q1 q2 q3 Z s g/\M'=[aX p s a b e c ln l0 d]
def acc(f:UInt8->Bool)(l:List UInt8):Bool×List UInt8:=
 match l with
 |[]=>(false,[])
 |x::l=>if f x then(true,l)else(false,x::l)
def fW(y:Int)(x:UInt8):Bool:=(x.toNat:Int)==y
def j'(y1 bh:Int)(x:UInt8):Bool:=(x.toNat:Int)==y1||(x.toNat:Int)==bh
def eJ(l:List UInt8):Nat×List UInt8:=(l.length-(l.dropWhile bZ).length,l.dropWhile bZ)
theorem wD{s}{e}{ok}{q}{f}(h:ok=true<->e<s.size/\q)(hf:f (bb s e)=true<->q):acc f (al s e)=(ok,al s (if ok then e+1 else e)):=by
 by_cases he:e<s.size;rw[aE he,acc];cases ok with
 |true=>rw[if_pos (hf.2 (h.1 rfl).2)];rfl
 |false=>
  have: ¬f (bb s e)=true:=λ L=>by have:=h.2 ⟨he,hf.1 L⟩;cases this
  rw[if_neg this,<-aE he];rfl
 have:ok=false:=by cases ok with|true=>exact absurd (h.1 rfl).1 he|false=>rfl
 subst this;rw[cA he];simp[acc,cA he]
def di(l:List UInt8):Option (Bool×List UInt8):=
 let z:=acc (fW 48) (acc (fW 45) l).2
 let d:=eJ z.2
 if(if z.1 then d.1≠0 else d.1=0)then none else
 let p:=acc (fW 46) (if z.1 then d.2 else d.2)
 let f:=eJ p.2
 if p.1=true/\f.1=0 then none else
 let x:=acc (j' 101 69) (if p.1 then f.2 else p.2)
 let g:=eJ (acc (j' 45 43) x.2).2
 if x.1=true/\g.1=0 then none else some (p.1||x.1,if x.1 then g.2 else x.2)
theorem me aa p s g(a:Nat)b c ln l0 e y1 d ar T fz(nm ab:ao)bi(f:d.length=22)(hg:aa s=some (.cells ar T fz))(J: ∀(j:Nat)u,([vs nm,vs ab,vb bi]:List Value)[j]?=some u->ar[j]?=some u)(he:e<=ab.size)(dB:ab.size<=1099511627776):
 Sp 163 [vp p 0,vl (sa g 0) 1 1] [aX p s (a:Int) b (e:Int) c ln l0 d,.av g 5 [.int .u8 y1]] aa (λ r M' _=> ∃ok o ai,e<=o/\o<=ab.size/\acc (fW y1) (al ab e)=(ok,al ab o)/\r=vb ok/\M'=[aX p s (a:Int) b (o:Int) ai ln l0 d]):=
 (AJ aa p s g a b c ln l0 e y1 d ar T fz nm ab bi f hg J he dB).mono λ r M' C _⟨ok,ai,G,H,S⟩=>⟨ok,_,ai,by split<;>omega,by cases ok<;>simp at* <;>omega,wD H (by simp[fW,bO]),G,S⟩
theorem hV aa p s g(a:Nat)b c ln l0 e y1 bh d ar T fz(nm ab:ao)bi(f:d.length=22)(hg:aa s=some (.cells ar T fz))(J: ∀(j:Nat)u,([vs nm,vs ab,vb bi]:List Value)[j]?=some u->ar[j]?=some u)(he:e<=ab.size)(dB:ab.size<=1099511627776):
 Sp 163 [vp p 0,vl (sa g 0) 2 2] [aX p s (a:Int) b (e:Int) c ln l0 d,.av g 5 [.int .u8 y1,.int .u8 bh]] aa (λ r M' _=> ∃ok o ai,e<=o/\o<=ab.size/\acc (j' y1 bh) (al ab e)=(ok,al ab o)/\r=vb ok/\M'=[aX p s (a:Int) b (o:Int) ai ln l0 d]):=
 (AU aa p s g a b c ln l0 e y1 bh d ar T fz nm ab bi f hg J he dB).mono λ r M' C _⟨ok,ai,G,H,S⟩=>⟨ok,_,ai,by split<;>omega,by cases ok<;>simp at* <;>omega,wD H (by simp[j',bO]),G,S⟩
theorem lS aa p s(a:Nat)b c0 ln l0 e0 d ar T fz(nm ab:ao)bi(f:d.length=22)(hg:aa s=some (.cells ar T fz))(J: ∀(j:Nat)u,([vs nm,vs ab,vb bi]:List Value)[j]?=some u->ar[j]?=some u)(he:e0<=ab.size)(dB:ab.size<=1099511627776):
 Sp 164 [vp p 0] [aX p s (a:Int) b (e0:Int) c0 ln l0 d] aa (λ r M' _=> ∃e k c,e0<=e/\e<=ab.size/\eJ (al ab e0)=(k,al ab e)/\r=vi k/\M'=[aX p s (a:Int) b (e:Int) c ln l0 d]):=
 (c164 aa p s a b c0 ln l0 e0 d ar T fz nm ab bi f hg J he dB).mono λ r M' C _⟨e,k,c,G,H,S,Y,aI⟩=>⟨e,k,c,om,H,by
  unfold eJ;rw[<-S,aP,aP];exact Prod.ext (by simp only;omega) rfl,Y,aI⟩
theorem c143: ∀aa p s b c ln l0 a e d ar T fz(ab:ao)bi,d.length=22->aa s=some (.cells ar T fz)->(∀(j:Nat)u,([vs ⟨#[]⟩,vs ab,vb bi]:List Value)[j]?=some u->ar[j]?=some u)->a<=e->e+1<=ab.size->ab.size<=1099511627776->
 Sp 143 [vp p 0] [aX p s (a:Int) b ((e+1:Nat):Int) c ln l0 d] aa (λ r M' _=>RT p s ab d ((di (al ab e)).map λ x=>(if x.1 then 18 else 17,ab.extract a (ab.size-x.2.length),x.2)) r M'):=by
 intro aa p s b c ln l0 a e d ar T fz ab bi f hg J N he dB;refine aW Tryz.func143 λ F=>(ra 35 [1,1,1,1] [4,2] [0,2,4,23,24]) λ b1=>(sw 2 3 (show aj (((e+1:Nat):Int)-1)=(e:Int)from by rw[b_ om om];omega))<|(cz [2,0] (me _ p s (b1 1) a b (aj (c-1)) ln l0 e 45 d ar T fz _ ab bi f hg J om dB)) λ|_,_,ak,m1,⟨af,aw,D,L,w,an,rfl,rfl⟩=>(ra 6 [] [5,0,2] [0,2,4,26,27]) λ b2=>(cz [1,0] (me _ p s (b2 0) a b D ln l0 aw 48 d ar T fz _ ab bi f (m1 _ _ hg) J om dB)) λ|_,_,aB,m2,⟨P,az,c2,aN,aD,av,rfl,rfl⟩=>(ra 1 [] [5,1] [0,2,4,28]) λ _=>(iz 28 P) (λ G=>?_) (λ G=>?_);refine(rv 4 [] 0 [0,0,1] [0,2,4,29])<|(cz [0] (lS _ p s a b c2 ln l0 az d ar T fz _ ab bi f ((m1.trans m2) _ _ hg) J om dB)) λ|_,_,j3,m3,⟨e3,k3,c3,z,B,ad,rfl,rfl⟩=>(rv 7 [] 2 [2] [0,2,4,5,32])<|(iz 32 ((k3:Int) !=0)) (λ H=>?_) (λ H=>?_);refine(rv 28 [0,0,0,0] 0 [0,2,1] [2,49])<|(cz (args:=[vp p 0,vs (⟨#[73,110,118,97,108,105,100,32,110,117,109,98,101,114,44,32,117,110,101,120,112,101,99,116,101,100,32,100,105,103,105,116,32,97,102,116,101,114,32,48,46]⟩)]) (M:=[aX p s (a:Int) b (aj ((e3:Int)-(k3:Int))) (aj (c3-(k3:Int))) ln l0 d]) [0] (c146 _ p s _ _ _ _ _ _ _ d ar T fz ab bi f (((m1.trans m2).trans m3) _ _ hg) J)) λ|_,_,Q,k,⟨rfl,g,q1,q2,q3,Z,rfl⟩=>(rv 6 [1] 2 [3] [2,3]) ?_;have O:di (al ab e)=none:=by simp only[beq_iff_eq,beq_eq_false_iff_ne,ne_eq,bne_iff_ne,bne_eq_false_iff_eq]at G H;simp_all [di]
 refine ez 1 (iW q1 q2 q3 Z s g) [aX p s (a:Int) b (aj ((e3:Int)-(k3:Int))) (aj (c3-(k3:Int))) ln l0 d] [1] (((m1.trans m2).trans m3).trans k) ?_;rw[O];exact⟨_,_,_,_,_,_,g,q1,q2,q3,Z,rfl,rfl⟩;refine(ra 7 [] [6,0,2] [0,2,4,63,64]) λ l=>(cz [1,0] (me _ p s (l 0) a b c3 ln l0 e3 46 d ar T fz _ ab bi f (((m1.trans m2).trans m3) _ _ hg) J om dB)) λ|_,_,j4,m4,⟨U,aS,c4,R,q,A,rfl,rfl⟩=>(ra 1 [] [6,1] [0,2,4,65]) λ _=>(iz 65 U) (λ S=>?_) (λ S=>?_);refine(rv 8 [] 0 [0,1,1] [0,2,4,66])<|(cz [0] (lS _ p s a b c4 ln l0 aS d ar T fz _ ab bi f ((((m1.trans m2).trans m3).trans m4) _ _ hg) J om dB)) λ|_,_,bc,m5,⟨o,k5,c5,a7,y,h,rfl,rfl⟩=>(rv 7 [] 2 [3] [0,2,4,69])<|(iz 69 ((k5:Int)==0)) (λ Y=>?_) (λ Y=>?_);refine(rv 4 [] 0 [0,0,1] [2,70])<|(cz (args:=[vp p 0,vs (⟨#[73,110,118,97,108,105,100,32,110,117,109,98,101,114,44,32,101,120,112,101,99,116,101,100,32,100,105,103,105,116,46]⟩)]) (M:=[aX p s (a:Int) b (o:Int) c5 ln l0 d]) [0] (c146 _ p s _ _ _ _ _ _ _ d ar T fz ab bi f (((((m1.trans m2).trans m3).trans m4).trans m5) _ _ hg) J)) λ|_,_,Q,k,⟨rfl,g,q1,q2,q3,Z,rfl⟩=>(rv 6 [1] 2 [1] [2,3]) ?_;have O:di (al ab e)=none:=by simp only[beq_iff_eq,beq_eq_false_iff_ne,ne_eq,bne_iff_ne,bne_eq_false_iff_eq]at G H S Y;simp_all [di]
 refine ez 1 (iW q1 q2 q3 Z s g) [aX p s (a:Int) b (o:Int) c5 ln l0 d] [1] (((((m1.trans m2).trans m3).trans m4).trans m5).trans k) ?_;rw[O];exact⟨_,_,_,_,_,_,g,q1,q2,q3,Z,rfl,rfl⟩;refine(ra 7 [] [7,0,2] [0,2,4,75,76]) λ aq=>(cz [1,0] (hV _ p s (aq 0) a b c5 ln l0 o 101 69 d ar T fz _ ab bi f (((((m1.trans m2).trans m3).trans m4).trans m5) _ _ hg) J om dB)) λ|_,_,j6,m6,⟨m,e6,c6,v,i,C,rfl,rfl⟩=>(ra 1 [] [7,1] [0,2,4,77]) λ _=>(iz 77 m) (λ aI=>?_) (λ aI=>?_);refine(fj 9 [] 0 [0,1,2] [0,2,4,78,79]) λ bK=>(cz [1,0] (hV _ p s (bK 0) a b c6 ln l0 e6 45 43 d ar T fz _ ab bi f ((((((m1.trans m2).trans m3).trans m4).trans m5).trans m6) _ _ hg) J om dB)) λ|_,_,j7,m7,⟨ah,I,c7,n,t,E,rfl,rfl⟩=>(rv 4 [] 2 [2,1] [0,2,4,81])<|(cz [0] (lS _ p s a b c7 ln l0 I d ar T fz _ ab bi f (((((((m1.trans m2).trans m3).trans m4).trans m5).trans m6).trans m7) _ _ hg) J om dB)) λ|_,_,j8,m8,⟨e8,au,c8,V,W,ag,rfl,rfl⟩=>(rv 7 [] 2 [4] [0,2,4,84])<|(iz 84 ((au:Int)==0)) (λ h6=>?_) (λ h6=>?_);refine(rv 4 [] 0 [0,0,1] [2,85])<|(cz (args:=[vp p 0,vs (⟨#[73,110,118,97,108,105,100,32,110,117,109,98,101,114,44,32,101,120,112,101,99,116,101,100,32,100,105,103,105,116,46]⟩)]) (M:=[aX p s (a:Int) b (e8:Int) c8 ln l0 d]) [0] (c146 _ p s _ _ _ _ _ _ _ d ar T fz ab bi f ((((((((m1.trans m2).trans m3).trans m4).trans m5).trans m6).trans m7).trans m8) _ _ hg) J)) λ|_,_,Q,k,⟨rfl,g,q1,q2,q3,Z,rfl⟩=>(rv 6 [1] 2 [1] [2,3]) ?_;have O:di (al ab e)=none:=by simp only[beq_iff_eq,beq_eq_false_iff_ne,ne_eq,bne_iff_ne,bne_eq_false_iff_eq]at G H S Y aI h6;simp_all [di]
 refine ez 1 (iW q1 q2 q3 Z s g) [aX p s (a:Int) b (e8:Int) c8 ln l0 d] [1] ((((((((m1.trans m2).trans m3).trans m4).trans m5).trans m6).trans m7).trans m8).trans k) ?_;rw[O];exact⟨_,_,_,_,_,_,g,q1,q2,q3,Z,rfl,rfl⟩;refine(ra 11 [] [8,1,0,0,1] [2,91]) λ _=>(cz [0] (c139 _ p s 18 a e8 b c8 ln l0 d ar T fz _ ab bi f ((((((((m1.trans m2).trans m3).trans m4).trans m5).trans m6).trans m7).trans m8) _ _ hg) J om om)) λ|_,_,Q,k,⟨rfl,q1,q2,q3,Z,rfl⟩=>(rv 5 [1] 2 [1] [2,3]) ?_;have O:di (al ab e)=some (true,al ab e8):=by simp only[beq_iff_eq,beq_eq_false_iff_ne,ne_eq,bne_iff_ne,bne_eq_false_iff_eq]at G H S Y aI h6;simp_all [di]
 refine ez 1 (hO 18 (ab.extract a e8) q1 q2 q3 Z s) [aX p s (a:Int) b (e8:Int) c8 ln l0 d] [1] ((((((((m1.trans m2).trans m3).trans m4).trans m5).trans m6).trans m7).trans m8).trans k) ?_;rw[O];exact⟨_,e8,_,_,_,_,q1,q2,q3,Z,om,rfl,by simp only[aP];rw[show ab.size-(ab.size-e8)=e8 from by omega];rfl,rfl⟩;refine(ra 11 [] [8,1,0,0,1] [2,91]) λ _=>(cz [0] (c139 _ p s 18 a e6 b c6 ln l0 d ar T fz _ ab bi f ((((((m1.trans m2).trans m3).trans m4).trans m5).trans m6) _ _ hg) J om om)) λ|_,_,Q,k,⟨rfl,q1,q2,q3,Z,rfl⟩=>(rv 5 [1] 2 [1] [2,3]) ?_;have O:di (al ab e)=some (true,al ab e6):=by simp only[beq_iff_eq,beq_eq_false_iff_ne,ne_eq,bne_iff_ne,bne_eq_false_iff_eq]at G H S Y aI;simp_all [di]
 refine ez 1 (hO 18 (ab.extract a e6) q1 q2 q3 Z s) [aX p s (a:Int) b (e6:Int) c6 ln l0 d] [1] ((((((m1.trans m2).trans m3).trans m4).trans m5).trans m6).trans k) ?_;rw[O];exact⟨_,e6,_,_,_,_,q1,q2,q3,Z,om,rfl,by simp only[aP];rw[show ab.size-(ab.size-e6)=e6 from by omega];rfl,rfl⟩;refine(ra 7 [] [7,0,2] [0,2,4,75,76]) λ bO=>(cz [1,0] (hV _ p s (bO 0) a b c4 ln l0 aS 101 69 d ar T fz _ ab bi f ((((m1.trans m2).trans m3).trans m4) _ _ hg) J om dB)) λ|_,_,bc,m5,⟨K,o,c5,a7,y,h,rfl,rfl⟩=>(ra 1 [] [7,1] [0,2,4,77]) λ _=>(iz 77 K) (λ Y=>?_) (λ Y=>?_);refine(fj 9 [] 0 [0,1,2] [0,2,4,78,79]) λ bb=>(cz [1,0] (hV _ p s (bb 0) a b c5 ln l0 o 45 43 d ar T fz _ ab bi f (((((m1.trans m2).trans m3).trans m4).trans m5) _ _ hg) J om dB)) λ|_,_,j6,m6,⟨m,e6,c6,v,i,C,rfl,rfl⟩=>(rv 4 [] 2 [2,1] [0,2,4,81])<|(cz [0] (lS _ p s a b c6 ln l0 e6 d ar T fz _ ab bi f ((((((m1.trans m2).trans m3).trans m4).trans m5).trans m6) _ _ hg) J om dB)) λ|_,_,j7,m7,⟨I,k7,c7,n,t,E,rfl,rfl⟩=>(rv 7 [] 2 [4] [0,2,4,84])<|(iz 84 ((k7:Int)==0)) (λ aI=>?_) (λ aI=>?_);refine(rv 4 [] 0 [0,0,1] [2,85])<|(cz (args:=[vp p 0,vs (⟨#[73,110,118,97,108,105,100,32,110,117,109,98,101,114,44,32,101,120,112,101,99,116,101,100,32,100,105,103,105,116,46]⟩)]) (M:=[aX p s (a:Int) b (I:Int) c7 ln l0 d]) [0] (c146 _ p s _ _ _ _ _ _ _ d ar T fz ab bi f (((((((m1.trans m2).trans m3).trans m4).trans m5).trans m6).trans m7) _ _ hg) J)) λ|_,_,Q,k,⟨rfl,g,q1,q2,q3,Z,rfl⟩=>(rv 6 [1] 2 [1] [2,3]) ?_;have O:di (al ab e)=none:=by simp only[beq_iff_eq,beq_eq_false_iff_ne,ne_eq,bne_iff_ne,bne_eq_false_iff_eq]at G H S Y aI;simp_all [di]
 refine ez 1 (iW q1 q2 q3 Z s g) [aX p s (a:Int) b (I:Int) c7 ln l0 d] [1] (((((((m1.trans m2).trans m3).trans m4).trans m5).trans m6).trans m7).trans k) ?_;rw[O];exact⟨_,_,_,_,_,_,g,q1,q2,q3,Z,rfl,rfl⟩;refine(ra 11 [] [8,1,0,0,1] [2,91]) λ _=>(cz [0] (c139 _ p s 18 a I b c7 ln l0 d ar T fz _ ab bi f (((((((m1.trans m2).trans m3).trans m4).trans m5).trans m6).trans m7) _ _ hg) J om om)) λ|_,_,Q,k,⟨rfl,q1,q2,q3,Z,rfl⟩=>(rv 5 [1] 2 [1] [2,3]) ?_;have O:di (al ab e)=some (true,al ab I):=by simp only[beq_iff_eq,beq_eq_false_iff_ne,ne_eq,bne_iff_ne,bne_eq_false_iff_eq]at G H S Y aI;simp_all [di]
 refine ez 1 (hO 18 (ab.extract a I) q1 q2 q3 Z s) [aX p s (a:Int) b (I:Int) c7 ln l0 d] [1] (((((((m1.trans m2).trans m3).trans m4).trans m5).trans m6).trans m7).trans k) ?_;rw[O];exact⟨_,I,_,_,_,_,q1,q2,q3,Z,om,rfl,by simp only[aP];rw[show ab.size-(ab.size-I)=I from by omega];rfl,rfl⟩;refine(ra 12 [] [9,1] [2,95]) λ _=>(cz [0] (c139 _ p s 17 a o b c5 ln l0 d ar T fz _ ab bi f (((((m1.trans m2).trans m3).trans m4).trans m5) _ _ hg) J om om)) λ|_,_,Q,k,⟨rfl,q1,q2,q3,Z,rfl⟩=>(ra 5 [1] [10] [2,3]) ?_;intro _;have O:di (al ab e)=some (false,al ab o):=by simp only[beq_iff_eq,beq_eq_false_iff_ne,ne_eq,bne_iff_ne,bne_eq_false_iff_eq]at G H S Y;simp_all [di]
 refine ez 1 (hO 17 (ab.extract a o) q1 q2 q3 Z s) [aX p s (a:Int) b (o:Int) c5 ln l0 d] [1] (((((m1.trans m2).trans m3).trans m4).trans m5).trans k) ?_;rw[O];exact⟨_,o,_,_,_,_,q1,q2,q3,Z,om,rfl,by simp only[aP];rw[show ab.size-(ab.size-o)=o from by omega];rfl,rfl⟩;refine(rv 4 [] 0 [1,0,1] [0,2,4,54])<|(cz [0] (lS _ p s a b c2 ln l0 az d ar T fz _ ab bi f ((m1.trans m2) _ _ hg) J om dB)) λ|_,_,j3,m3,⟨e3,k3,c3,z,B,ad,rfl,rfl⟩=>(rv 7 [] 2 [2] [0,2,4,57])<|(iz 57 ((k3:Int)==0)) (λ H=>?_) (λ H=>?_);refine(rv 4 [] 0 [0,0,1] [2,58])<|(cz (args:=[vp p 0,vs (⟨#[73,110,118,97,108,105,100,32,110,117,109,98,101,114,44,32,101,120,112,101,99,116,101,100,32,100,105,103,105,116,46]⟩)]) (M:=[aX p s (a:Int) b (e3:Int) c3 ln l0 d]) [0] (c146 _ p s _ _ _ _ _ _ _ d ar T fz ab bi f (((m1.trans m2).trans m3) _ _ hg) J)) λ|_,_,Q,k,⟨rfl,g,q1,q2,q3,Z,rfl⟩=>(rv 6 [1] 2 [1] [2,3]) ?_;have O:di (al ab e)=none:=by simp only[beq_iff_eq,beq_eq_false_iff_ne,ne_eq,bne_iff_ne,bne_eq_false_iff_eq]at G H;simp_all [di]
 refine ez 1 (iW q1 q2 q3 Z s g) [aX p s (a:Int) b (e3:Int) c3 ln l0 d] [1] (((m1.trans m2).trans m3).trans k) ?_;rw[O];exact⟨_,_,_,_,_,_,g,q1,q2,q3,Z,rfl,rfl⟩;refine(ra 7 [] [6,0,2] [0,2,4,63,64]) λ b8=>(cz [1,0] (me _ p s (b8 0) a b c3 ln l0 e3 46 d ar T fz _ ab bi f (((m1.trans m2).trans m3) _ _ hg) J om dB)) λ|_,_,j4,m4,⟨U,aS,c4,R,q,A,rfl,rfl⟩=>(ra 1 [] [6,1] [0,2,4,65]) λ _=>(iz 65 U) (λ S=>?_) (λ S=>?_);refine(rv 8 [] 0 [0,1,1] [0,2,4,66])<|(cz [0] (lS _ p s a b c4 ln l0 aS d ar T fz _ ab bi f ((((m1.trans m2).trans m3).trans m4) _ _ hg) J om dB)) λ|_,_,bc,m5,⟨o,k5,c5,a7,y,h,rfl,rfl⟩=>(rv 7 [] 2 [3] [0,2,4,69])<|(iz 69 ((k5:Int)==0)) (λ Y=>?_) (λ Y=>?_);refine(rv 4 [] 0 [0,0,1] [2,70])<|(cz (args:=[vp p 0,vs (⟨#[73,110,118,97,108,105,100,32,110,117,109,98,101,114,44,32,101,120,112,101,99,116,101,100,32,100,105,103,105,116,46]⟩)]) (M:=[aX p s (a:Int) b (o:Int) c5 ln l0 d]) [0] (c146 _ p s _ _ _ _ _ _ _ d ar T fz ab bi f (((((m1.trans m2).trans m3).trans m4).trans m5) _ _ hg) J)) λ|_,_,Q,k,⟨rfl,g,q1,q2,q3,Z,rfl⟩=>(rv 6 [1] 2 [1] [2,3]) ?_;have O:di (al ab e)=none:=by simp only[beq_iff_eq,beq_eq_false_iff_ne,ne_eq,bne_iff_ne,bne_eq_false_iff_eq]at G H S Y;simp_all [di]
 refine ez 1 (iW q1 q2 q3 Z s g) [aX p s (a:Int) b (o:Int) c5 ln l0 d] [1] (((((m1.trans m2).trans m3).trans m4).trans m5).trans k) ?_;rw[O];exact⟨_,_,_,_,_,_,g,q1,q2,q3,Z,rfl,rfl⟩;refine(ra 7 [] [7,0,2] [0,2,4,75,76]) λ b'=>(cz [1,0] (hV _ p s (b' 0) a b c5 ln l0 o 101 69 d ar T fz _ ab bi f (((((m1.trans m2).trans m3).trans m4).trans m5) _ _ hg) J om dB)) λ|_,_,j6,m6,⟨m,e6,c6,v,i,C,rfl,rfl⟩=>(ra 1 [] [7,1] [0,2,4,77]) λ _=>(iz 77 m) (λ aI=>?_) (λ aI=>?_);refine(fj 9 [] 0 [0,1,2] [0,2,4,78,79]) λ bR=>(cz [1,0] (hV _ p s (bR 0) a b c6 ln l0 e6 45 43 d ar T fz _ ab bi f ((((((m1.trans m2).trans m3).trans m4).trans m5).trans m6) _ _ hg) J om dB)) λ|_,_,j7,m7,⟨ah,I,c7,n,t,E,rfl,rfl⟩=>(rv 4 [] 2 [2,1] [0,2,4,81])<|(cz [0] (lS _ p s a b c7 ln l0 I d ar T fz _ ab bi f (((((((m1.trans m2).trans m3).trans m4).trans m5).trans m6).trans m7) _ _ hg) J om dB)) λ|_,_,j8,m8,⟨e8,au,c8,V,W,ag,rfl,rfl⟩=>(rv 7 [] 2 [4] [0,2,4,84])<|(iz 84 ((au:Int)==0)) (λ h6=>?_) (λ h6=>?_);refine(rv 4 [] 0 [0,0,1] [2,85])<|(cz (args:=[vp p 0,vs (⟨#[73,110,118,97,108,105,100,32,110,117,109,98,101,114,44,32,101,120,112,101,99,116,101,100,32,100,105,103,105,116,46]⟩)]) (M:=[aX p s (a:Int) b (e8:Int) c8 ln l0 d]) [0] (c146 _ p s _ _ _ _ _ _ _ d ar T fz ab bi f ((((((((m1.trans m2).trans m3).trans m4).trans m5).trans m6).trans m7).trans m8) _ _ hg) J)) λ|_,_,Q,k,⟨rfl,g,q1,q2,q3,Z,rfl⟩=>(rv 6 [1] 2 [1] [2,3]) ?_;have O:di (al ab e)=none:=by simp only[beq_iff_eq,beq_eq_false_iff_ne,ne_eq,bne_iff_ne,bne_eq_false_iff_eq]at G H S Y aI h6;simp_all [di]
 refine ez 1 (iW q1 q2 q3 Z s g) [aX p s (a:Int) b (e8:Int) c8 ln l0 d] [1] ((((((((m1.trans m2).trans m3).trans m4).trans m5).trans m6).trans m7).trans m8).trans k) ?_;rw[O];exact⟨_,_,_,_,_,_,g,q1,q2,q3,Z,rfl,rfl⟩;refine(ra 11 [] [8,1,0,0,1] [2,91]) λ _=>(cz [0] (c139 _ p s 18 a e8 b c8 ln l0 d ar T fz _ ab bi f ((((((((m1.trans m2).trans m3).trans m4).trans m5).trans m6).trans m7).trans m8) _ _ hg) J om om)) λ|_,_,Q,k,⟨rfl,q1,q2,q3,Z,rfl⟩=>(rv 5 [1] 2 [1] [2,3]) ?_;have O:di (al ab e)=some (true,al ab e8):=by simp only[beq_iff_eq,beq_eq_false_iff_ne,ne_eq,bne_iff_ne,bne_eq_false_iff_eq]at G H S Y aI h6;simp_all [di]
 refine ez 1 (hO 18 (ab.extract a e8) q1 q2 q3 Z s) [aX p s (a:Int) b (e8:Int) c8 ln l0 d] [1] ((((((((m1.trans m2).trans m3).trans m4).trans m5).trans m6).trans m7).trans m8).trans k) ?_;rw[O];exact⟨_,e8,_,_,_,_,q1,q2,q3,Z,om,rfl,by simp only[aP];rw[show ab.size-(ab.size-e8)=e8 from by omega];rfl,rfl⟩;refine(ra 11 [] [8,1,0,0,1] [2,91]) λ _=>(cz [0] (c139 _ p s 18 a e6 b c6 ln l0 d ar T fz _ ab bi f ((((((m1.trans m2).trans m3).trans m4).trans m5).trans m6) _ _ hg) J om om)) λ|_,_,Q,k,⟨rfl,q1,q2,q3,Z,rfl⟩=>(rv 5 [1] 2 [1] [2,3]) ?_;have O:di (al ab e)=some (true,al ab e6):=by simp only[beq_iff_eq,beq_eq_false_iff_ne,ne_eq,bne_iff_ne,bne_eq_false_iff_eq]at G H S Y aI;simp_all [di]
 refine ez 1 (hO 18 (ab.extract a e6) q1 q2 q3 Z s) [aX p s (a:Int) b (e6:Int) c6 ln l0 d] [1] ((((((m1.trans m2).trans m3).trans m4).trans m5).trans m6).trans k) ?_;rw[O];exact⟨_,e6,_,_,_,_,q1,q2,q3,Z,om,rfl,by simp only[aP];rw[show ab.size-(ab.size-e6)=e6 from by omega];rfl,rfl⟩;refine(ra 7 [] [7,0,2] [0,2,4,75,76]) λ cd=>(cz [1,0] (hV _ p s (cd 0) a b c4 ln l0 aS 101 69 d ar T fz _ ab bi f ((((m1.trans m2).trans m3).trans m4) _ _ hg) J om dB)) λ|_,_,bc,m5,⟨K,o,c5,a7,y,h,rfl,rfl⟩=>(ra 1 [] [7,1] [0,2,4,77]) λ _=>(iz 77 K) (λ Y=>?_) (λ Y=>?_);refine(fj 9 [] 0 [0,1,2] [0,2,4,78,79]) λ ae=>(cz [1,0] (hV _ p s (ae 0) a b c5 ln l0 o 45 43 d ar T fz _ ab bi f (((((m1.trans m2).trans m3).trans m4).trans m5) _ _ hg) J om dB)) λ|_,_,j6,m6,⟨m,e6,c6,v,i,C,rfl,rfl⟩=>(rv 4 [] 2 [2,1] [0,2,4,81])<|(cz [0] (lS _ p s a b c6 ln l0 e6 d ar T fz _ ab bi f ((((((m1.trans m2).trans m3).trans m4).trans m5).trans m6) _ _ hg) J om dB)) λ|_,_,j7,m7,⟨I,k7,c7,n,t,E,rfl,rfl⟩=>(rv 7 [] 2 [4] [0,2,4,84])<|(iz 84 ((k7:Int)==0)) (λ aI=>?_) (λ aI=>?_);refine(rv 4 [] 0 [0,0,1] [2,85])<|(cz (args:=[vp p 0,vs (⟨#[73,110,118,97,108,105,100,32,110,117,109,98,101,114,44,32,101,120,112,101,99,116,101,100,32,100,105,103,105,116,46]⟩)]) (M:=[aX p s (a:Int) b (I:Int) c7 ln l0 d]) [0] (c146 _ p s _ _ _ _ _ _ _ d ar T fz ab bi f (((((((m1.trans m2).trans m3).trans m4).trans m5).trans m6).trans m7) _ _ hg) J)) λ|_,_,Q,k,⟨rfl,g,q1,q2,q3,Z,rfl⟩=>(rv 6 [1] 2 [1] [2,3]) ?_;have O:di (al ab e)=none:=by simp only[beq_iff_eq,beq_eq_false_iff_ne,ne_eq,bne_iff_ne,bne_eq_false_iff_eq]at G H S Y aI;simp_all [di]
 refine ez 1 (iW q1 q2 q3 Z s g) [aX p s (a:Int) b (I:Int) c7 ln l0 d] [1] (((((((m1.trans m2).trans m3).trans m4).trans m5).trans m6).trans m7).trans k) ?_;rw[O];exact⟨_,_,_,_,_,_,g,q1,q2,q3,Z,rfl,rfl⟩;refine(ra 11 [] [8,1,0,0,1] [2,91]) λ _=>(cz [0] (c139 _ p s 18 a I b c7 ln l0 d ar T fz _ ab bi f (((((((m1.trans m2).trans m3).trans m4).trans m5).trans m6).trans m7) _ _ hg) J om om)) λ|_,_,Q,k,⟨rfl,q1,q2,q3,Z,rfl⟩=>(rv 5 [1] 2 [1] [2,3]) ?_;have O:di (al ab e)=some (true,al ab I):=by simp only[beq_iff_eq,beq_eq_false_iff_ne,ne_eq,bne_iff_ne,bne_eq_false_iff_eq]at G H S Y aI;simp_all [di]
 refine ez 1 (hO 18 (ab.extract a I) q1 q2 q3 Z s) [aX p s (a:Int) b (I:Int) c7 ln l0 d] [1] (((((((m1.trans m2).trans m3).trans m4).trans m5).trans m6).trans m7).trans k) ?_;rw[O];exact⟨_,I,_,_,_,_,q1,q2,q3,Z,om,rfl,by simp only[aP];rw[show ab.size-(ab.size-I)=I from by omega];rfl,rfl⟩;refine(ra 12 [] [9,1] [2,95]) λ _=>(cz [0] (c139 _ p s 17 a o b c5 ln l0 d ar T fz _ ab bi f (((((m1.trans m2).trans m3).trans m4).trans m5) _ _ hg) J om om)) λ|_,_,Q,k,⟨rfl,q1,q2,q3,Z,rfl⟩=>(ra 5 [1] [10] [2,3]) ?_;intro _;have O:di (al ab e)=some (false,al ab o):=by simp only[beq_iff_eq,beq_eq_false_iff_ne,ne_eq,bne_iff_ne,bne_eq_false_iff_eq]at G H S Y;simp_all [di]
 refine ez 1 (hO 17 (ab.extract a o) q1 q2 q3 Z s) [aX p s (a:Int) b (o:Int) c5 ln l0 d] [1] (((((m1.trans m2).trans m3).trans m4).trans m5).trans k) ?_;rw[O];exact⟨_,o,_,_,_,_,q1,q2,q3,Z,om,rfl,by simp only[aP];rw[show ab.size-(ab.size-o)=o from by omega];rfl,rfl⟩
end Go.Proofs.YtdpmeahgjjmdiaaGreatDoor
