/- Part of the proof that laws.FnSchemaAgain answers true. Conditions: none. -/
import Derived.Test.YtdpmeahgjjmdiaaGreatDoorC01
set_option linter.all false
open List renaming getElem?_eq_getElem->HH,getElem?_eq_none->Hp,getElem?_map->HW,getElem_mem->HY,length_map->HX,mem_cons->G6
open Nat renaming le_refl->HZ,lt_or_ge->Hh
open Go.Proofs.Tryz renaming prog->HB
open ByteArray renaming size->H0
namespace Go.Proofs.YtdpmeahgjjmdiaaGreatDoor
open Go
variable[OO]
def je(o:Option Oper):Operand×Operand:=match o with
 |some o=>match o.op with
  | .call ⟨_,a,_⟩=>(a.getD 0 (.const undef),a.getD 1 (.const undef))
  |_=>(.const undef,.const undef)
 |none=>(.const undef,.const undef)
def r_(v:Value):Option Addr:=match v with| .slice a _ _=>a|_=>none
def BM(l:List Chunk):Nat:=match l with|[_,.av _ T _]=>T|_=>0
noncomputable def r8(fn:Func)(s:St):Value:=bB u0 s.e (je (oA fn s)).1
noncomputable def zW(fn:Func)(s:St):Value:=bB u0 s.e (je (oA fn s)).2
noncomputable def sO(fn:Func)(v:Value)(c:Chunk)(is:List Nat)(s:St):St:=⟨pI s.p,((cD fn s).getD 0,v)::s.e,c::vR is s.c⟩
noncomputable def r'(fn:Func)(e:Nat)(d:jF):Value:=bB u0 d.s.e (je (fK fn.ntmps (d.ops fn) d.s.e e)).1
noncomputable def z_(fn:Func)(e:Nat)(d:jF):Value:=bB u0 d.s.e (je (fK fn.ntmps (d.ops fn) d.s.e e)).2
noncomputable def d7(fn:Func)(e:Nat)(v:Value)(c:Chunk)(is:List Nat)(d:jF):jF:=⟨⟨d.s.p,((eD fn e d).getD 0,v)::d.s.e,c::vR is d.s.c⟩,d.q,dX fn e d,d.r.erase e⟩
noncomputable def gD(fn:Func)(e:Nat)(d:jF):Option Nat:=((d.ops fn)[e]?).bind (·.dst)
noncomputable def d8(fn:Func)(e:Nat)(d:jF):jF:=⟨⟨d.s.p,dF (gD fn e d) undef d.s.e,d.s.c⟩,d.q,dX fn e d,d.r.erase e⟩
theorem rU a(b:List Value):a.flatten++b=(a++[b]).flatten:=by simp
theorem oM{aa}{cs}{w}{b E sz n:Nat}{cells}(hl:cells.length=n*sz)(O:n<=maxLen)(h:Heap aa (.av b E cells::cs) w):Heap aa (own E sz (vl (sa b 0) n n) n cells::cs) w:=by
 refine⟨h.io,h.dD,?_,?_,λ c J=>?_⟩;have:=h.nodup;simpa[own,Chunk.fp,aV]using this;have:=h.old;simpa[own,Chunk.fp,aV]using this;rcases G6.1 J with rfl|J
 have hb:w.heap[b]?=some (.cells cells.toArray E (0,0)):=h.ok (.av b E cells) sm;refine⟨[.cells cells.toArray E (0,0)],by simp[aV,hb],hl,.inr ⟨b,n,cells.toArray,rfl,rfl,HZ _,O,by simpa using hl,?_⟩⟩;rw[<-hl];simp;exact h.ok c (by simp[J])
section
variable{f:FuncId}{fn:Func}{R:Ending->World->Prop}{D:List Deferred}{aa:au}{s:St}{d:jF}{e:Nat}{t tx E sz bytes:Nat}{vy:Value}
theorem fb(i b T:Nat)(cells:List Value)(z:mP [i] s.c=[.av b T cells]:=by kernel_rfl)(aJ:(bF [i] s.c).isSome=true:=by kernel_rfl)
 (k: ∀C,au.le aa C->C b=some (.cells cells.toArray T (0,0))->Z f fn R D C (s9 [i] [] s)):Z f fn R D aa s:=Gg i _ rfl z aJ k
theorem jY{ι:Type}(bn:ι->au)(s1:ι->St)(H:ι->Prop)(k1: ∀i,H i->Z f fn R D (bn i) (s1 i))(k2:(∀i,H i->Z f fn R D (bn i) (s1 i))->Z f fn R D aa s):Z f fn R D aa s:=k2 k1
theorem az(st:gL t E sz bytes)(n m:Nat)(xs ys:List Value)(is:List Nat)(hl:ys.length=m*sz:=by rfl)(G: ∀u∈ys,u.oneCell'=true:=by simp[Value.oneCell'])(hb:(n+m)*bytes<=140737488355328:=by omega)(hp:mP is s.c=[own E sz (.slice (r_ (r8 fn s)) n (lV (r8 fn s))) n xs,.av (r9 (zW fn s)) (BM (mP is s.c)) ys]:=by kernel_rfl)(aJ:(bF is s.c).isSome=true:=by kernel_rfl)(N: ∀u,(cj fn.ntmps (bI (bd fn) s.p []) s.e).map (λ q=>(q.1.op,bB u s.e (je (oA fn s)).1,bB u s.e (je (oA fn s)).2,q.1.dst,q.2))=some (.call ⟨.builtin .append,#[(je (oA fn s)).1,(je (oA fn s)).2],#[t,t]⟩,.slice (r_ (r8 fn s)) n (lV (r8 fn s)),.slice (some ⟨r9 (zW fn s),0,none⟩) m (lV (zW fn s)),some ((cD fn s).getD 0),bI (bd fn) (pI s.p) []):=by intros;kernel_rfl)
 (k: ∀A' ai,Z f fn R D aa (sO fn (vl A' (n+m) ai) (own E sz (vl A' (n+m) ai) (n+m) (xs++ys)) is s)):Z f fn R D aa s:=
 ⟨bf.app (je (oA fn s)).1 (je (oA fn s)).2 t st (r_ (r8 fn s)) n (lV (r8 fn s)) (r9 (zW fn s)) m (lV (zW fn s)) (BM (mP is s.c)) xs ys ((cD fn s).getD 0) (pI s.p) is (hp▸eo aJ) hl G hb (λ A' ai=>(k A' ai).x) N⟩
theorem sH(st:gL t E sz bytes)(n m:Nat)(aY:List (List Value))(ys:List Value)(is:List Nat)(hl:ys.length=m*sz:=by rfl)(G: ∀u∈ys,u.oneCell'=true:=by simp[Value.oneCell'])(hb:(n+m)*bytes<=140737488355328:=by omega)(hp:mP is s.c=[own E sz (.slice (r_ (r8 fn s)) n (lV (r8 fn s))) n aY.flatten,.av (r9 (zW fn s)) (BM (mP is s.c)) ys]:=by kernel_rfl)(aJ:(bF is s.c).isSome=true:=by kernel_rfl)(N: ∀u,(cj fn.ntmps (bI (bd fn) s.p []) s.e).map (λ q=>(q.1.op,bB u s.e (je (oA fn s)).1,bB u s.e (je (oA fn s)).2,q.1.dst,q.2))=some (.call ⟨.builtin .append,#[(je (oA fn s)).1,(je (oA fn s)).2],#[t,t]⟩,.slice (r_ (r8 fn s)) n (lV (r8 fn s)),.slice (some ⟨r9 (zW fn s),0,none⟩) m (lV (zW fn s)),some ((cD fn s).getD 0),bI (bd fn) (pI s.p) []):=by intros;kernel_rfl)
 (k: ∀A' ai,Z f fn R D aa (sO fn (vl A' (n+m) ai) (own E sz (vl A' (n+m) ai) (n+m) (aY++[ys]).flatten) is s)):Z f fn R D aa s:=
 az st n m _ ys is hl G hb hp aJ N λ A' ai=>rU aY ys▸k A' ai
theorem Gn(st:gL t E sz bytes)(n m:Nat)(xs ys:List Value)(is:List Nat)(aJ:fD aa sz tx vy m ys)(hb:(n+m)*bytes<=140737488355328:=by omega)(hp:mP is s.c=[own E sz (.slice (r_ (r8 fn s)) n (lV (r8 fn s))) n xs]:=by kernel_rfl)(hi:(bF is s.c).isSome=true:=by kernel_rfl)(N: ∀u,(cj fn.ntmps (bI (bd fn) s.p []) s.e).map (λ q=>(q.1.op,bB u s.e (je (oA fn s)).1,bB u s.e (je (oA fn s)).2,q.1.dst,q.2))=some (.call ⟨.builtin .append,#[(je (oA fn s)).1,(je (oA fn s)).2],#[t,tx]⟩,.slice (r_ (r8 fn s)) n (lV (r8 fn s)),vy,some ((cD fn s).getD 0),bI (bd fn) (pI s.p) []):=by intros;kernel_rfl)
 (k: ∀A' ai,Z f fn R D aa (sO fn (vl A' (n+m) ai) (own E sz (vl A' (n+m) ai) (n+m) (xs++ys)) is s)):Z f fn R D aa s:=
 ⟨bf.vN (je (oA fn s)).1 (je (oA fn s)).2 t tx st (r_ (r8 fn s)) n (lV (r8 fn s)) m vy xs ys ((cD fn s).getD 0) (pI s.p) is (hp▸eo hi) aJ hb (λ A' ai=>(k A' ai).x) N⟩
theorem nR(st:gL t E sz bytes)(n m:Nat)(xs ys:List Value)(is:List Nat)(hl:ys.length=m*sz:=by rfl)(G: ∀u∈ys,u.oneCell'=true:=by simp[Value.oneCell'])(hb:(n+m)*bytes<=140737488355328:=by omega)(hp:mP is d.s.c=[own E sz (.slice (r_ (r' fn e d)) n (lV (r' fn e d))) n xs,.av (r9 (z_ fn e d)) (BM (mP is d.s.c)) ys]:=by kernel_rfl)(aJ:(bF is d.s.c).isSome=true:=by kernel_rfl)(N: ∀u,(fK fn.ntmps (d.ops fn) d.s.e e).map (λ q=>(q.op,bB u d.s.e (je (fK fn.ntmps (d.ops fn) d.s.e e)).1,bB u d.s.e (je (fK fn.ntmps (d.ops fn) d.s.e e)).2,q.dst))=some (.call ⟨.builtin .append,#[(je (fK fn.ntmps (d.ops fn) d.s.e e)).1,(je (fK fn.ntmps (d.ops fn) d.s.e e)).2],#[t,t]⟩,.slice (r_ (r' fn e d)) n (lV (r' fn e d)),.slice (some ⟨r9 (z_ fn e d),0,none⟩) m (lV (z_ fn e d)),some ((eD fn e d).getD 0)):=by intros;kernel_rfl)
 (k: ∀A' ai,ZI f fn R D aa (d7 fn e (vl A' (n+m) ai) (own E sz (vl A' (n+m) ai) (n+m) (xs++ys)) is d)):ZE f fn R D aa e d:=
 ⟨kC.app e (je (fK fn.ntmps (d.ops fn) d.s.e e)).1 (je (fK fn.ntmps (d.ops fn) d.s.e e)).2 t st (r_ (r' fn e d)) n (lV (r' fn e d)) (r9 (z_ fn e d)) m (lV (z_ fn e d)) (BM (mP is d.s.c)) xs ys ((eD fn e d).getD 0) (dX fn e d) (d.r.erase e) is (hp▸eo aJ) hl G hb (λ A' ai=>(k A' ai).x) rfl rfl N⟩
theorem jo(st:gL t E sz bytes)(n m:Nat)(aY:List (List Value))(ys:List Value)(is:List Nat)(hl:ys.length=m*sz:=by rfl)(G: ∀u∈ys,u.oneCell'=true:=by simp[Value.oneCell'])(hb:(n+m)*bytes<=140737488355328:=by omega)(hp:mP is d.s.c=[own E sz (.slice (r_ (r' fn e d)) n (lV (r' fn e d))) n aY.flatten,.av (r9 (z_ fn e d)) (BM (mP is d.s.c)) ys]:=by kernel_rfl)(aJ:(bF is d.s.c).isSome=true:=by kernel_rfl)(N: ∀u,(fK fn.ntmps (d.ops fn) d.s.e e).map (λ q=>(q.op,bB u d.s.e (je (fK fn.ntmps (d.ops fn) d.s.e e)).1,bB u d.s.e (je (fK fn.ntmps (d.ops fn) d.s.e e)).2,q.dst))=some (.call ⟨.builtin .append,#[(je (fK fn.ntmps (d.ops fn) d.s.e e)).1,(je (fK fn.ntmps (d.ops fn) d.s.e e)).2],#[t,t]⟩,.slice (r_ (r' fn e d)) n (lV (r' fn e d)),.slice (some ⟨r9 (z_ fn e d),0,none⟩) m (lV (z_ fn e d)),some ((eD fn e d).getD 0)):=by intros;kernel_rfl)
 (k: ∀A' ai,ZI f fn R D aa (d7 fn e (vl A' (n+m) ai) (own E sz (vl A' (n+m) ai) (n+m) (aY++[ys]).flatten) is d)):ZE f fn R D aa e d:=
 nR st n m _ ys is hl G hb hp aJ N λ A' ai=>rU aY ys▸k A' ai
theorem gq(st:gL t E sz bytes)(n m:Nat)(xs ys:List Value)(is:List Nat)(aJ:fD aa sz tx vy m ys)(hb:(n+m)*bytes<=140737488355328:=by omega)(hp:mP is d.s.c=[own E sz (.slice (r_ (r' fn e d)) n (lV (r' fn e d))) n xs]:=by kernel_rfl)(hi:(bF is d.s.c).isSome=true:=by kernel_rfl)(N: ∀u,(fK fn.ntmps (d.ops fn) d.s.e e).map (λ q=>(q.op,bB u d.s.e (je (fK fn.ntmps (d.ops fn) d.s.e e)).1,bB u d.s.e (je (fK fn.ntmps (d.ops fn) d.s.e e)).2,q.dst))=some (.call ⟨.builtin .append,#[(je (fK fn.ntmps (d.ops fn) d.s.e e)).1,(je (fK fn.ntmps (d.ops fn) d.s.e e)).2],#[t,tx]⟩,.slice (r_ (r' fn e d)) n (lV (r' fn e d)),vy,some ((eD fn e d).getD 0)):=by intros;kernel_rfl)
 (k: ∀A' ai,ZI f fn R D aa (d7 fn e (vl A' (n+m) ai) (own E sz (vl A' (n+m) ai) (n+m) (xs++ys)) is d)):ZE f fn R D aa e d:=
 ⟨kC.vN e (je (fK fn.ntmps (d.ops fn) d.s.e e)).1 (je (fK fn.ntmps (d.ops fn) d.s.e e)).2 t tx st (r_ (r' fn e d)) n (lV (r' fn e d)) m vy xs ys ((eD fn e d).getD 0) (dX fn e d) (d.r.erase e) is (hp▸eo hi) aJ hb (λ A' ai=>(k A' ai).x) rfl rfl N⟩
theorem uv(G:((d.ops fn)[e]?).map (λ o=>(gd (d.ops fn) d.s.e o.guard,o.dst,iS fn.ntmps o.dst))=some (some false,gD fn e d,true):=by kernel_rfl)
 (k:ZI f fn R D aa (d8 fn e d)):ZE f fn R D aa e d:=
 ⟨sk e (gD fn e d) (dX fn e d) (d.r.erase e) k.x rfl rfl G⟩
theorem tz(i b E sz n:Nat)(cells:List Value)(hl:cells.length=n*sz:=by simp)(O:n<=maxLen:=by decide)(z:mP [i] s.c=[.av b E cells]:=by kernel_rfl)(aJ:(bF [i] s.c).isSome=true:=by kernel_rfl)
 (k:Z f fn R D aa (s9 [i] [own E sz (vl (sa b 0) n n) n cells] s)):Z f fn R D aa s:=by
 refine⟨λ a w he hd hh=>?_⟩;have h:=hh.perm (bR (eo aJ));rw[z]at h;exact k.x a w he hd (oM hl O h)
theorem ug(i b E sz n:Nat)(cells:List Value)(hl:cells.length=n*sz:=by simp)(O:n<=maxLen:=by decide)(z:mP [i] d.s.c=[.av b E cells]:=by kernel_rfl)(aJ:(bF [i] d.s.c).isSome=true:=by kernel_rfl)
 (k:ZC f fn R D aa ⟨s9 [i] [own E sz (vl (sa b 0) n n) n cells] d.s,d.q,d.X,d.r⟩):ZC f fn R D aa d:=by
 refine⟨λ a w he hd hh=>?_⟩;have h:=hh.perm (bR (eo aJ));rw[z]at h;exact k.x a w he hd (oM hl O h)
theorem qm(aw az:Nat)(ah:d.r.isEmpty=false:=by kernel_rfl)(q:(d.r.all λ i=>dE (d.ops fn) i||!jf (d.pm fn) i d.r)=true:=by kernel_rfl)(he:d.r.filter (λ e=>jf (d.pm fn) e d.r)=[aw,az]:=by kernel_rfl)
 (k1:ZE f fn R D aa aw d) (k2:ZE f fn R D aa az d):ZC f fn R D aa d:=⟨tw aw az k1.x k2.x ah q he⟩
theorem GW(aw az e3:Nat)(ah:d.r.isEmpty=false:=by kernel_rfl)(q:(d.r.all λ i=>dE (d.ops fn) i||!jf (d.pm fn) i d.r)=true:=by kernel_rfl)(he:d.r.filter (λ e=>jf (d.pm fn) e d.r)=[aw,az,e3]:=by kernel_rfl)
 (k1:ZE f fn R D aa aw d) (k2:ZE f fn R D aa az d) (k3:ZE f fn R D aa e3 d):ZC f fn R D aa d:=
 ⟨eS.wait ah q λ o hm=>by
  have hm:o∈[aw,az,e3]:=he▸hm;simp at hm;rcases hm with rfl|rfl|rfl
  exact k1.x;exact k2.x;exact k3.x⟩
end
section
variable{f:FuncId}{fn:Func}{R:Ending->World->Prop}{D:List Deferred}{aa:au}{s:St}
theorem H4{gI:au}{F:List Chunk}{ca:Value->List Chunk->au->Prop}(b:Bool)(is:List Nat)(k:ca (vb b) [] aa)(hl:au.le gI aa:=by repeat(first|exact au.le.refl _|assumption|refine au.le.trans (by assumption) ?_))(hf:HB.funcs[f]?=some fn:=by kernel_rfl)(hp:vR is s.c=[]++F:=by kernel_rfl)(aJ:(bF is s.c).isSome=true:=by kernel_rfl)
 (N:jx (bI (bd fn) s.p [])=true:=by kernel_rfl)
 (G: ∀u,(lx HB (bq [0]) (fJ fn λ t=>bB u s.e (.tmp t)) 0 s.c []).map (·.1)=some (vb b):=by intros;kernel_rfl)
 (H: ∀u,(lx HB (bq [0]) (fJ fn λ t=>bB u s.e (.tmp t)) 0 s.c []).map (·.2.map (·.1))=(lx HB (bq [0]) (fJ fn λ t=>bB u s.e (.tmp t)) 0 s.c []).map (·.2.map (·.2)):=by intros;kernel_rfl):Z f fn (SR gI F ca) [] aa s:=ez 0 (vb b) [] is hl k hf hp aJ N G H
theorem H7{gI:au}{F:List Chunk}{ca:Value->List Chunk->au->Prop}(M':List Chunk)(is:List Nat)(k:ca (.tuple #[]) M' aa)(hl:au.le gI aa:=by repeat(first|exact au.le.refl _|assumption|refine au.le.trans (by assumption) ?_))(hf:HB.funcs[f]?=some fn:=by kernel_rfl)(hp:vR is s.c=M'++F:=by kernel_rfl)(aJ:(bF is s.c).isSome=true:=by kernel_rfl)
 (N:jx (bI (bd fn) s.p [])=true:=by kernel_rfl)
 (G: ∀u,(lx HB (bq [0]) (fJ fn λ t=>bB u s.e (.tmp t)) 0 s.c []).map (·.1)=some (.tuple #[]):=by intros;kernel_rfl)
 (H: ∀u,(lx HB (bq [0]) (fJ fn λ t=>bB u s.e (.tmp t)) 0 s.c []).map (·.2.map (·.1))=(lx HB (bq [0]) (fJ fn λ t=>bB u s.e (.tmp t)) 0 s.c []).map (·.2.map (·.2)):=by intros;kernel_rfl):Z f fn (SR gI F ca) [] aa s:=ez 0 (.tuple #[]) M' is hl k hf hp aJ N G H
theorem G'{gI:au}{F:List Chunk}{ca:Value->List Chunk->au->Prop}(v:Value)(M':List Chunk)(is:List Nat)(k:ca v M' aa)(hl:au.le gI aa:=by repeat(first|exact au.le.refl _|assumption|refine au.le.trans (by assumption) ?_))(hf:HB.funcs[f]?=some fn:=by kernel_rfl)(hp:vR is s.c=M'++F:=by kernel_rfl)(aJ:(bF is s.c).isSome=true:=by kernel_rfl)
 (N:jx (bI (bd fn) s.p [])=true:=by kernel_rfl)
 (G: ∀u,(lx HB (bq [0]) (fJ fn λ t=>bB u s.e (.tmp t)) 0 s.c []).map (·.1)=some v:=by intros;kernel_rfl)
 (H: ∀u,(lx HB (bq [0]) (fJ fn λ t=>bB u s.e (.tmp t)) 0 s.c []).map (·.2.map (·.1))=(lx HB (bq [0]) (fJ fn λ t=>bB u s.e (.tmp t)) 0 s.c []).map (·.2.map (·.2)):=by intros;kernel_rfl):Z f fn (SR gI F ca) [] aa s:=ez 0 v M' is hl k hf hp aJ N G H
end
theorem xF{P:Prop}: ∃r:Bool,vb false=vb r/\([]:List Chunk)=[]/\(r=true->P):=⟨false,rfl,rfl,λ h=>by cases h⟩
theorem H8(s:ByteArray):ay s s=true:=by simp[ay]
theorem I'(s:ByteArray):(!(ay s s))=false:=by simp[ay]
theorem H9(n:Int):(n !=n)=false:=by simp
abbrev ao:=ByteArray
mutual
inductive bo where
 |mk (kind:Nat) (raw:ao) (kids:Kids)
inductive Kids where
 |nil
 |cons (name:ao) (v:bo) (r:Kids)
end
def bo.kind:bo->Nat| .mk k _ _=>k
def bo.raw:bo->ao| .mk _ r _=>r
def bo.kids:bo->Kids| .mk _ _ a=>a
def Kids.list:Kids->List (ao×bo)
 | .nil=>[]
 | .cons n v r=>(n,v)::r.list
def Kids.of:List (ao×bo)->Kids
 |[]=>.nil
 |(n,v)::r=>.cons n v (Kids.of r)
theorem Kids.qg: ∀a:Kids,Kids.of a.list=a
 | .nil=>rfl
 | .cons n v r=>by simp[Kids.list,Kids.of,Kids.qg r]
theorem Kids.pS : ∀ l : List (ao × bo), (Kids.of l).list = l
  | [] => rfl
  | (n, v) :: r => by simp [Kids.list, Kids.of, Kids.pS r]
mutual
def bo.wt:bo->Nat
 | .mk _ r a=>1+r.size+a.wt
def Kids.wt:Kids->Nat
 | .nil=>0
 | .cons n v r=>1+n.size+v.wt+r.wt
end
inductive eg where
 |named (n:ao) (nn:Bool)
 |list (t:eg) (nn:Bool)
def eg.wt:eg->Nat
 | .named n _=>1+n.size
 | .list t _=>1+t.wt
structure bT where
 name:ao
 v:bo
structure cB where
 name:ao
 args:List bT
structure aq where
 doc:ao
 name:ao
 t:eg
 bV:Option bo
 ah:List cB
structure cK where
 doc:ao
 name:ao
 args:List aq
 bV:Option bo
 t:eg
 ah:List cB
structure a_ where
 doc:ao
 name:ao
 ah:List cB
structure Def where
 kind:ao
 doc:ao
 name:ao
 ah:List cB
 ifaces:List ao
 fields:List cK
 types:List ao
 enums:List a_
structure aL where
 doc:ao
 name:ao
 args:List aq
 ba:List ao
 rep:Bool
structure cQ where
 op:ao
 t:ao
structure ae where
 doc:ao
 ah:List cB
 roots:List cQ
structure aH where
 defs:List ae
 exts:List ae
 ah:List aL
 types:List Def
 ai:List Def
def aZ{α:Type}(f:α->Nat):List α->Nat
 |[]=>0
 |x::r=>1+f x+aZ f r
theorem ax{α}f: ∀l:List α,l.length<=aZ f l
 |[]=>HZ _
 |x::r=>by have:=ax f r;simp[aZ];omega
theorem aU{α}f: ∀{l}{x:α},x∈l->f x+1<=aZ f l
 |y::r,x,h=>by
  rcases G6.1 h with rfl|h
  simp[aZ];omega;have:=aU f h;simp[aZ];omega
def bT.wt(a:bT):Nat:=1+a.name.size+a.v.wt
def cB.wt(d:cB):Nat:=1+d.name.size+aZ bT.wt d.args
def gN:Option bo->Nat|none=>0|some v=>1+v.wt
def aq.wt(a:aq):Nat:=1+a.doc.size+a.name.size+a.t.wt+gN a.bV+aZ cB.wt a.ah
def cK.wt(a:cK):Nat:=1+a.doc.size+a.name.size+aZ aq.wt a.args+a.t.wt+gN a.bV+aZ cB.wt a.ah
def a_.wt(a:a_):Nat:=1+a.doc.size+a.name.size+aZ cB.wt a.ah
def Def.wt(d:Def):Nat:=1+d.kind.size+d.doc.size+d.name.size+aZ cB.wt d.ah+aZ H0 d.ifaces+aZ cK.wt d.fields+aZ H0 d.types+aZ a_.wt d.enums
def aL.wt(d:aL):Nat:=1+d.doc.size+d.name.size+aZ aq.wt d.args+aZ H0 d.ba
def cQ.wt(r:cQ):Nat:=1+r.op.size+r.t.size
def ae.wt(d:ae):Nat:=1+d.doc.size+aZ cB.wt d.ah+aZ cQ.wt d.roots
def aH.wt(s:aH):Nat:=aZ ae.wt s.defs+aZ ae.wt s.exts+aZ aL.wt s.ah+aZ Def.wt s.types+aZ Def.wt s.ai
def tS(s:ao):Dt:=.val (vs s)
def tI(n:Int):Dt:=.val (vi n)
def tB(b:Bool):Dt:=.val (vb b)
mutual
def eI:bo->Dt
 | .mk k r a=>.st [tI k,tS r,.sl (ic a)]
def ic:Kids->List Dt
 | .nil=>[]
 | .cons n v r=>.st [tS n,eI v]::ic r
end
theorem e7: ∀a:Kids,ic a=a.list.map λ p=>.st [tS p.1,eI p.2]
 | .nil=>rfl
 | .cons n v r=>by simp[ic,Kids.list,e7 r]
def fU:eg->Dt
 | .named n nn=>.st [tS n,.sl [],tB nn]
 | .list t nn=>.st [tS ⟨#[]⟩,.sl [fU t],tB nn]
def fH(a:bT):Dt:=.st [tS a.name,eI a.v]
def ju(d:cB):Dt:=.st [tS d.name,.sl (d.args.map fH)]
def vU(o:Option bo):Dt:=.sl (o.toList.map eI)
def fT(l:List cB):Dt:=.sl (l.map ju)
def cx(a:aq):Dt:=.st [tS a.doc,tS a.name,fU a.t,vU a.bV,fT a.ah]
def i_(a:cK):Dt:=.st [tS a.doc,tS a.name,.sl (a.args.map cx),vU a.bV,fU a.t,fT a.ah]
def e2(a:a_):Dt:=.st [tS a.doc,tS a.name,fT a.ah]
def cW(l:List ao):Dt:=.sl (l.map tS)
def d_(d:Def):Dt:=.st [tS d.kind,tS d.doc,tS d.name,fT d.ah,cW d.ifaces,.sl (d.fields.map i_),cW d.types,.sl (d.enums.map e2)]
def cn(d:aL):Dt:=.st [tS d.doc,tS d.name,.sl (d.args.map cx),cW d.ba,tB d.rep]
def iZ(r:cQ):Dt:=.st [tS r.op,tS r.t]
def aD(d:ae):Dt:=.st [tS d.doc,fT d.ah,.sl (d.roots.map iZ)]
def iL(s:aH):Dt:=.st [.sl (s.defs.map aD),.sl (s.exts.map aD),.sl (s.ah.map cn),.sl (s.types.map d_),.sl (s.ai.map d_)]
def yj:Dt->Dt
 | .any=>.any
 |_=>.sl []
section
variable(po co:Dt)
mutual
def dV:bo->Dt
 | .mk k r a=>.st [tS r,.sl (iV a),tI k,.any,.any,.any,.any,.any,.any]
def iV:Kids->List Dt
 | .nil=>[]
 | .cons n v r=>.ptr (.st [tS n,.ptr (dV v),.any,.any])::iV r
end
theorem fr: ∀a:Kids,iV a=a.list.map λ p=>.ptr (.st [tS p.1,.ptr (dV p.2),.any,.any])
 | .nil=>rfl
 | .cons n v r=>by simp[iV,Kids.list,fr r]
def h_:eg->Dt
 | .named n nn=>.st [tS n,.nil,tB nn,.any]
 | .list t nn=>.st [tS ⟨#[]⟩,.ptr (h_ t),tB nn,.any]
def eP(a:bT):Dt:=.ptr (.st [tS a.name,.ptr (dV a.v),.any,.any])
def xN(l:List bT):Dt:=.sl (l.map eP)
def ig(d:cB):Dt:=.ptr (.st [tS d.name,xN d.args,.any,.any,.any,.any])
def gR(l:List cB):Dt:=.sl (l.map ig)
def x_:Option bo->Dt
 |none=>.nil
 |some v=>.ptr (dV v)
def cv(a:aq):Dt:=.ptr (.st [tS a.doc,tS a.name,x_ a.bV,.ptr (h_ a.t),gR a.ah,.any,.any,.any])
def ik(l:List aq):Dt:=.sl (l.map cv)
def fO(a:cK):Dt:=.ptr (.st [tS a.doc,tS a.name,ik a.args,x_ a.bV,.ptr (h_ a.t),gR a.ah,po,.any,.any])
def dG(a:a_):Dt:=.ptr (.st [tS a.doc,tS a.name,gR a.ah,.any,.any,.any])
def ih(d:Def):Dt:=.ptr (.st [tS d.kind,tS d.doc,tS d.name,gR d.ah,cW d.ifaces,.sl (d.fields.map (fO po)),cW d.types,.sl (d.enums.map dG),.any,.any,tB false,.any,.any,.any])
def og(l:List Def):Dt:=.sl (l.map (ih po))
def dP(d:aL):Dt:=.ptr (.st [tS d.doc,tS d.name,ik d.args,yj po,cW d.ba,tB d.rep,po,.any,.any])
def fe(r:cQ):Dt:=.ptr (.st [tS r.op,tS r.t,.any,.any])
def bm(d:ae):Dt:=.ptr (.st [tS d.doc,gR d.ah,.sl (d.roots.map fe),.any,co,co,co])
def gF(l:List ae):Dt:=.sl (l.map (bm co))
def gZ(e:Dt)(s:aH):Dt:=.st [gF co s.defs,gF co s.exts,.sl (s.ah.map (dP po)),e,og po s.types,og po s.ai,.any,.any]
end
theorem ad.aR{aa}{ds}{cs}(h:ad aa (.sl ds) cs): ∃A n c,cs=[vl A n c]:=by
 obtain⟨A,c,rfl,_⟩:=h.tb;exact⟨A,_,c,rfl⟩
theorem ad.ew{aa}{d}{cs}(h:ad aa (.ptr d) cs): ∃q,cs=[vp q 0]:=by cases h;exact⟨_,rfl⟩
theorem ad.tE{aa}{o}{cs}(h:ad aa (x_ o) cs): ∃q,cs=[vq q]:=by
 cases o with
 |none=>exact⟨none,ad.jN.1 h⟩
 |some v=>obtain⟨q,rfl⟩:=ad.ew h;exact⟨_,rfl⟩
theorem dv{aa}{v}{cs}(h:ad aa (eI v) cs): ∃A n c,cs=[vi v.kind,vs v.raw,vl A n c]/\ad aa (.sl (ic v.kids)) [vl A n c]:=by
 obtain⟨k,r,a⟩:=v;simp only[eI,ad.bw,ad.bx]at h;obtain⟨a1,b1,aw,G,a2,b2,az,H,a3,b3,e3,S,hz⟩:=h;obtain rfl:=ad.aB.1 G;obtain rfl:=ad.aB.1 H;obtain⟨A,n,c,rfl⟩:=ad.aR S;subst hz e3 az aw;exact⟨A,n,c,rfl,S⟩
theorem pN{aa}{v}{A}{n c}(g:ad aa (.sl (ic v.kids)) [vl A n c]):ad aa (eI v) [vi v.kind,vs v.raw,vl A n c]:=by
 obtain⟨k,r,a⟩:=v;simp only[eI];exact .bY _ _ _ _ (.val _) (.bY _ _ _ _ (.val _) (.bY _ _ _ _ g .dU))
theorem jI{aa}{v}{cs}(h:ad aa (eI v) cs): ∃A n c,cs=[vi v.kind,vs v.raw,vl A n c]:=by
 obtain⟨A,n,c,h,_⟩:=dv h;exact⟨A,n,c,h⟩
theorem eG{aa}{t}{cs}(h:ad aa (fU t) cs): ∃(s:ao)(A:Option Addr)(n c:Nat)(b:Bool),cs=[vs s,vl A n c,vb b]:=by
 cases t<;>
 .
  simp only[fU,ad.bw,ad.bx]at h
  obtain⟨a1,b1,aw,G,a2,b2,az,H,a3,b3,e3,S,hz⟩:=h
  obtain rfl:=ad.aB.1 G
  obtain rfl:=ad.aB.1 S
  obtain⟨A,n,c,rfl⟩:=ad.aR H
  subst hz e3 az aw
  exact⟨_,A,n,c,_,rfl⟩
theorem mu{aa}{v}{x}(N:ad aa (.ptr (dV v)) [x]): ∃g ar T fz A n c x1 a' x3 x4 x5 x6,x=vp g 0/\aa g=some (.cells ar T fz)/\
 (∀(j:Nat)u,([vs v.raw,vl A n c,vi v.kind,x1,a',x3,x4,x5,x6]:List Value)[j]?=some u->ar[j]?=some u)/\ad aa (.sl (iV v.kids)) [vl A n c]:=by
 obtain⟨g,ar,T,fz,cs,rfl,hg,h,J⟩:=N.dO;obtain⟨k,r,a⟩:=v;simp only[dV,ad.bw,ad.bx]at h;obtain⟨a1,b1,aw,G,a2,b2,az,H,a3,b3,e3,S,a4,b4,aS,Y,a5,b5,o,aI,a6,b6,e6,h6,i,e,I,aU,m,l,e8,h8,a9,b9,e9,h9,hz⟩:=h;obtain rfl:=ad.aB.1 G;obtain⟨A,n,c,rfl⟩:=ad.aR H;obtain rfl:=ad.aB.1 S;obtain⟨x1,rfl,_⟩:=ad.bg.1 Y;obtain⟨a',rfl,_⟩:=ad.bg.1 aI;obtain⟨x3,rfl,_⟩:=ad.bg.1 h6;obtain⟨x4,rfl,_⟩:=ad.bg.1 aU;obtain⟨x5,rfl,_⟩:=ad.bg.1 h8;obtain⟨x6,rfl,_⟩:=ad.bg.1 h9;subst hz e9 e8 I e6 o aS e3 az aw;exact⟨g,ar,T,fz,A,n,c,x1,a',x3,x4,x5,x6,rfl,hg,J,H⟩
theorem y0{aa}{v}{g}{T}{fz}{A}{n c}{x1 a' x3 x4 x5 x6}(hg:aa g=some (.cells ([vs v.raw,vl A n c,vi v.kind,x1,a',x3,x4,x5,x6]:List Value).toArray T fz))
 (h:ad aa (.sl (iV v.kids)) [vl A n c]) (o1:x1.oneCell'=true) (z:a'.oneCell'=true) (I:x3.oneCell'=true) (l:x4.oneCell'=true) (D:x5.oneCell'=true) (P:x6.oneCell'=true):ad aa (.ptr (dV v)) [vp g 0]:=by
 obtain⟨k,r,a⟩:=v;refine .ptr _ g _ T fz _ hg ?_ (λ j u hu=>by simpa using hu);simp only[dV];exact .bY _ _ _ _ (.val _) (.bY _ _ _ _ h (.bY _ _ _ _ (.val _) (.bY _ _ _ _ (.any _ o1) (.bY _ _ _ _ (.any _ z) (.bY _ _ _ _ (.any _ I) (.bY _ _ _ _ (.any _ l) (.bY _ _ _ _ (.any _ D) (.bY _ _ _ _ (.any _ P) .dU))))))))
theorem dK{aa}{a}{cs}(h:ad aa (fH a) cs): ∃E n2 c2,cs=[vs a.name,vi a.v.kind,vs a.v.raw,vl E n2 c2]/\ad aa (eI a.v) [vi a.v.kind,vs a.v.raw,vl E n2 c2]:=by
 unfold fH at h;simp only[ad.bw,ad.bx]at h;obtain⟨a1,b1,aw,G,a2,b2,az,H,hz⟩:=h;obtain rfl:=ad.aB.1 G;obtain⟨E,n2,c2,rfl⟩:=jI H;subst hz az aw;exact⟨E,n2,c2,rfl,H⟩
theorem r2{aa}{a}{E}{n2 c2}(g2:ad aa (eI a.v) [vi a.v.kind,vs a.v.raw,vl E n2 c2]):ad aa (fH a) [vs a.name,vi a.v.kind,vs a.v.raw,vl E n2 c2]:=(.bY _ _ _ _ (.val _) (.bY _ _ _ _ g2 .dU))
theorem eB{aa}{d}{cs}(h:ad aa (ju d) cs): ∃E n2 c2,cs=[vs d.name,vl E n2 c2]/\ad aa (.sl (d.args.map fH)) [vl E n2 c2]:=by
 unfold ju at h;simp only[ad.bw,ad.bx]at h;obtain⟨a1,b1,aw,G,a2,b2,az,H,hz⟩:=h;obtain rfl:=ad.aB.1 G;obtain⟨E,n2,c2,rfl⟩:=ad.aR H;subst hz az aw;exact⟨E,n2,c2,rfl,H⟩
theorem uO{aa}{d}{E}{n2 c2}(g2:ad aa (.sl (d.args.map fH)) [vl E n2 c2]):ad aa (ju d) [vs d.name,vl E n2 c2]:=(.bY _ _ _ _ (.val _) (.bY _ _ _ _ g2 .dU))
theorem cH{aa}{a}{cs}(h:ad aa (cx a) cs): ∃(s3:ao)(Q:Option Addr)(n3 c3:Nat)(b3:Bool)(A4:Option Addr)(n4 c4:Nat)(al:Option Addr)(n5 c5:Nat),cs=[vs a.doc,vs a.name,vs s3,vl Q n3 c3,vb b3,vl A4 n4 c4,vl al n5 c5]/\ad aa (fU a.t) [vs s3,vl Q n3 c3,vb b3]/\ad aa (vU a.bV) [vl A4 n4 c4]/\ad aa (fT a.ah) [vl al n5 c5]:=by
 unfold cx at h;simp only[ad.bw,ad.bx]at h;obtain⟨a1,b1,aw,G,a2,b2,az,H,a3,b3,e3,S,a4,b4,aS,Y,a5,b5,o,aI,hz⟩:=h;obtain rfl:=ad.aB.1 G;obtain rfl:=ad.aB.1 H;obtain⟨s3,Q,n3,c3,b3,rfl⟩:=eG S;obtain⟨A4,n4,c4,rfl⟩:=ad.aR Y;obtain⟨al,n5,c5,rfl⟩:=ad.aR aI;subst hz o aS e3 az aw;exact⟨s3,Q,n3,c3,b3,A4,n4,c4,al,n5,c5,rfl,S,Y,aI⟩
theorem nB{aa}{a}{s3:ao}{Q}{n3 c3}{b3}{A4}{n4 c4}{al}{n5 c5}(g3:ad aa (fU a.t) [vs s3,vl Q n3 c3,vb b3])(g4:ad aa (vU a.bV) [vl A4 n4 c4])(g5:ad aa (fT a.ah) [vl al n5 c5]):ad aa (cx a) [vs a.doc,vs a.name,vs s3,vl Q n3 c3,vb b3,vl A4 n4 c4,vl al n5 c5]:=(.bY _ _ _ _ (.val _) (.bY _ _ _ _ (.val _) (.bY _ _ _ _ g3 (.bY _ _ _ _ g4 (.bY _ _ _ _ g5 .dU)))))
theorem dT{aa}{a}{cs}(h:ad aa (i_ a) cs): ∃(Q:Option Addr)(n3 c3:Nat)(A4:Option Addr)(n4 c4:Nat)(s5:ao)(al:Option Addr)(n5 c5:Nat)(b5:Bool)(a8:Option Addr)(n6 c6:Nat),cs=[vs a.doc,vs a.name,vl Q n3 c3,vl A4 n4 c4,vs s5,vl al n5 c5,vb b5,vl a8 n6 c6]/\ad aa (.sl (a.args.map cx)) [vl Q n3 c3]/\ad aa (vU a.bV) [vl A4 n4 c4]/\ad aa (fU a.t) [vs s5,vl al n5 c5,vb b5]/\ad aa (fT a.ah) [vl a8 n6 c6]:=by
 unfold i_ at h;simp only[ad.bw,ad.bx]at h;obtain⟨a1,b1,aw,G,a2,b2,az,H,a3,b3,e3,S,a4,b4,aS,Y,a5,b5,o,aI,a6,b6,e6,h6,hz⟩:=h;obtain rfl:=ad.aB.1 G;obtain rfl:=ad.aB.1 H;obtain⟨Q,n3,c3,rfl⟩:=ad.aR S;obtain⟨A4,n4,c4,rfl⟩:=ad.aR Y;obtain⟨s5,al,n5,c5,b5,rfl⟩:=eG aI;obtain⟨a8,n6,c6,rfl⟩:=ad.aR h6;subst hz e6 o aS e3 az aw;exact⟨Q,n3,c3,A4,n4,c4,s5,al,n5,c5,b5,a8,n6,c6,rfl,S,Y,aI,h6⟩
theorem uu{aa}{a}{Q}{n3 c3}{A4}{n4 c4}{s5:ao}{al}{n5 c5}{b5}{a8}{n6 c6}(g3:ad aa (.sl (a.args.map cx)) [vl Q n3 c3])(g4:ad aa (vU a.bV) [vl A4 n4 c4])(g5:ad aa (fU a.t) [vs s5,vl al n5 c5,vb b5])(g6:ad aa (fT a.ah) [vl a8 n6 c6]):ad aa (i_ a) [vs a.doc,vs a.name,vl Q n3 c3,vl A4 n4 c4,vs s5,vl al n5 c5,vb b5,vl a8 n6 c6]:=(.bY _ _ _ _ (.val _) (.bY _ _ _ _ (.val _) (.bY _ _ _ _ g3 (.bY _ _ _ _ g4 (.bY _ _ _ _ g5 (.bY _ _ _ _ g6 .dU))))))
theorem c'{aa}{a}{cs}(h:ad aa (e2 a) cs): ∃Q n3 c3,cs=[vs a.doc,vs a.name,vl Q n3 c3]/\ad aa (fT a.ah) [vl Q n3 c3]:=by
 unfold e2 at h;simp only[ad.bw,ad.bx]at h;obtain⟨a1,b1,aw,G,a2,b2,az,H,a3,b3,e3,S,hz⟩:=h;obtain rfl:=ad.aB.1 G;obtain rfl:=ad.aB.1 H;obtain⟨Q,n3,c3,rfl⟩:=ad.aR S;subst hz e3 az aw;exact⟨Q,n3,c3,rfl,S⟩
theorem oU{aa}{a}{Q}{n3 c3}(g3:ad aa (fT a.ah) [vl Q n3 c3]):ad aa (e2 a) [vs a.doc,vs a.name,vl Q n3 c3]:=(.bY _ _ _ _ (.val _) (.bY _ _ _ _ (.val _) (.bY _ _ _ _ g3 .dU)))
theorem cX{aa}{d}{cs}(h:ad aa (d_ d) cs): ∃A4 n4 c4 al n5 c5 a8 n6 c6 A7 n7 c7 A8 n8 c8,cs=[vs d.kind,vs d.doc,vs d.name,vl A4 n4 c4,vl al n5 c5,vl a8 n6 c6,vl A7 n7 c7,vl A8 n8 c8]/\ad aa (fT d.ah) [vl A4 n4 c4]/\ad aa (cW d.ifaces) [vl al n5 c5]/\ad aa (.sl (d.fields.map i_)) [vl a8 n6 c6]/\ad aa (cW d.types) [vl A7 n7 c7]/\ad aa (.sl (d.enums.map e2)) [vl A8 n8 c8]:=by
 unfold d_ at h;simp only[ad.bw,ad.bx]at h;obtain⟨a1,b1,aw,G,a2,b2,az,H,a3,b3,e3,S,a4,b4,aS,Y,a5,b5,o,aI,a6,b6,e6,h6,i,e,I,aU,m,l,e8,h8,hz⟩:=h;obtain rfl:=ad.aB.1 G;obtain rfl:=ad.aB.1 H;obtain rfl:=ad.aB.1 S;obtain⟨A4,n4,c4,rfl⟩:=ad.aR Y;obtain⟨al,n5,c5,rfl⟩:=ad.aR aI;obtain⟨a8,n6,c6,rfl⟩:=ad.aR h6;obtain⟨A7,n7,c7,rfl⟩:=ad.aR aU;obtain⟨A8,n8,c8,rfl⟩:=ad.aR h8;subst hz e8 I e6 o aS e3 az aw;exact⟨A4,n4,c4,al,n5,c5,a8,n6,c6,A7,n7,c7,A8,n8,c8,rfl,Y,aI,h6,aU,h8⟩
theorem tR{aa}{d}{A4}{n4 c4}{al}{n5 c5}{a8}{n6 c6}{A7}{n7 c7}{A8}{n8 c8}(g4:ad aa (fT d.ah) [vl A4 n4 c4])(g5:ad aa (cW d.ifaces) [vl al n5 c5])(g6:ad aa (.sl (d.fields.map i_)) [vl a8 n6 c6])(g7:ad aa (cW d.types) [vl A7 n7 c7])(g8:ad aa (.sl (d.enums.map e2)) [vl A8 n8 c8]):ad aa (d_ d) [vs d.kind,vs d.doc,vs d.name,vl A4 n4 c4,vl al n5 c5,vl a8 n6 c6,vl A7 n7 c7,vl A8 n8 c8]:=(.bY _ _ _ _ (.val _) (.bY _ _ _ _ (.val _) (.bY _ _ _ _ (.val _) (.bY _ _ _ _ g4 (.bY _ _ _ _ g5 (.bY _ _ _ _ g6 (.bY _ _ _ _ g7 (.bY _ _ _ _ g8 .dU))))))))
theorem b'{aa}{d}{cs}(h:ad aa (cn d) cs): ∃Q n3 c3 A4 n4 c4,cs=[vs d.doc,vs d.name,vl Q n3 c3,vl A4 n4 c4,vb d.rep]/\ad aa (.sl (d.args.map cx)) [vl Q n3 c3]/\ad aa (cW d.ba) [vl A4 n4 c4]:=by
 unfold cn at h;simp only[ad.bw,ad.bx]at h;obtain⟨a1,b1,aw,G,a2,b2,az,H,a3,b3,e3,S,a4,b4,aS,Y,a5,b5,o,aI,hz⟩:=h;obtain rfl:=ad.aB.1 G;obtain rfl:=ad.aB.1 H;obtain⟨Q,n3,c3,rfl⟩:=ad.aR S;obtain⟨A4,n4,c4,rfl⟩:=ad.aR Y;obtain rfl:=ad.aB.1 aI;subst hz o aS e3 az aw;exact⟨Q,n3,c3,A4,n4,c4,rfl,S,Y⟩
theorem mU{aa}{d}{Q}{n3 c3}{A4}{n4 c4}(g3:ad aa (.sl (d.args.map cx)) [vl Q n3 c3])(g4:ad aa (cW d.ba) [vl A4 n4 c4]):ad aa (cn d) [vs d.doc,vs d.name,vl Q n3 c3,vl A4 n4 c4,vb d.rep]:=(.bY _ _ _ _ (.val _) (.bY _ _ _ _ (.val _) (.bY _ _ _ _ g3 (.bY _ _ _ _ g4 (.bY _ _ _ _ (.val _) .dU)))))
theorem eH{aa}{r}{cs}(h:ad aa (iZ r) cs):cs=[vs r.op,vs r.t]:=by
 unfold iZ at h;simp only[ad.bw,ad.bx]at h;obtain⟨a1,b1,aw,G,a2,b2,az,H,hz⟩:=h;obtain rfl:=ad.aB.1 G;obtain rfl:=ad.aB.1 H;subst hz az aw;exact rfl
theorem bn{aa}{d}{cs}(h:ad aa (aD d) cs): ∃E n2 c2 Q n3 c3,cs=[vs d.doc,vl E n2 c2,vl Q n3 c3]/\ad aa (fT d.ah) [vl E n2 c2]/\ad aa (.sl (d.roots.map iZ)) [vl Q n3 c3]:=by
 unfold aD at h;simp only[ad.bw,ad.bx]at h;obtain⟨a1,b1,aw,G,a2,b2,az,H,a3,b3,e3,S,hz⟩:=h;obtain rfl:=ad.aB.1 G;obtain⟨E,n2,c2,rfl⟩:=ad.aR H;obtain⟨Q,n3,c3,rfl⟩:=ad.aR S;subst hz e3 az aw;exact⟨E,n2,c2,Q,n3,c3,rfl,H,S⟩
theorem j8{aa}{d}{E}{n2 c2}{Q}{n3 c3}(g2:ad aa (fT d.ah) [vl E n2 c2])(g3:ad aa (.sl (d.roots.map iZ)) [vl Q n3 c3]):ad aa (aD d) [vs d.doc,vl E n2 c2,vl Q n3 c3]:=(.bY _ _ _ _ (.val _) (.bY _ _ _ _ g2 (.bY _ _ _ _ g3 .dU)))
theorem gH{aa}{s}{cs}(h:ad aa (iL s) cs): ∃A1 n1 D E n2 c2 Q n3 c3 A4 n4 c4 al n5 c5,cs=[vl A1 n1 D,vl E n2 c2,vl Q n3 c3,vl A4 n4 c4,vl al n5 c5]/\ad aa (.sl (s.defs.map aD)) [vl A1 n1 D]/\ad aa (.sl (s.exts.map aD)) [vl E n2 c2]/\ad aa (.sl (s.ah.map cn)) [vl Q n3 c3]/\ad aa (.sl (s.types.map d_)) [vl A4 n4 c4]/\ad aa (.sl (s.ai.map d_)) [vl al n5 c5]:=by
 unfold iL at h;simp only[ad.bw,ad.bx]at h;obtain⟨a1,b1,aw,G,a2,b2,az,H,a3,b3,e3,S,a4,b4,aS,Y,a5,b5,o,aI,hz⟩:=h;obtain⟨A1,n1,D,rfl⟩:=ad.aR G;obtain⟨E,n2,c2,rfl⟩:=ad.aR H;obtain⟨Q,n3,c3,rfl⟩:=ad.aR S;obtain⟨A4,n4,c4,rfl⟩:=ad.aR Y;obtain⟨al,n5,c5,rfl⟩:=ad.aR aI;subst hz o aS e3 az aw;exact⟨A1,n1,D,E,n2,c2,Q,n3,c3,A4,n4,c4,al,n5,c5,rfl,G,H,S,Y,aI⟩
theorem mR{aa}{s}{A1}{n1 D}{E}{n2 c2}{Q}{n3 c3}{A4}{n4 c4}{al}{n5 c5}(g1:ad aa (.sl (s.defs.map aD)) [vl A1 n1 D])(g2:ad aa (.sl (s.exts.map aD)) [vl E n2 c2])(g3:ad aa (.sl (s.ah.map cn)) [vl Q n3 c3])(g4:ad aa (.sl (s.types.map d_)) [vl A4 n4 c4])(g5:ad aa (.sl (s.ai.map d_)) [vl al n5 c5]):ad aa (iL s) [vl A1 n1 D,vl E n2 c2,vl Q n3 c3,vl A4 n4 c4,vl al n5 c5]:=(.bY _ _ _ _ g1 (.bY _ _ _ _ g2 (.bY _ _ _ _ g3 (.bY _ _ _ _ g4 (.bY _ _ _ _ g5 .dU)))))
theorem oL{aa}{a}{v}(N:ad aa (eP a) [v]): ∃g ar T fz,∃q2 x3 x4,v=vp g 0/\aa g=some (.cells ar T fz)/\(∀(j:Nat)u,([vs a.name,vp q2 0,x3,x4]:List Value)[j]?=some u->ar[j]?=some u)/\ad aa (.ptr (dV a.v)) [vp q2 0]/\x3.oneCell'=true/\x4.oneCell'=true:=by
 obtain⟨g,ar,T,fz,cs,rfl,hg,h,J⟩:=N.dO;simp only[ad.bw,ad.bx]at h;obtain⟨a1,b1,aw,G,a2,b2,az,H,a3,b3,e3,S,a4,b4,aS,Y,hz⟩:=h;obtain rfl:=ad.aB.1 G;obtain⟨q2,rfl⟩:=ad.ew H;obtain⟨x3,rfl,I⟩:=ad.bg.1 S;obtain⟨x4,rfl,l⟩:=ad.bg.1 Y;subst hz aS e3 az aw;exact⟨g,ar,T,fz,q2,x3,x4,rfl,hg,J,H,I,l⟩
theorem xJ{aa}{a}{g}{T}{fz}{q2}{x3}{x4}(hg:aa g=some (.cells ([vs a.name,vp q2 0,x3,x4]:List Value).toArray T fz))(g2:ad aa (.ptr (dV a.v)) [vp q2 0])(I:x3.oneCell'=true)(l:x4.oneCell'=true):ad aa (eP a) [vp g 0]:=
 .ptr _ g _ T fz _ hg (.bY _ _ _ _ (.val _) (.bY _ _ _ _ g2 (.bY _ _ _ _ (.any _ I) (.bY _ _ _ _ (.any _ l) .dU)))) (λ j u hu=>by simpa using hu)
theorem qY{aa}{d}{v}(N:ad aa (ig d) [v]): ∃g ar T fz,∃E n2 c2 x3 x4 x5 x6,v=vp g 0/\aa g=some (.cells ar T fz)/\(∀(j:Nat)u,([vs d.name,vl E n2 c2,x3,x4,x5,x6]:List Value)[j]?=some u->ar[j]?=some u)/\ad aa (xN d.args) [vl E n2 c2]/\x3.oneCell'=true/\x4.oneCell'=true/\x5.oneCell'=true/\x6.oneCell'=true:=by
 obtain⟨g,ar,T,fz,cs,rfl,hg,h,J⟩:=N.dO;simp only[ad.bw,ad.bx]at h;obtain⟨a1,b1,aw,G,a2,b2,az,H,a3,b3,e3,S,a4,b4,aS,Y,a5,b5,o,aI,a6,b6,e6,h6,hz⟩:=h;obtain rfl:=ad.aB.1 G;obtain⟨E,n2,c2,rfl⟩:=ad.aR H;obtain⟨x3,rfl,I⟩:=ad.bg.1 S;obtain⟨x4,rfl,l⟩:=ad.bg.1 Y;obtain⟨x5,rfl,D⟩:=ad.bg.1 aI;obtain⟨x6,rfl,P⟩:=ad.bg.1 h6;subst hz e6 o aS e3 az aw;exact⟨g,ar,T,fz,E,n2,c2,x3,x4,x5,x6,rfl,hg,J,H,I,l,D,P⟩
theorem y9{aa}{d}{g}{T}{fz}{E}{n2 c2}{x3}{x4}{x5}{x6}(hg:aa g=some (.cells ([vs d.name,vl E n2 c2,x3,x4,x5,x6]:List Value).toArray T fz))(g2:ad aa (xN d.args) [vl E n2 c2])(I:x3.oneCell'=true)(l:x4.oneCell'=true)(D:x5.oneCell'=true)(P:x6.oneCell'=true):ad aa (ig d) [vp g 0]:=
 .ptr _ g _ T fz _ hg (.bY _ _ _ _ (.val _) (.bY _ _ _ _ g2 (.bY _ _ _ _ (.any _ I) (.bY _ _ _ _ (.any _ l) (.bY _ _ _ _ (.any _ D) (.bY _ _ _ _ (.any _ P) .dU)))))) (λ j u hu=>by simpa using hu)
theorem jm{aa}{a}{v}(N:ad aa (cv a) [v]): ∃g ar T fz,∃q3 Z al n5 c5 x6 x7 x8,v=vp g 0/\aa g=some (.cells ar T fz)/\(∀(j:Nat)u,([vs a.doc,vs a.name,vq q3,vp Z 0,vl al n5 c5,x6,x7,x8]:List Value)[j]?=some u->ar[j]?=some u)/\ad aa (x_ a.bV) [vq q3]/\ad aa (.ptr (h_ a.t)) [vp Z 0]/\ad aa (gR a.ah) [vl al n5 c5]/\x6.oneCell'=true/\x7.oneCell'=true/\x8.oneCell'=true:=by
 obtain⟨g,ar,T,fz,cs,rfl,hg,h,J⟩:=N.dO;simp only[ad.bw,ad.bx]at h;obtain⟨a1,b1,aw,G,a2,b2,az,H,a3,b3,e3,S,a4,b4,aS,Y,a5,b5,o,aI,a6,b6,e6,h6,i,e,I,aU,m,l,e8,h8,hz⟩:=h;obtain rfl:=ad.aB.1 G;obtain rfl:=ad.aB.1 H;obtain⟨q3,rfl⟩:=ad.tE S;obtain⟨Z,rfl⟩:=ad.ew Y;obtain⟨al,n5,c5,rfl⟩:=ad.aR aI;obtain⟨x6,rfl,P⟩:=ad.bg.1 h6;obtain⟨x7,rfl,n⟩:=ad.bg.1 aU;obtain⟨x8,rfl,k⟩:=ad.bg.1 h8;subst hz e8 I e6 o aS e3 az aw;exact⟨g,ar,T,fz,q3,Z,al,n5,c5,x6,x7,x8,rfl,hg,J,S,Y,aI,P,n,k⟩
theorem sW{aa}{a}{g}{T}{fz}{q3}{Z}{al}{n5 c5}{x6}{x7}{x8}(hg:aa g=some (.cells ([vs a.doc,vs a.name,vq q3,vp Z 0,vl al n5 c5,x6,x7,x8]:List Value).toArray T fz))(g3:ad aa (x_ a.bV) [vq q3])(g4:ad aa (.ptr (h_ a.t)) [vp Z 0])(g5:ad aa (gR a.ah) [vl al n5 c5])(P:x6.oneCell'=true)(n:x7.oneCell'=true)(k:x8.oneCell'=true):ad aa (cv a) [vp g 0]:=
 .ptr _ g _ T fz _ hg (.bY _ _ _ _ (.val _) (.bY _ _ _ _ (.val _) (.bY _ _ _ _ g3 (.bY _ _ _ _ g4 (.bY _ _ _ _ g5 (.bY _ _ _ _ (.any _ P) (.bY _ _ _ _ (.any _ n) (.bY _ _ _ _ (.any _ k) .dU)))))))) (λ j u hu=>by simpa using hu)
theorem qL{aa}{po}{a}{v}(b: ∀cs,ad aa po cs-> ∃x,cs=[x])(N:ad aa (fO po a) [v]): ∃g ar T fz,∃Q n3 c3 Z q5 a8 n6 c6 x7 x8 x9,v=vp g 0/\aa g=some (.cells ar T fz)/\(∀(j:Nat)u,([vs a.doc,vs a.name,vl Q n3 c3,vq Z,vp q5 0,vl a8 n6 c6,x7,x8,x9]:List Value)[j]?=some u->ar[j]?=some u)/\ad aa (ik a.args) [vl Q n3 c3]/\ad aa (x_ a.bV) [vq Z]/\ad aa (.ptr (h_ a.t)) [vp q5 0]/\ad aa (gR a.ah) [vl a8 n6 c6]/\ad aa po [x7]/\x8.oneCell'=true/\x9.oneCell'=true:=by
 obtain⟨g,ar,T,fz,cs,rfl,hg,h,J⟩:=N.dO;simp only[ad.bw,ad.bx]at h;obtain⟨a1,b1,aw,G,a2,b2,az,H,a3,b3,e3,S,a4,b4,aS,Y,a5,b5,o,aI,a6,b6,e6,h6,i,e,I,aU,m,l,e8,h8,a9,b9,e9,h9,hz⟩:=h;obtain rfl:=ad.aB.1 G;obtain rfl:=ad.aB.1 H;obtain⟨Q,n3,c3,rfl⟩:=ad.aR S;obtain⟨Z,rfl⟩:=ad.tE Y;obtain⟨q5,rfl⟩:=ad.ew aI;obtain⟨a8,n6,c6,rfl⟩:=ad.aR h6;obtain⟨x7,rfl⟩:=b _ aU;obtain⟨x8,rfl,k⟩:=ad.bg.1 h8;obtain⟨x9,rfl,c⟩:=ad.bg.1 h9;subst hz e9 e8 I e6 o aS e3 az aw;exact⟨g,ar,T,fz,Q,n3,c3,Z,q5,a8,n6,c6,x7,x8,x9,rfl,hg,J,S,Y,aI,h6,aU,k,c⟩
theorem zh{aa}{po}{a}{g}{T}{fz}{Q}{n3 c3}{Z}{q5}{a8}{n6 c6}{x7}{x8}{x9}(hg:aa g=some (.cells ([vs a.doc,vs a.name,vl Q n3 c3,vq Z,vp q5 0,vl a8 n6 c6,x7,x8,x9]:List Value).toArray T fz))(g3:ad aa (ik a.args) [vl Q n3 c3])(g4:ad aa (x_ a.bV) [vq Z])(g5:ad aa (.ptr (h_ a.t)) [vp q5 0])(g6:ad aa (gR a.ah) [vl a8 n6 c6])(g7:ad aa po [x7])(k:x8.oneCell'=true)(c:x9.oneCell'=true):ad aa (fO po a) [vp g 0]:=
 .ptr _ g _ T fz _ hg (.bY _ _ _ _ (.val _) (.bY _ _ _ _ (.val _) (.bY _ _ _ _ g3 (.bY _ _ _ _ g4 (.bY _ _ _ _ g5 (.bY _ _ _ _ g6 (.bY _ _ _ _ g7 (.bY _ _ _ _ (.any _ k) (.bY _ _ _ _ (.any _ c) .dU))))))))) (λ j u hu=>by simpa using hu)
theorem mN{aa}{a}{v}(N:ad aa (dG a) [v]): ∃g ar T fz,∃Q n3 c3 x4 x5 x6,v=vp g 0/\aa g=some (.cells ar T fz)/\(∀(j:Nat)u,([vs a.doc,vs a.name,vl Q n3 c3,x4,x5,x6]:List Value)[j]?=some u->ar[j]?=some u)/\ad aa (gR a.ah) [vl Q n3 c3]/\x4.oneCell'=true/\x5.oneCell'=true/\x6.oneCell'=true:=by
 obtain⟨g,ar,T,fz,cs,rfl,hg,h,J⟩:=N.dO;simp only[ad.bw,ad.bx]at h;obtain⟨a1,b1,aw,G,a2,b2,az,H,a3,b3,e3,S,a4,b4,aS,Y,a5,b5,o,aI,a6,b6,e6,h6,hz⟩:=h;obtain rfl:=ad.aB.1 G;obtain rfl:=ad.aB.1 H;obtain⟨Q,n3,c3,rfl⟩:=ad.aR S;obtain⟨x4,rfl,l⟩:=ad.bg.1 Y;obtain⟨x5,rfl,D⟩:=ad.bg.1 aI;obtain⟨x6,rfl,P⟩:=ad.bg.1 h6;subst hz e6 o aS e3 az aw;exact⟨g,ar,T,fz,Q,n3,c3,x4,x5,x6,rfl,hg,J,S,l,D,P⟩
theorem vA{aa}{a}{g}{T}{fz}{Q}{n3 c3}{x4}{x5}{x6}(hg:aa g=some (.cells ([vs a.doc,vs a.name,vl Q n3 c3,x4,x5,x6]:List Value).toArray T fz))(g3:ad aa (gR a.ah) [vl Q n3 c3])(l:x4.oneCell'=true)(D:x5.oneCell'=true)(P:x6.oneCell'=true):ad aa (dG a) [vp g 0]:=
 .ptr _ g _ T fz _ hg (.bY _ _ _ _ (.val _) (.bY _ _ _ _ (.val _) (.bY _ _ _ _ g3 (.bY _ _ _ _ (.any _ l) (.bY _ _ _ _ (.any _ D) (.bY _ _ _ _ (.any _ P) .dU)))))) (λ j u hu=>by simpa using hu)
theorem m'{aa}{po}{d}{v}(N:ad aa (ih po d) [v]): ∃g ar T fz,∃A4 n4 c4 al n5 c5 a8 n6 c6 A7 n7 c7 A8 n8 c8 x9 aL aK aH s,v=vp g 0/\aa g=some (.cells ar T fz)/\(∀(j:Nat)u,([vs d.kind,vs d.doc,vs d.name,vl A4 n4 c4,vl al n5 c5,vl a8 n6 c6,vl A7 n7 c7,vl A8 n8 c8,x9,aL,vb false,aK,aH,s]:List Value)[j]?=some u->ar[j]?=some u)/\ad aa (gR d.ah) [vl A4 n4 c4]/\ad aa (cW d.ifaces) [vl al n5 c5]/\ad aa (.sl (d.fields.map (fO po))) [vl a8 n6 c6]/\ad aa (cW d.types) [vl A7 n7 c7]/\ad aa (.sl (d.enums.map dG)) [vl A8 n8 c8]/\x9.oneCell'=true/\aL.oneCell'=true/\aK.oneCell'=true/\aH.oneCell'=true/\s.oneCell'=true:=by
 obtain⟨g,ar,T,fz,cs,rfl,hg,h,J⟩:=N.dO;simp only[ad.bw,ad.bx]at h;obtain⟨a1,b1,aw,G,a2,b2,az,H,a3,b3,e3,S,a4,b4,aS,Y,a5,b5,o,aI,a6,b6,e6,h6,i,e,I,aU,m,l,e8,h8,a9,b9,e9,h9,p,bI,y,aC,n,bV,af,aO,a12,ba,aN,bs,q,bQ,aj,ai,r,aq,aE,bu,hz⟩:=h;obtain rfl:=ad.aB.1 G;obtain rfl:=ad.aB.1 H;obtain rfl:=ad.aB.1 S;obtain⟨A4,n4,c4,rfl⟩:=ad.aR Y;obtain⟨al,n5,c5,rfl⟩:=ad.aR aI;obtain⟨a8,n6,c6,rfl⟩:=ad.aR h6;obtain⟨A7,n7,c7,rfl⟩:=ad.aR aU;obtain⟨A8,n8,c8,rfl⟩:=ad.aR h8;obtain⟨x9,rfl,c⟩:=ad.bg.1 h9;obtain⟨aL,rfl,b⟩:=ad.bg.1 aC;obtain rfl:=ad.aB.1 aO;obtain⟨aK,rfl,f⟩:=ad.bg.1 bs;obtain⟨aH,rfl,a⟩:=ad.bg.1 ai;obtain⟨s,rfl,k⟩:=ad.bg.1 bu;subst hz aE aj aN af y e9 e8 I e6 o aS e3 az aw;exact⟨g,ar,T,fz,A4,n4,c4,al,n5,c5,a8,n6,c6,A7,n7,c7,A8,n8,c8,x9,aL,aK,aH,s,rfl,hg,J,Y,aI,h6,aU,h8,c,b,f,a,k⟩
theorem y'{aa}{po}{d}{g}{T}{fz}{A4}{n4 c4}{al}{n5 c5}{a8}{n6 c6}{A7}{n7 c7}{A8}{n8 c8}{x9}{aL}{aK}{aH}{s}(hg:aa g=some (.cells ([vs d.kind,vs d.doc,vs d.name,vl A4 n4 c4,vl al n5 c5,vl a8 n6 c6,vl A7 n7 c7,vl A8 n8 c8,x9,aL,vb false,aK,aH,s]:List Value).toArray T fz))(g4:ad aa (gR d.ah) [vl A4 n4 c4])(g5:ad aa (cW d.ifaces) [vl al n5 c5])(g6:ad aa (.sl (d.fields.map (fO po))) [vl a8 n6 c6])(g7:ad aa (cW d.types) [vl A7 n7 c7])(g8:ad aa (.sl (d.enums.map dG)) [vl A8 n8 c8])(c:x9.oneCell'=true)(b:aL.oneCell'=true)(f:aK.oneCell'=true)(a:aH.oneCell'=true)(k:s.oneCell'=true):ad aa (ih po d) [vp g 0]:=
 .ptr _ g _ T fz _ hg (.bY _ _ _ _ (.val _) (.bY _ _ _ _ (.val _) (.bY _ _ _ _ (.val _) (.bY _ _ _ _ g4 (.bY _ _ _ _ g5 (.bY _ _ _ _ g6 (.bY _ _ _ _ g7 (.bY _ _ _ _ g8 (.bY _ _ _ _ (.any _ c) (.bY _ _ _ _ (.any _ b) (.bY _ _ _ _ (.val _) (.bY _ _ _ _ (.any _ f) (.bY _ _ _ _ (.any _ a) (.bY _ _ _ _ (.any _ k) .dU)))))))))))))) (λ j u hu=>by simpa using hu)
theorem lR{aa}{po}{d}{v}(a: ∀cs,ad aa (yj po) cs-> ∃x,cs=[x])(b: ∀cs,ad aa po cs-> ∃x,cs=[x])(N:ad aa (dP po d) [v]): ∃g ar T fz,∃Q n3 c3 x4 al n5 c5 x7 x8 x9,v=vp g 0/\aa g=some (.cells ar T fz)/\(∀(j:Nat)u,([vs d.doc,vs d.name,vl Q n3 c3,x4,vl al n5 c5,vb d.rep,x7,x8,x9]:List Value)[j]?=some u->ar[j]?=some u)/\ad aa (ik d.args) [vl Q n3 c3]/\ad aa (yj po) [x4]/\ad aa (cW d.ba) [vl al n5 c5]/\ad aa po [x7]/\x8.oneCell'=true/\x9.oneCell'=true:=by
 obtain⟨g,ar,T,fz,cs,rfl,hg,h,J⟩:=N.dO;simp only[ad.bw,ad.bx]at h;obtain⟨a1,b1,aw,G,a2,b2,az,H,a3,b3,e3,S,a4,b4,aS,Y,a5,b5,o,aI,a6,b6,e6,h6,i,e,I,aU,m,l,e8,h8,a9,b9,e9,h9,hz⟩:=h;obtain rfl:=ad.aB.1 G;obtain rfl:=ad.aB.1 H;obtain⟨Q,n3,c3,rfl⟩:=ad.aR S;obtain⟨x4,rfl⟩:=a _ Y;obtain⟨al,n5,c5,rfl⟩:=ad.aR aI;obtain rfl:=ad.aB.1 h6;obtain⟨x7,rfl⟩:=b _ aU;obtain⟨x8,rfl,k⟩:=ad.bg.1 h8;obtain⟨x9,rfl,c⟩:=ad.bg.1 h9;subst hz e9 e8 I e6 o aS e3 az aw;exact⟨g,ar,T,fz,Q,n3,c3,x4,al,n5,c5,x7,x8,x9,rfl,hg,J,S,Y,aI,aU,k,c⟩
theorem sI{aa}{po}{d}{g}{T}{fz}{Q}{n3 c3}{x4}{al}{n5 c5}{x7}{x8}{x9}(hg:aa g=some (.cells ([vs d.doc,vs d.name,vl Q n3 c3,x4,vl al n5 c5,vb d.rep,x7,x8,x9]:List Value).toArray T fz))(g3:ad aa (ik d.args) [vl Q n3 c3])(g4:ad aa (yj po) [x4])(g5:ad aa (cW d.ba) [vl al n5 c5])(g7:ad aa po [x7])(k:x8.oneCell'=true)(c:x9.oneCell'=true):ad aa (dP po d) [vp g 0]:=
 .ptr _ g _ T fz _ hg (.bY _ _ _ _ (.val _) (.bY _ _ _ _ (.val _) (.bY _ _ _ _ g3 (.bY _ _ _ _ g4 (.bY _ _ _ _ g5 (.bY _ _ _ _ (.val _) (.bY _ _ _ _ g7 (.bY _ _ _ _ (.any _ k) (.bY _ _ _ _ (.any _ c) .dU))))))))) (λ j u hu=>by simpa using hu)
theorem ou{aa}{r}{v}(N:ad aa (fe r) [v]): ∃g ar T fz,∃x3 x4,v=vp g 0/\aa g=some (.cells ar T fz)/\(∀(j:Nat)u,([vs r.op,vs r.t,x3,x4]:List Value)[j]?=some u->ar[j]?=some u)/\x3.oneCell'=true/\x4.oneCell'=true:=by
 obtain⟨g,ar,T,fz,cs,rfl,hg,h,J⟩:=N.dO;simp only[ad.bw,ad.bx]at h;obtain⟨a1,b1,aw,G,a2,b2,az,H,a3,b3,e3,S,a4,b4,aS,Y,hz⟩:=h;obtain rfl:=ad.aB.1 G;obtain rfl:=ad.aB.1 H;obtain⟨x3,rfl,I⟩:=ad.bg.1 S;obtain⟨x4,rfl,l⟩:=ad.bg.1 Y;subst hz aS e3 az aw;exact⟨g,ar,T,fz,x3,x4,rfl,hg,J,I,l⟩
theorem w4{aa}{r}{g}{T}{fz}{x3}{x4}(hg:aa g=some (.cells ([vs r.op,vs r.t,x3,x4]:List Value).toArray T fz))(I:x3.oneCell'=true)(l:x4.oneCell'=true):ad aa (fe r) [vp g 0]:=
 .ptr _ g _ T fz _ hg (.bY _ _ _ _ (.val _) (.bY _ _ _ _ (.val _) (.bY _ _ _ _ (.any _ I) (.bY _ _ _ _ (.any _ l) .dU)))) (λ j u hu=>by simpa using hu)
theorem e4{aa}{co}{d}{v}(c: ∀cs,ad aa co cs-> ∃x,cs=[x])(a: ∀cs,ad aa co cs-> ∃x,cs=[x])(b: ∀cs,ad aa co cs-> ∃x,cs=[x])(N:ad aa (bm co d) [v]): ∃g ar T fz,∃E n2 c2 Q n3 c3 x4 x5 x6 x7,v=vp g 0/\aa g=some (.cells ar T fz)/\(∀(j:Nat)u,([vs d.doc,vl E n2 c2,vl Q n3 c3,x4,x5,x6,x7]:List Value)[j]?=some u->ar[j]?=some u)/\ad aa (gR d.ah) [vl E n2 c2]/\ad aa (.sl (d.roots.map fe)) [vl Q n3 c3]/\x4.oneCell'=true/\ad aa co [x5]/\ad aa co [x6]/\ad aa co [x7]:=by
 obtain⟨g,ar,T,fz,cs,rfl,hg,h,J⟩:=N.dO;simp only[ad.bw,ad.bx]at h;obtain⟨a1,b1,aw,G,a2,b2,az,H,a3,b3,e3,S,a4,b4,aS,Y,a5,b5,o,aI,a6,b6,e6,h6,i,e,I,aU,hz⟩:=h;obtain rfl:=ad.aB.1 G;obtain⟨E,n2,c2,rfl⟩:=ad.aR H;obtain⟨Q,n3,c3,rfl⟩:=ad.aR S;obtain⟨x4,rfl,l⟩:=ad.bg.1 Y;obtain⟨x5,rfl⟩:=c _ aI;obtain⟨x6,rfl⟩:=a _ h6;obtain⟨x7,rfl⟩:=b _ aU;subst hz I e6 o aS e3 az aw;exact⟨g,ar,T,fz,E,n2,c2,Q,n3,c3,x4,x5,x6,x7,rfl,hg,J,H,S,l,aI,h6,aU⟩
theorem n1{aa}{co}{d}{g}{T}{fz}{E}{n2 c2}{Q}{n3 c3}{x4}{x5}{x6}{x7}(hg:aa g=some (.cells ([vs d.doc,vl E n2 c2,vl Q n3 c3,x4,x5,x6,x7]:List Value).toArray T fz))(g2:ad aa (gR d.ah) [vl E n2 c2])(g3:ad aa (.sl (d.roots.map fe)) [vl Q n3 c3])(l:x4.oneCell'=true)(g5:ad aa co [x5])(g6:ad aa co [x6])(g7:ad aa co [x7]):ad aa (bm co d) [vp g 0]:=
 .ptr _ g _ T fz _ hg (.bY _ _ _ _ (.val _) (.bY _ _ _ _ g2 (.bY _ _ _ _ g3 (.bY _ _ _ _ (.any _ l) (.bY _ _ _ _ g5 (.bY _ _ _ _ g6 (.bY _ _ _ _ g7 .dU))))))) (λ j u hu=>by simpa using hu)
structure LS where
 k:Nat
 A:Option Addr
 c:Nat
 aY:List (List Value)
 im:au
structure eQ(aa:au)(ds:List Dt)(sz k:Nat)(aY:List (List Value)):Prop where
 le:k<=ds.length
 len:aY.length=k
 rep: ∀(i:Nat)(d:Dt)(cs:List Value),ds[i]?=some d->aY[i]?=some cs->ad aa d cs
 sz: ∀cs∈aY,cs.length=sz
theorem eQ.nil aa ds sz:eQ aa ds sz 0 []:=⟨Nat.zero_le _,rfl,λ i d cs _ h=>by simp at h,λ cs h=>by cases h⟩
theorem eQ.mono{aa C}{ds}{sz k}{aY}(hl:au.le aa C)(h:eQ aa ds sz k aY):eQ C ds sz k aY:=
 ⟨h.le,h.len,λ i d cs G H=>(h.rep i d cs G H).mono hl,h.sz⟩
theorem eQ.step{aa}{ds}{sz k}{aY}{d}{cs}(h:eQ aa ds sz k aY)(hd:ds[k]?=some d)(V:ad aa d cs)(aJ:cs.length=sz):eQ aa ds sz (k+1) (aY++[cs]):=by
 have U:k<ds.length:=by
  rcases Hh k ds.length with G|G
  exact G;rw[Hp G]at hd;cases hd
 refine⟨U,by simp[h.len],λ i a M G H=>?_,λ c J=>?_⟩;rcases Hh i aY.length with S|S
 rw[List.getElem?_append_left S]at H;exact h.rep i a M G H;rw[List.getElem?_append_right S]at H;have:i=k:=by
  rcases Hh (i-aY.length) 1 with Y|Y
  have:=h.len;omega;rw[Hp (by simpa using Y)]at H;cases H
 subst this;rw[h.len,Nat.sub_self]at H;simp at H;rw[hd]at G;injection G with G
 subst G H;exact V;rcases List.mem_append.1 J with G|G
 exact h.sz c G;simp at G;subst G;exact aJ
theorem eQ.done{aa}{ds}{sz k}{aY}(h:eQ aa ds sz k aY)(U: ¬k<ds.length){E c}{A}
 (hf:wb aa E k c A aY.flatten):ad aa (.sl ds) [.slice A k c]:=by
 have hl:=h.le;have:ds.length=k:=by omega
 exact ad.pC hf this h.len h.rep h.sz
theorem ad.dk{aa}{ds}{A}{n c k}{d}(h:ad aa (.sl ds) [vl A n c])(hd:ds[k]?=some (.ptr d)):
 ∃g q ar T fz,A=sa g 0/\ad aa (.ptr d) [vp q 0]/\aa g=some (.cells ar T fz)/\ ∀j u,([vp q 0]:List Value)[j]?=some u->ar[k*1+j]?=some u:=by
 obtain⟨_,H⟩:=h.at_;obtain⟨g,cs,ar,T,fz,S,Y,aI,h6⟩:=H 1 k _ hd (λ cs V=>by obtain⟨q,rfl⟩:=ad.ew V;rfl);obtain⟨q,rfl⟩:=ad.ew Y;exact⟨g,q,ar,T,fz,S,Y,aI,h6⟩
theorem ad.len{aa}{ds}{A}{n c}(h:ad aa (.sl ds) [vl A n c]):n=ds.length:=h.at_.1
theorem bo.iP(v:bo):1<=v.wt:=by obtain⟨k,r,a⟩:=v;simp[bo.wt];omega
theorem Kids.kl: ∀a:Kids,a.list.length<=a.wt
 | .nil=>HZ _
 | .cons n v r=>by have:=Kids.kl r;simp[Kids.list,Kids.wt];omega
theorem Kids.gA: ∀{a:Kids}{p},p∈a.list->p.2.wt+p.1.size+1<=a.wt
 | .cons n v r,p,h=>by
  simp[Kids.list]at h;rcases h with rfl|h
  simp[Kids.wt];omega;have:=Kids.gA h;simp[Kids.wt];omega
theorem bo.o1(v:bo):v.wt=1+v.raw.size+v.kids.wt:=by obtain⟨k,r,a⟩:=v;rfl
theorem nX:gL 26 53 3 64:=.mk' kr kr kr kr
theorem qN:gL 27 58 5 88:=.mk' kr kr kr kr
theorem nv:gL 28 63 8 168:=.mk' kr kr kr kr
theorem si:gL 50 171 2 40:=.mk' kr kr kr kr
theorem w6:gL 51 141 2 32:=.mk' kr kr kr kr
theorem sZ:gL 55 145 7 128:=.mk' kr kr kr kr
theorem cY:gL 56 9 1 16:=.mk' kr kr kr kr
theorem qC:gL 60 71 8 152:=.mk' kr kr kr kr
theorem sy:gL 61 150 3 56:=.mk' kr kr kr kr
theorem vn:gL 66 220 3 48:=.mk' kr kr kr kr
theorem yE:gL 67 69 3 48:=.mk' kr kr kr kr
theorem rN:gL 79 5 1 1:=.mk' kr kr kr kr
theorem jn:gL 111 191 1 8:=.mk' kr kr kr kr
theorem qP:gL 113 132 1 8:=.mk' kr kr kr kr
theorem iR:gL 115 119 1 8:=.mk' kr kr kr kr
theorem wP:gL 122 249 1 8:=.mk' kr kr kr kr
theorem qJ:gL 124 204 1 8:=.mk' kr kr kr kr
theorem uC:gL 126 210 1 8:=.mk' kr kr kr kr
theorem Ak:gL 127 116 1 8:=.mk' kr kr kr kr
theorem uI:gL 134 213 1 8:=.mk' kr kr kr kr
theorem mG:gL 135 139 1 16:=.mk' kr kr kr kr
theorem ni:gL 169 227 4 64:=.mk' kr kr kr kr
theorem qO:gL 196 200 1 8:=.mk' kr kr kr kr
theorem ei:gL 218 257 4 64:=.mk' kr kr kr kr
theorem uH:gL 251 286 1 8:=.mk' kr kr kr kr
theorem B4:gL 267 268 1 8:=.mk' kr kr kr kr
theorem oV:gL 290 295 1 8:=.mk' kr kr kr kr
theorem ly{aa}{n}{d}{x}(h:ad aa (.ptr (.st [tS n,.ptr d,.any,.any])) [vp x 0]): ∃q y1 bh ar T fz,aa x=some (.cells ar T fz)/\
 (∀(j:Nat)u,([vs n,vp q 0,y1,bh]:List Value)[j]?=some u->ar[j]?=some u)/\ad aa (.ptr d) [vp q 0]:=by
 obtain⟨g,ar,T,fz,cs,L,hg,h,J⟩:=h.dO;injection L with L;injection L with L;injection L with L;subst L
 simp only[ad.bw,ad.bx]at h;obtain⟨a1,b1,aw,G,a2,b2,az,H,a3,b3,e3,S,a4,b4,aS,Y,hz⟩:=h;obtain rfl:=ad.aB.1 G;obtain⟨q,rfl⟩:=ad.ew H;obtain⟨y1,rfl,_⟩:=ad.bg.1 S;obtain⟨bh,rfl,_⟩:=ad.bg.1 Y;subst hz aS e3 az aw;exact⟨q,y1,bh,ar,T,fz,hg,J,H⟩
theorem oS{aa}{nm}{nn}{x}(N:ad aa (.ptr (h_ (.named nm nn))) [x]): ∃g ar T fz x4,x=vp g 0/\aa g=some (.cells ar T fz)/\
 (∀(j:Nat)u,([vs nm,.pointer none,vb nn,x4]:List Value)[j]?=some u->ar[j]?=some u):=by
 obtain⟨g,ar,T,fz,cs,rfl,hg,h,J⟩:=N.dO;simp only[h_,ad.bw,ad.bx]at h;obtain⟨a1,b1,aw,G,a2,b2,az,H,a3,b3,e3,S,a4,b4,aS,Y,hz⟩:=h;obtain rfl:=ad.aB.1 G;obtain rfl:=ad.jN.1 H;obtain rfl:=ad.aB.1 S;obtain⟨x4,rfl,_⟩:=ad.bg.1 Y;subst hz aS e3 az aw;exact⟨g,ar,T,fz,x4,rfl,hg,J⟩
theorem oy{aa}{t}{nn}{x}(N:ad aa (.ptr (h_ (.list t nn))) [x]): ∃g ar T fz q x4,x=vp g 0/\aa g=some (.cells ar T fz)/\
 (∀(j:Nat)u,([vs ⟨#[]⟩,vp q 0,vb nn,x4]:List Value)[j]?=some u->ar[j]?=some u)/\ad aa (.ptr (h_ t)) [vp q 0]:=by
 obtain⟨g,ar,T,fz,cs,rfl,hg,h,J⟩:=N.dO;simp only[h_,ad.bw,ad.bx]at h;obtain⟨a1,b1,aw,G,a2,b2,az,H,a3,b3,e3,S,a4,b4,aS,Y,hz⟩:=h;obtain rfl:=ad.aB.1 G;obtain⟨q,rfl⟩:=ad.ew H;obtain rfl:=ad.aB.1 S;obtain⟨x4,rfl,_⟩:=ad.bg.1 Y;subst hz aS e3 az aw;exact⟨g,ar,T,fz,q,x4,rfl,hg,J,H⟩
theorem ad.one{aa:au}{d:Dt}{g sz c:Nat}{cs:List Value}{T:TypeId}{fz:Nat×Nat}(h:ad aa d cs)(aJ:cs.length=sz)(hg:aa g=some (.cells cs.toArray T fz))(J:1<=c:=by decide):ad aa (.sl [d]) [.slice (some ⟨g,0,none⟩) 1 c]:=
 .sl [d] g sz c _ T fz [cs] J rfl hg (λ i a M G H=>by cases i with|zero=>(simp at G H;subst G H;exact h)|succ i=>simp at G) (λ x L=>by simp at L;subst L;exact aJ)
  (λ i j M u G H=>by cases i with|zero=>(simp at G;subst G;simpa using H)|succ i=>simp at G)
theorem Dp: ∀N v,v.wt<=N->N<=68719476736-> ∀aa q,ad aa (.ptr (dV v)) [vq q]->
 Sp 132 [vq q] [] aa (λ r M' C=>M'=[]/\ ∃A n c,r=.agg #[vi v.kind,vs v.raw,vl A n c]/\ad C (eI v) [vi v.kind,vs v.raw,vl A n c]):=by
 intro N;induction N with
 |zero=>intro v hv;have:=v.iP;omega
 |succ N af=>
  intro v hv hN aa q K;obtain⟨g,ar,T,fz,A,n,c,x1,a',x3,x4,x5,x6,L,hg,J,U⟩:=mu K;rw[L];clear K L;have O:=U.len;have aV:=v.o1;have ba:=v.kids.kl;have al:(iV v.kids).length=v.kids.list.length:=by rw[fr];simp
  refine aW Tryz.func132 λ F=>?_
  refine(eW hg J)<|(ra 5 [] [1] [0,2]) λ b1=>(qz)<|(kz [0,9] [201,1] [0,2,6,7,8,9,10,11,12,13,14])<|(uz 0 [7,2,3,202] [0,2,3,6,7,8,9,10,11,12,13,14]) λ b2=>(uz 0 [] [0,2,3]) λ _=>(bL)<|(ra 13 [102] [2,1,0,0,0] [2,3,18,19,20]) λ _=>nz 257 4 ?_;refine(dz [3])<|(wz (ι:=LS) (λ i=>n-i.k) (λ i=>i.im) [2,3,18,19] (λ i=>[(20,vi i.k)]) (λ i c=>sV 1 2 (vl i.A i.k i.c) (sC 0 (own 257 4 (vl i.A i.k i.c) i.k i.aY.flatten) c)) (λ i=>au.le aa i.im/\eQ i.im (ic v.kids) 4 i.k i.aY) ⟨0,none,0,[],aa⟩ ⟨lq,eQ.nil _ _ _⟩) ?_;rintro⟨k,A1,D,aY,bd⟩ ⟨hle,f⟩ az;refine(rv 4 [] 1 [1] [2,3,18,19,20,21])<|(eX 21 k n) (λ I=>?_) (λ aO=>?_);have e:k<v.kids.list.length:=by omega
  have ay:(iV v.kids)[k]?=some (.ptr (.st [tS v.kids.list[k].1,.ptr (dV v.kids.list[k].2),.any,.any])):=by rw[fr,HW,HH e];rfl
  obtain⟨g2,x,aQ,T2,a1,rfl,ab,W,p⟩:=(U.mono hle).dk ay;obtain⟨w,y1,bh,a6,T3,y,aE,aJ,h⟩:=ly ab;have aF:=v.kids.gA (HY e);refine cP W (p) ?_;refine(eW aE aJ)<|(rv 6 [] 1 [2,0,0,0] [2,3,18,19,20])<|(xz oV I)<|(rv 3 [1] 2 [1] [2,3,5,18,19,20])<|(qz)<|(kz [0,10] [3,0,100] [2,3,5,18,19,20,24,25,26,27,28,29,33])<|(bj [] (af _ om om _ _ h)) λ|_,_,bk,aN,⟨rfl,E,n2,c2,rfl,aP⟩=>(aG [1,3])<|(kz [11,1] [] [2,3,18,19,20,24,25,35])<|(uz 0 [1,4] [2,3,18,19,20,24,25,36]) λ l=>(eF)<|(jo ei k 1 aY [vs v.kids.list[k].1,vi (v.kids.list[k].2.kind:Int),vs v.kids.list[k].2.raw,vl E n2 c2] [3,0]) λ Q c3=>(aG [])<|(kz [14,1] [] [2,3,18,19,20,37,38])<|(uz 3 [] [2,3,18,19,20]) λ _=>(bL)<|(rv 7 [] 4 [0] [2,3,18,19,20])<|(sv 20 (ag I om))<|(dz [2,1])<|lz (az ⟨k+1,Q,c3,_,bk⟩ ⟨lq,(f.mono aN).step (d:=.st [tS v.kids.list[k].1,eI v.kids.list[k].2]) (by rw[e7,HW,HH e];rfl) (.bY _ _ _ _ (.val _) (.bY _ _ _ _ aP .dU)) rfl⟩ dm);refine(ra 7 [1,2] [4] [2]) ?_;intro _;refine(fo 0 257 4 A1 k D aY.flatten) ?_;intro bk aN hf;exact ez 1 (.agg #[vi v.kind,vs v.raw,vl A1 k D]) [] [0,0] lq ⟨rfl,A1,k,D,rfl,pN ((f.mono aN).done (by rw[e7];simp;omega) hf)⟩
theorem c131: ∀l aa A n c,aZ bT.wt l<=68719476736->ad aa (.sl (l.map eP)) [vl A n c]->
 Sp 131 [vl A n c] [] aa (λ r M' C=>M'=[]/\ ∃A' n' ai,r=vl A' n' ai/\ad C (.sl (l.map fH)) [vl A' n' ai]):=by
 intro l aa A n c hw U;have O:=U.len;rw[HX]at O;have hl:=ax bT.wt l;refine aW Tryz.func131 λ F=>(ra 18 [] [2,1,0,0,0] [3,6,7,8]) λ _=>nz 227 4 ?_;refine(wz (ι:=LS) (λ i=>n-i.k) (λ i=>i.im) [6,7] (λ i=>[(3,vl i.A i.k i.c),(8,vi i.k)]) (λ i c=>sC 0 (own 227 4 (vl i.A i.k i.c) i.k i.aY.flatten) c) (λ i=>au.le aa i.im/\eQ i.im (l.map fH) 4 i.k i.aY) ⟨0,none,0,[],aa⟩ ⟨lq,eQ.nil _ _ _⟩) ?_;rintro⟨k,A1,D,aY,bd⟩ ⟨hle,f⟩ af;refine(rv 4 [] 1 [1] [3,6,7,8,9])<|(eX 9 k n) (λ I=>?_) (λ aO=>?_);have z:k<l.length:=by omega
 have ay:(l.map eP)[k]?=some (eP l[k]):=by rw[HW,HH z];rfl
 have aF:=aU bT.wt (HY z);obtain⟨g2,x,aQ,T2,a1,rfl,ab,W,p⟩:=ad.dk (d:=_) (U.mono hle) (show(l.map eP)[k]?=some (.ptr _)from ay);obtain⟨bH,a6,T3,y,q2,x3,x4,a,aE,aJ,aq,_,_⟩:=oL ab;injection a with a;injection a with a;injection a with a;subst a
 refine cP W (p) ?_;refine(eW aE aJ)<|(rv 6 [] 1 [2,0,0,0] [3,6,7,8])<|(xz uH I)<|(rv 3 [1] 2 [1] [3,5,6,7,8])<|(qz)<|(kz [0,9] [0,100] [3,5,6,7,8,12,13,14,15,16,20])<|(bj [] (Dp _ l[k].v (HZ _) (by simp only[bT.wt]at aF;omega) _ _ aq)) λ|_,_,ak,P,⟨rfl,E,n2,c2,rfl,aP⟩=>(aG [])<|(kz [10,1] [] [3,6,7,8,12,22])<|(uz 0 [] [3,6,7,8,12,23]) λ b5=>(eF)<|(jo ni k 1 aY [vs l[k].name,vi (l[k].v.kind:Int),vs l[k].v.raw,vl E n2 c2] [3,0]) λ Q c3=>(aG [])<|(uz 0 [] [3,6,7,8]) λ _=>(bL)<|(rv 7 [] 4 [0] [3,6,7,8])<|(sv 8 (ag I om))<|(dz [2,1])<|lz (af ⟨k+1,Q,c3,_,ak⟩ ⟨lq,(f.mono (P)).step (d:=fH l[k]) (by rw[HW,HH z];rfl) (r2 aP) rfl⟩ dm);refine(ra 7 [] [4] [2]) ?_;intro _;refine(fo 0 227 4 A1 k D aY.flatten) ?_;intro bk aN hf;exact ez 0 (vl A1 k D) [] [] lq ⟨rfl,A1,k,D,rfl,(f.mono aN).done so hf⟩
theorem Ao: ∀l aa A n c,aZ cB.wt l<=68719476736->ad aa (.sl (l.map ig)) [vl A n c]->
 Sp 86 [vl A n c] [] aa (λ r M' C=>M'=[]/\ ∃A' n' ai,r=vl A' n' ai/\ad C (.sl (l.map ju)) [vl A' n' ai]):=by
 intro l aa A n c hw U;have O:=U.len;rw[HX]at O;have hl:=ax cB.wt l;refine aW Tryz.func86 λ F=>(ra 18 [] [2,1,0,0,0] [3,6,7,8]) λ _=>nz 171 2 ?_;refine(wz (ι:=LS) (λ i=>n-i.k) (λ i=>i.im) [6,7] (λ i=>[(3,vl i.A i.k i.c),(8,vi i.k)]) (λ i c=>sC 0 (own 171 2 (vl i.A i.k i.c) i.k i.aY.flatten) c) (λ i=>au.le aa i.im/\eQ i.im (l.map ju) 2 i.k i.aY) ⟨0,none,0,[],aa⟩ ⟨lq,eQ.nil _ _ _⟩) ?_;rintro⟨k,A1,D,aY,bd⟩ ⟨hle,f⟩ af;refine(rv 4 [] 1 [1] [3,6,7,8,9])<|(eX 9 k n) (λ I=>?_) (λ aO=>?_);have z:k<l.length:=by omega
 have ay:(l.map ig)[k]?=some (ig l[k]):=by rw[HW,HH z];rfl
 have aF:=aU cB.wt (HY z);obtain⟨g2,x,aQ,T2,a1,rfl,ab,W,p⟩:=ad.dk (d:=_) (U.mono hle) (show(l.map ig)[k]?=some (.ptr _)from ay);obtain⟨bH,a6,T3,y,A4,n4,c4,x3,x4,x5,x6,a,aE,aJ,aq,_,_,_,_⟩:=qY ab;injection a with a;injection a with a;injection a with a;subst a
 refine cP W (p) ?_;refine(eW aE aJ)<|(rv 6 [] 1 [2,0,0,0] [3,6,7,8])<|(xz wP I)<|(rv 3 [1] 2 [1] [3,5,6,7,8])<|(qz)<|(kz [0,9] [0,100] [3,5,6,7,8,12,13,14,15,16,20])<|(bj [] (c131 l[k].args _ _ _ _ (by simp only[cB.wt]at aF;omega) aq)) λ|_,_,ak,P,⟨rfl,E,n2,c2,rfl,aP⟩=>(aG [])<|(kz [10,1] [] [3,6,7,8,12,22])<|(uz 0 [] [3,6,7,8,12,23]) λ b5=>(eF)<|(jo si k 1 aY [vs l[k].name,vl E n2 c2] [3,0]) λ Q c3=>(aG [])<|(uz 0 [] [3,6,7,8]) λ _=>(bL)<|(rv 7 [] 4 [0] [3,6,7,8])<|(sv 8 (ag I om))<|(dz [2,1])<|lz (af ⟨k+1,Q,c3,_,ak⟩ ⟨lq,(f.mono (P)).step (d:=ju l[k]) (by rw[HW,HH z];rfl) (uO aP) rfl⟩ dm);refine(ra 7 [] [4] [2]) ?_;intro _;refine(fo 0 171 2 A1 k D aY.flatten) ?_;intro bk aN hf;exact ez 0 (vl A1 k D) [] [] lq ⟨rfl,A1,k,D,rfl,(f.mono aN).done so hf⟩
theorem Ge: ∀t aa q,ad aa (.ptr (h_ t)) [vq q]->
 Sp 88 [vq q] [] aa (λ r M' C=>M'=[]/\ ∃s A n c b,r=.agg #[vs s,vl A n c,vb b]/\ad C (fU t) [vs s,vl A n c,vb b]):=by
 intro t;induction t with
 |named nm nn=>
  intro aa q K;obtain⟨g,ar,T,fz,x4,L,hg,J⟩:=oS K;rw[L];clear K L;refine aW Tryz.func88 λ F=>?_
  refine(eW hg J)<|(ra 5 [] [1] [0,2]) λ b1=>(qz)<|(kz [0,9] [1,201] [0,2,4,5,6,7,8,9,10,11,12])<|(uz 0 [7,202,3,2] [0,2,3,4,5,6,7,8,9,10,11,12]) λ b2=>(uz 0 [] [0,2,3]) λ _=>(bL)<|(ra 16 [102,0,1] [4] [2]) λ _=>ez 1 (.agg #[vs nm,vz,vb nn]) [] [0,0,0] lq ⟨rfl,_,_,_,_,_,rfl,.bY _ _ _ _ (.val _) (.bY _ _ _ _ (.eR _ _) (.bY _ _ _ _ (.val _) .dU))⟩
 |list t nn af=>
  intro aa q K;obtain⟨g,ar,T,fz,q2,x4,L,hg,J,aq⟩:=oy K;rw[L];clear K L;refine aW Tryz.func88 λ F=>?_
  refine(eW hg J)<|(ra 5 [] [1] [0,2]) λ b1=>(qz)<|(kz [0,9] [1,201] [0,2,4,5,6,7,8,9,10,11,12])<|(uz 0 [7,202,3,2] [0,2,3,4,5,6,7,8,9,10,11,12]) λ b2=>(uz 0 [] [0,2,3]) λ _=>(bL)<|(ra 15 [102,102] [2,1,0,4] [2,3,21]) λ _=>(cz [] (af _ _ aq)) λ|_,_,ak,P,⟨rfl,s2,E,n2,c2,m,rfl,aP⟩=>rZ 9 [1,1,2] [4] (λ b5=>[(2,vp (b1 0) 0)]) (λ b5=>.av (b5 0) 69 [vs s2,vl E n2 c2,vb m]::.av (b2 0) 69 [vs ⟨#[]⟩,vl (sa (b5 0) 0) 1 1,vb nn]::.av (b1 0) 69 [vs ⟨#[]⟩,vl (sa (b5 0) 0) 1 1,vb nn]::.ro g 0 [vs ⟨#[]⟩,vp q2 0,vb nn,x4]::F) λ b5=>bf.freeze 0 rfl λ rl=>rt Tryz.func88 1 (.agg #[vs ⟨#[]⟩,vl (sa (b5 0) 0) 1 1,vb nn]) [] [0,0,0] rfl (P.trans (au.jv rl)) ⟨rfl,_,_,_,_,_,rfl,.bY _ _ _ _ (.val _) (.bY _ _ _ _ (ad.one (sz:=3) (T:=69) (fz:=(0,0)) (aP.mono (au.jv rl)) rfl (by simp[au.set])) (.bY _ _ _ _ (.val _) .dU))⟩
theorem c87: ∀o aa q,gN o<=68719476736->ad aa (x_ o) [vq q]->
 Sp 87 [vq q] [] aa (λ r M' C=>M'=[]/\ ∃A n c,r=vl A n c/\ad C (vU o) [vl A n c]):=by
 intro o aa q hw K;cases o with
 |none=>
  have K:=ad.jN.1 K;simp only[List.cons.injEq,and_true]at K;rw[K];refine aW Tryz.func87 λ F=>(ra 15 [] [1,1,0,1] [2]) λ _=>ez 0 (vz) [] [] lq ⟨rfl,_,_,_,rfl,.eR _ _⟩
 |some v=>
  obtain⟨g,hg⟩:=ad.ew K;simp only[List.cons.injEq,and_true]at hg;rw[hg]at K⊢;refine aW Tryz.func87 λ F=>(ra 15 [] [2,1] [5]) λ _=>(cz [] (Dp _ v (HZ _) (by simp only[gN]at hw;omega) _ _ K)) λ|_,_,ak,P,⟨rfl,E,n2,c2,rfl,aP⟩=>rZ 3 [] [3] (λ b2=>[(2,vl (sa (b2 0) 0) 1 1)]) (λ b2=>.av (b2 0) 220 [vi v.kind,vs v.raw,vl E n2 c2]::F) λ b2=>bf.freeze 0 rfl λ rl=>rt Tryz.func87 0 (vl (sa (b2 0) 0) 1 1) [] [] rfl (P.trans (au.jv rl)) ⟨rfl,_,_,_,rfl,ad.one (sz:=3) (T:=220) (fz:=(0,0)) (aP.mono (au.jv rl)) rfl (by simp[au.set])⟩
theorem FM: ∀l aa A n c,aZ aq.wt l<=68719476736->ad aa (.sl (l.map cv)) [vl A n c]->
 Sp 44 [vl A n c] [] aa (λ r M' C=>M'=[]/\ ∃A' n' ai,r=vl A' n' ai/\ad C (.sl (l.map cx)) [vl A' n' ai]):=by
 intro l aa A n c hw U;have O:=U.len;rw[HX]at O;have hl:=ax aq.wt l;refine aW Tryz.func44 λ F=>(ra 18 [] [2,1,0,0,0] [3,6,7,8]) λ _=>nz 145 7 ?_;refine(wz (ι:=LS) (λ i=>n-i.k) (λ i=>i.im) [6,7] (λ i=>[(3,vl i.A i.k i.c),(8,vi i.k)]) (λ i c=>sC 0 (own 145 7 (vl i.A i.k i.c) i.k i.aY.flatten) c) (λ i=>au.le aa i.im/\eQ i.im (l.map cx) 7 i.k i.aY) ⟨0,none,0,[],aa⟩ ⟨lq,eQ.nil _ _ _⟩) ?_;rintro⟨k,A1,D,aY,bd⟩ ⟨hle,f⟩ af;refine(rv 4 [] 1 [1] [3,6,7,8,9])<|(eX 9 k n) (λ I=>?_) (λ aO=>?_);have z:k<l.length:=by omega
 have ay:(l.map cv)[k]?=some (cv l[k]):=by rw[HW,HH z];rfl
 have aF:=aU aq.wt (HY z);obtain⟨g2,x,aQ,T2,a1,rfl,ab,W,p⟩:=ad.dk (d:=_) (U.mono hle) (show(l.map cv)[k]?=some (.ptr _)from ay);obtain⟨bH,a6,T3,y,q3,Z,al,n5,c5,x6,x7,x8,a,aE,aJ,u,j,B,_,_,_⟩:=jm ab;injection a with a;injection a with a;injection a with a;subst a
 refine cP W (p) ?_;refine(eW aE aJ)<|(rv 6 [] 1 [2,0,0,0] [3,6,7,8])<|(xz uI I)<|(rv 3 [1] 2 [1] [3,5,6,7,8])<|(qz)<|(kz [0,13,14,4,19,4] [0,100,300,200,400] [3,5,6,7,8,12,13,14,15,16,17,18,19,20,24,26,27,28,29,31,32,33,34])<|(bj [] (Ge l[k].t _ _ j)) λ|_,_,ak,P,⟨rfl,s1,a8,n6,c6,b6,rfl,aT⟩=>(aG [22,400,17,200,8,100])<|(bj [] (c87 l[k].bV _ _ (by simp only[aq.wt]at aF;omega) (u.mono P))) λ|_,_,aB,aA,⟨rfl,A7,n7,c7,rfl,aP⟩=>(aG [22,400,8,100])<|(bj [] (Ao l[k].ah _ _ _ _ (by simp only[aq.wt]at aF;omega) (B.mono lq))) λ|_,_,j3,l3,⟨rfl,A8,n8,c8,rfl,bz⟩=>(aG [8,100])<|(kz [24,1] [] [3,6,7,8,12,36])<|(uz 0 [] [3,6,7,8,12,37]) λ b5=>(eF)<|(jo sZ k 1 aY [vs l[k].doc,vs l[k].name,vs s1,vl a8 n6 c6,vb b6,vl A7 n7 c7,vl A8 n8 c8] [3,0]) λ Q c3=>(aG [])<|(uz 0 [] [3,6,7,8]) λ _=>(bL)<|(rv 7 [] 4 [0] [3,6,7,8])<|(sv 8 (ag I om))<|(dz [2,1])<|lz (af ⟨k+1,Q,c3,_,j3⟩ ⟨lq,(f.mono lq).step (d:=cx l[k]) (by rw[HW,HH z];rfl) (nB (aT.mono lq) (aP.mono l3) bz) rfl⟩ dm);refine(ra 7 [] [4] [2]) ?_;intro _;refine(fo 0 145 7 A1 k D aY.flatten) ?_;intro bk aN hf;exact ez 0 (vl A1 k D) [] [] lq ⟨rfl,A1,k,D,rfl,(f.mono aN).done so hf⟩
theorem jJ{aa}: ∀cs,ad aa .any cs-> ∃x,cs=[x]:=λ cs h=>by cases h;exact⟨_,rfl⟩
theorem rS{aa}{s}{x}(N:ad aa (.ptr (gZ .any .any .any s)) [x]): ∃g ar T fz A1 n1 D E n2 c2 Q n3 c3 x4 al n5 c5 a8 n6 c6 x7 x8,x=vp g 0/\aa g=some (.cells ar T fz)/\
 (∀(j:Nat)u,([vl A1 n1 D,vl E n2 c2,vl Q n3 c3,x4,vl al n5 c5,vl a8 n6 c6,x7,x8]:List Value)[j]?=some u->ar[j]?=some u)/\ad aa (gF .any s.defs) [vl A1 n1 D]/\ad aa (gF .any s.exts) [vl E n2 c2]/\ad aa (.sl (s.ah.map (dP .any))) [vl Q n3 c3]/\ad aa (og .any s.types) [vl al n5 c5]/\ad aa (og .any s.ai) [vl a8 n6 c6]:=by
 obtain⟨g,ar,T,fz,cs,rfl,hg,h,J⟩:=N.dO;simp only[gZ,ad.bw,ad.bx]at h;obtain⟨a1,b1,aw,G,a2,b2,az,H,a3,b3,e3,S,a4,b4,aS,Y,a5,b5,o,aI,a6,b6,e6,h6,i,e,I,aU,m,l,e8,h8,hz⟩:=h;obtain⟨A1,n1,D,rfl⟩:=ad.aR G;obtain⟨E,n2,c2,rfl⟩:=ad.aR H;obtain⟨Q,n3,c3,rfl⟩:=ad.aR S;obtain⟨x4,rfl,_⟩:=ad.bg.1 Y;obtain⟨al,n5,c5,rfl⟩:=ad.aR aI;obtain⟨a8,n6,c6,rfl⟩:=ad.aR h6;obtain⟨x7,rfl,_⟩:=ad.bg.1 aU;obtain⟨x8,rfl,_⟩:=ad.bg.1 h8;subst hz e8 I e6 o aS e3 az aw;exact⟨g,ar,T,fz,A1,n1,D,E,n2,c2,Q,n3,c3,x4,al,n5,c5,a8,n6,c6,x7,x8,rfl,hg,J,G,H,S,aI,h6⟩
theorem ad.H'{aa}{l:List ByteArray}{A}{n c k}(h:ad aa (cW l) [vl A n c])U: ∃g ar T fz,A=sa g 0/\aa g=some (.cells ar T fz)/\ ∀j u,([vs l[k]]:List Value)[j]?=some u->ar[k*1+j]?=some u:=by
 obtain⟨_,H⟩:=h.at_;obtain⟨g,cs,ar,T,fz,S,Y,aI,h6⟩:=H 1 k (tS l[k]) (by rw[HW,HH U];rfl) (λ cs V=>by rw[ad.aB.1 V];rfl);obtain rfl:=ad.aB.1 Y;exact⟨g,ar,T,fz,S,aI,h6⟩
theorem bQ{aa}{E n c}{A}{l:List ByteArray}(O:n=l.length)(h:wb aa E (0+n) c A ([]++l.map vs)):
 ad aa (cW l) [vl A (0+n) c]:=by
 refine ad.pC (aY:=l.map λ s=>[vs s]) (sz:=1) (E:=E) ?_ (by simp[O]) (by simp[O]) (λ i d cs G H=>?_) (λ cs J=>?_);have:(l.map λ s=>[vs s]).flatten=[]++l.map vs:=by
  clear h O;induction l with
  |nil=>rfl
  |cons x xs af=>simp only[List.map_cons,List.flatten_cons,af];rfl
 rw[this];exact h;rw[HW]at G H;cases L:l[i]? with
 |none=>rw[L]at G;cases G
 |some s=>rw[L]at G H;simp at G H;subst G H;exact .val _
 obtain⟨s,_,rfl⟩:=List.mem_map.1 J;rfl
theorem Ch: ∀l aa A n c,aZ ae.wt l<=68719476736->ad aa (gF .any l) [vl A n c]->
 Sp 42 [vl A n c] [] aa (λ r M' C=>M'=[]/\ ∃A' n' ai,r=vl A' n' ai/\ad C (.sl (l.map aD)) [vl A' n' ai]):=by
 intro l aa A n c hw U;have O:=U.len;rw[HX]at O;have hl:=ax ae.wt l;refine aW Tryz.func42 λ F=>(dI 18 [2,1,0,0,0] [3,9,10,11])<|nz 53 3 ?_;refine(wz (ι:=LS) (λ i=>n-i.k) (λ i=>i.im) [9,10] (λ i=>[(3,vl i.A i.k i.c),(11,vi i.k)]) (λ i c=>sC 0 (own 53 3 (vl i.A i.k i.c) i.k i.aY.flatten) c) (λ i=>au.le aa i.im/\eQ i.im (l.map aD) 3 i.k i.aY) ⟨0,none,0,[],aa⟩ ⟨lq,eQ.nil _ _ _⟩) ?_;rintro⟨k,A1,D,aY,bd⟩ ⟨hle,f⟩ af;refine(aM 4 1 [1] [12])<|(eX 12 k n) (λ I=>?_) (λ aO=>?_);have z:k<l.length:=by omega
 have ay:(l.map (bm .any))[k]?=some ((bm .any) l[k]):=by rw[HW,HH z];rfl
 obtain⟨g2,x,aQ,T2,a1,rfl,ab,W,p⟩:=ad.dk (d:=_) (U.mono hle) (show(l.map (bm .any))[k]?=some (.ptr _)from ay);obtain⟨bH,a6,T3,y,A4,n4,c4,al,n5,c5,x1,a',x3,x4,a,aE,aJ,j,B,_,_,_,_⟩:=e4 jJ jJ jJ ab;injection a with a;injection a with a;injection a with a;subst a
 refine(cP W (p))<|(eW aE aJ)<|(aM 6 1 [2,0,0,0] [])<|(xz jn I) ?_;have aF:=aU ae.wt (HY z);simp[ae.wt]at aF;refine(gK 4 [1] 2 [1] [5])<|(dz [1,0]) ?_;refine jY (ι:=au×Nat×Option Addr×Nat×Nat) (λ i=>i.1) (λ i=>⟨[2,1,0,0,2,0,1,13],[(3,vl A1 k D),(5,vp x 0),(6,vp i.2.1 0),(9,vl (sa g2 0) n c),(10,vi n),(11,vi k)],.av i.2.1 53 [vs l[k].doc,vl i.2.2.1 i.2.2.2.1 i.2.2.2.2,vz]::own 53 3 (vl A1 k D) k aY.flatten::F⟩) (λ i=>au.le bd i.1/\ad i.1 (fT l[k].ah) [vl i.2.2.1 i.2.2.2.1 i.2.2.2.2]) ?_ (λ rest=>?_);rintro⟨bn,b,E,n2,c2⟩ ⟨L,aP⟩;have aV:=ax cQ.wt l[k].roots;have bb:=B.len;rw[HX]at bb;refine(eW (L _ _ aE) aJ)<|(rv 13 [200] 2 [2,1,0,0,0] [3,6,9,10,11,28,29,30])<|(dz [0])<|nz 141 2 ?_;refine(wz (ι:=LS) (λ i=>n5-i.k) (λ i=>i.im) [3,6,9,10,11,28,29] (λ i=>[(30,vi i.k)]) (λ i c=>sV 1 2 (vl i.A i.k i.c) (sC 0 (own 141 2 (vl i.A i.k i.c) i.k i.aY.flatten) c)) (λ i=>au.le bn i.im/\eQ i.im (l[k].roots.map iZ) 2 i.k i.aY) ⟨0,none,0,[],bn⟩ ⟨lq,eQ.nil _ _ _⟩) ?_;rintro⟨J,bo,bh,M,bF⟩ ⟨V,v⟩ bB;refine(aM 4 1 [1] [31])<|(eX 31 J n5) (λ T=>?_) (λ bM=>?_);have ao:J<l[k].roots.length:=by omega
 have H:(l[k].roots.map fe)[J]?=some (fe l[k].roots[J]):=by rw[HW,HH ao];rfl
 obtain⟨bP,b',b4,ca,bc,rfl,bw,bu,bx⟩:=ad.dk (d:=_) (B.mono ((L).trans V)) (show(l[k].roots.map fe)[J]?=some (.ptr _)from H);obtain⟨b6,b1,ch,bZ,y3,y4,m,ar,G,_,_⟩:=ou bw;injection m with m;injection m with m;injection m with m;subst m
 refine(cP bu (bx))<|(eW ar G)<|(aM 6 1 [2,0,0,0] [])<|(xz qO T)<|(gK 3 [1] 2 [1] [8])<|(qz)<|(cu [0,11] [3,0,100] [34,35,44])<|(ja 0 [1,4] [45]) λ b9=>(eF)<|(jo w6 J 1 M [vs l[k].roots[J].op,vs l[k].roots[J].t] [3,0]) λ bI S=>(aG [])<|(cu [13,1] [] [46,47])<|(ja 3 [] []) λ _=>(bL)<|(aM 7 4 [0] [])<|(sv 30 (ag T om))<|(dz [2,1])<|lz (bB ⟨J+1,bI,S,_,bF⟩ ⟨V,v.step (d:=iZ l[k].roots[J]) (by rw[HW,HH ao];rfl) (.bY _ _ _ _ (.val _) (.bY _ _ _ _ (.val _) .dU)) rfl⟩ dm);refine(fo 0 141 2 bo J bh M.flatten) ?_;intro bA R bC;have bJ:=(v.mono R).done (c:=bh) so bC;refine(ya 6 [0] 5 [3,3] [49,51]) λ ba=>(sH nX k 1 aY [vs l[k].doc,vl E n2 c2,vl bo J bh] [2,0]) λ A7 c7=>(aM 9 4 [0] [])<|(sv 11 (ag I om))<|(dz [1])<|lz (af ⟨k+1,A7,c7,_,bA⟩ ⟨lq,(f.mono lq).step (d:=aD l[k]) (by rw[HW,HH z];rfl) (j8 (aP.mono lq) bJ) rfl⟩ dm);refine(eW aE aJ)<|(qz)<|(cu [0,8] [0,100] [5,15,16,17,18,19,20,21,22])<|(qm 8 10) ?_ ?_;refine(th [] (Ao l[k].ah _ _ _ _ om j)) λ|_,_,ak,P,⟨rfl,E,n2,c2,rfl,aP⟩=>(aG [])<|(cu [9,1] [] [23,24])<|(ja 0 [3,1] [6]) λ aq=>(ja 0 [] []) λ _=>(bL)<|(dz [1])<|lz (rest ⟨ak,(aq 0),E,n2,c2⟩ ⟨P,aP⟩);refine(nQ 0 [3,5,6,9,10,11,15,16,17,18,19,20,21,22]) λ bK=>(aG [7,101,3,1])<|(bj [] (Ao l[k].ah _ _ _ _ om j)) λ|_,_,ak,P,⟨rfl,E,n2,c2,rfl,aP⟩=>(aG [3,1])<|(kz [9,1] [] [3,5,6,9,10,11,24])<|(ja 0 [] []) λ _=>(bL)<|(dz [1])<|lz (rest ⟨ak,(bK 0),E,n2,c2⟩ ⟨P,aP⟩);refine(ra 7 [] [4] [2]) λ _=>(fo 0 53 3 A1 k D aY.flatten) ?_;intro bk aN hf;exact G' (vl A1 k D) [] [] ⟨rfl,A1,k,D,rfl,(f.mono aN).done so hf⟩
theorem zj: ∀l aa A n c,aZ Def.wt l<=68719476736->ad aa (og .any l) [vl A n c]->
 Sp 43 [vl A n c] [] aa (λ r M' C=>M'=[]/\ ∃A' n' ai,r=vl A' n' ai/\ad C (.sl (l.map d_)) [vl A' n' ai]):=by
 intro l aa A n c hw U;have O:=U.len;rw[HX]at O;have hl:=ax Def.wt l;refine aW Tryz.func43 λ F=>(dI 18 [2,1,0,0,0] [3,11,12,13])<|nz 63 8 ?_;refine(wz (ι:=LS) (λ i=>n-i.k) (λ i=>i.im) [11,12] (λ i=>[(3,vl i.A i.k i.c),(13,vi (i.k:Int))]) (λ i c=>sC 0 (own 63 8 (vl i.A i.k i.c) i.k i.aY.flatten) c) (λ i=>au.le aa i.im/\eQ i.im (l.map d_) 8 i.k i.aY) ⟨0,none,0,[],aa⟩ ⟨au.le.refl _,eQ.nil _ _ _⟩) ?_;rintro⟨k,A1,D,aY,bd⟩ ⟨hle,f⟩ af;refine(aM 4 1 [1] [14])<|(eX 14 k n) (λ I=>?_) (λ aO=>?_);have z:k<l.length:=by omega
 have ay:(l.map (ih .any))[k]?=some ((ih .any) l[k]):=by rw[HW,HH z];rfl
 obtain⟨g2,x,aQ,T2,a1,rfl,ab,W,p⟩:=ad.dk (d:=_) (U.mono hle) (show(l.map (ih .any))[k]?=some (.ptr _)from ay);obtain⟨bH,a6,T3,y,A4,n4,c4,al,n5,c5,a8,n6,c6,A7,n7,c7,A8,n8,c8,x9,aL,aK,aH,s,a,aE,aJ,j,B,aX,E,aq,_⟩:=m' ab;injection a with a;injection a with a;injection a with a;subst a
 refine(cP W (p))<|(eW aE aJ)<|(aM 6 1 [2,0,0,0] [])<|(xz iR I) ?_;have aF:=aU Def.wt (HY z);simp[Def.wt]at aF;have K:=fD.strs (tx:=56) (e:=9) kr B;have q:=fD.strs (tx:=56) (e:=9) kr E;have cg:=ax H0 l[k].ifaces;have c_:=ax H0 l[k].types;refine(gK 4 [1] 2 [1] [5])<|(dz [1,0]) ?_;refine jY (ι:=au×Nat×Option Addr×Nat×Nat×Option Addr×Nat×Nat×Option Addr×Nat×Nat) (λ i=>i.1) (λ i=>⟨[2,1,0,0,2,0,1,31],[(3,vl A1 k D),(5,vp x 0),(6,vp i.2.1 0),(11,vl (sa g2 0) n c),(12,vi n),(13,vi k)],.av i.2.1 63 [vs l[k].kind,vs l[k].doc,vs l[k].name,vl i.2.2.1 i.2.2.2.1 i.2.2.2.2.1,vl i.2.2.2.2.2.1 i.2.2.2.2.2.2.1 i.2.2.2.2.2.2.2.1,vz,vl i.2.2.2.2.2.2.2.2.1 i.2.2.2.2.2.2.2.2.2.1 i.2.2.2.2.2.2.2.2.2.2,vz]::own 63 8 (vl A1 k D) k aY.flatten::F⟩) (λ i=>au.le bd i.1/\ad i.1 (fT l[k].ah) [vl i.2.2.1 i.2.2.2.1 i.2.2.2.2.1]/\ad i.1 (cW l[k].ifaces) [vl i.2.2.2.2.2.1 i.2.2.2.2.2.2.1 i.2.2.2.2.2.2.2.1]/\ad i.1 (cW l[k].types) [vl i.2.2.2.2.2.2.2.2.1 i.2.2.2.2.2.2.2.2.2.1 i.2.2.2.2.2.2.2.2.2.2]) ?_ (λ rest=>?_);rintro⟨bn,b,g,aw,d1,D2,az,d2,D3,e3,d3⟩ ⟨L,aT,aP,bz⟩;have bf:=ax cK.wt l[k].fields;have bs:=ax a_.wt l[k].enums;have br:=aX.len;rw[HX]at br;have bW:=aq.len;rw[HX]at bW;refine(eW (L _ _ aE) aJ)<|(rv 13 [500] 2 [2,1,0,0,0] [3,5,6,11,12,13,48,49,50])<|(dz [0])<|nz 71 8 ?_;refine(wz (ι:=LS) (λ i=>n6-i.k) (λ i=>i.im) [3,5,6,11,12,13,48,49] (λ i=>[(50,vi i.k)]) (λ i c=>sV 1 5 (vl i.A i.k i.c) (sC 0 (own 71 8 (vl i.A i.k i.c) i.k i.aY.flatten) c)) (λ i=>au.le bn i.im/\eQ i.im (l[k].fields.map i_) 8 i.k i.aY) ⟨0,none,0,[],bn⟩ ⟨lq,eQ.nil _ _ _⟩) ?_;rintro⟨J,bo,bh,M,bF⟩ ⟨V,v⟩ bB;refine(aM 4 1 [1] [51])<|(eX 51 J n6) (λ T=>?_) (λ bM=>?_);have ao:J<l[k].fields.length:=by omega
 have H:(l[k].fields.map (fO .any))[J]?=some ((fO .any) l[k].fields[J]):=by rw[HW,HH ao];rfl
 obtain⟨bP,b',b4,ca,bc,rfl,bw,bu,bx⟩:=ad.dk (d:=_) (aX.mono ((L).trans V)) (show(l[k].fields.map (fO .any))[J]?=some (.ptr _)from H);obtain⟨b6,b1,ch,bZ,Q,n3,c3,Z,q5,A9,n9,c9,cy,cw,cx,m,ar,G,bg,bp,bq,bt,_⟩:=qL jJ bw;injection m with m;injection m with m;injection m with m;subst m
 refine(cP bu (bx))<|(eW ar G)<|(aM 6 1 [2,0,0,0] [])<|(xz qJ T) ?_;have Y:=aU cK.wt (HY ao);simp[cK.wt]at Y;refine(gK 3 [1] 2 [1] [8])<|(qz)<|(kz [0,14,15,4,20,4,25,4] [3,0,100,200,300,400,500] [3,5,6,8,11,12,13,48,49,50,54,55,56,57,58,59,60,61,62,63,67,69,70,71,72,74,75,76,77,79,80,81,82])<|(bj [] (FM l[k].fields[J].args _ _ _ _ om bg)) λ|_,_,cm,b0,⟨rfl,B1,f1,w1,rfl,aC⟩=>(aG [28,500,23,400,18,300,9,100,1,3])<|(bj [] (c87 l[k].fields[J].bV _ _ om (bp.mono b0))) λ|_,_,cL,cQ,⟨rfl,B2,f2,w2,rfl,aR⟩=>(aG [28,500,23,400,9,100,1,3])<|(bj [] (Ge l[k].fields[J].t _ _ (bq.mono lq))) λ|_,_,cI,cB,⟨rfl,s3,B3,f3,w3,b3,rfl,aj⟩=>(aG [28,500,9,100,1,3])<|(bj [] (Ao l[k].fields[J].ah _ _ _ _ om (bt.mono lq))) λ|_,_,ck,cl,⟨rfl,B4,f4,w4,rfl,N⟩=>(aG [9,100,1,3])<|(kz [30,1] [] [3,5,6,11,12,13,48,49,50,54,55,84])<|(ja 0 [1,4] [85]) λ b9=>(eF)<|(jo qC J 1 M [vs l[k].fields[J].doc,vs l[k].fields[J].name,vl B1 f1 w1,vl B2 f2 w2,vs s3,vl B3 f3 w3,vb b3,vl B4 f4 w4] [3,0]) λ bI S=>(aG [])<|(cu [33,1] [] [86,87])<|(ja 3 [] []) λ _=>(bL)<|(aM 7 4 [0] [])<|(sv 50 (ag T om))<|(dz [2,1])<|lz (bB ⟨J+1,bI,S,_,ck⟩ ⟨lq,(v.mono lq).step (d:=i_ l[k].fields[J]) (by rw[HW,HH ao];rfl) (uu (aC.mono lq) (aR.mono lq) (aj.mono cl) N) rfl⟩ dm);refine(fo 0 71 8 bo J bh M.flatten) ?_;intro bA R bC;have bJ:=(v.mono R).done (c:=bh) so bC;refine(eW ((((L).trans V).trans R) _ _ aE) aJ)<|(gK 15 [700] 5 [3,1,0,0,0] [92,93,94])<|(dz [0])<|nz 150 3 ?_;refine(wz (ι:=LS) (λ i=>n8-i.k) (λ i=>i.im) [3,6,11,12,13,92,93] (λ i=>[(94,vi i.k)]) (λ i c=>sV 1 7 (vl i.A i.k i.c) (sC 0 (own 150 3 (vl i.A i.k i.c) i.k i.aY.flatten) c)) (λ i=>au.le bA i.im/\eQ i.im (l[k].enums.map e2) 3 i.k i.aY) ⟨0,none,0,[],bA⟩ ⟨lq,eQ.nil _ _ _⟩) ?_;rintro⟨kc,bU,bN,ba,bY⟩ ⟨an,ae⟩ bT;refine(aM 4 1 [1] [95])<|(eX 95 kc n8) (λ bm=>?_) (λ bX=>?_);have bl:kc<l[k].enums.length:=by omega
 have aI:(l[k].enums.map dG)[kc]?=some (dG l[k].enums[kc]):=by rw[HW,HH bl];rfl
 obtain⟨b7,ct,cq,cz,cj,rfl,bE,bD,bG⟩:=ad.dk (d:=_) (aq.mono ((((L).trans V).trans R).trans an)) (show(l[k].enums.map dG)[kc]?=some (.ptr _)from aI);obtain⟨cn,cr,cA,cp,Q,n3,c3,x4,x5,x6,u,b8,b_,bg,_⟩:=mN bE;injection u with u;injection u with u;injection u with u;subst u
 refine(cP bD (bG))<|(eW b8 b_)<|(aM 6 1 [2,0,0,0] [])<|(xz uC bm) ?_;have Y:=aU a_.wt (HY bl);simp[a_.wt]at Y;refine(gK 3 [1] 2 [1] [10])<|(qz)<|(cu [0,14] [3,0,100,200] [98,99,100,101,102,103,104,105,106,107,111])<|(bj [] (Ao l[k].enums[kc].ah _ _ _ _ om bg)) λ|_,_,cv,cb,⟨rfl,B1,f1,w1,rfl,aC⟩=>(aG [9,100,1,3])<|(cu [15,1] [] [113])<|(ja 0 [1,4] [114]) λ bK=>(eF)<|(jo sy kc 1 ba [vs l[k].enums[kc].doc,vs l[k].enums[kc].name,vl B1 f1 w1] [3,0]) λ cd cf=>(aG [])<|(cu [18,1] [] [115,116])<|(ja 3 [] []) λ _=>(bL)<|(aM 7 4 [0] [])<|(sv 94 (ag bm om))<|(dz [2,1])<|lz (bT ⟨kc+1,cd,cf,_,cv⟩ ⟨lq,(ae.mono cb).step (d:=e2 l[k].enums[kc]) (by rw[HW,HH bl];rfl) (oU aC) rfl⟩ dm);refine(fo 0 150 3 bU kc bN ba.flatten) ?_;intro b5 a7 b2;have aV:=(ae.mono a7).done (c:=bN) so b2;refine(ya 6 [0] 5 [4,3] [118,120]) λ cc=>(sH nv k 1 aY [vs l[k].kind,vs l[k].doc,vs l[k].name,vl g aw d1,vl D2 az d2,vl bo J bh,vl D3 e3 d3,vl bU kc bN] [2,0]) λ bS sF=>(aM 9 4 [0] [])<|(sv 13 (ag I om))<|(dz [1])<|lz (af ⟨k+1,bS,sF,_,b5⟩ ⟨lq,(f.mono lq).step (d:=d_ l[k]) (by rw[HW,HH z];rfl) (tR (aT.mono lq) (aP.mono lq) (bJ.mono lq) (bz.mono lq) aV) rfl⟩ dm);refine eW aE aJ ?_;refine(nz 9 1)<|(nz 9 1)<|(qz)<|(kz [0,16,17,4,22,4] [2,102,202,302,402,602] [3,5,11,12,13,17,18,19,20,21,22,23,24,25,26,27,28,29,30,31,32,34,35,36,37,39,40,41,42])<|(qm 16 28) ?_ ?_;refine(th [] (Ao l[k].ah _ _ _ _ om j)) λ|_,_,ak,P,⟨rfl,g,aw,d1,rfl,aT⟩=>(aG [25,602,20,402,11,202,7,102,3,2])<|(qm 21 28) ?_ ?_;refine(gq cY 0 n5 [] (l[k].ifaces.map vs) [1] ((λ w hw=>K.2 w (λ b o h=>hw b o (P _ _ h)))) (hb:=(by have:=K.1;omega))) λ D2 d2=>(aG [25,602,11,202,7,102,3,2])<|(qm 26 28) ?_ ?_;refine(gq cY 0 n7 [] (l[k].types.map vs) [1] ((λ w hw=>q.2 w (λ b o h=>hw b o (P _ _ h)))) (hb:=(by have:=q.1;omega))) λ D3 d3=>(aG [11,202,7,102,3,2])<|(kz [27,1] [] [3,5,11,12,13,17,18,19,20,21,22,23,24,25,26,27,28,33,38,43,44])<|(ja 0 [11,203,7,103,3,3] [6]) λ a'=>(ja 0 [] []) λ _=>(bL)<|(dz [3])<|(fo 2 9 1 D2 (0+n5) d2 ([]++l[k].ifaces.map vs)) λ aB aA aS=>(fo 1 9 1 D3 (0+n7) d3 ([]++l[k].types.map vs)) ?_;intro j3 l3 aD;exact lz (rest ⟨j3,(a' 0),g,aw,d1,D2,0+n5,d2,D3,0+n7,d3⟩ ⟨lq,aT.mono lq,(bQ om aS).mono l3,bQ om aD⟩);refine(nQ 0 [3,5,6,11,12,13,17,18,19,20,21,22,23,24,25,26,27,28,33,38,39,40,41,42]) λ bR=>(aG [25,603,11,203,7,103,3,3])<|(eF)<|(gq cY 0 n7 [] (l[k].types.map vs) [2] ((λ w hw=>q.2 w (λ b o h=>hw b o (P _ _ h)))) (hb:=(by have:=q.1;omega))) λ D3 d3=>(aG [11,203,7,103,3,3])<|(kz [27,1] [] [3,5,6,11,12,13,44])<|(ja 1 [] []) λ _=>(bL)<|(dz [3])<|(fo 2 9 1 D2 (0+n5) d2 ([]++l[k].ifaces.map vs)) λ aB aA aS=>(fo 0 9 1 D3 (0+n7) d3 ([]++l[k].types.map vs)) ?_;intro j3 l3 aD;exact lz (rest ⟨j3,(bR 0),g,aw,d1,D2,0+n5,d2,D3,0+n7,d3⟩ ⟨lq,aT.mono lq,(bQ om aS).mono l3,bQ om aD⟩);refine(nQ 0 [3,5,6,11,12,13,17,18,19,20,21,22,23,24,25,26,27,28,33,34,35,36,37,39,40,41,42]) λ bO=>(aG [25,603,20,403,11,203,7,103,3,3])<|(eF)<|(gq cY 0 n5 [] (l[k].ifaces.map vs) [2] ((λ w hw=>K.2 w (λ b o h=>hw b o (P _ _ h)))) (hb:=(by have:=K.1;omega))) λ D2 d2=>(aG [25,603,11,203,7,103,3,3])<|(eF)<|(gq cY 0 n7 [] (l[k].types.map vs) [2] ((λ w hw=>q.2 w (λ b o h=>hw b o (P _ _ h)))) (hb:=(by have:=q.1;omega))) λ D3 d3=>(aG [11,203,7,103,3,3])<|(kz [27,1] [] [3,5,6,11,12,13,44])<|(ja 2 [] []) λ _=>(bL)<|(dz [3])<|(fo 1 9 1 D2 (0+n5) d2 ([]++l[k].ifaces.map vs)) λ aB aA aS=>(fo 0 9 1 D3 (0+n7) d3 ([]++l[k].types.map vs)) ?_;intro j3 l3 aD;exact lz (rest ⟨j3,(bO 0),g,aw,d1,D2,0+n5,d2,D3,0+n7,d3⟩ ⟨lq,aT.mono lq,(bQ om aS).mono l3,bQ om aD⟩)
 refine(nQ 0 [3,5,6,11,12,13,17,18,19,20,21,22,23,24,25,26,27,28,29,30,31,32,34,35,36,37,39,40,41,42]) λ bb=>(aG [25,603,20,403,15,303,11,203,7,103,3,3])<|(bj [] (Ao l[k].ah _ _ _ _ om j)) λ|_,_,ak,P,⟨rfl,g,aw,d1,rfl,aT⟩=>(aG [25,603,20,403,11,203,7,103,3,3])<|(eF)<|(gq cY 0 n5 [] (l[k].ifaces.map vs) [2] ((λ w hw=>K.2 w (λ b o h=>hw b o (P _ _ h)))) (hb:=(by have:=K.1;omega))) λ D2 d2=>(aG [25,603,11,203,7,103,3,3])<|(eF)<|(gq cY 0 n7 [] (l[k].types.map vs) [2] ((λ w hw=>q.2 w (λ b o h=>hw b o (P _ _ h)))) (hb:=(by have:=q.1;omega))) λ D3 d3=>(aG [11,203,7,103,3,3])<|(kz [27,1] [] [3,5,6,11,12,13,44])<|(ja 2 [] []) λ _=>(bL)<|(dz [3])<|(fo 1 9 1 D2 (0+n5) d2 ([]++l[k].ifaces.map vs)) λ aB aA aS=>(fo 0 9 1 D3 (0+n7) d3 ([]++l[k].types.map vs)) ?_;intro j3 l3 aD;exact lz (rest ⟨j3,(bb 0),g,aw,d1,D2,0+n5,d2,D3,0+n7,d3⟩ ⟨lq,aT.mono lq,(bQ om aS).mono l3,bQ om aD⟩);refine(ra 7 [] [4] [2]) λ _=>(fo 0 63 8 A1 k D aY.flatten) ?_;intro bk aN hf;exact G' (vl A1 k D) [] [] ⟨rfl,A1,k,D,rfl,(f.mono aN).done so hf⟩
theorem GQ{e}(m:e=.any): ∀d aa q,d.wt<=68719476736->ad aa (.ptr (gZ .any .any e d)) [vq q]->
 Sp 16 [vq q] [] aa (λ r M' C=>M'=[]/\ ∃cs,r=.agg cs.toArray/\ad C (iL d) cs):=by
 subst m;intro d aa q0 hw K;obtain⟨q,bx,T0,Z,A1,n1,D,E,n2,c2,Q,n3,c3,y4,al,n5,c5,a8,n6,c6,s,l,a,H,O,a_,aq,u,B,aX⟩:=rS K;rw[a];simp[aH.wt]at hw;refine aW Tryz.func16 λ F=>(ra 5 [] [1] [0,2]) λ b1=>jY (ι:=au×Nat×Option Addr×Nat×Nat×Option Addr×Nat×Nat×Option Addr×Nat×Nat×Option Addr×Nat×Nat) (λ i=>i.1) (λ i=>⟨[1,24],[(0,vp q 0),(2,vp (b1 0) 0),(3,vp i.2.1 0)],.av i.2.1 30 [vl i.2.2.1 i.2.2.2.1 i.2.2.2.2.1,vl i.2.2.2.2.2.1 i.2.2.2.2.2.2.1 i.2.2.2.2.2.2.2.1,vz,vl i.2.2.2.2.2.2.2.2.1 i.2.2.2.2.2.2.2.2.2.1 i.2.2.2.2.2.2.2.2.2.2.1,vl i.2.2.2.2.2.2.2.2.2.2.2.1 i.2.2.2.2.2.2.2.2.2.2.2.2.1 i.2.2.2.2.2.2.2.2.2.2.2.2.2]::.av (b1 0) 30 [vz,vz,vz,vz,vz]::F⟩) (λ i=>au.le aa i.1/\ad i.1 (.sl (d.defs.map aD)) [vl i.2.2.1 i.2.2.2.1 i.2.2.2.2.1]/\ad i.1 (.sl (d.exts.map aD)) [vl i.2.2.2.2.2.1 i.2.2.2.2.2.2.1 i.2.2.2.2.2.2.2.1]/\ad i.1 (.sl (d.types.map d_)) [vl i.2.2.2.2.2.2.2.2.1 i.2.2.2.2.2.2.2.2.2.1 i.2.2.2.2.2.2.2.2.2.2.1]/\ad i.1 (.sl (d.ai.map d_)) [vl i.2.2.2.2.2.2.2.2.2.2.2.1 i.2.2.2.2.2.2.2.2.2.2.2.2.1 i.2.2.2.2.2.2.2.2.2.2.2.2.2]) ?_ (λ rest=>?_);rintro⟨bn,b,E1,aw,u1,E2,az,u2,o,e3,u3,n,aS,u4⟩ ⟨L,aC,aR,aj,N⟩;have U:=u.len;rw[HX]at U;have aK:=ax aL.wt d.ah;refine(eW (L _ _ H) O)<|(h5 13 [200] [2,1,0,0,0] [2,3,33,34,35])<|(dz [0])<|nz 58 5 ?_;refine(wz (ι:=LS) (λ i=>n3-i.k) (λ i=>i.im) [2,3,33,34] (λ i=>[(35,vi i.k)]) (λ i c=>sV 1 2 (vl i.A i.k i.c) (sC 0 (own 58 5 (vl i.A i.k i.c) i.k i.aY.flatten) c)) (λ i=>au.le bn i.im/\eQ i.im (d.ah.map cn) 5 i.k i.aY) ⟨0,none,0,[],bn⟩ ⟨lq,eQ.nil _ _ _⟩) ?_;rintro⟨k,A9,c9,aY,bd⟩ ⟨hle,f⟩ af;refine(aM 4 1 [1] [36])<|(eX 36 k n3) (λ I=>?_) (λ aO=>?_);have z:k<d.ah.length:=by omega
 have ay:(d.ah.map (dP .any))[k]?=some ((dP .any) d.ah[k]):=by rw[HW,HH z];rfl
 obtain⟨g2,x,aQ,T2,a1,rfl,ab,W,p⟩:=ad.dk (d:=_) (u.mono (L.trans hle)) (show(d.ah.map (dP .any))[k]?=some (.ptr _)from ay);obtain⟨bH,a6,T3,y,B3,p3,r3,x4,B5,t,r5,x7,x8,x9,a,aE,aJ,bg,_,bq,_⟩:=lR jJ jJ ab;injection a with a;injection a with a;injection a with a;subst a
 refine(cP W (p))<|(eW aE aJ)<|(aM 6 1 [2,0,0,0] [])<|(xz qP I) ?_;have aF:=aU aL.wt (HY z);simp[aL.wt]at aF;have bp:=ax H0 d.ah[k].ba;refine(gK 4 [1] 2 [1] [5])<|(dz [1,0]) ?_;refine jY (ι:=au×Nat×Option Addr×Nat×Nat) (λ i=>i.1) (λ i=>⟨[2,1,0,0,2,0,1,21],[(2,vp (b1 0) 0),(3,vp b 0),(5,vp x 0),(6,vp i.2.1 0),(33,vl (sa g2 0) n3 c3),(34,vi n3),(35,vi k)],.av i.2.1 58 [vs d.ah[k].doc,vs d.ah[k].name,vl i.2.2.1 i.2.2.2.1 i.2.2.2.2,vz,vb d.ah[k].rep]::own 58 5 (vl A9 k c9) k aY.flatten::.av b 30 [vl E1 aw u1,vl E2 az u2,vl A9 k c9,vl o e3 u3,vl n aS u4]::.av (b1 0) 30 [vz,vz,vz,vz,vz]::F⟩) (λ i=>au.le bd i.1/\ad i.1 (.sl (d.ah[k].args.map cx)) [vl i.2.2.1 i.2.2.2.1 i.2.2.2.2]) ?_ (λ ar=>?_);rintro⟨bk,j,H1,m1,v1⟩ ⟨aN,aT⟩;have bb:=bq.len;unfold cW at bb;rw[HX]at bb;refine(eW (aN _ _ aE) aJ)<|(rv 13 [400] 2 [2,1,0,0,0] [2,3,6,33,34,35,60,61,62])<|(dz [0])<|nz 9 1 ?_;refine(wz (ι:=LS) (λ i=>t-i.k) (λ i=>i.im) [2,3,6,33,34,35,60,61] (λ i=>[(62,vi i.k)]) (λ i c=>sV 1 3 (vl i.A i.k i.c) (sC 0 (own 9 1 (vl i.A i.k i.c) i.k i.aY.flatten) c)) (λ i=>au.le bk i.im/\eQ i.im (d.ah[k].ba.map tS) 1 i.k i.aY) ⟨0,none,0,[],bk⟩ ⟨lq,eQ.nil _ _ _⟩) ?_;rintro⟨J,bo,bh,M,bF⟩ ⟨V,v⟩ bB;refine(aM 4 1 [1] [63])<|(eX 63 J t) (λ T=>?_) (λ bM=>?_);have ao:J<d.ah[k].ba.length:=by omega
 obtain⟨g5,bm,T5,aZ,rfl,g,ae⟩:=ad.H' (bq.mono ((aN).trans V)) ao;refine(cP g (ae))<|(aM 6 1 [2,0,0,0] [])<|(xz mG T)<|(ya 8 [0,2] 2 [1,4] [67,69]) λ b9=>(sH cY J 1 M [vs d.ah[k].ba[J]] [2,0]) λ bI S=>(gK 10 [2] 4 [0] [])<|(sv 62 (ag T om))<|(dz [1]) ?_;exact lz (bB ⟨J+1,bI,S,_,bF⟩ ⟨V,v.step (d:=tS d.ah[k].ba[J]) (by rw[HW,HH ao];rfl) (.val _) rfl⟩ dm);refine(fo 0 9 1 bo J bh M.flatten) ?_;intro bA R bC;have bJ:=(v.mono R).done (c:=bh) so bC;refine(ya 7 [2,0] 5 [3,4] [74,76]) λ bV=>(sH qN k 1 aY [vs d.ah[k].doc,vs d.ah[k].name,vl H1 m1 v1,vl bo J bh,vb d.ah[k].rep] [2,0]) λ bS sF=>(gK 10 [2] 4 [0] [])<|(sv 35 (ag I om))<|(dz [1])<|lz (af ⟨k+1,bS,sF,_,bA⟩ ⟨lq,(f.mono lq).step (d:=cn d.ah[k]) (by rw[HW,HH z];rfl) (mU (aT.mono lq) bJ) rfl⟩ dm);refine(eW aE aJ)<|(qz)<|(cu [0,12,13,4] [0,100,200,500] [5,39,40,41,42,43,44,45,46,47,48,49,50,52,53,54,55])<|(qm 12 18) ?_ ?_;refine(th [] (FM d.ah[k].args _ _ _ _ om bg)) λ|_,_,ak,P,⟨rfl,H1,m1,v1,rfl,aP⟩=>(aG [16,500,7,100])<|(cu [17,1] [] [51,56])<|(ja 0 [16,501,7,101,3,1] [6]) λ bQ=>(ja 0 [] []) λ _=>(bL)<|(dz [1])<|lz (ar ⟨ak,(bQ 0),H1,m1,v1⟩ ⟨P,aP⟩);refine(nQ 0 [2,3,5,6,33,34,35,39,40,41,42,43,44,45,46,47,48,49,50,52,53,54,55]) λ aI=>(aG [16,501,11,201,7,101,3,1])<|(bj [] (FM d.ah[k].args _ _ _ _ om bg)) λ|_,_,ak,P,⟨rfl,H1,m1,v1,rfl,aP⟩=>(aG [16,501,7,101,3,1])<|(kz [17,1] [] [2,3,5,6,33,34,35,56])<|(ja 0 [] []) λ _=>(bL)<|(dz [1])<|lz (ar ⟨ak,(aI 0),H1,m1,v1⟩ ⟨P,aP⟩);refine(fo 0 58 5 A9 k c9 aY.flatten) ?_;intro b5 a7 hf;have bz:=(f.mono a7).done (c:=c9) so hf;refine(h5 7 [0,1] [4] [2])<|ez 1 (.agg #[vl E1 aw u1,vl E2 az u2,vl A9 k c9,vl o e3 u3,vl n aS u4]) [] [0,0] lq ⟨rfl,_,rfl,mR (aC.mono lq) (aR.mono lq) bz (aj.mono lq) (N.mono lq)⟩;refine(eW H O)<|(qz)<|(kz [0,4,5,4,10,4,15,4] [0,100,400,500] [0,2,9,10,11,12,14,15,16,17,19,20,21,22,24,25,26,27])<|(qm 4 21) ?_ ?_;refine(th [] (Ch d.defs _ _ _ _ om a_)) λ|_,_,ak,P,⟨rfl,E1,aw,u1,rfl,aC⟩=>(aG [18,500,13,400,8,100])<|(qm 9 21) ?_ ?_;refine(th [] (Ch d.exts _ _ _ _ om (aq.mono P))) λ|_,_,aB,aA,⟨rfl,E2,az,u2,rfl,aR⟩=>(aG [18,500,13,400])<|(qm 14 21) ?_ ?_;refine(th [] (zj d.types _ _ _ _ om (B.mono lq))) λ|_,_,j3,l3,⟨rfl,o,e3,u3,rfl,aj⟩=>(aG [18,500])<|(qm 19 21) ?_ ?_;refine(th [] (zj d.ai _ _ _ _ om (aX.mono lq))) λ|_,_,j4,l4,⟨rfl,n,aS,u4,rfl,N⟩=>(aG [])<|(cu [20,1] [] [13,18,23,28,29])<|(ja 0 [] [3]) λ b3=>(ja 0 [] []) λ _=>(bL)<|(dz [1])<|lz (rest ⟨j4,(b3 0),E1,aw,u1,E2,az,u2,o,e3,u3,n,aS,u4⟩ ⟨lq,aC.mono lq,aR.mono lq,aj.mono l4,N⟩);refine(nQ 0 [0,2,3,13,18,23,24,25,26,27]) λ aV=>(aG [18,501])<|(bj [] (zj d.ai _ _ _ _ om (aX.mono lq))) λ|_,_,j4,l4,⟨rfl,n,aS,u4,rfl,N⟩=>(aG [])<|(kz [20,1] [] [0,2,3,29])<|(ja 0 [] []) λ _=>(bL)<|(dz [1])<|lz (rest ⟨j4,(aV 0),E1,aw,u1,E2,az,u2,o,e3,u3,n,aS,u4⟩ ⟨lq,aC.mono lq,aR.mono lq,aj.mono l4,N⟩);refine(nQ 0 [0,2,3,13,18,19,20,21,22,24,25,26,27]) λ bc=>(aG [18,501,13,401])<|(bj [] (zj d.types _ _ _ _ om (B.mono lq))) λ|_,_,j3,l3,⟨rfl,o,e3,u3,rfl,aj⟩=>(aG [18,501])<|(bj [] (zj d.ai _ _ _ _ om (aX.mono lq))) λ|_,_,j4,l4,⟨rfl,n,aS,u4,rfl,N⟩=>(aG [])<|(kz [20,1] [] [0,2,3,29])<|(ja 0 [] []) λ _=>(bL)<|(dz [1])<|lz (rest ⟨j4,(bc 0),E1,aw,u1,E2,az,u2,o,e3,u3,n,aS,u4⟩ ⟨lq,aC.mono lq,aR.mono lq,aj.mono l4,N⟩);refine(nQ 0 [0,2,3,13,14,15,16,17,19,20,21,22,24,25,26,27]) λ G=>(aG [18,501,13,401,8,101])<|(bj [] (Ch d.exts _ _ _ _ om (aq.mono P))) λ|_,_,aB,aA,⟨rfl,E2,az,u2,rfl,aR⟩=>(aG [18,501,13,401])<|(bj [] (zj d.types _ _ _ _ om (B.mono lq))) λ|_,_,j3,l3,⟨rfl,o,e3,u3,rfl,aj⟩=>(aG [18,501])<|(bj [] (zj d.ai _ _ _ _ om (aX.mono lq))) λ|_,_,j4,l4,⟨rfl,n,aS,u4,rfl,N⟩=>(aG [])<|(kz [20,1] [] [0,2,3,29])<|(ja 0 [] []) λ _=>(bL)<|(dz [1])<|lz (rest ⟨j4,(G 0),E1,aw,u1,E2,az,u2,o,e3,u3,n,aS,u4⟩ ⟨lq,aC.mono lq,aR.mono lq,aj.mono l4,N⟩);refine(nQ 0 [0,2,3,9,10,11,12,14,15,16,17,19,20,21,22,24,25,26,27]) λ h=>(aG [18,501,13,401,8,101,3,1])<|(bj [] (Ch d.defs _ _ _ _ om a_)) λ|_,_,ak,P,⟨rfl,E1,aw,u1,rfl,aC⟩=>(aG [18,501,13,401,8,101])<|(bj [] (Ch d.exts _ _ _ _ om (aq.mono P))) λ|_,_,aB,aA,⟨rfl,E2,az,u2,rfl,aR⟩=>(aG [18,501,13,401])<|(bj [] (zj d.types _ _ _ _ om (B.mono lq))) ?_;rintro _ _ j3 l3 ⟨rfl,o,e3,u3,rfl,aj⟩
 refine(aG [18,501])<|(bj [] (zj d.ai _ _ _ _ om (aX.mono lq))) λ|_,_,j4,l4,⟨rfl,n,aS,u4,rfl,N⟩=>(aG [])<|(kz [20,1] [] [0,2,3,29])<|(ja 0 [] []) λ _=>(bL)<|(dz [1])<|lz (rest ⟨j4,(h 0),E1,aw,u1,E2,az,u2,o,e3,u3,n,aS,u4⟩ ⟨lq,aC.mono lq,aR.mono lq,aj.mono l4,N⟩)
mutual
def bo.ok:bo->Prop
 | .mk k _ a=>k<=9/\a.ok
def Kids.ok:Kids->Prop
 | .nil=>True
 | .cons _ v r=>v.ok/\r.ok
end
def eg.ok:eg->Prop
 | .named n _=>n.size≠0
 | .list t _=>t.ok
def bT.ok(a:bT):Prop:=a.v.ok
def cB.ok(d:cB):Prop:= ∀a∈d.args,a.ok
def zi(o:Option bo):Prop:= ∀v,o=some v->v.ok
def lG(l:List cB):Prop:= ∀d∈l,d.ok
def aq.ok(a:aq):Prop:=a.t.ok/\zi a.bV/\lG a.ah
def cK.ok(a:cK):Prop:=(∀x∈a.args,x.ok)/\a.t.ok/\zi a.bV/\lG a.ah
def a_.ok(a:a_):Prop:=lG a.ah
def jg(l:List UInt8):ao:=⟨l.toArray⟩
def hr:List ao:=[jg [83,67,65,76,65,82],jg [79,66,74,69,67,84],jg [73,78,84,69,82,70,65,67,69],jg [85,78,73,79,78],jg [69,78,85,77],jg [73,78,80,85,84,95,79,66,74,69,67,84]]
def de:List ao:=[jg [113,117,101,114,121],jg [109,117,116,97,116,105,111,110],jg [115,117,98,115,99,114,105,112,116,105,111,110]]
def Def.ok(d:Def):Prop:=d.kind∈hr/\lG d.ah/\(∀f∈d.fields,f.ok)/\ ∀e∈d.enums,e.ok
def aL.ok(d:aL):Prop:= ∀a∈d.args,a.ok
def cQ.ok(r:cQ):Prop:=r.op∈de
def ae.ok(d:ae):Prop:=lG d.ah/\ ∀r∈d.roots,r.ok
def aH.ok(s:aH):Prop:=(∀d∈s.defs,d.ok)/\(∀d∈s.exts,d.ok)/\(∀d∈s.ah,d.ok)/\(∀d∈s.types,d.ok)/\ ∀d∈s.ai,d.ok
theorem bo.ok_eq(v:bo):v.ok<->v.kind<=9/\v.kids.ok:=by obtain⟨k,r,a⟩:=v;rfl
theorem Kids.xv: ∀{a:Kids}{p},a.ok->p∈a.list->p.2.ok
 | .cons n v r,p,h,hp=>by
  rcases G6.1 hp with rfl|hp
  exact h.1;exact Kids.xv h.2 hp
def l5:Dt:=.ptr (.st [.any,.any,tB false])
def jG:Dt:=.ptr (.st [.any,.any,.any,.any,l5])
theorem tY{aa}: ∀cs,ad aa jG cs-> ∃x,cs=[x]:=λ cs h=>by obtain⟨q,rfl⟩:=ad.ew h;exact⟨_,rfl⟩
theorem au.rF{aa:au}{b}{o}:(aa.set b o) b=some o:=by simp[au.set]
theorem ad.box{aa}{b T:Nat}{d}{cs}(hg:aa b=some (.cells cs.toArray T (0,0)))(h:ad aa d cs):ad aa (.ptr d) [vp b 0]:=
 .ptr _ _ _ T (0,0) cs hg h (λ j u hu=>by simpa using hu)
section
variable{f:FuncId}{fn:Func}{R:Ending->World->Prop}{D:List Deferred}{aa:au}{path:List Nat}{env:Ev}{cs:List Chunk}
theorem bz i{b T:Nat}{cells}(J:cs[i]?=some (.av b T cells))(k: ∀C,au.le aa C->C b=some (.cells cells.toArray T (0,0))->bf HB f fn R D C path env (cs.eraseIdx i)):
 bf HB f fn R D aa path env cs:=bf.freeze i J λ O=>k _ (au.jv O) au.rF
theorem od is{M rest}(hp:bF is cs=some (M,rest))(k:bf HB f fn R D aa path env (M++rest)):bf HB f fn R D aa path env cs:=
 λ a w he hd hh=>k a w he hd (hh.perm (bR hp))
theorem Heap.wR{w}{b E sz n:Nat}{cells}(hl:cells.length=n*sz)(O:n<=maxLen)(h:Heap aa (.av b E cells::cs) w):Heap aa (own E sz (vl (sa b 0) n n) n cells::cs) w:=by
 refine⟨h.io,h.dD,?_,?_,λ c J=>?_⟩;have:=h.nodup;simpa[own,Chunk.fp,aV]using this;have:=h.old;simpa[own,Chunk.fp,aV]using this;rcases G6.1 J with rfl|J
 have hb:w.heap[b]?=some (.cells cells.toArray E (0,0)):=h.ok (.av b E cells) sm;refine⟨[.cells cells.toArray E (0,0)],by simp[aV,hb],hl,.inr ⟨b,n,cells.toArray,rfl,rfl,HZ _,O,by simpa using hl,?_⟩⟩;rw[<-hl];simp;exact h.ok c (by simp[J])
theorem wR i sz n{b E}{cells}(J:cs[i]?=some (.av b E cells))(hl:cells.length=n*sz)(O:n<=maxLen)(k:bf HB f fn R D aa path env (own E sz (vl (sa b 0) n n) n cells::cs.eraseIdx i)):bf HB f fn R D aa path env cs:=
 λ a w he hd hh=>k a w he hd (Heap.wR hl O (hh.perm (e3 J)))
end
theorem ad.an{aa}{v}{ds}{b}(h:v.oneCell'=true)(hb:ad aa (.st ds) b):ad aa (.st (.any::ds)) (v::b):=.bY _ _ [v] b (.any v h) hb
theorem ad.vu{aa}v{ds}{b}(hb:ad aa (.st ds) b):ad aa (.st (.val v::ds)) (v::b):=.bY _ _ [v] b (.val v) hb
theorem ad.on{aa}{v}{d}{ds}{b}(h:ad aa d [v])(hb:ad aa (.st ds) b):ad aa (.st (d::ds)) (v::b):=.bY _ _ [v] b h hb
structure LM where
 k:Nat
 A:Option Addr
 c:Nat
 aY:List (List Value)
 im:au
 x:Int
theorem ad.elem{aa}{α:Type}{f}{l:List α}{A}{n c k}sz(h:ad aa (.sl (l.map f)) [vl A n c])U(hf: ∀cs,ad aa (f l[k]) cs->cs.length=sz):
 ∃g cs ar T fz,A=sa g 0/\ad aa (f l[k]) cs/\aa g=some (.cells ar T fz)/\ ∀j u,cs[j]?=some u->ar[k*sz+j]?=some u:=
 h.at_.2 sz k _ (by rw[HW,HH U];rfl) hf
end Go.Proofs.YtdpmeahgjjmdiaaGreatDoor
