/- Part of the proof that laws.FnSchemaAgain answers true. Conditions: none. -/
import Derived.BigCall
import Derived.BigGuard
import Derived.Recover
import Derived.OwnWalk
import Derived.RegionTactic
import Derived.Deep.RegionWith
import Derived.Deep.Draws
import Derived.Shelf.RegionOpenPlain
import Derived.Lib.BufferMore
import Derived.Lib.BufferGrow
import Derived.Lib.Hide
import Derived.WalkKit
import Derived.Lib.BufferWrite
import Derived.Lib.BufferRead
import Derived.Lib.AppendZeros
import Derived.ArgAppend
import Derived.Laws.CopyRow
import Derived.Laws.IdiomCopy
import Derived.Laws.IdiomStrings
import Derived.Lib.BufferRune
import Derived.Test.YtdpmeahgjjmdiaaGreatDoorC05
set_option linter.all false
open Go.Lib renaming addr_add->IQ,byteCells->IE,byteCells_encodeRune->I0,byteCells_length->IM,cell_of_heap->IF,cells_of_row->I6,encodeRune->Im,encodeRuneZ_bad->IY,encodeRuneZ_three->I_,frozen_of_heap->IH,grow_end->I7,lt_of_heap->Iv,repeatL->II,repeatL_length->Jc,run_append_nil_zeros->I3,run_eql_slice_some_nil->I5,run_unsafeSliceData_row->Jb,run_unsafeString_none->Ja,runeCells->IG,runeCells_le->IT,wpList_append_run->IL
open List renaming flatMap_cons->G0,length_append->HT,length_cons->Iz,length_drop->Ia,length_nil->IN,length_singleton->I1,mem_append->HM,mem_cons->G6,mem_cons_of_mem->Hb,mem_cons_self->Iw,mem_flatMap->Ha,mem_singleton->HC,nodup_append->Hq,nodup_cons->Hn,singleton_append->IS,take_append_of_le_length->I4,take_left'->I8,take_of_length_le->Ir
open Go.Proofs.Tryz renaming prog->HB
open Nat renaming le_refl->HZ,lt_of_lt_of_le->Iq,lt_or_ge->Hh,min_eq_left->IV,mul_comm->Jd,mul_one->IX,zero_add->HR
open Array renaming getElem?_eq_getElem->IU,getElem?_eq_none->HE,length_toList->Ih,toList_map->I9,toList_setIfInBounds->I2
open Go.IntKind renaming wrap_i64->IW,wrap_u32->IZ,wrap_u8->Je
open Int renaming lt_or_le->IP
open Option renaming bind_some->Hl,map_eq_some_iff->Io
open Bool renaming false_or->H_,or_false->H5,or_true->H2,true_or->H3
namespace Go.Proofs.YtdpmeahgjjmdiaaGreatDoor
open Go
set_option maxHeartbeats 12800000
set_option maxRecDepth 100000
section
open Go.RowKit
variable[OO]
section
variable{f:FuncId}{fn:Func}{R:Ending->World->Prop}{D:List Deferred}{aa:au}{path:List Nat}{env:Ev}{cs rest:List Chunk}{B b:Nat}{v:Value}{acc:List UInt8}
theorem lp l: ∀v∈IE l,v.oneCell'=true:=by
 intro v hv;obtain⟨x,_,rfl⟩:=List.mem_map.1 hv;rfl
theorem cf l m:IE (l++m)=IE l++IE m:=by simp[IE]
theorem eA r:1<=(Im r).length/\(Im r).length<=4:=by
 have:=IT r;rw[Lib.runeCells_length]at this;exact this
theorem fE.set{b z}{T T'}{xs ys DK a}{F}(h:fE aa (.av b T xs::.av z T' DK::F) B):fE aa (.av b T ys::.av z T' a::F) B:=
 ⟨h.fp,h.im,λ c off cells J w=>h.ro c off cells (by simp at J⊢;exact J) w⟩
theorem fE.swap{c ai}{F}(h:fE aa (c::ai::F) B):fE aa (ai::c::F) B:=
 ⟨λ x L=>h.fp x (by simp[G0]at L⊢;rcases L with a|a|a<;>simp[a]),h.im,λ b off cells J w=>h.ro b off cells (by simp at J⊢;rcases J with a|a|a<;>simp[a]) w⟩
theorem y5(x:Int)(y:UInt8)(d:Option Nat)(ak:List Nat)(L:x=(y.toNat:Int))(hb:fE aa rest B)(hl:acc.length+1<=140737488355328)
 (k: ∀v',bf HB f fn R D aa ak (dF d .nilIface env) (dC 309 B b v' (IE (acc++[y]))::rest))
 (G: ∀u,(cj fn.ntmps (bI (bd fn) path []) env).bind (λ o=>(pv HB (execOp (bB u env) o.1)).map λ y=>(y,o.1.dst,o.2))=some (.enter 165 #[vp b 0,.int .u8 x],d,bI (bd fn) ak []):=by intros;kernel_rfl):
 bf HB f fn R D aa path env (dC 309 B b v (IE acc)::rest):=
 cb 165 [vp b 0,.int .u8 x] d ak _ (λ r=>r=.nilIface) hb (λ w Z _ M=>(Tryz.Buffer_WriteByte B b _ x w Z M (lp _) (by rw[IM];exact hl)).mono (by
  rintro e w' ⟨rfl,H,S⟩;exact⟨_,rfl,rfl,by rw[cf];subst L;exact H,S⟩)) (λ r v' V=>V▸k v') G
theorem DV(s:ao)(d:Option Nat)(ak:List Nat)(hb:fE aa rest B)(hl:acc.length+s.size<=140737488355328)
 (k: ∀v',bf HB f fn R D aa ak (dF d (.tuple #[vi s.size,.nilIface]) env) (dC 309 B b v' (IE (acc++s.data.toList))::rest))
 (G: ∀u,(cj fn.ntmps (bI (bd fn) path []) env).bind (λ o=>(pv HB (execOp (bB u env) o.1)).map λ y=>(y,o.1.dst,o.2))=some (.enter 168 #[vp b 0,vs s],d,bI (bd fn) ak []):=by intros;kernel_rfl):
 bf HB f fn R D aa path env (dC 309 B b v (IE acc)::rest):=
 cb 168 [vp b 0,vs s] d ak _ (λ r=>r=.tuple #[vi s.size,.nilIface]) hb (λ w Z _ M=>(Tryz.Buffer_WriteString B b _ s w Z M (lp _) (by rw[IM];exact hl)).mono (by
  rintro e w' ⟨rfl,H,S⟩;exact⟨_,rfl,rfl,by rw[cf];exact H,S⟩)) (λ r v' V=>V▸k v') G
theorem B7(r:Int)(d:Option Nat)(ak:List Nat)(A: -2147483648<=r)(aC:r<=2147483647)(hb:fE aa rest B)(hl:acc.length+4<=140737488355328)
 (k: ∀v',bf HB f fn R D aa ak (dF d (.tuple #[vi (IG r).length,.nilIface]) env) (dC 309 B b v' (IE (acc++Im r))::rest))
 (G: ∀u,(cj fn.ntmps (bI (bd fn) path []) env).bind (λ o=>(pv HB (execOp (bB u env) o.1)).map λ y=>(y,o.1.dst,o.2))=some (.enter 170 #[vp b 0,.int .i32 r],d,bI (bd fn) ak []):=by intros;kernel_rfl):
 bf HB f fn R D aa path env (dC 309 B b v (IE acc)::rest):=
 cb 170 [vp b 0,.int .i32 r] d ak _ (λ x=>x=.tuple #[vi (IG r).length,.nilIface]) hb (λ w Z _ M=>(Tryz.Buffer_WriteRune_k B b _ r A aC w Z M (lp _) (by rw[IM];exact hl)).mono (by
  rintro e w' ⟨rfl,H,S,_⟩;exact⟨_,rfl,rfl,by rw[cf,I0];exact H,S⟩)) (λ r v' V=>V▸k v') G
theorem Ew(d:Option Nat)(ak:List Nat)(hb:fE aa rest B)
 (k: ∀v',bf HB f fn R D aa ak (dF d (vs (sB acc)) env) (dC 309 B b v' (IE acc)::rest))
 (G: ∀u,(cj fn.ntmps (bI (bd fn) path []) env).bind (λ o=>(pv HB (execOp (bB u env) o.1)).map λ y=>(y,o.1.dst,o.2))=some (.enter 167 #[vp b 0],d,bI (bd fn) ak []):=by intros;kernel_rfl):
 bf HB f fn R D aa path env (dC 309 B b v (IE acc)::rest):=
 cb 167 [vp b 0] d ak _ (λ r=>r=vs (sB acc)) hb (λ w Z _ M=>(Tryz.Buffer_String B b acc w Z).mono (by
  rintro e w' ⟨rfl,n,rfl⟩;exact⟨_,rfl,rfl,Z,⟨rfl,rfl,rfl,HZ _,λ _ _=>rfl⟩⟩)) (λ r v' V=>V▸k v') G
end
end
section
open Go.RowKit
variable[OO]
structure u2(b g cap:Nat)(lr:Int)(cur:Array Value)(fz:Nat×Nat)(bs:List Value)(w:World):Prop where
 hb:w.heap[b]?=some (.cells #[.slice (some ⟨g,0,none⟩) bs.length cap,.int .i64 0,.int .i8 lr] 309 (0,0))
 q_:g≠b
 hg:w.heap[g]?=some (.cells cur 5 fz)
 dB:cur.size=cap
 rl:cap<=fz.1
 hle:bs.length<=cap
 AH:cap<=maxLen
 k8:cur.toList.take bs.length=bs
def sj(B b:Nat)(bs:List Value)(w:World):Prop:=
 B<=b/\ ∃(g cap:Nat)(lr:Int)(cur:Array Value)(fz:Nat×Nat),B<=g/\u2 b g cap lr cur fz bs w
def fA(B b:Nat)(bs:List Value)(w:World):Prop:=Lib.IsBuffer 309 5 B b bs w\/sj B b bs w
theorem DH{w:World}{g}{cur}{fz}(hg:w.heap[g]?=some (.cells cur 5 fz))(hz:cur.size<=fz.1){i}(hi:i<cur.size):w.frozen? ⟨g,i,none⟩=false:=by
 simp only[World.frozen?,hg];obtain⟨lo,N⟩:=fz;simp at hz⊢;omega
theorem heap_set{w:World}{g i}{cur}{T}{fz}(hg:w.heap[g]?=some (.cells cur T fz))v:(w.setCell ⟨g,i,none⟩ v).heap[g]?=some (.cells (cur.setIfInBounds i v) T fz):=by
 rw[setCell_eq_setRow w g i cur T fz v hg];exact setRow_heap w g cur _ T _ hg
theorem ox{cur:List Value}{bs}{v}(h:cur.take bs.length=bs)(hl:bs.length<cur.length):(cur.set bs.length v).take (bs++[v]).length=bs++[v]:=by
 rw[HT,I1,List.set_eq_take_append_cons_drop,if_pos hl,h,List.take_append];simp[Ir]
theorem l6: ∀args w,(callFunc 186 args).run HB w=.ok (.enter 186 args) w:=enters_of Tryz.func186 kr rfl
theorem yF: ∀args w,(callFunc 187 args).run HB w=.ok (.enter 187 args) w:=enters_of Tryz.func187 kr rfl
theorem yd: ∀args w,(callFunc 210 args).run HB w=.ok (.enter 210 args) w:=enters_of Tryz.func210 kr rfl
theorem yp: ∀args w,(callFunc 212 args).run HB w=.ok (.enter 212 args) w:=enters_of Tryz.func212 kr rfl
theorem B8: ∀args w,(callFunc 216 args).run HB w=.ok (.enter 216 args) w:=enters_of Tryz.func216 kr rfl
theorem yk: ∀args w,(callFunc 192 args).run HB w=.ok (.enter 192 args) w:=enters_of Tryz.func192 kr rfl
theorem B': ∀args w,(callFunc 165 args).run HB w=.ok (.enter 165 args) w:=enters_of Tryz.func165 kr rfl
theorem iN:HB.follows .mixedOrders=true:=by kernel_rfl
theorem u':HB.underlying 79=some (.slice 5):=by kernel_rfl
theorem u5:HB.underlying 5=some (.int .u8):=by kernel_rfl
theorem u3:HB.underlying 3=some (.int .i64):=by kernel_rfl
theorem u9:HB.underlying 9=some .string:=by kernel_rfl
theorem i5:(HB.info? 5).map (λ i=>(i.zero,i.size,i.bytes))=some (some (.int .u8 0),1,1):=by kernel_rfl
theorem s5:(HB.info? 5).map (·.size)=some 1:=by kernel_rfl
theorem CE{B b g cap}{bs}{c lr}{cur}{fz}{w}(M:B<=b)(j:B<=g)(h:u2 b g cap lr cur fz bs w)(hl:bs.length+1<=cap):
 Calls HB 165 #[vp b 0,.int .u8 c] w λ e w'=>e=.returned .nilIface/\sj B b (bs++[.int .u8 c]) w'/\Below B w w':=by
 obtain⟨hb,q_,hg,K,rl,_,f,k8⟩:=h;have c2:w.cell? ⟨b,2,none⟩=some (.int .i8 lr):=by rw[IF hb];rfl
 have f2:w.frozen? ⟨b,2,none⟩=false:=IH hb 2;have l:=heap_set hb (i:=2) (.int .i8 0);have d0:(w.setCell ⟨b,2,none⟩ (.int .i8 0)).cell? ⟨b,0,none⟩=some (.slice (some ⟨g,0,none⟩) bs.length cap):=by rw[IF l];rfl
 have e0:(w.setCell ⟨b,2,none⟩ (.int .i8 0)).frozen? ⟨b,0,none⟩=false:=IH l 0;have hT:Calls HB 186 #[vp b 0,.int .i64 1] _ _:=Tryz.Buffer_tryGrow_room b (some ⟨g,0,none⟩) bs.length cap 1 _ d0 e0 om f om;have l6:=l6;go_enter Tryz.func165,Tryz.ntmps165;go_wp2_with (go_at_fn (186:FuncId);refine hT.mono ?_);rintro e D ⟨rfl,rfl⟩;have x:=heap_set l (i:=0) (.slice (some ⟨g,0,none⟩) (bs.length+1) cap);have W:((w.setCell ⟨b,2,none⟩ (.int .i8 0)).setCell ⟨b,0,none⟩ (.slice (some ⟨g,0,none⟩) (bs.length+1) cap)).heap[g]?=some (.cells cur 5 fz):=by
  rw[Below.heap_setCell _ _ _ _ q_,Below.heap_setCell _ _ _ _ q_];exact hg
 have C:Below B w ((w.setCell ⟨b,2,none⟩ (.int .i8 0)).setCell ⟨b,0,none⟩ (.slice (some ⟨g,0,none⟩) (bs.length+1) cap)):=((Below.refl B w).setCell (p:=⟨b,2,none⟩) M _).setCell (p:=⟨b,0,none⟩) M _;generalize((w.setCell ⟨b,2,none⟩ (.int .i8 0)).setCell ⟨b,0,none⟩ (.slice (some ⟨g,0,none⟩) (bs.length+1) cap))=D at*;clear hT d0 e0 l c2 f2;have g0:D.cell? ⟨b,0,none⟩=some (.slice (some ⟨g,0,none⟩) (bs.length+1) cap):=by rw[IF x];rfl
 have I:bs.length<cur.size:=by omega
 have a:D.cell? ⟨g,bs.length,none⟩=some cur[bs.length]:=by rw[IF W,IU I]
 have fg:D.frozen? ⟨g,bs.length,none⟩=false:=DH W om I;have s:=f;unfold maxLen at s;go_wp2;go_ret;refine⟨rfl,⟨M,g,cap,0,_,fz,j,?_,q_,heap_set W (i:=bs.length) (.int .u8 c),by simp;omega,rl,by simp;omega,f,?_⟩,C.setCell (p:=⟨g,bs.length,none⟩) j _⟩;rw[Below.heap_setCell _ _ _ _ q_.symm,x];simp;rw[I2];exact ox k8 (by simpa using I)
theorem Dl (g l c n:Nat) (cs:List Value) (w:World) (E:g<w.heap.size) (s: ∀j v,cs[j]?=some v->w.cell? ((⟨g,0,none⟩:Addr).add j)=some v) (an:cs.length=l) (Q:l<=c) (O:1<=n)
 (d:l+n<=140737488355328) (p:c<=140737488355328) (G: ∀v∈cs,v.oneCell'=true):
 Calls HB 212 #[.slice (some ⟨g,0,none⟩) l c,.int .i64 n] w λ e w'=> ∃m cells,e=.returned (.slice (some ⟨w.heap.size,0,none⟩) l m)/\w'.heap[w.heap.size]?=some (.cells cells 5 (0,0))/\
  cells.size=m/\cells.toList.take l=cs/\l+n<=m/\m<=maxLen/\Below w.heap.size w w':=by
 obtain⟨i0,hi,r,B,ax⟩:=info_parts i5;by_cases hC:l+n<2*c;have b:=I3 (P:=HB) w 79 3 79 5 i0 (.int .u8 0) .i64 .i64 u' u3 hi r (2*c) om om om (by rw[ax];omega);rw[show(((2*c:Nat)):Int)=2*(c:Int)by omega]at b;generalize q:grownCap w (2*c) 0 5=m at b;have t:2*c<=m:=by rw[<-q];exact grownCap_ge w _ 0 5
 have h:m<=maxLen:=by rw[<-q];exact grownCap_le_maxLen w _ 0 5 (by unfold maxLen;omega)
 generalize x:(Builtin.zeroCells (Value.int .u8 0).cells (2*c)++Builtin.zeroCells (Value.int .u8 0).cells (m-(2*c)))=Z at b;have u:Z.size=m:=by rw[<-x];simp[size_zeroCells,Value.cells];omega
 clear q x;have i: ∀j v,cs[j]?=some v->(w.alloc (.cells Z 5)).drew.cell? ((⟨g,0,none⟩:Addr).add j)=some v:=λ j v hj=>by
  have N:=s j v hj;rw[IQ]at N⊢;rw[<-N];show(w.alloc (.cells Z 5)).cell? _=_;exact World.cell?_of_block (RowKit.Below.heap_alloc w _ g E)
 have a:=run_copy_row (P:=HB) (w.alloc (.cells Z 5)).drew 79 79 3 5 w.heap.size 0 (2*c) m ⟨g,0,none⟩ l c Z 5 cs u' s5 (heap_alloc_new w _) (by rw[an];exact(IV om).symm) i (by rw[an];omega) G;rw[an]at a;generalize y:(Z.toList.take 0++cs++Z.toList.drop (0+l)).toArray=Y at a
 go_enter_defers Tryz.func212,Tryz.ntmps212
 go_wp2_with (at_builtin;refine IL _ rfl _ _ _ _ rfl _ _ rfl rfl _ _ b ?_);refine(leaves_cons (f:=226) (args:=#[]) sm (enters_of Tryz.func226 kr rfl _ _))<|(Tryz.growSlice_catch_idle _).mono ?_;rintro e D z ⟨rfl,rfl,rfl⟩;refine⟨_,results_tmp rfl _ _ _,?_⟩;have o:Y.toList=cs++Z.toList.drop l:=by rw[<-y];simp
 refine⟨m,Y,rfl,setRow_heap _ _ Z Y 5 (0,0) (heap_alloc_new w _),?_,?_,om,h,?_⟩;have:Y.toList.length=m:=by rw[o,HT,an,Ia,Ih,u];omega
 simpa using this;rw[o,I4 (by rw[an];exact HZ _),Ir (by rw[an];exact HZ _)];exact⟨rfl,rfl,rfl,by simp,λ k U=>by rw[setRow_other _ _ _ _ om];exact Below.heap_alloc w _ k U⟩;have b:=I3 (P:=HB) w 79 3 79 5 i0 (.int .u8 0) .i64 .i64 u' u3 hi r (l+n) om om om (by rw[ax];omega);rw[show(((l+n:Nat)):Int)=(l:Int)+(n:Int)by omega]at b;generalize q:grownCap w (l+n) 0 5=m at b;have t:l+n<=m:=by rw[<-q];exact grownCap_ge w _ 0 5
 have h:m<=maxLen:=by rw[<-q];exact grownCap_le_maxLen w _ 0 5 (by unfold maxLen;omega)
 generalize x:(Builtin.zeroCells (Value.int .u8 0).cells (l+n)++Builtin.zeroCells (Value.int .u8 0).cells (m-(l+n)))=Z at b;have u:Z.size=m:=by rw[<-x];simp[size_zeroCells,Value.cells];omega
 clear q x;have i: ∀j v,cs[j]?=some v->(w.alloc (.cells Z 5)).drew.cell? ((⟨g,0,none⟩:Addr).add j)=some v:=λ j v hj=>by
  have N:=s j v hj;rw[IQ]at N⊢;rw[<-N];show(w.alloc (.cells Z 5)).cell? _=_;exact World.cell?_of_block (RowKit.Below.heap_alloc w _ g E)
 have a:=run_copy_row (P:=HB) (w.alloc (.cells Z 5)).drew 79 79 3 5 w.heap.size 0 (l+n) m ⟨g,0,none⟩ l c Z 5 cs u' s5 (heap_alloc_new w _) (by rw[an];exact(IV om).symm) i (by rw[an];omega) G;rw[an]at a;generalize y:(Z.toList.take 0++cs++Z.toList.drop (0+l)).toArray=Y at a
 go_enter_defers Tryz.func212,Tryz.ntmps212
 go_wp2_with (at_builtin;refine IL _ rfl _ _ _ _ rfl _ _ rfl rfl _ _ b ?_);refine(leaves_cons (f:=226) (args:=#[]) sm (enters_of Tryz.func226 kr rfl _ _))<|(Tryz.growSlice_catch_idle _).mono ?_;rintro e D z ⟨rfl,rfl,rfl⟩;refine⟨_,results_tmp rfl _ _ _,?_⟩;have o:Y.toList=cs++Z.toList.drop l:=by rw[<-y];simp
 refine⟨m,Y,rfl,setRow_heap _ _ Z Y 5 (0,0) (heap_alloc_new w _),?_,?_,om,h,?_⟩;have:Y.toList.length=m:=by rw[o,HT,an,Ia,Ih,u];omega
 simpa using this;rw[o,I4 (by rw[an];exact HZ _),Ir (by rw[an];exact HZ _)];exact⟨rfl,rfl,rfl,by simp,λ k U=>by rw[setRow_other _ _ _ _ om];exact Below.heap_alloc w _ k U⟩
theorem B2 {b cap l} {g} {w:World} (c0:w.cell? ⟨b,0,none⟩=some (.slice (some ⟨g,0,none⟩) l cap)) (D:w.cell? ⟨b,1,none⟩=some (.int .i64 0)) (hl:l<=140737488355328):
 Calls HB 210 #[vp b 0] w λ e w'=>e=.returned (.int .i64 l)/\ ∃n,w'=w.drewN n:=by
 have mixed:=iN;have hw:IntKind.i64.wrap (l:Int)=l:=by rw[IW];omega
 go_enter Tryz.func210,Tryz.ntmps210;go_wp2;go_region_o
 all_goals(go_wp2;go_ret;exact⟨by simp[hw],1,rfl⟩)
theorem C8 {B b g cap n l:Nat} {bs:List Value} {lr:Int} {cur:Array Value} {fz:Nat×Nat} {w:World} (M:B<=b) (t:B<=w.heap.size) (N:bs.length=l)
 (hb:w.heap[b]?=some (.cells #[.slice (some ⟨g,0,none⟩) l cap,.int .i64 0,.int .i8 lr] 309 (0,0))) (hg:w.heap[g]?=some (.cells cur 5 fz)) (Q:l<=cap) (f:cap<=maxLen) (k8:cur.toList.take l=bs)
 (G: ∀v∈bs,v.oneCell'=true) (O:1<=n) (a:cap-l<n) (d:l+n<=140737488355328):
 Calls HB 187 #[vp b 0,.int .i64 n] w λ e w'=>e=.returned (.int .i64 l)/\ ∃xs,xs.length=n/\Lib.IsBuffer 309 5 B b (bs++xs) w'/\Below B w w':=by
 rcases Nat.eq_zero_or_pos l with al|al
 .
  subst al;have F: ∀W,(binOp .eql 79 (.slice (some ⟨g,0,none⟩) 0 cap) (.slice none 0 0)).run HB W=.ok (.bool false) W:=λ W=>I5 W _ _ _ u'
  have J:w.cell? ⟨b,0,none⟩=some (.slice (some ⟨g,0,none⟩) 0 cap):=by rw[IF hb];rfl
  have I:w.cell? ⟨b,1,none⟩=some (.int .i64 0):=by rw[IF hb];rfl
  have x:=B2 (b:=b) (w:=w) J I om;have mixed:=iN;have l6:=l6;have yd:=yd;have yp:=yp;go_enter Tryz.func187,Tryz.ntmps187;go_wp2_with (go_at_fn (210:FuncId);refine x.mono ?_);rintro e r ⟨rfl,k,h⟩;have c:r.heap[b]?=some (.cells #[.slice (some ⟨g,0,none⟩) 0 cap,.int .i64 0,.int .i8 lr] 309 (0,0)):=by rw[h];exact hb
  have H:r.heap[g]?=some (.cells cur 5 fz):=by rw[h];exact hg
  have c0:r.cell? ⟨b,0,none⟩=some (.slice (some ⟨g,0,none⟩) 0 cap):=by rw[IF c];rfl
  have D:r.cell? ⟨b,1,none⟩=some (.int .i64 0):=by rw[IF c];rfl
  have f0:r.frozen? ⟨b,0,none⟩=false:=IH c 0;have f1:r.frozen? ⟨b,1,none⟩=false:=IH c 1;have z:=Lib.hid h;clear h x J I;have s:=f;unfold maxLen at s;go_wp2_with (go_at_fn (186:FuncId);refine(Tryz.Buffer_tryGrow_none b _ 0 cap n _ c0 om f om).mono ?_;rintro e w' ⟨rfl,rfl⟩);have p:cap<=140737488355328:=by omega
  have K:=Iv c;have y:=Iv H;have P:IntKind.i64.wrap (n:Int)=n:=by rw[IW];omega
  have an:bs.length=0:=by omega
  have o:0+n<=140737488355328:=by omega
  go_region_with_o (
   go_at_fn (212:FuncId)
   refine(Dl g 0 cap n bs _ ?_ ?_ an om O o p G).mono ?_;exact y;exact λ j v hj=>I6 H 0 j v (by rw[k8];exact hj)
   rintro e w2 ⟨m,cells,rfl,hN,A,u,i,E,C⟩;have q:w2.heap[b]?=some (.cells #[.slice (some ⟨g,0,none⟩) 0 cap,.int .i64 0,.int .i8 lr] 309 (0,0)):=(C.block b K).trans c;have d0:w2.cell? ⟨b,0,none⟩=some (.slice (some ⟨g,0,none⟩) 0 cap):=by rw[IF q];rfl
   have d1:w2.cell? ⟨b,1,none⟩=some (.int .i64 0):=by rw[IF q];rfl
   have e0:w2.frozen? ⟨b,0,none⟩=false:=IH q 0;have aw:w2.frozen? ⟨b,1,none⟩=false:=IH q 1)
  all_goals(
   go_wp2;go_ret;have L:w'.heap.size=w.heap.size:=by rw[z.out];rfl
   have aj:Below B w w'.drew:=by rw[z.out];exact⟨rfl,rfl,rfl,HZ _,λ _ _=>rfl⟩
   have aO:=I7 (l:=0) (n:=n) (e:=5) (T:=309) (bs:=bs) M q hN (by show B<=w'.heap.size;omega) (by show w'.heap.size≠b;omega) A u i E (aj.trans (C.mono (by show B<=w'.heap.size;omega))) (.slice (some ⟨w'.heap.size,0,none⟩) 0 m);exact⟨rfl,by simpa using aO⟩)
 .
  have R: ¬l=0:=by omega
  have F: ∀W,(binOp .eql 79 (.slice (some ⟨g,0,none⟩) l cap) (.slice none 0 0)).run HB W=.ok (.bool false) W:=λ W=>I5 W _ _ _ u'
  have J:w.cell? ⟨b,0,none⟩=some (.slice (some ⟨g,0,none⟩) l cap):=by rw[IF hb];rfl
  have I:w.cell? ⟨b,1,none⟩=some (.int .i64 0):=by rw[IF hb];rfl
  have x:=B2 (b:=b) (w:=w) J I om;have mixed:=iN;have l6:=l6;have yd:=yd;have yp:=yp;go_enter Tryz.func187,Tryz.ntmps187;go_wp2_with (go_at_fn (210:FuncId);refine x.mono ?_);rintro e r ⟨rfl,k,h⟩;have c:r.heap[b]?=some (.cells #[.slice (some ⟨g,0,none⟩) l cap,.int .i64 0,.int .i8 lr] 309 (0,0)):=by rw[h];exact hb
  have H:r.heap[g]?=some (.cells cur 5 fz):=by rw[h];exact hg
  have c0:r.cell? ⟨b,0,none⟩=some (.slice (some ⟨g,0,none⟩) l cap):=by rw[IF c];rfl
  have D:r.cell? ⟨b,1,none⟩=some (.int .i64 0):=by rw[IF c];rfl
  have f0:r.frozen? ⟨b,0,none⟩=false:=IH c 0;have f1:r.frozen? ⟨b,1,none⟩=false:=IH c 1;have z:=Lib.hid h;clear h x J I;have s:=f;unfold maxLen at s;go_wp2_with (go_at_fn (186:FuncId);refine(Tryz.Buffer_tryGrow_none b _ l cap n _ c0 om f om).mono ?_;rintro e w' ⟨rfl,rfl⟩);have p:cap<=140737488355328:=by omega
  have K:=Iv c;have y:=Iv H;have P:IntKind.i64.wrap (n:Int)=n:=by rw[IW];omega
  have an:bs.length=l:=by omega
  have o:l+n<=140737488355328:=by omega
  go_region_with_o (
   go_at_fn (212:FuncId)
   refine(Dl g l cap n bs _ ?_ ?_ an om O o p G).mono ?_;exact y;exact λ j v hj=>I6 H l j v (by rw[k8];exact hj)
   rintro e w2 ⟨m,cells,rfl,hN,A,u,i,E,C⟩;have q:w2.heap[b]?=some (.cells #[.slice (some ⟨g,0,none⟩) l cap,.int .i64 0,.int .i8 lr] 309 (0,0)):=(C.block b K).trans c;have d0:w2.cell? ⟨b,0,none⟩=some (.slice (some ⟨g,0,none⟩) l cap):=by rw[IF q];rfl
   have d1:w2.cell? ⟨b,1,none⟩=some (.int .i64 0):=by rw[IF q];rfl
   have e0:w2.frozen? ⟨b,0,none⟩=false:=IH q 0;have aw:w2.frozen? ⟨b,1,none⟩=false:=IH q 1)
  all_goals(
   go_wp2;go_ret;have L:w'.heap.size=w.heap.size:=by rw[z.out];rfl
   have aj:Below B w w'.drew:=by rw[z.out];exact⟨rfl,rfl,rfl,HZ _,λ _ _=>rfl⟩
   have aO:=I7 (l:=l) (n:=n) (e:=5) (T:=309) (bs:=bs) M q hN (by show B<=w'.heap.size;omega) (by show w'.heap.size≠b;omega) A u i E (aj.trans (C.mono (by show B<=w'.heap.size;omega))) (.slice (some ⟨w'.heap.size,0,none⟩) l m);exact⟨rfl,aO⟩)
end
section
open Go.RowKit
variable[OO]
theorem DJ {B b g cap} {bs} {c lr} {cur} {fz} {w} (M:B<=b) (t:B<=w.heap.size) (h:u2 b g cap lr cur fz bs w) (hl: ¬bs.length+1<=cap) (G: ∀v∈bs,v.oneCell'=true)
 (d:bs.length+1<=140737488355328):
 Calls HB 165 #[vp b 0,.int .u8 c] w λ e w'=>e=.returned .nilIface/\Lib.IsBuffer 309 5 B b (bs++[.int .u8 c]) w'/\Below B w w':=by
 obtain⟨hb,q_,hg,K,rl,hle,f,k8⟩:=h;have c2:w.cell? ⟨b,2,none⟩=some (.int .i8 lr):=by rw[IF hb];rfl
 have f2:w.frozen? ⟨b,2,none⟩=false:=IH hb 2;have l:(w.setCell ⟨b,2,none⟩ (.int .i8 0)).heap[b]?=some (.cells #[.slice (some ⟨g,0,none⟩) bs.length cap,.int .i64 0,.int .i8 0] 309 (0,0)):=by rw[heap_set hb (i:=2) (.int .i8 0)];rfl
 have y:(w.setCell ⟨b,2,none⟩ (.int .i8 0)).heap[g]?=some (.cells cur 5 fz):=by rw[Below.heap_setCell _ _ _ _ q_];exact hg
 have Q:(w.setCell ⟨b,2,none⟩ (.int .i8 0)).heap.size=w.heap.size:=by simp[World.setCell]
 have k:Below B w (w.setCell ⟨b,2,none⟩ (.int .i8 0)):=(Below.refl B w).setCell (p:=⟨b,2,none⟩) M _;have d0:(w.setCell ⟨b,2,none⟩ (.int .i8 0)).cell? ⟨b,0,none⟩=some (.slice (some ⟨g,0,none⟩) bs.length cap):=by rw[IF l];rfl
 have hT:Calls HB 186 #[vp b 0,.int .i64 1] _ _:=Tryz.Buffer_tryGrow_none b (some ⟨g,0,none⟩) bs.length cap 1 _ d0 om f om;have hG:Calls HB 187 #[vp b 0,.int .i64 1] _ _:=C8 (n:=1) M (by rw[Q];exact t) rfl l y hle f k8 G (HZ 1) om d;have l6:=l6;have yF:=yF;clear Q;go_enter Tryz.func165,Tryz.ntmps165;go_wp2_with (go_at_fn (186:FuncId);refine hT.mono ?_);rintro e D ⟨rfl,rfl⟩;go_wp2_with (go_at_fn (187:FuncId);refine hG.mono ?_);rintro e D ⟨rfl,xs,U,Z,C⟩;have H:=k.trans C;clear hT hG C k c2 f2 d0;obtain⟨-,Y,J⟩:=Z.cases;rcases J with⟨F,-⟩|⟨g2,m,O,q,j,W,R,E,ab,u,aa⟩
 exact absurd (congrArg List.length F) (by simp[U]);rw[HT,U]at q R u;have d0:D.cell? ⟨b,0,none⟩=some (.slice (some ⟨g2,0,none⟩) (bs.length+1) m):=by rw[IF q];rfl
 have I:bs.length<O.size:=by omega
 have a:D.cell? ⟨g2,bs.length,none⟩=some O[bs.length]:=by rw[IF W,IU I]
 have fg:D.frozen? ⟨g2,bs.length,none⟩=false:=IH W _;have s:=E;unfold maxLen at s;go_wp2;go_ret;obtain⟨r1,V⟩:=Lib.poke_end (v:=.int .u8 c) M q j W E ab aa R;have aw:O.toList.take bs.length=bs:=by
  have S:=congrArg (List.take bs.length) u
  rwa [List.take_take,IV (Nat.le_succ _),I8 rfl]at S
 rw[aw]at r1;exact⟨rfl,r1,H.trans V⟩
theorem CF{B b}{bs}{c}{w}(h:fA B b bs w)(t:B<=w.heap.size)(G: ∀v∈bs,v.oneCell'=true)(d:bs.length+1<=140737488355328):
 Calls HB 165 #[vp b 0,.int .u8 c] w λ e w'=>e=.returned .nilIface/\fA B b (bs++[.int .u8 c]) w'/\Below B w w':=by
 rcases h with h|⟨M,g,cap,lr,cur,fz,j,h⟩
 exact(Tryz.Buffer_WriteByte B b bs c w h t G d).mono λ _ _⟨a,b,c⟩=>⟨a,.inl b,c⟩
 by_cases hl:bs.length+1<=cap;exact(CE M j h hl).mono λ _ _⟨a,b,c⟩=>⟨a,.inr b,c⟩
 exact(DJ M t h hl G d).mono λ _ _⟨a,b,c⟩=>⟨a,.inl b,c⟩
theorem E7{b g cap}{l}{lr}{cur}{fz}{w}(h:u2 b g cap lr cur fz (IE l) w):
 Calls HB 167 #[vp b 0] w λ e w'=>e=.returned (.string ⟨l.toArray⟩)/\ ∃n,w'=w.drewN n:=by
 obtain⟨hb,q_,hg,K,rl,hle,f,k8⟩:=h;rw[IM]at hb hle k8;have c0:w.cell? ⟨b,0,none⟩=some (.slice (some ⟨g,0,none⟩) l.length cap):=by rw[IF hb];rfl
 have D:w.cell? ⟨b,1,none⟩=some (.int .i64 0):=by rw[IF hb];rfl
 have t:=run_convert_bytes_back (P:=HB) w.drew 79 9 5 ⟨g,0,none⟩ cap l u' u5 u9 (Lib.bytes_of_row (w:=w.drew) hg k8);have mixed:=iN;unfold maxLen at f;go_enter Tryz.func167,Tryz.ntmps167;go_wp2;go_region_o
 all_goals(go_wp2;go_ret;exact⟨rfl,1,rfl⟩)
theorem a167{B b}{l}{w}(h:fA B b (IE l) w):
 Calls HB 167 #[vp b 0] w λ e w'=>e=.returned (.string ⟨l.toArray⟩)/\ ∃n,w'=w.drewN n:=by
 rcases h with h|⟨M,g,cap,lr,cur,fz,j,h⟩
 exact Tryz.Buffer_String B b l w h;exact E7 h
theorem EC s w(aJ:s.size<=140737488355328):
 Calls HB 171 #[vs s] w λ e w'=> ∃b,e=.returned (vp b 0)/\fA w.heap.size b (IE s.data.toList) w'/\Below w.heap.size w w':=by
 have t:=run_bytes_of_string (P:=HB) w 9 79 5 s u9 u' u5;have aO:=grownCap_ge w s.size 0 5;have a:=grownCap_le_maxLen w s.size 0 5 (by unfold maxLen;omega);generalize grownCap w s.size 0 5=cap at*;go_enter Tryz.func171,Tryz.ntmps171;go_wp2;go_ret;have c:(bytesRow s cap).size=cap:=by
  unfold bytesRow;simp only[Array.size_append,Array.size_map,Array.size_replicate];show s.size+(cap-s.size)=cap;omega
 generalize o:w.alloc (Obj.cells (bytesRow s cap) 5 ((bytesRow s cap).size,(bytesRow s cap).size+1))=W;have l:W.heap.size=w.heap.size+1:=by rw[<-o];simp
 have h:W.heap[w.heap.size]?=some (.cells (bytesRow s cap) 5 ((bytesRow s cap).size,(bytesRow s cap).size+1)):=by rw[<-o];exact heap_alloc_new w _
 have d:Below w.heap.size w W:=by rw[<-o];exact⟨rfl,rfl,rfl,by simp,λ k U=>Below.heap_alloc w _ k U⟩
 have hl:(IE s.data.toList).length=s.size:=by rw[IM];simp
 refine⟨w.heap.size+1,rfl,.inr ⟨om,w.heap.size,cap,0,bytesRow s cap,((bytesRow s cap).size,(bytesRow s cap).size+1),HZ _,?_,om,?_,c,by rw[c];exact HZ _,om,a,?_⟩,?_⟩;show(W.alloc _).heap[w.heap.size+1]?=_;rw[<-l,hl];exact heap_alloc_new W _;show(W.alloc _).heap[w.heap.size]?=_;rw[Below.heap_alloc W _ _ om];exact h;rw[hl];unfold bytesRow IE;simp only[Array.toList_append,I9];rw[I8 sm];exact d.trans ⟨rfl,rfl,rfl,by simp,λ k U=>Below.heap_alloc W _ k om⟩
theorem kx{g}{T}{fz}: ∀vs bs cur(w:World),w.heap[g]?=some (.cells cur T fz)->cur.toList.take bs.length=bs->bs.length+vs.length<=cur.size->
 (∃a,(w.setCells g bs.length vs).heap[g]?=some (.cells a T fz)/\a.size=cur.size/\a.toList.take (bs.length+vs.length)=bs++vs)/\(∀k,k≠g->(w.setCells g bs.length vs).heap[k]?=w.heap[k]?)/\
  (w.setCells g bs.length vs).heap.size=w.heap.size/\(w.setCells g bs.length vs).os=w.os/\(w.setCells g bs.length vs).tape=w.tape/\(w.setCells g bs.length vs).output=w.output
 |[],bs,cur,w,hg,k8,_=>⟨⟨cur,hg,rfl,by simpa using k8⟩,λ _ _=>rfl,rfl,rfl,rfl,rfl⟩
 |v::r,bs,cur,w,hg,k8,hl=>by
  have I:bs.length<cur.toList.length:=by simp at hl⊢;omega
  have y:=heap_set hg (i:=bs.length) v;have e:=ox (v:=v) k8 I;obtain⟨⟨a,G,H,S⟩,Y,aI,h6,aU,h8⟩:=kx r (bs++[v]) _ _ y (by rw[I2];exact e) (by simp at hl⊢;omega);rw[World.setCells];rw[HT,I1]at G S Y aI h6 aU h8;refine⟨⟨a,G,by simpa using H,by rw[Iz,Nat.add_comm r.length 1,<-Nat.add_assoc,S,List.append_assoc];rfl⟩,λ k U=>by rw[Y k U,Below.heap_setCell _ _ _ _ U],by rw[aI];simp[World.setCell],?_,?_,?_⟩;rw[h6];simp[World.setCell];rw[aU];simp[World.setCell];rw[h8];simp[World.setCell]
end
section
open Go.RowKit
variable[OO]
theorem ix{g n cap k}{cur}{fz}{w:World}news(U:news.length=k)(G: ∀u∈news,u.oneCell'=true)(hg:w.heap[g]?=some (.cells cur 5 fz))(hz:cur.size<=fz.1)(K:cur.size=cap)(a:n+k<=cap):
 (Builtin.append_ #[79,79] 79 #[.slice (some ⟨g,0,none⟩) n cap,.slice (some ⟨w.heap.size,0,none⟩) k k]).run HB (w.alloc (.cells news.toArray 5))=.ok (.slice (some ⟨g,0,none⟩) (n+k) cap) ((w.alloc (.cells news.toArray 5)).setCells g n news):=by
 obtain⟨i0,hi,r,B,ax⟩:=info_parts i5;have y:(w.alloc (.cells news.toArray 5)).heap[g]?=some (.cells cur 5 fz):=by rw[Below.heap_alloc w _ g (Iv hg)];exact hg
 have q:=heap_alloc_new w (.cells news.toArray 5);have h:=run_append_room_cells (P:=HB) (w.alloc (.cells news.toArray 5)) 79 79 5 i0 u' hi g 0 n cap ⟨w.heap.size,0,none⟩ k k news (by rw[B,U,IX])
  (λ j u hj=>by rw[IQ,HR,IF q];simpa using hj) G a
  (λ j hj=>by rw[B,IF y,IU om];rfl) (λ j hj=>DH y hz (by rw[B];omega))
 rw[B,IX,HR]at h;exact h
theorem xi {g n cap:Nat} {r:Int} {cur:Array Value} {fz:Nat×Nat} {w:World} (N:128<=r) (G:r<=2047) (hg:w.heap[g]?=some (.cells cur 5 fz)) (hz:cur.size<=fz.1) (K:cur.size=cap) (a:n+4<=cap) (f:cap<=maxLen):
 Calls HB 216 #[.slice (some ⟨g,0,none⟩) n cap,.int .i32 r] w λ e w'=>e=.returned (.slice (some ⟨g,0,none⟩) (n+2) cap)/\w'=(w.alloc (.cells #[.int .u8 (192+r/64),.int .u8 (128+r%64)] 5)).setCells g n [.int .u8 (192+r/64),.int .u8 (128+r%64)]:=by
 have b:=ix (n:=n) (k:=2) [.int .u8 (192+r/64),.int .u8 (128+r%64)] rfl (by intro u hu;simp at hu;rcases hu with rfl|rfl<;>rfl) hg hz K om;go_enter Tryz.func216,Tryz.ntmps216;go_wp2_with (at_builtin;refine IL _ rfl _ _ _ _ rfl _ _ rfl rfl _ _ b ?_);go_wp2;go_ret;exact⟨rfl,rfl⟩
theorem zl {g n cap:Nat} {r:Int} {cur:Array Value} {fz:Nat×Nat} {w:World} (N:2048<=r) (G:r<55296) (hg:w.heap[g]?=some (.cells cur 5 fz)) (hz:cur.size<=fz.1) (K:cur.size=cap) (a:n+4<=cap) (f:cap<=maxLen):
 Calls HB 216 #[.slice (some ⟨g,0,none⟩) n cap,.int .i32 r] w λ e w'=>e=.returned (.slice (some ⟨g,0,none⟩) (n+3) cap)/\w'=(w.alloc (.cells #[.int .u8 (224+r/4096),.int .u8 (128+r/64%64),.int .u8 (128+r%64)] 5)).setCells g n [.int .u8 (224+r/4096),.int .u8 (128+r/64%64),.int .u8 (128+r%64)]:=by
 have b:=ix (n:=n) (k:=3) [.int .u8 (224+r/4096),.int .u8 (128+r/64%64),.int .u8 (128+r%64)] rfl (by intro u hu;simp at hu;rcases hu with rfl|rfl|rfl<;>rfl) hg hz K om;go_enter Tryz.func216,Tryz.ntmps216;go_wp2_with (at_builtin;refine IL _ rfl _ _ _ _ rfl _ _ rfl rfl _ _ b ?_);go_wp2;go_ret;exact⟨rfl,rfl⟩
theorem ze {g n cap:Nat} {r:Int} {cur:Array Value} {fz:Nat×Nat} {w:World} (N:57343<r) (G:r<=65535) (hg:w.heap[g]?=some (.cells cur 5 fz)) (hz:cur.size<=fz.1) (K:cur.size=cap) (a:n+4<=cap) (f:cap<=maxLen):
 Calls HB 216 #[.slice (some ⟨g,0,none⟩) n cap,.int .i32 r] w λ e w'=>e=.returned (.slice (some ⟨g,0,none⟩) (n+3) cap)/\w'=(w.alloc (.cells #[.int .u8 (224+r/4096),.int .u8 (128+r/64%64),.int .u8 (128+r%64)] 5)).setCells g n [.int .u8 (224+r/4096),.int .u8 (128+r/64%64),.int .u8 (128+r%64)]:=by
 have b:=ix (n:=n) (k:=3) [.int .u8 (224+r/4096),.int .u8 (128+r/64%64),.int .u8 (128+r%64)] rfl (by intro u hu;simp at hu;rcases hu with rfl|rfl|rfl<;>rfl) hg hz K om;go_enter Tryz.func216,Tryz.ntmps216;go_wp2_with (at_builtin;refine IL _ rfl _ _ _ _ rfl _ _ rfl rfl _ _ b ?_);go_wp2;go_ret;exact⟨rfl,rfl⟩
theorem vr {g n cap:Nat} {r:Int} {cur:Array Value} {fz:Nat×Nat} {w:World} (N:65536<=r) (G:r<=1114111) (hg:w.heap[g]?=some (.cells cur 5 fz)) (hz:cur.size<=fz.1) (K:cur.size=cap) (a:n+4<=cap) (f:cap<=maxLen):
 Calls HB 216 #[.slice (some ⟨g,0,none⟩) n cap,.int .i32 r] w λ e w'=>e=.returned (.slice (some ⟨g,0,none⟩) (n+4) cap)/\w'=(w.alloc (.cells #[.int .u8 (240+r/262144),.int .u8 (128+r/4096%64),.int .u8 (128+r/64%64),.int .u8 (128+r%64)] 5)).setCells g n [.int .u8 (240+r/262144),.int .u8 (128+r/4096%64),.int .u8 (128+r/64%64),.int .u8 (128+r%64)]:=by
 have b:=ix (n:=n) (k:=4) [.int .u8 (240+r/262144),.int .u8 (128+r/4096%64),.int .u8 (128+r/64%64),.int .u8 (128+r%64)] rfl (by intro u hu;simp at hu;rcases hu with rfl|rfl|rfl|rfl<;>rfl) hg hz K om;go_enter Tryz.func216,Tryz.ntmps216;go_wp2_with (at_builtin;refine IL _ rfl _ _ _ _ rfl _ _ rfl rfl _ _ b ?_);go_wp2;go_ret;exact⟨rfl,rfl⟩
theorem xj {g n cap:Nat} {r:Int} {cur:Array Value} {fz:Nat×Nat} {w:World} (N: -2147483648<=r) (G:r<0) (hg:w.heap[g]?=some (.cells cur 5 fz)) (hz:cur.size<=fz.1) (K:cur.size=cap) (a:n+4<=cap) (f:cap<=maxLen):
 Calls HB 216 #[.slice (some ⟨g,0,none⟩) n cap,.int .i32 r] w λ e w'=>e=.returned (.slice (some ⟨g,0,none⟩) (n+3) cap)/\w'=(w.alloc (.cells #[.int .u8 (239),.int .u8 (191),.int .u8 (189)] 5)).setCells g n [.int .u8 (239),.int .u8 (191),.int .u8 (189)]:=by
 have b:=ix (n:=n) (k:=3) [.int .u8 (239),.int .u8 (191),.int .u8 (189)] rfl (by intro u hu;simp at hu;rcases hu with rfl|rfl|rfl<;>rfl) hg hz K om;go_enter Tryz.func216,Tryz.ntmps216;go_wp2_with (at_builtin;refine IL _ rfl _ _ _ _ rfl _ _ rfl rfl _ _ b ?_);go_wp2;go_ret;exact⟨rfl,rfl⟩
theorem wZ {g n cap:Nat} {r:Int} {cur:Array Value} {fz:Nat×Nat} {w:World} (N:55296<=r) (G:r<=57343) (hg:w.heap[g]?=some (.cells cur 5 fz)) (hz:cur.size<=fz.1) (K:cur.size=cap) (a:n+4<=cap) (f:cap<=maxLen):
 Calls HB 216 #[.slice (some ⟨g,0,none⟩) n cap,.int .i32 r] w λ e w'=>e=.returned (.slice (some ⟨g,0,none⟩) (n+3) cap)/\w'=(w.alloc (.cells #[.int .u8 (239),.int .u8 (191),.int .u8 (189)] 5)).setCells g n [.int .u8 (239),.int .u8 (191),.int .u8 (189)]:=by
 have b:=ix (n:=n) (k:=3) [.int .u8 (239),.int .u8 (191),.int .u8 (189)] rfl (by intro u hu;simp at hu;rcases hu with rfl|rfl|rfl<;>rfl) hg hz K om;go_enter Tryz.func216,Tryz.ntmps216;go_wp2_with (at_builtin;refine IL _ rfl _ _ _ _ rfl _ _ rfl rfl _ _ b ?_);go_wp2;go_ret;exact⟨rfl,rfl⟩
theorem wC {g n cap:Nat} {r:Int} {cur:Array Value} {fz:Nat×Nat} {w:World} (N:1114111<r) (G:r<=2147483647) (hg:w.heap[g]?=some (.cells cur 5 fz)) (hz:cur.size<=fz.1) (K:cur.size=cap) (a:n+4<=cap) (f:cap<=maxLen):
 Calls HB 216 #[.slice (some ⟨g,0,none⟩) n cap,.int .i32 r] w λ e w'=>e=.returned (.slice (some ⟨g,0,none⟩) (n+3) cap)/\w'=(w.alloc (.cells #[.int .u8 (239),.int .u8 (191),.int .u8 (189)] 5)).setCells g n [.int .u8 (239),.int .u8 (191),.int .u8 (189)]:=by
 have b:=ix (n:=n) (k:=3) [.int .u8 (239),.int .u8 (191),.int .u8 (189)] rfl (by intro u hu;simp at hu;rcases hu with rfl|rfl|rfl<;>rfl) hg hz K om;go_enter Tryz.func216,Tryz.ntmps216;go_wp2_with (at_builtin;refine IL _ rfl _ _ _ _ rfl _ _ rfl rfl _ _ b ?_);go_wp2;go_ret;exact⟨rfl,rfl⟩
theorem EM{g n cap}{r}{cur}{fz}{w}(N: -2147483648<=r)(G:r<=2147483647)(I:r<0\/128<=r)(hg:w.heap[g]?=some (.cells cur 5 fz))(hz:cur.size<=fz.1)(K:cur.size=cap)(a:n+4<=cap)(f:cap<=maxLen):
 Calls HB 216 #[.slice (some ⟨g,0,none⟩) n cap,.int .i32 r] w λ e w'=>e=.returned (.slice (some ⟨g,0,none⟩) (n+(IG r).length) cap)/\w'=(w.alloc (.cells (IG r).toArray 5)).setCells g n (IG r):=by
 rcases I with O|O
 have e:IG r=[.int .u8 239,.int .u8 191,.int .u8 189]:=by unfold IG;rw[IY (.inl O)];rfl
 rw[e];exact xj N O hg hz K a f;rcases IP 2047 r with H|H
 rcases IP r 55296 with S|S
 have e:IG r=[.int .u8 (224+r/4096),.int .u8 (128+r/64%64),.int .u8 (128+r%64)]:=by unfold IG;rw[I_ (.inl ⟨om,S⟩)];rfl
 rw[e];exact zl om S hg hz K a f;rcases IP 57343 r with Y|Y
 rcases IP 65535 r with aI|aI
 rcases IP 1114111 r with h6|h6
 have e:IG r=[.int .u8 239,.int .u8 191,.int .u8 189]:=by unfold IG;rw[IY (.inr (.inr h6))];rfl
 rw[e];exact wC h6 G hg hz K a f;have e:IG r=[.int .u8 (240+r/262144),.int .u8 (128+r/4096%64),.int .u8 (128+r/64%64),.int .u8 (128+r%64)]:=by unfold IG;rw[Lib.encodeRuneZ_four om h6];rfl
 rw[e];exact vr om h6 hg hz K a f;have e:IG r=[.int .u8 (224+r/4096),.int .u8 (128+r/64%64),.int .u8 (128+r%64)]:=by unfold IG;rw[I_ (.inr ⟨Y,aI⟩)];rfl
 rw[e];exact ze Y aI hg hz K a f;have e:IG r=[.int .u8 239,.int .u8 191,.int .u8 189]:=by unfold IG;rw[IY (.inr (.inl ⟨S,Y⟩))];rfl
 rw[e];exact wZ S Y hg hz K a f;have e:IG r=[.int .u8 (192+r/64),.int .u8 (128+r%64)]:=by unfold IG;rw[Lib.encodeRuneZ_two O H];rfl
 rw[e];exact xi O H hg hz K a f
theorem E6 {g n cap} {r} {cur} {fz} {w} (N: -2147483648<=r) (G:r<=2147483647) (I:r<0\/128<=r) (hg:w.heap[g]?=some (.cells cur 5 fz)) (hz:cur.size<=fz.1) (K:cur.size=cap) (a:n+4<=cap) (f:cap<=maxLen):
 Calls HB 192 #[.slice (some ⟨g,0,none⟩) n cap,.int .i32 r] w λ e w'=>e=.returned (.slice (some ⟨g,0,none⟩) (n+(IG r).length) cap)/\w'=(w.alloc (.cells (IG r).toArray 5)).setCells g n (IG r):=by
 have hm:=EM (n:=n) N G I hg hz K a f;have B8:=B8;go_enter Tryz.func192,Tryz.ntmps192;rcases I with I|I<;>go_wp2_with (go_at_fn (216:FuncId);refine hm.mono ?_)<;>(rintro e w' ⟨rfl,rfl⟩;go_wp2;go_ret;exact⟨rfl,rfl⟩)
end
section
open Go.RowKit
variable[OO]
theorem CQ {B b g cap:Nat} {bs:List Value} {r lr:Int} {cur:Array Value} {fz:Nat×Nat} {w:World} (M:B<=b) (j:B<=g) (t:B<=w.heap.size) (h:u2 b g cap lr cur fz bs w) (hl:bs.length+4<=cap) (A: -2147483648<=r) (aC:r<=2147483647) (I:r<0\/128<=r):
 Calls HB 170 #[vp b 0,.int .i32 r] w λ e w'=>(∃v,e=.returned v)/\sj B b (bs++IG r) w'/\Below B w w':=by
 obtain⟨hb,q_,hg,K,rl,hle,f,k8⟩:=h;have T:=IT r;obtain⟨z,hz,V⟩: ∃z,IntKind.u32.wrap r=z/\128<=z:=⟨_,rfl,by rw[IZ];omega⟩;have c2:w.cell? ⟨b,2,none⟩=some (.int .i8 lr):=by rw[IF hb];rfl
 have f2:w.frozen? ⟨b,2,none⟩=false:=IH hb 2;have l:=heap_set hb (i:=2) (.int .i8 0);have d0:(w.setCell ⟨b,2,none⟩ (.int .i8 0)).cell? ⟨b,0,none⟩=some (.slice (some ⟨g,0,none⟩) bs.length cap):=by rw[IF l];rfl
 have e0:(w.setCell ⟨b,2,none⟩ (.int .i8 0)).frozen? ⟨b,0,none⟩=false:=IH l 0;have hT:Calls HB 186 #[vp b 0,.int .i64 4] _ _:=Tryz.Buffer_tryGrow_room b (some ⟨g,0,none⟩) bs.length cap 4 _ d0 e0 om f om;have l6:=l6;have yk:=yk;go_enter Tryz.func170,Tryz.ntmps170;go_wp2_with (go_at_fn (186:FuncId);refine hT.mono ?_);rintro e D ⟨rfl,rfl⟩;have x:=heap_set l (i:=0) (.slice (some ⟨g,0,none⟩) (bs.length+4) cap);have W:((w.setCell ⟨b,2,none⟩ (.int .i8 0)).setCell ⟨b,0,none⟩ (.slice (some ⟨g,0,none⟩) (bs.length+4) cap)).heap[g]?=some (.cells cur 5 fz):=by
  rw[Below.heap_setCell _ _ _ _ q_,Below.heap_setCell _ _ _ _ q_];exact hg
 have C:Below B w ((w.setCell ⟨b,2,none⟩ (.int .i8 0)).setCell ⟨b,0,none⟩ (.slice (some ⟨g,0,none⟩) (bs.length+4) cap)):=((Below.refl B w).setCell (p:=⟨b,2,none⟩) M _).setCell (p:=⟨b,0,none⟩) M _;generalize((w.setCell ⟨b,2,none⟩ (.int .i8 0)).setCell ⟨b,0,none⟩ (.slice (some ⟨g,0,none⟩) (bs.length+4) cap))=D at*;clear hT d0 e0 l c2 f2;have g0:D.cell? ⟨b,0,none⟩=some (.slice (some ⟨g,0,none⟩) (bs.length+4) cap):=by rw[IF x];rfl
 have hA:=E6 (n:=bs.length) (w:=D) A aC I W om K hl f;have s:=f;unfold maxLen at s;go_wp2_with (go_at_fn (192:FuncId);refine hA.mono ?_);rintro e w2 ⟨rfl,rfl⟩;have m:=Iv x;have cI:=Iv W;have aE:(D.alloc (.cells (IG r).toArray 5)).heap[g]?=some (.cells cur 5 fz):=by rw[Below.heap_alloc D _ g cI];exact W
 obtain⟨⟨a,k1,k2,k3⟩,k4,k5,Q,k7,au⟩:=kx (IG r) bs cur _ aE k8 om;have q:B<=D.heap.size:=by have:=C.size;omega
 have c:Below B w ((D.alloc (.cells (IG r).toArray 5)).setCells g bs.length (IG r)):=C.trans ⟨Q,k7,au,by rw[k5];simp,λ k U=>by rw[k4 k om,Below.heap_alloc D _ k om]⟩;have d:=(k4 b q_.symm).trans ((Below.heap_alloc D _ b m).trans x);generalize((D.alloc (.cells (IG r).toArray 5)).setCells g bs.length (IG r))=o at*;clear hA k4 k5 Q k7 au g0 aE;have q0:o.cell? ⟨b,0,none⟩=some (.slice (some ⟨g,0,none⟩) (bs.length+4) cap):=by rw[IF d];rfl
 have u:o.frozen? ⟨b,0,none⟩=false:=IH d 0;go_wp2
 first|go_ret|go_ret2
 refine⟨⟨_,rfl⟩,⟨M,g,cap,0,a,fz,j,?_,q_,?_,om,rl,by rw[HT];omega,f,by rw[HT];exact k3⟩,c.setCell (p:=⟨b,0,none⟩) M _⟩;rw[heap_set d (i:=0) (.slice (some ⟨g,0,none⟩) (bs.length+(IG r).length) cap)];simp;rw[Below.heap_setCell _ _ _ _ q_];exact k1
theorem CB {B b g cap:Nat} {bs:List Value} {r lr:Int} {cur:Array Value} {fz:Nat×Nat} {w:World} (M:B<=b) (t:B<=w.heap.size) (h:u2 b g cap lr cur fz bs w) (hl: ¬bs.length+4<=cap) (G: ∀v∈bs,v.oneCell'=true) (d:bs.length+4<=140737488355328)
 (A: -2147483648<=r) (aC:r<=2147483647) (I:r<0\/128<=r):
 Calls HB 170 #[vp b 0,.int .i32 r] w λ e w'=>(∃v,e=.returned v)/\Lib.IsBuffer 309 5 B b (bs++IG r) w'/\Below B w w':=by
 obtain⟨hb,q_,hg,K,rl,hle,f,k8⟩:=h;have T:=IT r;obtain⟨z,hz,V⟩: ∃z,IntKind.u32.wrap r=z/\128<=z:=⟨_,rfl,by rw[IZ];omega⟩;have c2:w.cell? ⟨b,2,none⟩=some (.int .i8 lr):=by rw[IF hb];rfl
 have f2:w.frozen? ⟨b,2,none⟩=false:=IH hb 2;have l:(w.setCell ⟨b,2,none⟩ (.int .i8 0)).heap[b]?=some (.cells #[.slice (some ⟨g,0,none⟩) bs.length cap,.int .i64 0,.int .i8 0] 309 (0,0)):=by rw[heap_set hb (i:=2) (.int .i8 0)];rfl
 have y:(w.setCell ⟨b,2,none⟩ (.int .i8 0)).heap[g]?=some (.cells cur 5 fz):=by rw[Below.heap_setCell _ _ _ _ q_];exact hg
 have Q:(w.setCell ⟨b,2,none⟩ (.int .i8 0)).heap.size=w.heap.size:=by simp[World.setCell]
 have k:Below B w (w.setCell ⟨b,2,none⟩ (.int .i8 0)):=(Below.refl B w).setCell (p:=⟨b,2,none⟩) M _;have d0:(w.setCell ⟨b,2,none⟩ (.int .i8 0)).cell? ⟨b,0,none⟩=some (.slice (some ⟨g,0,none⟩) bs.length cap):=by rw[IF l];rfl
 have hT:Calls HB 186 #[vp b 0,.int .i64 4] _ _:=Tryz.Buffer_tryGrow_none b (some ⟨g,0,none⟩) bs.length cap 4 _ d0 om f om;have hG:Calls HB 187 #[vp b 0,.int .i64 4] _ _:=C8 (n:=4) M (by rw[Q];exact t) rfl l y hle f k8 G om om d;have l6:=l6;have yF:=yF;have yk:=yk;clear Q;go_enter Tryz.func170,Tryz.ntmps170;go_wp2_with (go_at_fn (186:FuncId);refine hT.mono ?_);rintro e D ⟨rfl,rfl⟩;go_wp2_with (go_at_fn (187:FuncId);refine hG.mono ?_);rintro e D ⟨rfl,xs,U,Z,C⟩;have H:=k.trans C;clear hT hG C k c2 f2 d0;obtain⟨-,Y,J⟩:=Z.cases;rcases J with⟨F,-⟩|⟨g2,m,O,q,j,W,R,E,ab,u,aa⟩
 exact absurd (congrArg List.length F) (by rw[HT,U,IN];omega);rw[HT,U]at q R u;have q0:D.cell? ⟨b,0,none⟩=some (.slice (some ⟨g2,0,none⟩) (bs.length+4) m):=by rw[IF q];rfl
 have S:=Lib.head_owned (B:=B) j W R E ab u;have ad:B<=D.heap.size:=by have:=H.size;omega
 have s:=E;unfold maxLen at s;have hA:=Tryz.utf8_AppendRune_plain B _ bs.length bs r A aC D S d ad;go_wp2_with (go_at_fn (192:FuncId);refine hA.mono ?_);rintro e w2 ⟨v',rfl,L,o,c⟩;obtain⟨x,rI,rB,rK⟩:=Lib.rune_end (news:=IG r) M dc q j W aa L c;have P:w2.cell? ⟨b,0,none⟩=some (.slice (some ⟨g2,0,none⟩) (bs.length+4) m):=by rw[IF x];rfl
 have xf:w2.frozen? ⟨b,0,none⟩=false:=IH x 0;rcases L.2 with⟨-,N⟩|⟨g',ag,a,rfl,-,-,-,ae,-,-⟩
 omega;unfold maxLen at ae;clear L c S hA;go_wp2
 first|go_ret|go_ret2
 exact⟨⟨_,rfl⟩,rI,H.trans rB⟩
theorem C9 {B b} {bs} {r} {w} (h:fA B b bs w) (t:B<=w.heap.size) (G: ∀v∈bs,v.oneCell'=true) (d:bs.length+1<=140737488355328) (N:0<=r) (f:r<128):
 Calls HB 170 #[vp b 0,.int .i32 r] w λ e w'=>(∃v,e=.returned v)/\fA B b (bs++IG r) w'/\Below B w w':=by
 have hA:=CF (c:=r) h t G d;have B':=B';have hz:IntKind.u32.wrap r=r:=by rw[IZ];omega
 have bY:IntKind.u8.wrap r=r:=by rw[Je];omega
 have a:IG r=[.int .u8 r]:=by unfold IG;rw[Lib.encodeRuneZ_one N om];rfl
 rw[a];go_enter Tryz.func170,Tryz.ntmps170;go_wp2_with (go_at_fn (165:FuncId);refine hA.mono ?_);rintro e w' ⟨rfl,r1,V⟩;go_wp2
 first|go_ret|go_ret2
 exact⟨⟨_,rfl⟩,r1,V⟩
theorem E0{B b}{bs}{r}{w}(h:fA B b bs w)(t:B<=w.heap.size)(G: ∀v∈bs,v.oneCell'=true)(d:bs.length+4<=140737488355328)(A: -2147483648<=r)(aC:r<=2147483647):
 Calls HB 170 #[vp b 0,.int .i32 r] w λ e w'=>(∃v,e=.returned v)/\fA B b (bs++IG r) w'/\Below B w w':=by
 by_cases I:r<0\/128<=r;rcases h with h|⟨M,g,cap,lr,cur,fz,j,h⟩
 exact(Tryz.Buffer_WriteRune_k B b bs r A aC w h t G d).mono λ _ _⟨a,b,c,_⟩=>⟨⟨_,a⟩,.inl b,c⟩
 by_cases hl:bs.length+4<=cap;exact(CQ M j t h hl A aC I).mono λ _ _⟨a,b,c⟩=>⟨a,.inr b,c⟩
 exact(CB M t h hl G d A aC I).mono λ _ _⟨a,b,c⟩=>⟨a,.inl b,c⟩
 exact C9 h t G om om om
end
section
open Go.RowKit
variable[OO]
def Ep(v:Value)(bs:List Value)(os:List Obj):Prop:=
 ∃(g cap:Nat)(cur:Array Value)(fz:Nat×Nat),v=.slice (some ⟨g,0,none⟩) bs.length cap/\os=[.cells cur 5 fz]/\cur.size=cap/\cap<=fz.1/\bs.length<=cap/\cap<=maxLen/\cur.toList.take bs.length=bs
def bS(B b:Nat)(v:Value)(bs:List Value):Chunk:=
 .abs (b::aV v) (λ os=> ∃lr d,os=.cells #[v,vi 0,.int .i8 lr] 309 (0,0)::d/\(tu 5 1 v bs.length bs d\/Ep v bs d)/\B<=b/\ ∀x,x∈aV v->B<=x)
section
variable{f:FuncId}{fn:Func}{R:Ending->World->Prop}{D:List Deferred}{aa:au}{path rA:List Nat}{X rem:List Nat}{env:Ev}{cs rest:List Chunk}{w:World}{B b:Nat}{v:Value}{bs:List Value}{acc:List UInt8}
theorem qH(h:Heap aa (bS B b v bs::rest) w):fA B b bs w:=by
 obtain⟨os,G,lr,d,rfl,S,Y,aI⟩:=h.ok _ (Iw ..);rcases S with S|⟨g,cap,cur,fz,rfl,rfl,k1,k2,k3,k4,k5⟩
 left;refine rL (aa:=aa) (v:=v) (rest:=rest) ⟨h.io,h.dD,h.nodup,h.old,λ c J=>?_⟩;rcases G6.1 J with rfl|J
 exact⟨_,G,lr,d,rfl,S,Y,aI⟩;exact h.ok c (Hb _ J);right;simp[aV]at G;have O:=h.nodup;simp[bS,aV,G0,Chunk.fp,Hn]at O;exact⟨Y,g,cap,lr,cur,fz,aI g (by simp[aV]),G.1,λ e=>O.1.1 e.symm,G.2,k1,k2,k3,k4,k5⟩
theorem ry{w'}(h:Heap aa rest w)(hb:fE aa rest B)(hw:Below B w w')(Z:fA B b bs w'): ∃v',Heap aa (bS B b v' bs::rest) w':=by
 rcases Z with Z|⟨G,g,cap,lr,cur,fz,j,z⟩
 obtain⟨v',hh⟩:=rE h hb hw Z;refine⟨v',hh.io,hh.dD,hh.nodup,hh.old,λ c J=>?_⟩;rcases G6.1 J with rfl|J
 obtain⟨os,G,lr,d,rfl,S,Y,aI⟩:=hh.ok _ (Iw ..);exact⟨_,G,lr,d,rfl,.inl S,Y,aI⟩;exact hh.ok c (Hb _ J);obtain⟨m1,m2,m3,m4,m5,m6,m7,m8⟩:=z;refine⟨.slice (some ⟨g,0,none⟩) bs.length cap,(congr (congrArg Prod.mk hw.os) hw.output).trans h.io,λ x o L=>by rw[hw.block x (hb.im x o L)];exact h.dD x o L,?_,λ x L=>?_,λ c J=>?_⟩;simp only[G0,bS,Chunk.fp,aV];refine Hq.2 ⟨by simp[m2.symm],h.nodup,λ x L y hy e=>?_⟩;subst e;have:=hb.fp x hy;simp at L;rcases L with rfl|rfl<;>omega
 simp only[G0,bS,Chunk.fp,aV,HM]at L;rcases L with L|L
 have aO:B<=x:=by simp at L;rcases L with rfl|rfl<;>omega
 refine⟨?_,?_⟩;simp at L;rcases L with rfl|rfl
 exact Iv m1;exact Iv m3;cases hi:aa x with
 |none=>rfl
 |some o=>have:=hb.im x o hi;omega
 exact⟨Iq (h.old x L).1 hw.size,(h.old x L).2⟩;rcases G6.1 J with rfl|J
 exact⟨.cells #[_,vi 0,.int .i8 lr] 309 (0,0)::[.cells cur 5 fz],by simp[aV,m1,m3],lr,_,rfl,.inr ⟨g,cap,cur,fz,rfl,rfl,m4,m5,m6,m7,m8⟩,G,λ x L=>by simp[aV]at L;omega⟩;exact Chunk.d' (h.ok c J) lq λ x L=>hw.block x (hb.fp x (Ha.2 ⟨c,J,L⟩))
theorem cd(g:FuncId)(args:List Value)(d:Option Nat)(ak:List Nat)(a:List Value)(h:Value->Prop)(hb:fE aa rest B)
 (J: ∀w,fA B b bs w->B<=w.heap.size->Calls HB g args.toArray w λ e w'=> ∃r,e=.returned r/\h r/\fA B b a w'/\Below B w w')
 (k: ∀r v',h r->bf HB f fn R D aa ak (dF d r env) (bS B b v' a::rest))
 (G: ∀u,(cj fn.ntmps (bI (bd fn) path []) env).bind (λ x=>(pv HB (execOp (bB u env) x.1)).map λ y=>(y,x.1.dst,x.2))=some (.enter g args.toArray,d,bI (bd fn) ak []):=by intros;kernel_rfl):
 bf HB f fn R D aa path env (bS B b v bs::rest):=
 bf.enter g args d ak G λ w hh=>by
  have Z:=qH hh;have I:B<=w.heap.size:=by
   rcases Z with Z|⟨M,g,cap,lr,cur,fz,j,z⟩
   have:=Z.1;have:=Z.lt;omega;have:=Iv z.hb;omega
  refine(J w Z I).mono ?_;rintro e w' ⟨r,rfl,K,c,C⟩;obtain⟨v',q⟩:=ry hh.tail hb C c;exact⟨r,rfl,aa,_,q,k r v' K⟩
theorem Gq(e:Nat)(s:ao)(d:Option Nat)(F p:List Nat)(aJ:s.size<=140737488355328)
 (k: ∀b B v',fE aa cs B->sb HB f fn R D aa path rA F p (dF d (vp b 0) env) (bS B b v' (IE s.data.toList)::cs))
 (hX:X.filter (λ j=>!pre (eV (aI fn path)) j e)=F:=by kernel_rfl) (z:rem.erase e=p:=by kernel_rfl)
 (G: ∀u,(fK fn.ntmps (aI fn path) env e).bind (λ o=>(pv HB (execOp (bB u env) o)).map λ y=>(y,o.dst))=some (.enter 171 #[vs s],d):=by intros;kernel_rfl):
 kC HB f fn R D aa path rA e X rem env cs:=by
 intro a w he hd hh;have N:=G (un a);cases ho:fK fn.ntmps (aI fn path) env e with
 |none=>rw[ho]at N;cases N
 |some o=>
  rw[ho]at N;simp only[Hl]at N;cases h:pv HB (execOp (bB (un a) env) o)with
  |none=>rw[h]at N;cases N
  |some y=>
   rw[h]at N;simp at N;obtain⟨rfl,rfl⟩:=N;obtain⟨Q,hg,m⟩:=hE ho;refine⟨o,Q,.inr ⟨cC he hg,.inr (.inr ⟨171,#[vs s],by rw[he.eval];exact lI _ h w,?_⟩)⟩⟩;refine(EC s w aJ).mono ?_;rintro c w' ⟨b,rfl,Z,C⟩;obtain⟨v',q⟩:=ry hh hh.base C Z;refine⟨vp b 0,rfl,?_⟩;obtain⟨p1,_⟩:=cL he he.eval m (vp b 0);have U:=k b _ v' hh.base _ w' p1 ((put_defers _ _ _).trans hd) q;rw[<-hX,<-z]at U;exact U
theorem d165(x:Int)(y:UInt8)(d:Option Nat)(ak:List Nat)(L:x=(y.toNat:Int))(hb:fE aa rest B)(hl:acc.length+1<=140737488355328)
 (k: ∀v',bf HB f fn R D aa ak (dF d .nilIface env) (bS B b v' (IE (acc++[y]))::rest))
 (G: ∀u,(cj fn.ntmps (bI (bd fn) path []) env).bind (λ o=>(pv HB (execOp (bB u env) o.1)).map λ y=>(y,o.1.dst,o.2))=some (.enter 165 #[vp b 0,.int .u8 x],d,bI (bd fn) ak []):=by intros;kernel_rfl):
 bf HB f fn R D aa path env (bS B b v (IE acc)::rest):=
 cd 165 [vp b 0,.int .u8 x] d ak _ (λ r=>r=.nilIface) hb (λ w Z M=>(CF Z M (lp _) (by rw[IM];exact hl)).mono (by
  rintro e w' ⟨rfl,H,S⟩;exact⟨_,rfl,rfl,by rw[cf];subst L;exact H,S⟩)) (λ r v' V=>V▸k v') G
theorem d170(r:Int)(d:Option Nat)(ak:List Nat)(A: -2147483648<=r)(aC:r<=2147483647)(hb:fE aa rest B)(hl:acc.length+4<=140737488355328)
 (k: ∀aO v',bf HB f fn R D aa ak (dF d aO env) (bS B b v' (IE (acc++Im r))::rest))
 (G: ∀u,(cj fn.ntmps (bI (bd fn) path []) env).bind (λ o=>(pv HB (execOp (bB u env) o.1)).map λ y=>(y,o.1.dst,o.2))=some (.enter 170 #[vp b 0,.int .i32 r],d,bI (bd fn) ak []):=by intros;kernel_rfl):
 bf HB f fn R D aa path env (bS B b v (IE acc)::rest):=
 cd 170 [vp b 0,.int .i32 r] d ak _ (λ _=>True) hb (λ w Z M=>(E0 Z M (lp _) (by rw[IM];exact hl) A aC).mono (by
  rintro e w' ⟨⟨v,rfl⟩,H,S⟩;exact⟨_,rfl,trivial,by rw[cf,I0];exact H,S⟩)) (λ r v' _=>k r v') G
theorem fA.drewN{n}(h:fA B b bs w):fA B b bs (w.drewN n):=by
 rcases h with h|⟨M,g,cap,lr,cur,fz,j,z⟩
 exact .inl h;exact .inr ⟨M,g,cap,lr,cur,fz,j,⟨z.hb,z.q_,z.hg,z.dB,z.rl,z.hle,z.AH,z.k8⟩⟩
end
end
section
open Go.RowKit
variable[OO]
theorem FE:HB.underlying 78=some (.pointer 81):=by kernel_rfl
theorem Cy:HB.underlying 369=some .unsafePointer:=by kernel_rfl
theorem i81:(HB.info? 81).map (·.size)=some 2:=by kernel_rfl
theorem GI:liesAt HB HB.depth 81 (2/HB.cellsOf 81) 0 81 1=true:=by kernel_rfl
theorem zL (b:Nat) (w:World) (N:w.cell? ⟨b,0,none⟩=some (.pointer none)) (a:w.shape? b=some (81,2)) (rl:w.frozen? ⟨b,0,none⟩=false):
 Calls HB 227 #[vp b 0] w λ e w'=>e=.returned (.tuple #[])/\w'=w.setCell ⟨b,0,none⟩ (vp b 0):=by
 obtain⟨j,hj,c⟩:=Io.1 i81;have mixed:=iN;go_enter Tryz.func227,Tryz.ntmps227;go_wp2;rw[Lib.run_to_unsafe w ⟨b,0,none⟩ FE Cy hj (by rw[c];decide) a (Nat.zero_lt_succ 1)];simp only[Result.andThen];rw[Oper.upon_value];go_wp2;rw[run_callFunc_extern Tryz.func231 kr kr kr (e:=Extern.AbiNoEscape.same) kr];rw[Lib.run_noEscape];simp only[Result.andThen];rw[Oper.upon_value];go_wp2;rw[Lib.run_from_unsafe w ⟨b,0,none⟩ Cy FE hj a GI];simp only[Result.andThen];rw[Oper.upon_value];go_wp2
 go_end0
 exact⟨rfl,rfl⟩
theorem Ag (b:Nat) (w:World) (N:w.cell? ⟨b,0,none⟩=some (vp b 0)):Calls HB 227 #[vp b 0] w λ e w'=>e=.returned (.tuple #[])/\w'=w:=by
 obtain⟨j,hj,_⟩:=Io.1 i81;have mixed:=iN;go_enter Tryz.func227,Tryz.ntmps227;go_wp2;rw[Lib.run_neq_ptr_same w _ FE hj];go_wp2
 go_end0
 exact⟨rfl,rfl⟩
theorem c227 aa b p v(hp:p=.pointer none\/p=vp b 0):Sp 227 [vp b 0] [.av b 81 [p,v]] aa (λ r M' _=>r=.tuple #[]/\M'=[.av b 81 [vp b 0,v]]):=by
 intro F w hw;have hb:w.heap[b]?=some (.cells #[p,v] 81 (0,0)):=hw.ok (.av b 81 [p,v]) sm;have N:w.cell? ⟨b,0,none⟩=some p:=by rw[IF hb];rfl
 rcases hp with rfl|rfl
 refine(zL b w N (by simp[World.shape?,hb]) (IH hb 0)).mono ?_;rintro e w' ⟨rfl,rfl⟩;exact⟨_,_,aa,rfl,lq,⟨rfl,rfl⟩,hw.set (i:=0) (cells:=[.pointer none,v]) (b:=b) (T:=81) rfl 0 (vp b 0)⟩;refine(Ag b w N).mono ?_;rintro e w' ⟨rfl,rfl⟩;exact⟨_,_,aa,rfl,lq,⟨rfl,rfl⟩,hw⟩
theorem GH{b}{p v}{l}{w}(hb:w.heap[b]?=some (.cells #[p,v] 81 (0,0)))(Z:w.ownsRow 0 5 1 v l.length (IE l))(ah:v.ownBlock≠some b):
 Calls HB 30 #[vp b 0] w λ e w'=>e=.returned (.string ⟨l.toArray⟩)/\w.heap.size<=w'.heap.size/\(∀k,k<w.heap.size->v.ownBlock≠some k->w'.heap[k]?=w.heap[k]?)/\(w'.os,w'.output)=(w.os,w.output):=by
 have mixed:=iN;rcases Z.2 with⟨rfl,hz⟩|⟨g,cap,cur,rfl,r,hg,R,f,K,d⟩
 .
  have hl:l=[]:=List.eq_nil_of_length_eq_zero hz;subst hl;have c: ∀W,(Builtin.unsafeSliceData_ #[79] 167 #[.slice none 0 0]).run HB W=.ok (.pointer none) W:=λ W=>Lib.run_unsafeSliceData_nil _ _ _ _ _
  have h: ∀W,(Builtin.unsafeString_ #[167,3] 9 #[.pointer none,.int .i64 0]).run HB W=.ok (.string .empty) W:=λ W=>Ja W _ _ _ none
  have D:w.drew.cell? ⟨b,1,none⟩=some (.slice none 0 0):=by
   have:w.drew.heap[b]?=some (.cells #[p,.slice none 0 0] 81 (0,0)):=hb;rw[IF this];rfl
  go_enter Tryz.func30,Tryz.ntmps30;go_wp2;go_region_o
  all_goals(go_wp2;go_ret;exact⟨rfl,HZ _,λ _ _ _=>rfl,rfl⟩)
 .
  have D:w.drew.cell? ⟨b,1,none⟩=some (.slice (some ⟨g,0,none⟩) l.length cap):=by
   have:w.drew.heap[b]?=some (.cells #[p,.slice (some ⟨g,0,none⟩) l.length cap] 81 (0,0)):=hb;rw[IF this];rfl
  by_cases N:l=[]
  .
   subst N;have h: ∀W q,(Builtin.unsafeString_ #[167,3] 9 #[.pointer q,.int .i64 0]).run HB W=.ok (.string .empty) W:=λ W q=>Ja W _ _ _ q
   by_cases O:cap=0
   .
    subst O;have c:(Builtin.unsafeSliceData_ #[79] 167 #[.slice (some ⟨g,0,none⟩) 0 0]).run HB w.drew=.ok (.pointer (some ⟨w.heap.size,0,none⟩)) (w.drew.alloc (.view ⟨g,0,none⟩ 5)):=
     Lib.run_unsafeSliceData_zero w.drew #[79] 167 5 kr ⟨g,0,none⟩ 0 (5,cur.size) (by have a:w.drew.heap[g]?=some (.cells cur 5 (0,0)):=hg;simp[World.shape?,a])
    have c2:(w.alloc (.view ⟨g,0,none⟩ 5)).cell? ⟨b,1,none⟩=some (.slice (some ⟨g,0,none⟩) 0 0):=by
     have:(w.alloc (.view ⟨g,0,none⟩ 5)).heap[b]?=some (.cells #[p,.slice (some ⟨g,0,none⟩) 0 0] 81 (0,0)):=(Below.heap_alloc w _ b (Iv hb)).trans hb;rw[IF this];rfl
    have aL: ∀k,k<w.heap.size->(w.alloc (.view ⟨g,0,none⟩ 5)).heap[k]?=w.heap[k]?:=λ k U=>Below.heap_alloc w _ k U
    have dB:w.heap.size<=(w.alloc (.view ⟨g,0,none⟩ 5)).heap.size:=by simp
    go_enter Tryz.func30,Tryz.ntmps30;go_wp2;go_region_o
    all_goals(go_wp2;go_ret;exact⟨rfl,dB,λ k U _=>aL k U,rfl⟩)
   .
    have c:(Builtin.unsafeSliceData_ #[79] 167 #[.slice (some ⟨g,0,none⟩) 0 cap]).run HB w.drew=.ok (.pointer (some ⟨g,0,none⟩)) w.drew:=Jb _ _ _ _ _ _ O;go_enter Tryz.func30,Tryz.ntmps30;go_wp2;go_region_o
    all_goals(go_wp2;go_ret;exact⟨rfl,HZ _,λ _ _ _=>rfl,rfl⟩)
  .
   have al:l.length≠0:=by simpa using N
   have c:(Builtin.unsafeSliceData_ #[79] 167 #[.slice (some ⟨g,0,none⟩) l.length cap]).run HB w.drew=.ok (.pointer (some ⟨g,0,none⟩)) w.drew:=Jb _ _ _ _ _ _ om;have h:(Builtin.unsafeString_ #[167,3] 9 #[.pointer (some ⟨g,0,none⟩),.int .i64 l.length]).run HB w.drew=.ok (.string ⟨l.toArray⟩) (w.drew.freeze ⟨g,0,none⟩ l.length):=by
    refine Lib.run_unsafeString_row w.drew 167 3 9 5 kr kr g cur.size (by have a:w.drew.heap[g]?=some (.cells cur 5 (0,0)):=hg;simp[World.shape?,a]) l N om (by unfold maxLen at f;omega) ?_;intro j x L;exact Z.cells (g:=g) rfl j (.int .u8 x.toNat) (by simp[IE,L])
   go_enter Tryz.func30,Tryz.ntmps30;go_wp2;go_region_o
   all_goals(
    go_wp2;go_ret;have rl: ∀k,k≠g->(w.drew.freeze ⟨g,0,none⟩ l.length).heap[k]?=w.heap[k]?:=λ k U=>by
     unfold World.freeze;split;rfl;show(Array.modify _ _ _)[k]?=_;rw[Array.getElem?_modify,if_neg (λ e=>U e.symm)];rfl
    exact⟨rfl,by unfold World.freeze;split;exact HZ _;show _<=(Array.modify _ _ _).size;rw[Array.size_modify];exact HZ _,λ k _ U=>rl k (λ e=>U (by simp[Value.ownBlock,e])),by unfold World.freeze;split<;>rfl⟩)
theorem Dg aa b p v l:Sp 30 [vp b 0] [.av b 81 [p,v],own 5 1 v l.length (IE l)] aa (λ r M' _=>r=vs (sB l)/\M'=[]):=by
 intro F w hw;have hb:w.heap[b]?=some (.cells #[p,v] 81 (0,0)):=hw.ok (.av b 81 [p,v]) sm;have Z:=iM (hw.ok (own 5 1 v l.length (IE l)) sm);have O:=hw.nodup;simp[G0,Chunk.fp,own,IS,Hn]at O;have ah:v.ownBlock≠some b:=λ L=>by
  rw[cZ.1 L]at O;simp at O
 refine(GH hb Z ah).mono ?_;rintro e w' ⟨rfl,dB,U,a⟩;have hf: ∀x,x∈F.flatMap Chunk.fp->v.ownBlock≠some x:=λ x L e=>by
  rw[cZ.1 e]at O;simp only[IS,Hn]at O;exact O.2.1 L
 have hh:=hw.tail.tail;refine⟨_,[],aa,rfl,lq,⟨rfl,rfl⟩,⟨a.trans hh.io,λ x o L=>?_,hh.nodup,λ x L=>⟨Iq (hh.old x L).1 dB,(hh.old x L).2⟩,λ c J=>?_⟩⟩;have G:=hw.dD x o L;rw[U x (by rcases Hh x w.heap.size with H|H;exact H;rw[HE H]at G;cases G) (λ e=>?_)];exact G;have:=(hw.old x (by simp[Chunk.fp,own,cZ.1 e])).2;rw[this]at L;cases L;refine Chunk.d' (hh.ok c J) lq λ x L=>?_
 have hm:x∈F.flatMap Chunk.fp:=Ha.2 ⟨c,J,L⟩;exact U x (hh.old x hm).1 (hf x hm)
end
section
open Go.RowKit
variable[OO]
theorem Ds: ∀args w,(callFunc 227 args).run HB w=.ok (.enter 227 args) w:=enters_of Tryz.func227 kr rfl
theorem Dk: ∀args w,(callFunc 339 args).run HB w=.ok (.enter 339 args) w:=enters_of Tryz.func339 kr rfl
theorem EI{b}{p v}{w}(hb:w.heap[b]?=some (.cells #[p,v] 81 (0,0)))(hp:p=.pointer none\/p=vp b 0):
 Calls HB 227 #[vp b 0] w λ e w'=>e=.returned (.tuple #[])/\w'.heap[b]?=some (.cells #[vp b 0,v] 81 (0,0))/\(∀k,k≠b->w'.heap[k]?=w.heap[k]?)/\w'.heap.size=w.heap.size/\(w'.os,w'.output)=(w.os,w.output):=by
 have N:w.cell? ⟨b,0,none⟩=some p:=by rw[IF hb];rfl
 rcases hp with rfl|rfl
 refine(zL b w N (by simp[World.shape?,hb]) (IH hb 0)).mono ?_;rintro e w' ⟨rfl,rfl⟩;exact⟨rfl,by rw[heap_set hb (i:=0) (vp b 0)];rfl,λ k U=>Below.heap_setCell _ _ _ _ U,by simp[World.setCell],rfl⟩;refine(Ag b w N).mono ?_;rintro e w' ⟨rfl,rfl⟩;exact⟨rfl,hb,λ _ _=>rfl,rfl,rfl⟩
theorem D1 {b:Nat} {p v:Value} {n m c:Nat} {bs ys:List Value} {a:Addr} {w:World} (hb:w.heap[b]?=some (.cells #[p,v] 81 (0,0))) (hp:p=.pointer none\/p=vp b 0) (Z:w.ownsRow 0 5 1 v n bs) (ah:v.ownBlock≠some b)
 (o:a.block≠b) (T:ys.length=m) (s: ∀j u,ys[j]?=some u->w.cell? (a.add j)=some u) (G: ∀u∈ys,u.oneCell'=true) (d:n+m<=140737488355328) (hm:m<=c):
 Calls HB 339 #[vp b 0,.slice (some a) m c] w λ e w'=>e=.returned (.tuple #[.int .i64 m,.nilIface])/\ ∃v',w'.heap[b]?=some (.cells #[vp b 0,v'] 81 (0,0))/\w'.ownsRow 0 5 1 v' (n+m) (bs++ys)/\
  (v'.ownBlock=v.ownBlock\/v'.ownBlock=some w.heap.size)/\w.heap.size<=w'.heap.size/\(∀k,k<w.heap.size->k≠b->v.ownBlock≠some k->w'.heap[k]?=w.heap[k]?)/\(w'.os,w'.output)=(w.os,w.output):=by
 obtain⟨i0,hi,r,B,ax⟩:=info_parts i5;obtain⟨A,cc,rfl⟩: ∃A cc,v=.slice A n cc:=by
  rcases Z.2 with⟨aw,az⟩|⟨g,cap,cur,aw,_⟩
  exact⟨none,0,by rw[aw,az]⟩;exact⟨_,_,aw⟩
 have hC:=EI hb hp;have Ds:=Ds;have mixed:=iN;go_enter Tryz.func339,Tryz.ntmps339;go_wp2_with (go_at_fn (227:FuncId);refine hC.mono ?_);rintro e w1 ⟨rfl,l,t,Q,E⟩;have q:w1.ownsRow 0 5 1 (.slice A n cc) n bs:=by
  refine⟨Z.1,?_⟩;rcases Z.2 with K|⟨g,cap,cur,K,H,S,Y⟩
  exact .inl K;exact .inr ⟨g,cap,cur,K,H,by rw[t g (λ e=>ah (by rw[K];simp[Value.ownBlock,e]))];exact S,Y⟩
 have D:w1.cell? ⟨b,1,none⟩=some (.slice A n cc):=by rw[IF l];rfl
 have y: ∀j u,ys[j]?=some u->w1.cell? (a.add j)=some u:=λ j u hj=>by
  rw[<-s j u hj];refine World.cell?_of_block (t _ ?_);unfold Addr.add;split<;>exact o
 obtain⟨v',w2,V,h,W,I,f⟩:=run_append_own_at (P:=HB) (w:=w1) 0 79 79 5 i0 (.int .u8 0) 1 1 u' hi r B ax rfl dc (.slice A n cc) n bs q a m c ys (by rw[T,IX]) y G (by unfold maxLen;omega) om (Nat.zero_le _);obtain⟨A',ai,rfl⟩: ∃A' ai,v'=.slice A' (n+m) ai:=by
  rcases h.2 with⟨aw,az⟩|⟨g,cap,cur,aw,_⟩
  exact⟨none,0,by rw[aw,az]⟩;exact⟨_,_,aw⟩
 have F:Value.ownBlock (.slice A' (n+m) ai)≠some b:=by
  rcases f with e|e
  rw[e];exact ah;rw[e];intro az;have:=Iv l;simp at az;omega
 have x:w2.heap[b]?=some (.cells #[vp b 0,.slice A n cc] 81 (0,0)):=by rw[W.block b (Iv l) (λ e=>ah e.symm)];exact l
 have d1:w2.cell? ⟨b,1,none⟩=some (.slice A n cc):=by rw[IF x];rfl
 have f1:w2.frozen? ⟨b,1,none⟩=false:=IH x 1;have L:(m:Int)<=140737488355328:=by omega
 go_wp2_with (at_builtin;refine IL _ rfl _ _ _ _ rfl _ _ rfl rfl _ _ V ?_)
 first|go_ret|go_ret2
 have J:=W.size;refine⟨rfl,.slice A' (n+m) ai,?_,?_,by rw[<-Q];exact f,by simp[World.setCell];omega,λ k U C z=>?_,(congr (congrArg Prod.mk W.os) W.output).trans E⟩;rw[heap_set x (i:=1) (.slice A' (n+m) ai)];rfl;refine⟨h.1,?_⟩;rcases h.2 with K|⟨g,cap,cur,K,H,S,Y⟩
 exact .inl K;exact .inr ⟨g,cap,cur,K,H,by rw[Below.heap_setCell _ _ _ _ (λ e=>F (by rw[K];simp[Value.ownBlock,e]))];exact S,Y⟩;rw[Below.heap_setCell _ _ _ _ C,W.block k om (λ e=>z e.symm),t k C]
end
section
open Go.RowKit
variable[OO]
theorem sn x W:(method 573 78 x "Write").run HB W=.ok (339,x) W:=by kernel_rfl
theorem D8 {f b:Nat} {p v:Value} {n:Nat} {bs:List Value} {s:ByteArray} {w:World} (hf:w.cell? ⟨f,0,none⟩=some (.iface 78 (vp b 0))) (hb:w.heap[b]?=some (.cells #[p,v] 81 (0,0))) (hp:p=.pointer none\/p=vp b 0) (Z:w.ownsRow 0 5 1 v n bs) (ah:v.ownBlock≠some b)
 (d:n+s.size<=140737488355328):
 Calls HB 286 #[vp f 0,vs s] w λ e w'=>e=.returned (.tuple #[])/\ ∃v',w'.heap[b]?=some (.cells #[vp b 0,v'] 81 (0,0))/\w'.ownsRow 0 5 1 v' (n+s.size) (bs++IE s.data.toList)/\
  (v'.ownBlock=v.ownBlock\/ ∃g,v'.ownBlock=some g/\w.heap.size<=g)/\w.heap.size<=w'.heap.size/\(∀k,k<w.heap.size->k≠b->v.ownBlock≠some k->w'.heap[k]?=w.heap[k]?)/\(w'.os,w'.output)=(w.os,w.output):=by
 have t:=run_bytes_of_string (P:=HB) w 9 79 5 s u9 u' u5;have aO:=grownCap_ge w s.size 0 5;generalize grownCap w s.size 0 5=cap at*;have hl:(IE s.data.toList).length=s.size:=by rw[IM];simp
 have r: ∀j u,(IE s.data.toList)[j]?=some u->(bytesRow s cap)[j]?=some u:=λ j u hj=>by
  unfold bytesRow;have y:j<s.size:=by rw[<-hl];exact(List.getElem?_eq_some_iff.1 hj).1
  rw[Array.getElem?_append_left (by simpa using y),<-Array.getElem?_toList,I9];exact hj
 generalize o:w.alloc (Obj.cells (bytesRow s cap) 5 ((bytesRow s cap).size,(bytesRow s cap).size+1))=W at*;have h:W.heap[w.heap.size]?=some (.cells (bytesRow s cap) 5 ((bytesRow s cap).size,(bytesRow s cap).size+1)):=by rw[<-o];exact heap_alloc_new w _
 have i: ∀k,k<w.heap.size->W.heap[k]?=w.heap[k]?:=λ k U=>by rw[<-o];exact Below.heap_alloc w _ k U
 have l:W.heap.size=w.heap.size+1:=by rw[<-o];simp
 have x:=Iv hb;have m:W.drew.ownsRow 0 5 1 v n bs:=by
  refine⟨Z.1,?_⟩;rcases Z.2 with K|⟨g,q,cur,K,H,S,Y⟩
  exact .inl K;exact .inr ⟨g,q,cur,K,H,(i g (Iv S)).trans S,Y⟩
 have hA:Calls HB 339 #[vp b 0,.slice (some ⟨w.heap.size,0,none⟩) s.size cap] W.drew _:=D1 (w:=W.drew) (a:=⟨w.heap.size,0,none⟩) (c:=cap) (ys:=IE s.data.toList) ((i b x).trans hb) hp m ah (by show w.heap.size≠b;omega) hl
  (λ j u hj=>by rw[IQ,HR];rw[IF (w:=W.drew) h];exact r j u hj) (lp _) d aO
 have Dk:=Dk;have hm:=sn (vp b 0);have mixed:=iN;go_enter Tryz.func286,Tryz.ntmps286;go_wp2_with (go_at_fn (339:FuncId);refine hA.mono ?_);rintro e w' ⟨rfl,v',k1,k2,k3,k4,k5,Q⟩;have dB:W.drew.heap.size=w.heap.size+1:=l;go_wp2
 first|go_end0|go_ret|go_ret2
 refine⟨rfl,v',k1,k2,?_,om,λ k U C z=>(k5 k om C z).trans (i k U),Q.trans (by rw[<-o];rfl)⟩;rcases k3 with e|e
 exact .inl e;exact .inr ⟨_,e,om⟩
theorem Cg aa f b p A n c xs(s:ao)fs(hp:p=.pointer none\/p=vp b 0)(d:n+s.size<=140737488355328):
 Sp 286 [vp f 0,vs s] [.av f 162 (.iface 78 (vp b 0)::fs),.av b 81 [p,vl A n c],own 5 1 (vl A n c) n xs] aa
  (λ r M' _=>r=.tuple #[]/\ ∃A' ai,M'=[.av f 162 (.iface 78 (vp b 0)::fs),.av b 81 [vp b 0,vl A' (n+s.size) ai],own 5 1 (vl A' (n+s.size) ai) (n+s.size) (xs++IE s.data.toList)]):=by
 intro F w hw;have hf:w.heap[f]?=some (.cells (.iface 78 (vp b 0)::fs).toArray 162 (0,0)):=hw.ok (.av f 162 (.iface 78 (vp b 0)::fs)) sm;have hb:w.heap[b]?=some (.cells #[p,vl A n c] 81 (0,0)):=hw.ok (.av b 81 [p,vl A n c]) sm;have Z:=iM (hw.ok (own 5 1 (vl A n c) n xs) sm);have O:=hw.nodup;have E:([Chunk.av f 162 (.iface 78 (vp b 0)::fs),.av b 81 [p,vl A n c],own 5 1 (vl A n c) n xs]++F).flatMap Chunk.fp=f::b::(aV (vl A n c)++F.flatMap Chunk.fp):=by simp[Chunk.fp,own]
 rw[E]at O;simp only[Hn,G6,HM,not_or]at O;have ah:(vl A n c).ownBlock≠some b:=λ L=>by
  have:=O.2.1.1;rw[cZ.1 L]at this;simp at this
 have l:(vl A n c).ownBlock≠some f:=λ L=>by
  have:=O.1.2.1;rw[cZ.1 L]at this;simp at this
 refine(D8 (f:=f) (by rw[IF hf];simp) hb hp Z ah d).mono ?_;rintro e w' ⟨rfl,v',k1,k2,k3,k4,k5,Q⟩;obtain⟨A',ai,rfl⟩: ∃A' ai,v'=vl A' (n+s.size) ai:=by
  rcases k2.2 with⟨aw,az⟩|⟨g,cap,cur,aw,_⟩
  exact⟨none,0,by rw[aw,az]⟩;exact⟨_,_,aw⟩
 have hold: ∀x,x∈f::b::(aV (vl A n c)++F.flatMap Chunk.fp)->x<w.heap.size/\aa x=none:=λ x L=>hw.old x (by rw[E];exact L)
 have t: ∀x,x∈F.flatMap Chunk.fp->w'.heap[x]?=w.heap[x]?:=λ x L=>by
  refine k5 x (hold x (by simp[L])).1 (λ e=>O.2.1.2 (e▸L)) (λ e=>?_);have S:=O.2.2;rw[cZ.1 e]at S;simp only[IS,Hn]at S;exact S.1 L
 have I: ∀x o,aa x=some o->x<w.heap.size:=λ x o L=>by
  have:=hw.dD x o L;rcases Hh x w.heap.size with G|G
  exact G;rw[HE G]at this;cases this
 have q: ∀x,x∈aV (vl A' (n+s.size) ai)->(vl A n c).ownBlock=some x\/w.heap.size<=x:=λ x L=>by
  cases A' with
  |none=>cases L
  |some a=>
   simp[vl,aV,HC]at L;subst L;rcases k3 with e|⟨g,e,hg⟩
   left;rw[<-e];rfl;right;simp[vl,Value.ownBlock]at e;omega
 have u:=Iv k1;refine⟨_,_,aa,rfl,lq,⟨rfl,A',ai,rfl⟩,⟨Q.trans hw.io,λ x o L=>?_,?_,λ x L=>?_,λ M J=>?_⟩⟩;rw[k5 x (I x o L) (λ e=>by subst e;rw[(hold x sm).2]at L;cases L) (λ e=>by
  rw[(hold x (by rw[cZ.1 e];simp)).2]at L;cases L)]
 exact hw.dD x o L;show(([Chunk.av f 162 (.iface 78 (vp b 0)::fs),.av b 81 [vp b 0,vl A' (n+s.size) ai],own 5 1 (vl A' (n+s.size) ai) (n+s.size) (xs++IE s.data.toList)]++F).flatMap Chunk.fp).Nodup;have k:([Chunk.av f 162 (.iface 78 (vp b 0)::fs),.av b 81 [vp b 0,vl A' (n+s.size) ai],own 5 1 (vl A' (n+s.size) ai) (n+s.size) (xs++IE s.data.toList)]++F).flatMap Chunk.fp=f::b::(aV (vl A' (n+s.size) ai)++F.flatMap Chunk.fp):=by simp[Chunk.fp,own]
 rw[k];have m:(F.flatMap Chunk.fp).Nodup:=(Hq.1 O.2.2).2.1;have i: ∀y,y∈f::b::F.flatMap Chunk.fp->y∉aV (vl A' (n+s.size) ai):=λ y hy hm=>by
  have j:y<w.heap.size:=(hold y (by simp at hy⊢;rcases hy with h|h|h<;>simp[h])).1;rcases q y hm with e|e
  simp only[G6]at hy;rcases hy with rfl|rfl|hy
  exact l e;exact ah e;have S:=O.2.2;rw[cZ.1 e]at S;simp only[IS,Hn]at S;exact S.1 hy;omega
 simp only[Hn,G6,HM,not_or];refine⟨⟨O.1.1,i f sm,O.1.2.2⟩,⟨i b sm,O.2.1.2⟩,Hq.2 ⟨by cases A'<;>simp[vl,aV],m,λ x L y hy e=>?_⟩⟩;subst e;exact i x (by simp[hy]) L;simp only[List.cons_append,List.nil_append,G0,Chunk.fp,own,HM,HC,G6]at L;have hg: ∀x,x∈aV (vl A' (n+s.size) ai)->x<w'.heap.size:=λ x L=>by
  rcases k2.2 with⟨aw,_⟩|⟨g,cap,cur,aw,_,S,_⟩
  rw[aw]at L;simp[aV]at L;rw[aw]at L;simp[aV]at L;subst L;exact Iv S
 by_cases aC:x∈aV (vl A' (n+s.size) ai);refine⟨hg x aC,?_⟩;rcases q x aC with e|e
 exact(hold x (by rw[cZ.1 e];simp)).2;cases hi:aa x with
 |none=>rfl
 |some o=>have:=I x o hi;omega
 have hm:x∈f::b::(aV (vl A n c)++F.flatMap Chunk.fp):=by
  rcases L with h|h|h|h
  simp[h];simp[h];exact absurd h aC;simp[h]
 exact⟨Iq (hold x hm).1 k4,(hold x hm).2⟩;simp at J;rcases J with rfl|rfl|rfl|J
 show w'.heap[f]?=_;rw[k5 f (hold f sm).1 O.1.1 l];exact hf;exact k1;exact hR k2;exact Chunk.d' (hw.ok M (by simp[J])) lq λ x L=>t x (Ha.2 ⟨M,J,L⟩)
end
section
open Go.RowKit
variable[OO]
structure FS where
 ind:ao
 k:Int
 om:Bool
 co:Bool
 pad:Bool
 hd:Bool
 out:List UInt8
def gO(b:Nat)(st:FS):List Value:=[.iface 78 (vp b 0),vs st.ind,vi st.k,vb false,vb false,vb false,vb st.om,vb st.co,vb st.pad,vb st.hd]
def aF(f b:Nat)(v:Value)(st:FS):Chunk:=
 .abs (f::b::aV v) (λ os=> ∃p d,(p=.pointer none\/p=vp b 0)/\os=.cells (gO b st).toArray 162 (0,0)::.cells #[p,v] 81 (0,0)::d/\tu 5 1 v st.out.length (IE st.out) d)
section
variable{f:FuncId}{fn:Func}{R:Ending->World->Prop}{D:List Deferred}{aa:au}{path:List Nat}{env:Ev}{cs rest:List Chunk}{w:World}{fb b:Nat}{v p:Value}{st:FS}{A:Option Addr}{c:Nat}
theorem pZ(h:Heap aa (aF fb b v st::rest) w): ∃p A c,v=vl A st.out.length c/\(p=.pointer none\/p=vp b 0)/\Heap aa (.av fb 162 (gO b st)::.av b 81 [p,v]::own 5 1 v st.out.length (IE st.out)::rest) w:=by
 obtain⟨os,G,p,d,hp,rfl,S⟩:=h.ok _ (Iw ..);simp at G;have aN: ∃A c,v=vl A st.out.length c:=by
  rcases S.2 with⟨aw,az,_⟩|⟨g,cap,cur,aw,_⟩
  exact⟨none,0,by rw[aw,az]⟩;exact⟨_,_,aw⟩
 obtain⟨A,c,hv⟩:=aN;refine⟨p,A,c,hv,hp,h.io,h.dD,by simpa[aF,Chunk.fp,own]using h.nodup,by simpa[aF,Chunk.fp,own]using h.old,λ M J=>?_⟩;simp at J;rcases J with rfl|rfl|rfl|J
 exact G.1;exact G.2.1;exact⟨d,G.2.2,S⟩;exact h.ok M (Hb _ J)
theorem mr(hp:p=.pointer none\/p=vp b 0)(h:Heap aa (.av fb 162 (gO b st)::.av b 81 [p,v]::own 5 1 v st.out.length (IE st.out)::rest) w):Heap aa (aF fb b v st::rest) w:=by
 have k1:w.heap[fb]?=some (.cells (gO b st).toArray 162 (0,0)):=h.ok (.av fb 162 (gO b st)) sm;have k2:w.heap[b]?=some (.cells #[p,v] 81 (0,0)):=h.ok (.av b 81 [p,v]) sm;obtain⟨d,G,S⟩:=h.ok (own 5 1 v st.out.length (IE st.out)) sm;refine⟨h.io,h.dD,by simpa[aF,Chunk.fp,own]using h.nodup,by simpa[aF,Chunk.fp,own]using h.old,λ M J=>?_⟩;rcases G6.1 J with rfl|J
 exact⟨_,by simp[k1,k2,G],p,d,hp,rfl,S⟩;exact h.ok M (by simp[J])
theorem se i(J:cs[i]?=some (aF fb b v st))
 (k: ∀p A c,v=vl A st.out.length c->(p=.pointer none\/p=vp b 0)->bf HB f fn R D aa path env (.av fb 162 (gO b st)::.av b 81 [p,vl A st.out.length c]::own 5 1 (vl A st.out.length c) st.out.length (IE st.out)::cs.eraseIdx i)):
 bf HB f fn R D aa path env cs:=by
 intro a w he hd hh;obtain⟨p,A,c,rfl,hp,h⟩:=pZ (hh.perm (e3 J));exact k p A c rfl hp a w he hd h
theorem vT st n xs fs(hp:p=.pointer none\/p=vp b 0)(O:n=st.out.length)(L:xs=IE st.out)(hf:fs=gO b st)
 (k:bf HB f fn R D aa path env (aF fb b (vl A n c) st::rest)):bf HB f fn R D aa path env (.av fb 162 fs::.av b 81 [p,vl A n c]::own 5 1 (vl A n c) n xs::rest):=by
 subst O L hf;exact λ a w he hd hh=>k a w he hd (mr hp hh)
end
def FS.put(st:FS)(s:List UInt8):FS:={st with out:=st.out++s}
theorem kO aa f b v st(s:ao)(d:st.out.length+s.size<=140737488355328):
 Sp 286 [vp f 0,vs s] [aF f b v st] aa (λ r M' _=>r=.tuple #[]/\ ∃v',M'=[aF f b v' (st.put s.data.toList)]):=by
 intro F w hw;obtain⟨p,A,c,rfl,hp,h⟩:=pZ hw;refine(Cg aa f b p A st.out.length c (IE st.out) s _ hp d F w h).mono ?_;rintro e w' ⟨r,M',C,rfl,hl,⟨rfl,A',ai,rfl⟩,hh⟩;refine⟨_,[aF f b (vl A' (st.out.length+s.size) ai) (st.put s.data.toList)],C,rfl,hl,⟨rfl,_,rfl⟩,?_⟩;have aw:(st.put s.data.toList).out.length=st.out.length+s.size:=by simp[FS.put]
 have az:IE (st.put s.data.toList).out=IE st.out++IE s.data.toList:=cf _ _;refine mr (p:=vp b 0) (v:=vl A' (st.out.length+s.size) ai) (.inr rfl) ?_;rw[aw,az];exact hh
theorem EN aa(s:ao)c(J:c<=9223372036854775807)(hlen:s.size*c<=140737488355328):Sp 298 [vs s,vi c] [] aa (λ r M' _=>r=vs ⟨(II s.data.toList c).toArray⟩/\M'=[]):=
 Spec.below λ w _=>Tryz.strings_Repeat s c w J hlen
end
section
variable[OO]
def F_(l:List Chunk):Nat:=match l with| .av b _ _::_=>b|_=>0
def FI(l:List Chunk):Value:=match l with|_::.av _ _ [_,v]::_=>v|_=>undef
section
variable{f:FuncId}{fn:Func}{R:Ending->World->Prop}{D:List Deferred}{aa:au}{s:St}{b:Nat}{p:Value}
theorem uy(i fb b:Nat)(v:Value)(st:FS)(z:mP [i] s.c=[aF fb b v st]:=by kernel_rfl)(aJ:(bF [i] s.c).isSome=true:=by kernel_rfl)
 (k: ∀p A c,v=vl A st.out.length c->(p=.pointer none\/p=vp b 0)->Z f fn R D aa (s9 [i] [.av fb 162 (gO b st),.av b 81 [p,vl A st.out.length c],own 5 1 (vl A st.out.length c) st.out.length (IE st.out)] s)):Z f fn R D aa s:=by
 refine⟨λ a w he hd hh=>?_⟩;have h:=hh.perm (bR (eo aJ));rw[z]at h;obtain⟨p,A,c,rfl,hp,h⟩:=pZ h;exact(k p A c rfl hp).x a w he hd h
theorem mS(st:FS)(hp:p=.pointer none\/p=vp b 0)(z:mP [0,0,0] s.c=[.av (F_ s.c) 162 (gO b st),.av b 81 [p,FI s.c],own 5 1 (FI s.c) st.out.length (IE st.out)]:=by kernel_rfl)(aJ:(bF [0,0,0] s.c).isSome=true:=by kernel_rfl)
 (k:Z f fn R D aa (s9 [0,0,0] [aF (F_ s.c) b (FI s.c) st] s)):Z f fn R D aa s:=by
 refine⟨λ a w he hd hh=>?_⟩;have h:=hh.perm (bR (eo aJ));rw[z]at h;exact k.x a w he hd (mr hp h)
end
theorem ta: ∀aa b p A n c xs(s:ao),(p=.pointer none\/p=vp b 0)->n+s.size<=140737488355328->Sp 215 [vp b 0,vs s] [.av b 81 [p,vl A n c],own 5 1 (vl A n c) n xs] aa (λ r M' _=>r=.tuple #[vi s.size,.nilIface]/\ ∃A' ai,M'=[.av b 81 [vp b 0,vl A' (n+s.size) ai],own 5 1 (vl A' (n+s.size) ai) (n+s.size) (xs++byteCells s)]):=by
 intro aa b p A n c xs s hp d;refine aW Tryz.func215 λ F=>(ra 8 [] [1,1] [0,1,6]) λ _=>(cR [0] (c227 _ b p (vl A n c) hp)) λ ak P=>(ra 9 [0] [2,6] [1,8,12,13]) λ _=>(Gn rN n s.size xs (byteCells s) [1] (fD.str u9 s)) λ E c2=>(ra 11 [1] [4] [4,5]) λ _=>(oz [1,0])<|ez 0 (.tuple #[vi s.size,.nilIface]) [.av b 81 [vp b 0,vl E (n+s.size) c2],own 5 1 (vl E (n+s.size) c2) (n+s.size) (xs++(byteCells s))] [] P ⟨rfl,_,_,rfl⟩
theorem zc: ∀aa b p A n c xs x,(p=.pointer none\/p=vp b 0)->n+1<=140737488355328->Sp 322 [vp b 0,.int .u8 x] [.av b 81 [p,vl A n c],own 5 1 (vl A n c) n xs] aa (λ r M' _=>r=.nilIface/\ ∃A' ai,M'=[.av b 81 [vp b 0,vl A' (n+1) ai],own 5 1 (vl A' (n+1) ai) (n+1) (xs++[.int .u8 x])]):=by
 intro aa b p A n c xs x hp d;refine aW Tryz.func322 λ F=>(ra 7 [] [1,1] [0,1,5]) λ _=>(cR [0] (c227 _ b p (vl A n c) hp)) λ ak P=>(ra 10 [0] [2,7] [7,11,13]) λ b2=>(az rN n 1 xs [.int .u8 x] [2,0]) λ E c2=>(ra 8 [1] [4] [4]) λ _=>(oz [1,0])<|ez 0 (.nilIface) [.av b 81 [vp b 0,vl E (n+1) c2],own 5 1 (vl E (n+1) c2) (n+1) (xs++[.int .u8 x])] [] P ⟨rfl,_,_,rfl⟩
def kR(x:Int):Bool:=decide (x<32)||x==34||x==92||x==127||x==194
theorem D6: ∀aa x,Sp 321 [.int .u8 x] [] aa (λ r M' _=>r=vb (kR x)/\M'=[]):=by
 intro aa x;refine aW Tryz.func321 λ F=>(ra 9 [] [1,3] [0,5]) λ _=>(iz 5 (decide (x<32))) (λ G=>?_) (λ G=>?_);refine(ra 17 [] [2] [2]) λ _=>ez 0 (vb true) [] [] lq ⟨congrArg Value.bool (by simp only[kR,G,H2,H3,H5,H_]),rfl⟩;refine(ra 4 [] [1,7] [0,9]) λ _=>(iz 9 (x==34)) (λ H=>?_) (λ H=>?_);refine(ra 13 [] [2] [2]) λ _=>ez 0 (vb true) [] [] lq ⟨congrArg Value.bool (by simp only[kR,G,H,H2,H3,H5,H_]),rfl⟩;refine(ra 4 [] [1,11] [0,13]) λ _=>(iz 13 (x==92)) (λ S=>?_) (λ S=>?_);refine(ra 9 [] [2] [2]) λ _=>ez 0 (vb true) [] [] lq ⟨congrArg Value.bool (by simp only[kR,G,H,S,H2,H3,H5,H_]),rfl⟩;refine(ra 4 [] [1,15] [0,17]) λ _=>(iz 17 (x==127)) (λ Y=>?_) (λ Y=>?_);refine(ra 5 [] [2] [2]) λ _=>ez 0 (vb true) [] [] lq ⟨congrArg Value.bool (by simp only[kR,G,H,S,Y,H2,H3,H5,H_]),rfl⟩;refine(ra 5 [] [2] [2]) λ _=>ez 0 (vb (x==194)) [] [] lq ⟨congrArg Value.bool (by simp only[kR,G,H,S,Y,H2,H3,H5,H_]),rfl⟩
def FS.nl(st:FS):FS:={st.put [10]with hd:=true,pad:=false}
def FS.wi(st:FS)(m:Nat):FS:={st with out:=st.out++(if st.hd then II st.ind.data.toList m else[]),hd:=false,pad:=false}
def FS.lead(st:FS)(m:Nat):FS:=if st.hd then st.wi m else if st.pad then st.put [32]else st
def FS.ws(st:FS)(m:Nat)(s:List UInt8):FS:={(st.lead m).put s with pad:=false}
theorem rX(s:ao)m:(⟨(II s.data.toList m).toArray⟩:ao).size=s.size*m:=by
 show(II s.data.toList m).toArray.size=_;rw[List.size_toArray,Jc,Jd];simp
theorem Fs: ∀aa f b v st,Sp 290 [vp f 0] [aF f b v st] aa (λ r M' _=>r=vp f 0/\ ∃v',M'=[aF f b v' {st with pad:=false}]):=by
 intro aa f b v st;obtain⟨ind,k,om,co,pad,hd,out⟩:=st;refine Bc Tryz.func290 λ F=>?_
 refine se 0 rfl ?_;rintro p1 A1 D C l;(try subst C);refine zg<|(ra 16 [0] [3] [2]) λ _=>(mS ⟨ind,k,om,co,false,hd,out⟩ l)<|ez 0 (vp f 0) [aF f b (vl A1 (FS.out ⟨ind,k,om,co,pad,hd,out⟩).length D) ⟨ind,k,om,co,false,hd,out⟩] [] lq ⟨rfl,_,rfl⟩
theorem ES: ∀aa f b v st,Sp 304 [vp f 0] [aF f b v st] aa (λ r M' _=>r=vp f 0/\ ∃v',M'=[aF f b v' {st with pad:=true}]):=by
 intro aa f b v st;obtain⟨ind,k,om,co,pad,hd,out⟩:=st;refine Bc Tryz.func304 λ F=>?_
 refine se 0 rfl ?_;rintro p1 A1 D C l;(try subst C);refine zg<|(ra 16 [0] [3] [2]) λ _=>(mS ⟨ind,k,om,co,true,hd,out⟩ l)<|ez 0 (vp f 0) [aF f b (vl A1 (FS.out ⟨ind,k,om,co,pad,hd,out⟩).length D) ⟨ind,k,om,co,true,hd,out⟩] [] lq ⟨rfl,_,rfl⟩
theorem EZ: ∀aa f b v st,Sp 273 [vp f 0] [aF f b v st] aa (λ r M' _=>r=.tuple #[]/\ ∃v',M'=[aF f b v' {st with k:=aj (st.k+1)}]):=by
 intro aa f b v st;obtain⟨ind,k,om,co,pad,hd,out⟩:=st;refine Bc Tryz.func273 λ F=>?_
 refine se 0 rfl ?_;rintro p1 A1 D C l;(try subst C);refine zg<|(ra 10 [0,0] [9] []) λ _=>(mS ⟨ind,(aj (k+1)),om,co,pad,hd,out⟩ l)<|ez 0 (.tuple #[]) [aF f b (vl A1 (FS.out ⟨ind,k,om,co,pad,hd,out⟩).length D) ⟨ind,(aj (k+1)),om,co,pad,hd,out⟩] [] lq ⟨rfl,_,rfl⟩
theorem Eh: ∀aa f b v st,Sp 262 [vp f 0] [aF f b v st] aa (λ r M' _=>r=.tuple #[]/\ ∃v',M'=[aF f b v' {st with k:=aj (st.k-1)}]):=by
 intro aa f b v st;obtain⟨ind,k,om,co,pad,hd,out⟩:=st;refine Bc Tryz.func262 λ F=>?_
 refine se 0 rfl ?_;rintro p1 A1 D C l;(try subst C);refine zg<|(ra 10 [0,0] [9] []) λ _=>(mS ⟨ind,(aj (k-1)),om,co,pad,hd,out⟩ l)<|ez 0 (.tuple #[]) [aF f b (vl A1 (FS.out ⟨ind,k,om,co,pad,hd,out⟩).length D) ⟨ind,(aj (k-1)),om,co,pad,hd,out⟩] [] lq ⟨rfl,_,rfl⟩
theorem E1: ∀aa f b v st,st.out.length+1<=140737488355328->Sp 277 [vp f 0] [aF f b v st] aa (λ r M' _=>r=vp f 0/\ ∃v',M'=[aF f b v' st.nl]):=by
 intro aa f b v st d;obtain⟨ind,k,om,co,pad,hd,out⟩:=st;refine aW Tryz.func277 λ F=>?_
 refine rZ 7 [] [1,1] (λ _=>[(0,vp f 0),(3,vp f 0)]) (λ _=>aF f b v ⟨ind,k,om,co,pad,hd,out⟩::F) λ _=>cl 286 [vp f 0,vs ⟨#[10]⟩] (some 4) [1,2] [0] (kO _ f b v ⟨ind,k,om,co,pad,hd,out⟩ ⟨#[10]⟩ (by have hz:(⟨#[10]⟩:ao).size=1:=rfl;(try simp only[HT,Iz,IN]at*);omega)) rfl ?_;rintro _ _ ak P ⟨rfl,v1,rfl⟩;refine se 0 rfl ?_;rintro p2 E c2 i N;(try subst i);refine zg<|(ra 20 [0,0] [5] [2]) λ _=>(mS ⟨ind,k,om,co,false,true,(out++(⟨#[10]⟩:ao).data.toList)⟩ N)<|ez 0 (vp f 0) [aF f b (vl E (FS.out ⟨ind,k,om,co,pad,hd,(out++(⟨#[10]⟩:ao).data.toList)⟩).length c2) ⟨ind,k,om,co,false,true,(out++(⟨#[10]⟩:ao).data.toList)⟩] [] P ⟨rfl,_,rfl⟩
theorem C6: ∀aa f b v st(m:Nat),st.k=(m:Int)->st.out.length+st.ind.size*m<=140737488355328->m<=9223372036854775807->Sp 285 [vp f 0] [aF f b v st] aa (λ r M' _=>r=vp f 0/\ ∃v',M'=[aF f b v' (st.wi m)]):=by
 intro aa f b v st m U d hm;obtain⟨ind,k,om,co,pad,hd,out⟩:=st;dsimp only at U d;subst U;refine Bc Tryz.func285 λ F=>?_
 refine se 0 rfl ?_;rintro p1 A1 D C l;(try subst C);refine zg<|(ra 12 [0] [1,1] [0,6]) λ _=>(iz 6 hd) (λ h=>?_) (λ h=>?_);have H:hd=true:=h;refine(rv 1 [] 0 [0] [0])<|(qz)<|(kz [0,9] [0,0] [0,7,11,15]) ?_;have c:(⟨(II ind.data.toList m).toArray⟩:ao).size=ind.size*m:=rX ind m;refine(bj [] (EN _ ind m hm (by omega))) λ|_,_,ak,P,⟨rfl,rfl⟩=>(aG [])<|(bj [0,0,0] (Cg _ f b p1 A1 (FS.out ⟨ind,(m:Int),om,co,pad,hd,out⟩).length D (IE (FS.out ⟨ind,(m:Int),om,co,pad,hd,out⟩)) ⟨(II ind.data.toList m).toArray⟩ [vs ind,vi m,vb false,vb false,vb false,vb om,vb co,vb pad,vb hd] l (by simp only[c];omega))) λ|_,_,aB,aA,⟨rfl,A9,c9,rfl⟩=>(aG [])<|(bL) ?_;refine rZ 19 [0,0] [5] (λ _=>[(2,vp f 0)]) (λ _=>.av f 162 [.iface 78 (vp b 0),vs ind,vi m,vb false,vb false,vb false,vb om,vb co,vb false,vb false]::.av b 81 [vp b 0,(vl A9 ((FS.out ⟨ind,(m:Int),om,co,pad,hd,out⟩).length+(⟨(II ind.data.toList m).toArray⟩:ao).size) c9)]::own 5 1 (vl A9 ((FS.out ⟨ind,(m:Int),om,co,pad,hd,out⟩).length+(⟨(II ind.data.toList m).toArray⟩:ao).size) c9) ((FS.out ⟨ind,(m:Int),om,co,pad,hd,out⟩).length+(⟨(II ind.data.toList m).toArray⟩:ao).size) (IE (FS.out ⟨ind,(m:Int),om,co,pad,hd,out⟩)++IE (⟨(II ind.data.toList m).toArray⟩:ao).data.toList)::F) λ _=>vT ⟨ind,(m:Int),om,co,false,false,out++II ind.data.toList m⟩ _ _ _ (.inr rfl) (by simp only[c,HT];rw[<-rX ind m];rfl) (cf _ _).symm rfl ?_;refine rt Tryz.func285 0 (vp f 0) [aF f b (vl A9 ((FS.out ⟨ind,(m:Int),om,co,pad,hd,out⟩).length+(⟨(II ind.data.toList m).toArray⟩:ao).size) c9) ⟨ind,(m:Int),om,co,false,false,(out++II ind.data.toList m)⟩] [] rfl lq ?_;subst H;exact⟨rfl,_,rfl⟩;have H:hd=false:=h;refine(ra 21 [0,0] [5] [2]) λ _=>(mS ⟨ind,(m:Int),om,co,false,false,out⟩ l) ?_;refine ez 0 (vp f 0) [aF f b (vl A1 (FS.out ⟨ind,(m:Int),om,co,pad,hd,out⟩).length D) ⟨ind,(m:Int),om,co,false,false,out⟩] [] lq ?_;subst H;refine⟨rfl,vl A1 out.length D,?_⟩;simp[FS.wi]
theorem FN: ∀aa f b v st(s:ao)(m:Nat),st.k=(m:Int)->st.out.length+st.ind.size*m+1+s.size<=140737488355328->m<=9223372036854775807->Sp 276 [vp f 0,vs s] [aF f b v st] aa (λ r M' _=>r=vp f 0/\ ∃v',M'=[aF f b v' (st.ws m s.data.toList)]):=by
 intro aa f b v st s m U d hm;obtain⟨ind,k,om,co,pad,hd,out⟩:=st;dsimp only at U d;subst U;refine Bc Tryz.func276 λ F=>?_
 refine se 0 rfl ?_;rintro p1 A1 D C l;(try subst C);refine zg<|(ra 12 [0] [1,1] [0,1,8]) λ _=>(iz 8 hd) (λ h=>?_) (λ h=>?_);subst h;refine rZ 3 [] [1,1,0,1] (λ _=>[(0,vp f 0),(1,vs s),(9,vp f 0)]) (λ _=>.av f 162 [.iface 78 (vp b 0),vs ind,vi m,vb false,vb false,vb false,vb om,vb co,vb pad,vb true]::.av b 81 [p1,(vl A1 (FS.out ⟨ind,(m:Int),om,co,pad,true,out⟩).length D)]::own 5 1 (vl A1 (FS.out ⟨ind,(m:Int),om,co,pad,true,out⟩).length D) (FS.out ⟨ind,(m:Int),om,co,pad,true,out⟩).length (IE (FS.out ⟨ind,(m:Int),om,co,pad,true,out⟩))::F) λ _=>vT ⟨ind,(m:Int),om,co,pad,true,out⟩ _ _ _ l rfl rfl rfl ?_;refine cl 285 [vp f 0] (some 10) [1,1,0,2] [0] (C6 _ f b (vl A1 (FS.out ⟨ind,(m:Int),om,co,pad,true,out⟩).length D) ⟨ind,(m:Int),om,co,pad,true,out⟩ m rfl dm hm) rfl ?_;rintro _ _ j9 l9 ⟨rfl,v9,rfl⟩;rw[show FS.wi ⟨ind,(m:Int),om,co,pad,true,out⟩ m=⟨ind,(m:Int),om,co,false,false,(out++II ind.data.toList m)⟩from rfl];have T:=Jc ind.data.toList m;have c:ind.data.toList.length=ind.size:=by simp
 have j:(out++II ind.data.toList m).length=out.length+ind.size*m:=by rw[HT,T,c,Jd]
 obtain⟨a,e⟩: ∃a,a=(out++II ind.data.toList m):=⟨_,rfl⟩;rw[<-e]at j⊢;refine se 0 rfl ?_;rintro p2 E c2 i N;(try subst i);refine rn 15 [0] [3,2] (λ _=>[(0,vp f 0),(17,vp f 0),(18,vs s)]) (λ _=>.av f 162 [.iface 78 (vp b 0),vs ind,vi m,vb false,vb false,vb false,vb om,vb co,vb false,vb false]::.av b 81 [p2,(vl E (FS.out ⟨ind,(m:Int),om,co,false,false,a⟩).length c2)]::own 5 1 (vl E (FS.out ⟨ind,(m:Int),om,co,false,false,a⟩).length c2) (FS.out ⟨ind,(m:Int),om,co,false,false,a⟩).length (IE (FS.out ⟨ind,(m:Int),om,co,false,false,a⟩))::F) λ _=>vT ⟨ind,(m:Int),om,co,false,false,a⟩ _ _ _ N rfl rfl rfl ?_;refine cl 286 [vp f 0,vs s] (some 19) [3,3] [0] (kO _ f b (vl E (FS.out ⟨ind,(m:Int),om,co,false,false,a⟩).length c2) ⟨ind,(m:Int),om,co,false,false,a⟩ s (by(try have ax:(⟨#[32]⟩:ao).size=1:=rfl);(try simp only[HT,Iz,IN]at*);omega)) rfl ?_;rintro _ _ j3 l3 ⟨rfl,v3,rfl⟩;refine se 0 rfl ?_;rintro p4 A4 c4 g R;(try subst g);refine zg<|(ra 13 [0] [6] [4]) λ _=>(mS ⟨ind,(m:Int),om,co,false,false,(a++(s:ao).data.toList)⟩ R)<|ez 0 (vp f 0) [aF f b (vl A4 (FS.out ⟨ind,(m:Int),om,co,false,false,(a++(s:ao).data.toList)⟩).length c4) ⟨ind,(m:Int),om,co,false,false,(a++(s:ao).data.toList)⟩] [] lq ?_
 (try subst e);exact⟨rfl,_,rfl⟩
 subst h;refine(ra 10 [0] [2,1] [0,1,14]) λ _=>(iz 14 pad) (λ S=>?_) (λ S=>?_);subst S;refine(rv 3 [] 0 [0,1] [0,1,15])<|(mS ⟨ind,(m:Int),om,co,true,false,out⟩ l)<|(cz (M:=[aF f b (vl A1 (FS.out ⟨ind,(m:Int),om,co,true,false,out⟩).length D) ⟨ind,(m:Int),om,co,true,false,out⟩]) [0] (kO _ f b (vl A1 (FS.out ⟨ind,(m:Int),om,co,true,false,out⟩).length D) ⟨ind,(m:Int),om,co,true,false,out⟩ ⟨#[32]⟩ (by have hz:(⟨#[32]⟩:ao).size=1:=rfl;(try simp only[HT,Iz,IN]at*);omega))) λ|_,_,aB,aA,⟨rfl,v2,rfl⟩=>rZ 5 [] [3,2] (λ _=>[(0,vp f 0),(17,vp f 0),(18,vs s)]) (λ _=>aF f b v2 ⟨ind,(m:Int),om,co,true,false,(out++(⟨#[32]⟩:ao).data.toList)⟩::F) λ _=>cl 286 [vp f 0,vs s] (some 19) [3,3] [0] (kO _ f b v2 ⟨ind,(m:Int),om,co,true,false,(out++(⟨#[32]⟩:ao).data.toList)⟩ s (by(try have ax:(⟨#[32]⟩:ao).size=1:=rfl);(try simp only[HT,Iz,IN]at*);omega)) rfl ?_;rintro _ _ j3 l3 ⟨rfl,v3,rfl⟩;refine se 0 rfl ?_;rintro p4 A4 c4 g R;(try subst g);refine zg<|(ra 13 [0] [6] [4]) λ _=>(mS ⟨ind,(m:Int),om,co,false,false,((out++(⟨#[32]⟩:ao).data.toList)++(s:ao).data.toList)⟩ R)<|ez 0 (vp f 0) [aF f b (vl A4 (FS.out ⟨ind,(m:Int),om,co,true,false,((out++(⟨#[32]⟩:ao).data.toList)++(s:ao).data.toList)⟩).length c4) ⟨ind,(m:Int),om,co,false,false,((out++(⟨#[32]⟩:ao).data.toList)++(s:ao).data.toList)⟩] [] lq ?_
 (try subst e);exact⟨rfl,_,rfl⟩
 subst S;refine rZ 6 [] [3,2] (λ _=>[(0,vp f 0),(17,vp f 0),(18,vs s)]) (λ _=>.av f 162 [.iface 78 (vp b 0),vs ind,vi m,vb false,vb false,vb false,vb om,vb co,vb false,vb false]::.av b 81 [p1,(vl A1 (FS.out ⟨ind,(m:Int),om,co,false,false,out⟩).length D)]::own 5 1 (vl A1 (FS.out ⟨ind,(m:Int),om,co,false,false,out⟩).length D) (FS.out ⟨ind,(m:Int),om,co,false,false,out⟩).length (IE (FS.out ⟨ind,(m:Int),om,co,false,false,out⟩))::F) λ _=>vT ⟨ind,(m:Int),om,co,false,false,out⟩ _ _ _ l rfl rfl rfl ?_;refine cl 286 [vp f 0,vs s] (some 19) [3,3] [0] (kO _ f b (vl A1 (FS.out ⟨ind,(m:Int),om,co,false,false,out⟩).length D) ⟨ind,(m:Int),om,co,false,false,out⟩ s (by(try have ax:(⟨#[32]⟩:ao).size=1:=rfl);(try simp only[HT,Iz,IN]at*);omega)) rfl ?_;rintro _ _ aB aA ⟨rfl,v2,rfl⟩;refine se 0 rfl ?_;rintro p3 Q c3 H w;(try subst H);refine zg<|(ra 13 [0] [6] [4]) λ _=>(mS ⟨ind,(m:Int),om,co,false,false,(out++(s:ao).data.toList)⟩ w)<|ez 0 (vp f 0) [aF f b (vl Q (FS.out ⟨ind,(m:Int),om,co,false,false,(out++(s:ao).data.toList)⟩).length c3) ⟨ind,(m:Int),om,co,false,false,(out++(s:ao).data.toList)⟩] [] aA ?_
 (try subst e);exact⟨rfl,_,rfl⟩
end
section
open Go.RowKit
variable[OO]
theorem Es {x:Int} {w:World} (G:32<x) (H:x<127):Calls HB 299 #[.int .i32 x] w λ e w'=>e=.returned (.bool false)/\w'=w:=by
 go_enter Tryz.func299,Tryz.ntmps299;go_wp2;go_ret;exact⟨rfl,rfl⟩
theorem CP aa{x}(G:32<x)(H:x<127):Sp 299 [.int .i32 x] [] aa (λ r M' _=>r=vb false/\M'=[]):=
 Spec.below λ w _=>(Es G H).mono λ _ _⟨a,b⟩=>⟨a,b▸Below.refl _ _⟩
theorem EA aa(an:U8 aa)(s:ao)(aJ:s.size<=9223372036854775807):Sp 300 [vs s] [] aa (λ r M' _=>r=.tuple #[.int .i32 (Lib.decodeLastL s.data.toList).1,vi (Lib.decodeLastL s.data.toList).2]/\M'=[]):=
 Spec.below λ w hw=>Tryz.utf8_DecodeLastRuneInString s w aJ (an w hw)
end
end Go.Proofs.YtdpmeahgjjmdiaaGreatDoor
