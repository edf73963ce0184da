/- Part of the proof that laws.FnSchemaAgain answers true. Conditions: none. -/
import Derived.Test.YtdpmeahgjjmdiaaGreatDoorTie
import Derived.Test.YtdpmeahgjjmdiaaGreatDoorCards
import Derived.ProofKit
import Derived.OpenShut
import Derived.LaidMore
import Derived.Lay
import Derived.SevenTiedAt
import Derived.Stop.Joined
import Derived.Lib.LaidU8
import Derived.Lib.SmallJoins
import Derived.ChangeMaps5
import Derived.Deep.Onto
import Derived.Test.YtdpmeahgjjmdiaaGreatDoorC19
import Derived.Test.YtdpmeahgjjmdiaaGreatDoorC20
set_option linter.all false
namespace Go.Proofs.YtdpmeahgjjmdiaaGreatDoor
open Go Go.ChangeShapes Go.WideShapes Go.ChangeAt Go.RowKit Go.ChangeMaps Go.Joins
theorem FO:ownKnob Tryz.prog.godebug=none:=by kernel_rfl
theorem yN:U8Extra Tryz.prog Tryz.lO:=by constructor<;>kernel_rfl
theorem xn:Go.Pinned.utf8First=Lib.firstData:=by kernel_rfl
theorem vE:(Rows.laid_unicode_utf8_acceptRanges:DataW Unit)=Lib.acceptData:=by kernel_rfl
theorem qa{W:World}(h:laidMetH Tryz.prog Rows.fnSchemaAgainRow.laid W):Lib.Utf8Tabs 1 2 W:=by
 rw[MakeChecks.laidMetH_plain _ _ _ (by kernel_rfl)]at h;have G:Lib.VarReads Tryz.prog W "unicode/utf8.first" Rows.laid_unicode_utf8_first:=Lib.laidMet.reads h (by simp[Rows.fnSchemaAgainRow]);have H:Lib.VarReads Tryz.prog W "unicode/utf8.acceptRanges" Rows.laid_unicode_utf8_acceptRanges:=Lib.laidMet.reads h (by simp[Rows.fnSchemaAgainRow]);rw[show Rows.laid_unicode_utf8_first=Lib.firstData from xn]at G;rw[vE]at H;exact utf8Tabs_of_reads Tryz.zq yN G H
theorem vQ(W:World)(ab ind:ao)(co nd:Bool)(hT:Lib.Utf8Tabs 1 2 W)(hi:ind.size<=9223372036854775807):
 Calls Tryz.prog 3 #[vs ab,.agg #[vs ind,vb co,vb nd]] W λ e w'=>e=.returned (.bool true)/\(w'.os,w'.output)=(W.os,W.output)/\ ∀k,k<W.heap.size->w'.heap[k]?=W.heap[k]?:=by
 letI:OO:=⟨(W.os,W.output)⟩
 have d:Heap (λ b=>W.heap[b]?) [] W:=⟨rfl,λ b o h=>h,by simp,λ b hb=>by simp at hb,λ c J=>by cases J⟩;have an:U8 (λ b=>W.heap[b]?):=λ w hw=>by
  have key: ∀(a:Addr)(v:Value),W.cell? a=some v->w.cell? a=some v:=λ a v h=>by
   have hb:a.block<W.heap.size:=World.block_lt_of_cell? W a h;rw[World.cell?_of_block (w:=W) (w':=w) (a:=a) (by rw[hw _ _ (Array.getElem?_eq_getElem hb),Array.getElem?_eq_getElem hb])];exact h
  exact⟨λ c J=>key _ _ (hT.1 c J),λ i hi=>⟨key _ _ (hT.2 i hi).1,key _ _ (hT.2 i hi).2⟩⟩
 refine(c3 (λ b=>W.heap[b]?) ab ind co nd an hi [] W d).mono ?_;rintro e w' ⟨v,M',C,he,hl,⟨hv,z⟩,hh⟩;subst he;subst hv;refine⟨rfl,hh.io,λ k U=>?_⟩;rw[hh.dD k _ (hl k _ (Array.getElem?_eq_getElem U)),Array.getElem?_eq_getElem U]
theorem uU:Tryz.prog.cellsOf 23=3:=by kernel_rfl
theorem AK:Tryz.prog.cellsOf 9=1:=by kernel_rfl
theorem xb:Tryz.prog.cellsOf 4=1:=by kernel_rfl
theorem sf{H:Type}{enc:TypeId×Value->H}{w:World}{base:Nat}{sp:Nat->Bool}{held:Bool}{s:ByteArray}(aJ:s.size<=maxLen)(a b:Bool):
 DataW.Trod enc Tryz.prog w base sp held 23 (.agg #[.string s,.bool a,.bool b]) (.agg [.lit (.string s.data.toList),.lit (.bool a),.lit (.bool b)]) []:=by
 have N:DataW.trod enc Tryz.prog w base sp held 1 9 [.string s]=some (.lit (.string s.data.toList),[]):=by simp[DataW.trod,Tryz.underlying9,aJ]
 have hb: ∀c:Bool,DataW.trod enc Tryz.prog w base sp held 1 4 [.bool c]=some (.lit (.bool c),[]):=λ c=>by simp[DataW.trod,Tryz.underlying4]
 refine⟨2,?_⟩;show DataW.trod enc Tryz.prog w base sp held 2 23 [.string s,.bool a,.bool b]=_;exact Deep.trod_struct3_mk (n:=1) (cs:=[.string s,.bool a,.bool b]) Tryz.underlying23 (by rw[uU];rfl) (by rw[AK];exact N) (by rw[xb];exact hb a) (by rw[xb];exact hb b)
set_option maxRecDepth 100000 in
theorem lifted (os:Os) (started:os.Started) (H:Type) (enc:TypeId×Value->H):
 ReturnsInHanded {} Tryz.checked os 3 .any (λ w args=>(Rows.fnSchemaAgainSpec.pre enc Tryz.prog Tryz.f3 Rows.fnSchemaAgainRow.domain false w args/\laidMetH Tryz.prog Rows.fnSchemaAgainRow.laid w)/\sizedMet enc Tryz.prog Tryz.f3 (OpenSpec.ofChange Rows.fnSchemaAgainSpec) false w args)
  (Rows.fnSchemaAgainSpec.post enc Tryz.prog Tryz.f3 false true false false):=by
 refine returnsInHanded_of_change_and (C:=Tryz.checked) (X:=λ w _=>laidMetH Tryz.prog Rows.fnSchemaAgainRow.laid w) (λ _ _ _ hh h=>h.of_heap hh) FO started (by kernel_rfl) Tryz.func3
  (ChangeSpec.witness_shaped (enc:=enc) (C:=Tryz.checked) (os:=os) (X:=λ w _=>laidMetH Tryz.prog Rows.fnSchemaAgainRow.laid w) false (World.laidAll Tryz.prog os Rows.fnSchemaAgainRow.laid) #[.string .empty,.agg #[.string .empty,.bool false,.bool false]] 8 (World.laidAll_os _ _ _)
   (World.shaped_of_ZipB (by kernel_rfl) (by kernel_rfl)) (by kernel_rfl) (by kernel_rfl) (by kernel_rfl)
   (by rw[MakeChecks.laidMetH_plain _ _ _ (by kernel_rfl)];exact laidMet_laidAll _ (by kernel_rfl) (by kernel_rfl))) ?_
 intro W base args ds gs before c o J _ x _;have b: ∀(j:Nat) t v,Tryz.f3.params[j]?=some t->args[j]?=some v->Value.okWide Tryz.prog W .any base t v:=c;have g:=o;obtain⟨p,q,f,hV,rfl,_,_⟩:=o;have hA:DataW.TrodAll enc Tryz.prog W 0 (λ _=>true) true Tryz.f3.params.toList args.toList ds p:=f;rw[Tryz.params3]at hA b;obtain⟨v0,v1,d0,d1,k,p1,rfl,rfl,rfl,N,G⟩:=trodAll_two hA;obtain⟨rfl,rfl⟩:=trodVars_none hV;obtain⟨ab,rfl,rfl,rfl,d⟩:=open_string Tryz.underlying9 (b 0 9 v0 rfl rfl) N;obtain⟨P,x1,a',l,y1,bh,n,rfl,rfl,rfl,g0,g1,g2⟩:=open_agg3 Tryz.underlying23 (by kernel_rfl) uU (b 1 23 v1 rfl rfl) G;obtain⟨ind,e0,rfl,Q⟩:=DataW.trod_string Tryz.underlying9 g0;obtain⟨co,aw,rfl⟩:=DataW.trod_bool Tryz.underlying4 g1;obtain⟨nd,az,rfl⟩:=DataW.trod_bool Tryz.underlying4 g2;obtain rfl:P=.string ind:=by simpa using e0
 obtain rfl:x1=.bool co:=by simpa using aw
 obtain rfl:a'=.bool nd:=by simpa using az
 have AH:maxLen<=9223372036854775807:=by unfold maxLen;omega
 refine(vQ W ab ind co nd (qa x) (Nat.le_trans Q AH)).mono ?_;rintro e i ⟨rfl,a,U⟩;simp only[Prod.mk.injEq]at a;refine⟨_,rfl,?_⟩;refine⟨_,_,_,[],[],[],g,?_,?_,rfl,?_,λ h=>by cases h⟩;exact trodAll_mk1 (shut_bool Tryz.underlying4 _);exact trodAll_mk2 (shut_string Tryz.underlying9 d) (sf Q co nd);exact World.keptBut.congr (World.keptBut_refl W _) a.1 a.2 U
theorem jX:Rows.FnSchemaAgainSaid:=
 OpenClaim.holds_of_wide 3 Tryz.f3 rfl rfl rfl rfl rfl rfl rfl ⟨rfl,rfl,rfl,rfl,rfl⟩ rfl rfl rfl rfl rfl Bi Tryz.func3 sS wA wq
  (λ os started H enc _=>lifted os started H enc)
theorem fnSchemaAgain_card:Rows.FnSchemaAgainCardSaid:=
 Claim7.holds_tied_plain_at .later [] [.data,.sentinel,.pinned] true (true, "20548a2ff5f68c4a1ba2a3989d060ebf2199fb9e39e448e4b0c66c9d2bf65ebb") false
  jX (λ _ h=>by cases h) (by kernel_rfl) (λ _ h=>by cases h) fnSchemaAgain_row_tie rfl ⟨rfl,rfl⟩ (by kernel_rfl) rfl
  (λ f fn hf s=>by
   obtain rfl:f=3:=Option.some.inj ((show Tryz.prog.funcNamed "given.example/pub-querent/laws.FnSchemaAgain"=some 3 by kernel_rfl).symm.trans hf)|>.symm;obtain rfl:fn=Tryz.f3:=(Option.some.inj (Tryz.func3.symm.trans s)).symm;exact⟨by kernel_rfl,λ j t B=>by
    rw[Tryz.params3]at B;have hm:t∈[9,23]:=by simpa using Array.mem_of_getElem? B
    have ae:([9,23].all λ u=>!Tryz.prog.wantsStandIn u)=true:=by kernel_rfl
    exact(show Tryz.prog.wantsStandIn t=false by simpa using List.all_eq_true.1 ae t hm)⟩)
  (by kernel_rfl)
#print axioms fnSchemaAgain_card
end Go.Proofs.YtdpmeahgjjmdiaaGreatDoor
