/-
 For every list of numbers laws.FnCognitive answers true, and its argument reads as it did: gocognit's cognitive complexity of every function that the laws' maker makes is the reference's, and what it tells of it in parts adds up to it. No condition.
-/
import Derived.Test.YtleolbpibjnedaaGreatQCgF
import Derived.Test.YtleolbpibjnedaaGreatQCl
import Derived.Test.YtleolbpibjnedaaGreatQCsC
import Derived.Test.YtleolbpibjnedaaGreatQRc
import Derived.Test.YtleolbpibjnedaaGreatQSr
import Derived.Test.YtleolbpibjnedaaGreatQMkP
import Derived.Test.YtleolbpibjnedaaGreatRows
import Derived.WalkKit
import Derived.ProofKit
import Derived.OpenShut
import Derived.ShutString
import Derived.ChangeOld
import Derived.Below
set_option linter.unusedSimpArgs false
set_option linter.unusedVariables false
set_option maxRecDepth 100000
set_option maxHeartbeats 4000000
namespace Gc
open Go
def sumK(l:List OD)(k:Nat):Int:=((l.take k).map OD.inc).sum
theorem sumK_succ(l:List OD)(k:Nat)(h:k<l.length):sumK l (k+1)=sumK l k+l[k].inc:=by
 unfold sumK
 rw[List.take_succ_eq_append_getElem h,List.map_append,List.sum_append]
 simp only[List.map_cons,List.map_nil,List.sum_cons,List.sum_nil]
 omega
theorem sumK_all(l:List OD)(k:Nat)(h:k=l.length):sumK l k=(l.map OD.inc).sum:=by simp[sumK,h]
end Gc
namespace Go.Proofs.YtleolbpibjnedaaGreat
open Go Go.RowKit Gc
theorem func_z{fl:Bool}{t:T}(h:W fl .Ss t)(called:Str){x:A}(e:x.N=Gc.N.func called (t.N 0)):x.cw≤10+3*t.cost∧(x.blocks.Nodup→(x.csem cs0).sum=t.cog 0 false):=by
 obtain⟨o,b,f0,f1,f2,f3,rfl,e'⟩:=A_of_N (k:=.func) e
 have e0:f0.N=N.none:=congrArg (fun x=>match x with | N.n _ _ _ (.cons y _)=>y | _=>.nil) e'
 have e1:f1.N=.name called 0:=congrArg (fun x=>match x with | N.n _ _ _ (.cons _ (.cons y _))=>y | _=>.nil) e'
 have e2:f2.N=.ftype:=congrArg (fun x=>match x with | N.n _ _ _ (.cons _ (.cons _ (.cons y _)))=>y | _=>.nil) e'
 have e3:f3.N=.block (t.N 0):=congrArg (fun x=>match x with | N.n _ _ _ (.cons _ (.cons _ (.cons _ (.cons y _))))=>y | _=>.nil) e'
 obtain⟨-,c0,z0⟩:=none_z e0
 obtain⟨-,c1,z1⟩:=name_z e1
 obtain⟨c2,z2⟩:=ftype_z e2
 obtain⟨-,y,hy,U⟩:=block_un e3
 obtain⟨c3,z3⟩:=all_cog h y hy
 have:=U.cw
 refine⟨by simp(config:={decide:=true}) only[A.cw,K.cwn,K.arity,if_true,if_false];omega,fun n=>?_⟩
 obtain⟨⟨n0,n1,n2,n3⟩,-,d1,d2,d3⟩:=nodup_n (k:=.func) trivial n
 have nm:Norm cs0:=wrap_zero
 have c:∀ L,Cl no no L cs0:=fun L b _=>⟨rfl,rfl⟩
 have q:=(((z0 cs0 nm (c _)).walk nm z1 (c _) d1).walk nm z2 (c _) (fun b hb h=>(List.mem_append.1 h).elim (d2 b hb).1 (d2 b hb).2)).walk nm (U.z (z3 (U.nd n3))) (c _) (fun b hb h=>by
  simp only[List.mem_append]at h
  obtain⟨h1,h2,h3⟩:=d3 b hb
  exact h.elim (fun h=>h.elim h1 h2) h3)
 show(f3.csem (f2.csem (f1.csem (f0.csem cs0)))).sum=_
 rw[q.sum]
 simp[cs0,CS.sum]
theorem law_cog_long(a:Option Addr)(len cap:Nat)(hl:100<len)(w:World):Calls Tryz.prog 5 #[.slice a len cap] w (fun e w'=>e=.returned (.bool true)∧Kept (fun _=>False) w w'):=by
 by_cases h:(2147483647:Int)<len
 · go_enter Tryz.func5,Tryz.ntmps5
   go_wp2_with fail
   go_ret
   exact⟨rfl,Kept.refl _ _⟩
 · have hl':(100:Int)<len:=by omega
   go_enter Tryz.func5,Tryz.ntmps5
   go_wp2_with fail
   go_ret
   exact⟨rfl,Kept.refl _ _⟩
theorem law_cog(a:Option Addr)(len cap:Nat)(hl:len≤100)(w:World)(hN:Nums0 w (.slice a len cap)):Calls Tryz.prog 5 #[.slice a len cap] w (fun e w'=>e=.returned (.bool true)∧Kept (fun _=>False) w w'):=by
 have HB:=Lib.hid (bodyOf_any w (.slice a len cap) false rfl hN)
 have h1:¬ (2147483647:Int)<len:=by omega
 have h2:¬ (100:Int)<len:=by omega
 clear hN
 go_enter Tryz.func5,Tryz.ntmps5
 go_wp2_with fail
 refine HB.out.mono ?_
 rintro e w1 ⟨t,a1,n1,c1,rfl,G⟩
 have hV:=good_V G.wf
 have hcost:=G.cost
 have hdeep:=G.deep
 have hm:=hV.2
 simp only[]at hm
 have HF:=Lib.hid (fun w2 k2=>func_any sF t G.wf (by omega) w2 _ a1 n1 c1 (G.rep.kept (w':=w2) (M:=fun _=>False) k2 (fun _ _ f=>f)))
 have HNm:=Lib.hid (names_calls (.inl rfl:isName sF) G.wf)
 have HS:=Lib.hid (spec_cog G.wf (by omega) sF)
 have HFZ:=Lib.hid (fun x e=>func_z (x:=x) G.wf sF e)
 have HG:=Lib.hid G
 have HV:RowKit.Hid (Gc.V .Ss (t.N 0)):=Lib.hid hV.1
 have hcc:=names_cost (t.N 0)
 have HM:=Lib.hid hm
 clear hV hm G
 go_wp2_with fail
 refine(HF.out _ (Kept.refl _ _)).mono ?_
 rintro e w2 ⟨kd,tx,i,a2,n2,c2,rfl,R2,K2⟩
 have HI:=Lib.hid (impl_cog sF (by decide) (t.N 0) HV.out (by have:=HM.out.1;omega) (by have:=HM.out.2.1;omega) (by have:=HM.out.1;omega) (fun x e=>by have:=(HFZ.out x e).1;omega) w2 _ kd tx i a2 n2 c2 R2)
 have K12:Kept (fun _=>False) w1 w2:=K2
 clear R2 K2
 go_wp2_with fail
 refine HI.out.mono ?_
 rintro e w3 ⟨x,fb,r,ol,a3,c3,lo,hi,rfl,hx,hL,hr,hinc,R3,K3⟩
 have er:t.calls sF=r:=Bool.eq_iff_iff.2 (HNm.out.symm.trans hr.symm)
 obtain⟨S,hS⟩:∃ S,S=(scanS x fb r).sum:=⟨_,rfl⟩
 have e1:(ol.map OD.inc).sum=S:=by rw[hinc,hS];rfl
 have e2:S=t.cog 0 false+(if t.calls sF=true then 1 else 0):=by
  have:=(HFZ.out x hx).2 hL.1
  rw[hS,er]
  unfold scanS
  cases r
  · simp[this]
  · simp[CS.sum_add,this]
 have hlen:ol.length≤100000:=by
  have h3:=congrArg List.length hinc
  simp only[List.length_map]at h3
  have h4:=csem_len x cs0
  have h5:=(HFZ.out x hx).1
  have h6:(scanS x fb r).ds.length≤(x.csem cs0).ds.length+1:=by unfold scanS;split<;>simp[CS.add]
  have h7:cs0.ds.length=0:=rfl
  omega
 rw[← hS]
 obtain⟨n,hn⟩:∃ n,n=ol.length:=⟨_,rfl⟩
 rw[← hn]at R3 hlen ⊢
 have He1:=Lib.hid e1
 have He2:=Lib.hid e2
 have HR:=Lib.hid R3
 have Hn:=Lib.hid hn
 clear hr hinc e1 e2 hS hx hL er R3 hn
 go_wp2_with fail
 go_loopw [7,27] (fun v i wr=>∃ k:Nat,v=.int .i64 (RowKit.wrap64 (sumK ol k))∧i=.int .i64 k∧k≤n∧Kept (fun _=>False) w3 wr) (fun _ i _=>((n:Int)-intOf i).toNat)
 case atStart=>exact⟨0,by simp[sumK,wrap_zero],rfl,by omega,Kept.refl _ _⟩
 case round =>
  obtain⟨k,rfl,rfl,hk,K4⟩:=hrel
  by_cases hlt:(k:Int)<n
  · have hkl:k<ol.length:=by have:=Hn.out;omega
    obtain⟨g,o,rfl,hg,p0,p1,p2,p3⟩:=ods_at (k:=k) (HR.out.kept K4 (fun _ _ f=>f)) hkl
    have es:=sumK_succ ol k hkl
    obtain⟨d,hd⟩:∃ d,d=ol[k]:=⟨_,rfl⟩
    rw[← hd]at p0 p1 p2 p3 es
    have Hes:=Lib.hid es
    clear hd es
    obtain⟨dt,di,dn,dp⟩:=d
    simp only[]at p0 p1 p2 p3
    go_wp2_with fail
    obtain⟨W0,hW0⟩:∃ W0,W0=wr.alloc (.cells #[.string dt,.int .i64 di,.int .i64 dn,.int .i64 dp] 42):=⟨_,rfl⟩
    have kW:Kept (fun _=>False) wr W0:=by rw[hW0];exact keptA
    have oW:W0.heap[wr.heap.size]?=some (.cells #[.string dt,.int .i64 di,.int .i64 dn,.int .i64 dp] 42 (0,0)):=by rw[hW0];exact heap_alloc_new wr _
    rw[← hW0]
    clear hW0
    obtain⟨s0,s1,s2,s3,-⟩:=slot4 oW
    have zW:wr.heap.size<W0.heap.size:=lt_of_heap oW
    have K5:=K4.trans kW
    go_wp2_with fail
    go_roundw
    · exact⟨k+1,by rw[Hes.out];show _=Value.int .i64 (wrap64 (sumK ol k+di));congr 1;unfold wrap64;omega,by go_num,by omega,K5⟩
    · simp[intOf];omega
  · have ek:k=n:=by omega
    subst ek
    have esum:sumK ol k=S:=(sumK_all ol k Hn.out).trans He1.out
    rw[esum]
    have hS0:=HS.out wr _ a1 n1 c1 (((HG.out.rep.kept K12 (fun _ _ f=>f)).kept K3 (fun _ _ f=>f)).kept K4 (fun _ _ f=>f))
    rw[← He2.out]at hS0
    have HS':=Lib.hid hS0
    clear hS0
    go_wp2_with fail
    refine HS'.out.mono ?_
    rintro e w5 ⟨rfl,K5⟩
    go_wp2_with fail
    go_ret
    exact⟨by first | rfl | simp,(((HG.out.kept.trans K12).trans K3).trans K4).trans K5⟩
end Go.Proofs.YtleolbpibjnedaaGreat
namespace Go.Proofs.YtleolbpibjnedaaGreat.fnCognitive
open Gc
open Go.ChangeShapes Go.WideShapes Go.ChangeAt Go.RowKit
open Go.ChangeMaps (open_string shut_string)
set_option linter.unusedVariables false
theorem own:ownKnob Tryz.prog.godebug=none:=by kernel_rfl
theorem laidOut:laidOutB Tryz.prog=true:=by kernel_rfl
def IsRow(k:IntKind)(w:World)(a:Option Addr)(len cap:Nat)(zs:List Int):Prop :=
 (a=none∧len=0∧cap=0∧zs=[]) ∨
 ∃ x,a=some x∧len≤cap∧cap≤maxLen∧zs.length=cap∧(∀ i,i<zs.length→w.cell? (x.add i)=some (.int k (zs.getD i 0)))∧∀ n∈zs,(Lit.int k n).wf=true
theorem nums_of{w:World}{a:Option Addr}{len cap:Nat}{zs:List Int}(h:IsRow .u32 w a len cap zs)(hl:len≤100):Nums0 w (.slice a len cap):=by
 rcases h with ⟨rfl,rfl,rfl,rfl⟩|⟨x,rfl,hle,hcap,hz,hc,hw⟩
 · exact .inl ⟨none,0,rfl⟩
 · by_cases h0:len=0
   · subst h0
     exact .inl ⟨some x,cap,rfl⟩
   · obtain⟨b,off,rfl,hc'⟩:=ints_at hc (by omega)
     refine .inr ⟨b,off,len,cap,rfl,by omega,hl,fun k hk=>?_⟩
     have hk':k<zs.length:=by omega
     have hv:=hc' k hk'
     have hwf:=hw (zs.getD k 0) (by rw[List.getD_eq_getElem?_getD,List.getElem?_eq_getElem hk',Option.getD_some];exact List.getElem_mem _)
     have hb:=bounds_u32 hwf
     refine⟨(zs.getD k 0).toNat,by omega,?_⟩
     rw[hv]
     have:((zs.getD k 0).toNat:Int)=zs.getD k 0:=by omega
     rw[this]
theorem walk(a0:Option Addr)(len0 cap0:Nat)(z0:List Int)(w:World)(w0:IsRow .u32 w a0 len0 cap0 z0) :
 Calls Tryz.prog 5 #[.slice a0 len0 cap0] w fun e w'=>e=.returned (.bool true)∧Below w.heap.size w w':=by
 by_cases hl:len0≤100
 · exact(law_cog a0 len0 cap0 hl w (nums_of w0 hl)).mono fun e w' ⟨h1,h2⟩=>⟨h1,h2.toBelow⟩
 · exact(law_cog_long a0 len0 cap0 (by omega) w).mono fun e w' ⟨h1,h2⟩=>⟨h1,h2.toBelow⟩
theorem lifted(os:Os)(started:os.Started)(H:Type)(enc:TypeId×Value→H) :
 ReturnsInHanded {} Tryz.checked os 5 .any (Rows.fnCognitiveSpec.pre6 enc Tryz.prog Tryz.f5 Rows.fnCognitiveRow.domain false) (Rows.fnCognitiveSpec.post enc Tryz.prog Tryz.f5 false true false false):=by
 refine returnsInHanded_of_change (C:=Tryz.checked) own started (by kernel_rfl) Tryz.func5
  (ChangeSpec.witness6 (enc:=enc) (C:=Tryz.checked) false ⟨#[],#[.slice none 0 0],[]⟩ 8 (by kernel_rfl) (by kernel_rfl) (by kernel_rfl) (by kernel_rfl)) ?_
 intro W base args ds gs before hval0 hW hcnd _
 have hval:∀ (j:Nat) t v,Tryz.f5.params[j]?=some t→args[j]?=some v→Value.okWide Tryz.prog W .any base t v:=hval0
 have hW':=hW
 obtain⟨p,q,hA0,hV,rfl,hfz,hnd⟩:=hW
 have hA:DataW.TrodAll enc Tryz.prog W 0 (fun _=>true) true Tryz.f5.params.toList args.toList ds p:=hA0
 rw[Tryz.params5]at hA hval
 obtain⟨v0,vs0,d0,ds0,p0,q0,hargs,rfl,rfl,h0,r0⟩:=trodAll_cons hA
 obtain⟨rfl,rfl,rfl⟩:=trodAll_nil r0
 obtain rfl:args=#[v0]:=by cases args;simp_all
 obtain⟨rfl,rfl⟩:=trodVars_none hV
 obtain⟨a0,len0,cap0,rfl⟩:=okWide_slice Tryz.underlying22 (hval 0 22 v0 rfl rfl)
 have k0:=h0
 have lt0:∀ x∈p0,x.block<W.heap.size:=by obtain⟨m,hm⟩:=k0;exact DataW.trod_lt m _ _ _ hm
 obtain⟨z0,w0⟩:∃ zs,IsRow .u32 W a0 len0 cap0 zs:=by
  obtain⟨fuel,hf⟩:=h0
  rcases open_ints Tryz.underlying22 Tryz.underlying109 (by kernel_rfl) hf with ⟨hcs,_⟩|⟨x,l,c,zs,hcs,_,hl,hm,hz,_,hcell,hwz⟩
  · simp[Value.cells]at hcs
    obtain⟨rfl,rfl,rfl⟩:=hcs
    exact⟨[],.inl ⟨rfl,rfl,rfl,rfl⟩⟩
  · simp[Value.cells]at hcs
    obtain⟨rfl,rfl,rfl⟩:=hcs
    exact⟨zs,.inr ⟨_,rfl,hl,hm,by simpa using hz,hcell,hwz⟩⟩
 clear hA0 hval0
 refine(walk a0 len0 cap0 z0 W w0).mono fun e W' ⟨he,bel⟩=>?_
 subst he
 exact⟨_,rfl,_,_,_,[],_,[],hW',trodAll_mk1 (shut_bool Tryz.underlying4 _),(trodAll_cons_mk (Below.trod laidOut (by kernel_rfl) (of_decide_eq_true (by kernel_rfl)) k0 bel lt0) trodAll_mk0),rfl,bel.frame _,fun h=>by cases h⟩
theorem over:Rows.fnCognitiveRow.holds Tryz.pinned (OpenSpec.ofChange Rows.fnCognitiveSpec) :=
 OpenClaim.holds_of_wide 5 Tryz.f5 rfl rfl rfl rfl rfl rfl rfl ⟨rfl,rfl,rfl,rfl,rfl⟩ rfl rfl rfl rfl rfl (by kernel_rfl) Tryz.func5 (by kernel_rfl)
  (of_decide_eq_true (by kernel_rfl)) (by unfold Func.isWrapper;first | (rw[if_pos (by decide +kernel)];kernel_rfl) | (rw[if_neg (by decide +kernel)];exact⟨rfl,rfl⟩))
  (fun os started H enc _=>lifted os started H enc)
theorem proved:Rows.FnCognitiveSaid:=over
#print axioms proved
end Go.Proofs.YtleolbpibjnedaaGreat.fnCognitive
