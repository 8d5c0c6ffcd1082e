/- gocognit.scanComplexity. -/
import Derived.Test.YtleolbpibjnedaaGreatQCgE
import Derived.Test.YtleolbpibjnedaaGreatQRc
import Derived.Deep.RegionHeld3
import Derived.Deep.RegionWith
set_option linter.unusedSimpArgs false
set_option linter.unusedVariables false
set_option maxRecDepth 100000
set_option maxHeartbeats 4000000
namespace Go.Proofs.YtleolbpibjnedaaGreat
open Go Go.RowKit Gc
def cs0:CS:=⟨0,fun _ _=>false,fun _ _=>false,[]⟩
def scanS(x:A)(fb:Nat)(rec:Bool):CS:=if rec=true then (x.csem cs0).add ⟨1,0,sRecursion,posK .func fb⟩ else x.csem cs0
def ScanP(w:World)(B:Nat)(s:CS)(e:Ending)(w':World):Prop :=
 ∃ a c,e=.returned (.agg #[.slice a s.ds.length c,.int .i64 (RowKit.wrap64 s.sum)])∧Rep w' (fun b=>B≤b) (dgs s.ds) [.slice a s.ds.length c]∧(∀ d∈s.ds,KeyB w' B d.pos)∧Kept (fun _=>False) w w'
theorem GRow.rep{vb B:Nat}{nm:Value}{s:CS}{w:World}{me mc:Option Nat}{a:Option Addr}{c:Nat}(h:GRow vb B nm s w me mc a c):Rep w (fun b=>B≤b) (dgs s.ds) [.slice a s.ds.length c]:=by
 obtain⟨xs,ho,hr⟩:=h.own
 have h2:OwnL w (fun b=>B≤b) (vb+1) 76 4 (.slice a s.ds.length c) (dgs s.ds):=⟨xs,ho,hr.imp fun _ _ f=>f.1.elim⟩
 exact h2.rep fun b hb _=>by have:=h.lb;omega
theorem scan_any{x:A}{called:Str}{l:N}(hV:Gc.V .Ss l)(hc:l.cost≤100000)(hx:x.N=Gc.N.func called l)(hw:x.cw≤9000)(rec:Bool)(w:World)(D:Nat→Prop)(b:Nat)
 (hR:Rep w D (x.g 1 .fin) [.iface 54 (.pointer (some ⟨b,0,none⟩))]) :
 Calls Tryz.prog 40 #[.pointer (some ⟨b,0,none⟩),.agg #[.bool true,.bool rec]] w (ScanP w (w.heap.size+1+1) (scanS x b rec)):=by
 obtain⟨f3,b1,b3,o1,v2,e3,ho,-,-,hDb,-,-⟩:=func_open hx hR
 have hkf:x.K=.func:=by obtain⟨o,b',f0,f1,f2,f3,rfl,e⟩:=A_of_N (k:=.func) hx;rfl
 obtain⟨b2,e2,hkey,-⟩:=key_rep (k:=.func) (B:=w.heap.size) hkf trivial (hR.imp (D':=fun b=>b<w.heap.size) fun b hb _=>hb) (fun b hb=>hb)
 have p1:=cell_of_cells (cs:=[_,_,_,_]) ho 1 rfl
 have zb:b<w.heap.size:=lt_of_heap ho
 have HW:=Lib.hid (fun vb=>(W_func (cog_vis vb vb (.pointer (some ⟨b1,0,none⟩))) hV hc hx).2.2)
 have HR:=Lib.hid hR
 have Hkey:=Lib.hid hkey
 have hpa:GPA x cs0:=by unfold GPA;simp[cs0];omega
 have HPA:=Lib.hid hpa
 have p1':∀ o1 o2,((w.alloc o1).alloc o2).cell? ⟨b,1,none⟩=some (.pointer (some ⟨b1,0,none⟩)):=fun _ _=>(keptA.trans keptA:Kept (fun _=>False) w _).cell p1 (fun f=>f)
 have e2':(.iface 54 (.pointer (some ⟨b,0,none⟩)):Value)=posK .func b:=rfl
 clear hR ho hpa hkey e2 e3 hx hkf
 go_enter Tryz.func40,Tryz.ntmps40
 go_wp2_with fail
 obtain⟨W0,hW0⟩:∃ W0,W0=((w.alloc (.cells #[.bool true,.bool rec] 107)).alloc (.cells #[.slice none 0 0,.int .i64 0] 71)):=⟨_,rfl⟩
 have k0:Kept (fun _=>False) w W0:=by rw[hW0];exact keptA.trans keptA
 have oa:W0.heap[w.heap.size]?=some (.cells #[.bool true,.bool rec] 107 (0,0)):=by rw[hW0];exact heap2_0 w _ _
 have ob:W0.heap[w.heap.size+1]?=some (.cells #[.slice none 0 0,.int .i64 0] 71 (0,0)):=by rw[hW0];exact heap2_1 w _ _
 have hs0:W0.heap.size=w.heap.size+1+1:=by rw[hW0];simp
 rw[← hW0]
 clear hW0 p1'
 have q1:=k0.cell p1 (fun f=>f)
 have qa:=cell_of_cells (cs:=[_,_]) oa 0 rfl
 have zb0:b<W0.heap.size:=by omega
 have za0:w.heap.size<W0.heap.size:=by omega
 have kR:Kept (fun _=>False) W0 W0:=Kept.refl _ _
 have rule:∀ wx:World,Kept (fun _=>False) W0 wx→wx.cell? ⟨b,1,none⟩=some (.pointer (some ⟨b1,0,none⟩))∧wx.cell? ⟨w.heap.size,0,none⟩=some (.bool true):=fun wx hk=>⟨hk.cell q1 (fun f=>f),hk.cell qa (fun f=>f)⟩
 go_region_held3 (fun wx=>Kept (fun _=>False) W0 wx) (first | assumption | exact keptD | exact keptA | exact keptAD | exact Kept.trans (by assumption) keptD | exact Kept.trans (by assumption) keptA) (fail)
 obtain⟨W1,hW1⟩:∃ W1,W1=(W0.alloc (.cells #[.pointer (some ⟨b1,0,none⟩),.int .i64 0,.int .i64 0,.map none,.map none,.bool true,.slice none 0 0] 167)).drew:=⟨_,rfl⟩
 have k1:Kept (fun _=>False) W0 W1:=by rw[hW1];exact keptAD
 have ov:W1.heap[w.heap.size+1+1]?=some (.cells #[.pointer (some ⟨b1,0,none⟩),.int .i64 0,.int .i64 0,.map none,.map none,.bool true,.slice none 0 0] 167 (0,0)):=by rw[hW1,← hs0];exact heap_alloc_new W0 _
 rw[← hW1]
 clear hW1
 have w0:RowKit.wrap64 (cs0.sum)=0:=by simp[cs0,CS.sum];unfold RowKit.wrap64;omega
 have hI:GInv (w.heap.size+1+1) (w.heap.size+1+1) (.pointer (some ⟨b1,0,none⟩)) cs0 W1:=⟨none,none,none,0,by rw[w0];exact ov,OwnL.nil _ _ _ _ _,fun _ _=>rfl,fun _ _=>rfl,fun m e=>(by cases e),fun d hd=>(by simp[cs0]at hd),Nat.le_refl _⟩
 have HI:=Lib.hid hI
 have k01:Kept (fun _=>False) w W1:=k0.trans k1
 have Hoa:=Lib.hid (k1.obj oa (fun f=>f))
 have Hob:=Lib.hid (k1.obj ob (fun f=>f))
 clear hI ov rule oa ob
 go_wp2_with fail
 refine(HW.out (w.heap.size+1+1) _ (fun b=>b<w.heap.size) _ cs0 HPA.out ((HR.out.imp fun b hb _=>hb).kept k01 (fun _ _ f=>f)) (fun b hb=>by omega) HI.out).mono ?_
 rintro e w2 ⟨rfl,I2,K2⟩
 have oa2:=K2.obj Hoa.out (by omega)
 have ob2:=K2.obj Hob.out (by omega)
 have qa2:=cell_of_cells (cs:=[_,_]) oa2 1 rfl
 have za2:w.heap.size<w2.heap.size:=lt_of_heap oa2
 have HI2:=Lib.hid I2
 have Hk2:RowKit.Hid (KeyB w2 (w.heap.size+1+1) (posK .func b)):=Lib.hid (by
  have h1:=(Hkey.out.kept k01 (fun _ _ f=>f)).kept K2 (fun b hb=>by omega)
  obtain⟨k,b',cs,t,g1,g2,g3,g4⟩:=h1
  exact⟨k,b',cs,t,g1,g2,g3,by omega⟩)
 have hlen:(x.csem cs0).ds.length≤100000:=by have:=csem_len x cs0;simp[cs0]at this ⊢;omega
 have k02:Kept (fun _=>False) w w2:=((k01.mono (M':=fun b=>False∨w.heap.size≤b) fun _ _ f=>f.elim).trans (K2.mono fun b _ h=>.inr (by omega))).fresh (Nat.le_refl _)
 clear I2 oa2
 cases rec with
 | false =>
   obtain⟨me,mc,a,c,G⟩:=HI2.out
   obtain⟨g0,g1,g2,g3,g4,g5,g6⟩:=slot7 G.obj
   have zv:w.heap.size+1+1<w2.heap.size:=lt_of_heap G.obj
   have f0:=free_of_cells ob2 0
   have f1:=free_of_cells ob2 1
   have y0:=cell_of_cells (cs:=[_,_]) ob2 0 rfl
   have y1:=cell_of_cells (cs:=[_,_]) ob2 1 rfl
   have zo:w.heap.size+1<w2.heap.size:=lt_of_heap ob2
   have HG:=Lib.hid G
   have HOB:=Lib.hid ob2
   clear G ob2
   go_wp2_with fail
   refine bodyPost_ret (v:=.agg #[.slice a (x.csem cs0).ds.length c,.int .i64 (RowKit.wrap64 (x.csem cs0).sum)]) (by simp[results,Tryz.results40,go_sem,y0,y1,zo];done) rfl ?_
   have kF:Kept (fun k=>k=w.heap.size+1) w2 ((w2.setCell ⟨w.heap.size+1,0,none⟩ (.slice a (x.csem cs0).ds.length c)).setCell ⟨w.heap.size+1,1,none⟩ (.int .i64 (RowKit.wrap64 (x.csem cs0).sum))):=Kept.set1e.trans Kept.set1e
   show ScanP w _ (x.csem cs0) _ _
   refine⟨a,c,rfl,HG.out.rep.kept kF (fun b hb=>by omega),fun d hd=>?_,((k02.mono (M':=fun b=>False∨w.heap.size≤b) fun _ _ f=>f.elim).trans (kF.mono fun b _ h=>.inr (by omega))).fresh (Nat.le_refl _)⟩
   obtain⟨k,b',cs,t,h1,h2,h3,h4⟩:=HG.out.keys d hd
   by_cases hbb:b'=w.heap.size+1
   · subst hbb
     exact⟨k,_,_,_,h1,h2,set_of_cells (cs:=[_,_]) (set_of_cells (cs:=[_,_]) HOB.out 0 _) 1 _,h4⟩
   · exact⟨k,b',cs,t,h1,h2,kF.obj h3 hbb,h4⟩
 | true =>
   have Hob2:=Lib.hid ob2
   clear ob2
   have HC:=Lib.hid (inc_any HI2.out sRecursion _ Hk2.out hlen)
   go_wp2_with fail
   refine HC.out.mono ?_
   rintro e w3 ⟨rfl,I3,K3⟩
   obtain⟨sF,hsF⟩:∃ sF,sF=(x.csem cs0).add ⟨1,0,sRecursion,posK .func b⟩:=⟨_,rfl⟩
   have hS2:scanS x b true=sF:=by rw[hsF];rfl
   rw[← hsF]at I3
   have ob3:=K3.obj Hob2.out (by omega)
   have k03:Kept (fun _=>False) w w3:=((k02.mono (M':=fun b=>False∨w.heap.size≤b) fun _ _ f=>f.elim).trans (K3.mono fun b _ h=>.inr (by omega))).fresh (Nat.le_refl _)
   obtain⟨me,mc,a,c,G⟩:=I3
   clear hsF
   have HS2:=Lib.hid hS2
   clear hS2
   obtain⟨g0,g1,g2,g3,g4,g5,g6⟩:=slot7 G.obj
   have zv:w.heap.size+1+1<w3.heap.size:=lt_of_heap G.obj
   have f0:=free_of_cells ob3 0
   have f1:=free_of_cells ob3 1
   have y0:=cell_of_cells (cs:=[_,_]) ob3 0 rfl
   have y1:=cell_of_cells (cs:=[_,_]) ob3 1 rfl
   have zo:w.heap.size+1<w3.heap.size:=lt_of_heap ob3
   have HG:=Lib.hid G
   have HOB:=Lib.hid ob3
   clear G ob3
   go_wp2_with fail
   refine bodyPost_ret (v:=.agg #[.slice a sF.ds.length c,.int .i64 (RowKit.wrap64 sF.sum)]) (by simp[results,Tryz.results40,go_sem,y0,y1,zo];done) rfl ?_
   have kF:Kept (fun k=>k=w.heap.size+1) w3 ((w3.setCell ⟨w.heap.size+1,0,none⟩ (.slice a sF.ds.length c)).setCell ⟨w.heap.size+1,1,none⟩ (.int .i64 (RowKit.wrap64 sF.sum))):=Kept.set1e.trans Kept.set1e
   rw[HS2.out]
   refine⟨a,c,rfl,HG.out.rep.kept kF (fun b hb=>by omega),fun d hd=>?_,((k03.mono (M':=fun b=>False∨w.heap.size≤b) fun _ _ f=>f.elim).trans (kF.mono fun b _ h=>.inr (by omega))).fresh (Nat.le_refl _)⟩
   obtain⟨k,b',cs,t,h1,h2,h3,h4⟩:=HG.out.keys d hd
   by_cases hbb:b'=w.heap.size+1
   · subst hbb
     exact⟨k,_,_,_,h1,h2,set_of_cells (cs:=[_,_]) (set_of_cells (cs:=[_,_]) HOB.out 0 _) 1 _,h4⟩
   · exact⟨k,b',cs,t,h1,h2,kF.obj h3 hbb,h4⟩
theorem scanC_any{x:A}{called:Str}{l:N}(hV:Gc.V .Ss l)(hc:l.cost≤100000)(hx:x.N=Gc.N.func called l)(hw:x.cw≤9000)(hn:l.names.length≤4000)(h0:called.size≤1000)(fo:Int→Option Addr)(hfo:x.objs fo)(w:World)(D:Nat→Prop)(b:Nat)
 (hR:Rep w D (x.g 1 .fin) [.iface 54 (.pointer (some ⟨b,0,none⟩))]) :
 Calls Tryz.prog 27 #[.pointer (some ⟨b,0,none⟩),.bool true] w (fun e w'=>∃ (r:Bool) (B:Nat),(r=true↔called∈l.names)∧w.heap.size≤B∧ScanP w B (scanS x b r) e w'):=by
 have kA:Kept (fun _=>False) w (w.alloc (.cells #[.slice none 0 0,.int .i64 0] 71)):=keptA
 have HD:=Lib.hid (direct_any hV hc hx hn h0 fo hfo _ D b (hR.kept kA (fun _ _ f=>f)))
 have HS:=Lib.hid (fun rec (w2:World) (k:Kept (fun _=>False) w w2)=>scan_any hV hc hx hw rec w2 D b (hR.kept k (fun _ _ f=>f)))
 have Hob:=Lib.hid (heap_alloc_new w (.cells #[.slice none 0 0,.int .i64 0] 71))
 clear hR hfo hx hV
 go_enter Tryz.func27,Tryz.ntmps27
 go_wp2_with fail
 refine HD.out.mono ?_
 rintro e w2 ⟨r,rfl,hr,K2⟩
 have Hr:=Lib.hid hr
 have k02:=kA.trans K2
 clear hr
 go_wp2_with fail
 refine(HS.out r w2 k02).mono ?_
 rintro e w3 ⟨a,c,rfl,R3,hkeys,K3⟩
 have ob3:=K3.obj (K2.obj Hob.out (fun f=>f)) (fun f=>f)
 have f0:=free_of_cells ob3 0
 have f1:=free_of_cells ob3 1
 have y0:=cell_of_cells (cs:=[_,_]) ob3 0 rfl
 have y1:=cell_of_cells (cs:=[_,_]) ob3 1 rfl
 have zo:w.heap.size<w3.heap.size:=lt_of_heap ob3
 have z2:w.heap.size<w2.heap.size:=lt_of_heap (K2.obj Hob.out (fun f=>f))
 have HR3:=Lib.hid R3
 have Hkeys:=Lib.hid hkeys
 have HOB:=Lib.hid ob3
 clear R3 hkeys ob3
 obtain⟨sF,hsF⟩:∃ sF,sF=scanS x b r:=⟨_,rfl⟩
 rw[← hsF]at HR3 Hkeys
 have HsF:=Lib.hid hsF
 rw[← hsF]
 clear hsF
 go_wp2_with fail
 refine bodyPost_ret (v:=.agg #[.slice a sF.ds.length c,.int .i64 (RowKit.wrap64 sF.sum)]) (by simp[results,Tryz.results27,go_sem,y0,y1,zo];done) rfl ?_
 have kF:Kept (fun k=>k=w.heap.size) w3 ((w3.setCell ⟨w.heap.size,0,none⟩ (.slice a sF.ds.length c)).setCell ⟨w.heap.size,1,none⟩ (.int .i64 (RowKit.wrap64 sF.sum))):=Kept.set1e.trans Kept.set1e
 have hs2:=k02.size
 refine⟨r,w2.heap.size+1+1,Hr.out,by omega,?_⟩
 rw[← HsF.out]
 refine⟨a,c,rfl,HR3.out.kept kF (fun b hb=>by omega),fun d hd=>?_,((((k02.trans K3).mono (M':=fun b=>False∨w.heap.size≤b) fun _ _ f=>f.elim).trans (kF.mono fun b _ h=>.inr (by omega))).fresh (Nat.le_refl _))⟩
 obtain⟨k,b',cs,t,h1,h2,h3,h4⟩:=Hkeys.out d hd
 by_cases hbb:b'=w.heap.size
 · subst hbb
   exact⟨k,_,_,_,h1,h2,set_of_cells (cs:=[_,_]) (set_of_cells (cs:=[_,_]) HOB.out 0 _) 1 _,h4⟩
 · exact⟨k,b',cs,t,h1,h2,kF.obj h3 hbb,h4⟩
end Go.Proofs.YtleolbpibjnedaaGreat
namespace Gc
open Go
structure OD where
 text:Str
 inc:Int
 nest:Int
 place:Int
def ods:List OD→G
 | []=>.nil
 | d :: l=>.cons (.at (.string d.text) (.at (.int .i64 d.inc) (.at (.int .i64 d.nest) (.at (.int .i64 d.place) .fin)))) (ods l)
theorem ods_len:∀ l,(ods l).len=l.length
 | []=>rfl
 | _ :: l=>by simp[ods,G.len,ods_len l]
theorem ods_snoc(d:OD):∀ l,(ods l).snoc (.at (.string d.text) (.at (.int .i64 d.inc) (.at (.int .i64 d.nest) (.at (.int .i64 d.place) .fin))))=ods (l++[d])
 | []=>rfl
 | _ :: l=>by simp[ods,G.snoc,ods_snoc d l]
theorem dgs_at{w:World}{D:Nat→Prop}:∀ {l:List DG} {a:Option Addr} {n c k:Nat},Rep w D (dgs l) [.slice a n c]→(h:k<l.length) →
 ∃ g o,a=some ⟨g,o,none⟩∧g<w.heap.size∧w.cell? ⟨g,o+k*4,none⟩=some (.int .i64 l[k].inc)∧w.cell? ⟨g,o+k*4+1,none⟩=some (.int .i64 l[k].nest)∧w.cell? ⟨g,o+k*4+2,none⟩=some (.string l[k].text)∧w.cell? ⟨g,o+k*4+3,none⟩=some l[k].pos
 | x :: l,a,n,c,k,hr,h=>by
   obtain⟨g,o,n',c',hs,e,⟨hD,hg⟩,hx,hc,ht⟩:=hr
   obtain⟨_,rfl,_,rfl,_,rfl,_,rfl,rfl⟩:=hx
   simp only[List.cons.injEq,Value.slice.injEq,and_true]at e
   obtain⟨rfl,rfl,rfl⟩:=e
   cases k with
   | zero=>exact⟨g,o,rfl,hg,by simpa using hc 0 _ rfl,by simpa using hc 1 _ rfl,by simpa using hc 2 _ rfl,by simpa using hc 3 _ rfl⟩
   | succ k =>
     obtain⟨g',o',e,hg',h1,h2,h3,h4⟩:=dgs_at (k:=k) ht (by simp at h;omega)
     simp only[Option.some.injEq,Addr.mk.injEq,and_true]at e
     obtain⟨rfl,rfl⟩:=e
     simp only[List.length_cons,List.length_nil]at h1 h2 h3 h4
     refine⟨g,o,rfl,hg,?_,?_,?_,?_⟩
     · rw[show o+(k+1)*4=o+(0+1+1+1+1)+k*4 by omega];exact h1
     · rw[show o+(k+1)*4=o+(0+1+1+1+1)+k*4 by omega];exact h2
     · rw[show o+(k+1)*4=o+(0+1+1+1+1)+k*4 by omega];exact h3
     · rw[show o+(k+1)*4=o+(0+1+1+1+1)+k*4 by omega];exact h4
 | [],_,_,_,_,_,h=>by simp at h
theorem ods_at{w:World}{D:Nat→Prop}:∀ {l:List OD} {a:Option Addr} {n c k:Nat},Rep w D (ods l) [.slice a n c]→(h:k<l.length) →
 ∃ g o,a=some ⟨g,o,none⟩∧g<w.heap.size∧w.cell? ⟨g,o+k*4,none⟩=some (.string l[k].text)∧w.cell? ⟨g,o+k*4+1,none⟩=some (.int .i64 l[k].inc)∧w.cell? ⟨g,o+k*4+2,none⟩=some (.int .i64 l[k].nest)∧w.cell? ⟨g,o+k*4+3,none⟩=some (.int .i64 l[k].place)
 | x :: l,a,n,c,k,hr,h=>by
   obtain⟨g,o,n',c',hs,e,⟨hD,hg⟩,hx,hc,ht⟩:=hr
   obtain⟨_,rfl,_,rfl,_,rfl,_,rfl,rfl⟩:=hx
   simp only[List.cons.injEq,Value.slice.injEq,and_true]at e
   obtain⟨rfl,rfl,rfl⟩:=e
   cases k with
   | zero=>exact⟨g,o,rfl,hg,by simpa using hc 0 _ rfl,by simpa using hc 1 _ rfl,by simpa using hc 2 _ rfl,by simpa using hc 3 _ rfl⟩
   | succ k =>
     obtain⟨g',o',e,hg',h1,h2,h3,h4⟩:=ods_at (k:=k) ht (by simp at h;omega)
     simp only[Option.some.injEq,Addr.mk.injEq,and_true]at e
     obtain⟨rfl,rfl⟩:=e
     simp only[List.length_cons,List.length_nil]at h1 h2 h3 h4
     refine⟨g,o,rfl,hg,?_,?_,?_,?_⟩
     · rw[show o+(k+1)*4=o+(0+1+1+1+1)+k*4 by omega];exact h1
     · rw[show o+(k+1)*4=o+(0+1+1+1+1)+k*4 by omega];exact h2
     · rw[show o+(k+1)*4=o+(0+1+1+1+1)+k*4 by omega];exact h3
     · rw[show o+(k+1)*4=o+(0+1+1+1+1)+k*4 by omega];exact h4
 | [],_,_,_,_,_,h=>by simp at h
end Gc
namespace Go.Proofs.YtleolbpibjnedaaGreat
open Go Go.RowKit Gc
theorem ul_sOD:Tryz.prog.underlying 38=some (.slice 42):=by kernel_rfl
theorem info_OD:(Tryz.prog.info? 42).map (fun i=>(i.zero,i.size,i.bytes))=some (some (.agg #[.string ⟨#[]⟩,.int .i64 0,.int .i64 0,.int .i64 0]),4,40):=by kernel_rfl
theorem zero_int(w:World):(zeroValue 3).run Tryz.prog w=.ok (.int .i64 0) w:=by kernel_rfl
theorem find_pure{k:K}(hk:k.real)(b:Nat):∀ (es:List MapEntry) (i:Nat),(∀ e∈es,∃ (k':K) (b':Nat),k'.real∧e.key=.iface k'.pty (.pointer (some ⟨b',0,none⟩))) →
 ∃ r:Option (Nat×Value),(r=none∨∃ j e,r=some (i+j,e.val)∧es[j]?=some e)∧∀ w:World,KeyK w (posK k b)→(∀ e∈es,KeyK w e.key)→(Instr.findAsking 74 (posK k b) es i).run Tryz.prog w=.ok r w
 | [],i,_=>⟨none,.inl rfl,fun _ _ _=>rfl⟩
 | e :: es,i,h=>by
   obtain⟨k',b',hk',he⟩:=h e (by simp)
   have hq:∀ w:World,KeyK w (posK k b)→KeyK w e.key→(Op.equal 74 (posK k b) e.key).run Tryz.prog w=.ok (decide (k.pty=k'.pty∧b=b')) w:=by
    intro w h1 h2
    obtain⟨k1,b1,cs,t,g1,g2,g3⟩:=h1
    simp only[posK,Value.iface.injEq,Value.pointer.injEq,Option.some.injEq,Addr.mk.injEq,and_true]at g2
    obtain⟨-,rfl⟩:=g2
    obtain⟨k2,b2,cs2,t2,g4,g5,g6⟩:=h2
    rw[he]at g5 ⊢
    simp only[Value.iface.injEq,Value.pointer.injEq,Option.some.injEq,Addr.mk.injEq,and_true]at g5
    obtain⟨-,rfl⟩:=g5
    exact eq_key (k':=k') hk g3 g6
   by_cases hc:k.pty=k'.pty∧b=b'
   · refine⟨some (i+0,e.val),.inr ⟨0,e,rfl,rfl⟩,fun w h1 h2=>?_⟩
     have hq':=hq w h1 (h2 e (by simp))
     rw[decide_eq_true hc]at hq'
     simp[Instr.findAsking,hq',Result.andThen]
   · obtain⟨r,hr,hw⟩:=find_pure hk b es (i+1) (fun x hx=>h x (by simp[hx]))
     refine⟨r,?_,fun w h1 h2=>?_⟩
     · rcases hr with rfl|⟨j,x,rfl,hx⟩
       · exact .inl rfl
       · exact .inr ⟨j+1,x,by rw[show i+1+j=i+(j+1) by omega],by simpa using hx⟩
     · have hq':=hq w h1 (h2 e (by simp))
       rw[decide_eq_false hc]at hq'
       have:=hw w h1 (fun x hx=>h2 x (by simp[hx]))
       simp[Instr.findAsking,hq',Result.andThen,this]
theorem PMap.look2{w:World}{B mb:Nat}(h:PMap w B mb){k:K}(hk:k.real)(b:Nat) :
 ∃ n:Int,∀ (w':World) (M:Nat→Prop),Kept M w w'→¬ M mb→(∀ b,b<B→¬ M b)→KeyK w' (posK k b)→(Instr.lookup 55 (.map (some mb)) (posK k b) false).run Tryz.prog w'=.ok (.int .i64 n) w':=by
 obtain⟨es,clock,hb,h2⟩:=h
 have hf:∀ e∈es.toList,∃ (k':K) (b':Nat),k'.real∧e.key=.iface k'.pty (.pointer (some ⟨b',0,none⟩)):=fun e he=>by
  obtain⟨k',b',_,_,g1,g2,_⟩:=(h2 e he).1
  exact⟨k',b',g1,g2⟩
 obtain⟨r,hr,hw⟩:=find_pure hk b es.toList 0 hf
 obtain⟨ms,hi⟩:=ul_Node
 have hfind:∀ (w':World) (M:Nat→Prop),Kept M w w'→¬ M mb→(∀ b,b<B→¬ M b)→KeyK w' (posK k b)→(Instr.findKey 74 (posK k b) es.toList).run Tryz.prog w'=.ok r w':=by
  intro w' M hk' h0 hM hv
  have h3:=hw w' hv (fun e he=>((h2 e he).1.kept hk' hM).key)
  cases hes:es.toList with
  | nil =>
    rw[hes]at h3
    have:r=none:=by
     rcases hr with hr|⟨j,e,_,he⟩
     · exact hr
     · rw[hes]at he;simp at he
    subst this
    simp[Instr.findKey,run_underlying hi,Instr.findNow,Result.andThen]
  | cons e l =>
    rw[hes]at h3
    have hn:Instr.findNow (.interface ms) (posK k b) (e :: l) 0=none:=rfl
    simpa [Instr.findKey,run_underlying hi,hn,Result.andThen]using h3
 rcases hr with rfl|⟨j,e,rfl,he⟩
 · refine⟨0,fun w' M hk' h0 hM hv=>?_⟩
   simp[Instr.lookup,run_underlying ul_mapN,MapKept.run_getObj_map (hk'.obj hb h0),check_key hv,hfind w' M hk' h0 hM hv,zero_int,Result.andThen]
 · obtain⟨n,hn⟩:=(h2 e (List.mem_of_getElem? he)).2
   refine⟨n,fun w' M hk' h0 hM hv=>?_⟩
   simp[Instr.lookup,run_underlying ul_mapN,MapKept.run_getObj_map (hk'.obj hb h0),check_key hv,hfind w' M hk' h0 hM hv,hn,Result.andThen]
def CogP(w:World)(called:Str)(l:N)(e:Ending)(w':World):Prop :=
 ∃ (x:A) (fb:Nat) (r:Bool) (ol:List OD) (a:Option Addr) (c lo hi:Nat),e=.returned (.tuple #[.int .i64 (RowKit.wrap64 (scanS x fb r).sum),.slice a ol.length c,.bool true])∧x.N=Gc.N.func called l∧LIn x.blocks lo hi∧(r=true↔called∈l.names) ∧
  ol.map OD.inc=(scanS x fb r).ds.map DG.inc∧Rep w' (fun b=>w.heap.size≤b) (ods ol) [.slice a ol.length c]∧Kept (fun _=>False) w w'
structure OutI (w3:World) (B:Nat) (ds:List DG) (k:Nat) (ol:List OD) (a:Option Addr) (c:Nat) (wr:World):Prop where
 own:OwnL wr (fun _=>False) w3.heap.size 42 4 (.slice a k c) (ods ol)
 len:ol.length=k
 incs:ol.map OD.inc=(ds.take k).map DG.inc
 kept:Kept (fun _=>False) w3 wr
theorem impl_cog(called:Str)(h0:called.size≤1000)(l:N)(hV:Gc.V .Ss l)(hc:l.cost≤1900)(hd:l.deep≤50)(hn:l.names.length≤4000)(hcw:∀ x:A,x.N=Gc.N.func called l→x.cw≤9000)(w:World)(D:Nat→Prop)(kd tx:Str)(i:Int)(a:Option Addr)(c c':Nat)
 (hR:Rep w D (Gc.N.func called l).g [.string kd,.string tx,.int .i64 i,.slice a c c']) :
 Calls Tryz.prog 13 #[.agg #[.string kd,.string tx,.int .i64 i,.slice a c c']] w (CogP w called l):=by
 have kA:Kept (fun _=>False) w (w.alloc (.cells #[.string kd,.string tx,.int .i64 i,.slice a c c'] 30)):=keptA
 have HF:=Lib.hid (function_any called l hV hc hd _ D kd tx i a c c' (hR.kept kA (fun _ _ f=>f)))
 have HV:=Lib.hid hV
 have Hcw:=Lib.hid hcw
 clear hR hV hcw
 go_enter Tryz.func13,Tryz.ntmps13
 go_wp2_with fail
 refine HF.out.mono ?_
 rintro e w1 ⟨x,b,mp,Bp,f,rfl,hx,R,L,O,PM,K⟩
 have HZ:=Lib.hid (scanC_any HV.out (by omega) hx (Hcw.out x hx) hn h0 f O w1 _ b R)
 have Hx:=Lib.hid hx
 have HL:=Lib.hid L
 have HPM:=Lib.hid PM.1
 have hBp:=PM.2
 clear hx R O L PM
 go_wp2_with fail
 refine HZ.out.mono ?_
 rintro e w2 ⟨r,B2,hr,hB2,a2,c2,rfl,R2,hkeys,K2⟩
 obtain⟨sF,hsF⟩:∃ sF,sF=scanS x b r:=⟨_,rfl⟩
 rw[← hsF]at R2 hkeys ⊢
 have HsF:=Lib.hid hsF
 have Hr:=Lib.hid hr
 have HR2:=Lib.hid R2
 have Hkeys:=Lib.hid hkeys
 clear hsF hr R2 hkeys
 go_wp2_with fail
 obtain⟨w3,hw3⟩:∃ w3,w3=w2.alloc (.cells #[.slice a2 sF.ds.length c2,.int .i64 (RowKit.wrap64 sF.sum)] 71):=⟨_,rfl⟩
 have k3:Kept (fun _=>False) w2 w3:=by rw[hw3];exact keptA
 have o3:w3.heap[w2.heap.size]?=some (.cells #[.slice a2 sF.ds.length c2,.int .i64 (RowKit.wrap64 sF.sum)] 71 (0,0)):=by rw[hw3];exact heap_alloc_new w2 _
 rw[← hw3]
 clear hw3
 have HPM3:=Lib.hid ((HPM.out.same K2).same k3)
 have HR3:=Lib.hid (HR2.out.kept k3 (fun _ _ f=>f))
 have Hkeys3:=Lib.hid (fun d (hd:d∈sF.ds)=>(Hkeys.out d hd).kept k3 (fun _ _ f=>f))
 obtain⟨n,hn'⟩:∃ n,n=sF.ds.length:=⟨_,rfl⟩
 rw[← hn']at HR3 ⊢ o3
 have Hn:=Lib.hid hn'
 have hlen:n≤20000:=by
  rw[hn',HsF.out]
  have h1:=csem_len x cs0
  have h2:=Hcw.out x Hx.out
  have h3:(scanS x b r).ds.length≤(x.csem cs0).ds.length+1:=by unfold scanS;split<;>simp[CS.add]
  simp only[cs0,List.length_nil]at h1
  have h4:(x.csem cs0).ds.length=(x.csem { nest:=0,els:=fun x x=>false,cal:=fun x x=>false,ds:=[] }).ds.length:=rfl
  omega
 have ho3:=Lib.hid o3
 have hsz3:w2.heap.size<w3.heap.size:=lt_of_heap o3
 have J0:OutI w3 B2 sF.ds 0 [] none 0 w3:=⟨OwnL.nil _ _ _ _ _,rfl,by simp,Kept.refl _ _⟩
 have HJ0:=Lib.hid J0
 have k03:Kept (fun _=>False) w w3:=((kA.trans K).trans K2).trans k3
 obtain⟨i0,hi,hz0,hz1,hz2⟩:=info_parts info_OD
 clear hn' o3 J0
 go_loopw [9,25] (fun v i wr=>∃ (k:Nat) (ol:List OD) (a':Option Addr) (c':Nat),v=.slice a' k c'∧i=.int .i64 k∧k≤n∧RowKit.Hid (OutI w3 B2 sF.ds k ol a' c' wr)) (fun _ i _=>((n:Int)-intOf i).toNat)
 case atStart=>exact⟨0,[],none,0,rfl,rfl,by omega,HJ0⟩
 case round =>
  clear HJ0
  obtain⟨k,ol,a',c',rfl,rfl,hk,J⟩:=hrel
  by_cases hlt:(k:Int)<n
  · have hkl:k<sF.ds.length:=by have:=Hn.out;omega
    obtain⟨g,o,rfl,hg,p0,p1,p2,p3⟩:=dgs_at (k:=k) (HR3.out.kept J.out.kept (fun _ _ f=>f)) hkl
    obtain⟨d,hd'⟩:∃ d,d=sF.ds[k]:=⟨_,rfl⟩
    have hkey3:=Hkeys3.out d (by rw[hd'];exact List.getElem_mem hkl)
    have hkey:=hkey3.kept J.out.kept (fun _ _ f=>f)
    rw[← hd']at p0 p1 p2 p3
    have Hd:=Lib.hid hd'
    obtain⟨dinc,dnest,dtext,dpos⟩:=d
    obtain⟨kk,bb,cs,t,hkk,rfl,hbb,hbB⟩:=hkey
    have hb3:bb<w3.heap.size:=by
     obtain⟨_,bb',_,_,_,e,g3,_⟩:=hkey3
     simp only[Value.iface.injEq,Value.pointer.injEq,Option.some.injEq,Addr.mk.injEq,and_true]at e
     obtain⟨-,rfl⟩:=e
     exact lt_of_heap g3
    simp only[]at p0 p1 p2 p3
    obtain⟨pn,hpn⟩:=HPM3.out.look2 hkk bb
    have hkk3:KeyK wr (posK kk bb):=⟨kk,bb,cs,t,hkk,rfl,hbb⟩
    have Hpn:=Lib.hid hpn
    have Hkk3:=Lib.hid hkk3
    clear hd' hpn hkk3 hbb
    go_wp2_with fail
    obtain⟨W0,hW0⟩:∃ W0,W0=wr.alloc (.cells #[.int .i64 dinc,.int .i64 dnest,.string dtext,.iface kk.pty (.pointer (some ⟨bb,0,none⟩))] 76):=⟨_,rfl⟩
    have kW:Kept (fun _=>False) wr W0:=by rw[hW0];exact keptA
    have oW:W0.heap[wr.heap.size]?=some (.cells #[.int .i64 dinc,.int .i64 dnest,.string dtext,.iface kk.pty (.pointer (some ⟨bb,0,none⟩))] 76 (0,0)):=by rw[hW0];exact heap_alloc_new wr _
    rw[← hW0]
    clear hW0
    obtain⟨s0,s1,s2,s3,-⟩:=slot4 oW
    have hmp:mp<w3.heap.size:=by obtain⟨es,clock,h1,_⟩:=HPM3.out;exact lt_of_heap h1
    have hown:∀ q,(Value.slice a' k c').ownBlock=some q→w3.heap.size≤q∧q<wr.heap.size:=fun q e=>J.out.own.lt q e
    have hwr:=J.out.kept.size
    have zW:wr.heap.size<W0.heap.size:=lt_of_heap oW
    have kR:Kept (fun q=>(Value.slice a' k c').ownBlock=some q) W0 W0:=Kept.refl _ _
    have rule:∀ wx:World,Kept (fun q=>(Value.slice a' k c').ownBlock=some q) W0 wx→wx.cell? ⟨wr.heap.size,0,none⟩=some (.int .i64 dinc)∧wx.cell? ⟨wr.heap.size,1,none⟩=some (.int .i64 dnest)∧wx.cell? ⟨wr.heap.size,2,none⟩=some (.string dtext) ∧
     wx.cell? ⟨wr.heap.size,3,none⟩=some (.iface kk.pty (.pointer (some ⟨bb,0,none⟩)))∧(Instr.lookup 55 (.map (some mp)) (.iface kk.pty (.pointer (some ⟨bb,0,none⟩))) false).run Tryz.prog wx=.ok (.int .i64 pn) wx:=fun wx hx=>by
     have hM:¬ (Value.slice a' k c').ownBlock=some wr.heap.size:=fun e=>by have:=hown _ e;omega
     refine⟨hx.cell s0 hM,hx.cell s1 hM,hx.cell s2 hM,hx.cell s3 hM,?_⟩
     refine Hpn.out wx (fun q=>(Value.slice a' k c').ownBlock=some q) (((J.out.kept.trans kW).mono fun _ _ f=>f.elim).trans hx) (fun e=>by have:=hown _ e;omega) (fun b hb e=>by have:=hown _ e;omega) ?_
     obtain⟨k2,b2,cs2,t2,g1,g2,g3⟩:=Hkk3.out
     have e:=g2
     simp only[posK,Value.iface.injEq,Value.pointer.injEq,Option.some.injEq,Addr.mk.injEq,and_true]at e
     obtain⟨-,rfl⟩:=e
     exact⟨k2,_,cs2,t2,g1,g2,hx.obj (kW.obj g3 (fun f=>f)) (fun e=>by have:=hown _ e;omega)⟩
    have HownW:=Lib.hid (J.out.own.kept kW (fun _ _ f=>f) (fun _ f=>f.elim))
    have hown3:w3.heap.size≤W0.heap.size:=by omega
    have Hown:=Lib.hid hown
    have hll:(ods ol).len=k:=by rw[ods_len,J.out.len]
    have Hll:=Lib.hid hll
    clear hown hll
    go_region_held3 (fun wx=>Kept (fun q=>(Value.slice a' k c').ownBlock=some q) W0 wx) (first | assumption | exact keptD | exact keptA | exact Kept.trans (by assumption) keptD | exact Kept.trans (by assumption) keptA) (first
     | (go_must (refine step_append_one (D:=fun _=>False) (base:=w3.heap.size) (v:=.slice a' k c') rfl (.tmp 29) (.tmp 41) 38 rfl i0 _ 40 ul_sOD hi hz0 hz1 hz2 rfl rfl (HownW.out.kept (by first | exact keptAD | exact keptA) (fun _ _ f=>f) (fun _ f=>f.elim)) k Hll.out ⟨W0.heap.size,0,none⟩ 1 rfl (.at (.string dtext) (.at (.int .i64 dinc) (.at (.int .i64 dnest) (.at (.int .i64 pn) .fin)))) [.string dtext,.int .i64 dinc,.int .i64 dnest,.int .i64 pn] rfl ?nc (by simp[Value.oneCell']) ⟨_,rfl,_,rfl,_,rfl,_,rfl,rfl⟩ (by omega) (by omega) (by simp;omega) ?_);(case nc=>exact new_cells W0 _ _);intro g4 cap' w4 O4 K4 hb4 hg4;have K4':Kept (fun q=>(Value.slice a' k c').ownBlock=some q) W0 w4:=Kept.trans (by first | exact keptAD | exact keptA) (K4.mono fun q _ e=>e.symm)))
    have J2:OutI w3 B2 sF.ds (k+1) (ol++[⟨dtext,dinc,dnest,pn⟩]) (some ⟨g4,0,none⟩) cap' w4:=by
     have e:=ods_snoc ⟨dtext,dinc,dnest,pn⟩ ol
     simp only[]at e
     rw[e]at O4
     refine⟨O4,by simp[J.out.len],?_,(((J.out.kept.trans kW).mono (M':=fun b=>False∨w3.heap.size≤b) fun _ _ f=>f.elim).trans (K4'.mono fun q _ e=>.inr (Hown.out q e).1)).fresh (Nat.le_refl _)⟩
     rw[List.take_succ_eq_append_getElem hkl,List.map_append,List.map_append,J.out.incs,← Hd.out]
     rfl
    have HJ2:=Lib.hid J2
    clear J2 O4 K4
    go_wp2_with fail
    go_roundw
    · exact⟨k+1,_,_,_,rfl,by go_num,by omega,HJ2⟩
    · simp[intOf];omega
  · have ek:k=n:=by omega
    subst ek
    have oo:=J.out.kept.obj ho3.out (fun f=>f)
    have y1:=cell_of_cells (cs:=[_,_]) oo 1 rfl
    have zo:w2.heap.size<wr.heap.size:=lt_of_heap oo
    clear oo
    go_wp2_with fail
    go_ret3
    have hi':=J.out.incs
    rw[List.take_of_length_le (by rw[← Hn.out];exact Nat.le_refl _)]at hi'
    have hk3:=k03.size
    refine⟨x,b,r,ol,a',c',_,_,(by rw[J.out.len,← HsF.out];rfl),Hx.out,HL.out,Hr.out,by rw[hi',HsF.out],?_,k03.trans J.out.kept⟩
    obtain⟨xs,ho,hr⟩:=J.out.own
    have h2:OwnL wr (fun b=>w3.heap.size≤b) w3.heap.size 42 4 (.slice a' k c') (ods ol):=⟨xs,ho,hr.imp fun _ _ f=>f.1.elim⟩
    rw[J.out.len]
    exact(h2.rep fun b hb _=>hb).imp fun b _ hb=>by omega
end Go.Proofs.YtleolbpibjnedaaGreat
