/- The blocks of functions in a row; rings under other names: plain laws. -/
import Derived.Test.YtleolbpibjnedaaGreatQBdD
import Derived.Test.YtleolbpibjnedaaGreatQRgA
import Derived.Test.YtleolbpibjnedaaGreatQRgC
import Derived.Test.YtleolbpibjnedaaGreatQRgD
import Derived.Test.YtleolbpibjnedaaGreatQRc
import Derived.Deep.RegionLawGrows
set_option linter.unusedSimpArgs false
set_option linter.unusedVariables false
set_option maxRecDepth 100000
set_option maxHeartbeats 4000000
namespace Gc
open Go
def A.blk:A→Nat
 | .n _ _ _ _ b _ _ _ _=>b
 | _=>0
def bls:A→List Nat
 | .cons h t=>h.blk :: bls t
 | _=>[]
theorem bls_len:∀ l:A,(bls l).length=l.len
 | .cons h t=>by simp[bls,A.len,bls_len t]
 | .nil | .n ..=>rfl
theorem bls_get:∀ (l:A) (k:Nat) (h:k<(bls l).length),(bls l)[k]=(l.get k).blk
 | .cons h t,0,_=>rfl
 | .cons h t,k+1,hk=>by
   have:=bls_get t k (by simp[bls]at hk;omega)
   simpa [bls,A.get]using this
 | .nil,_,h | .n ..,_,h=>by simp[bls]at h
theorem blk_mem{a:A}(h:a.K.real):a.blk∈a.blocks:=by
 cases a with
 | nil=>exact h.elim
 | cons=>exact h.elim
 | n k=>cases k<;>first | exact h.elim | simp[A.blocks,A.blk]
theorem bls_sub:∀ l:A,(∀ j,j<l.len→(l.get j).K.real)→∀ b∈bls l,b∈l.blocks
 | .cons h t,hr,b,hb=>by
   rcases List.mem_cons.1 hb with rfl|hb
   · have:=blk_mem (hr 0 (by simp[A.len]))
     simp only[A.blocks,List.mem_append]
     exact .inl this
   · have:=bls_sub t (fun j hj=>hr (j+1) (by simp only[A.len];omega)) b hb
     simp only[A.blocks,List.mem_append]
     exact .inr this
 | .nil,_,_,h | .n ..,_,_,h=>by simp[bls]at h
theorem bls_nodup:∀ l:A,(∀ j,j<l.len→(l.get j).K.real)→l.blocks.Nodup→(bls l).Nodup
 | .cons h t,hr,hn=>by
   have hr0:∀ j,j<t.len→(t.get j).K.real:=fun j hj=>hr (j+1) (by simp only[A.len];omega)
   simp only[A.blocks,List.nodup_append]at hn
   refine List.nodup_cons.2 ⟨fun q=>?_,bls_nodup t hr0 hn.2.1⟩
   exact hn.2.2 _ (blk_mem (hr 0 (by simp[A.len]))) _ (bls_sub t hr0 _ q) rfl
 | .nil,_,_ | .n ..,_,_=>by simp[bls]
section
variable {n:Nat} {B:Nat→Nat} {adj adjB:Nat→List Nat} (H:∀ i,i<n→∀ x,x∈adjB (B i)↔∃ j,j<n∧x=B j∧j∈adj i) (hlt:∀ i,i<n→∀ j∈adj i,j<n)
include H hlt
theorem way_to{u v:Nat}(h:Way adj u v):u<n→Way adjB (B u) (B v):=by
 induction h with
 | refl=>exact fun _=>.refl _
 | step hw _ ih=>exact fun hu=>.step ((H _ hu _).2 ⟨_,hlt _ hu _ hw,rfl,hw⟩) (ih (hlt _ hu _ hw))
omit hlt in
theorem way_from{x y:Nat}(h:Way adjB x y):∀ u,u<n→x=B u→∃ v,v<n∧y=B v∧Way adj u v:=by
 induction h with
 | refl=>exact fun u hu e=>⟨u,hu,e,.refl _⟩
 | step hw _ ih =>
   intro u hu e
   subst e
   obtain⟨j,hj,e,hm⟩:=(H u hu _).1 hw
   obtain⟨v,hv,e2,w⟩:=ih j hj e
   exact⟨v,hv,e2,.step hm w⟩
theorem rings_iso(inj:∀ i j,i<n→j<n→B i=B j→i=j){i:Nat}(hi:i<n):(∃ x∈adjB (B i),Way adjB x (B i))↔∃ w∈adj i,Way adj w i:=by
 constructor
 · rintro ⟨x,hx,w⟩
   obtain⟨j,hj,e,hm⟩:=(H i hi x).1 hx
   obtain⟨v,hv,e2,w2⟩:=way_from H w j hj e
   have:=inj _ _ hi hv e2
   subst this
   exact⟨j,hm,w2⟩
 · rintro ⟨j,hm,w⟩
   have hj:=hlt i hi j hm
   exact⟨B j,(H i hi _).2 ⟨j,hj,rfl,hm⟩,way_to H hlt w hj⟩
end
theorem get_N:∀ (fl:List (Str×N)) (xs:A),xs.N=declsN fl→∀ k (h:k<fl.length),(xs.get k).N=N.func fl[k].1 fl[k].2
 | p :: fl,.cons a t,e,0,_=>by
   simp only[A.N,declsN,N.cons.injEq]at e
   exact e.1
 | p :: fl,.cons a t,e,k+1,h=>by
   simp only[A.N,declsN,N.cons.injEq]at e
   exact get_N fl t e.2 k (by simpa using h)
 | p :: fl,.nil,e,_,_=>by simp[A.N,declsN]at e
 | p :: fl,.n ..,e,_,_=>by simp[A.N,declsN]at e
 | [],_,_,_,h=>by simp at h
theorem decls_list:∀ (fl:List (Str×N)) (xs:A),xs.N=declsN fl→xs.isList
 | p :: fl,.cons a t,e=>by
   simp only[A.N,declsN,N.cons.injEq]at e
   exact decls_list fl t e.2
 | p :: fl,.nil,e=>trivial
 | p :: fl,.n ..,e=>by simp[A.N,declsN]at e
 | [],.nil,_=>trivial
 | [],.cons ..,e=>by simp[A.N,declsN]at e
 | [],.n ..,e=>by simp[A.N,declsN]at e
theorem get_objs{f:Int→Option Addr}:∀ (xs:A),xs.objs f→∀ k,k<xs.len→(xs.get k).objs f
 | .cons a t,h,0,_=>h.1
 | .cons a t,h,k+1,hk=>get_objs t h.2 k (by simp only[A.len]at hk;omega)
 | .nil,_,_,h | .n ..,_,_,h=>by simp[A.len]at h
def nmAt(fl:List (Str×N))(k:Nat):Str:=match fl[k]? with | some p=>p.1 | none=>sE
def nsAt(fl:List (Str×N))(k:Nat):List Str:=match fl[k]? with | some p=>p.2.names | none=>[]
theorem nmAt_lt{fl:List (Str×N)}{k:Nat}(h:k<fl.length):nmAt fl k=fl[k].1:=by unfold nmAt;rw[List.getElem?_eq_getElem h]
theorem nsAt_lt{fl:List (Str×N)}{k:Nat}(h:k<fl.length):nsAt fl k=fl[k].2.names:=by unfold nsAt;rw[List.getElem?_eq_getElem h]
structure FnMap (fl:List (Str×N)) (B:Nat→Nat) (k:Nat) (F:Str→Option Addr):Prop where
 yes:∀ j,j<k→F (nmAt fl j)=some ⟨B j,0,none⟩
 no:∀ s,(∀ j,j<k→nmAt fl j≠s)→F s=none
theorem FnMap.of{fl:List (Str×N)}{B:Nat→Nat}{k:Nat}{F:Str→Option Addr}(h:FnMap fl B k F){s:Str}{a:Addr}(e:F s=some a):∃ j,j<k∧nmAt fl j=s∧a=⟨B j,0,none⟩:=by
 by_cases q:∃ j,j<k∧nmAt fl j=s
 · obtain⟨j,hj,rfl⟩:=q
   rw[h.yes j hj]at e
   exact⟨j,hj,rfl,(Option.some.inj e).symm⟩
 · rw[h.no s fun j hj e=>q ⟨j,hj,e⟩]at e
   cases e
open Classical in
noncomputable def adjB (fl:List (Str×N)) (B:Nat→Nat) (F:Str→Option Addr) (b:Nat):List Nat :=
 if h:∃ k,k<fl.length∧B k=b then ((nsAt fl h.choose).filterMap F).map Addr.block else []
theorem adjB_at{fl:List (Str×N)}{B:Nat→Nat}(inj:∀ i j,i<fl.length→j<fl.length→B i=B j→i=j)(F:Str→Option Addr){k:Nat}(hk:k<fl.length):adjB fl B F (B k)=((nsAt fl k).filterMap F).map Addr.block:=by
 have h:∃ j,j<fl.length∧B j=B k:=⟨k,hk,rfl⟩
 unfold adjB
 rw[dif_pos h,inj _ _ h.choose_spec.1 hk h.choose_spec.2]
theorem adjB_iff{fl:List (Str×N)}{B:Nat→Nat}(inj:∀ i j,i<fl.length→j<fl.length→B i=B j→i=j){F:Str→Option Addr}(hF:FnMap fl B fl.length F){k:Nat}(hk:k<fl.length)(x:Nat) :
 x∈adjB fl B F (B k)↔∃ j,j<fl.length∧x=B j∧nmAt fl j∈nsAt fl k:=by
 rw[adjB_at inj F hk,List.mem_map]
 constructor
 · rintro ⟨a,ha,rfl⟩
   obtain⟨s,hs,e⟩:=List.mem_filterMap.1 ha
   obtain⟨j,hj,rfl,rfl⟩:=hF.of e
   exact⟨j,hj,rfl,hs⟩
 · rintro ⟨j,hj,rfl,hm⟩
   exact⟨_,List.mem_filterMap.2 ⟨_,hm,hF.yes j hj⟩,rfl⟩
end Gc
namespace Go.Proofs.YtleolbpibjnedaaGreat
open Go Go.RowKit Gc
theorem blk_of{x:A}{called:Str}{l:N}(hx:x.N=Gc.N.func called l){w:World}{D:Nat→Prop}{v:Value}(hR:Rep w D (x.g 1 .fin) [v]):v=.iface 54 (fp x.blk)∧D x.blk:=by
 obtain⟨o,b',f0,f1,f2,f3,rfl,e⟩:=A_of_N (k:=.func) hx
 have e0:f0.N=Gc.N.none:=congrArg (fun x=>match x with | Gc.N.n _ _ _ (.cons y _)=>y | _=>.nil) e
 have e1:f1.N=.name called 0:=congrArg (fun x=>match x with | Gc.N.n _ _ _ (.cons _ (.cons y _))=>y | _=>.nil) e
 have e2:f2.N=Gc.N.ftype:=congrArg (fun x=>match x with | Gc.N.n _ _ _ (.cons _ (.cons _ (.cons y _)))=>y | _=>.nil) e
 have e3:f3.N=.block l:=congrArg (fun x=>match x with | Gc.N.n _ _ _ (.cons _ (.cons _ (.cons _ (.cons y _))))=>y | _=>.nil) e
 obtain⟨i0,m0⟩:=W_none e0
 have i1:f1.isn:=isn_of_N (by rw[e1];trivial)
 have i2:f2.isn:=isn_of_N (by rw[e2];trivial)
 have i3:f3.isn:=isn_of_N (by rw[e3];trivial)
 obtain⟨ev,hb,-⟩:=open_func (m:=1) (.inr rfl) i0 i1 i2 i3 hR
 simp only[if_true,ptrVal]at ev
 exact⟨ev,hb⟩
theorem func_real{x:A}{called:Str}{l:N}(hx:x.N=Gc.N.func called l):x.isn∧x.K=.func:=by
 obtain⟨o,b',f0,f1,f2,f3,rfl,e⟩:=A_of_N (k:=.func) hx
 exact⟨trivial,rfl⟩
section
variable {w:World} {D:Nat→Prop} {fb:Nat} {fl:List (Str×N)} {xs:A} {f:Int→Option Addr} {a:Option Addr} {c:Nat} (F:FileI w D fb fl xs f a c)
include F
theorem FileI.at{k:Nat}(hk:k<fl.length):∃ g o,a=some ⟨g,o,none⟩∧g<w.heap.size∧w.cell? ⟨g,o+k,none⟩=some (.iface 54 (fp (xs.get k).blk))∧Rep w D ((xs.get k).g 1 .fin) [.iface 54 (fp (xs.get k).blk)]∧D (xs.get k).blk ∧
 (xs.get k).N=N.func fl[k].1 fl[k].2∧(xs.get k).objs f:=by
 have hl:=decls_list _ _ F.nn
 have hlen:=decls_len _ _ F.nn
 obtain⟨a',c',e,hs⟩:=list_valA hl F.rep
 simp only[Value.slice.injEq]at e
 obtain⟨rfl,-,rfl⟩:=e
 obtain⟨g,o,rfl⟩:=hs (by omega)
 obtain⟨v,r,hc,hg⟩:=A_at (k:=k) F.rep hl (fun j hj=>(func_real (get_N fl xs F.nn j (by omega))).1) (by omega)
 have hN:=get_N fl xs F.nn k hk
 obtain⟨rfl,hb⟩:=blk_of hN r
 exact⟨g,o,rfl,hg,hc,r,hb,hN,get_objs xs F.objs k (by omega)⟩
theorem FileI.real:∀ j,j<xs.len→(xs.get j).K.real:=fun j hj=>by
 have hlen:=decls_len _ _ F.nn
 rw[(func_real (get_N fl xs F.nn j (by omega))).2]
 trivial
theorem FileI.inj:∀ i j,i<fl.length→j<fl.length→(xs.get i).blk=(xs.get j).blk→i=j:=fun i j hi hj e=>by
 have hlen:=decls_len _ _ F.nn
 have nd:=bls_nodup xs F.real F.nd
 have hb:=bls_len xs
 have h1:i<(bls xs).length:=by omega
 have h2:j<(bls xs).length:=by omega
 refine(List.getElem_inj (h₀:=h1) (h₁:=h2) nd).1 ?_
 rw[bls_get,bls_get]
 exact e
theorem FileI.blk{k:Nat}(hk:k<fl.length):∃ cs t,w.heap[(xs.get k).blk]?=some (.cells cs t (0,0)):=by
 obtain⟨_,_,_,_,_,r,_,hN,_⟩:=F.at hk
 obtain⟨_,_,_,_,_,_,ho,_⟩:=func_open hN r
 exact⟨_,_,ho⟩
end
theorem RowP.all{w:World}{base:Nat}{v:Value}{l:List Nat}(h:RowP w base v l)(h0:0<l.length):∃ g c,v=.slice (some ⟨g,0,none⟩) l.length c∧g<w.heap.size∧base≤g∧∀ i (h:i<l.length),w.cell? ⟨g,i,none⟩=some (fp l[i]):=by
 obtain⟨g,c,rfl,hg,-⟩:=h.at h0
 refine⟨g,c,rfl,hg,(h.lt g rfl).1,fun i hi=>?_⟩
 obtain⟨g',c',e,-,hc⟩:=h.at hi
 simp only[Value.slice.injEq,Option.some.injEq,Addr.mk.injEq,and_true]at e
 obtain⟨rfl,-⟩:=e
 exact hc
structure DclI (w:World) (mb base:Nat) (fl:List (Str×N)) (xs:A) (k:Nat) (st:Value) (wr:World):Prop where
 row:RowP wr base st ((List.range k).map fun j=>(xs.get j).blk)
 map:∃ F,MapS wr mb F∧FnMap fl (fun j=>(xs.get j).blk) k F
 kept:Kept (fun _=>False) w wr
 size:base≤wr.heap.size
theorem DclI.step{w:World}{mb base:Nat}{fl:List (Str×N)}{xs:A}{k:Nat}{st:Value}{wr:World}(I:DclI w mb base fl xs k st wr)(h0:w.heap.size≤mb)(h1:mb<base)(hk:k<fl.length)(hfew:fl.length≤100)(hnm:∀ i j,i<fl.length→j<fl.length→nmAt fl i=nmAt fl j→i=j)(hs:(nmAt fl k).size≤1000) :
 ∃ v' w3 w4,(Builtin.append_ #[118,118] 118 #[st,.slice (some ⟨wr.heap.size,0,none⟩) 1 1]).run Tryz.prog (wr.alloc (.cells #[fp (xs.get k).blk] 54))=.ok v' w3 ∧
  (Instr.mapUpdate 119 (.map (some mb)) (.string (nmAt fl k)) (fp (xs.get k).blk)).run Tryz.prog w3=.ok () w4∧DclI w mb base fl xs (k+1) v' w4∧Kept (fun _=>False) w w3:=by
 obtain⟨row,⟨F,hm,hF⟩,kept,size⟩:=I
 have r2:RowP (wr.alloc (.cells #[fp (xs.get k).blk] 54)) base st ((List.range k).map fun j=>(xs.get j).blk):=row.kept (keptA (M:=fun _=>False)) (fun _ _ f=>f)
 obtain⟨v',w3,r3,row3,k3,-⟩:=r2.push (x:=(xs.get k).blk) (b:=wr.heap.size) (cell_of_cells (cs:=[fp (xs.get k).blk]) (heap_alloc_new wr _) 0 rfl) (by simp;omega) (by simp;omega) 118
 have hl:=r2.lt
 have s3:=k3.size
 simp only[World.size_alloc]at s3
 have hno:F (nmAt fl k)=none:=hF.no _ fun j hj e=>by
  have:=hnm j k (by omega) hk e
  omega
 obtain⟨w4,r4,m4,k4⟩:=((hm.kept (keptA (M:=fun _=>False)) (fun f=>f)).kept k3 (fun e=>by have:=(hl _ e).1;omega)).store hs hno ⟨(xs.get k).blk,0,none⟩
 have K3:Kept (fun _=>False) w w3:=(((kept.mono (M':=fun b=>False∨w.heap.size≤b) fun _ _ f=>f.elim).trans ((keptA (M:=fun _=>False)).mono fun _ _ f=>f.elim)).trans (k3.mono fun b _ e=>.inr (by have:=(hl _ e).1;omega))).fresh (Nat.le_refl _)
 have s4:=k4.size
 refine⟨v',w3,w4,r3,r4,⟨?_,⟨_,m4,⟨fun j hj=>?_,fun s q=>?_⟩⟩,?_,by omega⟩,K3⟩
 · rw[List.range_succ,List.map_append]
   exact row3.kept k4 fun g e q=>by have:=(row3.lt g e).1;omega
 · by_cases e:j=k
   · subst e;exact if_pos rfl
   · show(if nmAt fl j=nmAt fl k then _ else F (nmAt fl j))=_
     rw[if_neg fun q=>e (hnm j k (by omega) hk q)]
     exact hF.yes j (by omega)
 · show(if s=nmAt fl k then _ else F s)=none
   rw[if_neg fun e=>q k (by omega) e.symm]
   exact hF.no s fun j hj=>q j (by omega)
 · exact((K3.mono (M':=fun b=>False∨w.heap.size≤b) fun _ _ f=>f.elim).trans (k4.mono fun b _ e=>.inr (by omega))).fresh (Nat.le_refl _)
structure AdjI (w W2:World) (am:Nat) (fl:List (Str×N)) (xs:A) (F:Str→Option Addr) (k:Nat) (wr:World):Prop where
 map:∃ fa,MapF wr w.heap.size am fa∧∀ j,j<k→∃ ab cb,fa (xs.get j).blk=some (.slice ab ((nsAt fl j).filterMap F).length cb)∧Rep wr (fun q=>W2.heap.size≤q) (ptrs ((nsAt fl j).filterMap F)) [.slice ab ((nsAt fl j).filterMap F).length cb]
 kept:Kept (fun q=>q=am∨W2.heap.size≤q) W2 wr
theorem AdjI.step{w W2:World}{am:Nat}{fl:List (Str×N)}{xs:A}{F:Str→Option Addr}{k:Nat}{wr w1:World}(I:AdjI w W2 am fl xs F k wr)(h0:w.heap.size≤am)(h1:am<W2.heap.size)(inj:∀ j,j<k→(xs.get j).blk≠(xs.get k).blk)(hb:FBlk wr w.heap.size (xs.get k).blk)
 {ab:Option Addr} {cb:Nat} (K:Kept (fun _=>False) wr w1) (R:Rep w1 (fun b=>wr.heap.size≤b) (ptrs ((nsAt fl k).filterMap F)) [.slice ab ((nsAt fl k).filterMap F).length cb]) :
 ∃ w2,(Instr.mapUpdate 129 (.map (some am)) (fp (xs.get k).blk) (.slice ab ((nsAt fl k).filterMap F).length cb)).run Tryz.prog w1=.ok () w2∧AdjI w W2 am fl xs F (k+1) w2:=by
 obtain⟨⟨fa,hm,hj⟩,kept⟩:=I
 obtain⟨w2,r2,m2,k2⟩:=(hm.kept K (fun f=>f) (fun _ _ f=>f)).store ul_mFR h0 (hb.kept K (fun _ _ f=>f)) (.slice ab ((nsAt fl k).filterMap F).length cb)
 have s0:=kept.size
 refine⟨w2,r2,⟨_,m2,fun j hjk=>?_⟩,(kept.trans (K.mono fun _ _ f=>f.elim)).trans (k2.mono fun q _ e=>.inl e)⟩
 by_cases e:j=k
 · subst e
   rw[upd_same]
   exact⟨ab,cb,rfl,(R.kept k2 (fun b hb e=>by omega)).imp fun b _ hb=>by omega⟩
 · obtain⟨ab',cb',e1,R1⟩:=hj j (by omega)
   rw[upd_ne _ _ (inj j (by omega))]
   exact⟨ab',cb',e1,(R1.kept K (fun _ _ f=>f)).kept k2 (fun b hb e=>by omega)⟩
theorem ptrs_cells{w:World}{D:Nat→Prop}{l:List Addr}{ab:Option Addr}{n cb:Nat}(h:Rep w D (ptrs l) [.slice ab n cb]):∀ j (hj:j<l.length),∃ g o,ab=some ⟨g,o,none⟩∧g<w.heap.size∧w.cell? ⟨g,o+j,none⟩=some (.pointer (some l[j])):=fun j hj=>by
 obtain⟨g,o,e,-,hg,hc⟩:=ptrs_at h hj
 exact⟨g,o,e,hg,hc⟩
theorem graph_of{w W2 wr:World}{D:Nat→Prop}{fb:Nat}{fl:List (Str×N)}{xs:A}{fo:Int→Option Addr}{a:Option Addr}{c:Nat}(Fi:FileI w D fb fl xs fo a c)(hD:∀ b,D b→b<w.heap.size){am base:Nat}{F:Str→Option Addr}{st:Value}(I:AdjI w W2 am fl xs F fl.length wr)(hF:FnMap fl (fun j=>(xs.get j).blk) fl.length F)
 (row:RowP wr base st ((List.range fl.length).map fun j=>(xs.get j).blk)) (K:Kept (fun _=>False) w wr) (h0:w.heap.size≤am) (h1:am<wr.heap.size) (hn0:0<fl.length) (hfew:fl.length≤100) (hns:∀ k,(nsAt fl k).length≤10000) :
 GraphP wr w.heap.size ((List.range fl.length).map fun j=>(xs.get j).blk) (adjB fl (fun j=>(xs.get j).blk) F) st am:=by
 have mem:∀ {b},b∈((List.range fl.length).map fun j=>(xs.get j).blk)→∃ k,k<fl.length∧(xs.get k).blk=b:=fun h=>by
  obtain⟨k,hk,e⟩:=List.mem_map.1 h
  exact⟨k,List.mem_range.1 hk,e⟩
 have len:((List.range fl.length).map fun j=>(xs.get j).blk).length=fl.length:=by simp
 refine⟨?_,?_,fun b hb=>?_,?_,fun b hb x hx=>?_,⟨by rw[len];exact hfew,fun b hb=>?_⟩,⟨K.size,h1,h0⟩⟩
 · obtain⟨g,c,e,hg,-,hc⟩:=row.all (by rw[len];exact hn0)
   exact⟨g,0,c,e,hg,fun i hi=>by rw[Nat.zero_add];exact hc i hi⟩
 · refine List.pairwise_iff_getElem.2 fun i j hi hj hij e=>?_
   rw[len]at hi hj
   simp only[List.getElem_map,List.getElem_range]at e
   have:=Fi.inj _ _ hi hj e
   omega
 · obtain⟨k,hk,rfl⟩:=mem hb
   obtain⟨cs,t,ho⟩:=Fi.blk hk
   obtain⟨_,_,_,_,_,_,hd,_⟩:=Fi.at hk
   exact⟨hD _ hd,cs,t,K.obj ho (fun f=>f)⟩
 · obtain⟨fa,hm,hj⟩:=I.map
   refine⟨fa,hm,fun b hb=>?_⟩
   obtain⟨k,hk,rfl⟩:=mem hb
   obtain⟨ab,cb,e,R⟩:=hj k hk
   have ea:=adjB_at (B:=fun j=>(xs.get j).blk) Fi.inj F hk
   refine⟨ab,cb,by rw[e,ea,List.length_map],fun j hj=>?_⟩
   have hj':j<((nsAt fl k).filterMap F).length:=by rw[ea,List.length_map]at hj;exact hj
   obtain⟨g,o,e1,hg,hc⟩:=ptrs_cells R j hj'
   refine⟨g,o,e1,hg,?_⟩
   rw[hc]
   have hm2:=List.getElem_mem hj'
   obtain⟨s,-,es⟩:=List.mem_filterMap.1 hm2
   obtain⟨i,-,-,ei⟩:=hF.of es
   have e2:(adjB fl (fun j=>(xs.get j).blk) F (xs.get k).blk)[j]=(((nsAt fl k).filterMap F)[j]).block:=by
    have:(adjB fl (fun j=>(xs.get j).blk) F (xs.get k).blk)[j]?=(((nsAt fl k).filterMap F).map Addr.block)[j]?:=by rw[ea]
    rw[List.getElem?_eq_getElem hj,List.getElem?_map,List.getElem?_eq_getElem hj']at this
    simpa using this
   rw[e2,ei]
 · obtain⟨k,hk,rfl⟩:=mem hb
   obtain⟨j,hj,rfl,-⟩:=(adjB_iff (B:=fun j=>(xs.get j).blk) Fi.inj hF hk x).1 hx
   exact List.mem_map.2 ⟨j,List.mem_range.2 hj,rfl⟩
 · obtain⟨k,hk,rfl⟩:=mem hb
   have ea:=adjB_at (B:=fun j=>(xs.get j).blk) Fi.inj F hk
   rw[ea,List.length_map]
   exact Nat.le_trans (List.length_filterMap_le _ _) (hns k)
def RfP(w:World)(n:Nat)(B:Nat→Nat)(adj:Nat→List Nat)(e:Ending)(w':World):Prop :=
 ∃ (r:Nat→Bool) (mv:Value),e=.returned mv∧(∀ k,k<n→(r (B k)=true↔∃ x∈adj k,Gc.Way adj x k))∧((mv=.map none∧∀ u,r u=false)∨∃ mr,mv=.map (some mr)∧MapF w' w.heap.size mr fun u=>if r u=true then some (.bool true) else none)∧Kept (fun _=>False) w w'
theorem makeMap_x{t k e:TypeId}(ht:Tryz.prog.underlying t=some (.map k e))(n:Nat)(w:World):(Instr.makeMap t (some (.int .i64 n))).run Tryz.prog w=.ok (.map (some w.heap.size)) (w.alloc (.map #[] 0)):=makeMap_n ht n w
structure FlOk3 (fl:List (Str×N)):Prop where
 good:∀ p∈fl,V .Ss p.2∧p.2.cost≤100000
 names:∀ p∈fl,p.2.names.length≤4000
 inj:∀ i j,i<fl.length→j<fl.length→nmAt fl i=nmAt fl j→i=j
 size:∀ k,(nmAt fl k).size≤1000
 some_:0<fl.length
 few:fl.length≤100
theorem ns_le{fl:List (Str×N)}(ok:FlOk3 fl)(k:Nat):(nsAt fl k).length≤10000:=by
 by_cases hk:k<fl.length
 · rw[nsAt_lt hk]
   have:=ok.names _ (List.getElem_mem hk)
   omega
 · unfold nsAt
   rw[List.getElem?_eq_none (by omega)]
   simp
theorem recfuncs_any{w:World}{D:Nat→Prop}{fb:Nat}{fl:List (Str×N)}{xs:A}{fo:Int→Option Addr}{a:Option Addr}{c:Nat}(Fi:FileI w D fb fl xs fo a c)(hD:∀ b,D b→b<w.heap.size)(ok:FlOk3 fl){sb sc:Nat}(hsb:sb<w.heap.size)(hsc:w.cell? ⟨sb,0,none⟩=some (.pointer (some ⟨fb,0,none⟩)))
 (adj:Nat→List Nat) (hadj:∀ i,i<fl.length→∀ j,j∈adj i↔j<fl.length∧nmAt fl j∈nsAt fl i) :
 Calls Tryz.prog 31 #[.slice (some ⟨sb,0,none⟩) 1 sc] w (RfP w fl.length (fun j=>(xs.get j).blk) adj):=by
 have HFi:=Lib.hid Fi
 have HD:=Lib.hid hD
 have Hok:=Lib.hid ok
 have Hadj:=Lib.hid hadj
 have hfo:=Fi.obj
 obtain⟨n,hn⟩:∃ n,n=fl.length:=⟨_,rfl⟩
 rw[← hn]at hfo ⊢
 have hfew:=ok.few
 have hn0:=ok.some_
 rw[← hn]at hfew hn0
 have f0:=cell_of_cells (cs:=[_]) hfo 0 rfl
 have zf:fb<w.heap.size:=lt_of_heap hfo
 have Hn:=Lib.hid hn
 have hmm:=@run_makeMap Tryz.prog
 have hmn:=makeMap_x ul_mFR n
 clear Fi hD ok hadj hn hfo
 go_enter Tryz.func31,Tryz.ntmps31
 go_wp2_with fail
 obtain⟨W1,hW1⟩:∃ W1,W1=w.alloc (.map #[] 0):=⟨_,rfl⟩
 have K1:Kept (fun _=>False) w W1:=by rw[hW1];exact keptA
 have z1:W1.heap.size=w.heap.size+1:=by rw[hW1];simp
 have I0:DclI w w.heap.size W1.heap.size fl xs 0 (.slice none 0 0) W1:=⟨RowP.nil _ _,⟨_,by rw[hW1];exact MapS.new w,⟨fun j hj=>absurd hj (by omega),fun _ _=>rfl⟩⟩,K1,Nat.le_refl _⟩
 have HI0:=Lib.hid I0
 obtain⟨mb,hmb⟩:∃ mb,mb=w.heap.size:=⟨_,rfl⟩
 obtain⟨base,hbase⟩:∃ base,base=W1.heap.size:=⟨_,rfl⟩
 have hbm:w.heap.size≤mb∧mb<base:=by omega
 rw[← hW1]
 rw[← hmb,← hbase]at HI0
 rw[← hmb]
 have f1:=K1.cell f0 (fun f=>f)
 have s1:=K1.cell hsc (fun f=>f)
 have zf1:fb<W1.heap.size:=by omega
 have zs1:sb<W1.heap.size:=by omega
 clear hW1 I0 hmb hbase f0 hsc
 go_loopw [3,17] (fun st t wr=>(t=.int .i64 0∧st=.slice none 0 0∧wr=W1)∨(t=.int .i64 1∧RowKit.Hid (DclI w mb base fl xs n st wr))) (fun _ t _=>(1-intOf t).toNat)
 case atStart=>exact .inl ⟨rfl,rfl,rfl⟩
 case round =>
  rcases hrel with ⟨rfl,rfl,rfl⟩|⟨rfl,HI⟩
  · go_wp2_with fail
    obtain⟨W1,rfl⟩:∃ W1:World,W1=wr:=⟨_,rfl⟩
    go_loopw [3,26] (fun st t wr=>∃ k:Nat,t=.int .i64 k∧k≤n∧RowKit.Hid (DclI w mb base fl xs k st wr)) (fun _ t _=>((n:Int)-intOf t).toNat)
    case atStart=>exact⟨0,rfl,by omega,HI0⟩
    case round =>
     obtain⟨k,rfl,hk,HI⟩:=hrel
     have I:=HI.out
     by_cases hlt:(k:Int)<n
     · have hkl:k<fl.length:=by have:=Hn.out;omega
       obtain⟨g,o,rfl,hg,hc,hR,-,hN,-⟩:=HFi.out.at hkl
       obtain⟨f3,b1,b3,o1,v2,-,ho,ho1,-,-,-,-⟩:=func_open hN hR
       obtain⟨v',w3,w4,r3,r4,I4,K3⟩:=I.step hbm.1 hbm.2 hkl (by have:=Hn.out;omega) Hok.out.inj (Hok.out.size k)
       obtain⟨nm,hnm⟩:∃ nm,nm=nmAt fl k:=⟨_,rfl⟩
       rw[← nmAt_lt hkl,← hnm]at ho1
       rw[← hnm]at r4
       obtain⟨bk,hbk⟩:∃ bk,bk=(xs.get k).blk:=⟨_,rfl⟩
       rw[← hbk]at hc ho r3 r4
       have hc':=I.kept.cell hc (fun f=>f)
       have hg':g<wr.heap.size:=Nat.lt_of_lt_of_le hg I.kept.size
       have zk:bk<wr.heap.size:=lt_of_heap (I.kept.obj ho (fun f=>f))
       have zk3:bk<w3.heap.size:=lt_of_heap (K3.obj ho (fun f=>f))
       have z13:b1<w3.heap.size:=lt_of_heap (K3.obj ho1 (fun f=>f))
       have p3:=cell_of_cells (cs:=[_,_,_,_]) (I.kept.obj ho (fun f=>f)) 3 rfl
       have q0:=cell_of_cells (cs:=[_,_,_,_]) (K3.obj ho (fun f=>f)) 0 rfl
       have q1:=cell_of_cells (cs:=[_,_,_,_]) (K3.obj ho (fun f=>f)) 1 rfl
       have t0:=cell_of_cells (cs:=[_,_]) (K3.obj ho1 (fun f=>f)) 0 rfl
       have ta:∀ w,(Instr.typeAssert (.iface 54 (.pointer (some ⟨bk,0,none⟩))) 93 54 true).run Tryz.prog w=.ok (.tuple #[.pointer (some ⟨bk,0,none⟩),.bool true]) w:=fun w=>as_func _ _ w
       have HI4:=Lib.hid I4
       clear I I4 hR hN ho ho1 hc hg hnm hbk K3
       go_wp2_with (at_builtin;go_must (refine wpList_append_done rfl (.tmp 44) (.tmp 46) 118 rfl rfl rfl r3 ?_))
       go_roundw
       · exact⟨k+1,by go_num,by omega,HI4⟩
       · simp[intOf];omega
     · have hkn:k=n:=by omega
       subst hkn
       clear I
       go_wp2_with fail
       go_roundw
       · exact .inr ⟨by go_num,HI⟩
       · simp[intOf]
  · clear HI0
    obtain⟨row,⟨F,hF0,hF⟩,K,sz⟩:=HI.out
    have len:((List.range n).map fun j=>(xs.get j).blk).length=n:=by simp
    obtain⟨g,cs,rfl,hg,hgb,hrc⟩:=row.all (by rw[len];exact hn0)
    rw[len]
    have HF0:=Lib.hid hF0
    have HF:=Lib.hid hF
    have Hrow:=Lib.hid row
    have Hrc:=Lib.hid hrc
    clear hF0 hF row hrc len HI
    have hz:((n:Int) == 0)=false:=by simp;omega
    go_wp2_with fail
    obtain⟨W2,hW2⟩:∃ W2,W2=wr.alloc (.map #[] 0):=⟨_,rfl⟩
    have kA:Kept (fun _=>False) wr W2:=by rw[hW2];exact keptA
    have z2:W2.heap.size=wr.heap.size+1:=by rw[hW2];simp
    obtain⟨am,ham⟩:∃ am,am=wr.heap.size:=⟨_,rfl⟩
    have HA0:RowKit.Hid (AdjI w W2 am fl xs F 0 W2):=Lib.hid ⟨⟨_,by rw[hW2,ham];exact MapF.new wr _,fun j hj=>absurd hj (by omega)⟩,Kept.refl _ _⟩
    rw[← hW2,← ham]
    have sK:=K.size
    have sK1:=K1.size
    have ham1:wr.heap.size≤am∧am<W2.heap.size:=by omega
    clear hW2 ham
    obtain⟨wo,rfl⟩:∃ wo:World,wo=wr:=⟨_,rfl⟩
    go_loopw [72] (fun t wx=>∃ k:Nat,t=.int .i64 k∧k≤n∧RowKit.Hid (AdjI w W2 am fl xs F k wx)) (fun t _=>((n:Int)-intOf t).toNat)
    case atStart=>exact⟨0,rfl,by omega,HA0⟩
    case round =>
     clear HA0
     obtain⟨k,rfl,hk,HA⟩:=hrel
     have KW:Kept (fun q=>q=am∨W2.heap.size≤q) wo wr:=(kA.mono fun _ _ f=>f.elim).trans HA.out.kept
     have KWw:Kept (fun _=>False) w wr:=((K.mono (M':=fun b=>False∨w.heap.size≤b) fun _ _ f=>f.elim).trans (KW.mono fun b _ h=>.inr (by omega))).fresh (Nat.le_refl _)
     have hgW:∀ i,¬ ((⟨g,i,none⟩:Addr).block=am∨W2.heap.size≤(⟨g,i,none⟩:Addr).block):=fun i h=>by simp only[]at h;omega
     have sW:=KW.size
     have sA:=HA.out.kept.size
     by_cases hlt:(k:Int)<n
     · have hkl:k<fl.length:=by have:=Hn.out;omega
       have hkr:k<((List.range n).map fun j=>(xs.get j).blk).length:=by simp;omega
       have hc:=KW.cell (Hrc.out k hkr) (hgW k)
       rw[List.getElem_map,List.getElem_range]at hc
       have hgl:g<wr.heap.size:=by omega
       obtain⟨_,_,_,_,_,hR,-,hN,hO⟩:=HFi.out.at hkl
       obtain⟨cs',t',ho⟩:=HFi.out.blk hkl
       have hdb:=(HFi.out.at hkl)
       obtain⟨_,_,_,_,_,_,hDb,_⟩:=hdb
       have hC:=callees_any (Hok.out.good _ (List.getElem_mem hkl)).1 (Hok.out.good _ (List.getElem_mem hkl)).2 hN (Hok.out.names _ (List.getElem_mem hkl)) fo hO wr D (xs.get k).blk mb F (hR.kept KWw (fun _ _ f=>f)) (HF0.out.kept KW (by omega))
       rw[← nsAt_lt hkl]at hC
       have HC:=Lib.hid hC
       have hst:=fun (w1:World) (ab:Option Addr) (cb:Nat) K R=>HA.out.step (w1:=w1) (ab:=ab) (cb:=cb) (by omega) (by omega) (fun j hj e=>by have:=HFi.out.inj j k (by omega) hkl e;omega) ⟨HD.out _ hDb,cs',t',KWw.obj ho (fun f=>f)⟩ K R
       have Hst:=Lib.hid hst
       obtain⟨bk,hbk⟩:∃ bk,bk=(xs.get k).blk:=⟨_,rfl⟩
       rw[← hbk]at hc HC Hst
       clear hC hst hR hN hO ho hDb hbk
       go_wp2_with fail
       refine HC.out.mono ?_
       rintro e w2 ⟨ac,nc,cc,rfl,rfl,R,K2⟩
       obtain⟨w3,r3,A3⟩:=Hst.out _ _ _ K2 R
       have HA3:=Lib.hid A3
       clear A3 R
       go_wp2_with fail
       go_roundw
       · exact⟨k+1,by go_num,by omega,HA3⟩
       · simp[intOf];omega
     · have hkn:k=n:=by omega
       subst hkn
       have hA:=HA.out
       have hrow:=Hrow.out.kept KW (fun q e h=>by have:=Hrow.out.lt q e;omega)
       have hF:=HF.out
       rw[Hn.out]at hA hrow hF
       have G:=graph_of HFi.out HD.out hA hF hrow KWw (by omega) (by omega) Hok.out.some_ Hok.out.few (ns_le Hok.out)
       have HG:=Lib.hid (nodes_any G)
       rw[← Hn.out,show(List.map (fun j=>(xs.get j).blk) (List.range k)).length=k by simp]at HG
       clear hA hrow hF G
       go_wp2_with fail
       refine HG.out.mono ?_
       rintro e w5 ⟨r,mv,rfl,hr,-,hmv,K5⟩
       have Hr:=Lib.hid hr
       have Hmv:=Lib.hid hmv
       clear hr hmv
       go_wp2_with fail
       go_ret
       refine⟨r,mv,rfl,fun i hi=>?_,?_,KWw.trans K5⟩
       · have hi':i<fl.length:=by have:=Hn.out;omega
         have hm:(xs.get i).blk∈(List.range k).map fun j=>(xs.get j).blk:=List.mem_map.2 ⟨i,List.mem_range.2 hi,rfl⟩
         rw[Hr.out _ hm]
         have hF:=HF.out
         rw[Hn.out]at hF
         exact rings_iso (n:=fl.length) (B:=fun j=>(xs.get j).blk) (adj:=adj) (fun i hi x=>by
          rw[adjB_iff (B:=fun j=>(xs.get j).blk) HFi.out.inj hF hi]
          constructor
          · rintro ⟨j,hj,e,hm⟩;exact⟨j,hj,e,(Hadj.out i hi j).2 ⟨hj,hm⟩⟩
          · rintro ⟨j,hj,e,hm⟩;exact⟨j,hj,e,((Hadj.out i hi j).1 hm).2⟩) (fun i hi j hj=>((Hadj.out i hi j).1 hj).1) HFi.out.inj hi'
       · rcases Hmv.out with ⟨rfl,h⟩|⟨mr,rfl,-,h⟩
         · exact .inl ⟨rfl,h⟩
         · exact .inr ⟨mr,rfl,h⟩
theorem ul_mapSS:Tryz.prog.underlying 132=some (.map 9 118):=by kernel_rfl
def MapSS(w:World)(mb:Nat)(S:Str→Prop):Prop:=∃ es clock,w.heap[mb]?=some (.map es clock)∧∀ e∈es.toList,∃ s,e.key=.string s∧s.size≤1000∧S s
theorem MapSS.kept{w w':World}{mb:Nat}{S:Str→Prop}(h:MapSS w mb S){M:Nat→Prop}(hk:Kept M w w')(hM:¬ M mb):MapSS w' mb S:=by
 obtain⟨es,clock,h1,h2⟩:=h
 exact⟨es,clock,hk.obj h1 hM,h2⟩
theorem MapSS.miss{w:World}{S:Str→Prop}{es:Array MapEntry}(h2:∀ e∈es.toList,∃ s,e.key=.string s∧s.size≤1000∧S s){s:Str}(h0:s.size≤1000)(hs:¬ S s):(Instr.findKey 9 (.string s) es.toList).run Tryz.prog w=.ok none w:=by
 obtain⟨l,hl⟩:=keyS h0
 rcases(Maps.string_keyed (P:=Tryz.prog) ul_str).find w hl es.toList (fun e he=>by obtain⟨j,hj,p0,_⟩:=h2 e he;rw[hj];exact keyS p0) with ⟨hr,hn⟩ | ⟨j,e,hr,hj,he⟩
 · exact hr
 · obtain⟨t,hk,_,ht⟩:=h2 e (List.mem_of_getElem? hj)
   rw[he]at hk
   cases hk
   exact absurd ht hs
theorem MapSS.look{w:World}{mb:Nat}{S:Str→Prop}(h:MapSS w mb S){s:Str}(h0:s.size≤1000)(hs:¬ S s):(Instr.lookup 132 (.map (some mb)) (.string s) false).run Tryz.prog w=.ok (.slice none 0 0) w:=by
 obtain⟨es,clock,hb,h2⟩:=h
 simp[Instr.lookup,run_underlying ul_mapSS,MapKept.run_getObj_map hb,MapS.check w h0,MapSS.miss h2 h0 hs,zero_sF,Result.andThen]
theorem MapSS.store{w:World}{mb:Nat}{S:Str→Prop}(h:MapSS w mb S){s:Str}(h0:s.size≤1000)(hs:¬ S s)(v:Value) :
 ∃ w',(Instr.mapUpdate 132 (.map (some mb)) (.string s) v).run Tryz.prog w=.ok () w'∧MapSS w' mb (fun t=>S t∨t=s)∧Kept (fun b=>b=mb) w w':=by
 obtain⟨es,clock,hb,h2⟩:=h
 refine⟨ChangeMaps.setBlock w mb (.map (es.push ⟨.string s,v,clock⟩) (clock+1)),?_,⟨_,_,ChangeMaps.heap_setBlock_same hb _,?_⟩,⟨rfl,rfl,rfl,by simp[ChangeMaps.setBlock],fun k _ hk=>ChangeMaps.heap_setBlock_other hb _ hk⟩⟩
 · simp[Instr.mapUpdate,run_underlying ul_mapSS,MapKept.run_getObj_map hb,MapS.check w h0,MapSS.miss h2 h0 hs,MapKept.run_setObj_map _ hb,Result.andThen,ChangeMaps.setBlock]
 · intro e he
   simp only[Array.toList_push,List.mem_append,List.mem_singleton]at he
   rcases he with he|rfl
   · obtain⟨t,p1,p2,p3⟩:=h2 e he
     exact⟨t,p1,p2,.inl p3⟩
   · exact⟨s,rfl,h0,.inr rfl⟩
theorem len_mapB{w:World}{mb clock:Nat}{es:Array MapEntry}(hb:w.heap[mb]?=some (.map es clock)):(Builtin.len_ #[133] 3 #[.map (some mb)]).run Tryz.prog w=.ok (.int .i64 es.size) w:=by
 simp[Builtin.len_,Builtin.lenOf,MapKept.run_getObj_map hb,Result.andThen,goInt]
structure PmI (w:World) (m4 m5 m6 base:Nat) (fl:List (Str×N)) (xs:A) (k:Nat) (st:Value) (wr:World):Prop where
 row:RowP wr base st ((List.range k).map fun j=>(xs.get j).blk)
 map:∃ F,MapS wr m4 F∧FnMap fl (fun j=>(xs.get j).blk) k F
 m5:MapSS wr m5 (fun s=>∃ j,j<k∧nmAt fl j=s)
 m6:wr.heap[m6]?=some (.map #[] 0)
 kept:Kept (fun _=>False) w wr
 size:base≤wr.heap.size
theorem no_gen(b:Nat):∀ w,(Instr.typeAssert (.iface 54 (.pointer (some ⟨b,0,none⟩))) 93 134 true).run Tryz.prog w=.ok (.tuple #[.pointer none,.bool false]) w :=
 nob (P:=Tryz.prog) 54 b 93 (e:=139) (by kernel_rfl) (fun _=>by kernel_rfl) (by decide)
theorem possible_any{w:World}{D:Nat→Prop}{fb:Nat}{fl:List (Str×N)}{xs:A}{fo:Int→Option Addr}{a:Option Addr}{c:Nat}(Fi:FileI w D fb fl xs fo a c)(hD:∀ b,D b→b<w.heap.size)(ok:FlOk3 fl){sb sc:Nat}(hsb:sb<w.heap.size)(hsc:w.cell? ⟨sb,0,none⟩=some (.pointer (some ⟨fb,0,none⟩))) :
 Calls Tryz.prog 32 #[.slice (some ⟨sb,0,none⟩) 1 sc] w (fun e w'=>e=.returned (.bool false)∧Kept (fun _=>False) w w'):=by
 have HFi:=Lib.hid Fi
 have HD:=Lib.hid hD
 have Hok:=Lib.hid ok
 have hfo:=Fi.obj
 obtain⟨n,hn⟩:∃ n,n=fl.length:=⟨_,rfl⟩
 rw[← hn]at hfo
 have hfew:=ok.few
 have hn0:=ok.some_
 rw[← hn]at hfew hn0
 have f0:=cell_of_cells (cs:=[_]) hfo 0 rfl
 have zf:fb<w.heap.size:=lt_of_heap hfo
 have Hn:=Lib.hid hn
 have hmm:=@run_makeMap Tryz.prog
 clear Fi hD ok hn hfo
 go_enter Tryz.func32,Tryz.ntmps32
 go_wp2_with fail
 obtain⟨W1,hW1⟩:∃ W1,W1=(((w.alloc (.map #[] 0)).alloc (.map #[] 0)).alloc (.map #[] 0)).alloc (.map #[] 0):=⟨_,rfl⟩
 have K1:Kept (fun _=>False) w W1:=by rw[hW1];exact((keptA.trans keptA).trans keptA).trans keptA
 have z1:W1.heap.size=w.heap.size+4:=by rw[hW1];simp
 have hk2:∀ {o1 o2:Obj} {w0:World},Kept (fun _=>False) w0 ((w0.alloc o1).alloc o2):=keptA.trans keptA
 have I0:PmI w w.heap.size (w.heap.size+1) (w.heap.size+1+1) W1.heap.size fl xs 0 (.slice none 0 0) W1:=⟨RowP.nil _ _,⟨_,by rw[hW1];exact(MapS.new w).kept (keptA.trans hk2) (fun f=>f),⟨fun j hj=>absurd hj (by omega),fun _ _=>rfl⟩⟩,
  ⟨#[],0,by rw[hW1];exact hk2.obj (heap_new_at (by simp) _) (fun f=>f),by simp⟩,by rw[hW1];exact(keptA (M:=fun _=>False)).obj (heap_new_at (by simp) _) (fun f=>f),K1,Nat.le_refl _⟩
 have HI0:=Lib.hid I0
 obtain⟨m4,hm4⟩:∃ m4,m4=w.heap.size:=⟨_,rfl⟩
 obtain⟨m5,hm5⟩:∃ m5,m5=w.heap.size+1:=⟨_,rfl⟩
 obtain⟨m6,hm6⟩:∃ m6,m6=w.heap.size+1+1:=⟨_,rfl⟩
 obtain⟨base,hbase⟩:∃ base,base=W1.heap.size:=⟨_,rfl⟩
 have hbm:w.heap.size≤m4∧m4<m5∧m5<m6∧m6<base:=by omega
 rw[← hW1]
 rw[← hm6,← hm5,← hm4,← hbase]at HI0
 rw[← hm6,← hm5,← hm4]
 have f1:=K1.cell f0 (fun f=>f)
 have s1:=K1.cell hsc (fun f=>f)
 have zf1:fb<W1.heap.size:=by omega
 have zs1:sb<W1.heap.size:=by omega
 clear hW1 I0 hm4 hm5 hm6 hbase f0 hsc
 go_loopw [3,38] (fun st t wr=>(t=.int .i64 0∧st=.slice none 0 0∧wr=W1)∨(t=.int .i64 1∧RowKit.Hid (PmI w m4 m5 m6 base fl xs n st wr))) (fun _ t _=>(1-intOf t).toNat)
 case atStart=>exact .inl ⟨rfl,rfl,rfl⟩
 case round =>
  rcases hrel with ⟨rfl,rfl,rfl⟩|⟨rfl,HI⟩
  · go_wp2_with fail
    obtain⟨W1,rfl⟩:∃ W1:World,W1=wr:=⟨_,rfl⟩
    go_loop [47] (fun t=>∃ k:Nat,t=.int .i64 k∧k≤n) (fun t=>((n:Int)-intOf t).toNat)
    case atStart=>exact⟨0,rfl,by omega⟩
    case round =>
     obtain⟨k,rfl,hk⟩:=hrel
     by_cases hlt:(k:Int)<n
     · have hkl:k<fl.length:=by have:=Hn.out;omega
       obtain⟨g,o,rfl,hg,hc,-⟩:=HFi.out.at hkl
       obtain⟨bk,hbk⟩:∃ bk,bk=(xs.get k).blk:=⟨_,rfl⟩
       rw[← hbk]at hc
       have hc':=K1.cell hc (fun f=>f)
       have hg':g<W1.heap.size:=Nat.lt_of_lt_of_le hg K1.size
       have ta:=no_gen bk
       clear hc hg hbk
       go_wp2_with fail
       go_round
       · exact⟨k+1,by go_num,by omega⟩
       · simp[intOf];omega
     · go_wp2_with fail
       go_loopw [3,83] (fun st t wr=>∃ k:Nat,t=.int .i64 k∧k≤n∧RowKit.Hid (PmI w m4 m5 m6 base fl xs k st wr)) (fun _ t _=>((n:Int)-intOf t).toNat)
       case atStart=>exact⟨0,rfl,by omega,HI0⟩
       case round =>
        obtain⟨k,rfl,hk,HI⟩:=hrel
        have I:=HI.out
        by_cases hlt:(k:Int)<n
        · have hkl:k<fl.length:=by have:=Hn.out;omega
          obtain⟨g,o,rfl,hg,hc,hR,hDb,hN,-⟩:=HFi.out.at hkl
          obtain⟨f3,b1,b3,o1,v2,-,ho,ho1,-,-,-,-⟩:=func_open hN hR
          obtain⟨nm,hnm⟩:∃ nm,nm=nmAt fl k:=⟨_,rfl⟩
          have hns:=Hok.out.size k
          rw[← nmAt_lt hkl,← hnm]at ho1
          rw[← hnm]at hns
          obtain⟨bk,hbk⟩:∃ bk,bk=(xs.get k).blk:=⟨_,rfl⟩
          rw[← hbk]at hc ho
          have zbk:bk<w.heap.size:=lt_of_heap ho
          have zb1:b1<w.heap.size:=lt_of_heap ho1
          have cells:∀ wx,Kept (fun q=>w.heap.size≤q) w wx→wx.cell? ⟨bk,0,none⟩=some (.pointer none)∧wx.cell? ⟨bk,1,none⟩=some (.pointer (some ⟨b1,0,none⟩))∧wx.cell? ⟨bk,3,none⟩=some (.pointer (some ⟨b3,0,none⟩))∧wx.cell? ⟨b1,0,none⟩=some (.string nm)∧bk<wx.heap.size∧b1<wx.heap.size:=fun wx kx=>by
           have h1:=kx.obj ho (by omega)
           have h2:=kx.obj ho1 (by omega)
           exact⟨cell_of_cells (cs:=[_,_,_,_]) h1 0 rfl,cell_of_cells (cs:=[_,_,_,_]) h1 1 rfl,cell_of_cells (cs:=[_,_,_,_]) h1 3 rfl,cell_of_cells (cs:=[_,_]) h2 0 rfl,lt_of_heap h1,lt_of_heap h2⟩
          have hc':=I.kept.cell hc (fun f=>f)
          have hg':g<wr.heap.size:=Nat.lt_of_lt_of_le hg I.kept.size
          have sW:=I.kept.size
          have ta:∀ w,(Instr.typeAssert (.iface 54 (.pointer (some ⟨bk,0,none⟩))) 93 54 true).run Tryz.prog w=.ok (.tuple #[.pointer (some ⟨bk,0,none⟩),.bool true]) w:=fun w=>as_func _ _ w
          have r2:RowP (wr.alloc (.cells #[fp bk] 54)) base u3 ((List.range k).map fun j=>(xs.get j).blk):=I.row.kept (keptA (M:=fun _=>False)) (fun _ _ f=>f)
          obtain⟨v',w3,r3,row3,k3,-⟩:=r2.push (x:=bk) (b:=wr.heap.size) (cell_of_cells (cs:=[fp bk]) (heap_alloc_new wr _) 0 rfl) (by simp;omega) (by have:=I.size;simp;omega) 118
          have hl:=r2.lt
          have s3:=k3.size
          simp only[World.size_alloc]at s3
          have K3:Kept (fun q=>base≤q) wr w3:=((keptA (M:=fun _=>False)).mono fun _ _ f=>f.elim).trans (k3.mono fun b _ e=>(hl _ e).1)
          have K3w:Kept (fun q=>w.heap.size≤q) w w3:=(I.kept.mono fun _ _ f=>f.elim).trans (K3.mono fun q _ e=>by omega)
          have K0:Kept (fun _=>False) w3 w3.drew:=keptD
          have K0w:Kept (fun q=>w.heap.size≤q) w w3.drew:=K3w.trans (K0.mono fun _ _ f=>f.elim)
          obtain⟨p0,p1,p3,pn,zz1,zz2⟩:=cells wr (I.kept.mono fun _ _ f=>f.elim)
          have hm50:MapSS w3.drew m5 (fun s=>∃ j,j<k∧nmAt fl j=s):=(I.m5.kept K3 (by omega)).kept K0 (fun f=>f)
          have hSn:¬ ∃ j,j<k∧nmAt fl j=nm:=fun ⟨j,hj,e⟩=>by
           have:=Hok.out.inj j k (by omega) hkl (by rw[e,hnm])
           omega
          have rule:∀ wx:World,Kept (fun q=>q=m5) w3.drew wx→wx.cell? ⟨bk,1,none⟩=some (.pointer (some ⟨b1,0,none⟩))∧wx.cell? ⟨b1,0,none⟩=some (.string nm)∧bk<wx.heap.size∧b1<wx.heap.size:=fun wx kx=>by
           obtain⟨-,h1,-,h2,h3,h4⟩:=cells wx (K0w.trans (kx.mono fun q _ e=>by omega))
           exact⟨h1,h2,h3,h4⟩
          have rule2:∀ wx:World,Kept (fun _=>False) w3.drew wx→(Instr.lookup 132 (.map (some m5)) (.string nm) false).run Tryz.prog wx=.ok (.slice none 0 0) wx:=fun wx kx=>(hm50.kept kx (fun f=>f)).look hns hSn
          have hSr:Kept (fun _=>False) w3.drew w3.drew:=Kept.refl _ _
          have hSa:∀ o,Kept (fun _=>False) w3.drew (w3.drew.alloc o):=fun _=>keptA
          have hSb:∀ o,Kept (fun _=>False) w3.drew (w3.alloc o).drew:=fun o=>hSa o
          obtain⟨F,hF,hFM⟩:=I.map
          have hF0:MapS w3.drew m4 F:=(hF.kept K3 (by omega)).kept K0 (fun f=>f)
          have hFn:F nm=none:=hFM.no _ fun j hj e=>hSn ⟨j,hj,e⟩
          obtain⟨i0,hi,hz0,hz1,hz2⟩:=info_parts info_pF
          have HF0:=Lib.hid hF0
          have HFM:=Lib.hid hFM
          have Hm50:=Lib.hid hm50
          have HSn:=Lib.hid hSn
          have Hrow3:=Lib.hid row3
          have Hcells:=Lib.hid cells
          have Hnm:=Lib.hid hnm
          have Hbk:=Lib.hid hbk
          have Hhl:=Lib.hid hl
          clear I hR hDb hN ho ho1 hc hg hnm hbk hF hFM hF0 hm50 hSn row3 r2 hl cells HI0
          go_upto_region 28 with (at_builtin;go_must (refine wpList_append_done rfl (.tmp 101) (.tmp 103) 118 rfl rfl rfl r3 ?_))
          go_region_held3 (fun wx=>Kept (fun q=>q=m5) w3.drew wx) (first | assumption | exact Kept.refl _ _ | exact keptD | exact keptA | exact Kept.trans (by assumption) keptA | exact Kept.trans (by assumption) keptD | exact Kept.trans (by assumption) keptAD) (first
           | (go_must (refine step_append_one (D:=fun _=>False) (base:=0) (v:=.slice none 0 0) (l:=.nil) rfl (.tmp 121) (.tmp 123) 118 rfl i0 _ 8 ul_sF hi hz0 hz1 hz2 rfl rfl (OwnL.nil _ _ _ _ _) 0 rfl ⟨w3.drew.heap.size,0,none⟩ 1 rfl (.at (.pointer (some ⟨bk,0,none⟩)) .fin) [.pointer (some ⟨bk,0,none⟩)] rfl ?nc (by simp[Value.oneCell']) ⟨_,rfl,rfl⟩ (by omega) (by omega) (by simp) ?_);(case nc=>exact new_cells w3.drew _ _);intro g4 cap' w4 O4 K4 hb4 hg4;have hS4:Kept (fun _=>False) w3.drew w4:=Kept.trans (by first | exact keptAD | exact keptA) (K4.mono fun q _ e=>by cases e);obtain⟨w5,r5,M5,K5⟩:=(Hm50.out.kept hS4 (fun f=>f)).store hns HSn.out (.slice (some ⟨g4,0,none⟩) (0+1) cap');have hS4':Kept (fun q=>q=m5) w3.drew w4:=hS4.mono fun _ _ f=>f.elim;have hS5:Kept (fun q=>q=m5) w3.drew w5:=hS4'.trans K5;have K5w:Kept (fun q=>w.heap.size≤q) w w5:=(K0w.trans (hS4.mono fun _ _ f=>f.elim)).trans (K5.mono fun q _ e=>by omega);obtain⟨x0,x1,-,x2,x3,x4⟩:=Hcells.out w5 K5w;obtain⟨w6,r6,M6,K6⟩:=((HF0.out.kept hS4 (fun f=>f)).kept K5 (by omega)).store hns hFn ⟨bk,0,none⟩))
          all_goals go_wp2_with fail
          all_goals
           have K36:Kept (fun q=>q=m4∨q=m5) w3 w6:=((K0.mono fun _ _ f=>f.elim).trans (hS5.mono fun q _ e=>.inr e)).trans (K6.mono fun q _ e=>.inl e)
           have sz6:=K36.size
           have I6:PmI w m4 m5 m6 base fl xs (k+1) v' w6:=by
            refine⟨?_,⟨_,M6,⟨fun j hj=>?_,fun t q=>?_⟩⟩,?_,?_,?_,by have:=HI.out.size;omega⟩
            · rw[List.range_succ,List.map_append]
              have h:=Hrow3.out.kept K36 fun g e q=>by have:=(Hrow3.out.lt g e).1;omega
              rw[Hbk.out]at h
              exact h
            · by_cases e:j=k
              · subst e;rw[← Hnm.out,← Hbk.out];exact if_pos rfl
              · show(if nmAt fl j=nm then _ else F (nmAt fl j))=_
                rw[if_neg fun q=>e (Hok.out.inj j k (by omega) (by have:=Hn.out;omega) (by rw[q,Hnm.out]))]
                exact HFM.out.yes j (by omega)
            · show(if t=nm then _ else F t)=none
              rw[if_neg fun e=>q k (by omega) (by rw[e,Hnm.out])]
              exact HFM.out.no t fun j hj=>q j (by omega)
            · obtain⟨es,clock,h1,h2⟩:=M5.kept K6 (by omega)
              refine⟨es,clock,h1,fun e he=>?_⟩
              obtain⟨t,e1,e2,e3⟩:=h2 e he
              refine⟨t,e1,e2,?_⟩
              rcases e3 with ⟨j,hj,e3⟩|e3
              · exact⟨j,by omega,e3⟩
              · exact⟨k,by omega,by rw[e3,Hnm.out]⟩
            · exact K36.obj (K3.obj HI.out.m6 (by omega)) (by omega)
            · exact((K3w.trans (K36.mono fun q _ e=>by omega)).mono (M':=fun b=>False∨w.heap.size≤b) fun q _ h=>.inr h).fresh (Nat.le_refl _)
           refine⟨⟨k+1,by go_num,by omega,Lib.hid I6⟩,?_⟩
           simp[intOf];omega
        · have hkn:k=n:=by omega
          subst hkn
          clear I
          go_wp2_with fail
          go_roundw
          · exact .inr ⟨by go_num,HI⟩
          · simp[intOf]
  · clear HI0
    have I:=HI.out
    have len:((List.range n).map fun j=>(xs.get j).blk).length=n:=by simp
    obtain⟨g,cs,rfl,hg,hgb,hrc⟩:=I.row.all (by rw[len];exact hn0)
    rw[len]
    have hlm:=len_mapB I.m6
    have hz:((n:Int) == 0)=false:=by simp;omega
    have hzz:(((#[]:Array MapEntry).size:Int) == 0)=true:=rfl
    clear hrc I len
    go_wp2_with fail
    go_ret
    exact⟨rfl,HI.out.kept⟩
theorem look_nilF(b:Nat)(w:World):(Instr.lookup 86 (.map none) (fp b) false).run Tryz.prog w=.ok (.bool false) w:=by
 simp[Instr.lookup,run_underlying ul_mFB,zero_boolF,Result.andThen,check_F,Instr.findKey,run_underlying un_pF,Instr.findNow]
def RinP(w:World)(L:List Nat)(e:Ending)(w':World):Prop:=∃ (a:Option Addr) (c:Nat),e=.returned (.tuple #[.slice a L.length c,.bool false,.bool true])∧Rep w' (fun b=>w.heap.size≤b) (gInts L) [.slice a L.length c]∧Kept (fun _=>False) w w'
theorem recin_any(fl:List (Str×N))(ok:FlOk2 fl)(ok3:FlOk3 fl)(Lc:List (List Nat))(hadj:∀ i,i<fl.length→∀ j,j∈adjL Lc i↔j<fl.length∧nmAt fl j∈nsAt fl i)(w:World)(D:Nat→Prop)(tx:Str)(i:Int)(a:Option Addr)(c c':Nat)(hR:Rep w D (declsN fl).g [.slice a c c']) :
 Calls Tryz.prog 17 #[.agg #[.string ⟨#[70,105,108,101]⟩,.string tx,.int .i64 i,.slice a c c']] w (RinP w (ringsTo Lc fl.length)):=by
 have kA:Kept (fun _=>False) w (w.alloc (.cells #[.string ⟨#[70,105,108,101]⟩,.string tx,.int .i64 i,.slice a c c'] 30)):=keptA
 have HT:=Lib.hid (tree_any fl ok _ D tx i a c c' (hR.kept kA (fun _ _ f=>f)))
 have Hok:=Lib.hid ok3
 have Hadj:=Lib.hid hadj
 obtain⟨i0,hi,hz0,hz1,hz2⟩:=info_parts info_I
 clear hR ok ok3 hadj
 go_enter Tryz.func17,Tryz.ntmps17
 go_wp2_with fail
 refine HT.out.mono ?_
 rintro e w2 ⟨fb,mp,xs,fo,da,dc,rfl,Fi,K2⟩
 obtain⟨W1,hW1⟩:∃ W1,W1=w.alloc (.cells #[.string ⟨#[70,105,108,101]⟩,.string tx,.int .i64 i,.slice a c c'] 30):=⟨_,rfl⟩
 rw[← hW1]at Fi K2 kA
 have z1:W1.heap.size=w.heap.size+1:=by rw[hW1];simp
 have k3:Kept (fun _=>False) w2 (w2.alloc (.cells #[.pointer (some ⟨fb,0,none⟩)] 83)):=keptA
 have F3:=(Fi.imp (D':=fun b=>W1.heap.size≤b∧b<w2.heap.size) fun b h1 h2=>⟨h2,h1⟩).kept k3 (fun _ _ f=>f)
 have hsb:(w2.alloc (.cells #[.pointer (some ⟨fb,0,none⟩)] 83)).cell? ⟨w2.heap.size,0,none⟩=some (.pointer (some ⟨fb,0,none⟩)):=cell_of_cells (cs:=[_]) (heap_alloc_new w2 _) 0 rfl
 have HRf:=Lib.hid (recfuncs_any F3 (fun b hb=>by simp;omega) Hok.out (sb:=w2.heap.size) (sc:=1) (by simp) hsb (adjL Lc) Hadj.out)
 have HFi:=Lib.hid Fi
 have HB:=Lib.hid (fun (k:Nat) (hk:k<fl.length)=>(let ⟨_,_,ho⟩:=Fi.blk hk;lt_of_heap ho:(xs.get k).blk<w2.heap.size))
 clear hW1 Fi F3 hsb HT
 go_wp2_with fail
 refine HRf.out.mono ?_
 rintro e w4 ⟨r,mv,rfl,hr,hmv,K4⟩
 have K24:Kept (fun _=>False) w2 w4:=k3.trans K4
 obtain⟨n,hn⟩:∃ n,n=fl.length:=⟨_,rfl⟩
 have hn0:=Hok.out.few
 rw[← hn]at hr hn0
 have Hr:=Lib.hid hr
 have Hmv:=Lib.hid hmv
 have F4:=HFi.out.kept K24 (fun _ _ f=>f)
 have hfo:=F4.obj
 rw[← hn]at hfo ⊢
 have zf:fb<w4.heap.size:=lt_of_heap hfo
 have f0:=cell_of_cells (cs:=[_]) hfo 0 rfl
 have Hn:=Lib.hid hn
 have HF4:=Lib.hid F4
 have z3:(w2.alloc (.cells #[.pointer (some ⟨fb,0,none⟩)] 83)).heap.size=w2.heap.size+1:=by simp
 rw[z3]at Hmv
 have sz2:=K2.size
 have sz4:=K24.size
 clear HRf hr hmv F4 hfo hn HFi z3
 go_wp2_with fail
 go_loopw [9,30] (fun v t wr=>∃ (k:Nat) (a':Option Addr) (c':Nat),v=.slice a' (ringsTo Lc k).length c'∧t=.int .i64 k∧k≤n∧RowKit.Hid (OwnL wr (fun _=>False) w4.heap.size 3 1 (.slice a' (ringsTo Lc k).length c') (gInts (ringsTo Lc k)))∧Kept (fun _=>False) w4 wr) (fun _ t _=>((n:Int)-intOf t).toNat)
 case atStart=>exact⟨0,none,0,rfl,rfl,by omega,Lib.hid (OwnL.nil _ _ _ _ _),Kept.refl _ _⟩
 case round =>
  obtain⟨k,a',c',rfl,rfl,hk,HO,K⟩:=hrel
  have sK:=K.size
  by_cases hlt:(k:Int)<n
  · have hkl:k<fl.length:=by have:=Hn.out;omega
    obtain⟨g,o,rfl,hg,hc,-,-,-,-⟩:=HF4.out.at hkl
    obtain⟨cs',t',ho⟩:=HF4.out.blk hkl
    have hblk:FBlk wr (w2.heap.size+1) (xs.get k).blk:=⟨by have:=HB.out k hkl;omega,cs',t',K.obj ho (fun f=>f)⟩
    have hlk:(Instr.lookup 86 mv (fp (xs.get k).blk) false).run Tryz.prog wr=.ok (.bool (r (xs.get k).blk)) wr:=by
     rcases Hmv.out with ⟨rfl,h⟩|⟨mr,rfl,h⟩
     · rw[h];exact look_nilF _ _
     · have:=(h.kept K (fun f=>f) (fun _ _ f=>f)).look ul_mFB hblk (zero_boolF wr)
       rw[this]
       cases r (xs.get k).blk<;>rfl
    have hrk:=Hr.out k (by omega)
    have es:=ringsTo_succ Lc k
    obtain⟨bk,hbk⟩:∃ bk,bk=(xs.get k).blk:=⟨_,rfl⟩
    obtain⟨rk,hrk2⟩:∃ rk,rk=r (xs.get k).blk:=⟨_,rfl⟩
    rw[← hrk2]at hrk hlk
    rw[← hbk]at hlk hc
    have hc':=K.cell hc (fun f=>f)
    have hg':g<wr.heap.size:=Nat.lt_of_lt_of_le hg sK
    have ta:∀ w,(Instr.typeAssert (.iface 54 (.pointer (some ⟨bk,0,none⟩))) 93 54 true).run Tryz.prog w=.ok (.tuple #[.pointer (some ⟨bk,0,none⟩),.bool true]) w:=fun w=>as_func _ _ w
    have hle:=ringsTo_len Lc k
    clear ho hblk hc hg hrk2 hbk
    cases rk with
    | false =>
      rw[if_neg (fun h=>by have:=hrk.2 h;cases this)]at es
      have HO2:=Lib.hid HO.out
      rw[← es]at HO2
      have Hes:=Lib.hid es
      clear es hrk
      go_wp2_with fail
      go_roundw
      · exact⟨k+1,a',c',by rw[Hes.out],by go_num,by omega,by rw[Hes.out];exact HO,K⟩
      · simp[intOf];omega
    | true =>
      rw[if_pos (hrk.1 rfl)]at es
      have Hes:=Lib.hid es
      clear es hrk
      have k5:Kept (fun _=>False) wr (wr.alloc (.cells #[.int .i64 k] 3)):=keptA
      go_wp2_with (at_builtin;go_must (refine wpList_append_one (D:=fun _=>False) (base:=w4.heap.size) (v:=.slice a' (ringsTo Lc k).length c') rfl (.tmp 46) (.tmp 48) 48 rfl i0 _ 8 ul_sI hi hz0 hz1 hz2 rfl rfl (HO.out.kept k5 (fun _ _ f=>f) (fun _ f=>f.elim)) (ringsTo Lc k).length (gInts_len _) ⟨wr.heap.size,0,none⟩ 1 rfl (.at (.int .i64 k) .fin) [.int .i64 k] rfl (new_cells _ _ _) (by simp[Value.oneCell']) ⟨_,rfl,rfl⟩ (by omega) (by omega) (by simp;omega) ?_);intro g4 cap' w6 O6 K6 hb6 hg6)
      rw[gInts_snoc]at O6
      have hlen2:(ringsTo Lc (k+1)).length=(ringsTo Lc k).length+1:=by rw[Hes.out,List.length_append];rfl
      have HO4:RowKit.Hid (OwnL w6 (fun _=>False) w4.heap.size 3 1 (.slice (some ⟨g4,0,none⟩) (ringsTo Lc (k+1)).length cap') (gInts (ringsTo Lc (k+1)))):=Lib.hid (by rw[hlen2,Hes.out];exact O6)
      have K7:Kept (fun _=>False) w4 w6:=(((K.trans k5).mono (M':=fun q=>False∨w4.heap.size≤q) fun _ _ f=>f.elim).trans (K6.mono fun q _ e=>.inr (HO.out.lt q e.symm).1)).fresh (Nat.le_refl _)
      clear O6 K6
      go_wp2_with fail
      go_roundw
      · exact⟨k+1,_,_,by rw[hlen2],by go_num,by omega,HO4,K7⟩
      · simp[intOf];omega
  · have hkn:k=n:=by omega
    subst hkn
    have k5:Kept (fun _=>False) wr (wr.alloc (.cells #[.pointer (some ⟨fb,0,none⟩)] 83)):=keptA
    have F5:=(HF4.out.kept K (fun _ _ f=>f)).imp (D':=fun b=>W1.heap.size≤b∧b<wr.heap.size) (fun b h1 h2=>⟨h2,h1⟩)
    have F6:=F5.kept k5 (fun _ _ f=>f)
    have hsb:(wr.alloc (.cells #[.pointer (some ⟨fb,0,none⟩)] 83)).cell? ⟨wr.heap.size,0,none⟩=some (.pointer (some ⟨fb,0,none⟩)):=cell_of_cells (cs:=[_]) (heap_alloc_new wr _) 0 rfl
    have HPm:=Lib.hid (possible_any F6 (fun b hb=>by simp;omega) Hok.out (sb:=wr.heap.size) (sc:=1) (by simp) hsb)
    clear F5 F6 hsb
    go_wp2_with fail
    refine HPm.out.mono ?_
    rintro e w6 ⟨rfl,K6⟩
    go_wp2_with fail
    go_ret3
    obtain⟨xs',ho,hrr⟩:=HO.out
    have h2:OwnL wr (fun b=>w4.heap.size≤b) w4.heap.size 3 1 (.slice a' (ringsTo Lc k).length c') (gInts (ringsTo Lc k)):=⟨xs',ho,hrr.imp fun _ _ f=>f.1.elim⟩
    have hrep:=((h2.rep fun b hb _=>hb).kept (k5.trans K6) (fun _ _ f=>f)).imp (D':=fun b=>w.heap.size≤b) fun b _ hb=>by omega
    refine⟨a',c',?_,?_,((((kA.trans K2).trans K24).trans K).trans k5).trans K6⟩
    · rw[← Hn.out];rfl
    · rw[← Hn.out];exact hrep
end Go.Proofs.YtleolbpibjnedaaGreat
