/- gocognit.recursiveNodes: rows of declarations that the call makes: pushed, popped. -/
import Derived.Test.YtleolbpibjnedaaGreatQRgA
import Derived.Test.YtleolbpibjnedaaGreatQRc
import Derived.Test.YtleolbpibjnedaaGreatQCsA
import Derived.Maps.AppendAt
set_option linter.unusedSimpArgs false
set_option linter.unusedVariables false
set_option maxRecDepth 100000
set_option maxHeartbeats 4000000
namespace Go.Proofs.YtleolbpibjnedaaGreat
open Go Go.RowKit Gc
def RowP(w:World)(base:Nat)(v:Value)(l:List Nat):Prop:=w.ownsRow base 54 1 v l.length (l.map fp)
theorem RowP.kept{w w':World}{base:Nat}{v:Value}{l:List Nat}(h:RowP w base v l){M:Nat→Prop}(hk:Kept M w w')(hM:∀ g,v.ownBlock=some g→¬ M g):RowP w' base v l:=by
 refine⟨h.1,h.2.imp id ?_⟩
 rintro ⟨g,cap,cur,rfl,hb,hg,h1,h2,h3,h4⟩
 exact⟨g,cap,cur,rfl,hb,hk.obj hg (hM g rfl),h1,h2,h3,h4⟩
theorem RowP.lt{w:World}{base:Nat}{v:Value}{l:List Nat}(h:RowP w base v l):∀ g,v.ownBlock=some g→base≤g∧g<w.heap.size:=fun k e=>by
 rcases h.2 with ⟨rfl,-⟩|⟨g,cap,cur,rfl,hb,hg,-⟩
 · cases e
 · simp only[Value.ownBlock,Option.some.injEq]at e
   subst e
   exact⟨hb,lt_of_heap hg⟩
theorem RowP.nil(w:World)(base:Nat):RowP w base (.slice none 0 0) []:=World.ownsRow_nil _ _ _ _
theorem RowP.push{w:World}{base:Nat}{v:Value}{l:List Nat}(h:RowP w base v l){x b:Nat}(hb:w.cell? ⟨b,0,none⟩=some (fp x))(hl:l.length≤100000)(hbs:base≤w.heap.size)(ty:TypeId) :
 ∃ v' w',(Builtin.append_ #[118,118] ty #[v,.slice (some ⟨b,0,none⟩) 1 1]).run Tryz.prog w=.ok v' w'∧RowP w' base v' (l++[x])∧Kept (fun k=>v.ownBlock=some k) w w'∧(v'.ownBlock=v.ownBlock∨v'.ownBlock=some w.heap.size):=by
 obtain⟨i0,hi,hz0,hz1,hz2⟩:=info_parts info_pF
 obtain⟨v',w',hr,ho',hgr,-,hw⟩:=run_append_own_at (P:=Tryz.prog) w base 118 ty 54 i0 _ 1 8 ul_sF hi hz0 hz1 hz2 rfl (by decide) v l.length _ h ⟨b,0,none⟩ 1 1 [fp x] rfl
  (fun j u hu=>by
    cases j with
    | zero=>simp only[List.getElem?_cons_zero,Option.some.injEq]at hu;subst hu;rw[addr_add];exact hb
    | succ j=>simp at hu) (fun u hu=>by simp at hu;subst hu;rfl) (by unfold maxLen;omega) (by omega) hbs
 refine⟨v',w',hr,?_,Kept.grown hgr (fun k e=>e),hw⟩
 show w'.ownsRow base 54 1 v' (l++[x]).length ((l++[x]).map fp)
 rw[List.length_append,List.map_append]
 exact ho'
theorem RowP.pop{w:World}{base:Nat}{v:Value}{l:List Nat}{x:Nat}(h:RowP w base v (l++[x])) :
 ∃ g cap,v=.slice (some ⟨g,0,none⟩) (l.length+1) cap∧l.length+1≤cap∧base≤g∧g<w.heap.size∧w.cell? ⟨g,l.length,none⟩=some (fp x)∧RowP w base (.slice (some ⟨g,0,none⟩) l.length cap) l:=by
 rcases h.2 with ⟨-,h0⟩|⟨g,cap,cur,rfl,hb,hg,h1,h2,h3,h4⟩
 · simp at h0
 · simp only[List.length_append,List.length_cons,List.length_nil,Nat.zero_add,Nat.mul_one,List.map_append,List.map_cons,List.map_nil]at h1 h3 h4
   refine⟨g,cap,by simp,h1,hb,lt_of_heap hg,?_,by simp,.inr ⟨g,cap,cur,rfl,hb,hg,by omega,h2,by omega,?_⟩⟩
   · have hc:cur.toList[l.length]?=some (fp x):=by
      have:(cur.toList.take (l.length+1))[l.length]?=some (fp x):=by rw[h4];simp
      rw[List.getElem?_take]at this
      simpa using this
     have:=cell_of_cells (cs:=cur.toList) (by simpa using hg) l.length hc
     exact this
   · rw[Nat.mul_one]
     have:=congrArg (List.take l.length) h4
     rw[List.take_take,Nat.min_eq_left (by omega)]at this
     rw[this]
     simp
theorem ul_sFr:Tryz.prog.underlying 181=some (.slice 180):=by kernel_rfl
theorem info_Fr:(Tryz.prog.info? 180).map (fun i=>(i.zero,i.size,i.bytes))=some (some (.agg #[.pointer none,.int .i64 0]),2,16):=by kernel_rfl
def frC(f:Nat×Nat):List Value:=[fp f.1,.int .i64 f.2]
theorem frC_len:∀ l:List (Nat×Nat),(l.flatMap frC).length=l.length*2
 | []=>rfl
 | f :: l=>by simp only[List.flatMap_cons,List.length_append,frC_len l,frC,List.length_cons,List.length_nil];omega
def RowF(w:World)(base:Nat)(v:Value)(l:List (Nat×Nat)):Prop:=w.ownsRow base 180 2 v l.length (l.flatMap frC)
theorem RowF.kept{w w':World}{base:Nat}{v:Value}{l:List (Nat×Nat)}(h:RowF w base v l){M:Nat→Prop}(hk:Kept M w w')(hM:∀ g,v.ownBlock=some g→¬ M g):RowF w' base v l:=by
 refine⟨h.1,h.2.imp id ?_⟩
 rintro ⟨g,cap,cur,rfl,hb,hg,h1,h2,h3,h4⟩
 exact⟨g,cap,cur,rfl,hb,hk.obj hg (hM g rfl),h1,h2,h3,h4⟩
theorem RowF.lt{w:World}{base:Nat}{v:Value}{l:List (Nat×Nat)}(h:RowF w base v l):∀ g,v.ownBlock=some g→base≤g∧g<w.heap.size:=fun k e=>by
 rcases h.2 with ⟨rfl,-⟩|⟨g,cap,cur,rfl,hb,hg,-⟩
 · cases e
 · simp only[Value.ownBlock,Option.some.injEq]at e
   subst e
   exact⟨hb,lt_of_heap hg⟩
theorem RowF.push{w:World}{base:Nat}{v:Value}{l:List (Nat×Nat)}(h:RowF w base v l){f:Nat×Nat}{b:Nat}(hb0:w.cell? ⟨b,0,none⟩=some (fp f.1))(hb1:w.cell? ⟨b,1,none⟩=some (.int .i64 f.2))(hl:l.length≤100000)(hbs:base≤w.heap.size)(ty:TypeId) :
 ∃ v' w',(Builtin.append_ #[181,181] ty #[v,.slice (some ⟨b,0,none⟩) 1 1]).run Tryz.prog w=.ok v' w'∧RowF w' base v' (l++[f])∧Kept (fun k=>v.ownBlock=some k) w w'∧(v'.ownBlock=v.ownBlock∨v'.ownBlock=some w.heap.size):=by
 obtain⟨i0,hi,hz0,hz1,hz2⟩:=info_parts info_Fr
 obtain⟨v',w',hr,ho',hgr,-,hw⟩:=run_append_own_at (P:=Tryz.prog) w base 181 ty 180 i0 _ 2 16 ul_sFr hi hz0 hz1 hz2 rfl (by decide) v l.length _ h ⟨b,0,none⟩ 1 1 (frC f) rfl
  (fun j u hu=>by
    rcases j with _|_|j
    · simp only[frC,List.getElem?_cons_zero,Option.some.injEq]at hu;subst hu;rw[addr_add];exact hb0
    · simp only[frC,List.getElem?_cons_succ,List.getElem?_cons_zero,Option.some.injEq]at hu;subst hu;rw[addr_add];exact hb1
    · simp[frC]at hu) (fun u hu=>by simp[frC]at hu;rcases hu with rfl | rfl<;>rfl) (by unfold maxLen;omega) (by omega) hbs
 refine⟨v',w',hr,?_,Kept.grown hgr (fun k e=>e),hw⟩
 show w'.ownsRow base 180 2 v' (l++[f]).length ((l++[f]).flatMap frC)
 rw[List.length_append,List.flatMap_append]
 simpa using ho'
theorem RowF.pop{w:World}{base:Nat}{v:Value}{l:List (Nat×Nat)}{f:Nat×Nat}(h:RowF w base v (l++[f])) :
 ∃ g cap,v=.slice (some ⟨g,0,none⟩) (l.length+1) cap∧l.length+1≤cap∧base≤g∧g<w.heap.size∧w.cell? ⟨g,l.length*2,none⟩=some (fp f.1)∧w.cell? ⟨g,l.length*2+1,none⟩=some (.int .i64 f.2)∧w.frozen? ⟨g,l.length*2+1,none⟩=false ∧
  RowF w base (.slice (some ⟨g,0,none⟩) l.length cap) l∧∀ k:Nat,RowF (w.setCell ⟨g,l.length*2+1,none⟩ (.int .i64 k)) base v (l++[(f.1,k)]):=by
 rcases h.2 with ⟨-,h0⟩|⟨g,cap,cur,rfl,hb,hg,h1,h2,h3,h4⟩
 · simp at h0
 · have el:(l.flatMap frC).length=l.length*2:=frC_len l
   have e2:(l++[f]).flatMap frC=l.flatMap frC++frC f:=by simp[List.flatMap_append]
   rw[e2]at h4
   simp only[List.length_append,List.length_cons,List.length_nil,Nat.zero_add]at h1 h4
   have hc:∀ j u,(frC f)[j]?=some u→cur.toList[l.length*2+j]?=some u:=fun j u hu=>by
    have hj:j<2:=by have:=(List.getElem?_eq_some_iff.1 hu).1;simpa [frC]using this
    have:(cur.toList.take ((l.length+1)*2))[l.length*2+j]?=some u:=by rw[h4,List.getElem?_append_right (by omega),el,show l.length*2+j-l.length*2=j by omega];exact hu
    rw[List.getElem?_take]at this
    rw[if_pos (by omega)]at this
    exact this
   have hg':w.heap[g]?=some (.cells cur.toList.toArray 180 (0,0)):=by simpa using hg
   have htk:cur.toList.take (l.length*2)=l.flatMap frC:=by
    have:=congrArg (List.take (l.length*2)) h4
    rw[List.take_take,Nat.min_eq_left (by omega)]at this
    rw[this,List.take_append_of_le_length (by omega),List.take_of_length_le (by omega)]
   refine⟨g,cap,by simp,h1,hb,lt_of_heap hg,cell_of_cells hg' _ (hc 0 _ rfl),cell_of_cells hg' _ (hc 1 _ rfl),free_of_cells hg _,⟨el,.inr ⟨g,cap,cur,rfl,hb,hg,by omega,h2,by omega,htk⟩⟩,fun k=>⟨?_,.inr ⟨g,cap,(cur.toList.set (l.length*2+1) (.int .i64 k)).toArray,by simp,hb,set_of_cells hg' _ _,by simpa using h1,h2,by simpa using h3,?_⟩⟩⟩
   · rw[frC_len]
   · have e3:(l++[(f.1,k)]).flatMap frC=l.flatMap frC++[fp f.1,.int .i64 k]:=by simp[List.flatMap_append,frC]
     rw[e3]
     simp only[List.length_append,List.length_cons,List.length_nil,Nat.zero_add]
     rw[List.take_set,h4,List.set_append_right _ _ (by omega),el]
     simp[frC]
end Go.Proofs.YtleolbpibjnedaaGreat
namespace Gc
open Go
def TS.vis(s:TS)(u:Nat):Prop:=u∈stk s.fr∨u∈s.done
instance (s:TS) (u:Nat):Decidable (s.vis u):=by unfold TS.vis;infer_instance
def TS.left(s:TS)(nl:List Nat):List Nat:=nl.filter fun u=>!decide (s.vis u)
def TS.mI(s:TS):Nat→Option Value:=fun u=>if s.vis u then some (.int .i64 (s.ind u)) else none
def TS.mL(s:TS):Nat→Option Value:=fun u=>if s.vis u then some (.int .i64 (s.low u)) else none
def TS.mO(s:TS):Nat→Option Value:=fun u=>if s.vis u then some (.bool (decide (u∈stk s.fr))) else none
def TS.mR(s:TS):Nat→Option Value:=fun u=>if s.rc u=true then some (.bool true) else none
def TS.wk(s:TS):List (Nat×Nat):=(s.fr.map fun f=>(f.p,f.k)).reverse
def frM(adj:Nat→List Nat)(fr:List Fr):Nat:=(fr.map fun f=>(adj f.p).length-f.k+1).sum
def TS.M(s:TS)(adj:Nat→List Nat)(nl:List Nat):Nat:=frM adj s.fr+((s.left nl).map fun u=>(adj u).length+2).sum
theorem sum_filter_le(g:Nat→Nat)(p q:Nat→Bool)(h:∀ u,p u=true→q u=true):∀ l:List Nat,((l.filter p).map g).sum≤((l.filter q).map g).sum
 | []=>by simp
 | x :: l=>by
   have:=sum_filter_le g p q h l
   by_cases hp:p x=true
   · rw[List.filter_cons_of_pos hp,List.filter_cons_of_pos (h x hp)]
     simp only[List.map_cons,List.sum_cons]
     omega
   · rw[List.filter_cons_of_neg hp]
     by_cases hq:q x=true
     · rw[List.filter_cons_of_pos hq]
       simp only[List.map_cons,List.sum_cons]
       omega
     · rw[List.filter_cons_of_neg hq]
       exact this
theorem sum_filter_lt(g:Nat→Nat)(p q:Nat→Bool)(h:∀ u,p u=true→q u=true)(w:Nat)(hp:p w=false)(hq:q w=true):∀ l:List Nat,w∈l→((l.filter p).map g).sum+g w≤((l.filter q).map g).sum
 | [],hw=>by cases hw
 | x :: l,hw=>by
   by_cases e:x=w
   · subst e
     have:=sum_filter_le g p q h l
     rw[List.filter_cons_of_neg (by simp[hp]),List.filter_cons_of_pos hq]
     simp only[List.map_cons,List.sum_cons]
     omega
   · have ih:=sum_filter_lt g p q h w hp hq l ((List.mem_cons.1 hw).resolve_left fun q=>e q.symm)
     by_cases hp':p x=true
     · rw[List.filter_cons_of_pos hp',List.filter_cons_of_pos (h x hp')]
       simp only[List.map_cons,List.sum_cons]
       omega
     · rw[List.filter_cons_of_neg hp']
       by_cases hq':q x=true
       · rw[List.filter_cons_of_pos hq']
         simp only[List.map_cons,List.sum_cons]
         omega
       · rw[List.filter_cons_of_neg hq']
         exact ih
theorem left_le{s s':TS}(h:∀ u,s.vis u→s'.vis u)(g:Nat→Nat)(nl:List Nat):((s'.left nl).map g).sum≤((s.left nl).map g).sum :=
 sum_filter_le g _ _ (fun u hu=>by simp only[Bool.not_eq_true',decide_eq_false_iff_not]at hu ⊢;exact fun q=>hu (h u q)) nl
theorem left_lt{s s':TS}(h:∀ u,s.vis u→s'.vis u){w:Nat}(h0:¬ s.vis w)(h1:s'.vis w)(g:Nat→Nat){nl:List Nat}(hw:w∈nl):((s'.left nl).map g).sum+g w≤((s.left nl).map g).sum :=
 sum_filter_lt g _ _ (fun u hu=>by simp only[Bool.not_eq_true',decide_eq_false_iff_not]at hu ⊢;exact fun q=>hu (h u q)) w (by simp[h1]) (by simp[h0]) nl hw
end Gc
namespace Go.Proofs.YtleolbpibjnedaaGreat
open Go Go.RowKit Gc
structure GraphP (w:World) (B:Nat) (nl:List Nat) (adj:Nat→List Nat) (v0:Value) (am:Nat):Prop where
 row:∃ a0 o0 c0,v0=.slice (some ⟨a0,o0,none⟩) nl.length c0∧a0<w.heap.size∧∀ i (h:i<nl.length),w.cell? ⟨a0,o0+i,none⟩=some (fp nl[i])
 nd:nl.Nodup
 blk:∀ b∈nl,FBlk w B b
 map:∃ fa,MapF w B am fa∧∀ b∈nl,∃ ab cb,fa b=some (.slice ab (adj b).length cb)∧∀ j (h:j<(adj b).length),∃ g o,ab=some ⟨g,o,none⟩∧g<w.heap.size∧w.cell? ⟨g,o+j,none⟩=some (fp (adj b)[j])
 cl:∀ b∈nl,∀ x∈adj b,x∈nl
 few:nl.length≤100∧∀ b∈nl,(adj b).length≤10000
 low:B≤w.heap.size∧am<w.heap.size∧B≤am
structure MapsP (W:World) (B mi ml mo mr base:Nat):Prop where
 ne:mi≠ml∧mi≠mo∧mi≠mr∧ml≠mo∧ml≠mr∧mo≠mr
 lo:W.heap.size≤mi∧W.heap.size≤ml∧W.heap.size≤mo∧W.heap.size≤mr
 hi:mi<base∧ml<base∧mo<base∧mr<base
 B:B≤W.heap.size
structure RnM (W:World) (B mi ml mo mr base:Nat) (fi fl fo fr:Nat→Option Value) (S:List Nat) (L:List (Nat×Nat)) (vs vw:Value) (wr:World):Prop where
 mi:MapF wr B mi fi
 ml:MapF wr B ml fl
 mo:MapF wr B mo fo
 mr:MapF wr B mr fr
 row:RowP wr base vs S
 work:RowF wr base vw L
 own:∀ g h,vs.ownBlock=some g→vw.ownBlock=some h→g≠h
 kept:Kept (fun _=>False) W wr
 size:base≤wr.heap.size
structure RnI (W:World) (B mi ml mo mr base:Nat) (nl:List Nat) (adj:Nat→List Nat) (s:TS) (vs vw:Value) (wr:World):Prop where
 inv:TInv adj s
 sub:∀ u,s.vis u→u∈nl
 mem:RnM W B mi ml mo mr base s.mI s.mL s.mO s.mR (stk s.fr).reverse s.wk vs vw wr
 cnt:s.n+(s.left nl).length≤nl.length
 lows:∀ u,s.vis u→s.low u≤s.n
theorem ul_mFI:Tryz.prog.underlying 178=some (.map 54 3):=by kernel_rfl
theorem ul_mFB:Tryz.prog.underlying 86=some (.map 54 4):=by kernel_rfl
section
variable {W:World} {B mi ml mo mr base:Nat} {fi fl fo fr:Nat→Option Value} {S:List Nat} {L:List (Nat×Nat)} {vs vw:Value} {wr:World} (H:RnM W B mi ml mo mr base fi fl fo fr S L vs vw wr) (MP:MapsP W B mi ml mo mr base)
include H MP
omit MP in
theorem RnM.turn{M:Nat→Prop}{w':World}(k:Kept M wr w')(hM:∀ q,M q→W.heap.size≤q):Kept (fun _=>False) W w'∧base≤w'.heap.size :=
 ⟨((H.kept.mono (M':=fun q=>False∨W.heap.size≤q) fun _ _ f=>f.elim).trans (k.mono fun q _ e=>.inr (hM q e))).fresh (Nat.le_refl _),Nat.le_trans H.size k.size⟩
theorem RnM.stay{M:Nat→Prop}{w':World}(k:Kept M wr w')(hM:∀ q,M q→base≤q∧vs.ownBlock≠some q∧vw.ownBlock≠some q):RnM W B mi ml mo mr base fi fl fo fr S L vs vw w':=by
 have hB:=MP.B
 obtain⟨lo1,lo2,lo3,lo4⟩:=MP.lo
 obtain⟨hi1,hi2,hi3,hi4⟩:=MP.hi
 have n:∀ {j},j<base→¬ M j:=fun h q=>by have:=(hM _ q).1;omega
 obtain⟨k0,z0⟩:=H.turn k fun q e=>by have:=(hM q e).1;omega
 exact⟨H.mi.kept k (n hi1) (fun b h=>n (by omega)),H.ml.kept k (n hi2) (fun b h=>n (by omega)),H.mo.kept k (n hi3) (fun b h=>n (by omega)),H.mr.kept k (n hi4) (fun b h=>n (by omega)),
  H.row.kept k (fun g e q=>(hM g q).2.1 e),H.work.kept k (fun g e q=>(hM g q).2.2 e),H.own,k0,z0⟩
theorem RnM.alloc(o:Obj):RnM W B mi ml mo mr base fi fl fo fr S L vs vw (wr.alloc o):=H.stay MP (M:=fun _=>False) keptA fun _ f=>f.elim
theorem RnM.sti{b:Nat}(hb:FBlk W B b)(v:Value):∃ w1,(Instr.mapUpdate 178 (.map (some mi)) (fp b) v).run Tryz.prog wr=.ok () w1∧RnM W B mi ml mo mr base (upd fi b (some v)) fl fo fr S L vs vw w1∧Kept (fun q=>q=mi) wr w1:=by
 have hB:=MP.B
 obtain⟨ne1,ne2,ne3,ne4,ne5,ne6⟩:=MP.ne
 obtain⟨lo1,lo2,lo3,lo4⟩:=MP.lo
 obtain⟨hi1,hi2,hi3,hi4⟩:=MP.hi
 have nB:∀ b,b<B→¬ b=mi:=fun b h e=>by omega
 obtain⟨w1,r1,m1,k1⟩:=H.mi.store ul_mFI (by omega) (hb.kept H.kept (fun _ _ f=>f)) v
 obtain⟨k0,z0⟩:=H.turn k1 (fun q e=>by omega)
 exact⟨w1,r1,⟨m1,H.ml.kept k1 (fun e=>ne1 e.symm) nB,H.mo.kept k1 (fun e=>ne2 e.symm) nB,H.mr.kept k1 (fun e=>ne3 e.symm) nB,H.row.kept k1 (fun g e=>by have:=H.row.lt g e;omega),H.work.kept k1 (fun g e=>by have:=H.work.lt g e;omega),H.own,k0,z0⟩,k1⟩
theorem RnM.stl{b:Nat}(hb:FBlk W B b)(v:Value):∃ w1,(Instr.mapUpdate 178 (.map (some ml)) (fp b) v).run Tryz.prog wr=.ok () w1∧RnM W B mi ml mo mr base fi (upd fl b (some v)) fo fr S L vs vw w1∧Kept (fun q=>q=ml) wr w1:=by
 have hB:=MP.B
 obtain⟨ne1,ne2,ne3,ne4,ne5,ne6⟩:=MP.ne
 obtain⟨lo1,lo2,lo3,lo4⟩:=MP.lo
 obtain⟨hi1,hi2,hi3,hi4⟩:=MP.hi
 have nB:∀ b,b<B→¬ b=ml:=fun b h e=>by omega
 obtain⟨w1,r1,m1,k1⟩:=H.ml.store ul_mFI (by omega) (hb.kept H.kept (fun _ _ f=>f)) v
 obtain⟨k0,z0⟩:=H.turn k1 (fun q e=>by omega)
 exact⟨w1,r1,⟨H.mi.kept k1 (fun e=>ne1 e) nB,m1,H.mo.kept k1 (fun e=>ne4 e.symm) nB,H.mr.kept k1 (fun e=>ne5 e.symm) nB,H.row.kept k1 (fun g e=>by have:=H.row.lt g e;omega),H.work.kept k1 (fun g e=>by have:=H.work.lt g e;omega),H.own,k0,z0⟩,k1⟩
theorem RnM.sto{b:Nat}(hb:FBlk W B b)(v:Value):∃ w1,(Instr.mapUpdate 86 (.map (some mo)) (fp b) v).run Tryz.prog wr=.ok () w1∧RnM W B mi ml mo mr base fi fl (upd fo b (some v)) fr S L vs vw w1∧Kept (fun q=>q=mo) wr w1:=by
 have hB:=MP.B
 obtain⟨ne1,ne2,ne3,ne4,ne5,ne6⟩:=MP.ne
 obtain⟨lo1,lo2,lo3,lo4⟩:=MP.lo
 obtain⟨hi1,hi2,hi3,hi4⟩:=MP.hi
 have nB:∀ b,b<B→¬ b=mo:=fun b h e=>by omega
 obtain⟨w1,r1,m1,k1⟩:=H.mo.store ul_mFB (by omega) (hb.kept H.kept (fun _ _ f=>f)) v
 obtain⟨k0,z0⟩:=H.turn k1 (fun q e=>by omega)
 exact⟨w1,r1,⟨H.mi.kept k1 (fun e=>ne2 e) nB,H.ml.kept k1 (fun e=>ne4 e) nB,m1,H.mr.kept k1 (fun e=>ne6 e.symm) nB,H.row.kept k1 (fun g e=>by have:=H.row.lt g e;omega),H.work.kept k1 (fun g e=>by have:=H.work.lt g e;omega),H.own,k0,z0⟩,k1⟩
theorem RnM.str{b:Nat}(hb:FBlk W B b)(v:Value):∃ w1,(Instr.mapUpdate 86 (.map (some mr)) (fp b) v).run Tryz.prog wr=.ok () w1∧RnM W B mi ml mo mr base fi fl fo (upd fr b (some v)) S L vs vw w1∧Kept (fun q=>q=mr) wr w1:=by
 have hB:=MP.B
 obtain⟨ne1,ne2,ne3,ne4,ne5,ne6⟩:=MP.ne
 obtain⟨lo1,lo2,lo3,lo4⟩:=MP.lo
 obtain⟨hi1,hi2,hi3,hi4⟩:=MP.hi
 have nB:∀ b,b<B→¬ b=mr:=fun b h e=>by omega
 obtain⟨w1,r1,m1,k1⟩:=H.mr.store ul_mFB (by omega) (hb.kept H.kept (fun _ _ f=>f)) v
 obtain⟨k0,z0⟩:=H.turn k1 (fun q e=>by omega)
 exact⟨w1,r1,⟨H.mi.kept k1 (fun e=>ne3 e) nB,H.ml.kept k1 (fun e=>ne5 e) nB,H.mo.kept k1 (fun e=>ne6 e) nB,m1,H.row.kept k1 (fun g e=>by have:=H.row.lt g e;omega),H.work.kept k1 (fun g e=>by have:=H.work.lt g e;omega),H.own,k0,z0⟩,k1⟩
theorem RnM.push{x b:Nat}(hb:wr.cell? ⟨b,0,none⟩=some (fp x))(hl:S.length≤100000):∃ v' w',(Builtin.append_ #[118,118] 118 #[vs,.slice (some ⟨b,0,none⟩) 1 1]).run Tryz.prog wr=.ok v' w'∧RnM W B mi ml mo mr base fi fl fo fr (S++[x]) L v' vw w':=by
 have hB:=MP.B
 obtain⟨lo1,lo2,lo3,lo4⟩:=MP.lo
 obtain⟨hi1,hi2,hi3,hi4⟩:=MP.hi
 obtain⟨v',w',r,row,k,hown⟩:=H.row.push hb hl H.size 118
 have vl:=H.row.lt
 have wl:=H.work.lt
 have n:∀ {j},j<base→¬ vs.ownBlock=some j:=fun h q=>by have:=(vl _ q).1;omega
 obtain⟨k0,z0⟩:=H.turn k fun q e=>by have:=(vl q e).1;omega
 refine⟨v',w',r,H.mi.kept k (n hi1) (fun b h=>n (by omega)),H.ml.kept k (n hi2) (fun b h=>n (by omega)),H.mo.kept k (n hi3) (fun b h=>n (by omega)),H.mr.kept k (n hi4) (fun b h=>n (by omega)),
  row,H.work.kept k (fun g e q=>H.own g g q e rfl),fun g h e1 e2=>?_,k0,z0⟩
 rcases hown with q|q
 · exact H.own g h (q▸e1) e2
 · rw[q]at e1
   cases e1
   have:=wl h e2
   omega
theorem RnM.pushw{f:Nat×Nat}{b:Nat}(hb0:wr.cell? ⟨b,0,none⟩=some (fp f.1))(hb1:wr.cell? ⟨b,1,none⟩=some (.int .i64 f.2))(hl:L.length≤100000):∃ v' w',(Builtin.append_ #[181,181] 181 #[vw,.slice (some ⟨b,0,none⟩) 1 1]).run Tryz.prog wr=.ok v' w'∧RnM W B mi ml mo mr base fi fl fo fr S (L++[f]) vs v' w':=by
 have hB:=MP.B
 obtain⟨lo1,lo2,lo3,lo4⟩:=MP.lo
 obtain⟨hi1,hi2,hi3,hi4⟩:=MP.hi
 obtain⟨v',w',r,work,k,hown⟩:=H.work.push hb0 hb1 hl H.size 181
 have vl:=H.row.lt
 have wl:=H.work.lt
 have n:∀ {j},j<base→¬ vw.ownBlock=some j:=fun h q=>by have:=(wl _ q).1;omega
 obtain⟨k0,z0⟩:=H.turn k fun q e=>by have:=(wl q e).1;omega
 refine⟨v',w',r,H.mi.kept k (n hi1) (fun b h=>n (by omega)),H.ml.kept k (n hi2) (fun b h=>n (by omega)),H.mo.kept k (n hi3) (fun b h=>n (by omega)),H.mr.kept k (n hi4) (fun b h=>n (by omega)),
  H.row.kept k (fun g e q=>H.own g g e q rfl),work,fun g h e1 e2=>?_,k0,z0⟩
 rcases hown with q|q
 · exact H.own g h e1 (q▸e2)
 · rw[q]at e2
   cases e2
   have:=vl g e1
   omega
end
section
variable {W:World} {B mi ml mo mr base:Nat} {fi fl fo fr:Nat→Option Value} {S:List Nat} {L:List (Nat×Nat)} {vs vw:Value} {wr:World}
theorem RnM.pop{x:Nat}(H:RnM W B mi ml mo mr base fi fl fo fr (S++[x]) L vs vw wr):∃ g cap,vs=.slice (some ⟨g,0,none⟩) (S.length+1) cap∧S.length+1≤cap∧base≤g∧g<wr.heap.size∧wr.cell? ⟨g,S.length,none⟩=some (fp x)∧RnM W B mi ml mo mr base fi fl fo fr S L (.slice (some ⟨g,0,none⟩) S.length cap) vw wr:=by
 obtain⟨g,cap,rfl,h1,h2,h3,h4,h5⟩:=H.row.pop
 exact⟨g,cap,rfl,h1,h2,h3,h4,H.mi,H.ml,H.mo,H.mr,h5,H.work,H.own,H.kept,H.size⟩
theorem RnM.popw{f:Nat×Nat}(H:RnM W B mi ml mo mr base fi fl fo fr S (L++[f]) vs vw wr)(MP:MapsP W B mi ml mo mr base):∃ g cap,vw=.slice (some ⟨g,0,none⟩) (L.length+1) cap∧L.length+1≤cap∧base≤g∧g<wr.heap.size∧wr.cell? ⟨g,L.length*2,none⟩=some (fp f.1)∧wr.cell? ⟨g,L.length*2+1,none⟩=some (.int .i64 f.2)∧wr.frozen? ⟨g,L.length*2+1,none⟩=false ∧
 RnM W B mi ml mo mr base fi fl fo fr S L vs (.slice (some ⟨g,0,none⟩) L.length cap) wr∧∀ k:Nat,RnM W B mi ml mo mr base fi fl fo fr S (L++[(f.1,k)]) vs vw (wr.setCell ⟨g,L.length*2+1,none⟩ (.int .i64 k)):=by
 obtain⟨g,cap,rfl,h1,h2,h3,h4,h5,h6,h7,h8⟩:=H.work.pop
 refine⟨g,cap,rfl,h1,h2,h3,h4,h5,h6,⟨H.mi,H.ml,H.mo,H.mr,H.row,h7,H.own,H.kept,H.size⟩,fun k=>?_⟩
 have kS:Kept (fun q=>q=g) wr (wr.setCell ⟨g,L.length*2+1,none⟩ (.int .i64 k)):=Kept.set1e
 have hB:=MP.B
 obtain⟨lo1,lo2,lo3,lo4⟩:=MP.lo
 obtain⟨hi1,hi2,hi3,hi4⟩:=MP.hi
 obtain⟨k0,z0⟩:=H.turn kS fun q e=>by omega
 exact⟨H.mi.kept kS (by omega) (fun b h=>by omega),H.ml.kept kS (by omega) (fun b h=>by omega),H.mo.kept kS (by omega) (fun b h=>by omega),H.mr.kept kS (by omega) (fun b h=>by omega),H.row.kept kS (fun q e r=>H.own q g e rfl r),h8 k,H.own,k0,z0⟩
end
theorem see_new{W:World}{B mi ml mo mr base:Nat}{fi fl fo fr:Nat→Option Value}{S:List Nat}{L:List (Nat×Nat)}{vs vw:Value}{wr:World}(H:RnM W B mi ml mo mr base fi fl fo fr S L vs vw wr)(MP:MapsP W B mi ml mo mr base){rt:Nat}(hb:FBlk W B rt)(hl:S.length≤100000)(v:Value) :
 ∃ w1 w2 v' w3 w4,(Instr.mapUpdate 178 (.map (some mi)) (fp rt) v).run Tryz.prog wr=.ok () w1∧(Instr.mapUpdate 178 (.map (some ml)) (fp rt) v).run Tryz.prog w1=.ok () w2 ∧
  (Builtin.append_ #[118,118] 118 #[vs,.slice (some ⟨w2.heap.size,0,none⟩) 1 1]).run Tryz.prog (w2.alloc (.cells #[fp rt] 54))=.ok v' w3 ∧
  (Instr.mapUpdate 86 (.map (some mo)) (fp rt) (.bool true)).run Tryz.prog w3=.ok () w4 ∧
  RnM W B mi ml mo mr base (upd fi rt (some v)) (upd fl rt (some v)) (upd fo rt (some (.bool true))) fr (S++[rt]) L v' vw w4:=by
 obtain⟨w1,r1,H1,-⟩:=H.sti MP hb v
 obtain⟨w2,r2,H2,-⟩:=H1.stl MP hb v
 obtain⟨v',w3,r3,H3⟩:=(H2.alloc MP (.cells #[fp rt] 54)).push MP (x:=rt) (b:=w2.heap.size) (cell_of_cells (cs:=[fp rt]) (heap_alloc_new w2 _) 0 rfl) hl
 obtain⟨w4,r4,H4,-⟩:=H3.sto MP hb (.bool true)
 exact⟨w1,w2,v',w3,w4,r1,r2,r3,r4,H4⟩
section
variable {s s1:TS} {rt:Nat} (h:∀ u,s1.vis u↔u=rt∨s.vis u)
include h
theorem fun_int{f f1:Nat→Nat}(hi:f1=upd f rt s.n):upd (fun u=>if s.vis u then some (Value.int .i64 (f u)) else none) rt (some (.int .i64 s.n))=fun u=>if s1.vis u then some (Value.int .i64 (f1 u)) else none:=by
 funext u
 by_cases e:u=rt
 · subst e
   rw[upd_same,if_pos ((h u).2 (.inl rfl)),hi,upd_same]
 · rw[upd_ne _ _ e,hi,upd_ne _ _ e]
   by_cases hv:s.vis u
   · rw[if_pos hv,if_pos ((h u).2 (.inr hv))]
   · rw[if_neg hv,if_neg fun q=>((h u).1 q).elim e hv]
theorem fun_on(ho:∀ u,u∈stk s1.fr↔u=rt∨u∈stk s.fr):upd s.mO rt (some (.bool true))=s1.mO:=by
 unfold TS.mO
 funext u
 by_cases e:u=rt
 · subst e
   rw[upd_same,if_pos ((h u).2 (.inl rfl)),decide_eq_true ((ho u).2 (.inl rfl))]
 · rw[upd_ne _ _ e]
   by_cases hv:s.vis u
   · rw[if_pos hv,if_pos ((h u).2 (.inr hv))]
     congr 2
     exact decide_eq_decide.2 ⟨fun q=>(ho u).2 (.inr q),fun q=>((ho u).1 q).resolve_left e⟩
   · rw[if_neg hv,if_neg fun q=>((h u).1 q).elim e hv]
theorem cnt_new{nl:List Nat}(hr:rt∈nl)(hv:¬ s.vis rt)(hn:s1.n=s.n+1)(hc:s.n+(s.left nl).length≤nl.length):s1.n+(s1.left nl).length≤nl.length:=by
 have:=left_lt (s:=s) (s':=s1) (fun u q=>(h u).2 (.inr q)) hv ((h rt).2 (.inl rfl)) (fun _=>1) hr
 have e:∀ l:List Nat,(l.map fun _=>1).sum=l.length:=fun l=>by induction l with
  | nil=>rfl
  | cons x l ih=>simp only[List.map_cons,List.sum_cons,List.length_cons,ih];omega
 rw[e,e]at this
 omega
end
theorem RowF.one{w:World}{base:Nat}(hb:base≤w.heap.size)(rt:Nat):RowF (w.alloc (.cells #[fp rt,.int .i64 0] 180)) base (.slice (some ⟨w.heap.size,0,none⟩) 1 1) [(rt,0)] :=
 ⟨rfl,.inr ⟨w.heap.size,1,#[fp rt,.int .i64 0],rfl,hb,heap_alloc_new w _,Nat.le_refl _,by unfold maxLen;omega,rfl,rfl⟩⟩
theorem left_len{s:TS}{nl:List Nat}{rt:Nat}(hr:rt∈nl)(hv:¬ s.vis rt)(hc:s.n+(s.left nl).length≤nl.length):s.n<nl.length:=by
 have h3:0<(s.left nl).length:=List.length_pos_of_mem (a:=rt) (List.mem_filter.2 ⟨hr,by simp[hv]⟩)
 omega
theorem nodup_len:∀ (l m:List Nat),l.Nodup→(∀ x∈l,x∈m)→l.length≤m.length
 | [],_,_,_=>Nat.zero_le _
 | x :: l,m,hn,h=>by
   have hx:=h x (by simp)
   obtain⟨h1,h2⟩:=List.nodup_cons.1 hn
   have:=nodup_len l (m.erase x) h2 fun y hy=>(List.mem_erase_of_ne (by rintro rfl;exact h1 hy)).2 (h y (by simp[hy]))
   rw[List.length_erase_of_mem hx]at this
   have:=List.length_pos_of_mem hx
   simp only[List.length_cons]
   omega
theorem fr_len:∀ fr:List Fr,fr.length≤(stk fr).length
 | []=>Nat.zero_le _
 | f :: fr=>by
   have:=fr_len fr
   simp only[stk,List.length_cons,List.length_append]
   omega
theorem left_eq{s s1:TS}(h:∀ u,s1.vis u↔s.vis u)(nl:List Nat):s1.left nl=s.left nl:=by
 unfold TS.left
 congr 1
 funext u
 simp only[decide_eq_decide.2 (h u)]
section
variable {W:World} {B mi ml mo mr base:Nat} {nl:List Nat} {adj:Nat→List Nat} {s:TS} {vs vw v' vw':Value} {wr w4:World}
theorem RnI.few(I:RnI W B mi ml mo mr base nl adj s vs vw wr):s.fr.length≤nl.length∧(stk s.fr).length≤nl.length:=by
 have h:=nodup_len _ _ I.inv.nd fun x hx=>I.sub x (.inl hx)
 exact⟨Nat.le_trans (fr_len _) h,h⟩
theorem RnI.start(I:RnI W B mi ml mo mr base nl adj s vs vw wr)(MP:MapsP W B mi ml mo mr base)(hfr:s.fr=[]){rt:Nat}(hr:rt∈nl)(hv:¬ s.vis rt){L:List (Nat×Nat)}
 (H:RnM W B mi ml mo mr base (upd s.mI rt (some (.int .i64 s.n))) (upd s.mL rt (some (.int .i64 s.n))) (upd s.mO rt (some (.bool true))) s.mR ((stk s.fr).reverse++[rt]) L v' vw w4) :
 RnI W B mi ml mo mr base nl adj { s with fr:=[⟨rt,0,[]⟩],ind:=upd s.ind rt s.n,low:=upd s.low rt s.n,n:=s.n+1 } v' (.slice (some ⟨w4.heap.size,0,none⟩) 1 1) (w4.alloc (.cells #[fp rt,.int .i64 0] 180)):=by
 have hnd:rt ∉ s.done:=fun q=>hv (.inr q)
 have hvis:∀ u,TS.vis { s with fr:=[⟨rt,0,[]⟩],ind:=upd s.ind rt s.n,low:=upd s.low rt s.n,n:=s.n+1 } u↔u=rt∨s.vis u:=fun u=>by
  simp only[TS.vis,hfr,stk]
  simp
 have hst:∀ u,u∈stk [⟨rt,0,[]⟩]↔u=rt∨u∈stk s.fr:=fun u=>by rw[hfr];simp[stk]
 have HA:=H.alloc MP (.cells #[fp rt,.int .i64 0] 180)
 refine⟨I.inv.start hfr rt hnd,fun u q=>?_,⟨?_,?_,?_,HA.mr,?_,RowF.one H.size rt,fun g h e1 e2=>?_,HA.kept,HA.size⟩,cnt_new hvis hr hv rfl I.cnt,fun u q=>?_⟩
 · rcases(hvis u).1 q with rfl | q
   · exact hr
   · exact I.sub u q
 · have:=HA.mi
   unfold TS.mI at this
   rw[fun_int hvis (f:=s.ind) rfl]at this
   exact this
 · have:=HA.ml
   unfold TS.mL at this
   rw[fun_int hvis (f:=s.low) rfl]at this
   exact this
 · have:=HA.mo
   rw[fun_on hvis hst]at this
   exact this
 · have:=HA.row
   rw[hfr]at this
   exact this
 · simp only[Value.ownBlock,Option.some.injEq]at e2
   have:=(H.row.lt g e1).2
   omega
 · show upd s.low rt s.n u≤s.n+1
   by_cases e:u=rt
   · subst e;rw[upd_same];omega
   · rw[upd_ne _ _ e]
     have:=I.lows u (((hvis u).1 q).resolve_left e)
     omega
theorem RnI.drop(I:RnI W B mi ml mo mr base nl adj s vs vw wr)(hfr:s.fr=[]):RnI W B mi ml mo mr base nl adj s vs (.slice none 0 0) wr :=
 ⟨I.inv,I.sub,⟨I.mem.mi,I.mem.ml,I.mem.mo,I.mem.mr,I.mem.row,by unfold TS.wk;rw[hfr];exact World.ownsRow_nil _ _ _ _,(fun g h e1 e2=>by cases e2),I.mem.kept,I.mem.size⟩,I.cnt,I.lows⟩
variable {v k:Nat} {fin:List Nat} {fs:List Fr} (I:RnI W B mi ml mo mr base nl adj s vs vw wr) (hf:s.fr=⟨v,k,fin⟩ :: fs)
include I hf
omit I in
theorem wk_cons:s.wk=(fs.map fun f=>(f.p,f.k)).reverse++[(v,k)]:=by unfold TS.wk;rw[hf];simp
theorem RnI.tree(hk:k<(adj v).length)(hv:¬ s.vis (adj v)[k])(hr:(adj v)[k]∈nl)
 (H:RnM W B mi ml mo mr base (upd s.mI (adj v)[k] (some (.int .i64 s.n))) (upd s.mL (adj v)[k] (some (.int .i64 s.n))) (upd s.mO (adj v)[k] (some (.bool true))) s.mR ((stk s.fr).reverse++[(adj v)[k]]) ((fs.map fun f=>(f.p,f.k)).reverse++[(v,k+1)]++[((adj v)[k],0)]) v' vw' w4) :
 ∃ s1:TS,s1.n=s.n+1∧s1.M adj nl<s.M adj nl∧(∀ u,s.vis u→s1.vis u)∧RnI W B mi ml mo mr base nl adj s1 v' vw' w4:=by
 obtain⟨x,hx⟩:∃ x,x=(adj v)[k]:=⟨_,rfl⟩
 have it:=I.inv.tree hf hk (fun q=>hv (.inl q)) (fun q=>hv (.inr q))
 rw[← hx]at hv hr H it
 have hS:stk (⟨v,k+1,fin⟩ :: fs)=stk s.fr:=by rw[hf];rfl
 have hvis:∀ u,TS.vis { s with fr:=⟨x,0,[]⟩ :: ⟨v,k+1,fin⟩ :: fs,ind:=upd s.ind x s.n,low:=upd s.low x s.n,n:=s.n+1 } u↔u=x∨s.vis u:=fun u=>by
  simp only[TS.vis]
  rw[show stk (⟨x,0,[]⟩ :: ⟨v,k+1,fin⟩ :: fs)=x :: stk s.fr by rw[← hS];rfl]
  simp only[List.mem_cons,or_assoc]
 refine⟨{ s with fr:=⟨x,0,[]⟩ :: ⟨v,k+1,fin⟩ :: fs,ind:=upd s.ind x s.n,low:=upd s.low x s.n,n:=s.n+1 },rfl,?_,fun u q=>?_,it,fun u q=>?_,?_,?_,fun u q=>?_⟩
 · have h1:=left_lt (fun u q=>(hvis u).2 (.inr q)) hv ((hvis x).2 (.inl rfl)) (fun u=>(adj u).length+2) hr
   unfold TS.M frM
   simp only[hf,List.map_cons,List.sum_cons]at h1 ⊢
   omega
 · exact(hvis u).2 (.inr q)
 · rcases(hvis u).1 q with rfl | q
   · exact hr
   · exact I.sub u q
 · have hst:∀ u,u∈stk (⟨x,0,[]⟩ :: ⟨v,k+1,fin⟩ :: fs)↔u=x∨u∈stk s.fr:=fun u=>by
    rw[show stk (⟨x,0,[]⟩ :: ⟨v,k+1,fin⟩ :: fs)=x :: stk s.fr by rw[← hS];rfl,List.mem_cons]
   refine⟨?_,?_,?_,H.mr,?_,?_,H.own,H.kept,H.size⟩
   · have:=H.mi
     unfold TS.mI at this
     rw[fun_int hvis (f:=s.ind) rfl]at this
     exact this
   · have:=H.ml
     unfold TS.mL at this
     rw[fun_int hvis (f:=s.low) rfl]at this
     exact this
   · have:=H.mo
     rw[fun_on hvis hst]at this
     exact this
   · have:=H.row
     rw[← hS]at this
     simpa [stk]using this
   · have:=H.work
     simpa [TS.wk]using this
 · exact cnt_new hvis hr hv rfl I.cnt
 · show upd s.low x s.n u≤s.n+1
   by_cases e:u=x
   · subst e;rw[upd_same];omega
   · rw[upd_ne _ _ e]
     have:=I.lows u (((hvis u).1 q).resolve_left e)
     omega
omit I hf in
theorem mL_upd{x l:Nat}(hx:s.vis x):upd s.mL x (some (.int .i64 l))=fun u=>if s.vis u then some (Value.int .i64 ((upd s.low x l u:Nat):Int)) else none:=by
 funext u
 unfold TS.mL
 by_cases e:u=x
 · subst e;rw[upd_same,if_pos hx,upd_same]
 · rw[upd_ne _ _ e,upd_ne _ _ e]
theorem RnI.seen(hk:k<(adj v).length)(hs:s.vis (adj v)[k])
 (H:RnM W B mi ml mo mr base s.mI (if (adj v)[k]∈stk s.fr∧s.ind (adj v)[k]<s.low v then upd s.mL v (some (.int .i64 (s.ind (adj v)[k]))) else s.mL) s.mO s.mR (stk s.fr).reverse ((fs.map fun f=>(f.p,f.k)).reverse++[(v,k+1)]) v' vw' w4) :
 ∃ s1:TS,s1.n=s.n∧s1.M adj nl<s.M adj nl∧(∀ u,s.vis u→s1.vis u)∧RnI W B mi ml mo mr base nl adj s1 v' vw' w4:=by
 have it:=I.inv.seen hf hk hs
 have hS:stk (⟨v,k+1,fin⟩ :: fs)=stk s.fr:=by rw[hf];rfl
 obtain⟨c,hc⟩:∃ c,c=((adj v)[k]∈stk s.fr∧s.ind (adj v)[k]<s.low v):=⟨_,rfl⟩
 have hvv:s.vis v:=.inl (by rw[hf];simp[stk])
 have hvis:∀ u,TS.vis { s with fr:=⟨v,k+1,fin⟩ :: fs,low:=if (adj v)[k]∈stk s.fr∧s.ind (adj v)[k]<s.low v then upd s.low v (s.ind (adj v)[k]) else s.low } u↔s.vis u:=fun u=>by
  simp only[TS.vis]
  rw[hS]
 refine⟨{ s with fr:=⟨v,k+1,fin⟩ :: fs,low:=if (adj v)[k]∈stk s.fr∧s.ind (adj v)[k]<s.low v then upd s.low v (s.ind (adj v)[k]) else s.low },rfl,?_,fun u q=>?_,it,fun u q=>?_,?_,?_,fun u q=>?_⟩
 · have h1:=left_eq hvis nl
   unfold TS.M frM
   rw[h1]
   simp only[hf,List.map_cons,List.sum_cons]
   omega
 · exact(hvis u).2 q
 · exact I.sub u ((hvis u).1 q)
 · have e0:∀ (g:Nat→Value),(fun u=>if TS.vis { s with fr:=⟨v,k+1,fin⟩ :: fs,low:=if (adj v)[k]∈stk s.fr∧s.ind (adj v)[k]<s.low v then upd s.low v (s.ind (adj v)[k]) else s.low } u then some (g u) else none)=fun u=>if s.vis u then some (g u) else none:=fun g=>by
    funext u
    by_cases q:s.vis u
    · rw[if_pos q,if_pos ((hvis u).2 q)]
    · rw[if_neg q,if_neg fun r=>q ((hvis u).1 r)]
   refine⟨?_,?_,?_,H.mr,?_,?_,H.own,H.kept,H.size⟩
   · unfold TS.mI
     rw[e0]
     exact H.mi
   · have hl:=H.ml
     unfold TS.mL
     rw[e0]
     split at hl
     · rename_i h
       rw[mL_upd hvv]at hl
       simp only[if_pos h]
       exact hl
     · rename_i h
       simp only[if_neg h]
       exact hl
   · unfold TS.mO
     rw[e0]
     simp only[hS]
     exact H.mo
   · show RowP w4 base v' (stk (⟨v,k+1,fin⟩ :: fs)).reverse
     rw[hS]
     exact H.row
   · have:=H.work
     simpa [TS.wk]using this
 · rw[left_eq hvis nl]
   exact I.cnt
 · have:=I.lows u ((hvis u).1 q)
   show(if (adj v)[k]∈stk s.fr∧s.ind (adj v)[k]<s.low v then upd s.low v (s.ind (adj v)[k]) else s.low) u≤s.n
   split
   · rename_i h
     by_cases e:u=v
     · subst e;rw[upd_same]
       have:=h.2
       omega
     · rw[upd_ne _ _ e];exact this
   · exact this
theorem RnI.part(hk:(adj v).length≤k)(he:s.low v=s.ind v)
 (H:RnM W B mi ml mo mr base s.mI s.mL (fun u=>if s.vis u then some (.bool (decide (u∈stk fs))) else none) (fun u=>if (if fin≠[]∧u∈fin++[v] then true else s.rc u)=true then some (.bool true) else none) (stk fs).reverse (fs.map fun f=>(f.p,f.k)).reverse v' vw' w4) :
 ∃ s1:TS,s1.n=s.n∧s1.M adj nl<s.M adj nl∧(∀ u,s.vis u→s1.vis u)∧RnI W B mi ml mo mr base nl adj s1 v' vw' w4:=by
 have it:=(I.inv.part hf hk he).1
 have hvis:∀ u,TS.vis { s with fr:=fs,done:=fin++v :: s.done,rc:=fun u=>if fin≠[]∧u∈fin++[v] then true else s.rc u } u↔s.vis u:=fun u=>by
  simp only[TS.vis,hf,stk,List.mem_append,List.mem_cons]
  constructor
  · rintro (h|h|h|h)
    · exact .inl (.inr (.inr h))
    · exact .inl (.inl h)
    · exact .inl (.inr (.inl h))
    · exact .inr h
  · rintro ((h|h|h)|h)
    · exact .inr (.inl h)
    · exact .inr (.inr (.inl h))
    · exact .inl h
    · exact .inr (.inr (.inr h))
 refine⟨{ s with fr:=fs,done:=fin++v :: s.done,rc:=fun u=>if fin≠[]∧u∈fin++[v] then true else s.rc u },rfl,?_,fun u q=>?_,it,fun u q=>?_,?_,?_,fun u q=>?_⟩
 · have h1:=left_eq hvis nl
   unfold TS.M frM
   rw[h1]
   simp only[hf,List.map_cons,List.sum_cons]
   omega
 · exact(hvis u).2 q
 · exact I.sub u ((hvis u).1 q)
 · have e0:∀ (g:Nat→Value),(fun u=>if TS.vis { s with fr:=fs,done:=fin++v :: s.done,rc:=fun u=>if fin≠[]∧u∈fin++[v] then true else s.rc u } u then some (g u) else none)=fun u=>if s.vis u then some (g u) else none:=fun g=>by
    funext u
    by_cases q:s.vis u
    · rw[if_pos q,if_pos ((hvis u).2 q)]
    · rw[if_neg q,if_neg fun r=>q ((hvis u).1 r)]
   refine⟨?_,?_,?_,H.mr,H.row,H.work,H.own,H.kept,H.size⟩
   · unfold TS.mI
     rw[e0]
     exact H.mi
   · unfold TS.mL
     rw[e0]
     exact H.ml
   · unfold TS.mO
     rw[e0]
     exact H.mo
 · rw[left_eq hvis nl]
   exact I.cnt
 · exact I.lows u ((hvis u).1 q)
theorem RnI.merge(hk:(adj v).length≤k)(he:s.low v≠s.ind v) :
 ∃ g gs,fs=g :: gs∧s.vis g.p∧∀ {v' vw' w4},RnM W B mi ml mo mr base s.mI (if s.low v<s.low g.p then upd s.mL g.p (some (.int .i64 (s.low v))) else s.mL) s.mO s.mR (stk s.fr).reverse (fs.map fun f=>(f.p,f.k)).reverse v' vw' w4 →
 ∃ s1:TS,s1.n=s.n∧s1.M adj nl<s.M adj nl∧(∀ u,s.vis u→s1.vis u)∧RnI W B mi ml mo mr base nl adj s1 v' vw' w4:=by
 obtain⟨g,gs,rfl,it⟩:=I.inv.merge hf hk he
 have hgv:s.vis g.p:=.inl (by rw[hf];simp[stk])
 refine⟨g,gs,rfl,hgv,fun {v' vw' w4} H=>?_⟩
 have hS:stk (⟨g.p,g.k,fin++v :: g.fin⟩ :: gs)=stk s.fr:=by rw[hf];simp[stk]
 have hvis:∀ u,TS.vis { s with fr:=⟨g.p,g.k,fin++v :: g.fin⟩ :: gs,low:=if s.low v<s.low g.p then upd s.low g.p (s.low v) else s.low } u↔s.vis u:=fun u=>by
  simp only[TS.vis]
  rw[hS]
 refine⟨{ s with fr:=⟨g.p,g.k,fin++v :: g.fin⟩ :: gs,low:=if s.low v<s.low g.p then upd s.low g.p (s.low v) else s.low },rfl,?_,fun u q=>?_,it,fun u q=>?_,?_,?_,fun u q=>?_⟩
 · have h1:=left_eq hvis nl
   unfold TS.M frM
   rw[h1]
   simp only[hf,List.map_cons,List.sum_cons]
   omega
 · exact(hvis u).2 q
 · exact I.sub u ((hvis u).1 q)
 · have e0:∀ (f:Nat→Value),(fun u=>if TS.vis { s with fr:=⟨g.p,g.k,fin++v :: g.fin⟩ :: gs,low:=if s.low v<s.low g.p then upd s.low g.p (s.low v) else s.low } u then some (f u) else none)=fun u=>if s.vis u then some (f u) else none:=fun f=>by
    funext u
    by_cases q:s.vis u
    · rw[if_pos q,if_pos ((hvis u).2 q)]
    · rw[if_neg q,if_neg fun r=>q ((hvis u).1 r)]
   refine⟨?_,?_,?_,H.mr,?_,?_,H.own,H.kept,H.size⟩
   · unfold TS.mI
     rw[e0]
     exact H.mi
   · have hl:=H.ml
     unfold TS.mL
     rw[e0]
     split at hl
     · rename_i h
       rw[mL_upd hgv]at hl
       simp only[if_pos h]
       exact hl
     · rename_i h
       simp only[if_neg h]
       exact hl
   · unfold TS.mO
     rw[e0]
     simp only[hS]
     exact H.mo
   · show RowP w4 base v' (stk (⟨g.p,g.k,fin++v :: g.fin⟩ :: gs)).reverse
     rw[hS]
     exact H.row
   · have:=H.work
     simpa [TS.wk]using this
 · rw[left_eq hvis nl]
   exact I.cnt
 · have h1:=I.lows u ((hvis u).1 q)
   show(if s.low v<s.low g.p then upd s.low g.p (s.low v) else s.low) u≤s.n
   split
   · by_cases e:u=g.p
     · subst e;rw[upd_same]
       exact I.lows v (.inl (by rw[hf];simp[stk]))
     · rw[upd_ne _ _ e];exact h1
   · exact h1
end
theorem RowF.empty{w:World}{base:Nat}{v:Value}(h:RowF w base v []):∃ a c,v=.slice a 0 c:=by
 rcases h.2 with ⟨rfl,-⟩|⟨g,cap,cur,rfl,-⟩
 · exact⟨_,_,rfl⟩
 · exact⟨_,_,rfl⟩
theorem len_map{w:World}{mb clock:Nat}{es:Array MapEntry}(hb:w.heap[mb]?=some (.map es clock)):(Builtin.len_ #[86] 3 #[.map (some mb)]).run Tryz.prog w=.ok (.int .i64 es.size) w:=by
 simp[Builtin.len_,Builtin.lenOf,MapKept.run_getObj_map hb,Result.andThen,goInt]
theorem zero_intF(w:World):(zeroValue 3).run Tryz.prog w=.ok (.int .i64 0) w:=by kernel_rfl
theorem zero_sF(w:World):(zeroValue 118).run Tryz.prog w=.ok (.slice none 0 0) w:=by kernel_rfl
theorem zero_boolF(w:World):(zeroValue 4).run Tryz.prog w=.ok (.bool false) w:=by kernel_rfl
theorem eqB{w:World}{B b b':Nat}(h:FBlk w B b)(h':FBlk w B b'):(binOp .eql 54 (fp b) (fp b')).run Tryz.prog w=.ok (.bool (decide (b=b'))) w:=by
 simp only[binOp]
 simp[eq_F h h',Result.andThen]
def slen:Value→Nat
 | .slice _ n _=>n
 | _=>0
theorem RowP.shape{w:World}{base:Nat}{v:Value}{l:List Nat}(h:RowP w base v l):∃ a c,v=.slice a l.length c:=by
 rcases h.2 with ⟨rfl,h0⟩|⟨g,cap,cur,rfl,-⟩
 · rw[h0];exact⟨_,_,rfl⟩
 · exact⟨_,_,rfl⟩
theorem RowP.at{w:World}{base:Nat}{v:Value}{l:List Nat}(h:RowP w base v l){i:Nat}(hi:i<l.length):∃ g c,v=.slice (some ⟨g,0,none⟩) l.length c∧g<w.heap.size∧w.cell? ⟨g,i,none⟩=some (fp l[i]):=by
 rcases h.2 with ⟨rfl,h0⟩|⟨g,cap,cur,rfl,hb,hg,h1,h2,h3,h4⟩
 · omega
 · refine⟨g,cap,rfl,lt_of_heap hg,?_⟩
   have hc:cur.toList[i]?=some (fp l[i]):=by
    have:(cur.toList.take (l.length*1))[i]?=some (fp l[i]):=by rw[h4];simp[hi]
    rw[List.getElem?_take,if_pos (by omega)]at this
    exact this
   exact cell_of_cells (cs:=cur.toList) (by simpa using hg) i hc
structure PopR (W:World) (B mi ml mo mr base base2:Nat) (s:TS) (v:Nat) (fin:List Nat) (fs:List Fr) (vw:Value) (i:Nat) (st cmp:Value) (wr:World):Prop where
 mem:RnM W B mi ml mo mr base s.mI s.mL (fun u=>if s.vis u then some (.bool (decide (u∈(fin++[v]).drop i++stk fs))) else none) s.mR ((fin++[v]).drop i++stk fs).reverse s.wk st vw wr
 cmp:RowP wr base2 cmp ((fin++[v]).take i)
 sz:base2≤wr.heap.size
 os:∀ g,st.ownBlock=some g→g<base2
 ow:∀ g,vw.ownBlock=some g→g<base2
section
variable {W:World} {B mi ml mo mr base base2:Nat} {nl:List Nat} {adj:Nat→List Nat} {s:TS} {v k:Nat} {fin:List Nat} {fs:List Fr} {vw:Value}
theorem PopR.start{vs:Value}{wr:World}(I:RnI W B mi ml mo mr base nl adj s vs vw wr)(hf:s.fr=⟨v,k,fin⟩ :: fs):PopR W B mi ml mo mr base wr.heap.size s v fin fs vw 0 vs (.slice none 0 0) wr:=by
 have hS:(fin++[v]).drop 0++stk fs=stk s.fr:=by rw[hf];simp[stk]
 refine⟨?_,RowP.nil _ _,Nat.le_refl _,fun g e=>(I.mem.row.lt g e).2,fun g e=>(I.mem.work.lt g e).2⟩
 rw[hS]
 exact I.mem
theorem PopR.step{i:Nat}{st cmp:Value}{wr:World}(P:PopR W B mi ml mo mr base base2 s v fin fs vw i st cmp wr)(MP:MapsP W B mi ml mo mr base)(hbb:base≤base2)(nd:(fin++[v]++stk fs).Nodup)(hi:i<(fin++[v]).length)(hvis:∀ x∈fin++[v],s.vis x)(hblk:∀ x∈fin++[v],FBlk W B x)(hlen:(fin++[v]).length≤1000) :
 ∃ gs n cap w1 cmp' w3,st=.slice (some ⟨gs,0,none⟩) (n+1) cap∧n+1≤cap∧n=((fin++[v]).drop (i+1)++stk fs).length∧gs<wr.heap.size∧wr.cell? ⟨gs,n,none⟩=some (fp (fin++[v])[i]) ∧
  (Instr.mapUpdate 86 (.map (some mo)) (fp (fin++[v])[i]) (.bool false)).run Tryz.prog wr=.ok () w1 ∧
  (Builtin.append_ #[118,118] 118 #[cmp,.slice (some ⟨w1.heap.size,0,none⟩) 1 1]).run Tryz.prog (w1.alloc (.cells #[fp (fin++[v])[i]] 54))=.ok cmp' w3 ∧
  (binOp .eql 54 (fp (fin++[v])[i]) (fp v)).run Tryz.prog w3=.ok (.bool (decide ((fin++[v])[i]=v))) w3 ∧
  PopR W B mi ml mo mr base base2 s v fin fs vw (i+1) (.slice (some ⟨gs,0,none⟩) n cap) cmp' w3:=by
 obtain⟨x,hx⟩:∃ x,x=(fin++[v])[i]:=⟨_,rfl⟩
 have hxm:x∈fin++[v]:=by rw[hx];exact List.getElem_mem _
 have hdr:(fin++[v]).drop i=x :: (fin++[v]).drop (i+1):=by rw[hx];exact List.drop_eq_getElem_cons hi
 have htk:(fin++[v]).take (i+1)=(fin++[v]).take i++[x]:=by rw[hx];exact List.take_succ_eq_append_getElem hi
 rw[← hx]
 obtain⟨m,hmm,sz,os,ow⟩:=P
 have hS:((fin++[v]).drop i++stk fs).reverse=((fin++[v]).drop (i+1)++stk fs).reverse++[x]:=by rw[hdr];simp
 have hxd:x ∉ (fin++[v]).drop (i+1)++stk fs:=by
  have h1:((fin++[v]).drop i++stk fs).Nodup:=by
   rw[← List.take_append_drop i (fin++[v]),List.append_assoc]at nd
   exact(List.nodup_append.1 nd).2.1
  rw[hdr,List.cons_append]at h1
  exact(List.nodup_cons.1 h1).1
 have m0:=m
 rw[hS]at m0
 obtain⟨gs,cap,rfl,h1,h2,h3,h4,m1⟩:=m0.pop
 clear m m0
 obtain⟨n,hn⟩:∃ n,n=((fin++[v]).drop (i+1)++stk fs).length:=⟨_,rfl⟩
 rw[List.length_reverse,← hn]at h1 h4 m1 os
 rw[List.length_reverse,← hn]
 have hbx:=hblk x hxm
 have hbv:=hblk v (by simp)
 obtain⟨w1,r1,m2,k1⟩:=m1.sto MP hbx (.bool false)
 have hfo:upd (fun u=>if s.vis u then some (Value.bool (decide (u∈(fin++[v]).drop i++stk fs))) else none) x (some (.bool false))=fun u=>if s.vis u then some (Value.bool (decide (u∈(fin++[v]).drop (i+1)++stk fs))) else none:=by
  funext u
  by_cases e:u=x
  · subst e
    rw[upd_same,if_pos (hvis u hxm),decide_eq_false hxd]
  · rw[upd_ne _ _ e]
    have hd:decide (u∈(fin++[v]).drop i++stk fs)=decide (u∈(fin++[v]).drop (i+1)++stk fs):=by
     refine decide_eq_decide.2 ?_
     rw[hdr,List.cons_append,List.mem_cons]
     exact⟨fun q=>q.resolve_left e,.inr⟩
    rw[hd]
 rw[hfo]at m2
 have s1:=k1.size
 have lt0:=MP.hi
 have c1:RowP w1 base2 cmp ((fin++[v]).take i):=hmm.kept k1 fun g e q=>by have:=(hmm.lt g e).1;omega
 have c2:RowP (w1.alloc (.cells #[fp x] 54)) base2 cmp ((fin++[v]).take i):=c1.kept (keptA (M:=fun _=>False)) (fun _ _ f=>f)
 obtain⟨cmp',w3,r3,c3,k3,-⟩:=c2.push (x:=x) (b:=w1.heap.size) (cell_of_cells (cs:=[fp x]) (heap_alloc_new w1 _) 0 rfl) (by simp only[List.length_take];omega) (by simp;omega) 118
 have m3:=(m2.alloc MP (.cells #[fp x] 54)).stay MP k3 fun q e=>by
  have:=(c2.lt q e).1
  refine⟨by omega,fun e2=>?_,fun e2=>?_⟩
  · have:=os q e2;omega
  · have:=ow q e2;omega
 have s3:=k3.size
 simp only[World.size_alloc]at s3
 have b3:∀ {y},FBlk W B y→FBlk w3 B y:=fun h=>h.kept m3.kept (fun _ _ f=>f)
 refine⟨gs,n,cap,w1,cmp',w3,rfl,h1,rfl,h3,h4,r1,r3,eqB (b3 hbx) (b3 hbv),m3,?_,by omega,?_,ow⟩
 · rw[htk];exact c3
 · intro g e
   exact os g e
end
theorem ul_mFR:Tryz.prog.underlying 129=some (.map 54 118):=by kernel_rfl
def frk(s:TS)(L:List Nat)(i:Nat):Nat→Option Value:=fun u=>if (if u∈L.take i then true else s.rc u)=true then some (.bool true) else none
theorem frk_zero(s:TS)(L:List Nat):frk s L 0=s.mR:=by
 funext u
 unfold frk TS.mR
 rw[if_neg (by simp:¬ u∈L.take 0)]
theorem frk_succ(s:TS)(L:List Nat){i:Nat}(hi:i<L.length):upd (frk s L i) L[i] (some (.bool true))=frk s L (i+1):=by
 funext u
 unfold frk
 rw[List.take_succ_eq_append_getElem hi]
 by_cases e:u=L[i]
 · subst e
   rw[upd_same,if_pos (List.mem_append.2 (.inr (List.mem_singleton.2 rfl))),if_pos rfl]
 · rw[upd_ne _ _ e]
   have:(u∈L.take i++[L[i]])↔u∈L.take i:=⟨fun q=>(List.mem_append.1 q).resolve_right fun h=>e (List.mem_singleton.1 h),fun q=>List.mem_append.2 (.inl q)⟩
   by_cases h:u∈L.take i
   · rw[if_pos h,if_pos (this.2 h)]
   · rw[if_neg h,if_neg fun q=>h (this.1 q)]
theorem frk_part(s:TS)(fin:List Nat)(v i:Nat)(hi:(fin++[v]).length≤i)(h:fin≠[]):frk s (fin++[v]) i=fun u=>if (if fin≠[]∧u∈fin++[v] then true else s.rc u)=true then some (.bool true) else none:=by
 funext u
 unfold frk
 rw[List.take_of_length_le hi]
 by_cases hu:u∈fin++[v]
 · rw[if_pos hu,if_pos (show fin≠[]∧u∈fin++[v] from ⟨h,hu⟩)]
 · rw[if_neg hu,if_neg (show ¬ (fin≠[]∧u∈fin++[v]) from fun q=>hu q.2)]
theorem mR_part(s:TS)(fin:List Nat)(v:Nat)(h:fin=[]):s.mR=fun u=>if (if fin≠[]∧u∈fin++[v] then true else s.rc u)=true then some (.bool true) else none:=by
 funext u
 unfold TS.mR
 rw[if_neg (show ¬ (fin≠[]∧u∈fin++[v]) from fun q=>q.1 h)]
section
variable {W:World} {B mi ml mo mr base base2:Nat} {nl:List Nat} {adj:Nat→List Nat} {s:TS} {v k:Nat} {fin:List Nat} {fs:List Fr} {vs vw:Value}
theorem PopR.end_{st cmp:Value}{wr:World}{i:Nat}(P:PopR W B mi ml mo mr base base2 s v fin fs vw i st cmp wr)(hi:i=fin.length+1) :
 RnM W B mi ml mo mr base s.mI s.mL (fun u=>if s.vis u then some (.bool (decide (u∈stk fs))) else none) s.mR (stk fs).reverse s.wk st vw wr∧RowP wr base2 cmp (fin++[v]):=by
 obtain⟨m,c,-,-,-⟩:=P
 subst hi
 rw[List.drop_of_length_le (by simp),List.nil_append]at m
 rw[List.take_of_length_le (by simp)]at c
 exact⟨m,c⟩
def MarkR(W:World)(B mi ml mo mr base base2:Nat)(s:TS)(fo:Nat→Option Value)(S L:List Nat)(i:Nat)(st vw cmp:Value)(wr:World):Prop :=
 RnM W B mi ml mo mr base s.mI s.mL fo (frk s L i) S s.wk st vw wr∧RowP wr base2 cmp L
theorem MarkR.step{fo:Nat→Option Value}{S L:List Nat}{i:Nat}{st cmp:Value}{wr:World}(Q:MarkR W B mi ml mo mr base base2 s fo S L i st vw cmp wr)(MP:MapsP W B mi ml mo mr base)(hbb:base≤base2)(hi:i<L.length)(hblk:∀ x∈L,FBlk W B x) :
 ∃ g c w1,cmp=.slice (some ⟨g,0,none⟩) L.length c∧g<wr.heap.size∧wr.cell? ⟨g,i,none⟩=some (fp L[i])∧(Instr.mapUpdate 86 (.map (some mr)) (fp L[i]) (.bool true)).run Tryz.prog wr=.ok () w1∧MarkR W B mi ml mo mr base base2 s fo S L (i+1) st vw cmp w1:=by
 obtain⟨m,c⟩:=Q
 obtain⟨g,cc,e,hg,hc⟩:=c.at hi
 obtain⟨w1,r1,m1,k1⟩:=m.str MP (hblk _ (List.getElem_mem hi)) (.bool true)
 rw[frk_succ s L hi]at m1
 have:=MP.hi
 exact⟨g,cc,w1,e,hg,hc,r1,m1,c.kept k1 fun q e h=>by have:=(c.lt q e).1;omega⟩
theorem after_pop{fo fr:Nat→Option Value}{S:List Nat}{st:Value}{wr:World}{g q cap:Nat}(H:RnM W B mi ml mo mr base s.mI s.mL fo fr S s.wk st (.slice (some ⟨g,0,none⟩) (q+1) cap) wr)(MP:MapsP W B mi ml mo mr base)(hf:s.fr=⟨v,k,fin⟩ :: fs)(hq:q=fs.length) :
 RnM W B mi ml mo mr base s.mI s.mL fo fr S (fs.map fun f=>(f.p,f.k)).reverse st (.slice (some ⟨g,0,none⟩) q cap) wr∧g<wr.heap.size∧q+1≤cap∧∀ f' fs',fs=f' :: fs'→q=fs'.length+1∧wr.cell? ⟨g,fs'.length*2,none⟩=some (fp f'.p):=by
 rw[wk_cons hf]at H
 obtain⟨g',cap',e,h1,h2,h3,-,-,-,hp,-⟩:=H.popw MP
 simp only[List.length_reverse,List.length_map,← hq]at e h1 hp
 simp only[Value.slice.injEq,Option.some.injEq,Addr.mk.injEq,and_true,true_and]at e
 obtain⟨rfl,rfl⟩:=e
 refine⟨hp,h3,h1,fun f' fs' e=>?_⟩
 subst e
 have e2:(List.map (fun f=>(f.p,f.k)) (f' :: fs')).reverse=(fs'.map fun f=>(f.p,f.k)).reverse++[(f'.p,f'.k)]:=by simp
 rw[e2]at hp
 obtain⟨g2,cap2,e,-,-,-,c0,-,-,-,-⟩:=hp.popw MP
 simp only[List.length_cons]at hq
 refine⟨hq,?_⟩
 simp only[Value.slice.injEq,Option.some.injEq,Addr.mk.injEq,and_true]at e
 obtain⟨rfl,-,-⟩:=e
 simpa using c0
end
section
variable {W:World} {B mi ml mo mr base:Nat} {nl:List Nat} {adj:Nat→List Nat} {s:TS} {v k:Nat} {fin:List Nat} {fs:List Fr} {vs vw:Value} {wr:World}
theorem RnI.drew(I:RnI W B mi ml mo mr base nl adj s vs vw wr)(MP:MapsP W B mi ml mo mr base)(n:Nat):RnI W B mi ml mo mr base nl adj s vs vw (wr.drewN n) :=
 ⟨I.inv,I.sub,I.mem.stay MP (M:=fun _=>False) (Kept.drewN _ _ _) (fun _ f=>f.elim),I.cnt,I.lows⟩
theorem RnI.top0(I:RnI W B mi ml mo mr base nl adj s vs vw wr)(MP:MapsP W B mi ml mo mr base)(hf:s.fr=⟨v,k,fin⟩ :: fs):∃ g cap,vw=.slice (some ⟨g,0,none⟩) (fs.length+1) cap:=by
 have H:=I.mem
 rw[wk_cons hf]at H
 obtain⟨g,cap,e,-⟩:=H.popw MP
 exact⟨g,cap,by rw[e];simp⟩
theorem RnI.top1{g cap q:Nat}(I:RnI W B mi ml mo mr base nl adj s vs (.slice (some ⟨g,0,none⟩) (q+1) cap) wr)(MP:MapsP W B mi ml mo mr base)(hf:s.fr=⟨v,k,fin⟩ :: fs)(hq:q=fs.length) :
 q+1≤cap∧g<wr.heap.size∧wr.cell? ⟨g,q*2,none⟩=some (fp v)∧wr.cell? ⟨g,q*2+1,none⟩=some (.int .i64 k)∧wr.frozen? ⟨g,q*2+1,none⟩=false ∧
  ∀ k:Nat,RnM W B mi ml mo mr base s.mI s.mL s.mO s.mR (stk s.fr).reverse ((fs.map fun f=>(f.p,f.k)).reverse++[(v,k)]) vs (.slice (some ⟨g,0,none⟩) (q+1) cap) (wr.setCell ⟨g,q*2+1,none⟩ (.int .i64 k)):=by
 have H:=I.mem
 rw[wk_cons hf]at H
 obtain⟨g2,cap2,e,h1,-,h2,h3,h4,h5,-,h6⟩:=H.popw MP
 simp only[Value.slice.injEq,Option.some.injEq,Addr.mk.injEq,and_true]at e
 obtain⟨rfl,-,rfl⟩:=e
 simp only[List.length_reverse,List.length_map,← hq]at h1 h3 h4 h5 h6
 exact⟨h1,h2,h3,h4,h5,h6⟩
end
def RnW(W:World)(B mi ml mo mr base:Nat)(nl:List Nat)(adj:Nat→List Nat)(V:Nat→Prop)(n vs vw:Value)(wr:World)(N:Nat):Prop :=
 ∃ s:TS,s.M adj nl=N∧n=.int .i64 s.n∧base≤wr.heap.size∧(∀ u,V u→s.vis u)∧RnI W B mi ml mo mr base nl adj s vs vw wr
theorem RnW.of{W:World}{B mi ml mo mr base:Nat}{nl:List Nat}{adj:Nat→List Nat}{V:Nat→Prop}{s1 s2:TS}{N:Nat}(hM:s1.M adj nl=N)(hV:∀ u,V u→s1.vis u){n:Int}(hn:n=s2.n){vs vw:Value}{wr:World}
 (h1:s2.M adj nl<s1.M adj nl) (h2:∀ u,s1.vis u→s2.vis u) (I:RnI W B mi ml mo mr base nl adj s2 vs vw wr):∃ N',N'<N∧RnW W B mi ml mo mr base nl adj V (.int .i64 n) vs vw wr N' :=
 ⟨_,hM▸h1,s2,rfl,by rw[hn],I.mem.size,fun u q=>h2 u (hV u q),I⟩
end Go.Proofs.YtleolbpibjnedaaGreat
