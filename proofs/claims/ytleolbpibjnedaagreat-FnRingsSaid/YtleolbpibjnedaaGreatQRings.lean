/-
 For every four lists of numbers laws.FnRings answers true, and its arguments read as they did: the functions of a file that gocognit reports as recursive are those that the reference finds to come back to themselves by calls. No condition.
-/
import Derived.Test.YtleolbpibjnedaaGreatQRgE
import Derived.Test.YtleolbpibjnedaaGreatQRc
import Derived.Test.YtleolbpibjnedaaGreatQSr
import Derived.Test.YtleolbpibjnedaaGreatQMkP
import Derived.Test.YtleolbpibjnedaaGreatQLsI
import Derived.Test.YtleolbpibjnedaaGreatRows
import Derived.WalkKit
import Derived.ProofKit
import Derived.OpenShut
import Derived.ShutString
import Derived.ChangeOld
import Derived.Below
set_option linter.unusedSimpArgs false
set_option linter.unusedVariables false
set_option maxRecDepth 100000
set_option maxHeartbeats 4000000
namespace Gc
open Go
def nmN:Nat→Str
 | 0=>sF
 | 1=>sG
 | 2=>sH
 | _=>sK
theorem nmN_is(i:Nat):isName (nmN i):=by
 unfold isName
 rcases i with _|_|_|i
 · exact .inl rfl
 · exact .inr (.inl rfl)
 · exact .inr (.inr (.inl rfl))
 · exact .inr (.inr (.inr rfl))
theorem nmN_inj:∀ i j,i<4→j<4→nmN i=nmN j→i=j:=by
 intro i j hi hj e
 rcases i with _ | _ | _ | _ | i<;>rcases j with _ | _ | _ | _ | j<;>first | rfl | omega | (exfalso;revert e;decide)
def flOf:Nat→List T→List (Str×N)
 | _,[]=>[]
 | i,t :: ts=>(nmN i,t.N 0) :: flOf (i+1) ts
theorem flOf_len:∀ (ts:List T) (i:Nat),(flOf i ts).length=ts.length
 | [],_=>rfl
 | _ :: ts,i=>by simp[flOf,flOf_len ts]
theorem flOf_snoc(t:T):∀ (ts:List T) (i:Nat),flOf i (ts++[t])=flOf i ts++[(nmN (i+ts.length),t.N 0)]
 | [],_=>rfl
 | x :: ts,i=>by
   simp only[List.cons_append,flOf,flOf_snoc t ts,List.length_cons]
   rw[show i+1+ts.length=i+(ts.length+1) by omega]
theorem flOf_get:∀ (ts:List T) (i k:Nat) (h:k<ts.length),(flOf i ts)[k]?=some (nmN (i+k),(ts[k]).N 0)
 | t :: ts,i,0,_=>rfl
 | t :: ts,i,k+1,h=>by
   simp only[flOf,List.getElem?_cons_succ,List.getElem_cons_succ]
   rw[flOf_get ts (i+1) k (by simpa using h),show i+1+k=i+(k+1) by omega]
 | [],_,_,h=>by simp at h
theorem flOf_mem:∀ (ts:List T) (i:Nat) (p:Str×N),p∈flOf i ts→∃ t∈ts,p.2=t.N 0
 | t :: ts,i,p,h=>by
   rcases List.mem_cons.1 h with rfl|h
   · exact⟨t,by simp,rfl⟩
   · obtain⟨t',h1,h2⟩:=flOf_mem ts (i+1) p h
     exact⟨t',by simp[h1],h2⟩
theorem flOf_cost:∀ (ts:List T) (i:Nat),(∀ t∈ts,(t.N 0).cost≤350)→(declsN (flOf i ts)).cost≤355*ts.length
 | [],_,_=>by simp[flOf,declsN,N.cost]
 | t :: ts,i,h=>by
   have h1:=h t (by simp)
   have h2:=flOf_cost ts (i+1) fun q hq=>h q (by simp[hq])
   have h3:(N.func (nmN i) (t.N 0)).cost=5+(t.N 0).cost:=by simp[Gc.N.func,Gc.N.part,Gc.N.four,Gc.N.name,Gc.N.ftype,Gc.N.three,Gc.N.one,Gc.N.none,Gc.N.block,Gc.N.list,co_,co_nil,co_cons];omega
   simp only[flOf,declsN,N.cost,List.length_cons]
   omega
def gBods:List T→G
 | []=>.nil
 | t :: ts=>.cons (.sl t.g .fin) (gBods ts)
theorem gBods_len:∀ ts,(gBods ts).len=ts.length
 | []=>rfl
 | _ :: ts=>by simp[gBods,G.len,gBods_len ts]
theorem gBods_isList:∀ ts,(gBods ts).isList
 | []=>trivial
 | _ :: ts=>gBods_isList ts
theorem gBods_snoc(t:T):∀ ts,(gBods ts).snoc (.sl t.g .fin)=gBods (ts++[t])
 | []=>rfl
 | _ :: ts=>by simp[gBods,G.snoc,gBods_snoc t ts]
theorem gRows_snoc(r:List Nat):∀ l,(gRows l).snoc (.sl (gInts r) .fin)=gRows (l++[r])
 | []=>rfl
 | _ :: l=>by simp[gRows,G.snoc,gRows_snoc r l]
theorem gDecls_len:∀ fl:List (Str×N),(declsN fl).g.len=fl.length
 | []=>rfl
 | _ :: fl=>by simp[declsN,N.g,G.len,gDecls_len fl]
theorem gDecls_snoc(p:Str×N):∀ fl:List (Str×N),(declsN fl).g.snoc (N.func p.1 p.2).g=(declsN (fl++[p])).g
 | []=>rfl
 | _ :: fl=>by simp[declsN,N.g,G.snoc,gDecls_snoc p fl]
def rowOf(t:T):List Nat:=(List.range 4).filter fun j=>t.calls (nmN j)
theorem rowOf_len(t:T):(rowOf t).length≤4:=Nat.le_trans (List.length_filter_le _ _) (by simp)
theorem rowOf_lt(t:T):∀ x∈rowOf t,x<4:=fun x hx=>List.mem_range.1 (List.mem_filter.1 hx).1
theorem filt_succ(t:T)(j:Nat):((List.range (j+1)).filter fun j=>t.calls (nmN j))=(List.range j).filter (fun j=>t.calls (nmN j))++(if t.calls (nmN j)=true then [j] else []):=by
 rw[List.range_succ,List.filter_append]
 congr 1
 cases h:t.calls (nmN j)<;>simp[h]
theorem bods_at{w:World}{D:Nat→Prop}:∀ {ts:List T} {a:Option Addr} {n c k:Nat},Rep w D (gBods ts) [.slice a n c]→(h:k<ts.length) →
 ∃ g o v,a=some ⟨g,o,none⟩∧g<w.heap.size∧w.cell? ⟨g,o+k,none⟩=some v∧Rep w D (ts[k]).g [v]
 | r :: L,a,n,c,k,hr,h=>by
   obtain⟨g,o,n',c',hs,e,⟨hD,hg⟩,hx,hc,ht⟩:=hr
   obtain⟨v,_,rfl,hv,rfl⟩:=hx
   simp only[List.cons.injEq,Value.slice.injEq,and_true]at e
   obtain⟨rfl,rfl,rfl⟩:=e
   cases k with
   | zero=>exact⟨g,o,v,rfl,hg,by simpa using hc 0 _ rfl,hv⟩
   | succ k =>
     obtain⟨g',o',v',e,hg',h1,h2⟩:=bods_at (k:=k) ht (by simp at h;omega)
     simp only[Option.some.injEq,Addr.mk.injEq,and_true]at e
     obtain⟨rfl,rfl⟩:=e
     refine⟨g,o,v',rfl,hg,?_,h2⟩
     simp only[List.length_cons,List.length_nil]at h1
     rw[show o+(k+1)=o+(0+1)+k by omega]
     exact h1
 | [],_,_,_,_,_,h=>by simp at h
theorem OwnL.imp{w:World}{D D':Nat→Prop}{base E size:Nat}{v:Value}{l:G}(h:OwnL w D base E size v l)(hD:∀ b,b<w.heap.size→D b→D' b):OwnL w D' base E size v l:=by
 obtain⟨xs,h1,h2⟩:=h
 exact⟨xs,h1,h2.imp fun b hb hq=>⟨hD b hb hq.1,hq.2⟩⟩
end Gc
namespace Go.Proofs.YtleolbpibjnedaaGreat
open Go Go.RowKit Gc
theorem ul_ssI:Tryz.prog.underlying 47=some (.slice 48):=by kernel_rfl
theorem info_sI:(Tryz.prog.info? 48).map (fun i=>(i.zero,i.size,i.bytes))=some (some (.slice none 0 0),1,24):=by kernel_rfl
structure LrM (w0 W1:World) (P:Nat→Prop) (ts:List T) (fl:List (Str×N)) (bv kv:Value) (wr:World):Prop where
 bod:OwnL wr (fun b=>w0.heap.size≤b∧some b≠kv.ownBlock) w0.heap.size 23 1 bv (gBods ts)
 kid:OwnL wr (fun b=>w0.heap.size≤b∧some b≠bv.ownBlock) w0.heap.size 30 4 kv (declsN fl).g
 sep:∀ g h,bv.ownBlock=some g→kv.ownBlock=some h→g≠h
 kept:Kept (fun _=>False) w0 wr
 new:∀ q,W1.heap.size≤q→P q
 own1:∀ g,bv.ownBlock=some g→P g
 own2:∀ g,kv.ownBlock=some g→P g
 kept2:Kept P W1 wr
theorem LrM.up{w0 W1:World}{P:Nat→Prop}{ts:List T}{fl:List (Str×N)}{bv kv:Value}{wr w':World}(I:LrM w0 W1 P ts fl bv kv wr)(K:Kept (fun _=>False) wr w'):LrM w0 W1 P ts fl bv kv w' :=
 ⟨I.bod.kept K (fun _ _ f=>f) (fun _ _ f=>f),I.kid.kept K (fun _ _ f=>f) (fun _ _ f=>f),I.sep,I.kept.trans K,I.new,I.own1,I.own2,I.kept2.trans (K.mono fun _ _ f=>f.elim)⟩
theorem LrM.addB{w0 W1:World}{P:Nat→Prop}{ts:List T}{fl:List (Str×N)}{bv kv:Value}{wr w1:World}(I:LrM w0 W1 P ts fl bv kv wr)(K:Kept (fun _=>False) wr w1){t:T}{a:Option Addr}{n c:Nat}(R:Rep w1 (fun b=>wr.heap.size≤b) t.g [.slice a n c])(hn:ts.length≤100) :
 ∃ bv' w3,(Builtin.append_ #[44,44] 44 #[bv,.slice (some ⟨w1.heap.size,0,none⟩) 1 1]).run Tryz.prog (w1.alloc (.cells #[.slice a n c] 23))=.ok bv' w3∧LrM w0 W1 P (ts++[t]) fl bv' kv w3∧Rep w3 (fun b=>wr.heap.size≤b) t.g [.slice a n c]:=by
 obtain⟨i0,hi,hz0,hz1,hz2⟩:=info_parts info_sS
 have kA:Kept (fun _=>False) w1 (w1.alloc (.cells #[.slice a n c] 23)):=keptA
 have I2:=(I.up K).up kA
 have s0:=I.kept.size
 have s1:=K.size
 have hkl:=I.kid.lt
 have hbl:=I.bod.lt
 have R2:=R.kept kA (fun _ _ f=>f)
 obtain⟨bv',w3,hr,ho,hk,hown,-⟩:=run_append_one (P:=Tryz.prog) 44 44 i0 _ 24 ul_ssS hi hz0 hz1 hz2 rfl I2.bod ⟨w1.heap.size,0,none⟩ 1 (.sl t.g .fin) [.slice a n c] rfl (new_cells w1 _ _) (fun u hu=>by rw[List.mem_singleton.1 hu];rfl)
  ⟨_,[],rfl,R2.imp (fun b _ hb=>⟨⟨by omega,fun e=>by have:=hkl b e.symm;omega⟩,fun e=>by have:=hbl b e.symm;omega⟩),rfl⟩ (by rw[gBods_len];omega) (by omega) (by simp;omega)
 have s2:(w1.alloc (.cells #[.slice a n c] 23)).heap.size=w1.heap.size+1:=by simp
 rw[s2]at hown
 refine⟨bv',w3,hr,⟨by rw[← gBods_snoc];exact ho,?_,fun g h e1 e2=>?_,?_,I.new,fun g e=>?_,I.own2,I2.kept2.trans (hk.mono fun b _ e=>I.own1 b e.symm)⟩,R2.kept hk fun b hb e=>by have:=hbl b e.symm;omega⟩
 · refine(I2.kid.imp (D':=fun b=>(w0.heap.size≤b∧some b≠bv'.ownBlock)∧some b≠bv.ownBlock) fun b hb h=>⟨⟨h.1,fun e=>?_⟩,h.2⟩).kept hk (fun g e q=>I.sep g g q.symm e rfl) (fun b hb q=>hb.2 q) |>.imp fun b _ h=>h.1
   rcases hown with q|q
   · exact h.2 (by rw[e,q])
   · rw[q]at e
     simp only[Option.some.injEq]at e
     omega
 · rcases hown with q|q
   · exact I.sep g h (q▸e1) e2
   · rw[q]at e1
     simp only[Option.some.injEq]at e1
     have:=hkl h e2
     omega
 · exact((I2.kept.mono (M':=fun b=>False∨w0.heap.size≤b) fun _ _ f=>f.elim).trans (hk.mono fun b _ e=>.inr (hbl b e.symm).1)).fresh (Nat.le_refl _)
 · rcases hown with q|q
   · exact I.own1 g (q▸e)
   · rw[q]at e
     simp only[Option.some.injEq]at e
     exact I.new g (by have:=I.kept2.size;omega)
theorem LrM.addK{w0 W1:World}{P:Nat→Prop}{ts:List T}{fl:List (Str×N)}{bv kv:Value}{wr w1:World}(I:LrM w0 W1 P ts fl bv kv wr)(K:Kept (fun _=>False) wr w1){nm:Str}{l:N}{kd tx:Str}{i:Int}{a:Option Addr}{n c:Nat}(R:Rep w1 (fun b=>wr.heap.size≤b) (N.func nm l).g [.string kd,.string tx,.int .i64 i,.slice a n c])(hn:fl.length≤100) :
 ∃ kv' w3,(Builtin.append_ #[28,28] 28 #[kv,.slice (some ⟨w1.heap.size,0,none⟩) 1 1]).run Tryz.prog (w1.alloc (.cells #[.string kd,.string tx,.int .i64 i,.slice a n c] 30))=.ok kv' w3∧LrM w0 W1 P ts (fl++[(nm,l)]) bv kv' w3:=by
 obtain⟨i0,hi,hz0,hz1,hz2⟩:=info_parts info_N
 have kA:Kept (fun _=>False) w1 (w1.alloc (.cells #[.string kd,.string tx,.int .i64 i,.slice a n c] 30)):=keptA
 have I2:=(I.up K).up kA
 have s0:=I.kept.size
 have s1:=K.size
 have hkl:=I.kid.lt
 have hbl:=I.bod.lt
 have R2:=R.kept kA (fun _ _ f=>f)
 obtain⟨kv',w3,hr,ho,hk,hown,-⟩:=run_append_one (P:=Tryz.prog) 28 28 i0 _ 64 ul_sN hi hz0 hz1 hz2 rfl I2.kid ⟨w1.heap.size,0,none⟩ 1 (N.func nm l).g [.string kd,.string tx,.int .i64 i,.slice a n c] rfl (new_cells w1 _ _) (fun u hu=>by simp at hu;rcases hu with rfl | rfl | rfl | rfl<;>rfl)
  (R2.imp (fun b _ hb=>⟨⟨by omega,fun e=>by have:=hbl b e.symm;omega⟩,fun e=>by have:=hkl b e.symm;omega⟩)) (by rw[gDecls_len];omega) (by omega) (by simp;omega)
 have s2:(w1.alloc (.cells #[.string kd,.string tx,.int .i64 i,.slice a n c] 30)).heap.size=w1.heap.size+1:=by simp
 rw[s2]at hown
 refine⟨kv',w3,hr,⟨?_,by rw[← gDecls_snoc];exact ho,fun g h e1 e2=>?_,?_,I.new,I.own1,fun g e=>?_,I2.kept2.trans (hk.mono fun b _ e=>I.own2 b e.symm)⟩⟩
 · refine(I2.bod.imp (D':=fun b=>(w0.heap.size≤b∧some b≠kv'.ownBlock)∧some b≠kv.ownBlock) fun b hb h=>⟨⟨h.1,fun e=>?_⟩,h.2⟩).kept hk (fun g e q=>I.sep g g e q.symm rfl) (fun b hb q=>hb.2 q) |>.imp fun b _ h=>h.1
   rcases hown with q|q
   · exact h.2 (by rw[e,q])
   · rw[q]at e
     simp only[Option.some.injEq]at e
     omega
 · rcases hown with q|q
   · exact I.sep g h e1 (q▸e2)
   · rw[q]at e2
     simp only[Option.some.injEq]at e2
     have:=hbl g e1
     omega
 · exact((I2.kept.mono (M':=fun b=>False∨w0.heap.size≤b) fun _ _ f=>f.elim).trans (hk.mono fun b _ e=>.inr (hkl b e.symm).1)).fresh (Nat.le_refl _)
 · rcases hown with q|q
   · exact I.own2 g (q▸e)
   · rw[q]at e
     simp only[Option.some.injEq]at e
     exact I.new g (by have:=I.kept2.size;omega)
def OkT(t:T):Prop:=W false .Ss t∧t.cost≤350∧t.deep≤35
theorem OkT.n{t:T}(h:OkT t):V .Ss (t.N 0)∧(t.N 0).cost≤350∧(t.N 0).deep≤35:=by
 have hV:=good_V h.1
 have hm:=hV.2
 simp only[]at hm
 have h2:=h.2
 exact⟨hV.1,by omega,by omega⟩
theorem fl_ok2{ts:List T}(h:∀ t∈ts,OkT t)(hl:ts.length=4):FlOk2 (flOf 0 ts) where
 good:=fun p hp=>by
  obtain⟨t,ht,e⟩:=flOf_mem ts 0 p hp
  have:=(h t ht).n
  rw[e]
  exact⟨this.1,by omega⟩
 cost:=by
  have:=flOf_cost ts 0 fun t ht=>(h t ht).n.2.1
  omega
 deep:=fun p hp=>by
  obtain⟨t,ht,e⟩:=flOf_mem ts 0 p hp
  have h1:=(h t ht).n.2.2
  have:(N.func p.1 p.2).deep≤4+p.2.deep:=by simp[Gc.N.func,Gc.N.part,Gc.N.four,Gc.N.name,Gc.N.ftype,Gc.N.three,Gc.N.one,Gc.N.none,Gc.N.block,Gc.N.list,de_,de_nil,de_cons];omega
  rw[e]at this
  rw[e]
  omega
 few:=by rw[flOf_len];omega
theorem fl_nm{ts:List T}{k:Nat}(hk:k<ts.length):nmAt (flOf 0 ts) k=nmN k:=by
 unfold nmAt
 rw[flOf_get ts 0 k hk,Nat.zero_add]
theorem fl_ns{ts:List T}{k:Nat}(hk:k<ts.length):nsAt (flOf 0 ts) k=((ts[k]).N 0).names:=by
 unfold nsAt
 rw[flOf_get ts 0 k hk]
theorem fl_ok3{ts:List T}(h:∀ t∈ts,OkT t)(hl:ts.length=4):FlOk3 (flOf 0 ts) where
 good:=(fl_ok2 h hl).good
 names:=fun p hp=>by
  obtain⟨t,ht,e⟩:=flOf_mem ts 0 p hp
  have h1:=(h t ht).n.2.1
  have h2:=names_cost (t.N 0)
  rw[e]
  omega
 inj:=fun i j hi hj e=>by
  rw[flOf_len]at hi hj
  rw[fl_nm hi,fl_nm hj]at e
  exact nmN_inj i j (by omega) (by omega) e
 size:=fun k=>by
  by_cases hk:k<ts.length
  · rw[fl_nm hk]
    exact isName_size (nmN_is k)
  · unfold nmAt
    rw[List.getElem?_eq_none (by rw[flOf_len];omega)]
    decide
 some_:=by rw[flOf_len];omega
 few:=by rw[flOf_len];omega
theorem rows_adj{ts:List T}(h:∀ t∈ts,OkT t)(hl:ts.length=4):∀ i,i<(flOf 0 ts).length→∀ j,j∈adjL (ts.map rowOf) i↔j<(flOf 0 ts).length∧nmAt (flOf 0 ts) j∈nsAt (flOf 0 ts) i:=fun i hi j=>by
 rw[flOf_len]at hi ⊢
 have e:adjL (ts.map rowOf) i=rowOf ts[i]:=by simp[adjL,List.getElem?_eq_getElem hi]
 rw[e,fl_ns hi]
 unfold rowOf
 rw[List.mem_filter,List.mem_range]
 constructor
 · rintro ⟨h1,h2⟩
   have hj:j<ts.length:=by omega
   refine⟨hj,?_⟩
   rw[fl_nm hj]
   exact(names_calls (nmN_is j) (h _ (List.getElem_mem hi)).1).2 h2
 · rintro ⟨h1,h2⟩
   rw[fl_nm h1]at h2
   exact⟨by omega,(names_calls (nmN_is j) (h _ (List.getElem_mem hi)).1).1 h2⟩
def argK(v0 v1 v2 v3:Value):Nat→Value
 | 0=>v0
 | 1=>v1
 | 2=>v2
 | _=>v3
theorem nums_kept{w w':World}{v:Value}(h:Nums0 w v)(K:Kept (fun _=>False) w w'):Nums0 w' v:=by
 rcases h with ⟨a,cap,rfl⟩|⟨g,o,len,cap,rfl,h0,h1,hc⟩
 · exact .inl ⟨a,cap,rfl⟩
 · exact .inr ⟨g,o,len,cap,rfl,h0,h1,fun k hk=>let ⟨n,hn,h⟩:=hc k hk;⟨n,hn,K.cell h (fun f=>f)⟩⟩
def RingsTrue(w:World)(e:Ending)(w':World):Prop:=e=.returned (.bool true)∧Kept (fun _=>False) w w'
theorem law_rings_long(a0 a1 a2 a3:Option Addr)(l0 c0 l1 c1 l2 c2 l3 c3:Nat)(w:World)(h:(2147483647:Int)<l0∨(2147483647:Int)<l1∨(2147483647:Int)<l2∨(2147483647:Int)<l3) :
 Calls Tryz.prog 6 #[.slice a0 l0 c0,.slice a1 l1 c1,.slice a2 l2 c2,.slice a3 l3 c3] w (RingsTrue w):=by
 by_cases h0:(2147483647:Int)<l0
 · go_enter Tryz.func6,Tryz.ntmps6
   go_wp2_with fail
   go_ret
   exact⟨rfl,Kept.refl _ _⟩
 have h0':=decide_eq_false h0
 by_cases h1:(2147483647:Int)<l1
 · go_enter Tryz.func6,Tryz.ntmps6
   go_wp2_with fail
   go_ret
   exact⟨rfl,Kept.refl _ _⟩
 have h1':=decide_eq_false h1
 by_cases h2:(2147483647:Int)<l2
 · go_enter Tryz.func6,Tryz.ntmps6
   go_wp2_with fail
   go_ret
   exact⟨rfl,Kept.refl _ _⟩
 have h2':=decide_eq_false h2
 have h3:(2147483647:Int)<l3:=by omega
 go_enter Tryz.func6,Tryz.ntmps6
 go_wp2_with fail
 go_ret
 exact⟨rfl,Kept.refl _ _⟩
theorem law_rings(a0 a1 a2 a3:Option Addr)(l0 c0 l1 c1 l2 c2 l3 c3:Nat)(w:World)(h0:¬ (2147483647:Int)<l0)(h1:¬ (2147483647:Int)<l1)(h2:¬ (2147483647:Int)<l2)(h3:¬ (2147483647:Int)<l3)
 (hN:∀ k a l c,argK (.slice a0 l0 c0) (.slice a1 l1 c1) (.slice a2 l2 c2) (.slice a3 l3 c3) k=.slice a l c→l≤100→Nums0 w (.slice a l c)) :
 Calls Tryz.prog 6 #[.slice a0 l0 c0,.slice a1 l1 c1,.slice a2 l2 c2,.slice a3 l3 c3] w (RingsTrue w):=by
 have h0':=decide_eq_false h0
 have h1':=decide_eq_false h1
 have h2':=decide_eq_false h2
 have h3':=decide_eq_false h3
 have HN:=Lib.hid hN
 clear hN
 go_enter Tryz.func6,Tryz.ntmps6
 go_wp2_with fail
 obtain⟨W1,hW1⟩:∃ W1,W1=((((w.alloc (.cells #[] 23)).alloc (.cells #[] 30)).alloc (.cells #[.string ⟨#[102]⟩,.string ⟨#[103]⟩,.string ⟨#[104]⟩,.string ⟨#[107]⟩] 9)).alloc (.cells #[.slice a0 l0 c0,.slice a1 l1 c1,.slice a2 l2 c2,.slice a3 l3 c3] 22)):=⟨_,rfl⟩
 have z1:W1.heap.size=w.heap.size+4:=by rw[hW1];simp
 have K1:Kept (fun _=>False) w W1:=by rw[hW1];exact((keptA.trans keptA).trans keptA).trans keptA
 have on:W1.heap[w.heap.size+1+1]?=some (.cells #[.string ⟨#[102]⟩,.string ⟨#[103]⟩,.string ⟨#[104]⟩,.string ⟨#[107]⟩] 9 (0,0)):=by
  rw[hW1];exact(keptA (M:=fun _=>False)).obj (heap3_2 w _ _ _) (fun f=>f)
 have ol:W1.heap[w.heap.size+1+1+1]?=some (.cells #[.slice a0 l0 c0,.slice a1 l1 c1,.slice a2 l2 c2,.slice a3 l3 c3] 22 (0,0)):=by
  rw[hW1];exact heap_new_at (by simp) _
 have hnm:∀ k,k<4→W1.cell? ⟨w.heap.size+1+1,k,none⟩=some (.string (nmN k)):=fun k hk=>by
  rcases k with _|_|_|_|k
  · exact cell_of_cells (cs:=[_,_,_,_]) on 0 rfl
  · exact cell_of_cells (cs:=[_,_,_,_]) on 1 rfl
  · exact cell_of_cells (cs:=[_,_,_,_]) on 2 rfl
  · exact cell_of_cells (cs:=[_,_,_,_]) on 3 rfl
  · omega
 have hls:∀ k,k<4→W1.cell? ⟨w.heap.size+1+1+1,k,none⟩=some (argK (.slice a0 l0 c0) (.slice a1 l1 c1) (.slice a2 l2 c2) (.slice a3 l3 c3) k):=fun k hk=>by
  rcases k with _|_|_|_|k
  · exact cell_of_cells (cs:=[_,_,_,_]) ol 0 rfl
  · exact cell_of_cells (cs:=[_,_,_,_]) ol 1 rfl
  · exact cell_of_cells (cs:=[_,_,_,_]) ol 2 rfl
  · exact cell_of_cells (cs:=[_,_,_,_]) ol 3 rfl
  · omega
 have hak:∀ k,∃ a l c,argK (.slice a0 l0 c0) (.slice a1 l1 c1) (.slice a2 l2 c2) (.slice a3 l3 c3) k=.slice a l c:=fun k=>by
  rcases k with _|_|_|k<;>exact⟨_,_,_,rfl⟩
 have I0:LrM w W1 (fun q=>q=w.heap.size∨q=w.heap.size+1∨W1.heap.size≤q) [] [] (.slice (some ⟨w.heap.size,0,none⟩) 0 0) (.slice (some ⟨w.heap.size+1,0,none⟩) 0 0) W1:=by
  have k3:∀ {o1 o2:Obj} {w0:World},Kept (fun _=>False) w0 ((w0.alloc o1).alloc o2):=keptA.trans keptA
  refine⟨?_,?_,fun g h e1 e2=>?_,K1,fun q hq=>.inr (.inr hq),fun g e=>?_,fun g e=>?_,Kept.refl _ _⟩
  · have h:OwnL (w.alloc (.cells #[] 23)) (fun b=>w.heap.size≤b∧some b≠(Value.slice (some ⟨w.heap.size+1,0,none⟩) 0 0).ownBlock) w.heap.size 23 1 (.slice (some ⟨w.heap.size,0,none⟩) 0 0) (gBods []):=⟨[],World.ownsRow_made _ #[] 0 (Nat.le_refl _) (Nat.zero_le _) rfl,rfl⟩
    rw[hW1]
    exact h.kept (k3.trans keptA) (fun _ _ f=>f) (fun _ _ f=>f)
  · have h:OwnL ((w.alloc (.cells #[] 23)).alloc (.cells #[] 30)) (fun b=>w.heap.size≤b∧some b≠(Value.slice (some ⟨w.heap.size,0,none⟩) 0 0).ownBlock) w.heap.size 30 4 (.slice (some ⟨w.heap.size+1,0,none⟩) 0 0) (declsN []).g:=by
     rw[show w.heap.size+1=(w.alloc (.cells #[] 23)).heap.size by simp]
     exact⟨[],World.ownsRow_made _ #[] 0 (by simp) (Nat.zero_le _) rfl,rfl⟩
    rw[hW1]
    exact h.kept k3 (fun _ _ f=>f) (fun _ _ f=>f)
  · simp only[Value.ownBlock,Option.some.injEq]at e1 e2
    omega
  · simp only[Value.ownBlock,Option.some.injEq]at e
    exact .inl e.symm
  · simp only[Value.ownBlock,Option.some.injEq]at e
    exact .inr (.inl e.symm)
 have Hnm:=Lib.hid hnm
 have Hls:=Lib.hid hls
 have Hak:=Lib.hid hak
 have HI0:=Lib.hid I0
 rw[← hW1]
 clear hW1 on ol hnm hls hak I0
 go_loopw [9,10,53] (fun bv kv t wr=>∃ (k:Nat) (ts:List T),t=.int .i64 k∧k≤4∧RowKit.Hid (ts.length=k∧(∀ t∈ts,OkT t)∧LrM w W1 (fun q=>q=w.heap.size∨q=w.heap.size+1∨W1.heap.size≤q) ts (flOf 0 ts) bv kv wr)) (fun _ _ t _=>(4-intOf t).toNat)
 case atStart=>exact⟨0,[],rfl,by omega,Lib.hid ⟨rfl,(fun t h=>by cases h),HI0.out⟩⟩
 case round =>
  clear HI0
  obtain⟨k,ts,rfl,hk,HI⟩:=hrel
  obtain⟨htl,hok,I⟩:=HI.out
  have s0:=I.kept.size
  have s1:=I.kept2.size
  have hnb:∀ (i:Nat),¬ ((⟨w.heap.size+1+1,i,none⟩:Addr).block=w.heap.size∨(⟨w.heap.size+1+1,i,none⟩:Addr).block=w.heap.size+1∨W1.heap.size≤(⟨w.heap.size+1+1,i,none⟩:Addr).block):=fun i h=>by simp only[]at h;omega
  by_cases hlt:(k:Int)<4
  · have hkl:k<4:=by omega
    have hc:=I.kept2.cell (Hls.out k hkl) (fun h=>by simp only[]at h;omega)
    obtain⟨aa,ll,cc,ea⟩:=Hak.out k
    rw[ea]at hc
    have zlb:w.heap.size+1+1+1<wr.heap.size:=by omega
    by_cases hl:(100:Int)<ll
    · have K9:=I.kept
      clear I
      go_wp2_with fail
      go_ret
      exact⟨rfl,K9⟩
    · have hnums:=nums_kept (HN.out k aa ll cc ea (by omega)) I.kept
      have HB:=Lib.hid (bodyUpTo_any wr (.slice aa ll cc) false 12 (by omega) rfl hnums 12 rfl)
      have HIm:=Lib.hid I
      have Hok:=Lib.hid hok
      have Htl:=Lib.hid htl
      have Hnb:=Lib.hid hnb
      clear I hok htl hnb hnums HI ea
      go_wp2_with fail
      refine HB.out.mono ?_
      rintro e w1 ⟨t,a1,n1,c1,rfl,GB,hcost⟩
      obtain⟨bv',w3,r3,I3,R3⟩:=HIm.out.addB GB.kept GB.rep (by have:=Htl.out;omega)
      have s3:=I3.kept2.size
      have hcn:=I3.kept2.cell (Hnm.out k hkl) (Hnb.out k)
      have zn3:w.heap.size+1+1<w3.heap.size:=by omega
      have HF:=Lib.hid (func_any (nmN k) t GB.wf (by omega) w3 _ a1 n1 c1 R3)
      have hokt:OkT t:=⟨GB.wf,by omega,GB.deep⟩
      have Hokt:=Lib.hid hokt
      have HI3:=Lib.hid I3
      clear GB I3 R3 hokt
      go_upto_region 13 with (at_builtin;go_must (refine wpList_append_done rfl (.tmp 63) (.tmp 65) 44 rfl rfl rfl r3 ?_))
      go_wp2_with fail
      refine HF.out.mono ?_
      rintro e w4 ⟨kd,tx,i,a2,n2,c2,rfl,R4,K4⟩
      obtain⟨kv',w5,r5,I5⟩:=HI3.out.addK K4 R4 (by rw[flOf_len];have:=Htl.out;omega)
      have I6:LrM w W1 (fun q=>q=w.heap.size∨q=w.heap.size+1∨W1.heap.size≤q) (ts++[t]) (flOf 0 (ts++[t])) bv' kv' w5:=by
       rw[flOf_snoc,Nat.zero_add,Htl.out]
       exact I5
      have HI6:=Lib.hid I6
      clear R4 I5 I6
      go_wp2_with (at_builtin;go_must (refine wpList_append_done rfl (.tmp 67) (.tmp 74) 28 rfl rfl rfl r5 ?_))
      go_roundw
      · refine⟨k+1,ts++[t],by go_num,by omega,Lib.hid ⟨by rw[List.length_append,Htl.out];rfl,fun x hx=>?_,HI6.out⟩⟩
        rcases List.mem_append.1 hx with hx|hx
        · exact Hok.out x hx
        · rw[List.mem_singleton.1 hx];exact Hokt.out
      · simp[intOf];omega
  · have hk4:k=4:=by omega
    subst hk4
    have hRb:Rep wr (fun b=>w.heap.size≤b) (gBods ts) [u9]:=(I.bod.imp (fun b _ h=>h.1)).rep (fun b hb _=>hb)
    have hRk:Rep wr (fun b=>w.heap.size≤b) (declsN (flOf 0 ts)).g [u10]:=(I.kid.imp (fun b _ h=>h.1)).rep (fun b hb _=>hb)
    obtain⟨bg,bn,bc,rfl,hbn⟩:=list_val (gBods_isList ts) hRb
    rw[gBods_len,htl]at hbn
    subst hbn
    obtain⟨kg,kn,kc,rfl,hkn⟩:=list_val (N.g_isList _ (declsN_isList _)) hRk
    rw[gDecls_len,flOf_len,htl]at hkn
    subst hkn
    have hcn:=fun j hj=>I.kept2.cell (Hnm.out j hj) (hnb j)
    have znb:w.heap.size+1+1<wr.heap.size:=by omega
    have HK:=Lib.hid I.kept
    have HRb:=Lib.hid hRb
    have HRk:=Lib.hid hRk
    have Hcn:=Lib.hid hcn
    have Hok:=Lib.hid hok
    have Htl:=Lib.hid htl
    obtain⟨i0,hi,hz0,hz1,hz2⟩:=info_parts info_I
    obtain⟨j0,hj,hy0,hy1,hy2⟩:=info_parts info_sI
    clear I hok htl hnb HI hRb hRk hcn
    go_wp2_with fail
    obtain⟨wo,rfl⟩:∃ wo:World,wo=wr:=⟨_,rfl⟩
    go_loopw [15,80] (fun cv t wx=>∃ (k:Nat) (ca:Option Addr) (cc:Nat),cv=.slice ca k cc∧t=.int .i64 k∧k≤4∧RowKit.Hid (OwnL wx (fun b=>wo.heap.size≤b) wo.heap.size 48 1 (.slice ca k cc) (gRows ((ts.take k).map rowOf))∧Kept (fun _=>False) wo wx)) (fun _ t _=>(4-intOf t).toNat)
    case atStart=>exact⟨0,_,_,rfl,rfl,by omega,Lib.hid ⟨⟨[],World.ownsRow_made _ #[] 0 (Nat.le_refl _) (Nat.zero_le _) rfl,rfl⟩,keptA⟩⟩
    case round =>
     obtain⟨k,ca,cc,rfl,rfl,hk,HO⟩:=hrel
     have K:=HO.out.2
     have sK:=K.size
     by_cases hlt:(k:Int)<4
     · have hkt:k<ts.length:=by have:=Htl.out;omega
       obtain⟨g,o,v,rfl,hg,hc,hR⟩:=bods_at (k:=k) (HRb.out.kept K (fun _ _ f=>f)) hkt
       obtain⟨t,ht⟩:∃ t,t=ts[k]:=⟨_,rfl⟩
       have hokt:OkT t:=by rw[ht];exact Hok.out _ (List.getElem_mem hkt)
       rw[← ht]at hR
       obtain⟨ta,tn,tc,rfl,-⟩:=list_val (T.g_isList t (hokt.1.list.resolve_left (by simp))) hR
       have HR:=Lib.hid hR
       have Hokt:=Lib.hid hokt
       have Ht:=Lib.hid ht
       clear hR hokt ht
       go_wp2_with fail
       obtain⟨wi,rfl⟩:∃ wi:World,wi=wr:=⟨_,rfl⟩
       go_loopw [18,87] (fun lv t' wx=>∃ (j:Nat) (la:Option Addr) (ln lc:Nat),lv=.slice la ln lc∧t'=.int .i64 j∧j≤4∧RowKit.Hid (ln=((List.range j).filter fun j=>t.calls (nmN j)).length∧OwnL wx (fun _=>False) wi.heap.size 3 1 (.slice la ln lc) (gInts ((List.range j).filter fun j=>t.calls (nmN j)))∧Kept (fun _=>False) wi wx)) (fun _ t _=>(4-intOf t).toNat)
       case atStart=>exact⟨0,_,_,_,rfl,rfl,by omega,Lib.hid ⟨rfl,⟨[],World.ownsRow_made _ #[] 0 (Nat.le_refl _) (Nat.zero_le _) rfl,rfl⟩,keptA⟩⟩
       case round =>
        obtain⟨j,la,ln,lc,rfl,rfl,hj4,HL⟩:=hrel
        have Kj:=HL.out.2.2
        have sKj:=Kj.size
        by_cases hltj:(j:Int)<4
        · have hcj:=Kj.cell (K.cell (Hcn.out j (by omega)) (fun f=>f)) (fun f=>f)
          have hz:w.heap.size+1+1<wr.heap.size:=by omega
          have HS:=Lib.hid ((spec_calls (nmN j) Hokt.out.1 (by have:=Hokt.out.2.1;omega)) wr _ ta tn tc (HR.out.kept Kj (fun _ _ f=>f)))
          obtain⟨nm,hnm⟩:∃ nm,nm=nmN j:=⟨_,rfl⟩
          obtain⟨bb,hbb⟩:∃ bb,bb=t.calls (nmN j):=⟨_,rfl⟩
          have es:((List.range (j+1)).filter fun j=>t.calls (nmN j))=(List.range j).filter (fun j=>t.calls (nmN j))++(if bb=true then [j] else []):=by
           rw[hbb]
           exact filt_succ t j
          rw[← hbb,← hnm]at HS
          rw[← hnm]at hcj
          have Hes:=Lib.hid es
          have hln:ln≤4:=by
           rw[HL.out.1]
           exact Nat.le_trans (List.length_filter_le _ _) (by simp;omega)
          clear es hnm hbb
          go_wp2_with fail
          refine HS.out.mono ?_
          rintro e w2 ⟨rfl,K2⟩
          cases bb with
          | false =>
            have HL2:=Lib.hid (HL.out.2.1.kept K2 (fun _ _ f=>f) (fun _ f=>f.elim))
            go_wp2_with fail
            go_roundw
            · refine⟨j+1,la,ln,lc,rfl,by go_num,by omega,Lib.hid ⟨?_,?_,Kj.trans K2⟩⟩
              · rw[Hes.out];simpa using HL.out.1
              · rw[Hes.out];simpa using HL2.out
            · simp[intOf];omega
          | true =>
            have kA:Kept (fun _=>False) w2 (w2.alloc (.cells #[.int .i64 j] 3)):=keptA
            have sK2:=K2.size
            have HL2:=Lib.hid ((HL.out.2.1.kept K2 (fun _ _ f=>f) (fun _ f=>f.elim)).kept kA (fun _ _ f=>f) (fun _ f=>f.elim))
            go_wp2_with (at_builtin;go_must (refine wpList_append_one (D:=fun _=>False) (base:=wi.heap.size) (v:=.slice la ln lc) rfl (.tmp 95) (.tmp 97) 48 rfl i0 _ 8 ul_sI hi hz0 hz1 hz2 rfl rfl HL2.out ln (by rw[gInts_len];exact HL.out.1.symm) ⟨w2.heap.size,0,none⟩ 1 rfl (.at (.int .i64 j) .fin) [.int .i64 j] rfl (new_cells _ _ _) (by simp[Value.oneCell']) ⟨_,rfl,rfl⟩ (by omega) (by omega) (by simp;omega) ?_);intro g4 cap' w4 O4 K4 hb4 hg4)
            rw[gInts_snoc]at O4
            have K5:Kept (fun _=>False) wi w4:=((((Kj.trans K2).trans kA).mono (M':=fun q=>False∨wi.heap.size≤q) fun _ _ f=>f.elim).trans (K4.mono fun q _ e=>.inr (HL2.out.lt q e.symm).1)).fresh (Nat.le_refl _)
            have HO4:=Lib.hid O4
            clear O4 K4
            go_wp2_with fail
            go_roundw
            · refine⟨j+1,_,ln+1,_,rfl,by go_num,by omega,Lib.hid ⟨?_,?_,K5⟩⟩
              · rw[Hes.out,List.length_append,← HL.out.1];rfl
              · rw[Hes.out];exact HO4.out
            · simp[intOf];omega
        · have hj4':j=4:=by omega
          subst hj4'
          have hLr:Rep wr (fun b=>wi.heap.size≤b) (gInts (rowOf t)) [.slice la ln lc]:=(OwnL.imp (D':=fun b=>wi.heap.size≤b) HL.out.2.1 (fun _ _ f=>f.elim)).rep (fun b hb _=>hb)
          have kA:Kept (fun _=>False) wr (wr.alloc (.cells #[.slice la ln lc] 48)):=keptA
          have hOlt:=HO.out.1.lt
          have HO2:=Lib.hid (HO.out.1.kept ((Kj).trans kA) (fun _ _ f=>f) (fun _ _ f=>f))
          have HLr:=Lib.hid (show Rep (wr.alloc (.cells #[.slice la ln lc] 48)) (fun b=>wo.heap.size≤b∧some b≠(Value.slice ca k cc).ownBlock) (.sl (gInts (rowOf t)) .fin) [.slice la ln lc] from ⟨_,[],rfl,((hLr.kept kA (fun _ _ f=>f)).imp fun b _ hb=>⟨by omega,fun e=>by have:=hOlt b e.symm;omega⟩),rfl⟩)
          have hlen:(gRows ((ts.take k).map rowOf)).len=k:=by rw[gRows_len,List.length_map,List.length_take];omega
          have Hlen:=Lib.hid hlen
          clear hLr hOlt hlen
          go_wp2_with (at_builtin;go_must (refine wpList_append_one (D:=fun b=>wo.heap.size≤b) (base:=wo.heap.size) (v:=.slice ca k cc) rfl (.tmp 100) (.tmp 102) 47 rfl j0 _ 24 ul_ssI hj hy0 hy1 hy2 rfl rfl HO2.out k Hlen.out ⟨wr.heap.size,0,none⟩ 1 rfl (.sl (gInts (rowOf t)) .fin) [.slice la ln lc] rfl (new_cells _ _ _) (by simp[Value.oneCell']) HLr.out (by omega) (by omega) (by simp;omega) ?_);intro g4 cap' w4 O4 K4 hb4 hg4)
          have e2:gRows ((ts.take (k+1)).map rowOf)=(gRows ((ts.take k).map rowOf)).snoc (.sl (gInts (rowOf t)) .fin):=by
           rw[gRows_snoc,List.take_succ_eq_append_getElem hkt,List.map_append,← Ht.out];rfl
          rw[← e2]at O4
          have K5:Kept (fun _=>False) wo w4:=((((K.trans Kj).trans kA).mono (M':=fun q=>False∨wo.heap.size≤q) fun _ _ f=>f.elim).trans (K4.mono fun q _ e=>.inr (HO2.out.lt q e.symm).1)).fresh (Nat.le_refl _)
          have HO4:=Lib.hid O4
          clear O4 K4 e2
          go_wp2_with fail
          go_roundw
          · exact⟨k+1,_,_,rfl,by go_num,by omega,Lib.hid ⟨HO4.out,K5⟩⟩
          · simp[intOf];omega
     · have hk4:k=4:=by omega
       subst hk4
       have hlL:(ts.map rowOf).length=4:=by rw[List.length_map];exact Htl.out
       have htake:ts.take 4=ts:=List.take_of_length_le (by rw[Htl.out];exact Nat.le_refl _)
       have hrows:Rep wr (fun b=>wo.heap.size≤b) (gRows (ts.map rowOf)) [.slice ca (ts.map rowOf).length cc]:=by
        have:=HO.out.1.rep (fun b hb _=>hb)
        rw[htake]at this
        rw[hlL]
        exact this
       have hadjl:∀ k,(adjL (ts.map rowOf) k).length≤100:=fun k=>by
        unfold adjL
        rw[List.getD_eq_getElem?_getD,List.getElem?_map]
        cases ts[k]? with
        | none=>simp
        | some t=>simp only[Option.map_some,Option.getD_some];have:=rowOf_len t;omega
       have hadjx:∀ k,∀ x∈adjL (ts.map rowOf) k,x<(ts.map rowOf).length:=fun k x hx=>by
        unfold adjL at hx
        rw[List.getD_eq_getElem?_getD,List.getElem?_map]at hx
        rw[hlL]
        revert hx
        cases ts[k]? with
        | none=>simp
        | some t=>simp only[Option.map_some,Option.getD_some];exact rowOf_lt t x
       have HRi:=Lib.hid (rings_any (ts.map rowOf) (by omega) hadjl hadjx wr _ ca cc hrows)
       rw[hlL]at HRi
       have HlL:=Lib.hid hlL
       clear hrows hadjl hadjx htake hlL
       go_wp2_with fail
       refine HRi.out.mono ?_
       rintro e w2 ⟨ra,rc,rfl,RR,K2⟩
       obtain⟨rl,hrl⟩:∃ rl,rl=ringsTo (ts.map rowOf) (ts.map rowOf).length:=⟨_,rfl⟩
       rw[← hrl]at RR ⊢
       rw[HlL.out]at hrl
       have HRR:=Lib.hid RR
       have Hrl:=Lib.hid hrl
       clear RR hrl
       go_wp2_with fail
       refine(part_any _ _ _ _ _).mono ?_
       rintro e w3 ⟨rfl,K3⟩
       have HRin:=Lib.hid (recin_any (flOf 0 ts) (fl_ok2 Hok.out Htl.out) (fl_ok3 Hok.out Htl.out) (ts.map rowOf) (rows_adj Hok.out Htl.out) w3 (fun b=>w.heap.size≤b) sE 0 kg 4 kc (((HRk.out.kept K (fun _ _ f=>f)).kept K2 (fun _ _ f=>f)).kept K3 (fun _ _ f=>f)))
       rw[flOf_len,Htl.out,← Hrl.out]at HRin
       go_wp2_with fail
       refine HRin.out.mono ?_
       rintro e w4 ⟨ga,gc,rfl,RG,K4⟩
       have RW:=(HRR.out.kept K3 (fun _ _ f=>f)).kept K4 (fun _ _ f=>f)
       have hrlen:rl.length≤4:=by rw[Hrl.out];exact ringsTo_len _ _
       have HK9:=Lib.hid ((((HK.out.trans K).trans K2).trans K3).trans K4)
       have HRG:=Lib.hid RG
       have HRW:=Lib.hid RW
       obtain⟨rn,hrn⟩:∃ rn,rn=rl.length:=⟨_,rfl⟩
       rw[← hrn]at hrlen HRG HRW ⊢
       have Hrn:=Lib.hid hrn
       clear RG RW HRin HRi HRR hrn
       go_wp2_with fail
       obtain⟨w9,rfl⟩:∃ w9:World,w9=w4:=⟨_,rfl⟩
       go_loopw [128] (fun t wx=>∃ j:Nat,t=.int .i64 j∧j≤rn∧Kept (fun _=>False) w9 wx) (fun t _=>((rn:Int)-intOf t).toNat)
       case atStart=>exact⟨0,rfl,by omega,Kept.refl _ _⟩
       case round =>
        obtain⟨j,rfl,hj,K9⟩:=hrel
        have s9:=K9.size
        by_cases hlt9:(j:Int)<rn
        · have hjl:j<rl.length:=by have:=Hrn.out;omega
          have RG:=HRG.out.kept K9 (fun _ _ f=>f)
          have RW:=HRW.out.kept K9 (fun _ _ f=>f)
          obtain⟨g1,o1,rfl⟩:=slice_some (gInts_isList rl) RG (by omega)
          obtain⟨g2,o2,rfl⟩:=slice_some (gInts_isList rl) RW (by omega)
          have x1:=(ints_cells RG).2 j (.int .i64 (rl[j]:Nat)) (by rw[List.getElem?_map,List.getElem?_eq_getElem hjl];rfl)
          have x2:=(ints_cells RW).2 j (.int .i64 (rl[j]:Nat)) (by rw[List.getElem?_map,List.getElem?_eq_getElem hjl];rfl)
          have y1:g1<wr.heap.size:=World.block_lt_of_cell? wr _ x1
          have y2:g2<wr.heap.size:=World.block_lt_of_cell? wr _ x2
          obtain⟨xv,hxv⟩:∃ xv,xv=rl[j]:=⟨_,rfl⟩
          rw[← hxv]at x1 x2
          clear RG RW hxv
          go_wp2_with fail
          go_quiet (fail)
          obtain⟨wq,hwq⟩:∃ wq,wq=wr.drewN nq:=⟨_,rfl⟩
          have Kq:Kept (fun _=>False) wr wq:=by rw[hwq];exact Kept.drewN _ _ _
          rw[← hwq]
          clear hwq x1 x2
          go_wp2_with fail
          go_roundw
          · exact⟨j+1,by go_num,by omega,K9.trans Kq⟩
          · simp[intOf];omega
        · go_wp2_with fail
          go_ret
          exact⟨rfl,HK9.out.trans K9⟩
end Go.Proofs.YtleolbpibjnedaaGreat
namespace Go.Proofs.YtleolbpibjnedaaGreat.fnRings
open Gc
open Go.ChangeShapes Go.WideShapes Go.ChangeAt Go.RowKit
open Go.ChangeMaps (open_string shut_string)
set_option linter.unusedVariables false
theorem own:ownKnob Tryz.prog.godebug=none:=by kernel_rfl
theorem laidOut:laidOutB Tryz.prog=true:=by kernel_rfl
def IsRow(k:IntKind)(w:World)(a:Option Addr)(len cap:Nat)(zs:List Int):Prop :=
 (a=none∧len=0∧cap=0∧zs=[]) ∨
 ∃ x,a=some x∧len≤cap∧cap≤maxLen∧zs.length=cap∧(∀ i,i<zs.length→w.cell? (x.add i)=some (.int k (zs.getD i 0)))∧∀ n∈zs,(Lit.int k n).wf=true
theorem nums_of{w:World}{a:Option Addr}{len cap:Nat}{zs:List Int}(h:IsRow .u32 w a len cap zs)(hl:len≤100):Nums0 w (.slice a len cap):=by
 rcases h with ⟨rfl,rfl,rfl,rfl⟩|⟨x,rfl,hle,hcap,hz,hc,hw⟩
 · exact .inl ⟨none,0,rfl⟩
 · by_cases h0:len=0
   · subst h0
     exact .inl ⟨some x,cap,rfl⟩
   · obtain⟨b,off,rfl,hc'⟩:=ints_at hc (by omega)
     refine .inr ⟨b,off,len,cap,rfl,by omega,hl,fun k hk=>?_⟩
     have hk':k<zs.length:=by omega
     have hv:=hc' k hk'
     have hwf:=hw (zs.getD k 0) (by rw[List.getD_eq_getElem?_getD,List.getElem?_eq_getElem hk',Option.getD_some];exact List.getElem_mem _)
     have hb:=bounds_u32 hwf
     refine⟨(zs.getD k 0).toNat,by omega,?_⟩
     rw[hv]
     have:((zs.getD k 0).toNat:Int)=zs.getD k 0:=by omega
     rw[this]
theorem walk(a0:Option Addr)(len0 cap0:Nat)(z0:List Int)(a1:Option Addr)(len1 cap1:Nat)(z1:List Int)(a2:Option Addr)(len2 cap2:Nat)(z2:List Int)(a3:Option Addr)(len3 cap3:Nat)(z3:List Int)(w:World)(w0:IsRow .u32 w a0 len0 cap0 z0)(w1:IsRow .u32 w a1 len1 cap1 z1)(w2:IsRow .u32 w a2 len2 cap2 z2)(w3:IsRow .u32 w a3 len3 cap3 z3) :
 Calls Tryz.prog 6 #[.slice a0 len0 cap0,.slice a1 len1 cap1,.slice a2 len2 cap2,.slice a3 len3 cap3] w fun e w'=>e=.returned (.bool true)∧Below w.heap.size w w':=by
 by_cases h:(2147483647:Int)<len0∨(2147483647:Int)<len1∨(2147483647:Int)<len2∨(2147483647:Int)<len3
 · exact(law_rings_long a0 a1 a2 a3 len0 cap0 len1 cap1 len2 cap2 len3 cap3 w h).mono fun e w' ⟨h1,h2⟩=>⟨h1,h2.toBelow⟩
 · refine(law_rings a0 a1 a2 a3 len0 cap0 len1 cap1 len2 cap2 len3 cap3 w (fun q=>h (.inl q)) (fun q=>h (.inr (.inl q))) (fun q=>h (.inr (.inr (.inl q)))) (fun q=>h (.inr (.inr (.inr q)))) fun k a l c e hl=>?_).mono fun e w' ⟨h1,h2⟩=>⟨h1,h2.toBelow⟩
   rcases k with _|_|_|k
   · simp only[argK,Value.slice.injEq]at e
     obtain⟨rfl,rfl,rfl⟩:=e
     exact nums_of w0 hl
   · simp only[argK,Value.slice.injEq]at e
     obtain⟨rfl,rfl,rfl⟩:=e
     exact nums_of w1 hl
   · simp only[argK,Value.slice.injEq]at e
     obtain⟨rfl,rfl,rfl⟩:=e
     exact nums_of w2 hl
   · simp only[argK,Value.slice.injEq]at e
     obtain⟨rfl,rfl,rfl⟩:=e
     exact nums_of w3 hl
theorem lifted(os:Os)(started:os.Started)(H:Type)(enc:TypeId×Value→H) :
 ReturnsInHanded {} Tryz.checked os 6 .any (Rows.fnRingsSpec.pre6 enc Tryz.prog Tryz.f6 Rows.fnRingsRow.domain false) (Rows.fnRingsSpec.post enc Tryz.prog Tryz.f6 false true false false):=by
 refine returnsInHanded_of_change (C:=Tryz.checked) own started (by kernel_rfl) Tryz.func6
  (ChangeSpec.witness6 (enc:=enc) (C:=Tryz.checked) false ⟨#[],#[.slice none 0 0,.slice none 0 0,.slice none 0 0,.slice none 0 0],[]⟩ 8 (by kernel_rfl) (by kernel_rfl) (by kernel_rfl) (by kernel_rfl)) ?_
 intro W base args ds gs before hval0 hW hcnd _
 have hval:∀ (j:Nat) t v,Tryz.f6.params[j]?=some t→args[j]?=some v→Value.okWide Tryz.prog W .any base t v:=hval0
 have hW':=hW
 obtain⟨p,q,hA0,hV,rfl,hfz,hnd⟩:=hW
 have hA:DataW.TrodAll enc Tryz.prog W 0 (fun _=>true) true Tryz.f6.params.toList args.toList ds p:=hA0
 rw[Tryz.params6]at hA hval
 obtain⟨v0,vs0,d0,ds0,p0,q0,hargs,rfl,rfl,h0,r0⟩:=trodAll_cons hA
 obtain⟨v1,vs1,d1,ds1,p1,q1,rfl,rfl,rfl,h1,r1⟩:=trodAll_cons r0
 obtain⟨v2,vs2,d2,ds2,p2,q2,rfl,rfl,rfl,h2,r2⟩:=trodAll_cons r1
 obtain⟨v3,vs3,d3,ds3,p3,q3,rfl,rfl,rfl,h3,r3⟩:=trodAll_cons r2
 obtain⟨rfl,rfl,rfl⟩:=trodAll_nil r3
 obtain rfl:args=#[v0,v1,v2,v3]:=by cases args;simp_all
 obtain⟨rfl,rfl⟩:=trodVars_none hV
 obtain⟨a0,len0,cap0,rfl⟩:=okWide_slice Tryz.underlying22 (hval 0 22 v0 rfl rfl)
 have k0:=h0
 have lt0:∀ x∈p0,x.block<W.heap.size:=by obtain⟨m,hm⟩:=k0;exact DataW.trod_lt m _ _ _ hm
 obtain⟨z0,w0⟩:∃ zs,IsRow .u32 W a0 len0 cap0 zs:=by
  obtain⟨fuel,hf⟩:=h0
  rcases open_ints Tryz.underlying22 Tryz.underlying109 (by kernel_rfl) hf with ⟨hcs,_⟩|⟨x,l,c,zs,hcs,_,hl,hm,hz,_,hcell,hwz⟩
  · simp[Value.cells]at hcs
    obtain⟨rfl,rfl,rfl⟩:=hcs
    exact⟨[],.inl ⟨rfl,rfl,rfl,rfl⟩⟩
  · simp[Value.cells]at hcs
    obtain⟨rfl,rfl,rfl⟩:=hcs
    exact⟨zs,.inr ⟨_,rfl,hl,hm,by simpa using hz,hcell,hwz⟩⟩
 obtain⟨a1,len1,cap1,rfl⟩:=okWide_slice Tryz.underlying22 (hval 1 22 v1 rfl rfl)
 have k1:=h1
 have lt1:∀ x∈p1,x.block<W.heap.size:=by obtain⟨m,hm⟩:=k1;exact DataW.trod_lt m _ _ _ hm
 obtain⟨z1,w1⟩:∃ zs,IsRow .u32 W a1 len1 cap1 zs:=by
  obtain⟨fuel,hf⟩:=h1
  rcases open_ints Tryz.underlying22 Tryz.underlying109 (by kernel_rfl) hf with ⟨hcs,_⟩|⟨x,l,c,zs,hcs,_,hl,hm,hz,_,hcell,hwz⟩
  · simp[Value.cells]at hcs
    obtain⟨rfl,rfl,rfl⟩:=hcs
    exact⟨[],.inl ⟨rfl,rfl,rfl,rfl⟩⟩
  · simp[Value.cells]at hcs
    obtain⟨rfl,rfl,rfl⟩:=hcs
    exact⟨zs,.inr ⟨_,rfl,hl,hm,by simpa using hz,hcell,hwz⟩⟩
 obtain⟨a2,len2,cap2,rfl⟩:=okWide_slice Tryz.underlying22 (hval 2 22 v2 rfl rfl)
 have k2:=h2
 have lt2:∀ x∈p2,x.block<W.heap.size:=by obtain⟨m,hm⟩:=k2;exact DataW.trod_lt m _ _ _ hm
 obtain⟨z2,w2⟩:∃ zs,IsRow .u32 W a2 len2 cap2 zs:=by
  obtain⟨fuel,hf⟩:=h2
  rcases open_ints Tryz.underlying22 Tryz.underlying109 (by kernel_rfl) hf with ⟨hcs,_⟩|⟨x,l,c,zs,hcs,_,hl,hm,hz,_,hcell,hwz⟩
  · simp[Value.cells]at hcs
    obtain⟨rfl,rfl,rfl⟩:=hcs
    exact⟨[],.inl ⟨rfl,rfl,rfl,rfl⟩⟩
  · simp[Value.cells]at hcs
    obtain⟨rfl,rfl,rfl⟩:=hcs
    exact⟨zs,.inr ⟨_,rfl,hl,hm,by simpa using hz,hcell,hwz⟩⟩
 obtain⟨a3,len3,cap3,rfl⟩:=okWide_slice Tryz.underlying22 (hval 3 22 v3 rfl rfl)
 have k3:=h3
 have lt3:∀ x∈p3,x.block<W.heap.size:=by obtain⟨m,hm⟩:=k3;exact DataW.trod_lt m _ _ _ hm
 obtain⟨z3,w3⟩:∃ zs,IsRow .u32 W a3 len3 cap3 zs:=by
  obtain⟨fuel,hf⟩:=h3
  rcases open_ints Tryz.underlying22 Tryz.underlying109 (by kernel_rfl) hf with ⟨hcs,_⟩|⟨x,l,c,zs,hcs,_,hl,hm,hz,_,hcell,hwz⟩
  · simp[Value.cells]at hcs
    obtain⟨rfl,rfl,rfl⟩:=hcs
    exact⟨[],.inl ⟨rfl,rfl,rfl,rfl⟩⟩
  · simp[Value.cells]at hcs
    obtain⟨rfl,rfl,rfl⟩:=hcs
    exact⟨zs,.inr ⟨_,rfl,hl,hm,by simpa using hz,hcell,hwz⟩⟩
 clear hA0 hval0
 refine(walk a0 len0 cap0 z0 a1 len1 cap1 z1 a2 len2 cap2 z2 a3 len3 cap3 z3 W w0 w1 w2 w3).mono fun e W' ⟨he,bel⟩=>?_
 subst he
 exact⟨_,rfl,_,_,_,[],_,[],hW',trodAll_mk1 (shut_bool Tryz.underlying4 _),(trodAll_cons_mk (Below.trod laidOut (by kernel_rfl) (of_decide_eq_true (by kernel_rfl)) k0 bel lt0) (trodAll_cons_mk (Below.trod laidOut (by kernel_rfl) (of_decide_eq_true (by kernel_rfl)) k1 bel lt1) (trodAll_cons_mk (Below.trod laidOut (by kernel_rfl) (of_decide_eq_true (by kernel_rfl)) k2 bel lt2) (trodAll_cons_mk (Below.trod laidOut (by kernel_rfl) (of_decide_eq_true (by kernel_rfl)) k3 bel lt3) trodAll_mk0)))),rfl,bel.frame _,fun h=>by cases h⟩
theorem over:Rows.fnRingsRow.holds Tryz.pinned (OpenSpec.ofChange Rows.fnRingsSpec) :=
 OpenClaim.holds_of_wide 6 Tryz.f6 rfl rfl rfl rfl rfl rfl rfl ⟨rfl,rfl,rfl,rfl,rfl⟩ rfl rfl rfl rfl rfl (by kernel_rfl) Tryz.func6 (by kernel_rfl)
  (of_decide_eq_true (by kernel_rfl)) (by unfold Func.isWrapper;first | (rw[if_pos (by decide +kernel)];kernel_rfl) | (rw[if_neg (by decide +kernel)];exact⟨rfl,rfl⟩))
  (fun os started H enc _=>lifted os started H enc)
theorem proved:Rows.FnRingsSaid:=over
#print axioms proved
end Go.Proofs.YtleolbpibjnedaaGreat.fnRings
