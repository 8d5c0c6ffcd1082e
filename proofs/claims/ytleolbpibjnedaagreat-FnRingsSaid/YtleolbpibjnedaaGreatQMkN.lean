/- The laws' maker: a label more behind those around. -/
import Derived.Test.YtleolbpibjnedaaGreatQMkA
import Derived.Deep.RegionLawGrows
import Derived.Test.YtleolbpibjnedaaGreatQMkH
import Derived.Test.YtleolbpibjnedaaGreatQBase
import Derived.Deep.RegionHeld3
import Derived.Deep.DeepMust
import Derived.Deep.DeepCutAuto
import Derived.Deep.CutRange
set_option linter.unusedSimpArgs false
set_option linter.unusedVariables false
set_option maxRecDepth 100000
set_option maxHeartbeats 4000000
namespace Go.Proofs.YtleolbpibjnedaaGreat
open Go Go.RowKit Gc
def LabV(v:Value):Prop:=∃ k,k≤1000∧v=.string (lab k)
theorem LabG.cells{w:World}{D:Nat→Prop}:∀ {l:G} {a:Option Addr} {n c:Nat},LabG l→Rep w D l [.slice a n c] →
 ∃ olds:List Value,olds.length=n∧(∀ u∈olds,LabV u)∧(∀ b,a=some b→∀ j u,olds[j]?=some u→w.cell? (b.add j)=some u)∧(a=none→n=0):=by
 intro l
 induction l with
 | nil =>
   rintro a n c _ ⟨a',c',e⟩
   simp only[List.cons.injEq,Value.slice.injEq,and_true]at e
   obtain⟨rfl,rfl,rfl⟩:=e
   exact⟨[],rfl,fun u hu=>by simp at hu,fun b _ j u hu=>by simp at hu,fun _=>rfl⟩
 | cons hd tl _ ih =>
   intro a n c hl hr
   match hd,hl with
   | .at (.string s) .fin,⟨⟨k,hk,hs⟩,hl⟩ =>
     obtain⟨g,o,n',c',hs',e,⟨hD,hg⟩,⟨rs,rfl,rfl⟩,hc,ht⟩:=hr
     simp only[List.cons.injEq,Value.slice.injEq,and_true]at e
     obtain⟨rfl,rfl,rfl⟩:=e
     obtain⟨olds,h1,h2,h3,_⟩:=ih hl ht
     refine⟨.string s :: olds,by simp[h1],fun u hu=>?_,fun b hb j u hu=>?_,fun e=>by cases e⟩
     · rcases List.mem_cons.1 hu with rfl|hu
       · exact⟨k,hk,by rw[hs]⟩
       · exact h2 u hu
     · cases hb
       rw[addr_add]
       cases j with
       | zero=>exact hc 0 u hu
       | succ j =>
         have:=h3 _ rfl j u hu
         rw[addr_add]at this
         rw[← this]
         congr 2
         simp only[List.length_cons,List.length_nil]
         omega
 | _=>intro _ _ _ h;exact h.elim
theorem LabG.cap{w:World}{D:Nat→Prop}:∀ {l:G} {a:Option Addr} {n c:Nat},LabG l→Rep w D l [.slice a n c]→n≤c:=by
 intro l
 induction l with
 | nil =>
   rintro a n c _ ⟨a',c',e⟩
   simp only[List.cons.injEq,Value.slice.injEq,and_true]at e
   omega
 | cons hd tl _ ih =>
   intro a n c hl hr
   match hd,hl with
   | .at (.string s) .fin,⟨_,hl⟩ =>
     obtain⟨g,o,n',c',hs',e,_,_,hc,ht⟩:=hr
     simp only[List.cons.injEq,Value.slice.injEq,and_true]at e
     have:=ih hl ht
     omega
 | _=>intro _ _ _ h;exact h.elim
def labs:List Value→G
 | []=>.nil
 | v :: l=>.cons (.at v .fin) (labs l)
theorem labs_len:∀ l,(labs l).len=l.length
 | []=>rfl
 | _ :: l=>by simp[labs,G.len,labs_len l]
theorem labs_isList:∀ l,(labs l).isList
 | []=>trivial
 | _ :: l=>labs_isList l
theorem labs_LabG:∀ l:List Value,(∀ u∈l,LabV u)→LabG (labs l)
 | [],_=>trivial
 | v :: l,h=>by
   obtain⟨k,hk,rfl⟩:=h v (by simp)
   exact⟨⟨k,hk,rfl⟩,labs_LabG l fun u hu=>h u (by simp[hu])⟩
theorem labs_rep(w:World)(D:Nat→Prop):∀ l:List Value,RepL w D (labs l) l
 | []=>rfl
 | v :: l=>⟨[v],l,rfl,⟨[],rfl,rfl⟩,labs_rep w D l⟩
theorem step_append_lab{ops:Array Oper}{o:Oper}{A:Act}{w:World}{K:Act→World→Prop}{Q:Exit→Act→World→Prop}{R:Prop}(hgd:o.guard=none)(s y:Operand)
 (ho:o.op=.call { callee:=.builtin .append,args:=#[s,y],argTypes:=#[25,25] })
 (mb q:Nat) (hmb:mb<w.heap.size) (a:Option Addr) (n cap:Nat) (hs:A.eval s=.slice a n n) (hL:Labs w mb q (.slice a n cap)) (hq:q≤1000) (ad:Addr) (c k:Nat) (hy:A.eval y=.slice (some ad) 1 c) (hk:k≤1000)
 (hnew:w.cell? (ad.add 0)=some (.string (lab k)))
 (hK:∀ v' w',Labs w' mb (q+1) v'→Kept (fun _=>False) w w'→K (A.put o.dst v') w'):if Region.wanted o (yielded ops A.tmps)=true then Oper.wp Tryz.prog o A w K Q else R:=by
 obtain⟨_,_,_,l,e,hnq,hG,_,hrep⟩:=hL
 cases e
 obtain⟨olds,h1,h2,h3,h4⟩:=hG.cells hrep
 obtain⟨i0,hi,hz0,hz1,hz2⟩:=info_parts info_Str
 refine step_append_grows hgd s y 25 ho 9 i0 _ 1 16 ul_sStr hi hz0 hz1 hz2 rfl (by decide) a n n olds hs (fun e=>⟨h4 e,h4 e⟩) (by rw[h1];omega) h3 ad 1 c [.string (lab k)] hy rfl
  (fun j u hu=>?_) (fun u hu=>?_) (by omega) (by unfold maxLen;omega) (by omega) ?_
 · cases j with
   | zero=>simp at hu;subst hu;exact hnew
   | succ j=>simp at hu
 · simp at hu;subst hu;rfl
 · intro v' w' hown hg
   have hO:OwnL w' (fun b=>w.heap.size≤b) w.heap.size 9 1 v' (labs (olds++[.string (lab k)])):=⟨_,by rw[labs_len];simpa [h1]using hown,labs_rep _ _ _⟩
   refine hK v' w' ?_ (Kept.grown hg (fun _ e=>by cases e))
   rcases hown.2 with ⟨_,hn⟩|⟨g,cap',cur,rfl,hb,hg',r⟩
   · omega
   · refine⟨_,_,_,labs (olds++[.string (lab k)]),rfl,by omega,labs_LabG _ (fun u hu=>?_),labs_isList _,(hO.rep (D:=fun b=>w.heap.size≤b) fun b h0 _=>h0).imp fun b _ hb=>by omega⟩
     rcases List.mem_append.1 hu with hu|hu
     · exact h2 u hu
     · simp at hu;subst hu;exact⟨k,hk,rfl⟩
structure LabI (w:World) (mb:Nat) (ns:Value) (fl:Bool) (c0:MC) (d j kind ib:Nat) (k1 n1:Nat) (op1:Str) (kids1 body1:T) (ak1:Option Addr) (nk1 ck1:Nat) (ab1:Option Addr) (nb1 cb1:Nat) (t:T) (a2:Option Addr) (n2 cap2:Nat) (c3:MC) (wx:World):Prop where
 wfx:W fl .E (.x k1 n1 op1 kids1 body1)
 wft:W fl .Ss t
 rk:Rep wx (fun b=>w.heap.size<b) kids1.g [.slice ak1 nk1 ck1]
 rb:Rep wx (fun b=>w.heap.size<b) body1.g [.slice ab1 nb1 cb1]
 rt:Rep wx (fun b=>w.heap.size<b) t.g [.slice a2 n2 cap2]
 obj:wx.heap[ib]?=some (.cells #[.int .i64 kind,.int .i64 0,.string ⟨#[]⟩,.string ⟨#[]⟩,.int .i64 k1,.int .i64 n1,.string op1,.slice ak1 nk1 ck1,.slice ab1 nb1 cb1,.slice a2 n2 cap2,.slice none 0 0,.bool false,.bool false,.slice none 0 0] 66 (0,0))
 hib:w.heap.size<ib
 st:MSt wx mb ns fl c3
 kept:Kept (fun b=>b=mb) w wx
 res:wx.heap[w.heap.size]?=some zeroS
 tot:(c3.m:Int)+c3.left=c0.m+c0.left
 le:c3.left+2≤c0.left
 lab0:c0.labels≤c3.labels
 lab1:(c3.labels:Int)+c3.left≤c0.labels+c0.left
 inner:c3.inner=c0.inner
 low:-1≤c0.left→-(4+11*((d:Int)+j))≤c3.left
 cost:((T.x k1 n1 op1 kids1 body1).cost:Int)+t.cost+5≤5*(c0.left-c3.left)
 deepx:(T.x k1 n1 op1 kids1 body1).deep≤2+8*j
 deept:t.deep≤4+5*d+8*j
theorem LabI.of{w W0 XE w2 XL w3 wx:World}{mb:Nat}{ns:Value}{fl:Bool}{c c0 c2 c3:MC}{d j kind ib:Nat}{k1 n1:Nat}{op1:Str}{kids1 body1:T}{ak1:Option Addr}{nk1 ck1:Nat}{ab1:Option Addr}{nb1 cb1:Nat}{t:T}{a2:Option Addr}{n2 cap2:Nat}
 (h:MSt w mb ns fl c) (hk0:Kept (fun b=>b=mb) w W0) (z0:w.heap.size<W0.heap.size) (o0:W0.heap[w.heap.size]?=some zeroS) (hXE:Kept (fun _=>False) W0 XE)
 (Y1:GotE XE mb ns fl c0 1 (1+(1:Nat)+11*j) 1 0 (1+1+8*j) k1 n1 op1 kids1 body1 ak1 nk1 ck1 ab1 nb1 cb1 c2 w2) (hXL:Kept (fun _=>False) w2 XL)
 (Y2:GotL XL mb ns fl c2 (3+11*(d+j)) (4+5*d+8*j) t a2 n2 cap2 c3 w3) (hC:Kept (fun b=>b=ib) w3 wx) (hib:W0.heap.size≤ib)
 (hdis:ib<XE.heap.size∨(w2.heap.size≤ib∧ib<XL.heap.size)∨w3.heap.size≤ib)
 (ho:wx.heap[ib]?=some (.cells #[.int .i64 kind,.int .i64 0,.string ⟨#[]⟩,.string ⟨#[]⟩,.int .i64 k1,.int .i64 n1,.string op1,.slice ak1 nk1 ck1,.slice ab1 nb1 cb1,.slice a2 n2 cap2,.slice none 0 0,.bool false,.bool false,.slice none 0 0] 66 (0,0))):LabI w mb ns fl c0 d j kind ib k1 n1 op1 kids1 body1 ak1 nk1 ck1 ab1 nb1 cb1 t a2 n2 cap2 c3 wx:=by
 have hmb:=lt_of_heap h.obj
 have s1:=hXE.size
 have s2:=Y1.kept.size
 have s3:=hXL.size
 have s4:=Y2.kept.size
 have kA:Kept (fun b=>b=mb) w2 w3:=(hXL.mono fun _ _ f=>f.elim).trans Y2.kept
 have kB:Kept (fun b=>b=mb) w w3:=(hk0.trans ((hXE.mono fun _ _ f=>f.elim).trans Y1.kept)).trans kA
 have kC:Kept (fun b=>b=mb) w wx:=((kB.mono (M':=fun b=>b=mb∨w.heap.size≤b) fun _ _ h=>.inl h).trans (hC.mono fun b _ h=>.inr (by omega))).fresh (Nat.le_refl _)
 have e1:∀ {g:G} {v:Value},Rep w2 (fun b=>XE.heap.size≤b) g [v]→Rep wx (fun b=>w.heap.size<b) g [v]:=fun r =>
  (((r.imp (D':=fun b=>XE.heap.size≤b∧b<w2.heap.size) fun b hl hb=>⟨hb,hl⟩).kept kA (fun b hb=>by omega)).kept hC (fun b hb=>by omega)).imp fun b _ hb=>by omega
 have g1:=Y1.went
 have g2:=Y2.went
 have a1:=g1.tot;have a2:=g1.le;have a3:=g1.lab0;have a4:=g1.lab1;have a5:=g1.inner;have a6:=g1.low;have a7:=g1.low'
 have b1:=g2.tot;have b2:=g2.le;have b3:=g2.lab0;have b4:=g2.lab1;have b5:=g2.inner;have b6:=g2.low;have b7:=g2.low'
 have q1:=Y1.cost
 have q2:=Y2.cost
 exact {
  wfx:=Y1.wf,wft:=Y2.wf,rk:=e1 Y1.rk,rb:=e1 Y1.rb
  rt:=(((Y2.rep.imp (D':=fun b=>XL.heap.size≤b∧b<w3.heap.size) fun b hl hb=>⟨hb,hl⟩).kept hC (fun b hb=>by omega))).imp fun b _ hb=>by omega
  obj:=ho,hib:=by omega
  st:=⟨hC.obj Y2.st.obj (by have:=lt_of_heap Y2.st.obj;omega),h.nums.kept kC,Y2.st.tot,Y2.st.lo,Y2.st.lab,Y2.st.inn,Y2.st.flo⟩
  kept:=kC
  res:=hC.obj (kA.obj (((hXE.mono fun _ _ f=>f.elim).trans Y1.kept).obj o0 (by omega)) (by omega)) (by omega)
  tot:=by omega,le:=by omega,lab0:=by omega,lab1:=by omega,inner:=by omega
  low:=fun h0=>by omega
  cost:=by omega
  deepx:=by have:=Y1.deep;omega
  deept:=Y2.deep }
theorem kept14L{w3:World}{b:Nat}{v0 v1 v2 v3 v4 v5 v6 v7 v8 v9 v10 v11 v12 v13:Value}:Kept (fun k=>k=b) w3 ((((((((((((((w3.setCell ⟨b,0,none⟩ v0).setCell ⟨b,1,none⟩ v1).setCell ⟨b,2,none⟩ v2).setCell ⟨b,3,none⟩ v3).setCell ⟨b,4,none⟩ v4).setCell ⟨b,5,none⟩ v5).setCell ⟨b,6,none⟩ v6).setCell ⟨b,7,none⟩ v7).setCell ⟨b,8,none⟩ v8).setCell ⟨b,9,none⟩ v9).setCell ⟨b,10,none⟩ v10).setCell ⟨b,11,none⟩ v11).setCell ⟨b,12,none⟩ v12).setCell ⟨b,13,none⟩ v13):=Kept.set14 (M:=fun k=>k=b) rfl
theorem set14_of{w3:World}{b:Nat}{z0 z1 z2 z3 z4 z5 z6 z7 z8 z9 z10 z11 z12 z13 v0 v1 v2 v3 v4 v5 v6 v7 v8 v9 v10 v11 v12 v13:Value}{t:TypeId}(h:w3.heap[b]?=some (.cells #[z0,z1,z2,z3,z4,z5,z6,z7,z8,z9,z10,z11,z12,z13] t (0,0))):((((((((((((((w3.setCell ⟨b,0,none⟩ v0).setCell ⟨b,1,none⟩ v1).setCell ⟨b,2,none⟩ v2).setCell ⟨b,3,none⟩ v3).setCell ⟨b,4,none⟩ v4).setCell ⟨b,5,none⟩ v5).setCell ⟨b,6,none⟩ v6).setCell ⟨b,7,none⟩ v7).setCell ⟨b,8,none⟩ v8).setCell ⟨b,9,none⟩ v9).setCell ⟨b,10,none⟩ v10).setCell ⟨b,11,none⟩ v11).setCell ⟨b,12,none⟩ v12).setCell ⟨b,13,none⟩ v13).heap[b]?=some (.cells #[v0,v1,v2,v3,v4,v5,v6,v7,v8,v9,v10,v11,v12,v13] t (0,0)):=(set_of_cells (set_of_cells (set_of_cells (set_of_cells (set_of_cells (set_of_cells (set_of_cells (set_of_cells (set_of_cells (set_of_cells (set_of_cells (set_of_cells (set_of_cells (set_of_cells h 0 v0) 1 v1) 2 v2) 3 v3) 4 v4) 5 v5) 6 v6) 7 v7) 8 v8) 9 v9) 10 v10) 11 v11) 12 v12) 13 v13)
theorem LabI.done{w wx wf:World}{mb:Nat}{ns:Value}{fl:Bool}{c c3:MC}{d dd j kind ib kk r:Nat}{k1 n1:Nat}{op1:Str}{kids1 body1:T}{ak1:Option Addr}{nk1 ck1:Nat}{ab1:Option Addr}{nb1 cb1:Nat}{t:T}{a2:Option Addr}{n2 cap2:Nat}
 (hdd:dd=d+1) (h:MSt w mb ns fl c) (hl:0≤c.left) (hkind:kind=4∨kind=5) (hkk:kk≤1000)
 (I:LabI w mb ns fl { c with m:=c.m+1,left:=c.left-1,labels:=c.labels+1 } d j kind ib k1 n1 op1 kids1 body1 ak1 nk1 ck1 ab1 nb1 cb1 t a2 n2 cap2 c3 wx) (hC:Kept (fun b=>b=w.heap.size) wx wf)
 (hr:wf.heap[r]?=some (.cells #[.int .i64 kind,.int .i64 0,.string ⟨#[]⟩,.string ⟨#[]⟩,.int .i64 k1,.int .i64 n1,.string op1,.slice ak1 nk1 ck1,.slice ab1 nb1 cb1,.slice a2 n2 cap2,.slice none 0 0,.bool false,.bool false,.slice none 0 0] 66 (0,0))) (hrw:w.heap.size≤r) :
 StmtP w mb ns fl c 1 (3+11*(dd+j)) 1 0 (4+5*dd+8*j) (fun _=>True) (.returned (.agg #[.int .i64 11,.int .i64 0,.string ⟨#[]⟩,.string (lab kk),.int .i64 0,.int .i64 0,.string ⟨#[]⟩,.slice none 0 0,.slice none 0 0,.slice (some ⟨r,0,none⟩) 1 1,.slice none 0 0,.bool false,.bool false,.slice none 0 0])) wf:=by
 have hmb:=lt_of_heap h.obj
 have m0:Kept (fun b=>b=mb) w wf:=((I.kept.mono (M':=fun b=>b=mb∨w.heap.size≤b) fun _ _ h=>.inl h).trans (hC.mono fun b _ h=>.inr (by omega))).fresh (Nat.le_refl _)
 have e1:∀ {g:G} {v:Value},Rep wx (fun b=>w.heap.size<b) g [v]→Rep wf (fun b=>w.heap.size≤b) g [v]:=fun r=>(r.kept hC (fun b hb=>by omega)).imp fun b _ hb=>by omega
 have hin:W fl .S (.s kind 0 sE sE (.x k1 n1 op1 kids1 body1) t .nil false false .nil):=by
  rcases hkind with rfl|rfl
  · exact .for_ _ _ I.wfx I.wft
  · exact .range _ _ I.wfx I.wft
 have i1:=I.tot;have i2:=I.le;have i3:=I.lab0;have i4:=I.lab1;have i5:=I.inner;have i6:=I.low;have i7:=I.cost;have i8:=I.deepx;have i9:=I.deept
 simp only[]at i1 i2 i3 i4 i5 i6 i7
 refine⟨⟨11,0,_,lab kk,0,0,_,none,0,0,none,0,0,some ⟨r,0,none⟩,1,1,none,0,0,false,false,none,0,0⟩,.nil,.nil,.cons (.s kind 0 sE sE (.x k1 n1 op1 kids1 body1) t .nil false false .nil) .nil,.nil,.nil,c3,rfl,trivial,.labelled kk kind _ _ hkk hkind I.wfx I.wft,⟨_,_,rfl⟩,⟨_,_,rfl⟩,?_,⟨_,_,rfl⟩,⟨_,_,rfl⟩,?_,m0,?_,?_,?_⟩
 · refine rep_one (T0:=66) hr hrw ?_
   exact⟨_,rfl,_,rfl,_,rfl,_,rfl,[_,_,_,_,_],_,rfl,⟨_,rfl,_,rfl,_,rfl,_,_,rfl,e1 I.rk,_,_,rfl,e1 I.rb,rfl⟩,_,_,rfl,e1 I.rt,_,_,rfl,⟨_,_,rfl⟩,_,rfl,_,rfl,_,_,rfl,⟨_,_,rfl⟩,rfl⟩
 · exact⟨hC.obj I.st.obj (by omega),h.nums.kept m0,I.st.tot,I.st.lo,I.st.lab,I.st.inn,I.st.flo⟩
 · exact⟨by omega,by omega,by omega,by omega,by omega,fun _=>by omega,fun _=>by omega⟩
 · simp only[T.cost,T.len]at i7 ⊢
   rcases hkind with rfl|rfl<;>simp only[Nat.reduceEqDiff,if_false]<;>omega
 · simp only[T.deep]at i8 ⊢
   rcases hkind with rfl|rfl<;>simp only[Nat.reduceEqDiff,if_false,Bool.false_eq_true]<;>omega
theorem lab_str(k:Nat):(⟨#[108]⟩:ByteArray)++strOf (dec k)=lab k:=by
 show strOf [108]++strOf (dec k)=_
 rw[strOf_append]
 rfl
theorem stmt_lab(d dd j:Nat)(hd:d≤2)(hdd:dd=d+1)(hj2:j≤2)(hE:ContrE 1 j)(hL:ContrL d j)(w:World)(mb:Nat)(ns:Value)(fl:Bool)(c:MC)(inn:Bool)(a:Option Addr)(len cap:Nat)(h:MSt w mb ns fl c)(hj:c.inner+j=2)(hl:0≤c.left)(hls:Labs w mb (3-dd) (.slice a len cap))(D:Int)(hD:D=dd)
 (n:Nat) (hn:n<536870912) (hnext:Calls Tryz.prog 42 #[.pointer (some ⟨mb,0,none⟩)] (w.alloc zeroS) (NextN (w.alloc zeroS) mb ns fl c n)) (hr:(n:Int)%16=15) :
 Calls Tryz.prog 29 #[.pointer (some ⟨mb,0,none⟩),.int .i64 D,.bool inn,.slice a len cap] w (StmtP w mb ns fl c 1 (3+11*(dd+j)) 1 0 (4+5*dd+8*j) (fun _=>True)):=by
 have hM:=h
 have hmb:=lt_of_heap h.obj
 have hn':=Lib.hid hnext
 have hE':=Lib.hid hE
 have hL':=Lib.hid hL
 have hDd:=Lib.hid hD
 have Hdd:=Lib.hid hdd
 have hD0:1≤D:=by omega
 have hD1:D≤3:=by omega
 have hd0:(D == 0)=false:=by simp;omega
 clear hnext hE hL hD hdd
 go_enter Tryz.func29,Tryz.ntmps29
 go_wp2_with fail
 refine hn'.out.mono ?_
 rintro e w1 ⟨rfl,hst,hk⟩
 obtain⟨rc,rf⟩:=keptRules hk hmb
 have z1:w.heap.size<w1.heap.size:=by have:=hk.size;simp at this;omega
 have hk1:=keptA.trans hk
 have o1:w1.heap[w.heap.size]?=some zeroS:=hk.new (by omega)
 clear hk hn'
 have hlab:=h.lab
 have htot:=h.tot
 obtain⟨m,left,labels,inner⟩:=c
 simp only[]at hlab htot hl hj
 have cl3:=cell_of_cells hst.obj 3 rfl
 have fl3:=free_of_cells hst.obj 3
 have hmb1:=lt_of_heap hst.obj
 have hdecl:(strOf (dec (labels+1))).size≤6:=by rw[strOf_size];exact dec_len 5 _ (by omega)
 have hkx:=and1 ((n:Int) / 32) (by omega) (by omega)
 have hb:bits BinOp.and IntKind.u32 ((n:Int) / 32) 1=0∨bits BinOp.and IntKind.u32 ((n:Int) / 32) 1=1:=by rw[hkx];omega
 clear hkx
 have hst0:MSt (w1.setCell ⟨mb,3,none⟩ (.int .i64 ((labels:Int)+1))) mb ns fl ⟨m+1,left-1,labels+1,inner⟩ :=
  ⟨set_of_cells hst.obj 3 _,h.nums.kept (hk1.trans Kept.set1e),hst.tot,hst.lo,(by have:=hst.lab;simp only[]at this ⊢;omega),hst.inn,hst.flo⟩
 have hlen:len≤3:=by
  obtain⟨_,_,_,l,e,h0,_⟩:=hls
  cases e
  omega
 go_upto_region 36 with (go_at_call 46;refine(decimal_any (labels+1) (labels+1) (Nat.le_refl _) (by omega) _ _ (by omega)).mono ?_;rintro e w2 ⟨rfl,rfl⟩)
 go_cut [11,12] (fun s11 s12 wx=>s11=.string (lab (labels+1))∧(∃ kind:Nat,s12=.int .i64 kind∧(kind=4∨kind=5))∧MSt wx mb ns fl ⟨m+1,left-1,labels+1,inner⟩∧Kept (fun b=>b=mb) w wx∧w.heap.size<wx.heap.size∧wx.heap[w.heap.size]?=some zeroS)
 case first =>
  rcases hb with hb|hb
  · go_wp2_with fail
    go_meet
    exact⟨by rw[← lab_str],⟨4,rfl,.inl rfl⟩,hst0.keptBut (M:=fun _=>False) keptA (fun _ f=>f.elim),(hk1.trans Kept.set1e).trans keptA,by simp;omega,keptA.obj (M:=fun _=>False) (Kept.set1e.obj o1 (by omega)) (fun f=>f)⟩
  · go_wp2_with fail
    go_meet
    exact⟨by rw[← lab_str],⟨5,rfl,.inr rfl⟩,hst0.keptBut (M:=fun _=>False) keptA (fun _ f=>f.elim),(hk1.trans Kept.set1e).trans keptA,by simp;omega,keptA.obj (M:=fun _=>False) (Kept.set1e.obj o1 (by omega)) (fun f=>f)⟩
 case rest =>
 obtain⟨rfl,⟨kind,rfl,hkind⟩,hstx,hkx,zx,ox⟩:=hcut
 clear hst0 cl3 fl3 rc rf hst hk1 o1 z1 hmb1 hb
 have hlx:=hls.kept hkx
 have hmx:=lt_of_heap hstx.obj
 have cf5:=cell_of_cells hstx.obj 5 rfl
 go_upto_region 37 with fail
 have hcap:len≤cap:=by
  obtain⟨_,_,_,l,e,_,hG,_,hrep⟩:=hls
  cases e
  exact hG.cap hrep
 have hw:IntKind.i64.wrap (D-1)=D-1:=by rw[IntKind.wrap_i64];omega
 go_cut [13] from 165 to 181 (fun s13 wy=>∃ (ib:Nat) (k1 n1:Nat) (op1:Str) (kids1 body1:T) (ak1:Option Addr) (nk1 ck1:Nat) (ab1:Option Addr) (nb1 cb1:Nat) (t:T) (a2:Option Addr) (n2 cap2:Nat) (c3:MC),s13=.pointer (some ⟨ib,0,none⟩)∧LabI w mb ns fl ⟨m+1,left-1,labels+1,inner⟩ d j kind ib k1 n1 op1 kids1 body1 ak1 nk1 ck1 ab1 nb1 cb1 t a2 n2 cap2 c3 wy)
 case first =>
  go_region_held3 (fun _=>True) (trivial) (first
   | (go_at_call 44;refine(hE'.out _ mb ns fl _ (hstx.keptBut (M:=fun _=>False) ?k1 (fun _ f=>f.elim)) ?k2 ?k3 _ rfl).mono ?_;(case k1=>(with_reducible (first | exact keptD | exact keptAD | exact keptA.trans keptAD)));(case k2=>exact hj);(case k3=>(simp only[];omega));rintro e w2 ⟨k1,n1,op1,kids1,body1,ak1,nk1,ck1,ab1,nb1,cb1,c2,rfl,_,Y1⟩;have zE:=Y1.kept.size;(try simp at zE);(try (have hz:w2.heap[wc.heap.size]?=some zeroS:=Y1.kept.obj (by first | exact heap_alloc_new wc _ | exact heap2_0 wc _ _) (by omega)));(try (have hz:w2.heap[wc.heap.size+1]?=some zeroS:=Y1.kept.obj (heap2_1 wc _ _) (by omega)));(try (have hb:w2.heap[wc.heap.size]?=some (.cells #[.string (lab (labels+1))] 9):=Y1.kept.obj (by first | exact heap_alloc_new wc _ | exact heap2_0 wc _ _) (by omega)));(try (have hb:w2.heap[wc.heap.size+1]?=some (.cells #[.string (lab (labels+1))] 9):=Y1.kept.obj (heap2_1 wc _ _) (by omega))))
   | (go_at_call 45;go_must (refine(hL'.out _ mb ns fl c2 true lv (Y1.st.keptBut (M:=fun _=>False) (kWA.trans ?k1) (fun _ f=>f.elim)) ?k2 ?k3 ((LA.kept ?k4).up ?k5) _ (by have:=hDd.out;have:=Hdd.out;omega)).mono ?_);(case k1=>(with_reducible (first | exact Kept.refl _ _ | exact keptA)));(case k2=>(have:=Y1.went.inner;simp only[]at this;omega));(case k3=>(have:=Y1.went.low;have:=Y1.went.low';simp only[]at *;omega));(case k4=>(with_reducible (first | exact Kept.refl _ _ | exact keptA)));(case k5=>(have:=Hdd.out;omega));rintro e w3 ⟨t,a2,n2,cap2,c3,rfl,Y2⟩;have zL:=Y2.kept.size;(try simp at zL);(try (have hzL:=(Kept.trans (b:=_) (by(with_reducible (first | exact Kept.refl _ _ | exact keptA))) Y2.kept).obj hzA (by omega)));(try (have hzL:w3.heap[wA.heap.size]?=some zeroS:=Y2.kept.obj (heap_alloc_new wA _) (by omega)));(try (have hsl:=slot14 hzL;obtain⟨z0,z1,z2,z3,z4,z5,z6,z7,z8,z9,z10,z11,z12,z13,y0,y1,y2,y3,y4,y5,y6,y7,y8,y9,y10,y11,y12,y13⟩:=hsl)))
   | (refine step_append_lab rfl (.tmp 176) (.tmp 178) rfl mb (3-dd) ?hm a len cap rfl ?hL (by omega) _ 1 (labels+1) rfl (by omega) ?hnew ?_;(case hm=>(first | omega | (simp;omega)));(case hL=>exact((hlx.kept (by(with_reducible (first | exact keptD | exact keptAD | exact keptA.trans keptAD)))).kept Y1.kept).kept (by(with_reducible (first | exact Kept.refl _ _ | exact keptA | exact keptA.trans keptA))));(case hnew=>(rw[addr_add];exact cell_of_cells (by first | exact heap_alloc_new w2 _ | exact heap2_0 w2 _ _ | exact heap2_1 w2 _ _ | exact hb | exact(keptA (M:=fun _=>False)).obj hb (fun f=>f)) 0 rfl));intro lv wA LA KA;have kWA:Kept (fun _=>False) w2 wA:=Kept.trans (by(with_reducible (first | exact Kept.refl _ _ | exact keptA | exact keptA.trans keptA))) KA;have zA:=KA.size;(try simp at zA);(try (have hzA:=kWA.obj hz (fun f=>f)));(try (have hzA:wA.heap[w2.heap.size]?=some zeroS:=KA.obj (by first | exact heap_alloc_new w2 _ | exact heap2_0 w2 _ _) (fun f=>f)));(try (have hzA:wA.heap[w2.heap.size+1]?=some zeroS:=KA.obj (heap2_1 w2 _ _) (fun f=>f)))))
  all_goals go_wp2_with fail
  all_goals go_meet
  all_goals refine⟨_,k1,n1,op1,kids1,body1,ak1,nk1,ck1,ab1,nb1,cb1,t,a2,n2,cap2,c3,rfl,LabI.of hM hkx zx ox ?_ Y1 (Kept.trans kWA ?_) Y2 ?_ ?_ ?_ ?_⟩
  all_goals first
   | (with_reducible exact kept14L)
   | (with_reducible exact keptD)
   | (with_reducible exact keptAD)
   | (with_reducible exact keptA.trans keptAD)
   | (with_reducible exact Kept.refl _ _)
   | (with_reducible exact keptA)
   | (with_reducible exact set14_of hzL)
   | (with_reducible exact heap_alloc_new _ _)
   | omega
   | (simp;omega)
   | exact .inl (by simp;omega)
   | exact .inl (by simp)
 case rest =>
 obtain⟨ib,k1,n1,op1,kids1,body1,ak1,nk1,ck1,ab1,nb1,cb1,t,a2,n2,cap2,c3,rfl,I⟩:=hcut
 have zib:=I.hib
 have zr:=lt_of_heap I.res
 have zi:=lt_of_heap I.obj
 obtain⟨r0,r1,r2,r3,r4,r5,r6,r7,r8,r9,r10,r11,r12,r13,q0,q1,q2,q3,q4,q5,q6,q7,q8,q9,q10,q11,q12,q13⟩:=slot14 I.res
 obtain⟨x0,x1,x2,x3,x4,x5,x6,x7,x8,x9,x10,x11,x12,x13,y0,y1,y2,y3,y4,y5,y6,y7,y8,y9,y10,y11,y12,y13⟩:=slot14 I.obj
 go_wp2_with fail
 refine bodyPost_ret (v:=.agg #[.int .i64 11,.int .i64 0,.string ⟨#[]⟩,.string (lab (labels+1)),.int .i64 0,.int .i64 0,.string ⟨#[]⟩,.slice none 0 0,.slice none 0 0,.slice (some ⟨wc.heap.size,0,none⟩) 1 1,.slice none 0 0,.bool false,.bool false,.slice none 0 0]) (by simp[results,Tryz.results29,go_sem,r0,r1,r2,r3,r4,r5,r6,r7,r8,r9,r10,r11,r12,r13,zr];done) rfl ?_
 exact LabI.done (r:=wc.heap.size) Hdd.out hM hl hkind (by omega) I ((Kept.set14 (M:=fun b=>b=w.heap.size) rfl).trans keptA) (heap_new_at (by simp) _) (by omega)
end Go.Proofs.YtleolbpibjnedaaGreat
