/- The laws' maker: statements: switches, selects. -/
import Derived.Test.YtleolbpibjnedaaGreatQMkL
import Derived.Deep.DeepMust
import Derived.Deep.RegionHeld3
import Derived.Deep.RegionLaw
set_option linter.unusedSimpArgs false
set_option linter.unusedVariables false
set_option maxRecDepth 100000
set_option maxHeartbeats 4000000
namespace Go.Proofs.YtleolbpibjnedaaGreat
open Go Go.RowKit Gc
theorem stmt_switchF0(d dd j:Nat)(hd:d≤2)(hdd:dd=d+1)(hj2:j≤2)(hE:ContrE 1 j)(hL:ContrL d j)(w:World)(mb:Nat)(ns:Value)(c:MC)(ls:Value)(h:MSt w mb ns false c)(hj:c.inner+j=2)(hl:0≤c.left)(hls:Labs w mb (3-dd) ls)(D:Int)(hD:D=dd)
 (n:Nat) (hn:n<536870912) (hnext:Calls Tryz.prog 42 #[.pointer (some ⟨mb,0,none⟩)] (w.alloc zeroS) (NextN (w.alloc zeroS) mb ns false c n)) (hr:(n:Int)%16=10) (hbit:(n:Int) / 128%2=0) :
 Calls Tryz.prog 29 #[.pointer (some ⟨mb,0,none⟩),.int .i64 D,.bool false,ls] w (StmtP w mb ns false c 1 (3+11*(dd+j)) 1 0 (4+5*dd+8*j) (fun _=>True)):=by
 have hM:=h
 have hmb:=lt_of_heap h.obj
 have hn':=Lib.hid hnext
 have hE':=Lib.hid hE
 have hL':=Lib.hid hL
 have hDd:=Lib.hid hD
 have Hdd:=Lib.hid hdd
 have hD0:1≤D:=by omega
 have hD1:D≤3:=by omega
 have hd0:(D == 0)=false:=by simp;omega
 clear hnext hE hL hD hdd
 have hw:IntKind.i64.wrap (D-1)=D-1:=by rw[IntKind.wrap_i64];omega
 obtain⟨i0,hi,hz0,hz1,hz2⟩:=info_parts info_sS
 have hb:bits BinOp.and IntKind.u32 ((n:Int) / 128) 1=0:=by rw[and1 _ (by omega) (by omega)];exact hbit
 go_enter Tryz.func29,Tryz.ntmps29
 go_wp2_with fail
 refine hn'.out.mono ?_
 rintro e w1 ⟨rfl,hst,hk⟩
 obtain⟨rc,rf⟩:=keptRules hk hmb
 have z1:w.heap.size<w1.heap.size:=by have:=hk.size;simp at this;omega
 have hk1:=keptA.trans hk
 have o1:w1.heap[w.heap.size]?=some zeroS:=hk.new (by omega)
 clear hk hn'
 go_wp2_with fail
 refine(hE'.out w1 mb ns false _ hst hj (by simp only[];omega) _ rfl).mono ?_
 rintro e w2 ⟨kx,nx,opx,kidsx,bodyx,ax,nkx,cx,ay,nky,cy,c2,rfl,_,Y1⟩
 have z2:=Y1.kept.size
 have z4:w.heap.size<w2.heap.size:=by omega
 have cl5:=cell_of_cells Y1.st.obj 5 rfl
 have hmb2:=lt_of_heap Y1.st.obj
 go_wp2_with fail
 have hs0:=SwI.start (kind:=6) (w3:=w2.alloc (.cells #[.int .i64 6,.int .i64 0,.string ⟨#[]⟩,.string ⟨#[]⟩,.int .i64 kx,.int .i64 nx,.string opx,.slice ax nkx cx,.slice ay nky cy,.slice none 0 0,.slice none 0 0,.bool false,.bool false,.slice none 0 0] 66)) hM hl hk1 z1 o1 Y1 keptA (heap_alloc_new w2 _) (d:=d)
 go_loopw [74] (fun i wr=>∃ (k:Nat) (a:Option Addr) (cap:Nat) (t:T) (c':MC),(k:Int)≤1+n / 16%3∧i=.int .u32 k∧SwI w mb ns false c d j w2.heap.size 6 kx nx opx kidsx bodyx ax nkx cx ay nky cy k a cap t c' wr) (fun i _=>(1+n / 16%3-intOf i).toNat)
 case atStart=>exact⟨0,none,0,.nil,c2,by omega,rfl,hs0⟩
 case round =>
  clear hs0
  obtain⟨k,a,cap,t,c',hk,rfl,I⟩:=hrel
  by_cases hlt:(k:Int)<1+n / 16%3
  · have hx3:=cell_of_cells I.obj 13 rfl
    have cf5:=cell_of_cells I.st.obj 5 rfl
    have hdl:=I.inner
    have hil:=I.low hl
    have hsx:=lt_of_heap I.obj
    have hsm:=lt_of_heap I.st.obj
    go_wp2_with fail
    have hne:mb≠w2.heap.size:=by omega
    have hne':w2.heap.size≠mb:=by omega
    refine wp_region_held_drew (S:=fun wx=>wx.cell? ⟨mb,5,none⟩=some (.bool false)) (by kernel_rfl) (by go_keep) (fun h0=>?_)
    refine wpAnyH_take (i:=0) (oi:=⟨_,_,_,_,_,_⟩) (v:=?tv1) rfl (by kernel_rfl) (by kernel_rfl) (by kernel_rfl) (fun _ _ _ h=>h) (Or.inl ⟨by rfl,?ty1⟩) (by assumption) ?_
    case ty1=>(intro wq hSw;(try dsimp only at hSw);go_simp;try with_reducible rfl)
    try simp only[Act.put,Gc.pL]
    refine wpAnyH_take (i:=2) (oi:=⟨_,_,_,_,_,_⟩) (v:=?tv2) rfl (by kernel_rfl) (by kernel_rfl) (by kernel_rfl) (fun _ _ _ h=>h) (Or.inl ⟨by rfl,?ty2⟩) (by assumption) ?_
    case ty2=>(intro wq hSw;(try dsimp only at hSw);go_simp;try with_reducible rfl)
    try simp only[Act.put,Gc.pL]
    refine wpAnyH_take (i:=3) (oi:=⟨_,_,_,_,_,_⟩) (v:=?tv3) rfl (by kernel_rfl) (by kernel_rfl) (by kernel_rfl) (fun _ _ _ h=>h) (Or.inl ⟨by rfl,?ty3⟩) (by assumption) ?_
    case ty3=>(intro wq hSw;(try dsimp only at hSw);go_simp;try with_reducible rfl)
    try simp only[Act.put,Gc.pL]
    refine wpAnyH_take (i:=4) (oi:=⟨_,_,_,_,_,_⟩) (v:=?tv4) rfl (by kernel_rfl) (by kernel_rfl) (by kernel_rfl) (fun _ _ _ h=>h) (Or.inl ⟨by rfl,?ty4⟩) (by assumption) ?_
    case ty4=>(intro wq hSw;(try dsimp only at hSw);go_simp;try with_reducible rfl)
    try simp only[Act.put,Gc.pL]
    refine wpAnyH_take (i:=5) (oi:=⟨_,_,_,_,_,_⟩) (v:=?tv5) rfl (by kernel_rfl) (by kernel_rfl) (by kernel_rfl) (fun _ _ _ h=>h) (Or.inl ⟨by rfl,?ty5⟩) (by assumption) ?_
    case ty5=>(intro wq hSw;(try dsimp only at hSw);go_simp;try with_reducible rfl)
    try simp only[Act.put,Gc.pL]
    refine wpAnyH_take (i:=6) (oi:=⟨_,_,_,_,_,_⟩) (v:=?tv6) rfl (by kernel_rfl) (by kernel_rfl) (by kernel_rfl) (fun _ _ _ h=>h) (Or.inl ⟨by rfl,?ty6⟩) (by assumption) ?_
    case ty6=>(intro wq hSw;(try dsimp only at hSw);go_simp;try with_reducible rfl)
    try simp only[Act.put,Gc.pL]
    refine wpAnyH_take (i:=7) (oi:=⟨_,_,_,_,_,_⟩) (v:=undef) rfl (by kernel_rfl) (by kernel_rfl) (by kernel_rfl) (fun _ _ _ h=>h) (Or.inr ⟨by rfl,rfl⟩) (by assumption) ?_
    try simp only[Act.put,Gc.pL]
    refine wpAnyH_take (i:=8) (oi:=⟨_,_,_,_,_,_⟩) (v:=undef) rfl (by kernel_rfl) (by kernel_rfl) (by kernel_rfl) (fun _ _ _ h=>h) (Or.inr ⟨by rfl,rfl⟩) (by assumption) ?_
    try simp only[Act.put,Gc.pL]
    refine wpAnyH_take (i:=9) (oi:=⟨_,_,_,_,_,_⟩) (v:=undef) rfl (by kernel_rfl) (by kernel_rfl) (by kernel_rfl) (fun _ _ _ h=>h) (Or.inr ⟨by rfl,rfl⟩) (by assumption) ?_
    try simp only[Act.put,Gc.pL]
    refine wpAnyH_take (i:=10) (oi:=⟨_,_,_,_,_,_⟩) (v:=undef) rfl (by kernel_rfl) (by kernel_rfl) (by kernel_rfl) (fun _ _ _ h=>h) (Or.inr ⟨by rfl,rfl⟩) (by assumption) ?_
    try simp only[Act.put,Gc.pL]
    refine wpAnyH_take (i:=11) (oi:=⟨_,_,_,_,_,_⟩) (v:=?tv11) rfl (by kernel_rfl) (by kernel_rfl) (by kernel_rfl) (fun _ _ _ h=>h) (Or.inl ⟨by rfl,?ty11⟩) (by assumption) ?_
    case ty11=>(intro wq hSw;(try dsimp only at hSw);go_simp;try with_reducible rfl)
    try simp only[Act.put,Gc.pL]
    refine wpAnyH_take (i:=12) (oi:=⟨_,_,_,_,_,_⟩) (v:=?tv12) rfl (by kernel_rfl) (by kernel_rfl) (by kernel_rfl) (fun _ _ _ h=>h) (Or.inl ⟨by rfl,?ty12⟩) (by assumption) ?_
    case ty12=>(intro wq hSw;(try dsimp only at hSw);go_simp;try with_reducible rfl)
    try simp only[Act.put,Gc.pL]
    refine wpAnyH_ready (rs:=[1,13]) (by kernel_rfl) (by simp) ?_
    refine AllReadyH.cons (o:=⟨_,_,_,_,_,_⟩) rfl (fun K hK=>?_) ?_
    · go_simp
      refine hK.out _ _ (by(try dsimp only);go_keep) (fun h1=>?_)
      clear hK K h0
      try simp only[Act.put,Gc.pL]
      refine wpAnyH_ready (rs:=[13]) (by kernel_rfl) (by simp) ?_
      refine AllReadyH.cons (o:=⟨_,_,_,_,_,_⟩) rfl (fun K hK=>?_) AllReadyH.nil
      go_simp
      (go_at_call 45;refine(hL'.out _ mb ns false c' _ ls (I.st.keptBut (M:=fun b=>wr.heap.size≤b) ?k1 (fun _ h=>h)) ?k2 ?k3 ?k4 _ (by have:=hDd.out;have:=Hdd.out;omega)).mono ?_;(case k1=>exact keptD);(case k2=>omega);(case k3=>omega);(case k4=>exact((hls.kept I.kept).kept keptD).up (by have:=Hdd.out;omega));rintro e w4 ⟨t2,a2,n2,cap2,c3,rfl,Y⟩;have hy4:=(I.app (by omega) Y (Obj.cells #[] 66)).2.2.2;have hy3:w4.cell? ⟨w2.heap.size,13,none⟩=some (.slice a k cap):=(keptD.trans Y.kept).cell hx3 (by simp;omega);have cf6:=cell_of_cells Y.st.obj 5 rfl)
      go_wp2_with fail
      refine hK.out _ _ (by(try dsimp only);go_keep) (fun h2=>?_)
      clear hK K h1
      try simp only[Act.put,Gc.pL]
      refine wpAnyH_ready (rs:=[14]) (by kernel_rfl) (by simp) ?_
      refine AllReadyH.cons (o:=⟨_,_,_,_,_,_⟩) rfl (fun K hK=>?_) AllReadyH.nil
      go_simp
      refine hK.out _ _ (by(try dsimp only);go_keep) (fun h3=>?_)
      clear hK K h2
      try simp only[Act.put,Gc.pL]
      refine wpAnyH_ready (rs:=[15]) (by kernel_rfl) (by simp) ?_
      refine AllReadyH.cons (o:=⟨_,_,_,_,_,_⟩) rfl (fun K hK=>?_) AllReadyH.nil
      (refine step_append_one (D:=fun b=>w2.heap.size<b) (base:=w2.heap.size+1) rfl (.tmp 77) (.tmp 90) 44 rfl i0 _ 24 ul_ssS hi hz0 hz1 hz2 rfl rfl (I.app (by omega) Y _).1 k I.glen ⟨w4.heap.size,0,none⟩ 1 rfl _ _ rfl (new_cells _ _ _) one1 (I.app (by omega) Y _).2.1 (by omega) (by omega) (by have:=hy4;simp<;>omega) ?_;intro g cap' w5 O4 K4 hb4 hg4;have hz3:w5.cell? ⟨w2.heap.size,13,none⟩=some (.slice a k cap):=K4.cell (I.app (by omega) Y _).2.2.1 (fun e=>absurd (I.own.lt _ e.symm).1 (Nat.not_succ_le_self _));have hzf:=I.frz (by omega) Y (Obj.cells #[.slice a2 n2 cap2] 23) K4;have cf7:w5.cell? ⟨mb,5,none⟩=some (.bool false):=K4.cell (keptA.cell (M:=fun _=>False) (cell_of_cells Y.st.obj 5 rfl) (fun f=>f)) (fun e=>by have:=(I.own.lt _ e.symm).1;simp only[]at this;omega))
      refine hK.out _ _ (by(try dsimp only);go_keep) (fun h4=>?_)
      clear hK K h3
      try simp only[Act.put,Gc.pL]
      refine wpAnyH_take (i:=16) (oi:=⟨_,_,_,_,_,_⟩) (v:=?tv13) rfl (by kernel_rfl) (by kernel_rfl) (by kernel_rfl) (fun _ _ _ h=>h) (Or.inl ⟨by rfl,?ty13⟩) (by assumption) ?_
      case ty13=>(intro wq hSw;(try dsimp only at hSw);go_simp;try with_reducible rfl)
      try simp only[Act.put,Gc.pL]
      refine wpAnyH_ready (rs:=[17]) (by kernel_rfl) (by simp) ?_
      refine AllReadyH.cons (o:=⟨_,_,_,_,_,_⟩) rfl (fun K hK=>?_) AllReadyH.nil
      go_simp
      refine hK.out _ _ (by(try dsimp only);go_keep) (fun h5=>?_)
      clear hK K h4
      try simp only[Act.put,Gc.pL]
      refine wpAnyH_done (by kernel_rfl) ?_ _
      all_goals go_wp2_with fail
      all_goals go_roundw
      all_goals first
       | exact⟨k+1,_,_,_,_,by omega,by go_num,I.next hM hl (by omega) (by omega) Y O4 K4⟩
       | (simp[intOf];omega)
    refine AllReadyH.cons (o:=⟨_,_,_,_,_,_⟩) rfl (fun K hK=>?_) AllReadyH.nil
    go_simp
    (go_at_call 45;refine(hL'.out _ mb ns false c' _ ls (I.st.keptBut (M:=fun b=>wr.heap.size≤b) ?k1 (fun _ h=>h)) ?k2 ?k3 ?k4 _ (by have:=hDd.out;have:=Hdd.out;omega)).mono ?_;(case k1=>exact keptD);(case k2=>omega);(case k3=>omega);(case k4=>exact((hls.kept I.kept).kept keptD).up (by have:=Hdd.out;omega));rintro e w4 ⟨t2,a2,n2,cap2,c3,rfl,Y⟩;have hy4:=(I.app (by omega) Y (Obj.cells #[] 66)).2.2.2;have hy3:w4.cell? ⟨w2.heap.size,13,none⟩=some (.slice a k cap):=(keptD.trans Y.kept).cell hx3 (by simp;omega);have cf6:=cell_of_cells Y.st.obj 5 rfl)
    go_wp2_with fail
    refine hK.out _ _ (by(try dsimp only);go_keep) (fun h1=>?_)
    clear hK K h0
    try simp only[Act.put,Gc.pL]
    refine wpAnyH_ready (rs:=[1,14]) (by kernel_rfl) (by simp) ?_
    refine AllReadyH.cons (o:=⟨_,_,_,_,_,_⟩) rfl (fun K hK=>?_) ?_
    · go_simp
      refine hK.out _ _ (by(try dsimp only);go_keep) (fun h2=>?_)
      clear hK K h1
      try simp only[Act.put,Gc.pL]
      refine wpAnyH_ready (rs:=[14]) (by kernel_rfl) (by simp) ?_
      refine AllReadyH.cons (o:=⟨_,_,_,_,_,_⟩) rfl (fun K hK=>?_) AllReadyH.nil
      go_simp
      refine hK.out _ _ (by(try dsimp only);go_keep) (fun h3=>?_)
      clear hK K h2
      try simp only[Act.put,Gc.pL]
      refine wpAnyH_ready (rs:=[15]) (by kernel_rfl) (by simp) ?_
      refine AllReadyH.cons (o:=⟨_,_,_,_,_,_⟩) rfl (fun K hK=>?_) AllReadyH.nil
      (refine step_append_one (D:=fun b=>w2.heap.size<b) (base:=w2.heap.size+1) rfl (.tmp 77) (.tmp 90) 44 rfl i0 _ 24 ul_ssS hi hz0 hz1 hz2 rfl rfl (I.app (by omega) Y _).1 k I.glen ⟨w4.heap.size,0,none⟩ 1 rfl _ _ rfl (new_cells _ _ _) one1 (I.app (by omega) Y _).2.1 (by omega) (by omega) (by have:=hy4;simp<;>omega) ?_;intro g cap' w5 O4 K4 hb4 hg4;have hz3:w5.cell? ⟨w2.heap.size,13,none⟩=some (.slice a k cap):=K4.cell (I.app (by omega) Y _).2.2.1 (fun e=>absurd (I.own.lt _ e.symm).1 (Nat.not_succ_le_self _));have hzf:=I.frz (by omega) Y (Obj.cells #[.slice a2 n2 cap2] 23) K4;have cf7:w5.cell? ⟨mb,5,none⟩=some (.bool false):=K4.cell (keptA.cell (M:=fun _=>False) (cell_of_cells Y.st.obj 5 rfl) (fun f=>f)) (fun e=>by have:=(I.own.lt _ e.symm).1;simp only[]at this;omega))
      refine hK.out _ _ (by(try dsimp only);go_keep) (fun h4=>?_)
      clear hK K h3
      try simp only[Act.put,Gc.pL]
      refine wpAnyH_take (i:=16) (oi:=⟨_,_,_,_,_,_⟩) (v:=?tv14) rfl (by kernel_rfl) (by kernel_rfl) (by kernel_rfl) (fun _ _ _ h=>h) (Or.inl ⟨by rfl,?ty14⟩) (by assumption) ?_
      case ty14=>(intro wq hSw;(try dsimp only at hSw);go_simp;try with_reducible rfl)
      try simp only[Act.put,Gc.pL]
      refine wpAnyH_ready (rs:=[17]) (by kernel_rfl) (by simp) ?_
      refine AllReadyH.cons (o:=⟨_,_,_,_,_,_⟩) rfl (fun K hK=>?_) AllReadyH.nil
      go_simp
      refine hK.out _ _ (by(try dsimp only);go_keep) (fun h5=>?_)
      clear hK K h4
      try simp only[Act.put,Gc.pL]
      refine wpAnyH_done (by kernel_rfl) ?_ _
      all_goals go_wp2_with fail
      all_goals go_roundw
      all_goals first
       | exact⟨k+1,_,_,_,_,by omega,by go_num,I.next hM hl (by omega) (by omega) Y O4 K4⟩
       | (simp[intOf];omega)
    refine AllReadyH.cons (o:=⟨_,_,_,_,_,_⟩) rfl (fun K hK=>?_) AllReadyH.nil
    go_simp
    refine hK.out _ _ (by(try dsimp only);go_keep) (fun h2=>?_)
    clear hK K h1
    try simp only[Act.put,Gc.pL]
    refine wpAnyH_ready (rs:=[1]) (by kernel_rfl) (by simp) ?_
    refine AllReadyH.cons (o:=⟨_,_,_,_,_,_⟩) rfl (fun K hK=>?_) AllReadyH.nil
    go_simp
    refine hK.out _ _ (by(try dsimp only);go_keep) (fun h3=>?_)
    clear hK K h2
    try simp only[Act.put,Gc.pL]
    refine wpAnyH_ready (rs:=[15]) (by kernel_rfl) (by simp) ?_
    refine AllReadyH.cons (o:=⟨_,_,_,_,_,_⟩) rfl (fun K hK=>?_) AllReadyH.nil
    (refine step_append_one (D:=fun b=>w2.heap.size<b) (base:=w2.heap.size+1) rfl (.tmp 77) (.tmp 90) 44 rfl i0 _ 24 ul_ssS hi hz0 hz1 hz2 rfl rfl (I.app (by omega) Y _).1 k I.glen ⟨w4.heap.size,0,none⟩ 1 rfl _ _ rfl (new_cells _ _ _) one1 (I.app (by omega) Y _).2.1 (by omega) (by omega) (by have:=hy4;simp<;>omega) ?_;intro g cap' w5 O4 K4 hb4 hg4;have hz3:w5.cell? ⟨w2.heap.size,13,none⟩=some (.slice a k cap):=K4.cell (I.app (by omega) Y _).2.2.1 (fun e=>absurd (I.own.lt _ e.symm).1 (Nat.not_succ_le_self _));have hzf:=I.frz (by omega) Y (Obj.cells #[.slice a2 n2 cap2] 23) K4;have cf7:w5.cell? ⟨mb,5,none⟩=some (.bool false):=K4.cell (keptA.cell (M:=fun _=>False) (cell_of_cells Y.st.obj 5 rfl) (fun f=>f)) (fun e=>by have:=(I.own.lt _ e.symm).1;simp only[]at this;omega))
    refine hK.out _ _ (by(try dsimp only);go_keep) (fun h4=>?_)
    clear hK K h3
    try simp only[Act.put,Gc.pL]
    refine wpAnyH_take (i:=16) (oi:=⟨_,_,_,_,_,_⟩) (v:=?tv15) rfl (by kernel_rfl) (by kernel_rfl) (by kernel_rfl) (fun _ _ _ h=>h) (Or.inl ⟨by rfl,?ty15⟩) (by assumption) ?_
    case ty15=>(intro wq hSw;(try dsimp only at hSw);go_simp;try with_reducible rfl)
    try simp only[Act.put,Gc.pL]
    refine wpAnyH_ready (rs:=[17]) (by kernel_rfl) (by simp) ?_
    refine AllReadyH.cons (o:=⟨_,_,_,_,_,_⟩) rfl (fun K hK=>?_) AllReadyH.nil
    go_simp
    refine hK.out _ _ (by(try dsimp only);go_keep) (fun h5=>?_)
    clear hK K h4
    try simp only[Act.put,Gc.pL]
    refine wpAnyH_done (by kernel_rfl) ?_ _
    all_goals go_wp2_with fail
    all_goals go_roundw
    all_goals first
     | exact⟨k+1,_,_,_,_,by omega,by go_num,I.next hM hl (by omega) (by omega) Y O4 K4⟩
     | (simp[intOf];omega)
  · have cr:=slot14 I.res
    have cx':=slot14 I.obj
    obtain⟨r0,r1,r2,r3,r4,r5,r6,r7,r8,r9,r10,r11,r12,r13,q0,q1,q2,q3,q4,q5,q6,q7,q8,q9,q10,q11,q12,q13⟩:=cr
    obtain⟨x0,x1,x2,x3,x4,x5,x6,x7,x8,x9,x10,x11,x12,x13,y0,y1,y2,y3,y4,y5,y6,y7,y8,y9,y10,y11,y12,y13⟩:=cx'
    go_wp2_with fail
    refine bodyPost_ret (v:=.agg #[.int .i64 6,.int .i64 0,.string ⟨#[]⟩,.string ⟨#[]⟩,.int .i64 kx,.int .i64 nx,.string opx,.slice ax nkx cx,.slice ay nky cy,.slice none 0 0,.slice none 0 0,.bool false,.bool false,.slice a k cap]) (by simp[results,Tryz.results29,go_sem,r0,r1,r2,r3,r4,r5,r6,r7,r8,r9,r10,r11,r12,r13,sE];done) rfl ?_
    exact I.done Hdd.out hM hl (by omega) (by omega) (by omega) (.inl rfl) (Kept.set14 (M:=fun b=>b=w.heap.size) rfl)
end Go.Proofs.YtleolbpibjnedaaGreat
