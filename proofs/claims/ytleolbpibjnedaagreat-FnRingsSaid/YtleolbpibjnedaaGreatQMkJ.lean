/- The laws' maker: statements: assignments, counts, calls. -/
import Derived.Test.YtleolbpibjnedaaGreatQMkH
import Derived.Test.YtleolbpibjnedaaGreatQMkG
import Derived.Deep.RegionWith
import Derived.Deep.DeepCutAuto
import Derived.Deep.CutBlock
set_option linter.unusedSimpArgs false
set_option linter.unusedVariables false
set_option maxRecDepth 100000
set_option maxHeartbeats 4000000
namespace Go.Proofs.YtleolbpibjnedaaGreat
open Go Go.RowKit Gc
theorem stmt_call(dd j:Nat)(hd:dd≤3)(hj2:j≤2)(hC:ContrCall 2 j)(w:World)(mb:Nat)(ns:Value)(fl:Bool)(c:MC)(inn:Bool)(a:Option Addr)(len cap:Nat)(h:MSt w mb ns fl c)(hj:c.inner+j=2)(hl:0≤c.left)(D:Int)(hD:D=dd)
 (n np:Nat) (hn:n<536870912) (hnp:dd=0∧np=n / 16*16∨dd≠0∧np=n) (hnext:Calls Tryz.prog 42 #[.pointer (some ⟨mb,0,none⟩)] (w.alloc zeroS) (NextN (w.alloc zeroS) mb ns fl c n))
 (hr:np%16≤4∨np%16=11∧len=0∨np%16=12∧inn=false∨np%16=13∧¬ np / 32%3=0) (hr2:4≤(np:Int) / 16%6) :
 Calls Tryz.prog 29 #[.pointer (some ⟨mb,0,none⟩),.int .i64 D,.bool inn,.slice a len cap] w (StmtP w mb ns fl c 1 (3+11*(dd+j)) 1 0 (4+5*dd+8*j) (fun _=>True)):=by
 have hM:=h
 have hmb:=lt_of_heap h.obj
 have hn':=Lib.hid hnext
 have hr':=Lib.hid hr
 have hC':=Lib.hid hC
 have hDd:=Lib.hid hD
 have hD0:0≤D:=by omega
 have hD1:D≤3:=by omega
 have hpp:=Lib.hid hnp
 have hpb:np<536870912:=by omega
 clear hnext hC hD hnp hr
 go_enter Tryz.func29,Tryz.ntmps29
 go_wp2_with fail
 refine hn'.out.mono ?_
 rintro e w1 ⟨rfl,hst,hk⟩
 obtain⟨rc,rf⟩:=keptRules hk hmb
 have z1:w.heap.size<w1.heap.size:=by have:=hk.size;simp at this;omega
 have hk1:=keptA.trans hk
 have o1:w1.heap[w.heap.size]?=some zeroS:=hk.new (by omega)
 clear hk hn'
 go_upto_if 17 with fail
 go_cut [9] (fun s9 wx=>s9=.int .u32 np∧w1=wx)
 case first=>as_aux_lemma =>
  rcases hpp.out with ⟨hd0,hp⟩|⟨hd0,hp⟩
  · have hD0:(D == 0)=true:=by have:=hDd.out;simp;omega
    have hp':(np:Int)=(n:Int) / 16*16:=by omega
    go_wp2_with fail
    go_meet
    exact⟨by rw[hp'],rfl⟩
  · have hD0:(D == 0)=false:=by have:=hDd.out;simp;omega
    go_wp2_with fail
    go_meet
    exact⟨by rw[hp],rfl⟩
 case rest =>
 obtain⟨rfl,rfl⟩:=hcut
 go_upto_block 0 with fail
 go_cut [22] (fun s22 wx=>w1=wx)
 case first=>as_aux_lemma =>
  rcases hr'.out with hr|⟨hr,hr0⟩|⟨hr,hr0⟩|⟨hr,hr0⟩
  · have b5:((np:Int)%16 == 5)=false:=by simp;omega
    have b6:((np:Int)%16 == 6)=false:=by simp;omega
    have b7:((np:Int)%16 == 7)=false:=by simp;omega
    have b8:((np:Int)%16 == 8)=false:=by simp;omega
    have b9:((np:Int)%16 == 9)=false:=by simp;omega
    have b10:((np:Int)%16 == 10)=false:=by simp;omega
    have b11:((np:Int)%16 == 11)=false:=by simp;omega
    have b12:((np:Int)%16 == 12)=false:=by simp;omega
    have b13:((np:Int)%16 == 13)=false:=by simp;omega
    have b14:((np:Int)%16 == 14)=false:=by simp;omega
    have b15:((np:Int)%16 == 15)=false:=by simp;omega
    go_wp2_with fail
    go_meet
    exact rfl
  · have hr1:(np:Int)%16=11:=by omega
    subst hr0
    go_wp2_with fail
    go_meet
    exact rfl
  · have hr1:(np:Int)%16=12:=by omega
    subst hr0
    go_wp2_with fail
    go_meet
    exact rfl
  · have hr1:(np:Int)%16=13:=by omega
    have hr2:((np:Int) / 32%3 == 0)=false:=by simp;omega
    go_wp2_with fail
    go_meet
    exact rfl
 case rest =>
 obtain rfl:=hcut
 have b0:((np:Int) / 16%6 == 0)=false:=by simp;omega
 have b1:((np:Int) / 16%6 == 1)=false:=by simp;omega
 have b2:((np:Int) / 16%6 == 2)=false:=by simp;omega
 have b3:((np:Int) / 16%6 == 3)=false:=by simp;omega
 go_wp2_with fail
 refine(hC'.out w1 mb ns fl _ _ hst hj (by simp only[];omega) (by omega) (by omega) _ rfl).mono ?_
 rintro e w2 ⟨k1,n1,op1,kids1,body1,ak1,nk1,ck1,ab1,nb1,cb1,c2,rfl,hk5,Y1⟩
 have z2:=Y1.kept.size
 have z4:w.heap.size<w2.heap.size:=by omega
 have b0:w2.heap[w.heap.size]?=some zeroS:=Y1.kept.obj o1 (by omega)
 obtain⟨r0,r1,r2,r3,r4,r5,r6,r7,r8,r9,r10,r11,r12,r13,q0,q1,q2,q3,q4,q5,q6,q7,q8,q9,q10,q11,q12,q13⟩:=slot14 b0
 go_wp2_with fail
 refine bodyPost_ret (v:=.agg #[.int .i64 0,.int .i64 0,.string ⟨#[]⟩,.string ⟨#[]⟩,.int .i64 5,.int .i64 n1,.string op1,.slice ak1 nk1 ck1,.slice ab1 nb1 cb1,.slice none 0 0,.slice none 0 0,.bool false,.bool false,.slice none 0 0]) (by simp[results,Tryz.results29,go_sem,r0,r1,r2,r3,r4,r5,r6,r7,r8,r9,r10,r11,r12,r13,z4];done) rfl ?_
 have hW:=Y1.wf
 subst hk5
 exact stmt_one_end (kind:=0) (n0:=0) (op0:=sE) hM hl hk1 z1 Y1 (Kept.set14 (M:=fun b=>b=w.heap.size) rfl) (by cases hW;exact .expr _ _ ‹_› ‹_›) (by decide) (by decide) (by omega)
theorem stmt_count(dd j:Nat)(hd:dd≤3)(hj2:j≤2) (w:World)(mb:Nat)(ns:Value)(fl:Bool)(c:MC)(inn:Bool)(a:Option Addr)(len cap:Nat)(h:MSt w mb ns fl c)(hj:c.inner+j=2)(hl:0≤c.left)(D:Int)(hD:D=dd)
 (n np:Nat) (hn:n<536870912) (hnp:dd=0∧np=n / 16*16∨dd≠0∧np=n) (hnext:Calls Tryz.prog 42 #[.pointer (some ⟨mb,0,none⟩)] (w.alloc zeroS) (NextN (w.alloc zeroS) mb ns fl c n))
 (hr:np%16≤4∨np%16=11∧len=0∨np%16=12∧inn=false∨np%16=13∧¬ np / 32%3=0) (hr2:(np:Int) / 16%6=3) :
 Calls Tryz.prog 29 #[.pointer (some ⟨mb,0,none⟩),.int .i64 D,.bool inn,.slice a len cap] w (StmtP w mb ns fl c 1 (3+11*(dd+j)) 1 0 (4+5*dd+8*j) (fun _=>True)):=by
 have hM:=h
 have hmb:=lt_of_heap h.obj
 have hn':=Lib.hid hnext
 have hr':=Lib.hid hr
 have hDd:=Lib.hid hD
 have hD0:0≤D:=by omega
 have hD1:D≤3:=by omega
 have hpp:=Lib.hid hnp
 have hpb:np<536870912:=by omega
 clear hnext hD hnp hr
 go_enter Tryz.func29,Tryz.ntmps29
 go_wp2_with fail
 refine hn'.out.mono ?_
 rintro e w1 ⟨rfl,hst,hk⟩
 obtain⟨rc,rf⟩:=keptRules hk hmb
 have z1:w.heap.size<w1.heap.size:=by have:=hk.size;simp at this;omega
 have hk1:=keptA.trans hk
 have o1:w1.heap[w.heap.size]?=some zeroS:=hk.new (by omega)
 clear hk hn'
 go_upto_if 17 with fail
 go_cut [9] (fun s9 wx=>s9=.int .u32 np∧w1=wx)
 case first=>as_aux_lemma =>
  rcases hpp.out with ⟨hd0,hp⟩|⟨hd0,hp⟩
  · have hD0:(D == 0)=true:=by have:=hDd.out;simp;omega
    have hp':(np:Int)=(n:Int) / 16*16:=by omega
    go_wp2_with fail
    go_meet
    exact⟨by rw[hp'],rfl⟩
  · have hD0:(D == 0)=false:=by have:=hDd.out;simp;omega
    go_wp2_with fail
    go_meet
    exact⟨by rw[hp],rfl⟩
 case rest =>
 obtain⟨rfl,rfl⟩:=hcut
 go_upto_block 0 with fail
 go_cut [22] (fun s22 wx=>w1=wx)
 case first=>as_aux_lemma =>
  rcases hr'.out with hr|⟨hr,hr0⟩|⟨hr,hr0⟩|⟨hr,hr0⟩
  · have b5:((np:Int)%16 == 5)=false:=by simp;omega
    have b6:((np:Int)%16 == 6)=false:=by simp;omega
    have b7:((np:Int)%16 == 7)=false:=by simp;omega
    have b8:((np:Int)%16 == 8)=false:=by simp;omega
    have b9:((np:Int)%16 == 9)=false:=by simp;omega
    have b10:((np:Int)%16 == 10)=false:=by simp;omega
    have b11:((np:Int)%16 == 11)=false:=by simp;omega
    have b12:((np:Int)%16 == 12)=false:=by simp;omega
    have b13:((np:Int)%16 == 13)=false:=by simp;omega
    have b14:((np:Int)%16 == 14)=false:=by simp;omega
    have b15:((np:Int)%16 == 15)=false:=by simp;omega
    go_wp2_with fail
    go_meet
    exact rfl
  · have hr1:(np:Int)%16=11:=by omega
    subst hr0
    go_wp2_with fail
    go_meet
    exact rfl
  · have hr1:(np:Int)%16=12:=by omega
    subst hr0
    go_wp2_with fail
    go_meet
    exact rfl
  · have hr1:(np:Int)%16=13:=by omega
    have hr2:((np:Int) / 32%3 == 0)=false:=by simp;omega
    go_wp2_with fail
    go_meet
    exact rfl
 case rest =>
 obtain rfl:=hcut
 have hb:bits BinOp.and IntKind.u32 ((np:Int) / 512) 1=0∨bits BinOp.and IntKind.u32 ((np:Int) / 512) 1=1:=by rw[and1 _ (by omega) (by omega)];omega
 obtain⟨r0,r1,r2,r3,r4,r5,r6,r7,r8,r9,r10,r11,r12,r13,q0,q1,q2,q3,q4,q5,q6,q7,q8,q9,q10,q11,q12,q13⟩:=slot14 o1
 rcases hb with hb|hb
 · go_wp2_with fail
   refine bodyPost_ret (v:=.agg #[.int .i64 2,.int .i64 ((np:Int) / 128%4),.string sInc,.string ⟨#[]⟩,.int .i64 0,.int .i64 0,.string ⟨#[]⟩,.slice none 0 0,.slice none 0 0,.slice none 0 0,.slice none 0 0,.bool false,.bool false,.slice none 0 0]) (by simp[results,Tryz.results29,go_sem,r0,r1,r2,r3,r4,r5,r6,r7,r8,r9,r10,r11,r12,r13,z1,sInc];done) rfl ?_
   exact stmt_leaf_end (kind:=2) (n0:=np / 128%4) (op0:=sInc) (lab0:=sE) hM hl hst hk1 ((Kept.setF14 (Nat.le_refl _)).trans keptA) (.count _ _ (Nat.mod_lt _ (by decide)) (.inl rfl)) (by decide)
 · go_wp2_with fail
   refine bodyPost_ret (v:=.agg #[.int .i64 2,.int .i64 ((np:Int) / 128%4),.string sDec,.string ⟨#[]⟩,.int .i64 0,.int .i64 0,.string ⟨#[]⟩,.slice none 0 0,.slice none 0 0,.slice none 0 0,.slice none 0 0,.bool false,.bool false,.slice none 0 0]) (by simp[results,Tryz.results29,go_sem,r0,r1,r2,r3,r4,r5,r6,r7,r8,r9,r10,r11,r12,r13,z1,sDec];done) rfl ?_
   exact stmt_leaf_end (kind:=2) (n0:=np / 128%4) (op0:=sDec) (lab0:=sE) hM hl hst hk1 ((Kept.setF14 (Nat.le_refl _)).trans keptA) (.count _ _ (Nat.mod_lt _ (by decide)) (.inr rfl)) (by decide)
theorem kept14e{w3:World}{b:Nat}{v0 v1 v2 v3 v4 v5 v6 v7 v8 v9 v10 v11 v12 v13:Value}:Kept (fun k=>k=b) w3 ((((((((((((((w3.setCell ⟨b,0,none⟩ v0).setCell ⟨b,1,none⟩ v1).setCell ⟨b,2,none⟩ v2).setCell ⟨b,3,none⟩ v3).setCell ⟨b,4,none⟩ v4).setCell ⟨b,5,none⟩ v5).setCell ⟨b,6,none⟩ v6).setCell ⟨b,7,none⟩ v7).setCell ⟨b,8,none⟩ v8).setCell ⟨b,9,none⟩ v9).setCell ⟨b,10,none⟩ v10).setCell ⟨b,11,none⟩ v11).setCell ⟨b,12,none⟩ v12).setCell ⟨b,13,none⟩ v13):=Kept.set14 (M:=fun k=>k=b) rfl
theorem kept14a{w3:World}{b:Nat}{v0 v1 v2 v3 v4 v5 v6 v7 v8 v9 v10 v11 v12 v13:Value}{o:Obj}:Kept (fun k=>k=b) w3 (((((((((((((((w3.setCell ⟨b,0,none⟩ v0).setCell ⟨b,1,none⟩ v1).setCell ⟨b,2,none⟩ v2).setCell ⟨b,3,none⟩ v3).setCell ⟨b,4,none⟩ v4).setCell ⟨b,5,none⟩ v5).setCell ⟨b,6,none⟩ v6).setCell ⟨b,7,none⟩ v7).setCell ⟨b,8,none⟩ v8).setCell ⟨b,9,none⟩ v9).setCell ⟨b,10,none⟩ v10).setCell ⟨b,11,none⟩ v11).setCell ⟨b,12,none⟩ v12).setCell ⟨b,13,none⟩ v13).alloc o):=(Kept.set14 (M:=fun k=>k=b) rfl).trans keptA
theorem set14_e{w3:World}{b:Nat}{v0 v1 v2 v3 v4 v5 v6 v7 v8 v9 v10 v11 v12 v13 z0 z1 z2 z3 z4 z5 z6 z7 z8 z9 z10 z11 z12 z13:Value}{t:TypeId}(h:w3.heap[b]?=some (.cells #[z0,z1,z2,z3,z4,z5,z6,z7,z8,z9,z10,z11,z12,z13] t (0,0))):((((((((((((((w3.setCell ⟨b,0,none⟩ v0).setCell ⟨b,1,none⟩ v1).setCell ⟨b,2,none⟩ v2).setCell ⟨b,3,none⟩ v3).setCell ⟨b,4,none⟩ v4).setCell ⟨b,5,none⟩ v5).setCell ⟨b,6,none⟩ v6).setCell ⟨b,7,none⟩ v7).setCell ⟨b,8,none⟩ v8).setCell ⟨b,9,none⟩ v9).setCell ⟨b,10,none⟩ v10).setCell ⟨b,11,none⟩ v11).setCell ⟨b,12,none⟩ v12).setCell ⟨b,13,none⟩ v13).heap[b]?=some (.cells #[v0,v1,v2,v3,v4,v5,v6,v7,v8,v9,v10,v11,v12,v13] t (0,0)):=(set_of_cells (set_of_cells (set_of_cells (set_of_cells (set_of_cells (set_of_cells (set_of_cells (set_of_cells (set_of_cells (set_of_cells (set_of_cells (set_of_cells (set_of_cells (set_of_cells h 0 v0) 1 v1) 2 v2) 3 v3) 4 v4) 5 v5) 6 v6) 7 v7) 8 v8) 9 v9) 10 v10) 11 v11) 12 v12) 13 v13)
theorem set14_a{w3:World}{b:Nat}{v0 v1 v2 v3 v4 v5 v6 v7 v8 v9 v10 v11 v12 v13 z0 z1 z2 z3 z4 z5 z6 z7 z8 z9 z10 z11 z12 z13:Value}{t:TypeId}{o:Obj}(h:w3.heap[b]?=some (.cells #[z0,z1,z2,z3,z4,z5,z6,z7,z8,z9,z10,z11,z12,z13] t (0,0))):(((((((((((((((w3.setCell ⟨b,0,none⟩ v0).setCell ⟨b,1,none⟩ v1).setCell ⟨b,2,none⟩ v2).setCell ⟨b,3,none⟩ v3).setCell ⟨b,4,none⟩ v4).setCell ⟨b,5,none⟩ v5).setCell ⟨b,6,none⟩ v6).setCell ⟨b,7,none⟩ v7).setCell ⟨b,8,none⟩ v8).setCell ⟨b,9,none⟩ v9).setCell ⟨b,10,none⟩ v10).setCell ⟨b,11,none⟩ v11).setCell ⟨b,12,none⟩ v12).setCell ⟨b,13,none⟩ v13).alloc o).heap[b]?=some (.cells #[v0,v1,v2,v3,v4,v5,v6,v7,v8,v9,v10,v11,v12,v13] t (0,0)):=(Kept.alloc (fun _=>False) _ _).obj (set14_e h) (fun f=>f)
theorem pickA(i:Int)(h0:0≤i)(h1:i<4):∃ op0,(∀ W:World,(W.alloc (Obj.cells #[Value.string { data:=#[] },Value.string { data:=#[] },Value.string { data:=#[] },Value.string { data:=#[43] }] 9)).cell? { block:=W.heap.size,off:=i.toNat }=some (.string op0))∧(∀ (hh:i.toNat<([Value.string { data:=#[] },Value.string { data:=#[] },Value.string { data:=#[] },Value.string { data:=#[43] }]:List Value).length),([Value.string { data:=#[] },Value.string { data:=#[] },Value.string { data:=#[] },Value.string { data:=#[43] }]:List Value)[i.toNat]'hh=.string op0)∧(op0=sE∨op0=sPlus):=by
 have:i=0∨i=1∨i=2∨i=3:=by omega
 rcases this with rfl|rfl|rfl|rfl
 · exact⟨sE,fun W=>cell_of_cells (heap_alloc_new W _) 0 rfl,fun _=>rfl,.inl rfl⟩
 · exact⟨sE,fun W=>cell_of_cells (heap_alloc_new W _) 1 rfl,fun _=>rfl,.inl rfl⟩
 · exact⟨sE,fun W=>cell_of_cells (heap_alloc_new W _) 2 rfl,fun _=>rfl,.inl rfl⟩
 · exact⟨sPlus,fun W=>cell_of_cells (heap_alloc_new W _) 3 rfl,fun _=>rfl,.inr rfl⟩
theorem stmt_assign(dd j:Nat)(hd:dd≤3)(hj2:j≤2)(hE:ContrE 2 j)(w:World)(mb:Nat)(ns:Value)(fl:Bool)(c:MC)(inn:Bool)(a:Option Addr)(len cap:Nat)(h:MSt w mb ns fl c)(hj:c.inner+j=2)(hl:0≤c.left)(D:Int)(hD:D=dd)
 (n np:Nat) (hn:n<536870912) (hnp:dd=0∧np=n / 16*16∨dd≠0∧np=n) (hnext:Calls Tryz.prog 42 #[.pointer (some ⟨mb,0,none⟩)] (w.alloc zeroS) (NextN (w.alloc zeroS) mb ns fl c n))
 (hr:np%16≤4∨np%16=11∧len=0∨np%16=12∧inn=false∨np%16=13∧¬ np / 32%3=0) (hr2:(np:Int) / 16%6<3) :
 Calls Tryz.prog 29 #[.pointer (some ⟨mb,0,none⟩),.int .i64 D,.bool inn,.slice a len cap] w (StmtP w mb ns fl c 1 (3+11*(dd+j)) 1 0 (4+5*dd+8*j) (fun _=>True)):=by
 have hM:=h
 have hmb:=lt_of_heap h.obj
 have hn':=Lib.hid hnext
 have hr':=Lib.hid hr
 have hE':=Lib.hid hE
 have hDd:=Lib.hid hD
 have hD0:0≤D:=by omega
 have hD1:D≤3:=by omega
 have hpp:=Lib.hid hnp
 have hpb:np<536870912:=by omega
 clear hnext hE hD hnp hr
 go_enter Tryz.func29,Tryz.ntmps29
 go_wp2_with fail
 refine hn'.out.mono ?_
 rintro e w1 ⟨rfl,hst,hk⟩
 obtain⟨rc,rf⟩:=keptRules hk hmb
 have z1:w.heap.size<w1.heap.size:=by have:=hk.size;simp at this;omega
 have hk1:=keptA.trans hk
 have o1:w1.heap[w.heap.size]?=some zeroS:=hk.new (by omega)
 clear hk hn'
 go_upto_if 17 with fail
 go_cut [9] (fun s9 wx=>s9=.int .u32 np∧w1=wx)
 case first=>as_aux_lemma =>
  rcases hpp.out with ⟨hd0,hp⟩|⟨hd0,hp⟩
  · have hD0:(D == 0)=true:=by have:=hDd.out;simp;omega
    have hp':(np:Int)=(n:Int) / 16*16:=by omega
    go_wp2_with fail
    go_meet
    exact⟨by rw[hp'],rfl⟩
  · have hD0:(D == 0)=false:=by have:=hDd.out;simp;omega
    go_wp2_with fail
    go_meet
    exact⟨by rw[hp],rfl⟩
 case rest =>
 obtain⟨rfl,rfl⟩:=hcut
 go_upto_block 0 with fail
 go_cut [22] (fun s22 wx=>w1=wx)
 case first=>as_aux_lemma =>
  rcases hr'.out with hr|⟨hr,hr0⟩|⟨hr,hr0⟩|⟨hr,hr0⟩
  · have b5:((np:Int)%16 == 5)=false:=by simp;omega
    have b6:((np:Int)%16 == 6)=false:=by simp;omega
    have b7:((np:Int)%16 == 7)=false:=by simp;omega
    have b8:((np:Int)%16 == 8)=false:=by simp;omega
    have b9:((np:Int)%16 == 9)=false:=by simp;omega
    have b10:((np:Int)%16 == 10)=false:=by simp;omega
    have b11:((np:Int)%16 == 11)=false:=by simp;omega
    have b12:((np:Int)%16 == 12)=false:=by simp;omega
    have b13:((np:Int)%16 == 13)=false:=by simp;omega
    have b14:((np:Int)%16 == 14)=false:=by simp;omega
    have b15:((np:Int)%16 == 15)=false:=by simp;omega
    go_wp2_with fail
    go_meet
    exact rfl
  · have hr1:(np:Int)%16=11:=by omega
    subst hr0
    go_wp2_with fail
    go_meet
    exact rfl
  · have hr1:(np:Int)%16=12:=by omega
    subst hr0
    go_wp2_with fail
    go_meet
    exact rfl
  · have hr1:(np:Int)%16=13:=by omega
    have hr2:((np:Int) / 32%3 == 0)=false:=by simp;omega
    go_wp2_with fail
    go_meet
    exact rfl
 case rest =>
 obtain rfl:=hcut
 go_upto_if 189 with fail
 go_cut [189] (fun s wx=>s=.bool true∧w1=wx)
 case first=>as_aux_lemma =>
  have:(np:Int) / 16%6=0∨(np:Int) / 16%6=1∨(np:Int) / 16%6=2:=by omega
  rcases this with hr|hr|hr
  · go_wp2_with fail
    go_meet
    exact⟨by simp[hr],rfl⟩
  · go_wp2_with fail
    go_meet
    exact⟨rfl,rfl⟩
  · go_wp2_with fail
    go_meet
    exact⟨rfl,rfl⟩
 case rest =>
 obtain⟨rfl,rfl⟩:=hcut
 go_upto_region 43 with fail
 obtain⟨ix,ti1,ti2,t0,t1⟩:∃ ix:Int,((np:Int) / 512).tmod 4=ix∧(np:Int) / 512%4=ix∧0≤ix∧ix<4:=⟨_,rfl,by rw[Int.tmod_eq_emod_of_nonneg (by omega)],by rw[Int.tmod_eq_emod_of_nonneg (by omega)];omega,by rw[Int.tmod_eq_emod_of_nonneg (by omega)];omega⟩
 obtain⟨n0,t2,t2e,t5⟩:∃ n0:Nat,((np:Int) / 128).tmod 4=n0∧(np:Int) / 128%4=n0∧n0<4:=⟨np / 128%4,by rw[Int.tmod_eq_emod_of_nonneg (by omega)];omega,by omega,Nat.mod_lt _ (by decide)⟩
 have t3:IntKind.i64.wrap (n0:Int)=n0:=by rw[IntKind.wrap_i64];omega
 have z1b:w.heap.size≤w1.heap.size:=by omega
 obtain⟨op0,hop,hopl,hop2⟩:=pickA _ t0 t1
 have cf5:=cell_of_cells hst.obj 5 rfl
 have hmb1:=lt_of_heap hst.obj
 have hne:mb≠w.heap.size:=by omega
 have hne':w.heap.size≠mb:=by omega
 go_cut [] (fun wy=>∃ (n0:Nat) (op0:Str) (k1 n1:Nat) (op1:Str) (kids1 body1:T) (ak1:Option Addr) (nk1 ck1:Nat) (ab1:Option Addr) (nb1 cb1:Nat) (c2:MC) (W1 w2:World),n0<4∧(op0=sE∨op0=sPlus)∧GotE W1 mb ns fl { c with m:=c.m+1,left:=c.left-1 } 1 (1+(2:Nat)+11*j) 1 0 (1+2+8*j) k1 n1 op1 kids1 body1 ak1 nk1 ck1 ab1 nb1 cb1 c2 w2 ∧
  Kept (fun b=>b=mb) w1 W1∧Kept (fun b=>b=w.heap.size) w2 wy∧wy.heap[w.heap.size]?=some (.cells #[.int .i64 1,.int .i64 n0,.string op0,.string ⟨#[]⟩,.int .i64 k1,.int .i64 n1,.string op1,.slice ak1 nk1 ck1,.slice ab1 nb1 cb1,.slice none 0 0,.slice none 0 0,.bool false,.bool false,.slice none 0 0] 66 (0,0)))
 case first =>
  go_region_with (first
   | (go_at_call 44;refine(hE'.out _ mb ns fl _ (hst.keptBut (M:=fun b=>w1.heap.size≤b) ?k1 (fun _ h=>h)) ?k2 ?k3 _ rfl).mono ?_;(case k1=>first | exact keptD | exact keptAD);(case k2=>exact hj);(case k3=>(simp only[];omega));rintro e w2 ⟨k1,n1,op1,kids1,body1,ak1,nk1,ck1,ab1,nb1,cb1,c2,rfl,_,Y1⟩;obtain⟨rc2,rf2⟩:=keptRules Y1.kept (B:=w.heap.size) hmb;have kA:Kept (fun b=>b=mb) w1 w2:=Kept.trans (by first | exact keptD | exact keptAD) Y1.kept;obtain⟨rcA,rfA⟩:=keptRules kA (B:=w.heap.size) hmb;have z2:=Y1.kept.size;(try simp at z2);(try (have z2c:w1.heap.size<w2.heap.size:=(by omega)));have z2a:w.heap.size<w2.heap.size:=(by omega);have z2b:w.heap.size≤w2.heap.size:=(by omega);have z2d:w1.heap.size≤w2.heap.size:=(by omega);clear z2;have cf6:=cell_of_cells Y1.st.obj 5 rfl))
  all_goals go_wp2_with fail
  all_goals go_meet
  all_goals refine⟨n0,op0,k1,n1,op1,kids1,body1,ak1,nk1,ck1,ab1,nb1,cb1,c2,_,w2,t5,hop2,Y1,?_,?_,?_⟩
  all_goals first
   | (with_reducible exact kept14e)
   | (with_reducible exact kept14a)
   | (with_reducible exact keptD)
   | (with_reducible exact keptAD)
   | (with_reducible exact set14_e (kA.obj o1 (by omega)))
   | (with_reducible exact set14_a (kA.obj o1 (by omega)))
 case rest=>as_aux_lemma =>
 obtain⟨n0,op0,k1,n1,op1,kids1,body1,ak1,nk1,ck1,ab1,nb1,cb1,c2,W1,w2,t5,hop2,Y1,kW,kC,ob⟩:=hcut
 obtain⟨r0,r1,r2,r3,r4,r5,r6,r7,r8,r9,r10,r11,r12,r13,q0,q1,q2,q3,q4,q5,q6,q7,q8,q9,q10,q11,q12,q13⟩:=slot14 ob
 go_wp2_with fail
 refine bodyPost_ret (v:=.agg #[.int .i64 1,.int .i64 n0,.string op0,.string ⟨#[]⟩,.int .i64 k1,.int .i64 n1,.string op1,.slice ak1 nk1 ck1,.slice ab1 nb1 cb1,.slice none 0 0,.slice none 0 0,.bool false,.bool false,.slice none 0 0]) (by simp[results,Tryz.results29,go_sem,r0,r1,r2,r3,r4,r5,r6,r7,r8,r9,r10,r11,r12,r13];done) rfl ?_
 exact stmt_one_end (kind:=1) (n0:=n0) (op0:=op0) hM hl (hk1.trans kW) (Nat.lt_of_lt_of_le z1 kW.size) Y1 kC (.assign _ _ _ t5 hop2 Y1.wf) (by decide) (by decide) (by omega)
end Go.Proofs.YtleolbpibjnedaaGreat
