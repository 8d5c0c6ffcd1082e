/- The laws' maker: statements: branches. -/
import Derived.Test.YtleolbpibjnedaaGreatQMkD
import Derived.Laws.BitsLemmas
import Derived.Deep.RegionHeld3
import Derived.Deep.DeepMust
import Derived.Deep.RegionWith
set_option linter.unusedSimpArgs false
set_option linter.unusedVariables false
set_option maxRecDepth 100000
set_option maxHeartbeats 4000000
namespace Go.Proofs.YtleolbpibjnedaaGreat
open Go Go.RowKit Gc
theorem and1(x:Int)(h0:0≤x)(h1:x<4294967296):bits .and .u32 x 1=x%2 :=
 bits_mask .u32 32 (by decide) (fun n a b=>by rw[IntKind.wrap_u32];omega) 1 (by decide) x h0 (by omega)
theorem stmt_leaf_end{w w1 wf:World}{mb:Nat}{ns:Value}{fl:Bool}{c:MC}{dd j kind n0:Nat}{op0 lab0:Str}
 (h:MSt w mb ns fl c) (hl:0≤c.left) (hst:MSt w1 mb ns fl { c with m:=c.m+1,left:=c.left-1 }) (hk1:Kept (fun b=>b=mb) w w1) (hC:Kept (fun b=>w.heap.size≤b) w1 wf)
 (hW:W fl .S (.s kind n0 op0 lab0 (.x 0 0 sE .nil .nil) .nil .nil false false .nil)) (hkind:kind≠7∧kind≠6) :
 StmtP w mb ns fl c 1 (3+11*(dd+j)) 1 0 (4+5*dd+8*j) (fun _=>True)
  (.returned (.agg #[.int .i64 kind,.int .i64 n0,.string op0,.string lab0,.int .i64 0,.int .i64 0,.string ⟨#[]⟩,.slice none 0 0,.slice none 0 0,.slice none 0 0,.slice none 0 0,.bool false,.bool false,.slice none 0 0])) wf:=by
 have hmb:=lt_of_heap h.obj
 refine⟨⟨kind,n0,op0,lab0,0,0,_,none,0,0,none,0,0,none,0,0,none,0,0,false,false,none,0,0⟩,.nil,.nil,.nil,.nil,.nil,_,rfl,trivial,hW,⟨_,_,rfl⟩,⟨_,_,rfl⟩,⟨_,_,rfl⟩,⟨_,_,rfl⟩,⟨_,_,rfl⟩,h.later hst hk1 hC,keptFresh hk1 hC,?_,?_,?_⟩
 · exact⟨by simp only[];omega,by simp only[];omega,Nat.le_refl _,by simp only[];omega,rfl,fun _=>by simp only[];omega,fun _=>by simp only[];omega⟩
 · simp only[T.cost,T.len,Nat.reduceEqDiff,if_false]
   omega
 · simp only[T.deep,hkind.1,hkind.2,Nat.reduceEqDiff,if_false,Bool.false_eq_true]
   omega
theorem stmt_break(d dd j:Nat)(hd:d≤2)(hdd:dd=d+1)(hj2:j≤2) (w:World)(mb:Nat)(ns:Value)(fl:Bool)(c:MC)(inn:Bool)(ls:Value)(h:MSt w mb ns fl c)(hj:c.inner+j=2)(hl:0≤c.left)(hls:Labs w mb (3-dd) ls)(D:Int)(hD:D=dd)
 (n:Nat) (hn:n<536870912) (hnext:Calls Tryz.prog 42 #[.pointer (some ⟨mb,0,none⟩)] (w.alloc zeroS) (NextN (w.alloc zeroS) mb ns fl c n)) (hr:(n:Int)%16=12) (hin:inn=true) :
 Calls Tryz.prog 29 #[.pointer (some ⟨mb,0,none⟩),.int .i64 D,.bool inn,ls] w (StmtP w mb ns fl c 1 (3+11*(dd+j)) 1 0 (4+5*dd+8*j) (fun _=>True)):=by
 have hM:=h
 have hmb:=lt_of_heap h.obj
 have hn':=Lib.hid hnext
 have hDd:=Lib.hid hD
 have hD0:1≤D:=by omega
 have hD1:D≤3:=by omega
 have hd0:(D == 0)=false:=by simp;omega
 clear hnext hD
 subst hin
 have hb:bits BinOp.and IntKind.u32 ((n:Int) / 32) 1=0∨bits BinOp.and IntKind.u32 ((n:Int) / 32) 1=1:=by rw[and1 _ (by omega) (by omega)];omega
 rcases hb with hb|hb
 all_goals
  go_enter Tryz.func29,Tryz.ntmps29
  go_wp2_with fail
  refine hn'.out.mono ?_
  rintro e w1 ⟨rfl,hst,hk⟩
  obtain⟨rc,rf⟩:=keptRules hk hmb
  have z1:w.heap.size<w1.heap.size:=by have:=hk.size;simp at this;omega
  have hk1:=keptA.trans hk
  have o1:w1.heap[w.heap.size]?=some zeroS:=hk.new (by omega)
  clear hk hn'
  obtain⟨r0,r1,r2,r3,r4,r5,r6,r7,r8,r9,r10,r11,r12,r13,q0,q1,q2,q3,q4,q5,q6,q7,q8,q9,q10,q11,q12,q13⟩:=slot14 o1
  go_wp2_with fail
 · refine bodyPost_ret (v:=.agg #[.int .i64 8,.int .i64 0,.string sBreak,.string ⟨#[]⟩,.int .i64 0,.int .i64 0,.string ⟨#[]⟩,.slice none 0 0,.slice none 0 0,.slice none 0 0,.slice none 0 0,.bool false,.bool false,.slice none 0 0]) (by simp[results,Tryz.results29,go_sem,r0,r1,r2,r3,r4,r5,r6,r7,r8,r9,r10,r11,r12,r13,z1,sBreak];done) rfl ?_
   exact stmt_leaf_end (kind:=8) (n0:=0) (op0:=sBreak) (lab0:=sE) hM hl hst hk1 ((Kept.setF14 (Nat.le_refl _)).trans keptA) (.branch _ (.inl rfl)) (by decide)
 · refine bodyPost_ret (v:=.agg #[.int .i64 8,.int .i64 0,.string sContinue,.string ⟨#[]⟩,.int .i64 0,.int .i64 0,.string ⟨#[]⟩,.slice none 0 0,.slice none 0 0,.slice none 0 0,.slice none 0 0,.bool false,.bool false,.slice none 0 0]) (by simp[results,Tryz.results29,go_sem,r0,r1,r2,r3,r4,r5,r6,r7,r8,r9,r10,r11,r12,r13,z1,sContinue];done) rfl ?_
   exact stmt_leaf_end (kind:=8) (n0:=0) (op0:=sContinue) (lab0:=sE) hM hl hst hk1 ((Kept.setF14 (Nat.le_refl _)).trans keptA) (.branch _ (.inr rfl)) (by decide)
theorem tmod_toNat(n k:Nat):(((n:Int) / 64).tmod k).toNat=(n / 64)%k:=rfl
theorem LabG.row{w:World}{D:Nat→Prop}:∀ {l:G} {a:Option Addr} {n c:Nat},LabG l→Rep w D l [.slice a n c]→0<n →
 ∃ g o,a=some ⟨g,o,none⟩∧D g∧∀ i,i<n→∃ k,k≤1000∧w.cell? ⟨g,o+i,none⟩=some (.string (lab k)):=by
 intro l
 induction l with
 | nil =>
   rintro a n c _ ⟨a',c',e⟩ hn
   simp only[List.cons.injEq,Value.slice.injEq,and_true]at e
   omega
 | cons hd tl _ ih =>
   intro a n c hl hr hn
   match hd,hl with
   | .at (.string s) .fin,⟨⟨k,hk,hs⟩,hl⟩ =>
     obtain⟨g,o,n',c',hs',e,⟨hD,hg⟩,⟨rs,rfl,rfl⟩,hc,ht⟩:=hr
     simp only[List.cons.injEq,Value.slice.injEq,and_true]at e
     obtain⟨rfl,rfl,rfl⟩:=e
     refine⟨g,o,rfl,hD,fun i hi=>?_⟩
     cases i with
     | zero=>exact⟨k,hk,by rw[hc 0 _ rfl,hs]⟩
     | succ i =>
       obtain⟨g',o',e,_,h⟩:=ih hl ht (by omega)
       simp only[List.length_cons,List.length_nil,Option.some.injEq,Addr.mk.injEq,and_true]at e
       obtain⟨rfl,rfl⟩:=e
       obtain⟨k,hk,h⟩:=h i (by omega)
       exact⟨k,hk,by rw[← h];congr 2;omega⟩
 | _=>intro _ _ _ h;exact h.elim
theorem stmt_goto(d dd j:Nat)(hd:d≤2)(hdd:dd=d+1)(hj2:j≤2) (w:World)(mb:Nat)(ns:Value)(fl:Bool)(c:MC)(inn:Bool)(ls:Value)(h:MSt w mb ns fl c)(hj:c.inner+j=2)(hl:0≤c.left)(hls:Labs w mb (3-dd) ls)(D:Int)(hD:D=dd)
 (n:Nat) (hn:n<536870912) (hnext:Calls Tryz.prog 42 #[.pointer (some ⟨mb,0,none⟩)] (w.alloc zeroS) (NextN (w.alloc zeroS) mb ns fl c n)) (hr:(n:Int)%16=11) (hls0:∃ a k cap,ls=.slice a k cap∧0<k) :
 Calls Tryz.prog 29 #[.pointer (some ⟨mb,0,none⟩),.int .i64 D,.bool inn,ls] w (StmtP w mb ns fl c 1 (3+11*(dd+j)) 1 0 (4+5*dd+8*j) (fun _=>True)):=by
 have hM:=h
 have hmb:=lt_of_heap h.obj
 have hn':=Lib.hid hnext
 have hDd:=Lib.hid hD
 have hD0:1≤D:=by omega
 have hD1:D≤3:=by omega
 have hd0:(D == 0)=false:=by simp;omega
 clear hnext hD
 obtain⟨a,k,cap,rfl,hk0⟩:=hls0
 obtain⟨_,_,_,l,e,_,hG,_,hrep⟩:=hls
 cases e
 obtain⟨g,o,rfl,hgm,hcells⟩:=hG.row hrep hk0
 obtain⟨kk,hkk,hcell⟩:=hcells ((n / 64)%k) (Nat.mod_lt _ hk0)
 have hb:bits BinOp.and IntKind.u32 ((n:Int) / 32) 1=0∨bits BinOp.and IntKind.u32 ((n:Int) / 32) 1=1:=by rw[and1 _ (by omega) (by omega)];omega
 rcases hb with hb|hb
 all_goals
  go_enter Tryz.func29,Tryz.ntmps29
  go_wp2_with fail
  refine hn'.out.mono ?_
  rintro e w1 ⟨rfl,hst,hk⟩
  obtain⟨rc,rf⟩:=keptRules hk hmb
  have z1:w.heap.size<w1.heap.size:=by have:=hk.size;simp at this;omega
  have hcell1:=hk.cell (Kept.alloc (fun _=>False) w zeroS |>.cell hcell (fun f=>f)) hgm
  have hg1:g<w1.heap.size:=World.block_lt_of_cell? w1 _ hcell1
  have ht0:0≤((n:Int) / 64).tmod k:=by rw[Int.tmod_eq_emod_of_nonneg (by omega)];exact Int.emod_nonneg _ (by omega)
  have ht1:((n:Int) / 64).tmod k<k:=by rw[Int.tmod_eq_emod_of_nonneg (by omega)];exact Int.emod_lt_of_pos _ (by omega)
  have ht2:(((n:Int) / 64).tmod k).toNat=(n / 64)%k:=tmod_toNat n k
  have he0:0≤(n:Int) / 64%k:=Int.emod_nonneg _ (by omega)
  have he1:(n:Int) / 64%k<k:=Int.emod_lt_of_pos _ (by omega)
  have hk0n:¬ k=0:=by omega
  have hw:IntKind.i64.wrap ((n:Int) / 64)=(n:Int) / 64:=by rw[IntKind.wrap_i64];omega
  have hk1:=keptA.trans hk
  have o1:w1.heap[w.heap.size]?=some zeroS:=hk.new (by omega)
  clear hk hn'
  obtain⟨r0,r1,r2,r3,r4,r5,r6,r7,r8,r9,r10,r11,r12,r13,q0,q1,q2,q3,q4,q5,q6,q7,q8,q9,q10,q11,q12,q13⟩:=slot14 o1
  go_wp2_with fail
  go_region
  all_goals go_wp2_with fail
 · refine bodyPost_ret (v:=.agg #[.int .i64 8,.int .i64 0,.string sBreak,.string (lab kk),.int .i64 0,.int .i64 0,.string ⟨#[]⟩,.slice none 0 0,.slice none 0 0,.slice none 0 0,.slice none 0 0,.bool false,.bool false,.slice none 0 0]) (by simp[results,Tryz.results29,go_sem,r0,r1,r2,r3,r4,r5,r6,r7,r8,r9,r10,r11,r12,r13,z1,sBreak];done) rfl ?_
   exact stmt_leaf_end (kind:=8) (n0:=0) (op0:=sBreak) (lab0:=lab kk) hM hl hst hk1 ((Kept.setF14 (Nat.le_refl _)).trans keptAD) (.branchTo _ kk (.inl rfl) hkk) (by decide)
 · refine bodyPost_ret (v:=.agg #[.int .i64 8,.int .i64 0,.string sContinue,.string (lab kk),.int .i64 0,.int .i64 0,.string ⟨#[]⟩,.slice none 0 0,.slice none 0 0,.slice none 0 0,.slice none 0 0,.bool false,.bool false,.slice none 0 0]) (by simp[results,Tryz.results29,go_sem,r0,r1,r2,r3,r4,r5,r6,r7,r8,r9,r10,r11,r12,r13,z1,sContinue];done) rfl ?_
   exact stmt_leaf_end (kind:=8) (n0:=0) (op0:=sContinue) (lab0:=lab kk) hM hl hst hk1 ((Kept.setF14 (Nat.le_refl _)).trans keptAD) (.branchTo _ kk (.inr rfl) hkk) (by decide)
end Go.Proofs.YtleolbpibjnedaaGreat
