/- gocognit.recursiveNodes. -/
import Derived.Test.YtleolbpibjnedaaGreatQRgB
set_option linter.unusedSimpArgs false
set_option linter.unusedVariables false
set_option maxRecDepth 100000
set_option maxHeartbeats 4000000
namespace Go.Proofs.YtleolbpibjnedaaGreat
open Go Go.RowKit Gc
theorem makeMap_n{t k e:TypeId}(ht:Tryz.prog.underlying t=some (.map k e))(n:Nat)(w:World):(Instr.makeMap t (some (.int .i64 n))).run Tryz.prog w=.ok (.map (some w.heap.size)) (w.alloc (.map #[] 0)):=by
 simp[Instr.makeMap,run_underlying ht,asInt,asIntOf,Result.andThen]
def RecP(w:World)(B:Nat)(nl:List Nat)(adj:Nat→List Nat)(e:Ending)(w':World):Prop :=
 ∃ (r:Nat→Bool) (mv:Value),e=.returned mv∧(∀ u∈nl,r u=true↔∃ x∈adj u,Gc.Way adj x u)∧(∀ u,u ∉ nl→r u=false)∧((mv=.map none∧∀ u,r u=false)∨∃ mr,mv=.map (some mr)∧w.heap.size≤mr∧MapF w' B mr fun u=>if r u=true then some (.bool true) else none)∧Kept (fun _=>False) w w'
theorem nodes_any{w:World}{B:Nat}{nl:List Nat}{adj:Nat→List Nat}{v0:Value}{am:Nat}(G:GraphP w B nl adj v0 am):Calls Tryz.prog 50 #[v0,.map (some am)] w (RecP w B nl adj):=by
 obtain⟨a0,o0,c0,rfl,ha0,hn0⟩:=id G.row
 have HG:=Lib.hid G
 have Hn0:=Lib.hid hn0
 obtain⟨m,hm⟩:∃ m,m=nl.length:=⟨_,rfl⟩
 have hm1:=G.few.1
 rw[← hm]at hm1 ⊢
 have Hm:=Lib.hid hm
 have hmk:=@run_makeMap Tryz.prog
 have hmn:=makeMap_n ul_mFI m
 have hmb:=makeMap_n ul_mFB m
 clear G hn0 hm
 go_enter Tryz.func50,Tryz.ntmps50
 go_wp2_with fail
 obtain⟨W1,hW1⟩:∃ W1,W1=((((w.alloc (.map #[] 0)).alloc (.map #[] 0)).alloc (.map #[] 0)).alloc (.map #[] 0)):=⟨_,rfl⟩
 have K1:Kept (fun _=>False) w W1:=by rw[hW1];exact((keptA.trans keptA).trans keptA).trans keptA
 have R0:∃ base,MapsP w B w.heap.size (w.heap.size+1) (w.heap.size+1+1) (w.heap.size+1+1+1) base∧base≤W1.heap.size∧RnI w B w.heap.size (w.heap.size+1) (w.heap.size+1+1) (w.heap.size+1+1+1) base nl adj ⟨[],[],fun _=>0,fun _=>0,fun _=>false,0⟩ (.slice none 0 0) (.slice none 0 0) W1:=by
  have hv:∀ u,¬ TS.vis ⟨[],[],fun _=>0,fun _=>0,fun _=>false,0⟩ u:=fun u h=>by rcases h with h | h<;>simp[stk]at h
  have nI:TS.mI ⟨[],[],fun _=>0,fun _=>0,fun _=>false,0⟩=fun _=>none:=funext fun u=>if_neg (hv u)
  have nL:TS.mL ⟨[],[],fun _=>0,fun _=>0,fun _=>false,0⟩=fun _=>none:=funext fun u=>if_neg (hv u)
  have nO:TS.mO ⟨[],[],fun _=>0,fun _=>0,fun _=>false,0⟩=fun _=>none:=funext fun u=>if_neg (hv u)
  have nR:TS.mR ⟨[],[],fun _=>0,fun _=>0,fun _=>false,0⟩=fun _=>none:=funext fun u=>if_neg (by simp)
  have hk:∀ {w1 w2:World},Kept (fun _=>False) w1 w2→∀ {mb},MapF w1 B mb (fun _=>none)→MapF w2 B mb (fun _=>none):=fun hk _ h=>h.kept hk (fun f=>f) (fun _ _ f=>f)
  have z:W1.heap.size=w.heap.size+4:=by rw[hW1];simp
  have low:=HG.out.low.1
  have e1:=MapF.new w B
  have e2:=MapF.new (w.alloc (.map #[] 0)) B
  have e3:=MapF.new ((w.alloc (.map #[] 0)).alloc (.map #[] 0)) B
  have e4:=MapF.new (((w.alloc (.map #[] 0)).alloc (.map #[] 0)).alloc (.map #[] 0)) B
  simp only[World.size_alloc]at e2 e3 e4
  refine⟨W1.heap.size,⟨by omega,by omega,by omega,by omega⟩,Nat.le_refl _,?_⟩
  refine⟨TInv.empty _ _ _,fun u h=>absurd h (hv u),⟨?_,?_,?_,?_,RowP.nil _ _,World.ownsRow_nil _ _ _ _,(fun g h e=>by cases e),K1,Nat.le_refl _⟩,?_,fun u h=>absurd h (hv u)⟩
  · rw[nI,hW1];exact hk keptA (hk keptA (hk keptA e1))
  · rw[nL,hW1];exact hk keptA (hk keptA e2)
  · rw[nO,hW1];exact hk keptA e3
  · rw[nR,hW1];exact e4
  · show 0+_≤_
    rw[Nat.zero_add]
    exact List.length_filter_le _ _
 obtain⟨base,MP,hbase,I0⟩:=R0
 rw[← hW1]
 obtain⟨mi,hmi⟩:∃ mi,mi=w.heap.size:=⟨_,rfl⟩
 obtain⟨ml,hml⟩:∃ ml,ml=w.heap.size+1:=⟨_,rfl⟩
 obtain⟨mo,hmo⟩:∃ mo,mo=w.heap.size+1+1:=⟨_,rfl⟩
 obtain⟨mr,hmr⟩:∃ mr,mr=w.heap.size+1+1+1:=⟨_,rfl⟩
 rw[← hmr,← hmo,← hml,← hmi]at I0 MP ⊢
 have HMP:=Lib.hid MP
 have HI0:=Lib.hid I0
 clear hW1 hmi hml hmo hmr MP I0 hmn hmb
 go_loopw [5,9,42] (fun n st t wr=>∃ (k:Nat) (s:TS),n=.int .i64 s.n∧t=.int .i64 k∧k≤m∧s.fr=[]∧base≤wr.heap.size∧RowKit.Hid ((∀ i (h:i<nl.length),i<k→nl[i]∈s.done)∧RnI w B mi ml mo mr base nl adj s st (.slice none 0 0) wr)) (fun _ _ t _=>((m:Int)-intOf t).toNat)
 case atStart=>exact⟨0,_,rfl,rfl,by omega,rfl,hbase,Lib.hid ⟨fun i h h0=>absurd h0 (by omega),HI0.out⟩⟩
 case round =>
  obtain⟨k,s,rfl,rfl,hk,hfr,hbs,HI⟩:=hrel
  by_cases hlt:(k:Int)<m
  · have hkl:k<nl.length:=by have:=Hm.out;omega
    obtain⟨hdone,I⟩:=HI.out
    have q0:=(I.mem.kept).cell (Hn0.out k hkl) (fun f=>f)
    obtain⟨rt,hrt⟩:∃ rt,rt=nl[k]:=⟨_,rfl⟩
    have hrm:rt∈nl:=by rw[hrt];exact List.getElem_mem _
    rw[← hrt]at q0
    have hblk:=(HG.out.blk rt hrm).kept I.mem.kept (fun _ _ f=>f)
    have hask:=I.mem.mi.ask ul_mFI hblk (zero_intF wr)
    have HI':=Lib.hid I
    have Hrt:=Lib.hid hrt
    have Hdone:=Lib.hid hdone
    clear I hrt hdone HI HI0
    by_cases hv:s.vis rt
    · rw[show s.mI rt=some (.int .i64 (s.ind rt)) from if_pos hv]at hask
      simp only[Option.getD_some,Option.isSome_some]at hask
      go_wp2_with fail
      go_roundw
      · refine⟨k+1,s,rfl,by go_num,by omega,hfr,hbs,Lib.hid ⟨fun i h h0=>?_,HI'.out⟩⟩
        by_cases e:i=k
        · subst e
          rw[← Hrt.out]
          rcases hv with hv|hv
          · rw[hfr]at hv;simp[stk]at hv
          · exact hv
        · exact Hdone.out i h (by omega)
      · simp[intOf];omega
    · rw[show s.mI rt=none from if_neg hv]at hask
      simp only[Option.getD_none,Option.isSome_none]at hask
      obtain⟨w1,w2,v',w3,w4,r1,r2,r3,r4,M4⟩:=see_new HI'.out.mem HMP.out (HG.out.blk rt hrm) (by rw[hfr];simp[stk]) (.int .i64 s.n)
      have hcn:s.n<100:=by
       have h1:=left_len hrm hv HI'.out.cnt
       have h2:=Hm.out
       omega
      have HR:=Lib.hid M4
      clear M4
      go_wp2_with (at_builtin;go_must (refine wpList_append_done rfl (.tmp 61) (.tmp 63) 118 rfl rfl rfl r3 ?_))
      have I5:=RnI.start HI'.out HMP.out hfr hrm hv HR.out
      have z4:=HR.out.size
      have HI5:RowKit.Hid (∃ N,RnW w B mi ml mo mr base nl adj (fun u=>s.vis u∨u=rt) (.int .i64 ((s.n:Int)+1)) v' (.slice (some ⟨w4.heap.size,0,none⟩) 1 1) (w4.alloc (.cells #[fp rt,.int .i64 0] 180)) N) :=
       Lib.hid ⟨_,_,rfl,by simp,by simp;omega,fun u q=>by
        rcases q with (q|q)|rfl
        · rw[hfr]at q;simp[stk]at q
        · exact .inr q
        · exact .inl (by simp[stk]),I5⟩
      clear z4 I5 r1 r2 r3 r4 HR
      obtain⟨wo,rfl⟩:∃ wo:World,wo=wr:=⟨_,rfl⟩
      go_loopw [5,9,15] (fun n st wk wr=>RowKit.Hid (∃ N,RnW w B mi ml mo mr base nl adj (fun u=>s.vis u∨u=rt) n st wk wr N)) (fun n st wk wr=>lst (RnW w B mi ml mo mr base nl adj (fun u=>s.vis u∨u=rt) n st wk wr))
      case atStart=>exact HI5
      case round =>
       clear HI5
       have hsp:=lst_spec hrel.out
       obtain⟨N,hN⟩:∃ N,N=lst (RnW w B mi ml mo mr base nl adj (fun u=>s.vis u∨u=rt) u5 u9 u15 wr):=⟨_,rfl⟩
       rw[← hN]at hsp
       obtain⟨s1,hM,rfl,hb1,hV,I1⟩:=hsp
       have HN:=Lib.hid hN
       have HM:=Lib.hid hM
       have HV:=Lib.hid hV
       clear hN hM hV hrel
       cases hf1:s1.fr with
       | nil =>
         have hw:=I1.mem.work
         rw[show s1.wk=[] by unfold TS.wk;rw[hf1];rfl]at hw
         obtain⟨aw,cw,rfl⟩:=RowF.empty hw
         have HI1:=Lib.hid I1
         clear I1 hw
         go_wp2_with fail
         go_roundw
         · refine⟨k+1,s1,rfl,by go_num,by omega,hf1,hb1,Lib.hid ⟨fun i h h0=>?_,HI1.out.drop hf1⟩⟩
           have hvi:s1.vis nl[i]:=by
            by_cases e:i=k
            · subst e;exact HV.out _ (.inr Hrt.out.symm)
            · exact HV.out _ (.inl (.inr (Hdone.out i h (by omega))))
           rcases hvi with q|q
           · rw[hf1]at q;simp[stk]at q
           · exact q
         · simp[intOf];omega
       | cons f fs =>
         obtain⟨v,kk,fin⟩:=f
         have hvv:s1.vis v:=.inl (by rw[hf1];simp[stk])
         have hvn:v∈nl:=I1.sub v hvv
         obtain⟨g,cap,rfl⟩:=I1.top0 HMP.out hf1
         obtain⟨q,hq⟩:∃ q,q=fs.length:=⟨_,rfl⟩
         rw[← hq]at I1 ⊢
         obtain⟨hcap,hgs,c0,c1,fz,-⟩:=I1.top1 HMP.out hf1 hq
         obtain⟨fa,hfa,hfr'⟩:=HG.out.map
         obtain⟨ab,cb,ea,hab⟩:=hfr' v hvn
         obtain⟨da,hda⟩:∃ da,da=(adj v).length:=⟨_,rfl⟩
         have hlk:∀ wx,Kept (fun _=>False) w wx→(Instr.lookup 129 (.map (some am)) (fp v) false).run Tryz.prog wx=.ok (.slice ab da cb) wx:=fun wx kx=>by
          have:=(hfa.kept kx (fun f=>f) (fun _ _ f=>f)).look ul_mFR ((HG.out.blk v hvn).kept kx (fun _ _ f=>f)) (zero_sF wx)
          rw[ea,Option.getD_some]at this
          rw[hda]
          exact this
         have hdm:=HG.out.few.2 v hvn
         rw[← hda]at hdm
         have hqm:q≤100:=by
          have h1:=I1.few.1
          have h2:=HG.out.few.1
          rw[hf1]at h1
          simp only[List.length_cons]at h1
          omega
         have Hq:=Lib.hid hq
         have Hda:=Lib.hid hda
         have Hab:=Lib.hid hab
         have HI1:=Lib.hid I1
         have Hlk:=Lib.hid hlk
         have hlk1:=fun n=>hlk (wr.drewN n) (HI1.out.drew HMP.out n).mem.kept
         clear hq hda hab I1 hfa hfr' ea hlk
         go_wp2_with fail
         go_quiet (fail)
         obtain⟨wa,hwa⟩:∃ wa,wa=wr.drewN nq:=⟨_,rfl⟩
         have Ia:=HI1.out.drew HMP.out nq
         rw[← hwa]at Ia ⊢
         clear hwa hlk1 HI1 c0 c1 fz hcap hgs hb1
         obtain⟨hcap,hgs,c0,c1,fz,-⟩:=Ia.top1 HMP.out hf1 Hq.out
         have HI1:=Lib.hid Ia
         have hlk1:=fun n=>Hlk.out (wa.drewN n) (HI1.out.drew HMP.out n).mem.kept
         by_cases hk:(kk:Int)<da
         · have hkl:kk<(adj v).length:=by have:=Hda.out;omega
           obtain⟨ga,oa,rfl,hga,hca⟩:=Hab.out kk hkl
           obtain⟨x,hx⟩:∃ x,x=(adj v)[kk]:=⟨_,rfl⟩
           have hxn:x∈nl:=by rw[hx];exact HG.out.cl v hvn _ (List.getElem_mem _)
           rw[← hx]at hca
           have Hx:=Lib.hid hx
           clear hx
           have hca':=HI1.out.mem.kept.cell hca (fun f=>f)
           have hgs':ga<wa.heap.size:=Nat.lt_of_lt_of_le hga HI1.out.mem.kept.size
           clear Ia
           go_wp2_with fail
           go_quiet (fail)
           obtain⟨wb,hwb⟩:∃ wb,wb=wa.drewN nq:=⟨_,rfl⟩
           have Ib:=HI1.out.drew HMP.out nq
           rw[← hwb]at Ib ⊢
           clear hwb hlk1 HI1 c0 c1 fz hcap hgs hca' hgs'
           obtain⟨hcap,hgs,c0,c1,fz,hnx⟩:=Ib.top1 HMP.out hf1 Hq.out
           have HI1:=Lib.hid Ib
           have M2:=hnx (kk+1)
           clear hnx Ib
           rw[show((kk+1:Nat):Int)=(kk:Int)+1 from by omega]at M2
           have hbx:=(HG.out.blk x hxn).kept M2.kept (fun _ _ f=>f)
           have hbv:=(HG.out.blk v hvn).kept M2.kept (fun _ _ f=>f)
           have hi1:=M2.mi.ask ul_mFI hbx (zero_intF _)
           by_cases hvx:s1.vis x
           · as_aux_lemma =>
             have e1:s1.mI x=some (.int .i64 (s1.ind x)):=if_pos hvx
             have e2:s1.mL v=some (.int .i64 (s1.low v)):=if_pos hvv
             have e3:s1.mO x=some (.bool (decide (x∈stk s1.fr))):=if_pos hvx
             rw[e1]at hi1
             simp only[Option.getD_some,Option.isSome_some]at hi1
             have hi2:=M2.mi.look ul_mFI hbx (zero_intF _)
             rw[e1,Option.getD_some]at hi2
             have hl2:=M2.ml.look ul_mFI hbv (zero_intF _)
             rw[e2,Option.getD_some]at hl2
             have ho2:=M2.mo.look ul_mFB hbx (zero_boolF _)
             rw[e3,Option.getD_some]at ho2
             have hsn:=fun {v' vw' w4} H=>RnI.seen (v':=v') (vw':=vw') (w4:=w4) HI1.out hf1 hkl (by rw[← Hx.out];exact hvx) H
             rw[← Hx.out]at hsn
             by_cases hon:x∈stk s1.fr
             · rw[decide_eq_true hon]at ho2
               by_cases hlt:(s1.ind x:Int)<s1.low v
               · have hlt':s1.ind x<s1.low v:=by omega
                 obtain⟨w1,r1,M3,-⟩:=M2.stl HMP.out (HG.out.blk v hvn) (.int .i64 (s1.ind x))
                 obtain⟨s2,hn2,hm2,hv2,I2⟩:=hsn (by rw[if_pos ⟨hon,hlt'⟩];exact M3)
                 have hR:=Lib.hid (RnW.of HM.out HV.out (n:=s1.n) (by rw[hn2]) hm2 hv2 I2)
                 clear M2 M3 hsn I2 hbx hbv hvv hvx hm2 hv2 e1 e2 e3 hlt'
                 go_wp2_with fail
                 go_roundw
                 · exact Lib.hid ⟨_,hR.out.choose_spec.2⟩
                 · exact Nat.lt_of_le_of_lt (lst_le hR.out.choose_spec.2) (by have h:=hR.out.choose_spec.1;have e:=HN.out;rw[← Hq.out]at e;rw[← e];exact h)
               · have hlt':¬ s1.ind x<s1.low v:=by omega
                 obtain⟨s2,hn2,hm2,hv2,I2⟩:=hsn (by rw[if_neg fun q=>hlt' q.2];exact M2)
                 have hR:=Lib.hid (RnW.of HM.out HV.out (n:=s1.n) (by rw[hn2]) hm2 hv2 I2)
                 clear M2 hsn I2 hbx hbv hvv hvx hm2 hv2 e1 e2 e3 hlt'
                 go_wp2_with fail
                 go_roundw
                 · exact Lib.hid ⟨_,hR.out.choose_spec.2⟩
                 · exact Nat.lt_of_le_of_lt (lst_le hR.out.choose_spec.2) (by have h:=hR.out.choose_spec.1;have e:=HN.out;rw[← Hq.out]at e;rw[← e];exact h)
             · rw[decide_eq_false hon]at ho2
               obtain⟨s2,hn2,hm2,hv2,I2⟩:=hsn (by rw[if_neg fun q=>hon q.1];exact M2)
               have hR:=Lib.hid (RnW.of HM.out HV.out (n:=s1.n) (by rw[hn2]) hm2 hv2 I2)
               clear M2 hsn I2 hbx hbv hvv hvx hm2 hv2 e1 e2 e3 hi2 hl2
               go_wp2_with fail
               go_roundw
               · exact Lib.hid ⟨_,hR.out.choose_spec.2⟩
               · exact Nat.lt_of_le_of_lt (lst_le hR.out.choose_spec.2) (by have h:=hR.out.choose_spec.1;have e:=HN.out;rw[← Hq.out]at e;rw[← e];exact h)
           · as_aux_lemma =>
             rw[show s1.mI x=none from if_neg hvx]at hi1
             simp only[Option.getD_none,Option.isSome_none]at hi1
             have hcn1:s1.n<100:=by
              have h1:=left_len hxn hvx HI1.out.cnt
              have h2:=Hm.out
              omega
             have hstl:(stk s1.fr).reverse.length≤100000:=by
              have h1:=HI1.out.few.2
              have h2:=HG.out.few.1
              rw[List.length_reverse]
              omega
             obtain⟨w1,w2,v2,w3,w4,r1,r2,r3,r4,M4⟩:=see_new M2 HMP.out (HG.out.blk x hxn) hstl (.int .i64 s1.n)
             obtain⟨vw2,w5,r5,M5⟩:=(M4.alloc HMP.out (.cells #[fp x,.int .i64 0] 180)).pushw HMP.out (f:=(x,0)) (b:=w4.heap.size) (cell_of_cells (cs:=[fp x,.int .i64 0]) (heap_alloc_new w4 _) 0 rfl) (cell_of_cells (cs:=[fp x,.int .i64 0]) (heap_alloc_new w4 _) 1 rfl) (by simp only[List.length_append,List.length_reverse,List.length_map,List.length_cons,List.length_nil,← Hq.out];omega)
             obtain⟨s2,hn2,hm2,hv2,I2⟩:=HI1.out.tree hf1 hkl (by rw[← Hx.out];exact hvx) (by rw[← Hx.out];exact hxn) (by rw[← Hx.out];exact M5)
             have hR:=Lib.hid (RnW.of HM.out HV.out (n:=(s1.n:Int)+1) (by rw[hn2];omega) hm2 hv2 I2)
             clear M2 M4 M5 I2 hbx hbv hvv hvx hm2 hv2 hstl
             go_upto_region 31 with (at_builtin;go_must (refine wpList_append_done rfl (.tmp 123) (.tmp 125) 118 rfl rfl rfl r3 ?_))
             go_wp2_with (at_builtin;go_must (refine wpList_append_done rfl (.tmp 129) (.tmp 132) 181 rfl rfl rfl r5 ?_))
             go_roundw
             · exact Lib.hid ⟨_,hR.out.choose_spec.2⟩
             · exact Nat.lt_of_le_of_lt (lst_le hR.out.choose_spec.2) (by have h:=hR.out.choose_spec.1;have e:=HN.out;rw[← Hq.out]at e;rw[← e];exact h)
         · have hk':(adj v).length≤kk:=by have:=Hda.out;omega
           have hbv:=(HG.out.blk v hvn).kept Ia.mem.kept (fun _ _ f=>f)
           have hi2:=Ia.mem.mi.look ul_mFI hbv (zero_intF _)
           rw[show s1.mI v=some (.int .i64 (s1.ind v)) from if_pos hvv,Option.getD_some]at hi2
           have hl2:=Ia.mem.ml.look ul_mFI hbv (zero_intF _)
           rw[show s1.mL v=some (.int .i64 (s1.low v)) from if_pos hvv,Option.getD_some]at hl2
           by_cases heq:(s1.low v:Int)=s1.ind v
           · as_aux_lemma =>
             have he':s1.low v=s1.ind v:=by omega
             have hnd:(fin++[v]++stk fs).Nodup:=by
              have h:=HI1.out.inv.nd
              rw[hf1]at h
              simpa [stk]using h
             have hvisL:∀ x∈fin++[v],s1.vis x:=fun x hx=>.inl (by
              rw[hf1]
              simp only[stk,List.mem_append,List.mem_cons,List.not_mem_nil,or_false]at hx ⊢
              rcases hx with hx|hx
              · exact .inl hx
              · exact .inr (.inl hx))
             have hblkL:∀ x∈fin++[v],FBlk w B x:=fun x hx=>HG.out.blk x (HI1.out.sub x (hvisL x hx))
             have hlenL:(fin++[v]).length≤100:=by
              have h1:=HI1.out.few.2
              have h2:=HG.out.few.1
              rw[hf1]at h1
              simp only[stk,List.length_append,List.length_cons,List.length_nil]at h1 ⊢
              omega
             have HP:=Lib.hid (PopR.start HI1.out hf1)
             have Hnd:=Lib.hid hnd
             have HvL:=Lib.hid hvisL
             have HbL:=Lib.hid hblkL
             obtain⟨nf,hnf⟩:∃ nf,nf=fin.length:=⟨_,rfl⟩
             have hnfm:nf≤99:=by simp only[List.length_append,List.length_cons,List.length_nil]at hlenL;omega
             have Hnf:=Lib.hid hnf
             have HlL:=Lib.hid hlenL
             have hba:=HI1.out.mem.size
             obtain⟨base2,hb2⟩:∃ base2,base2=wa.heap.size:=⟨_,rfl⟩
             rw[← hb2]at HP hba
             clear Ia hbv hnd hvisL hblkL hnf hlenL hlk1
             go_wp2_with fail
             obtain⟨wo2,rfl⟩:∃ wo2:World,wo2=wr:=⟨_,rfl⟩
             go_loopw [9,21] (fun st cmp wr=>∃ i:Nat,i≤nf∧RowKit.Hid (PopR w B mi ml mo mr base base2 s1 v fin fs (.slice (some ⟨g,0,none⟩) (q+1) cap) i st cmp wr)) (fun _ cmp _=>nf+1-slen cmp)
             case atStart=>exact⟨0,by omega,HP⟩
             case round =>
              clear HP
              obtain⟨i,hi,HP⟩:=hrel
              have hiL:i<(fin++[v]).length:=by have:=Hnf.out;simp only[List.length_append,List.length_cons,List.length_nil];omega
              obtain⟨gs,n,capS,w1,cmp',w3,rfl,hn1,hnE,hgsS,cS,r1,r3,req,P3⟩:=HP.out.step HMP.out hba Hnd.out hiL HvL.out HbL.out (by have:=HlL.out;omega)
              obtain⟨x,hx⟩:∃ x,x=(fin++[v])[i]:=⟨_,rfl⟩
              rw[← hx]at cS r1 r3 req
              have hn9:n≤100:=by
               have h1:=HI1.out.few.2
               have h2:=HG.out.few.1
               rw[hf1]at h1
               simp only[stk,List.length_append,List.length_cons,List.length_drop,List.length_nil]at h1 hnE
               omega
              have hcl:=P3.cmp.shape
              have hcl0:=HP.out.cmp.shape
              obtain⟨ac,cc,rfl⟩:=hcl
              obtain⟨ac0,cc0,e0⟩:=hcl0
              have htl:((fin++[v]).take (i+1)).length=i+1:=by rw[List.length_take];omega
              have htl0:((fin++[v]).take i).length=i:=by rw[List.length_take];omega
              rw[htl]at P3 r3
              rw[htl0]at e0
              subst e0
              have HP3:=Lib.hid P3
              have Hx:=Lib.hid hx
              by_cases hxv:x=v
              · have hin:i=nf:=by
                 have h1:(fin++[v])[i]=v:=by rw[← hx];exact hxv
                 have h2:(fin++[v]).Nodup:=(List.nodup_append.1 Hnd.out).1
                 have h3:fin.length<(fin++[v]).length:=by simp
                 have h4:(fin++[v])[fin.length]=v:=by simp
                 have:=(List.getElem_inj h2).1 (h1.trans h4.symm)
                 rw[Hnf.out]
                 exact this
                rw[decide_eq_true hxv,hxv]at req
                rw[hxv]at cS r1 r3
                subst hin
                have HE:=Lib.hid (P3.end_ (by rw[← Hnf.out]))
                clear P3 hx hnE htl htl0 HP HP3 hxv Hx
                obtain⟨HE1,HE2⟩:=HE.out
                by_cases h0:(1:Int)<(i+1:Int)
                · go_upto_region 42 with (at_builtin;go_must (refine wpList_append_done rfl (.tmp 171) (.tmp 173) 118 rfl rfl rfl r3 ?_))
                  have HQ:RowKit.Hid (MarkR w B mi ml mo mr base base2 s1 _ (stk fs).reverse (fin++[v]) 0 (.slice (some ⟨gs,0,none⟩) n capS) (.slice (some ⟨g,0,none⟩) (q+1) cap) (.slice ac (i+1) cc) w3):=Lib.hid ⟨by rw[frk_zero];exact HE1,HE2⟩
                  have hLi:(fin++[v]).length=i+1:=by simp only[List.length_append,List.length_cons,List.length_nil,← Hnf.out]
                  have HLi:=Lib.hid hLi
                  clear HE HE1 HE2 r3 r1 req hLi
                  go_wp2_with fail
                  obtain⟨wo3,rfl⟩:∃ wo3:World,wo3=wr:=⟨_,rfl⟩
                  go_loopw [183] (fun t wr=>∃ j:Nat,t=.int .i64 j∧j≤i+1∧RowKit.Hid (MarkR w B mi ml mo mr base base2 s1 (fun u=>if s1.vis u then some (.bool (decide (u∈stk fs))) else none) (stk fs).reverse (fin++[v]) j (.slice (some ⟨gs,0,none⟩) n capS) (.slice (some ⟨g,0,none⟩) (q+1) cap) (.slice ac (i+1) cc) wr)) (fun t _=>((i:Int)+1-intOf t).toNat)
                  case atStart=>exact⟨0,rfl,by omega,HQ⟩
                  case round =>
                   clear HQ
                   obtain⟨j,rfl,hj,HQ⟩:=hrel
                   by_cases hji:(j:Int)<(i+1:Int)
                   · have hjL:j<(fin++[v]).length:=by rw[HLi.out];omega
                     obtain⟨gc,cc',w1,ec,hgc,hcc,r1,Q1⟩:=HQ.out.step HMP.out hba hjL HbL.out
                     simp only[Value.slice.injEq]at ec
                     obtain⟨rfl,-,rfl⟩:=ec
                     obtain⟨y,hy⟩:∃ y,y=(fin++[v])[j]:=⟨_,rfl⟩
                     rw[← hy]at hcc r1
                     have HQ1:=Lib.hid Q1
                     clear Q1 hy
                     go_wp2_with fail
                     go_roundw
                     · exact⟨j+1,by go_num,by omega,HQ1⟩
                     · simp[intOf];omega
                   · have hje:j=i+1:=by omega
                     subst hje
                     have HB:=Lib.hid HQ.out.1
                     have HFR:=Lib.hid (frk_part s1 fin v (i+1) (Nat.le_of_eq HLi.out) (fun e=>by have:=Hnf.out;rw[e]at this;simp only[List.length_nil]at this;omega))
                     clear HQ
                     cases fs with
                     | nil =>
                       have hq0:q=0:=Hq.out
                       subst hq0
                       obtain⟨hpop,-,-,-⟩:=after_pop HB.out HMP.out hf1 Hq.out
                       obtain⟨s2,hn2,hm2,hv2,I2⟩:=HI1.out.part hf1 hk' he' (HFR.out▸hpop)
                       have hR:=Lib.hid (RnW.of HM.out HV.out (n:=s1.n) (by rw[hn2]) hm2 hv2 I2)
                       clear hpop hm2 hv2 I2 hvv HB HFR
                       go_wp2_with fail
                       go_roundw
                       · exact Lib.hid ⟨_,hR.out.choose_spec.2⟩
                       · exact Nat.lt_of_le_of_lt (lst_le hR.out.choose_spec.2) (by have h:=hR.out.choose_spec.1;have e:=HN.out;rw[← Hq.out]at e;rw[← e];exact h)
                     | cons f1 fs1 =>
                       obtain⟨hpop,hg9,hcap9,hpar⟩:=after_pop HB.out HMP.out hf1 Hq.out
                       obtain⟨hq1,cp⟩:=hpar f1 fs1 rfl
                       obtain⟨q1,hq1'⟩:∃ q1,q1=fs1.length:=⟨_,rfl⟩
                       rw[← hq1']at hq1 cp
                       obtain⟨pn,hpn⟩:∃ pn,pn=f1.p:=⟨_,rfl⟩
                       have hpv:s1.vis pn:=.inl (by rw[hpn,hf1];simp[stk])
                       have hnl:=(HI1.out.inv.part hf1 hk' he').2 f1 rfl
                       rw[← hpn]at cp hnl
                       have hl3:=hpop.ml.look ul_mFI ((HG.out.blk v hvn).kept hpop.kept (fun _ _ f=>f)) (zero_intF _)
                       rw[show s1.mL v=some (.int .i64 (s1.low v)) from if_pos hvv,Option.getD_some]at hl3
                       have hl4:=hpop.ml.look ul_mFI ((HG.out.blk pn (HI1.out.sub pn hpv)).kept hpop.kept (fun _ _ f=>f)) (zero_intF _)
                       rw[show s1.mL pn=some (.int .i64 (s1.low pn)) from if_pos hpv,Option.getD_some]at hl4
                       obtain⟨s2,hn2,hm2,hv2,I2⟩:=HI1.out.part hf1 hk' he' (HFR.out▸hpop)
                       have hR:=Lib.hid (RnW.of HM.out HV.out (n:=s1.n) (by rw[hn2]) hm2 hv2 I2)
                       have hnl':¬ (s1.low v:Int)<s1.low pn:=by omega
                       clear hpop hm2 hv2 I2 hvv HB HFR hpn hpv hpar hnl hq1'
                       subst hq1
                       go_wp2_with fail
                       go_roundw
                       · exact Lib.hid ⟨_,hR.out.choose_spec.2⟩
                       · exact Nat.lt_of_le_of_lt (lst_le hR.out.choose_spec.2) (by have h:=hR.out.choose_spec.1;have e:=HN.out;rw[← Hq.out]at e;rw[← e];exact h)
                · have hi0:i=0:=by omega
                  have HB:=Lib.hid HE1
                  have HFR:=Lib.hid (mR_part s1 fin v (List.length_eq_zero_iff.1 (by rw[← Hnf.out];exact hi0)))
                  go_upto_region 47 with (at_builtin;go_must (refine wpList_append_done rfl (.tmp 171) (.tmp 173) 118 rfl rfl rfl r3 ?_))
                  clear HE HE1 HE2 r3 r1 req
                  cases fs with
                  | nil =>
                    have hq0:q=0:=Hq.out
                    subst hq0
                    obtain⟨hpop,-,-,-⟩:=after_pop HB.out HMP.out hf1 Hq.out
                    obtain⟨s2,hn2,hm2,hv2,I2⟩:=HI1.out.part hf1 hk' he' (HFR.out▸hpop)
                    have hR:=Lib.hid (RnW.of HM.out HV.out (n:=s1.n) (by rw[hn2]) hm2 hv2 I2)
                    clear hpop hm2 hv2 I2 hvv HB HFR
                    go_wp2_with fail
                    go_roundw
                    · exact Lib.hid ⟨_,hR.out.choose_spec.2⟩
                    · exact Nat.lt_of_le_of_lt (lst_le hR.out.choose_spec.2) (by have h:=hR.out.choose_spec.1;have e:=HN.out;rw[← Hq.out]at e;rw[← e];exact h)
                  | cons f1 fs1 =>
                    obtain⟨hpop,hg9,hcap9,hpar⟩:=after_pop HB.out HMP.out hf1 Hq.out
                    obtain⟨hq1,cp⟩:=hpar f1 fs1 rfl
                    obtain⟨q1,hq1'⟩:∃ q1,q1=fs1.length:=⟨_,rfl⟩
                    rw[← hq1']at hq1 cp
                    obtain⟨pn,hpn⟩:∃ pn,pn=f1.p:=⟨_,rfl⟩
                    have hpv:s1.vis pn:=.inl (by rw[hpn,hf1];simp[stk])
                    have hnl:=(HI1.out.inv.part hf1 hk' he').2 f1 rfl
                    rw[← hpn]at cp hnl
                    have hl3:=hpop.ml.look ul_mFI ((HG.out.blk v hvn).kept hpop.kept (fun _ _ f=>f)) (zero_intF _)
                    rw[show s1.mL v=some (.int .i64 (s1.low v)) from if_pos hvv,Option.getD_some]at hl3
                    have hl4:=hpop.ml.look ul_mFI ((HG.out.blk pn (HI1.out.sub pn hpv)).kept hpop.kept (fun _ _ f=>f)) (zero_intF _)
                    rw[show s1.mL pn=some (.int .i64 (s1.low pn)) from if_pos hpv,Option.getD_some]at hl4
                    obtain⟨s2,hn2,hm2,hv2,I2⟩:=HI1.out.part hf1 hk' he' (HFR.out▸hpop)
                    have hR:=Lib.hid (RnW.of HM.out HV.out (n:=s1.n) (by rw[hn2]) hm2 hv2 I2)
                    have hnl':¬ (s1.low v:Int)<s1.low pn:=by omega
                    clear hpop hm2 hv2 I2 hvv HB HFR hpn hpv hpar hnl hq1'
                    subst hq1
                    go_wp2_with fail
                    go_roundw
                    · exact Lib.hid ⟨_,hR.out.choose_spec.2⟩
                    · exact Nat.lt_of_le_of_lt (lst_le hR.out.choose_spec.2) (by have h:=hR.out.choose_spec.1;have e:=HN.out;rw[← Hq.out]at e;rw[← e];exact h)
              · rw[decide_eq_false hxv]at req
                have hin:i+1≤nf:=by
                 refine Nat.lt_of_le_of_ne hi fun e=>hxv ?_
                 have:=Hnf.out
                 rw[hx]
                 have h3:fin.length<(fin++[v]).length:=by simp
                 have h4:(fin++[v])[fin.length]=v:=by simp
                 have e2:i=fin.length:=e.trans this
                 subst e2
                 exact h4
                clear P3 hx hnE htl htl0
                go_wp2_with (at_builtin;go_must (refine wpList_append_done rfl (.tmp 171) (.tmp 173) 118 rfl rfl rfl r3 ?_))
                go_roundw
                · exact⟨i+1,hin,HP3⟩
                · simp only[slen];omega
           · as_aux_lemma =>
             have hne:s1.low v≠s1.ind v:=by omega
             obtain⟨f1,fs1,rfl,hpv,hnext⟩:=HI1.out.merge hf1 hk' hne
             obtain⟨hpop,hg9,hcap9,hpar⟩:=after_pop Ia.mem HMP.out hf1 Hq.out
             obtain⟨hq1,cp⟩:=hpar f1 fs1 rfl
             obtain⟨q1,hq1'⟩:∃ q1,q1=fs1.length:=⟨_,rfl⟩
             rw[← hq1']at hq1 cp
             obtain⟨pn,hpn⟩:∃ pn,pn=f1.p:=⟨_,rfl⟩
             have hn2:=fun {v' vw' w4} H=>hnext (v':=v') (vw':=vw') (w4:=w4) H
             rw[← hpn]at cp hpv hn2
             have hl4:=hpop.ml.look ul_mFI ((HG.out.blk pn (HI1.out.sub pn hpv)).kept hpop.kept (fun _ _ f=>f)) (zero_intF _)
             rw[show s1.mL pn=some (.int .i64 (s1.low pn)) from if_pos hpv,Option.getD_some]at hl4
             by_cases hlt:(s1.low v:Int)<s1.low pn
             · obtain⟨w1,r1,M3,-⟩:=hpop.stl HMP.out (HG.out.blk pn (HI1.out.sub pn hpv)) (.int .i64 (s1.low v))
               obtain⟨s2,hn2,hm2,hv2,I2⟩:=hn2 (by rw[if_pos (show s1.low v<s1.low pn by omega)];exact M3)
               have hR:=Lib.hid (RnW.of HM.out HV.out (n:=s1.n) (by rw[hn2]) hm2 hv2 I2)
               clear hpop hm2 hv2 I2 hvv hpn hpv hpar hq1' M3 hnext Ia hbv hlk1
               subst hq1
               go_wp2_with fail
               go_roundw
               · exact Lib.hid ⟨_,hR.out.choose_spec.2⟩
               · exact Nat.lt_of_le_of_lt (lst_le hR.out.choose_spec.2) (by have h:=hR.out.choose_spec.1;have e:=HN.out;rw[← Hq.out]at e;rw[← e];exact h)
             · obtain⟨s2,hn2,hm2,hv2,I2⟩:=hn2 (by rw[if_neg (show ¬ s1.low v<s1.low pn by omega)];exact hpop)
               have hR:=Lib.hid (RnW.of HM.out HV.out (n:=s1.n) (by rw[hn2]) hm2 hv2 I2)
               clear hpop hm2 hv2 I2 hvv hpn hpv hpar hq1' hnext Ia hbv hlk1
               subst hq1
               go_wp2_with fail
               go_roundw
               · exact Lib.hid ⟨_,hR.out.choose_spec.2⟩
               · exact Nat.lt_of_le_of_lt (lst_le hR.out.choose_spec.2) (by have h:=hR.out.choose_spec.1;have e:=HN.out;rw[← Hq.out]at e;rw[← e];exact h)
  · have ek:k=m:=by omega
    subst ek
    obtain⟨hdone,I⟩:=HI.out
    have hall:∀ u∈nl,u∈s.done:=fun u hu=>by
     obtain⟨i,hi,rfl⟩:=List.getElem_of_mem hu
     exact hdone i hi (by have:=Hm.out;omega)
    have htold:∀ u∈nl,(s.rc u=true∨u∈adj u)↔∃ x∈adj u,Gc.Way adj x u:=fun u hu=>I.inv.told (hall u hu)
    have hno:∀ u,u ∉ nl→s.rc u=false:=fun u hu=>I.inv.no u fun q=>hu (I.sub u (.inr q))
    obtain⟨r0,hr0⟩:∃ r0,r0=s.rc:=⟨_,rfl⟩
    have mr0:=I.mem.mr
    unfold TS.mR at mr0
    rw[← hr0]at htold hno mr0
    have K0:=I.mem.kept
    have Htold:=Lib.hid htold
    have Hno:=Lib.hid hno
    have Hmr0:=Lib.hid mr0
    clear HI I hdone hall htold hno mr0 HI0
    go_wp2_with fail
    obtain⟨wo,rfl⟩:∃ wo:World,wo=wr:=⟨_,rfl⟩
    go_loopw [220] (fun t wr=>∃ (i:Nat) (r:Nat→Bool),t=.int .i64 i∧i≤k∧base≤wr.heap.size∧RowKit.Hid ((∀ u,r u=true↔r0 u=true∨(u∈nl.take i∧u∈adj u))∧MapF wr B mr (fun u=>if r u=true then some (.bool true) else none)∧Kept (fun _=>False) w wr)) (fun t _=>((k:Int)-intOf t).toNat)
    case atStart=>exact⟨0,r0,rfl,by omega,hbs,Lib.hid ⟨fun u=>by simp,Hmr0.out,K0⟩⟩
    case round =>
     obtain⟨i,r,rfl,hi,hbi,HJ⟩:=hrel
     obtain⟨hr,hmr,hK⟩:=HJ.out
     by_cases hlt2:(i:Int)<k
     · have hil:i<nl.length:=by have:=Hm.out;omega
       obtain⟨v,hv⟩:∃ v,v=nl[i]:=⟨_,rfl⟩
       have hvn:v∈nl:=by rw[hv];exact List.getElem_mem _
       have q0:=hK.cell (Hn0.out i hil) (fun f=>f)
       rw[← hv]at q0
       have ha0':a0<wr.heap.size:=Nat.lt_of_lt_of_le ha0 hK.size
       obtain⟨fa,hfa,hfr'⟩:=HG.out.map
       obtain⟨ab,cb,ea,hab⟩:=hfr' v hvn
       obtain⟨da,hda⟩:∃ da,da=(adj v).length:=⟨_,rfl⟩
       have hlk:=(hfa.kept hK (fun f=>f) (fun _ _ f=>f)).look ul_mFR ((HG.out.blk v hvn).kept hK (fun _ _ f=>f)) (zero_sF wr)
       rw[ea,Option.getD_some,← hda]at hlk
       have hdm:=HG.out.few.2 v hvn
       rw[← hda]at hdm
       have htk:∀ u,u∈nl.take (i+1)↔u∈nl.take i∨u=v:=fun u=>by
        rw[List.take_succ_eq_append_getElem hil,List.mem_append,List.mem_singleton,← hv]
       have Hda:=Lib.hid hda
       have Hab:=Lib.hid hab
       have Hmr:=Lib.hid hmr
       have Hr:=Lib.hid hr
       have Htk:=Lib.hid htk
       have Hv:=Lib.hid hv
       clear hr hmr hfa hfr' ea hab hda hv HJ Hmr0 htk
       go_wp2_with fail
       go_loop [228] (fun t=>∃ j:Nat,t=.int .i64 j∧j≤da∧RowKit.Hid (∀ (j':Nat) (h:j'<(adj v).length),j'<j→(adj v)[j']≠v)) (fun t=>((da:Int)-intOf t).toNat)
       case atStart=>exact⟨0,rfl,by omega,Lib.hid fun j' _ h=>absurd h (by omega)⟩
       case round =>
        obtain⟨j,rfl,hj,HN⟩:=hrel
        by_cases hjd:(j:Int)<da
        · have hjl:j<(adj v).length:=by have:=Hda.out;omega
          obtain⟨ga,oa,rfl,hga,hca⟩:=Hab.out j hjl
          obtain⟨x,hx⟩:∃ x,x=(adj v)[j]:=⟨_,rfl⟩
          have hxn:x∈nl:=by rw[hx];exact HG.out.cl v hvn _ (List.getElem_mem _)
          rw[← hx]at hca
          have Hx:=Lib.hid hx
          clear hx
          have hca':=hK.cell hca (fun f=>f)
          have hga':ga<wr.heap.size:=Nat.lt_of_lt_of_le hga hK.size
          have heq:=eqB ((HG.out.blk x hxn).kept hK (fun _ _ f=>f)) ((HG.out.blk v hvn).kept hK (fun _ _ f=>f))
          by_cases hxv:x=v
          · rw[decide_eq_true hxv,hxv]at heq
            rw[hxv]at hca'
            have hva:v∈adj v:=by
             have:=List.getElem_mem hjl
             rw[← Hx.out,hxv]at this
             exact this
            have hB:=HMP.out.B
            have hlo:=HMP.out.lo.2.2.2
            obtain⟨w1,r1,m1,k1⟩:=Hmr.out.store ul_mFB (by omega) ((HG.out.blk v hvn).kept hK (fun _ _ f=>f)) (.bool true)
            have hfun:upd (fun u=>if r u=true then some (Value.bool true) else none) v (some (.bool true))=fun u=>if (if u=v then true else r u)=true then some (Value.bool true) else none:=by
             funext u
             by_cases e:u=v
             · subst e;rw[upd_same,if_pos rfl];rfl
             · rw[upd_ne _ _ e,if_neg e]
            rw[hfun]at m1
            have K1:Kept (fun _=>False) w w1:=((hK.mono (M':=fun b=>False∨w.heap.size≤b) fun _ _ f=>f.elim).trans (k1.mono fun b _ e=>.inr (by omega))).fresh (Nat.le_refl _)
            have s1:=k1.size
            have HO:RowKit.Hid ((∀ u,(if u=v then true else r u)=true↔r0 u=true∨(u∈nl.take (i+1)∧u∈adj u))∧MapF w1 B mr (fun u=>if (if u=v then true else r u)=true then some (.bool true) else none)∧Kept (fun _=>False) w w1):=Lib.hid ⟨fun u=>by
             rw[Htk.out]
             by_cases e:u=v
             · subst e;simp[hva]
             · rw[if_neg e,Hr.out]
               simp[e],m1,K1⟩
            clear m1 k1 K1 hfun hxv Hx hva
            go_wp2_with fail
            go_roundw
            · exact⟨i+1,_,by go_num,by omega,by omega,HO⟩
            · simp[intOf];omega
          · rw[decide_eq_false hxv]at heq
            go_wp2_with fail
            go_round
            · refine⟨j+1,by go_num,by omega,Lib.hid fun j' h h'=>?_⟩
              by_cases e:j'=j
              · subst e;rw[← Hx.out];exact hxv
              · exact HN.out j' h (by omega)
            · simp[intOf];omega
        · have hva:v ∉ adj v:=fun q=>by
           obtain⟨j',h,e⟩:=List.getElem_of_mem q
           exact HN.out j' h (by have:=Hda.out;omega) e
          have HO:RowKit.Hid ((∀ u,r u=true↔r0 u=true∨(u∈nl.take (i+1)∧u∈adj u))∧MapF wr B mr (fun u=>if r u=true then some (.bool true) else none)∧Kept (fun _=>False) w wr):=Lib.hid ⟨fun u=>by
           rw[Htk.out,Hr.out]
           by_cases e:u=v
           · subst e;simp[hva]
           · simp[e],Hmr.out,hK⟩
          clear hva HN
          go_wp2_with fail
          go_roundw
          · exact⟨i+1,_,by go_num,by omega,by omega,HO⟩
          · simp[intOf];omega
     · have hik:i=k:=by omega
       subst hik
       have htn:nl.take i=nl:=by rw[Hm.out];exact List.take_length
       rw[htn]at hr
       have hyes:∀ u∈nl,r u=true↔∃ x∈adj u,Gc.Way adj x u:=fun u hu=>by
        rw[← Htold.out u hu,hr]
        simp[hu]
       have hnot:∀ u,u ∉ nl→r u=false:=fun u hu=>by
        cases e:r u with
        | false=>rfl
        | true =>
          rcases(hr u).1 e with h | h
          · rw[Hno.out u hu]at h;cases h
          · exact absurd h.1 hu
       have hlo:=HMP.out.lo.2.2.2
       have hmr':=hmr
       obtain⟨es,clock,hb,h2,h3,-⟩:=hmr'
       have hlen:=len_map hb
       have Hyes:=Lib.hid hyes
       have Hnot:=Lib.hid hnot
       have Hmr:=Lib.hid hmr
       have H3:=Lib.hid h3
       have Hsz:=Lib.hid (show es.toList.length=es.size by simp)
       clear hr hmr HJ hyes hnot h2 h3 hb htn
       by_cases h0:(es.size:Int)=0
       · go_wp2_with fail
         go_ret
         have hnone:∀ u,r u=false:=fun u=>by
          cases e:r u with
          | false=>rfl
          | true =>
            obtain⟨x,hx,-⟩:=H3.out u (.bool true) (by simp[e])
            have:=List.length_pos_of_mem hx
            have:=Hsz.out
            omega
         exact⟨r,_,rfl,Hyes.out,Hnot.out,.inl ⟨rfl,hnone⟩,hK⟩
       · go_wp2_with fail
         go_ret
         exact⟨r,_,rfl,Hyes.out,Hnot.out,.inr ⟨mr,rfl,hlo,Hmr.out⟩,hK⟩
end Go.Proofs.YtleolbpibjnedaaGreat
