/- spec.add of a chain, of cases; spec.list. -/
import Derived.Test.YtleolbpibjnedaaGreatQCsB
import Derived.Test.YtleolbpibjnedaaGreatQSr
set_option linter.unusedSimpArgs false
set_option linter.unusedVariables false
set_option maxRecDepth 100000
set_option maxHeartbeats 4000000
namespace Go.Proofs.YtleolbpibjnedaaGreat
open Go Go.RowKit Gc
def CaseL(c:T):Prop:=c.isList∧ListOk c
theorem add_chain_c(nn:Nat)(op lb:Str)(xk xn:Nat)(xop:Str)(kids xb body y:T)(cases:T)(hX:CountOk (.x xk xn xop kids xb))(hB:ListOk body)(hX4:(T.cons y .nil).All StmtX)(hA:AddOk y):AddQ true 3 3 nn op lb xk xn xop kids xb body (.cons y .nil) false true cases:=by
 intro w D a1 n1 c1 a2 n2 c2 a3 n3 c3 a4 n4 c4 a5 n5 c5 h1 h2 h3 h4 h5 m
 obtain⟨E,hE⟩:∃ E,E=(T.x xk xn xop kids xb).cog m false:=⟨_,rfl⟩
 have ecog:(T.s 3 nn op lb (.x xk xn xop kids xb) body (.cons y .nil) false true cases).cog m true=E+(1+body.cog (RowKit.wrap64 (m+1)) false+y.cog m true):=by
  rw[hE]
  simp[T.cog]
 rw[ecog]
 clear ecog
 have HB:=Lib.hid hB
 clear hB
 have hXr:Rep w D (T.x xk xn xop kids xb).g [.int .i64 xk,.int .i64 xn,.string xop,.slice a1 n1 c1,.slice a2 n2 c2]:=xrep h1 h2
 have HC:RowKit.Hid (CntE xk xn xop kids xb m E):=Lib.hid (by rw[hE];exact fun w D v0 v1 v2 v3 v4 h=>hX w D v0 v1 v2 v3 v4 m false h)
 have HXr:=Lib.hid hXr
 have H3:=Lib.hid h3
 have H4:=Lib.hid h4
 have H5:=Lib.hid h5
 clear hE hX hXr h1 h2 h3 h4 h5
 have ob0:=heap_alloc_new w (.cells #[.int .i64 3,.int .i64 nn,.string op,.string lb,.int .i64 xk,.int .i64 xn,.string xop,.slice a1 n1 c1,.slice a2 n2 c2,.slice a3 n3 c3,.slice a4 n4 c4,.bool false,.bool true,.slice a5 n5 c5] 66)
 have kA:Kept (fun _=>False) w (w.alloc (.cells #[.int .i64 3,.int .i64 nn,.string op,.string lb,.int .i64 xk,.int .i64 xn,.string xop,.slice a1 n1 c1,.slice a2 n2 c2,.slice a3 n3 c3,.slice a4 n4 c4,.bool false,.bool true,.slice a5 n5 c5] 66)):=keptA
 go_enter Tryz.func41,Tryz.ntmps41
 go_upto_region 1 with fail
 obtain⟨w0,hw0⟩:∃ w0,w0=w.alloc (.cells #[.int .i64 3,.int .i64 nn,.string op,.string lb,.int .i64 xk,.int .i64 xn,.string xop,.slice a1 n1 c1,.slice a2 n2 c2,.slice a3 n3 c3,.slice a4 n4 c4,.bool false,.bool true,.slice a5 n5 c5] 66):=⟨_,rfl⟩
 rw[← hw0]at ob0 kA ⊢
 clear hw0
 obtain⟨x0,x1,x2,x3,x4,x5,x6,x7,x8,x9,x10,x11,x12,x13,-⟩:=slot14 ob0
 have z0:w.heap.size<w0.heap.size:=lt_of_heap ob0
 go_wp2_with fail
 refine(HC.out _ D _ _ _ _ _ (HXr.out.kept kA (fun _ _ f=>f))).mono ?_
 rintro e w1 ⟨rfl,k1⟩
 have ob1:=k1.obj ob0 (fun f=>f)
 have K1:=kA.trans k1
 clear x0 x1 x2 x3 x4 x5 x6 x7 x8 x9 x10 x11 x12 x13 z0
 obtain⟨x0,x1,x2,x3,x4,x5,x6,x7,x8,x9,x10,x11,x12,x13,-⟩:=slot14 ob1
 have z0:w.heap.size<w1.heap.size:=lt_of_heap ob1
 go_wp2_with fail
 refine(HB.out _ D a3 n3 c3 (RowKit.wrap64 (m+1)) (H3.out.kept K1 (fun _ _ f=>f))).mono ?_
 rintro e w2 ⟨rfl,k2⟩
 have ob2:=k2.obj ob1 (fun f=>f)
 have K2:=K1.trans k2
 clear x0 x1 x2 x3 x4 x5 x6 x7 x8 x9 x10 x11 x12 x13 z0
 obtain⟨x0,x1,x2,x3,x4,x5,x6,x7,x8,x9,x10,x11,x12,x13,-⟩:=slot14 ob2
 have z0:w.heap.size<w2.heap.size:=lt_of_heap ob2
 have h4':=H4.out.kept K2 (fun _ _ f=>f)
 have hn4:=Rep.len_eq (T.g_isList (.cons y .nil) trivial) h4'
 rw[T.g_len]at hn4
 obtain rfl:n4=1:=hn4
 obtain⟨g,o,rfl⟩:=slice_some (T.g_isList (.cons y .nil) trivial) h4' (by omega)
 obtain⟨⟨kd,mm,op',lb',xk',xn',xop',e1,e2,e3,e4,e5,e6,e7,e8,e9,e10,e11,e12,has',chain',e13,e14,e15⟩,kids',xb',body',els',cases',he,-,hg,q1,q2,q3,q4,q5,p0,p1,p2,p3,p4,p5,p6,p7,p8,p9,p10,p11,p12,p13⟩:=s_at (k:=0) h4' trivial hX4 (by simp[T.len])
 simp only[]at he q1 q2 q3 q4 q5 p0 p1 p2 p3 p4 p5 p6 p7 p8 p9 p10 p11 p12 p13
 simp only[Nat.zero_mul,Nat.add_zero]at p0 p1 p2 p3 p4 p5 p6 p7 p8 p9 p10 p11 p12 p13
 have HA:=Lib.hid (fun (w':World) (k:Kept (fun _=>False) w2 w')=>hA w' D ⟨kd,mm,op',lb',xk',xn',xop',e1,e2,e3,e4,e5,e6,e7,e8,e9,e10,e11,e12,has',chain',e13,e14,e15⟩ kids' xb' body' els' cases' he (q1.kept k (fun _ _ f=>f)) (q2.kept k (fun _ _ f=>f)) (q3.kept k (fun _ _ f=>f)) (q4.kept k (fun _ _ f=>f)) (q5.kept k (fun _ _ f=>f)) m true)
 clear h4' hX4 he q1 q2 q3 q4 q5 hA
 go_wp2_with fail
 refine(HA.out w2 (Kept.refl _ _)).mono ?_
 rintro e w3 ⟨rfl,k3⟩
 have K3:=K2.trans k3
 go_wp2_with fail
 go_ret
 refine⟨?_,K3⟩
 show Ending.returned (.int .i64 _)=Ending.returned (.int .i64 _)
 congr 2
 generalize body.cog (RowKit.wrap64 (m+1)) false=G0
 generalize y.cog m true=G1
 try (unfold RowKit.wrap64;omega)
theorem add_chain_p(nn:Nat)(op lb:Str)(xk xn:Nat)(xop:Str)(kids xb body y:T)(cases:T)(hX:CountOk (.x xk xn xop kids xb))(hB:ListOk body)(hX4:(T.cons y .nil).All StmtX)(hA:AddOk y):AddQ false 3 3 nn op lb xk xn xop kids xb body (.cons y .nil) false true cases:=by
 intro w D a1 n1 c1 a2 n2 c2 a3 n3 c3 a4 n4 c4 a5 n5 c5 h1 h2 h3 h4 h5 m
 obtain⟨E,hE⟩:∃ E,E=(T.x xk xn xop kids xb).cog m false:=⟨_,rfl⟩
 have ecog:(T.s 3 nn op lb (.x xk xn xop kids xb) body (.cons y .nil) false true cases).cog m false=E+(RowKit.wrap64 (1+m)+body.cog (RowKit.wrap64 (m+1)) false+y.cog m true):=by
  rw[hE]
  simp[T.cog]
 rw[ecog]
 clear ecog
 have HB:=Lib.hid hB
 clear hB
 have hXr:Rep w D (T.x xk xn xop kids xb).g [.int .i64 xk,.int .i64 xn,.string xop,.slice a1 n1 c1,.slice a2 n2 c2]:=xrep h1 h2
 have HC:RowKit.Hid (CntE xk xn xop kids xb m E):=Lib.hid (by rw[hE];exact fun w D v0 v1 v2 v3 v4 h=>hX w D v0 v1 v2 v3 v4 m false h)
 have HXr:=Lib.hid hXr
 have H3:=Lib.hid h3
 have H4:=Lib.hid h4
 have H5:=Lib.hid h5
 clear hE hX hXr h1 h2 h3 h4 h5
 have ob0:=heap_alloc_new w (.cells #[.int .i64 3,.int .i64 nn,.string op,.string lb,.int .i64 xk,.int .i64 xn,.string xop,.slice a1 n1 c1,.slice a2 n2 c2,.slice a3 n3 c3,.slice a4 n4 c4,.bool false,.bool true,.slice a5 n5 c5] 66)
 have kA:Kept (fun _=>False) w (w.alloc (.cells #[.int .i64 3,.int .i64 nn,.string op,.string lb,.int .i64 xk,.int .i64 xn,.string xop,.slice a1 n1 c1,.slice a2 n2 c2,.slice a3 n3 c3,.slice a4 n4 c4,.bool false,.bool true,.slice a5 n5 c5] 66)):=keptA
 go_enter Tryz.func41,Tryz.ntmps41
 go_upto_region 1 with fail
 obtain⟨w0,hw0⟩:∃ w0,w0=w.alloc (.cells #[.int .i64 3,.int .i64 nn,.string op,.string lb,.int .i64 xk,.int .i64 xn,.string xop,.slice a1 n1 c1,.slice a2 n2 c2,.slice a3 n3 c3,.slice a4 n4 c4,.bool false,.bool true,.slice a5 n5 c5] 66):=⟨_,rfl⟩
 rw[← hw0]at ob0 kA ⊢
 clear hw0
 obtain⟨x0,x1,x2,x3,x4,x5,x6,x7,x8,x9,x10,x11,x12,x13,-⟩:=slot14 ob0
 have z0:w.heap.size<w0.heap.size:=lt_of_heap ob0
 go_wp2_with fail
 refine(HC.out _ D _ _ _ _ _ (HXr.out.kept kA (fun _ _ f=>f))).mono ?_
 rintro e w1 ⟨rfl,k1⟩
 have ob1:=k1.obj ob0 (fun f=>f)
 have K1:=kA.trans k1
 clear x0 x1 x2 x3 x4 x5 x6 x7 x8 x9 x10 x11 x12 x13 z0
 obtain⟨x0,x1,x2,x3,x4,x5,x6,x7,x8,x9,x10,x11,x12,x13,-⟩:=slot14 ob1
 have z0:w.heap.size<w1.heap.size:=lt_of_heap ob1
 go_wp2_with fail
 refine(HB.out _ D a3 n3 c3 (RowKit.wrap64 (m+1)) (H3.out.kept K1 (fun _ _ f=>f))).mono ?_
 rintro e w2 ⟨rfl,k2⟩
 have ob2:=k2.obj ob1 (fun f=>f)
 have K2:=K1.trans k2
 clear x0 x1 x2 x3 x4 x5 x6 x7 x8 x9 x10 x11 x12 x13 z0
 obtain⟨x0,x1,x2,x3,x4,x5,x6,x7,x8,x9,x10,x11,x12,x13,-⟩:=slot14 ob2
 have z0:w.heap.size<w2.heap.size:=lt_of_heap ob2
 have h4':=H4.out.kept K2 (fun _ _ f=>f)
 have hn4:=Rep.len_eq (T.g_isList (.cons y .nil) trivial) h4'
 rw[T.g_len]at hn4
 obtain rfl:n4=1:=hn4
 obtain⟨g,o,rfl⟩:=slice_some (T.g_isList (.cons y .nil) trivial) h4' (by omega)
 obtain⟨⟨kd,mm,op',lb',xk',xn',xop',e1,e2,e3,e4,e5,e6,e7,e8,e9,e10,e11,e12,has',chain',e13,e14,e15⟩,kids',xb',body',els',cases',he,-,hg,q1,q2,q3,q4,q5,p0,p1,p2,p3,p4,p5,p6,p7,p8,p9,p10,p11,p12,p13⟩:=s_at (k:=0) h4' trivial hX4 (by simp[T.len])
 simp only[]at he q1 q2 q3 q4 q5 p0 p1 p2 p3 p4 p5 p6 p7 p8 p9 p10 p11 p12 p13
 simp only[Nat.zero_mul,Nat.add_zero]at p0 p1 p2 p3 p4 p5 p6 p7 p8 p9 p10 p11 p12 p13
 have HA:=Lib.hid (fun (w':World) (k:Kept (fun _=>False) w2 w')=>hA w' D ⟨kd,mm,op',lb',xk',xn',xop',e1,e2,e3,e4,e5,e6,e7,e8,e9,e10,e11,e12,has',chain',e13,e14,e15⟩ kids' xb' body' els' cases' he (q1.kept k (fun _ _ f=>f)) (q2.kept k (fun _ _ f=>f)) (q3.kept k (fun _ _ f=>f)) (q4.kept k (fun _ _ f=>f)) (q5.kept k (fun _ _ f=>f)) m true)
 clear h4' hX4 he q1 q2 q3 q4 q5 hA
 go_wp2_with fail
 refine(HA.out w2 (Kept.refl _ _)).mono ?_
 rintro e w3 ⟨rfl,k3⟩
 have K3:=K2.trans k3
 go_wp2_with fail
 go_ret
 refine⟨?_,K3⟩
 show Ending.returned (.int .i64 _)=Ending.returned (.int .i64 _)
 congr 2
 generalize body.cog (RowKit.wrap64 (m+1)) false=G0
 generalize y.cog m true=G1
 try (unfold RowKit.wrap64;omega)
theorem add_k6(nn:Nat)(op lb:Str)(xk xn:Nat)(xop:Str)(kids xb body els:T)(has:Bool)(chain:Bool)(cases:T)(hX:CountOk (.x xk xn xop kids xb))(hcl:cases.isList)(hcX:cases.All CaseX)(hcO:cases.All CaseL)(hcm:cases.len≤100000):AddV 6 6 nn op lb xk xn xop kids xb body els has chain cases:=by
 intro w D a1 n1 c1 a2 n2 c2 a3 n3 c3 a4 n4 c4 a5 n5 c5 h1 h2 h3 h4 h5 m f
 obtain⟨E,hE⟩:∃ E,E=(T.x xk xn xop kids xb).cog m false:=⟨_,rfl⟩
 have ecog:(T.s 6 nn op lb (.x xk xn xop kids xb) body els has chain cases).cog m f=E+(RowKit.wrap64 (1+m)+cases.cog (RowKit.wrap64 (m+1)) false):=by
  rw[hE]
  simp[T.cog]
 rw[ecog]
 clear ecog
 have HcX:=Lib.hid hcX
 have HcO:=Lib.hid hcO
 clear hcX hcO
 have hXr:Rep w D (T.x xk xn xop kids xb).g [.int .i64 xk,.int .i64 xn,.string xop,.slice a1 n1 c1,.slice a2 n2 c2]:=xrep h1 h2
 have HC:RowKit.Hid (CntE xk xn xop kids xb m E):=Lib.hid (by rw[hE];exact fun w D v0 v1 v2 v3 v4 h=>hX w D v0 v1 v2 v3 v4 m false h)
 have HXr:=Lib.hid hXr
 have H3:=Lib.hid h3
 have H4:=Lib.hid h4
 have H5:=Lib.hid h5
 clear hE hX hXr h1 h2 h3 h4 h5
 have ob0:=heap_alloc_new w (.cells #[.int .i64 6,.int .i64 nn,.string op,.string lb,.int .i64 xk,.int .i64 xn,.string xop,.slice a1 n1 c1,.slice a2 n2 c2,.slice a3 n3 c3,.slice a4 n4 c4,.bool has,.bool chain,.slice a5 n5 c5] 66)
 have kA:Kept (fun _=>False) w (w.alloc (.cells #[.int .i64 6,.int .i64 nn,.string op,.string lb,.int .i64 xk,.int .i64 xn,.string xop,.slice a1 n1 c1,.slice a2 n2 c2,.slice a3 n3 c3,.slice a4 n4 c4,.bool has,.bool chain,.slice a5 n5 c5] 66)):=keptA
 go_enter Tryz.func41,Tryz.ntmps41
 go_upto_region 1 with fail
 obtain⟨w0,hw0⟩:∃ w0,w0=w.alloc (.cells #[.int .i64 6,.int .i64 nn,.string op,.string lb,.int .i64 xk,.int .i64 xn,.string xop,.slice a1 n1 c1,.slice a2 n2 c2,.slice a3 n3 c3,.slice a4 n4 c4,.bool has,.bool chain,.slice a5 n5 c5] 66):=⟨_,rfl⟩
 rw[← hw0]at ob0 kA ⊢
 clear hw0
 obtain⟨x0,x1,x2,x3,x4,x5,x6,x7,x8,x9,x10,x11,x12,x13,-⟩:=slot14 ob0
 have z0:w.heap.size<w0.heap.size:=lt_of_heap ob0
 go_wp2_with fail
 refine(HC.out _ D _ _ _ _ _ (HXr.out.kept kA (fun _ _ f=>f))).mono ?_
 rintro e w1 ⟨rfl,k1⟩
 have ob1:=k1.obj ob0 (fun f=>f)
 have K1:=kA.trans k1
 clear x0 x1 x2 x3 x4 x5 x6 x7 x8 x9 x10 x11 x12 x13 z0
 obtain⟨x0,x1,x2,x3,x4,x5,x6,x7,x8,x9,x10,x11,x12,x13,-⟩:=slot14 ob1
 have z0:w.heap.size<w1.heap.size:=lt_of_heap ob1
 go_wp2_with fail
 have hn5:=Rep.len_eq (T.g_isList _ hcl) H5.out
 rw[T.g_len]at hn5
 have Hn5:=Lib.hid hn5
 have l5:n5≤100000:=by omega
 clear hn5
 obtain⟨E2,hE2⟩:∃ E2,E2=E+RowKit.wrap64 (1+m):=⟨_,rfl⟩
 have hE3:RowKit.wrap64 (RowKit.wrap64 E+RowKit.wrap64 (1+m))=RowKit.wrap64 E2:=by rw[hE2,wrap_ww,wrap_rw]
 rw[hE3]
 have HE2:=Lib.hid hE2
 clear hE2 hE3
 go_loopw [7,77] (fun s t wr=>∃ j:Nat,s=.int .i64 (RowKit.wrap64 (E2+cases.cogk (RowKit.wrap64 (m+1)) false j))∧t=.int .i64 j∧j≤n5∧Kept (fun _=>False) w1 wr) (fun _ t _=>(n5-intOf t).toNat)
 case atStart=>exact⟨0,by rw[T.cogk_zero,Int.add_zero],rfl,by omega,Kept.refl _ _⟩
 case round =>
  obtain⟨j,rfl,rfl,hj,KJ⟩:=hrel
  by_cases hlt2:(j:Int)<n5
  · have hjl:j<cases.len:=by have:=Hn5.out;omega
    have K4J:=K1.trans KJ
    obtain⟨g2,o2,rfl⟩:=slice_some (T.g_isList _ hcl) H5.out (by omega)
    obtain⟨ca,cn,cc,pc,hcr,hcx,hgc⟩:=c_at (k:=j) (H5.out.kept K4J (fun _ _ f=>f)) hcl HcX.out hjl
    have HC2:=Lib.hid (HcO.out.get hjl).2
    have Hcr:=Lib.hid hcr
    have Hsu2:=Lib.hid (T.cogk_succ (RowKit.wrap64 (m+1)) false cases j hjl)
    clear hcr hcx
    go_wp2_with fail
    refine(HC2.out _ D _ _ _ (RowKit.wrap64 (m+1)) Hcr.out).mono ?_
    rintro e w6 ⟨rfl,hk6⟩
    have K6:=KJ.trans hk6
    go_wp2_with fail
    go_roundw
    · exact⟨j+1,by rw[wrap_ww,Hsu2.out,Int.add_assoc],by go_num,by omega,K6⟩
    · simp[intOf];omega
  · have ej:j=cases.len:=by have:=Hn5.out;omega
    have Hj:=Lib.hid ej
    clear ej
    go_wp2_with fail
    go_ret
    refine⟨?_,K1.trans KJ⟩
    show Ending.returned (.int .i64 _)=Ending.returned (.int .i64 _)
    congr 2
    rw[HE2.out,Hj.out,T.cogk_all _ _ _ hcl,Int.add_assoc]
theorem add_k7(nn:Nat)(op lb:Str)(xk xn:Nat)(xop:Str)(kids xb body els:T)(has:Bool)(chain:Bool)(cases:T)(hX:CountOk (.x xk xn xop kids xb))(hcl:cases.isList)(hcX:cases.All CaseX)(hcO:cases.All CaseL)(hcm:cases.len≤100000):AddV 7 7 nn op lb xk xn xop kids xb body els has chain cases:=by
 intro w D a1 n1 c1 a2 n2 c2 a3 n3 c3 a4 n4 c4 a5 n5 c5 h1 h2 h3 h4 h5 m f
 obtain⟨E,hE⟩:∃ E,E=(T.x xk xn xop kids xb).cog m false:=⟨_,rfl⟩
 have ecog:(T.s 7 nn op lb (.x xk xn xop kids xb) body els has chain cases).cog m f=E+(RowKit.wrap64 (1+m)+cases.cog (RowKit.wrap64 (m+1)) false):=by
  rw[hE]
  simp[T.cog]
 rw[ecog]
 clear ecog
 have HcX:=Lib.hid hcX
 have HcO:=Lib.hid hcO
 clear hcX hcO
 have hXr:Rep w D (T.x xk xn xop kids xb).g [.int .i64 xk,.int .i64 xn,.string xop,.slice a1 n1 c1,.slice a2 n2 c2]:=xrep h1 h2
 have HC:RowKit.Hid (CntE xk xn xop kids xb m E):=Lib.hid (by rw[hE];exact fun w D v0 v1 v2 v3 v4 h=>hX w D v0 v1 v2 v3 v4 m false h)
 have HXr:=Lib.hid hXr
 have H3:=Lib.hid h3
 have H4:=Lib.hid h4
 have H5:=Lib.hid h5
 clear hE hX hXr h1 h2 h3 h4 h5
 have ob0:=heap_alloc_new w (.cells #[.int .i64 7,.int .i64 nn,.string op,.string lb,.int .i64 xk,.int .i64 xn,.string xop,.slice a1 n1 c1,.slice a2 n2 c2,.slice a3 n3 c3,.slice a4 n4 c4,.bool has,.bool chain,.slice a5 n5 c5] 66)
 have kA:Kept (fun _=>False) w (w.alloc (.cells #[.int .i64 7,.int .i64 nn,.string op,.string lb,.int .i64 xk,.int .i64 xn,.string xop,.slice a1 n1 c1,.slice a2 n2 c2,.slice a3 n3 c3,.slice a4 n4 c4,.bool has,.bool chain,.slice a5 n5 c5] 66)):=keptA
 go_enter Tryz.func41,Tryz.ntmps41
 go_upto_region 1 with fail
 obtain⟨w0,hw0⟩:∃ w0,w0=w.alloc (.cells #[.int .i64 7,.int .i64 nn,.string op,.string lb,.int .i64 xk,.int .i64 xn,.string xop,.slice a1 n1 c1,.slice a2 n2 c2,.slice a3 n3 c3,.slice a4 n4 c4,.bool has,.bool chain,.slice a5 n5 c5] 66):=⟨_,rfl⟩
 rw[← hw0]at ob0 kA ⊢
 clear hw0
 obtain⟨x0,x1,x2,x3,x4,x5,x6,x7,x8,x9,x10,x11,x12,x13,-⟩:=slot14 ob0
 have z0:w.heap.size<w0.heap.size:=lt_of_heap ob0
 go_wp2_with fail
 refine(HC.out _ D _ _ _ _ _ (HXr.out.kept kA (fun _ _ f=>f))).mono ?_
 rintro e w1 ⟨rfl,k1⟩
 have ob1:=k1.obj ob0 (fun f=>f)
 have K1:=kA.trans k1
 clear x0 x1 x2 x3 x4 x5 x6 x7 x8 x9 x10 x11 x12 x13 z0
 obtain⟨x0,x1,x2,x3,x4,x5,x6,x7,x8,x9,x10,x11,x12,x13,-⟩:=slot14 ob1
 have z0:w.heap.size<w1.heap.size:=lt_of_heap ob1
 go_wp2_with fail
 have hn5:=Rep.len_eq (T.g_isList _ hcl) H5.out
 rw[T.g_len]at hn5
 have Hn5:=Lib.hid hn5
 have l5:n5≤100000:=by omega
 clear hn5
 obtain⟨E2,hE2⟩:∃ E2,E2=E+RowKit.wrap64 (1+m):=⟨_,rfl⟩
 have hE3:RowKit.wrap64 (RowKit.wrap64 E+RowKit.wrap64 (1+m))=RowKit.wrap64 E2:=by rw[hE2,wrap_ww,wrap_rw]
 rw[hE3]
 have HE2:=Lib.hid hE2
 clear hE2 hE3
 go_loopw [7,77] (fun s t wr=>∃ j:Nat,s=.int .i64 (RowKit.wrap64 (E2+cases.cogk (RowKit.wrap64 (m+1)) false j))∧t=.int .i64 j∧j≤n5∧Kept (fun _=>False) w1 wr) (fun _ t _=>(n5-intOf t).toNat)
 case atStart=>exact⟨0,by rw[T.cogk_zero,Int.add_zero],rfl,by omega,Kept.refl _ _⟩
 case round =>
  obtain⟨j,rfl,rfl,hj,KJ⟩:=hrel
  by_cases hlt2:(j:Int)<n5
  · have hjl:j<cases.len:=by have:=Hn5.out;omega
    have K4J:=K1.trans KJ
    obtain⟨g2,o2,rfl⟩:=slice_some (T.g_isList _ hcl) H5.out (by omega)
    obtain⟨ca,cn,cc,pc,hcr,hcx,hgc⟩:=c_at (k:=j) (H5.out.kept K4J (fun _ _ f=>f)) hcl HcX.out hjl
    have HC2:=Lib.hid (HcO.out.get hjl).2
    have Hcr:=Lib.hid hcr
    have Hsu2:=Lib.hid (T.cogk_succ (RowKit.wrap64 (m+1)) false cases j hjl)
    clear hcr hcx
    go_wp2_with fail
    refine(HC2.out _ D _ _ _ (RowKit.wrap64 (m+1)) Hcr.out).mono ?_
    rintro e w6 ⟨rfl,hk6⟩
    have K6:=KJ.trans hk6
    go_wp2_with fail
    go_roundw
    · exact⟨j+1,by rw[wrap_ww,Hsu2.out,Int.add_assoc],by go_num,by omega,K6⟩
    · simp[intOf];omega
  · have ej:j=cases.len:=by have:=Hn5.out;omega
    have Hj:=Lib.hid ej
    clear ej
    go_wp2_with fail
    go_ret
    refine⟨?_,K1.trans KJ⟩
    show Ending.returned (.int .i64 _)=Ending.returned (.int .i64 _)
    congr 2
    rw[HE2.out,Hj.out,T.cogk_all _ _ _ hcl,Int.add_assoc]
theorem list_any2(l:T)(hl:l.isList)(hX:l.All StmtX)(hS:l.All AddOk)(hmax:l.len≤100000):ListOk l:=by
 intro w D a n c m hr
 have hlen:=Rep.len_eq (T.g_isList _ hl) hr
 rw[T.g_len]at hlen
 have hn:n≤100000:=by omega
 have Hlen:=Lib.hid hlen
 have HR:=Lib.hid hr
 have HX:=Lib.hid hX
 have HS:=Lib.hid hS
 clear hr hX hS hlen
 go_enter Tryz.func28,Tryz.ntmps28
 go_wp2_with fail
 go_loopw [5,10] (fun s t wr=>∃ k:Nat,s=.int .i64 (RowKit.wrap64 (l.cogk m false k))∧t=.int .i64 k∧k≤n∧Kept (fun _=>False) w wr) (fun _ t _=>(n-intOf t).toNat)
 case atStart=>exact⟨0,by rw[T.cogk_zero,wrap_zero],rfl,by omega,Kept.refl _ _⟩
 case round =>
  obtain⟨k,rfl,rfl,hk,K⟩:=hrel
  by_cases hlt:(k:Int)<n
  · have hkl:k<l.len:=by have:=Hlen.out;omega
    have hR':=HR.out.kept K (fun _ _ f=>f)
    obtain⟨g,o,rfl⟩:=slice_some (T.g_isList _ hl) hR' (by omega)
    obtain⟨⟨kd,mm,op',lb',xk',xn',xop',e1,e2,e3,e4,e5,e6,e7,e8,e9,e10,e11,e12,has',chain',e13,e14,e15⟩,kids',xb',body',els',cases',he,-,hg,q1,q2,q3,q4,q5,p0,p1,p2,p3,p4,p5,p6,p7,p8,p9,p10,p11,p12,p13⟩:=s_at (k:=k) hR' hl HX.out hkl
    simp only[]at he q1 q2 q3 q4 q5 p0 p1 p2 p3 p4 p5 p6 p7 p8 p9 p10 p11 p12 p13
    have hA:=HS.out.get hkl
    have HA:=Lib.hid (fun (w':World) (k:Kept (fun _=>False) wr w')=>hA w' D ⟨kd,mm,op',lb',xk',xn',xop',e1,e2,e3,e4,e5,e6,e7,e8,e9,e10,e11,e12,has',chain',e13,e14,e15⟩ kids' xb' body' els' cases' he (q1.kept k (fun _ _ f=>f)) (q2.kept k (fun _ _ f=>f)) (q3.kept k (fun _ _ f=>f)) (q4.kept k (fun _ _ f=>f)) (q5.kept k (fun _ _ f=>f)) m false)
    have Hsu:=Lib.hid (T.cogk_succ m false l k hkl)
    clear he q1 q2 q3 q4 q5 hA hR'
    go_wp2_with fail
    refine(HA.out _ keptA).mono ?_
    rintro e w2 ⟨rfl,k2⟩
    have K2:=K.trans (keptA.trans k2)
    go_wp2_with fail
    go_roundw
    · exact⟨k+1,by rw[wrap_ww,Hsu.out],by go_num,by omega,K2⟩
    · simp[intOf];omega
  · have ek:k=l.len:=by have:=Hlen.out;omega
    have Hek:=Lib.hid ek
    clear ek
    go_wp2_with fail
    go_ret
    refine⟨?_,K⟩
    show Ending.returned (.int .i64 _)=Ending.returned (.int .i64 _)
    congr 2
    rw[Hek.out,T.cogk_all _ _ _ hl]
end Go.Proofs.YtleolbpibjnedaaGreat
namespace Gc
open Go
theorem opl_cost:∀ (t:T),t.opl.length≤t.cost
 | .x kind m op (.cons a (.cons b r)) body=>by
   have h1:=opl_cost a
   have h2:=opl_cost b
   simp only[T.opl,T.cost]
   split
   · rename_i hk
     subst hk
     simp only[List.length_append]
     split<;>simp<;>omega
   · simp
 | .nil | .cons _ _ | .x _ _ _ .nil _ | .x _ _ _ (.cons _ .nil) _ | .x _ _ _ (.cons _ (.x ..)) _ | .x _ _ _ (.cons _ (.s ..)) _ | .x _ _ _ (.x ..) _ | .x _ _ _ (.s ..) _ | .s ..=>by simp[T.opl]
end Gc
namespace Go.Proofs.YtleolbpibjnedaaGreat
open Go Go.RowKit Gc
def GoodC(o:So)(t:T):Prop :=
 match o with
 | .E=>CountOk t∧OpsOk t
 | .S=>AddOk t
 | .Es=>t.All CountOk
 | .Ss=>t.All AddOk∧ListOk t
 | .Cs=>t.All CaseL
theorem list_nil2:ListOk .nil:=list_any2 .nil trivial trivial trivial (by simp[T.len])
theorem good_C{fl:Bool}{o:So}{t:T}(h:W fl o t):t.cost≤10000→GoodC o t:=by
 induction h with
 | num =>
   intro hc
   have ho:OpsOk (.x 0 0 sE .nil .nil):=(ops_no 0 0 sE .nil .nil (by decide))
   exact⟨count_any 0 0 sE .nil .nil ho (Nat.le_trans (opl_cost _) hc) trivial trivial trivial trivial list_nil2 (by simp[T.len]),ho⟩
 | var n h =>
   intro hc
   have ho:OpsOk (.x 1 n sE .nil .nil):=(ops_no 1 n sE .nil .nil (by decide))
   exact⟨count_any 1 n sE .nil .nil ho (Nat.le_trans (opl_cost _) hc) trivial trivial trivial trivial list_nil2 (by simp[T.len]),ho⟩
 | bin op a b h ha hb hx hy ih1 ih2 =>
   intro hc
   have hc':=hc
   simp only[T.cost]at hc'
   have g1:=ih1 (by omega)
   have g2:=ih2 (by omega)
   have hall:(T.cons a (.cons b .nil)).All ExprX:=⟨(good_S ha (by omega)).1,(good_S hb (by omega)).1,trivial⟩
   have ho:OpsOk (.x 2 0 op (.cons a (.cons b .nil)) .nil):=ops_two 0 op a b .nil trivial hall g1.2 g2.2
   exact⟨count_any 2 0 op (.cons a (.cons b .nil)) .nil ho (Nat.le_trans (opl_cost _) hc) trivial hall ⟨g1.1,g2.1,trivial⟩ trivial list_nil2 (by simp[T.len]),ho⟩
 | not a ha ih =>
   intro hc
   have hc':=hc
   simp only[T.cost]at hc'
   have ho:OpsOk (.x 3 0 sE (.cons a .nil) .nil):=(ops_no 3 0 sE (.cons a .nil) .nil (by decide))
   exact⟨count_any 3 0 sE (.cons a .nil) .nil ho (Nat.le_trans (opl_cost _) hc) trivial ⟨(good_S ha (by omega)).1,trivial⟩ ⟨(ih (by omega)).1,trivial⟩ trivial list_nil2 (by simp[T.len]),ho⟩
 | par a ha ih =>
   intro hc
   have hc':=hc
   simp only[T.cost]at hc'
   have ho:OpsOk (.x 4 0 sE (.cons a .nil) .nil):=(ops_no 4 0 sE (.cons a .nil) .nil (by decide))
   exact⟨count_any 4 0 sE (.cons a .nil) .nil ho (Nat.le_trans (opl_cost _) hc) trivial ⟨(good_S ha (by omega)).1,trivial⟩ ⟨(ih (by omega)).1,trivial⟩ trivial list_nil2 (by simp[T.len]),ho⟩
 | call f args h ha ih =>
   intro hc
   have hc':=hc
   simp only[T.cost]at hc'
   have hG:=good_S ha (by omega)
   have ho:OpsOk (.x 5 0 f args .nil):=(ops_no 5 0 f args .nil (by decide))
   exact⟨count_any 5 0 f args .nil ho (Nat.le_trans (opl_cost _) hc) hG.1 hG.2.2 (ih (by omega)) trivial list_nil2 (by have:=hG.2.1;omega),ho⟩
 | lit body h hb ih =>
   intro hc
   have hc':=hc
   simp only[T.cost]at hc'
   have hG:=good_S hb (by omega)
   have ho:OpsOk (.x 6 0 sE .nil body):=(ops_no 6 0 sE .nil body (by decide))
   exact⟨count_any 6 0 sE .nil body ho (Nat.le_trans (opl_cost _) hc) trivial trivial trivial hG.1 (ih (by omega)).2 (by simp[T.len]),ho⟩
 | enil=>intro _;exact trivial
 | snil=>intro _;exact⟨trivial,list_nil2⟩
 | cnil=>intro _;exact trivial
 | econs a t ha ht ih1 ih2=>intro hc;simp only[T.cost]at hc;exact⟨(ih1 (by omega)).1,ih2 (by omega)⟩
 | scons a t ha ht ih1 ih2 =>
   intro hc
   have hG:=good_S (W.scons a t ha ht) (by omega)
   have hA:T.All AddOk (.cons a t):=by simp only[T.cost]at hc;exact⟨ih1 (by omega),(ih2 (by omega)).1⟩
   exact⟨hA,list_any2 _ hG.1 hG.2.2 hA (by have:=hG.2.1;omega)⟩
 | ccons a t ha ht ih1 ih2 =>
   intro hc
   simp only[T.cost]at hc
   exact⟨⟨(good_S ha (by omega)).1,(ih1 (by omega)).2⟩,ih2 (by omega)⟩
 | expr f args h ha ih =>
   intro hc
   simp only[T.cost]at hc
   have hG:=good_S ha (by omega)
   have hX:=count_any 5 0 f args .nil (ops_no 5 0 f args .nil (by decide)) (Nat.le_trans (opl_cost _) (by simp[T.cost];omega)) hG.1 hG.2.2 (ih (by omega)) trivial list_nil2 (by have:=hG.2.1;omega)
   intro w D s kids' xb' body' els' cases' e h1 h2 h3 h4 h5 m f
   obtain⟨kind',nn',op',lb',xk',xn',xop',a1,n1,c1,a2,n2,c2,a3,n3,c3,a4,n4,c4,has',chain',a5,n5,c5⟩:=s
   simp only[T.s.injEq,T.x.injEq]at e
   obtain⟨rfl,rfl,rfl,rfl,⟨rfl,rfl,rfl,rfl,rfl⟩,rfl,rfl,rfl,rfl,rfl⟩:=e
   exact add_k0 _ _ _ _ _ _ _ _ _ _ _ _ _ hX w D _ _ _ _ _ _ _ _ _ _ _ _ _ _ _ h1 h2 h3 h4 h5 m f
 | assign n op a hn h ha ih =>
   intro hc
   simp only[T.cost]at hc
   have hX:=(ih (by omega)).1
   intro w D s kids' xb' body' els' cases' e h1 h2 h3 h4 h5 m f
   obtain⟨kind',nn',op',lb',xk',xn',xop',a1,n1,c1,a2,n2,c2,a3,n3,c3,a4,n4,c4,has',chain',a5,n5,c5⟩:=s
   simp only[T.s.injEq,T.x.injEq]at e
   obtain⟨rfl,rfl,rfl,rfl,rfl,rfl,rfl,rfl,rfl,rfl⟩:=e
   exact add_k1 _ _ _ _ _ _ _ _ _ _ _ _ _ hX w D _ _ _ _ _ _ _ _ _ _ _ _ _ _ _ h1 h2 h3 h4 h5 m f
 | count n op hn h =>
   intro hc
   intro w D s kids' xb' body' els' cases' e h1 h2 h3 h4 h5 m f
   obtain⟨kind',nn',op',lb',xk',xn',xop',a1,n1,c1,a2,n2,c2,a3,n3,c3,a4,n4,c4,has',chain',a5,n5,c5⟩:=s
   simp only[T.s.injEq,T.x.injEq]at e
   obtain⟨rfl,rfl,rfl,rfl,⟨rfl,rfl,rfl,rfl,rfl⟩,rfl,rfl,rfl,rfl,rfl⟩:=e
   exact add_k2 _ _ _ _ _ _ _ _ _ _ _ _ _ (count_any 0 0 sE .nil .nil (ops_no 0 0 sE .nil .nil (by decide)) (by simp[T.opl]) trivial trivial trivial trivial list_nil2 (by simp[T.len])) w D _ _ _ _ _ _ _ _ _ _ _ _ _ _ _ h1 h2 h3 h4 h5 m f
 | ifNo a body ha hb ih1 ih2 =>
   intro hc
   simp only[T.cost]at hc
   have hX:=(ih1 (by omega)).1
   have hB:=(ih2 (by omega)).2
   intro w D s kids' xb' body' els' cases' e h1 h2 h3 h4 h5 m f
   obtain⟨kind',nn',op',lb',xk',xn',xop',a1,n1,c1,a2,n2,c2,a3,n3,c3,a4,n4,c4,has',chain',a5,n5,c5⟩:=s
   simp only[T.s.injEq,T.x.injEq]at e
   obtain⟨rfl,rfl,rfl,rfl,rfl,rfl,rfl,rfl,rfl,rfl⟩:=e
   cases f
   · exact add_if_p _ _ _ _ _ _ _ _ _ _ _ hX hB w D _ _ _ _ _ _ _ _ _ _ _ _ _ _ _ h1 h2 h3 h4 h5 m
   · exact add_if_c _ _ _ _ _ _ _ _ _ _ _ hX hB w D _ _ _ _ _ _ _ _ _ _ _ _ _ _ _ h1 h2 h3 h4 h5 m
 | ifElse a body els ha hb he ih1 ih2 ih3 =>
   intro hc
   simp only[T.cost]at hc
   have hX:=(ih1 (by omega)).1
   have hB:=(ih2 (by omega)).2
   have hL:=(ih3 (by omega)).2
   intro w D s kids' xb' body' els' cases' e h1 h2 h3 h4 h5 m f
   obtain⟨kind',nn',op',lb',xk',xn',xop',a1,n1,c1,a2,n2,c2,a3,n3,c3,a4,n4,c4,has',chain',a5,n5,c5⟩:=s
   simp only[T.s.injEq,T.x.injEq]at e
   obtain⟨rfl,rfl,rfl,rfl,rfl,rfl,rfl,rfl,rfl,rfl⟩:=e
   cases f
   · exact add_ifelse_p _ _ _ _ _ _ _ _ _ _ _ hX hB hL w D _ _ _ _ _ _ _ _ _ _ _ _ _ _ _ h1 h2 h3 h4 h5 m
   · exact add_ifelse_c _ _ _ _ _ _ _ _ _ _ _ hX hB hL w D _ _ _ _ _ _ _ _ _ _ _ _ _ _ _ h1 h2 h3 h4 h5 m
 | ifChain a body a' body' els' has' chain' ha hb he ih1 ih2 ih3 =>
   intro hc
   have hc':a.cost+body.cost+(T.s 3 0 sE sE a' body' els' has' chain' .nil).cost≤10000:=by simp only[T.cost]at hc ⊢;omega
   have hX:=(ih1 (by omega)).1
   have hB:=(ih2 (by omega)).2
   have hA:=ih3 (by omega)
   have hX4:(T.cons (T.s 3 0 sE sE a' body' els' has' chain' .nil) .nil).All StmtX:=⟨(good_S he (by omega)).1,trivial⟩
   generalize T.s 3 0 sE sE a' body' els' has' chain' .nil=y at hA hX4
   clear hc hc' he ih3
   intro w D s kids2 xb2 body2 els2 cases2 e h1 h2 h3 h4 h5 m f
   obtain⟨kind',nn',op',lb',xk',xn',xop',a1,n1,c1,a2,n2,c2,a3,n3,c3,a4,n4,c4,has2,chain2,a5,n5,c5⟩:=s
   simp only[T.s.injEq,T.x.injEq]at e
   obtain⟨rfl,rfl,rfl,rfl,rfl,rfl,rfl,rfl,rfl,rfl⟩:=e
   cases f
   · exact add_chain_p _ _ _ _ _ _ _ _ _ _ _ hX hB hX4 hA w D _ _ _ _ _ _ _ _ _ _ _ _ _ _ _ h1 h2 h3 h4 h5 m
   · exact add_chain_c _ _ _ _ _ _ _ _ _ _ _ hX hB hX4 hA w D _ _ _ _ _ _ _ _ _ _ _ _ _ _ _ h1 h2 h3 h4 h5 m
 | for_ a body ha hb ih1 ih2 =>
   intro hc
   simp only[T.cost]at hc
   have hX:=(ih1 (by omega)).1
   have hB:=(ih2 (by omega)).2
   intro w D s kids' xb' body' els' cases' e h1 h2 h3 h4 h5 m f
   obtain⟨kind',nn',op',lb',xk',xn',xop',a1,n1,c1,a2,n2,c2,a3,n3,c3,a4,n4,c4,has',chain',a5,n5,c5⟩:=s
   simp only[T.s.injEq,T.x.injEq]at e
   obtain⟨rfl,rfl,rfl,rfl,rfl,rfl,rfl,rfl,rfl,rfl⟩:=e
   exact add_k4 _ _ _ _ _ _ _ _ _ _ _ _ _ hX hB w D _ _ _ _ _ _ _ _ _ _ _ _ _ _ _ h1 h2 h3 h4 h5 m f
 | range a body ha hb ih1 ih2 =>
   intro hc
   simp only[T.cost]at hc
   have hX:=(ih1 (by omega)).1
   have hB:=(ih2 (by omega)).2
   intro w D s kids' xb' body' els' cases' e h1 h2 h3 h4 h5 m f
   obtain⟨kind',nn',op',lb',xk',xn',xop',a1,n1,c1,a2,n2,c2,a3,n3,c3,a4,n4,c4,has',chain',a5,n5,c5⟩:=s
   simp only[T.s.injEq,T.x.injEq]at e
   obtain⟨rfl,rfl,rfl,rfl,rfl,rfl,rfl,rfl,rfl,rfl⟩:=e
   exact add_k5 _ _ _ _ _ _ _ _ _ _ _ _ _ hX hB w D _ _ _ _ _ _ _ _ _ _ _ _ _ _ _ h1 h2 h3 h4 h5 m f
 | switch a cases ha hcs h ih1 ih2 =>
   intro hc
   simp only[T.cost]at hc
   have hX:=(ih1 (by omega)).1
   have hO:=ih2 (by omega)
   have hG:=good_S hcs (by omega)
   intro w D s kids' xb' body' els' cases' e h1 h2 h3 h4 h5 m f
   obtain⟨kind',nn',op',lb',xk',xn',xop',a1,n1,c1,a2,n2,c2,a3,n3,c3,a4,n4,c4,has',chain',a5,n5,c5⟩:=s
   simp only[T.s.injEq,T.x.injEq]at e
   obtain⟨rfl,rfl,rfl,rfl,rfl,rfl,rfl,rfl,rfl,rfl⟩:=e
   exact add_k6 _ _ _ _ _ _ _ _ _ _ _ _ _ hX hG.1 hG.2 hO (by omega) w D _ _ _ _ _ _ _ _ _ _ _ _ _ _ _ h1 h2 h3 h4 h5 m f
 | select cases h hcs h2 ih =>
   intro hc
   simp only[T.cost]at hc
   have hO:=ih (by omega)
   have hG:=good_S hcs (by omega)
   intro w D s kids' xb' body' els' cases' e h1 h2' h3 h4 h5 m f
   obtain⟨kind',nn',op',lb',xk',xn',xop',a1,n1,c1,a2,n2,c2,a3,n3,c3,a4,n4,c4,has',chain',a5,n5,c5⟩:=s
   simp only[T.s.injEq,T.x.injEq]at e
   obtain⟨rfl,rfl,rfl,rfl,⟨rfl,rfl,rfl,rfl,rfl⟩,rfl,rfl,rfl,rfl,rfl⟩:=e
   exact add_k7 _ _ _ _ _ _ _ _ _ _ _ _ _ (count_any 0 0 sE .nil .nil (ops_no 0 0 sE .nil .nil (by decide)) (by simp[T.opl]) trivial trivial trivial trivial list_nil2 (by simp[T.len])) hG.1 hG.2 hO (by omega) w D _ _ _ _ _ _ _ _ _ _ _ _ _ _ _ h1 h2' h3 h4 h5 m f
 | branch op h =>
   intro hc
   intro w D s kids' xb' body' els' cases' e h1 h2 h3 h4 h5 m f
   obtain⟨kind',nn',op',lb',xk',xn',xop',a1,n1,c1,a2,n2,c2,a3,n3,c3,a4,n4,c4,has',chain',a5,n5,c5⟩:=s
   simp only[T.s.injEq,T.x.injEq]at e
   obtain⟨rfl,rfl,rfl,rfl,⟨rfl,rfl,rfl,rfl,rfl⟩,rfl,rfl,rfl,rfl,rfl⟩:=e
   exact add_k8no _ _ _ _ _ _ _ _ _ _ _ _ _ (count_any 0 0 sE .nil .nil (ops_no 0 0 sE .nil .nil (by decide)) (by simp[T.opl]) trivial trivial trivial trivial list_nil2 (by simp[T.len])) (by simp[sE,Go.ByteArray.toList_eq]) w D _ _ _ _ _ _ _ _ _ _ _ _ _ _ _ h1 h2 h3 h4 h5 m f
 | branchTo op k h hk =>
   intro hc
   intro w D s kids' xb' body' els' cases' e h1 h2 h3 h4 h5 m f
   obtain⟨kind',nn',op',lb',xk',xn',xop',a1,n1,c1,a2,n2,c2,a3,n3,c3,a4,n4,c4,has',chain',a5,n5,c5⟩:=s
   simp only[T.s.injEq,T.x.injEq]at e
   obtain⟨rfl,rfl,rfl,rfl,⟨rfl,rfl,rfl,rfl,rfl⟩,rfl,rfl,rfl,rfl,rfl⟩:=e
   exact add_k8 _ _ _ _ _ _ _ _ _ _ _ _ _ (count_any 0 0 sE .nil .nil (ops_no 0 0 sE .nil .nil (by decide)) (by simp[T.opl]) trivial trivial trivial trivial list_nil2 (by simp[T.len])) (by simp[lab,strOf,Go.ByteArray.toList_eq]) w D _ _ _ _ _ _ _ _ _ _ _ _ _ _ _ h1 h2 h3 h4 h5 m f
 | ret a ha ih =>
   intro hc
   simp only[T.cost]at hc
   have hX:=(ih (by omega)).1
   intro w D s kids' xb' body' els' cases' e h1 h2 h3 h4 h5 m f
   obtain⟨kind',nn',op',lb',xk',xn',xop',a1,n1,c1,a2,n2,c2,a3,n3,c3,a4,n4,c4,has',chain',a5,n5,c5⟩:=s
   simp only[T.s.injEq,T.x.injEq]at e
   obtain⟨rfl,rfl,rfl,rfl,rfl,rfl,rfl,rfl,rfl,rfl⟩:=e
   exact add_k9 _ _ _ _ _ _ _ _ _ _ _ _ _ hX w D _ _ _ _ _ _ _ _ _ _ _ _ _ _ _ h1 h2 h3 h4 h5 m f
 | block body hb ih =>
   intro hc
   simp only[T.cost]at hc
   have hB:=(ih (by omega)).2
   intro w D s kids' xb' body' els' cases' e h1 h2 h3 h4 h5 m f
   obtain⟨kind',nn',op',lb',xk',xn',xop',a1,n1,c1,a2,n2,c2,a3,n3,c3,a4,n4,c4,has',chain',a5,n5,c5⟩:=s
   simp only[T.s.injEq,T.x.injEq]at e
   obtain⟨rfl,rfl,rfl,rfl,⟨rfl,rfl,rfl,rfl,rfl⟩,rfl,rfl,rfl,rfl,rfl⟩:=e
   exact add_k10 _ _ _ _ _ _ _ _ _ _ _ _ _ (count_any 0 0 sE .nil .nil (ops_no 0 0 sE .nil .nil (by decide)) (by simp[T.opl]) trivial trivial trivial trivial list_nil2 (by simp[T.len])) hB w D _ _ _ _ _ _ _ _ _ _ _ _ _ _ _ h1 h2 h3 h4 h5 m f
 | labelled k kind a body hk h ha hb ih1 ih2 =>
   intro hc
   simp only[T.cost]at hc
   have hX:=(ih1 (by omega)).1
   have hB:=(ih2 (by omega)).2
   have hW:W fl .S (.s kind 0 sE sE a body .nil false false .nil):=by rcases h with rfl | rfl;exact .for_ a body ha hb;exact .range a body ha hb
   have hI:AddOk (.s kind 0 sE sE a body .nil false false .nil):=by
    intro w D s kids' xb' body' els' cases' e h1 h2 h3 h4 h5 m f
    obtain⟨kind2,nn',op',lb',xk',xn',xop',a1,n1,c1,a2,n2,c2,a3,n3,c3,a4,n4,c4,has',chain',a5,n5,c5⟩:=s
    simp only[T.s.injEq,T.x.injEq]at e
    rcases h with rfl|rfl
    · obtain⟨rfl,rfl,rfl,rfl,rfl,rfl,rfl,rfl,rfl,rfl⟩:=e
      exact add_k4 _ _ _ _ _ _ _ _ _ _ _ _ _ hX hB w D _ _ _ _ _ _ _ _ _ _ _ _ _ _ _ h1 h2 h3 h4 h5 m f
    · obtain⟨rfl,rfl,rfl,rfl,rfl,rfl,rfl,rfl,rfl,rfl⟩:=e
      exact add_k5 _ _ _ _ _ _ _ _ _ _ _ _ _ hX hB w D _ _ _ _ _ _ _ _ _ _ _ _ _ _ _ h1 h2 h3 h4 h5 m f
   have hlc:(T.cons (.s kind 0 sE sE a body .nil false false .nil) .nil).cost≤10000:=by simp only[T.cost]at hc ⊢;omega
   have hG:=good_S (W.scons _ _ hW .snil) (by omega)
   have hL:ListOk (.cons (.s kind 0 sE sE a body .nil false false .nil) .nil):=list_any2 _ hG.1 hG.2.2 ⟨hI,trivial⟩ (by simp[T.len])
   generalize T.s kind 0 sE sE a body .nil false false .nil=y at hL
   clear hI hW hG hlc hc
   intro w D s kids' xb' body' els' cases' e h1 h2 h3 h4 h5 m f
   obtain⟨kind',nn',op',lb',xk',xn',xop',a1,n1,c1,a2,n2,c2,a3,n3,c3,a4,n4,c4,has',chain',a5,n5,c5⟩:=s
   simp only[T.s.injEq,T.x.injEq]at e
   obtain⟨rfl,rfl,rfl,rfl,⟨rfl,rfl,rfl,rfl,rfl⟩,rfl,rfl,rfl,rfl,rfl⟩:=e
   exact add_k11 _ _ _ _ _ _ _ _ _ _ _ _ _ (count_any 0 0 sE .nil .nil (ops_no 0 0 sE .nil .nil (by decide)) (by simp[T.opl]) trivial trivial trivial trivial list_nil2 (by simp[T.len])) hL w D _ _ _ _ _ _ _ _ _ _ _ _ _ _ _ h1 h2 h3 h4 h5 m f
theorem spec_cog{fl:Bool}{t:T}(h:W fl .Ss t)(hc:t.cost≤10000)(name:Str)(w:World)(D:Nat→Prop)(a:Option Addr)(n c:Nat)(hr:Rep w D t.g [.slice a n c]) :
 Calls Tryz.prog 14 #[.string name,.slice a n c] w (NumW w (t.cog 0 false+(if t.calls name=true then 1 else 0))):=by
 have HL:=Lib.hid ((good_C h hc).2 w D a n c 0 hr)
 have HK:=Lib.hid (fun (w':World) (k:Kept (fun _=>False) w w')=>(good_K name h (by omega)).2 w' D a n c (hr.kept k (fun _ _ f=>f)))
 obtain⟨E,hE⟩:∃ E,E=t.cog 0 false:=⟨_,rfl⟩
 obtain⟨r,hr'⟩:∃ r,r=t.calls name:=⟨_,rfl⟩
 rw[← hE]at HL ⊢
 rw[← hr']at HK ⊢
 clear hE hr' hr
 cases r
 · go_enter Tryz.func14,Tryz.ntmps14
   go_wp2_with fail
   refine HL.out.mono ?_
   rintro e w1 ⟨rfl,k1⟩
   go_wp2_with fail
   refine(HK.out w1 k1).mono ?_
   rintro e w2 ⟨rfl,k2⟩
   go_wp2_with fail
   go_ret
   exact⟨by simp,k1.trans k2⟩
 · go_enter Tryz.func14,Tryz.ntmps14
   go_wp2_with fail
   refine HL.out.mono ?_
   rintro e w1 ⟨rfl,k1⟩
   go_wp2_with fail
   refine(HK.out w1 k1).mono ?_
   rintro e w2 ⟨rfl,k2⟩
   go_wp2_with fail
   go_ret
   exact⟨by simp[wrap_lw],k1.trans k2⟩
end Go.Proofs.YtleolbpibjnedaaGreat
