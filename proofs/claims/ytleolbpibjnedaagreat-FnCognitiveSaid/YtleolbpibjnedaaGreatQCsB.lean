/- spec.add. -/
import Derived.Test.YtleolbpibjnedaaGreatQCsA
import Derived.Test.YtleolbpibjnedaaGreatQSr
set_option linter.unusedSimpArgs false
set_option linter.unusedVariables false
set_option maxRecDepth 100000
set_option maxHeartbeats 4000000
namespace Go.Proofs.YtleolbpibjnedaaGreat
open Go Go.RowKit Gc
theorem count_any(kind n:Nat)(op:Str)(kids body:T)(hops:OpsOk (.x kind n op kids body))(hol:(T.x kind n op kids body).opl.length≤10000)(hl:kids.isList)(hall:kids.All ExprX)(hBr:kids.All CountOk)(bl:body.isList)(hw:ListOk body)(hmax:kids.len≤100000):CountOk (.x kind n op kids body):=by
 intro w D v0 v1 v2 v3 v4 m f hr
 by_cases hk:kind=2
 · cases hlg:logic op<;>cases f
   · exact count_plus kind n op kids body hk hlg hl hall hBr bl hw hmax w D _ _ _ _ _ m hr
   · exact count_countedp kind n op kids body hk hlg hl hall hBr bl hw hmax w D _ _ _ _ _ m hr
   · exact count_run kind n op kids body hk hlg hops hol hl hall hBr bl hw hmax w D _ _ _ _ _ m hr
   · exact count_counted kind n op kids body hk hlg hl hall hBr bl hw hmax w D _ _ _ _ _ m hr
 · exact count_no kind n op kids body hk hl hall hBr bl hw hmax f w D _ _ _ _ _ m hr
def AddOk(t:T):Prop:=∀ (w:World) (D:Nat→Prop) (s:SV) (kids xb body els cases:T),t=.s s.kind s.n s.op s.lab (.x s.xk s.xn s.xop kids xb) body els s.has s.chain cases→Rep w D kids.g [.slice s.a1 s.n1 s.c1]→Rep w D xb.g [.slice s.a2 s.n2 s.c2]→Rep w D body.g [.slice s.a3 s.n3 s.c3]→Rep w D els.g [.slice s.a4 s.n4 s.c4]→Rep w D cases.g [.slice s.a5 s.n5 s.c5] →
 ∀ (m:Int) (f:Bool),Calls Tryz.prog 41 #[.agg #[.int .i64 s.kind,.int .i64 s.n,.string s.op,.string s.lab,.int .i64 s.xk,.int .i64 s.xn,.string s.xop,.slice s.a1 s.n1 s.c1,.slice s.a2 s.n2 s.c2,.slice s.a3 s.n3 s.c3,.slice s.a4 s.n4 s.c4,.bool s.has,.bool s.chain,.slice s.a5 s.n5 s.c5],.int .i64 m,.bool f] w (NumW w (t.cog m f))
def AddV(k:Int)(kn nn:Nat)(op lb:Str)(xk xn:Nat)(xop:Str)(kids xb body els:T)(has chain:Bool)(cases:T):Prop:=∀ (w:World) (D:Nat→Prop) (a1:Option Addr) (n1 c1:Nat) (a2:Option Addr) (n2 c2:Nat) (a3:Option Addr) (n3 c3:Nat) (a4:Option Addr) (n4 c4:Nat) (a5:Option Addr) (n5 c5:Nat),Rep w D kids.g [.slice a1 n1 c1]→Rep w D xb.g [.slice a2 n2 c2]→Rep w D body.g [.slice a3 n3 c3]→Rep w D els.g [.slice a4 n4 c4]→Rep w D cases.g [.slice a5 n5 c5]→∀ (m:Int) (f:Bool),Calls Tryz.prog 41 #[.agg #[.int .i64 k,.int .i64 nn,.string op,.string lb,.int .i64 xk,.int .i64 xn,.string xop,.slice a1 n1 c1,.slice a2 n2 c2,.slice a3 n3 c3,.slice a4 n4 c4,.bool has,.bool chain,.slice a5 n5 c5],.int .i64 m,.bool f] w (NumW w ((T.s kn nn op lb (.x xk xn xop kids xb) body els has chain cases).cog m f))
def AddQ(f:Bool)(k:Int)(kn nn:Nat)(op lb:Str)(xk xn:Nat)(xop:Str)(kids xb body els:T)(has chain:Bool)(cases:T):Prop:=∀ (w:World) (D:Nat→Prop) (a1:Option Addr) (n1 c1:Nat) (a2:Option Addr) (n2 c2:Nat) (a3:Option Addr) (n3 c3:Nat) (a4:Option Addr) (n4 c4:Nat) (a5:Option Addr) (n5 c5:Nat),Rep w D kids.g [.slice a1 n1 c1]→Rep w D xb.g [.slice a2 n2 c2]→Rep w D body.g [.slice a3 n3 c3]→Rep w D els.g [.slice a4 n4 c4]→Rep w D cases.g [.slice a5 n5 c5]→∀ m:Int,Calls Tryz.prog 41 #[.agg #[.int .i64 k,.int .i64 nn,.string op,.string lb,.int .i64 xk,.int .i64 xn,.string xop,.slice a1 n1 c1,.slice a2 n2 c2,.slice a3 n3 c3,.slice a4 n4 c4,.bool has,.bool chain,.slice a5 n5 c5],.int .i64 m,.bool f] w (NumW w ((T.s kn nn op lb (.x xk xn xop kids xb) body els has chain cases).cog m f))
def CntE(xk xn:Nat)(xop:Str)(kids xb:T)(m E:Int):Prop:=∀ (w:World) (D:Nat→Prop) (v0 v1 v2 v3 v4:Value),Rep w D (T.x xk xn xop kids xb).g [v0,v1,v2,v3,v4]→Calls Tryz.prog 62 #[.agg #[v0,v1,v2,v3,v4],.int .i64 m,.bool false] w (NumW w E)
theorem xrep{w:World}{D:Nat→Prop}{k n:Nat}{op:Str}{kids body:T}{a1 a2:Option Addr}{n1 c1 n2 c2:Nat}(h1:Rep w D kids.g [.slice a1 n1 c1])(h2:Rep w D body.g [.slice a2 n2 c2]):Rep w D (T.x k n op kids body).g [.int .i64 k,.int .i64 n,.string op,.slice a1 n1 c1,.slice a2 n2 c2] :=
 ⟨_,rfl,_,rfl,_,rfl,_,_,rfl,h1,_,_,rfl,h2,rfl⟩
theorem add_k0(nn:Nat)(op lb:Str)(xk xn:Nat)(xop:Str)(kids xb body els:T)(has:Bool)(chain:Bool)(cases:T)(hX:CountOk (.x xk xn xop kids xb)):AddV 0 0 nn op lb xk xn xop kids xb body els has chain cases:=by
 intro w D a1 n1 c1 a2 n2 c2 a3 n3 c3 a4 n4 c4 a5 n5 c5 h1 h2 h3 h4 h5 m f
 obtain⟨E,hE⟩:∃ E,E=(T.x xk xn xop kids xb).cog m false:=⟨_,rfl⟩
 have ecog:(T.s 0 nn op lb (.x xk xn xop kids xb) body els has chain cases).cog m f=E+0:=by
  rw[hE]
  simp[T.cog]
 rw[ecog]
 clear ecog
 have hXr:Rep w D (T.x xk xn xop kids xb).g [.int .i64 xk,.int .i64 xn,.string xop,.slice a1 n1 c1,.slice a2 n2 c2]:=xrep h1 h2
 have HC:RowKit.Hid (CntE xk xn xop kids xb m E):=Lib.hid (by rw[hE];exact fun w D v0 v1 v2 v3 v4 h=>hX w D v0 v1 v2 v3 v4 m false h)
 have HXr:=Lib.hid hXr
 have H3:=Lib.hid h3
 have H4:=Lib.hid h4
 have H5:=Lib.hid h5
 clear hE hX hXr h1 h2 h3 h4 h5
 have ob0:=heap_alloc_new w (.cells #[.int .i64 0,.int .i64 nn,.string op,.string lb,.int .i64 xk,.int .i64 xn,.string xop,.slice a1 n1 c1,.slice a2 n2 c2,.slice a3 n3 c3,.slice a4 n4 c4,.bool has,.bool chain,.slice a5 n5 c5] 66)
 have kA:Kept (fun _=>False) w (w.alloc (.cells #[.int .i64 0,.int .i64 nn,.string op,.string lb,.int .i64 xk,.int .i64 xn,.string xop,.slice a1 n1 c1,.slice a2 n2 c2,.slice a3 n3 c3,.slice a4 n4 c4,.bool has,.bool chain,.slice a5 n5 c5] 66)):=keptA
 go_enter Tryz.func41,Tryz.ntmps41
 go_upto_region 1 with fail
 obtain⟨w0,hw0⟩:∃ w0,w0=w.alloc (.cells #[.int .i64 0,.int .i64 nn,.string op,.string lb,.int .i64 xk,.int .i64 xn,.string xop,.slice a1 n1 c1,.slice a2 n2 c2,.slice a3 n3 c3,.slice a4 n4 c4,.bool has,.bool chain,.slice a5 n5 c5] 66):=⟨_,rfl⟩
 rw[← hw0]at ob0 kA ⊢
 clear hw0
 obtain⟨x0,x1,x2,x3,x4,x5,x6,x7,x8,x9,x10,x11,x12,x13,-⟩:=slot14 ob0
 have z0:w.heap.size<w0.heap.size:=lt_of_heap ob0
 go_wp2_with fail
 refine(HC.out _ D _ _ _ _ _ (HXr.out.kept kA (fun _ _ f=>f))).mono ?_
 rintro e w1 ⟨rfl,k1⟩
 have ob1:=k1.obj ob0 (fun f=>f)
 have K1:=kA.trans k1
 clear x0 x1 x2 x3 x4 x5 x6 x7 x8 x9 x10 x11 x12 x13 z0
 obtain⟨x0,x1,x2,x3,x4,x5,x6,x7,x8,x9,x10,x11,x12,x13,-⟩:=slot14 ob1
 have z0:w.heap.size<w1.heap.size:=lt_of_heap ob1
 go_wp2_with fail
 go_ret
 refine⟨?_,K1⟩
 show Ending.returned (.int .i64 _)=Ending.returned (.int .i64 _)
 congr 2
 try (unfold RowKit.wrap64;omega)
theorem add_k1(nn:Nat)(op lb:Str)(xk xn:Nat)(xop:Str)(kids xb body els:T)(has:Bool)(chain:Bool)(cases:T)(hX:CountOk (.x xk xn xop kids xb)):AddV 1 1 nn op lb xk xn xop kids xb body els has chain cases:=by
 intro w D a1 n1 c1 a2 n2 c2 a3 n3 c3 a4 n4 c4 a5 n5 c5 h1 h2 h3 h4 h5 m f
 obtain⟨E,hE⟩:∃ E,E=(T.x xk xn xop kids xb).cog m false:=⟨_,rfl⟩
 have ecog:(T.s 1 nn op lb (.x xk xn xop kids xb) body els has chain cases).cog m f=E+0:=by
  rw[hE]
  simp[T.cog]
 rw[ecog]
 clear ecog
 have hXr:Rep w D (T.x xk xn xop kids xb).g [.int .i64 xk,.int .i64 xn,.string xop,.slice a1 n1 c1,.slice a2 n2 c2]:=xrep h1 h2
 have HC:RowKit.Hid (CntE xk xn xop kids xb m E):=Lib.hid (by rw[hE];exact fun w D v0 v1 v2 v3 v4 h=>hX w D v0 v1 v2 v3 v4 m false h)
 have HXr:=Lib.hid hXr
 have H3:=Lib.hid h3
 have H4:=Lib.hid h4
 have H5:=Lib.hid h5
 clear hE hX hXr h1 h2 h3 h4 h5
 have ob0:=heap_alloc_new w (.cells #[.int .i64 1,.int .i64 nn,.string op,.string lb,.int .i64 xk,.int .i64 xn,.string xop,.slice a1 n1 c1,.slice a2 n2 c2,.slice a3 n3 c3,.slice a4 n4 c4,.bool has,.bool chain,.slice a5 n5 c5] 66)
 have kA:Kept (fun _=>False) w (w.alloc (.cells #[.int .i64 1,.int .i64 nn,.string op,.string lb,.int .i64 xk,.int .i64 xn,.string xop,.slice a1 n1 c1,.slice a2 n2 c2,.slice a3 n3 c3,.slice a4 n4 c4,.bool has,.bool chain,.slice a5 n5 c5] 66)):=keptA
 go_enter Tryz.func41,Tryz.ntmps41
 go_upto_region 1 with fail
 obtain⟨w0,hw0⟩:∃ w0,w0=w.alloc (.cells #[.int .i64 1,.int .i64 nn,.string op,.string lb,.int .i64 xk,.int .i64 xn,.string xop,.slice a1 n1 c1,.slice a2 n2 c2,.slice a3 n3 c3,.slice a4 n4 c4,.bool has,.bool chain,.slice a5 n5 c5] 66):=⟨_,rfl⟩
 rw[← hw0]at ob0 kA ⊢
 clear hw0
 obtain⟨x0,x1,x2,x3,x4,x5,x6,x7,x8,x9,x10,x11,x12,x13,-⟩:=slot14 ob0
 have z0:w.heap.size<w0.heap.size:=lt_of_heap ob0
 go_wp2_with fail
 refine(HC.out _ D _ _ _ _ _ (HXr.out.kept kA (fun _ _ f=>f))).mono ?_
 rintro e w1 ⟨rfl,k1⟩
 have ob1:=k1.obj ob0 (fun f=>f)
 have K1:=kA.trans k1
 clear x0 x1 x2 x3 x4 x5 x6 x7 x8 x9 x10 x11 x12 x13 z0
 obtain⟨x0,x1,x2,x3,x4,x5,x6,x7,x8,x9,x10,x11,x12,x13,-⟩:=slot14 ob1
 have z0:w.heap.size<w1.heap.size:=lt_of_heap ob1
 go_wp2_with fail
 go_ret
 refine⟨?_,K1⟩
 show Ending.returned (.int .i64 _)=Ending.returned (.int .i64 _)
 congr 2
 try (unfold RowKit.wrap64;omega)
theorem add_k2(nn:Nat)(op lb:Str)(xk xn:Nat)(xop:Str)(kids xb body els:T)(has:Bool)(chain:Bool)(cases:T)(hX:CountOk (.x xk xn xop kids xb)):AddV 2 2 nn op lb xk xn xop kids xb body els has chain cases:=by
 intro w D a1 n1 c1 a2 n2 c2 a3 n3 c3 a4 n4 c4 a5 n5 c5 h1 h2 h3 h4 h5 m f
 obtain⟨E,hE⟩:∃ E,E=(T.x xk xn xop kids xb).cog m false:=⟨_,rfl⟩
 have ecog:(T.s 2 nn op lb (.x xk xn xop kids xb) body els has chain cases).cog m f=E+0:=by
  rw[hE]
  simp[T.cog]
 rw[ecog]
 clear ecog
 have hXr:Rep w D (T.x xk xn xop kids xb).g [.int .i64 xk,.int .i64 xn,.string xop,.slice a1 n1 c1,.slice a2 n2 c2]:=xrep h1 h2
 have HC:RowKit.Hid (CntE xk xn xop kids xb m E):=Lib.hid (by rw[hE];exact fun w D v0 v1 v2 v3 v4 h=>hX w D v0 v1 v2 v3 v4 m false h)
 have HXr:=Lib.hid hXr
 have H3:=Lib.hid h3
 have H4:=Lib.hid h4
 have H5:=Lib.hid h5
 clear hE hX hXr h1 h2 h3 h4 h5
 have ob0:=heap_alloc_new w (.cells #[.int .i64 2,.int .i64 nn,.string op,.string lb,.int .i64 xk,.int .i64 xn,.string xop,.slice a1 n1 c1,.slice a2 n2 c2,.slice a3 n3 c3,.slice a4 n4 c4,.bool has,.bool chain,.slice a5 n5 c5] 66)
 have kA:Kept (fun _=>False) w (w.alloc (.cells #[.int .i64 2,.int .i64 nn,.string op,.string lb,.int .i64 xk,.int .i64 xn,.string xop,.slice a1 n1 c1,.slice a2 n2 c2,.slice a3 n3 c3,.slice a4 n4 c4,.bool has,.bool chain,.slice a5 n5 c5] 66)):=keptA
 go_enter Tryz.func41,Tryz.ntmps41
 go_upto_region 1 with fail
 obtain⟨w0,hw0⟩:∃ w0,w0=w.alloc (.cells #[.int .i64 2,.int .i64 nn,.string op,.string lb,.int .i64 xk,.int .i64 xn,.string xop,.slice a1 n1 c1,.slice a2 n2 c2,.slice a3 n3 c3,.slice a4 n4 c4,.bool has,.bool chain,.slice a5 n5 c5] 66):=⟨_,rfl⟩
 rw[← hw0]at ob0 kA ⊢
 clear hw0
 obtain⟨x0,x1,x2,x3,x4,x5,x6,x7,x8,x9,x10,x11,x12,x13,-⟩:=slot14 ob0
 have z0:w.heap.size<w0.heap.size:=lt_of_heap ob0
 go_wp2_with fail
 refine(HC.out _ D _ _ _ _ _ (HXr.out.kept kA (fun _ _ f=>f))).mono ?_
 rintro e w1 ⟨rfl,k1⟩
 have ob1:=k1.obj ob0 (fun f=>f)
 have K1:=kA.trans k1
 clear x0 x1 x2 x3 x4 x5 x6 x7 x8 x9 x10 x11 x12 x13 z0
 obtain⟨x0,x1,x2,x3,x4,x5,x6,x7,x8,x9,x10,x11,x12,x13,-⟩:=slot14 ob1
 have z0:w.heap.size<w1.heap.size:=lt_of_heap ob1
 go_wp2_with fail
 go_ret
 refine⟨?_,K1⟩
 show Ending.returned (.int .i64 _)=Ending.returned (.int .i64 _)
 congr 2
 try (unfold RowKit.wrap64;omega)
theorem add_k9(nn:Nat)(op lb:Str)(xk xn:Nat)(xop:Str)(kids xb body els:T)(has:Bool)(chain:Bool)(cases:T)(hX:CountOk (.x xk xn xop kids xb)):AddV 9 9 nn op lb xk xn xop kids xb body els has chain cases:=by
 intro w D a1 n1 c1 a2 n2 c2 a3 n3 c3 a4 n4 c4 a5 n5 c5 h1 h2 h3 h4 h5 m f
 obtain⟨E,hE⟩:∃ E,E=(T.x xk xn xop kids xb).cog m false:=⟨_,rfl⟩
 have ecog:(T.s 9 nn op lb (.x xk xn xop kids xb) body els has chain cases).cog m f=E+0:=by
  rw[hE]
  simp[T.cog]
 rw[ecog]
 clear ecog
 have hXr:Rep w D (T.x xk xn xop kids xb).g [.int .i64 xk,.int .i64 xn,.string xop,.slice a1 n1 c1,.slice a2 n2 c2]:=xrep h1 h2
 have HC:RowKit.Hid (CntE xk xn xop kids xb m E):=Lib.hid (by rw[hE];exact fun w D v0 v1 v2 v3 v4 h=>hX w D v0 v1 v2 v3 v4 m false h)
 have HXr:=Lib.hid hXr
 have H3:=Lib.hid h3
 have H4:=Lib.hid h4
 have H5:=Lib.hid h5
 clear hE hX hXr h1 h2 h3 h4 h5
 have ob0:=heap_alloc_new w (.cells #[.int .i64 9,.int .i64 nn,.string op,.string lb,.int .i64 xk,.int .i64 xn,.string xop,.slice a1 n1 c1,.slice a2 n2 c2,.slice a3 n3 c3,.slice a4 n4 c4,.bool has,.bool chain,.slice a5 n5 c5] 66)
 have kA:Kept (fun _=>False) w (w.alloc (.cells #[.int .i64 9,.int .i64 nn,.string op,.string lb,.int .i64 xk,.int .i64 xn,.string xop,.slice a1 n1 c1,.slice a2 n2 c2,.slice a3 n3 c3,.slice a4 n4 c4,.bool has,.bool chain,.slice a5 n5 c5] 66)):=keptA
 go_enter Tryz.func41,Tryz.ntmps41
 go_upto_region 1 with fail
 obtain⟨w0,hw0⟩:∃ w0,w0=w.alloc (.cells #[.int .i64 9,.int .i64 nn,.string op,.string lb,.int .i64 xk,.int .i64 xn,.string xop,.slice a1 n1 c1,.slice a2 n2 c2,.slice a3 n3 c3,.slice a4 n4 c4,.bool has,.bool chain,.slice a5 n5 c5] 66):=⟨_,rfl⟩
 rw[← hw0]at ob0 kA ⊢
 clear hw0
 obtain⟨x0,x1,x2,x3,x4,x5,x6,x7,x8,x9,x10,x11,x12,x13,-⟩:=slot14 ob0
 have z0:w.heap.size<w0.heap.size:=lt_of_heap ob0
 go_wp2_with fail
 refine(HC.out _ D _ _ _ _ _ (HXr.out.kept kA (fun _ _ f=>f))).mono ?_
 rintro e w1 ⟨rfl,k1⟩
 have ob1:=k1.obj ob0 (fun f=>f)
 have K1:=kA.trans k1
 clear x0 x1 x2 x3 x4 x5 x6 x7 x8 x9 x10 x11 x12 x13 z0
 obtain⟨x0,x1,x2,x3,x4,x5,x6,x7,x8,x9,x10,x11,x12,x13,-⟩:=slot14 ob1
 have z0:w.heap.size<w1.heap.size:=lt_of_heap ob1
 go_wp2_with fail
 go_ret
 refine⟨?_,K1⟩
 show Ending.returned (.int .i64 _)=Ending.returned (.int .i64 _)
 congr 2
 try (unfold RowKit.wrap64;omega)
theorem add_if_c(nn:Nat)(op lb:Str)(xk xn:Nat)(xop:Str)(kids xb body els:T)(cases:T)(hX:CountOk (.x xk xn xop kids xb))(hB:ListOk body):AddQ true 3 3 nn op lb xk xn xop kids xb body els false false cases:=by
 intro w D a1 n1 c1 a2 n2 c2 a3 n3 c3 a4 n4 c4 a5 n5 c5 h1 h2 h3 h4 h5 m
 obtain⟨E,hE⟩:∃ E,E=(T.x xk xn xop kids xb).cog m false:=⟨_,rfl⟩
 have ecog:(T.s 3 nn op lb (.x xk xn xop kids xb) body els false false cases).cog m true=E+(1+body.cog (RowKit.wrap64 (m+1)) false):=by
  rw[hE]
  simp[T.cog]
 rw[ecog]
 clear ecog
 have HB:=Lib.hid hB
 clear hB
 have hXr:Rep w D (T.x xk xn xop kids xb).g [.int .i64 xk,.int .i64 xn,.string xop,.slice a1 n1 c1,.slice a2 n2 c2]:=xrep h1 h2
 have HC:RowKit.Hid (CntE xk xn xop kids xb m E):=Lib.hid (by rw[hE];exact fun w D v0 v1 v2 v3 v4 h=>hX w D v0 v1 v2 v3 v4 m false h)
 have HXr:=Lib.hid hXr
 have H3:=Lib.hid h3
 have H4:=Lib.hid h4
 have H5:=Lib.hid h5
 clear hE hX hXr h1 h2 h3 h4 h5
 have ob0:=heap_alloc_new w (.cells #[.int .i64 3,.int .i64 nn,.string op,.string lb,.int .i64 xk,.int .i64 xn,.string xop,.slice a1 n1 c1,.slice a2 n2 c2,.slice a3 n3 c3,.slice a4 n4 c4,.bool false,.bool false,.slice a5 n5 c5] 66)
 have kA:Kept (fun _=>False) w (w.alloc (.cells #[.int .i64 3,.int .i64 nn,.string op,.string lb,.int .i64 xk,.int .i64 xn,.string xop,.slice a1 n1 c1,.slice a2 n2 c2,.slice a3 n3 c3,.slice a4 n4 c4,.bool false,.bool false,.slice a5 n5 c5] 66)):=keptA
 go_enter Tryz.func41,Tryz.ntmps41
 go_upto_region 1 with fail
 obtain⟨w0,hw0⟩:∃ w0,w0=w.alloc (.cells #[.int .i64 3,.int .i64 nn,.string op,.string lb,.int .i64 xk,.int .i64 xn,.string xop,.slice a1 n1 c1,.slice a2 n2 c2,.slice a3 n3 c3,.slice a4 n4 c4,.bool false,.bool false,.slice a5 n5 c5] 66):=⟨_,rfl⟩
 rw[← hw0]at ob0 kA ⊢
 clear hw0
 obtain⟨x0,x1,x2,x3,x4,x5,x6,x7,x8,x9,x10,x11,x12,x13,-⟩:=slot14 ob0
 have z0:w.heap.size<w0.heap.size:=lt_of_heap ob0
 go_wp2_with fail
 refine(HC.out _ D _ _ _ _ _ (HXr.out.kept kA (fun _ _ f=>f))).mono ?_
 rintro e w1 ⟨rfl,k1⟩
 have ob1:=k1.obj ob0 (fun f=>f)
 have K1:=kA.trans k1
 clear x0 x1 x2 x3 x4 x5 x6 x7 x8 x9 x10 x11 x12 x13 z0
 obtain⟨x0,x1,x2,x3,x4,x5,x6,x7,x8,x9,x10,x11,x12,x13,-⟩:=slot14 ob1
 have z0:w.heap.size<w1.heap.size:=lt_of_heap ob1
 go_wp2_with fail
 refine(HB.out _ D a3 n3 c3 (RowKit.wrap64 (m+1)) (H3.out.kept K1 (fun _ _ f=>f))).mono ?_
 rintro e w2 ⟨rfl,k2⟩
 have ob2:=k2.obj ob1 (fun f=>f)
 have K2:=K1.trans k2
 clear x0 x1 x2 x3 x4 x5 x6 x7 x8 x9 x10 x11 x12 x13 z0
 obtain⟨x0,x1,x2,x3,x4,x5,x6,x7,x8,x9,x10,x11,x12,x13,-⟩:=slot14 ob2
 have z0:w.heap.size<w2.heap.size:=lt_of_heap ob2
 go_wp2_with fail
 go_ret
 refine⟨?_,K2⟩
 show Ending.returned (.int .i64 _)=Ending.returned (.int .i64 _)
 congr 2
 generalize body.cog (RowKit.wrap64 (m+1)) false=G0
 try (unfold RowKit.wrap64;omega)
theorem add_ifelse_c(nn:Nat)(op lb:Str)(xk xn:Nat)(xop:Str)(kids xb body els:T)(cases:T)(hX:CountOk (.x xk xn xop kids xb))(hB:ListOk body)(hL:ListOk els):AddQ true 3 3 nn op lb xk xn xop kids xb body els true false cases:=by
 intro w D a1 n1 c1 a2 n2 c2 a3 n3 c3 a4 n4 c4 a5 n5 c5 h1 h2 h3 h4 h5 m
 obtain⟨E,hE⟩:∃ E,E=(T.x xk xn xop kids xb).cog m false:=⟨_,rfl⟩
 have ecog:(T.s 3 nn op lb (.x xk xn xop kids xb) body els true false cases).cog m true=E+(1+body.cog (RowKit.wrap64 (m+1)) false+(1+els.cog (RowKit.wrap64 (m+1)) false)):=by
  rw[hE]
  simp[T.cog]
 rw[ecog]
 clear ecog
 have HB:=Lib.hid hB
 clear hB
 have HL:=Lib.hid hL
 clear hL
 have hXr:Rep w D (T.x xk xn xop kids xb).g [.int .i64 xk,.int .i64 xn,.string xop,.slice a1 n1 c1,.slice a2 n2 c2]:=xrep h1 h2
 have HC:RowKit.Hid (CntE xk xn xop kids xb m E):=Lib.hid (by rw[hE];exact fun w D v0 v1 v2 v3 v4 h=>hX w D v0 v1 v2 v3 v4 m false h)
 have HXr:=Lib.hid hXr
 have H3:=Lib.hid h3
 have H4:=Lib.hid h4
 have H5:=Lib.hid h5
 clear hE hX hXr h1 h2 h3 h4 h5
 have ob0:=heap_alloc_new w (.cells #[.int .i64 3,.int .i64 nn,.string op,.string lb,.int .i64 xk,.int .i64 xn,.string xop,.slice a1 n1 c1,.slice a2 n2 c2,.slice a3 n3 c3,.slice a4 n4 c4,.bool true,.bool false,.slice a5 n5 c5] 66)
 have kA:Kept (fun _=>False) w (w.alloc (.cells #[.int .i64 3,.int .i64 nn,.string op,.string lb,.int .i64 xk,.int .i64 xn,.string xop,.slice a1 n1 c1,.slice a2 n2 c2,.slice a3 n3 c3,.slice a4 n4 c4,.bool true,.bool false,.slice a5 n5 c5] 66)):=keptA
 go_enter Tryz.func41,Tryz.ntmps41
 go_upto_region 1 with fail
 obtain⟨w0,hw0⟩:∃ w0,w0=w.alloc (.cells #[.int .i64 3,.int .i64 nn,.string op,.string lb,.int .i64 xk,.int .i64 xn,.string xop,.slice a1 n1 c1,.slice a2 n2 c2,.slice a3 n3 c3,.slice a4 n4 c4,.bool true,.bool false,.slice a5 n5 c5] 66):=⟨_,rfl⟩
 rw[← hw0]at ob0 kA ⊢
 clear hw0
 obtain⟨x0,x1,x2,x3,x4,x5,x6,x7,x8,x9,x10,x11,x12,x13,-⟩:=slot14 ob0
 have z0:w.heap.size<w0.heap.size:=lt_of_heap ob0
 go_wp2_with fail
 refine(HC.out _ D _ _ _ _ _ (HXr.out.kept kA (fun _ _ f=>f))).mono ?_
 rintro e w1 ⟨rfl,k1⟩
 have ob1:=k1.obj ob0 (fun f=>f)
 have K1:=kA.trans k1
 clear x0 x1 x2 x3 x4 x5 x6 x7 x8 x9 x10 x11 x12 x13 z0
 obtain⟨x0,x1,x2,x3,x4,x5,x6,x7,x8,x9,x10,x11,x12,x13,-⟩:=slot14 ob1
 have z0:w.heap.size<w1.heap.size:=lt_of_heap ob1
 go_wp2_with fail
 refine(HB.out _ D a3 n3 c3 (RowKit.wrap64 (m+1)) (H3.out.kept K1 (fun _ _ f=>f))).mono ?_
 rintro e w2 ⟨rfl,k2⟩
 have ob2:=k2.obj ob1 (fun f=>f)
 have K2:=K1.trans k2
 clear x0 x1 x2 x3 x4 x5 x6 x7 x8 x9 x10 x11 x12 x13 z0
 obtain⟨x0,x1,x2,x3,x4,x5,x6,x7,x8,x9,x10,x11,x12,x13,-⟩:=slot14 ob2
 have z0:w.heap.size<w2.heap.size:=lt_of_heap ob2
 go_wp2_with fail
 refine(HL.out _ D a4 n4 c4 (RowKit.wrap64 (m+1)) (H4.out.kept K2 (fun _ _ f=>f))).mono ?_
 rintro e w3 ⟨rfl,k3⟩
 have ob3:=k3.obj ob2 (fun f=>f)
 have K3:=K2.trans k3
 clear x0 x1 x2 x3 x4 x5 x6 x7 x8 x9 x10 x11 x12 x13 z0
 obtain⟨x0,x1,x2,x3,x4,x5,x6,x7,x8,x9,x10,x11,x12,x13,-⟩:=slot14 ob3
 have z0:w.heap.size<w3.heap.size:=lt_of_heap ob3
 go_wp2_with fail
 go_ret
 refine⟨?_,K3⟩
 show Ending.returned (.int .i64 _)=Ending.returned (.int .i64 _)
 congr 2
 generalize body.cog (RowKit.wrap64 (m+1)) false=G0
 generalize els.cog (RowKit.wrap64 (m+1)) false=G1
 try (unfold RowKit.wrap64;omega)
theorem add_if_p(nn:Nat)(op lb:Str)(xk xn:Nat)(xop:Str)(kids xb body els:T)(cases:T)(hX:CountOk (.x xk xn xop kids xb))(hB:ListOk body):AddQ false 3 3 nn op lb xk xn xop kids xb body els false false cases:=by
 intro w D a1 n1 c1 a2 n2 c2 a3 n3 c3 a4 n4 c4 a5 n5 c5 h1 h2 h3 h4 h5 m
 obtain⟨E,hE⟩:∃ E,E=(T.x xk xn xop kids xb).cog m false:=⟨_,rfl⟩
 have ecog:(T.s 3 nn op lb (.x xk xn xop kids xb) body els false false cases).cog m false=E+(RowKit.wrap64 (1+m)+body.cog (RowKit.wrap64 (m+1)) false):=by
  rw[hE]
  simp[T.cog]
 rw[ecog]
 clear ecog
 have HB:=Lib.hid hB
 clear hB
 have hXr:Rep w D (T.x xk xn xop kids xb).g [.int .i64 xk,.int .i64 xn,.string xop,.slice a1 n1 c1,.slice a2 n2 c2]:=xrep h1 h2
 have HC:RowKit.Hid (CntE xk xn xop kids xb m E):=Lib.hid (by rw[hE];exact fun w D v0 v1 v2 v3 v4 h=>hX w D v0 v1 v2 v3 v4 m false h)
 have HXr:=Lib.hid hXr
 have H3:=Lib.hid h3
 have H4:=Lib.hid h4
 have H5:=Lib.hid h5
 clear hE hX hXr h1 h2 h3 h4 h5
 have ob0:=heap_alloc_new w (.cells #[.int .i64 3,.int .i64 nn,.string op,.string lb,.int .i64 xk,.int .i64 xn,.string xop,.slice a1 n1 c1,.slice a2 n2 c2,.slice a3 n3 c3,.slice a4 n4 c4,.bool false,.bool false,.slice a5 n5 c5] 66)
 have kA:Kept (fun _=>False) w (w.alloc (.cells #[.int .i64 3,.int .i64 nn,.string op,.string lb,.int .i64 xk,.int .i64 xn,.string xop,.slice a1 n1 c1,.slice a2 n2 c2,.slice a3 n3 c3,.slice a4 n4 c4,.bool false,.bool false,.slice a5 n5 c5] 66)):=keptA
 go_enter Tryz.func41,Tryz.ntmps41
 go_upto_region 1 with fail
 obtain⟨w0,hw0⟩:∃ w0,w0=w.alloc (.cells #[.int .i64 3,.int .i64 nn,.string op,.string lb,.int .i64 xk,.int .i64 xn,.string xop,.slice a1 n1 c1,.slice a2 n2 c2,.slice a3 n3 c3,.slice a4 n4 c4,.bool false,.bool false,.slice a5 n5 c5] 66):=⟨_,rfl⟩
 rw[← hw0]at ob0 kA ⊢
 clear hw0
 obtain⟨x0,x1,x2,x3,x4,x5,x6,x7,x8,x9,x10,x11,x12,x13,-⟩:=slot14 ob0
 have z0:w.heap.size<w0.heap.size:=lt_of_heap ob0
 go_wp2_with fail
 refine(HC.out _ D _ _ _ _ _ (HXr.out.kept kA (fun _ _ f=>f))).mono ?_
 rintro e w1 ⟨rfl,k1⟩
 have ob1:=k1.obj ob0 (fun f=>f)
 have K1:=kA.trans k1
 clear x0 x1 x2 x3 x4 x5 x6 x7 x8 x9 x10 x11 x12 x13 z0
 obtain⟨x0,x1,x2,x3,x4,x5,x6,x7,x8,x9,x10,x11,x12,x13,-⟩:=slot14 ob1
 have z0:w.heap.size<w1.heap.size:=lt_of_heap ob1
 go_wp2_with fail
 refine(HB.out _ D a3 n3 c3 (RowKit.wrap64 (m+1)) (H3.out.kept K1 (fun _ _ f=>f))).mono ?_
 rintro e w2 ⟨rfl,k2⟩
 have ob2:=k2.obj ob1 (fun f=>f)
 have K2:=K1.trans k2
 clear x0 x1 x2 x3 x4 x5 x6 x7 x8 x9 x10 x11 x12 x13 z0
 obtain⟨x0,x1,x2,x3,x4,x5,x6,x7,x8,x9,x10,x11,x12,x13,-⟩:=slot14 ob2
 have z0:w.heap.size<w2.heap.size:=lt_of_heap ob2
 go_wp2_with fail
 go_ret
 refine⟨?_,K2⟩
 show Ending.returned (.int .i64 _)=Ending.returned (.int .i64 _)
 congr 2
 generalize body.cog (RowKit.wrap64 (m+1)) false=G0
 try (unfold RowKit.wrap64;omega)
theorem add_ifelse_p(nn:Nat)(op lb:Str)(xk xn:Nat)(xop:Str)(kids xb body els:T)(cases:T)(hX:CountOk (.x xk xn xop kids xb))(hB:ListOk body)(hL:ListOk els):AddQ false 3 3 nn op lb xk xn xop kids xb body els true false cases:=by
 intro w D a1 n1 c1 a2 n2 c2 a3 n3 c3 a4 n4 c4 a5 n5 c5 h1 h2 h3 h4 h5 m
 obtain⟨E,hE⟩:∃ E,E=(T.x xk xn xop kids xb).cog m false:=⟨_,rfl⟩
 have ecog:(T.s 3 nn op lb (.x xk xn xop kids xb) body els true false cases).cog m false=E+(RowKit.wrap64 (1+m)+body.cog (RowKit.wrap64 (m+1)) false+(1+els.cog (RowKit.wrap64 (m+1)) false)):=by
  rw[hE]
  simp[T.cog]
 rw[ecog]
 clear ecog
 have HB:=Lib.hid hB
 clear hB
 have HL:=Lib.hid hL
 clear hL
 have hXr:Rep w D (T.x xk xn xop kids xb).g [.int .i64 xk,.int .i64 xn,.string xop,.slice a1 n1 c1,.slice a2 n2 c2]:=xrep h1 h2
 have HC:RowKit.Hid (CntE xk xn xop kids xb m E):=Lib.hid (by rw[hE];exact fun w D v0 v1 v2 v3 v4 h=>hX w D v0 v1 v2 v3 v4 m false h)
 have HXr:=Lib.hid hXr
 have H3:=Lib.hid h3
 have H4:=Lib.hid h4
 have H5:=Lib.hid h5
 clear hE hX hXr h1 h2 h3 h4 h5
 have ob0:=heap_alloc_new w (.cells #[.int .i64 3,.int .i64 nn,.string op,.string lb,.int .i64 xk,.int .i64 xn,.string xop,.slice a1 n1 c1,.slice a2 n2 c2,.slice a3 n3 c3,.slice a4 n4 c4,.bool true,.bool false,.slice a5 n5 c5] 66)
 have kA:Kept (fun _=>False) w (w.alloc (.cells #[.int .i64 3,.int .i64 nn,.string op,.string lb,.int .i64 xk,.int .i64 xn,.string xop,.slice a1 n1 c1,.slice a2 n2 c2,.slice a3 n3 c3,.slice a4 n4 c4,.bool true,.bool false,.slice a5 n5 c5] 66)):=keptA
 go_enter Tryz.func41,Tryz.ntmps41
 go_upto_region 1 with fail
 obtain⟨w0,hw0⟩:∃ w0,w0=w.alloc (.cells #[.int .i64 3,.int .i64 nn,.string op,.string lb,.int .i64 xk,.int .i64 xn,.string xop,.slice a1 n1 c1,.slice a2 n2 c2,.slice a3 n3 c3,.slice a4 n4 c4,.bool true,.bool false,.slice a5 n5 c5] 66):=⟨_,rfl⟩
 rw[← hw0]at ob0 kA ⊢
 clear hw0
 obtain⟨x0,x1,x2,x3,x4,x5,x6,x7,x8,x9,x10,x11,x12,x13,-⟩:=slot14 ob0
 have z0:w.heap.size<w0.heap.size:=lt_of_heap ob0
 go_wp2_with fail
 refine(HC.out _ D _ _ _ _ _ (HXr.out.kept kA (fun _ _ f=>f))).mono ?_
 rintro e w1 ⟨rfl,k1⟩
 have ob1:=k1.obj ob0 (fun f=>f)
 have K1:=kA.trans k1
 clear x0 x1 x2 x3 x4 x5 x6 x7 x8 x9 x10 x11 x12 x13 z0
 obtain⟨x0,x1,x2,x3,x4,x5,x6,x7,x8,x9,x10,x11,x12,x13,-⟩:=slot14 ob1
 have z0:w.heap.size<w1.heap.size:=lt_of_heap ob1
 go_wp2_with fail
 refine(HB.out _ D a3 n3 c3 (RowKit.wrap64 (m+1)) (H3.out.kept K1 (fun _ _ f=>f))).mono ?_
 rintro e w2 ⟨rfl,k2⟩
 have ob2:=k2.obj ob1 (fun f=>f)
 have K2:=K1.trans k2
 clear x0 x1 x2 x3 x4 x5 x6 x7 x8 x9 x10 x11 x12 x13 z0
 obtain⟨x0,x1,x2,x3,x4,x5,x6,x7,x8,x9,x10,x11,x12,x13,-⟩:=slot14 ob2
 have z0:w.heap.size<w2.heap.size:=lt_of_heap ob2
 go_wp2_with fail
 refine(HL.out _ D a4 n4 c4 (RowKit.wrap64 (m+1)) (H4.out.kept K2 (fun _ _ f=>f))).mono ?_
 rintro e w3 ⟨rfl,k3⟩
 have ob3:=k3.obj ob2 (fun f=>f)
 have K3:=K2.trans k3
 clear x0 x1 x2 x3 x4 x5 x6 x7 x8 x9 x10 x11 x12 x13 z0
 obtain⟨x0,x1,x2,x3,x4,x5,x6,x7,x8,x9,x10,x11,x12,x13,-⟩:=slot14 ob3
 have z0:w.heap.size<w3.heap.size:=lt_of_heap ob3
 go_wp2_with fail
 go_ret
 refine⟨?_,K3⟩
 show Ending.returned (.int .i64 _)=Ending.returned (.int .i64 _)
 congr 2
 generalize body.cog (RowKit.wrap64 (m+1)) false=G0
 generalize els.cog (RowKit.wrap64 (m+1)) false=G1
 try (unfold RowKit.wrap64;omega)
theorem add_k4(nn:Nat)(op lb:Str)(xk xn:Nat)(xop:Str)(kids xb body els:T)(has:Bool)(chain:Bool)(cases:T)(hX:CountOk (.x xk xn xop kids xb))(hB:ListOk body):AddV 4 4 nn op lb xk xn xop kids xb body els has chain cases:=by
 intro w D a1 n1 c1 a2 n2 c2 a3 n3 c3 a4 n4 c4 a5 n5 c5 h1 h2 h3 h4 h5 m f
 obtain⟨E,hE⟩:∃ E,E=(T.x xk xn xop kids xb).cog m false:=⟨_,rfl⟩
 have ecog:(T.s 4 nn op lb (.x xk xn xop kids xb) body els has chain cases).cog m f=E+(RowKit.wrap64 (1+m)+body.cog (RowKit.wrap64 (m+1)) false):=by
  rw[hE]
  simp[T.cog]
 rw[ecog]
 clear ecog
 have HB:=Lib.hid hB
 clear hB
 have hXr:Rep w D (T.x xk xn xop kids xb).g [.int .i64 xk,.int .i64 xn,.string xop,.slice a1 n1 c1,.slice a2 n2 c2]:=xrep h1 h2
 have HC:RowKit.Hid (CntE xk xn xop kids xb m E):=Lib.hid (by rw[hE];exact fun w D v0 v1 v2 v3 v4 h=>hX w D v0 v1 v2 v3 v4 m false h)
 have HXr:=Lib.hid hXr
 have H3:=Lib.hid h3
 have H4:=Lib.hid h4
 have H5:=Lib.hid h5
 clear hE hX hXr h1 h2 h3 h4 h5
 have ob0:=heap_alloc_new w (.cells #[.int .i64 4,.int .i64 nn,.string op,.string lb,.int .i64 xk,.int .i64 xn,.string xop,.slice a1 n1 c1,.slice a2 n2 c2,.slice a3 n3 c3,.slice a4 n4 c4,.bool has,.bool chain,.slice a5 n5 c5] 66)
 have kA:Kept (fun _=>False) w (w.alloc (.cells #[.int .i64 4,.int .i64 nn,.string op,.string lb,.int .i64 xk,.int .i64 xn,.string xop,.slice a1 n1 c1,.slice a2 n2 c2,.slice a3 n3 c3,.slice a4 n4 c4,.bool has,.bool chain,.slice a5 n5 c5] 66)):=keptA
 go_enter Tryz.func41,Tryz.ntmps41
 go_upto_region 1 with fail
 obtain⟨w0,hw0⟩:∃ w0,w0=w.alloc (.cells #[.int .i64 4,.int .i64 nn,.string op,.string lb,.int .i64 xk,.int .i64 xn,.string xop,.slice a1 n1 c1,.slice a2 n2 c2,.slice a3 n3 c3,.slice a4 n4 c4,.bool has,.bool chain,.slice a5 n5 c5] 66):=⟨_,rfl⟩
 rw[← hw0]at ob0 kA ⊢
 clear hw0
 obtain⟨x0,x1,x2,x3,x4,x5,x6,x7,x8,x9,x10,x11,x12,x13,-⟩:=slot14 ob0
 have z0:w.heap.size<w0.heap.size:=lt_of_heap ob0
 go_wp2_with fail
 refine(HC.out _ D _ _ _ _ _ (HXr.out.kept kA (fun _ _ f=>f))).mono ?_
 rintro e w1 ⟨rfl,k1⟩
 have ob1:=k1.obj ob0 (fun f=>f)
 have K1:=kA.trans k1
 clear x0 x1 x2 x3 x4 x5 x6 x7 x8 x9 x10 x11 x12 x13 z0
 obtain⟨x0,x1,x2,x3,x4,x5,x6,x7,x8,x9,x10,x11,x12,x13,-⟩:=slot14 ob1
 have z0:w.heap.size<w1.heap.size:=lt_of_heap ob1
 go_wp2_with fail
 refine(HB.out _ D a3 n3 c3 (RowKit.wrap64 (m+1)) (H3.out.kept K1 (fun _ _ f=>f))).mono ?_
 rintro e w2 ⟨rfl,k2⟩
 have ob2:=k2.obj ob1 (fun f=>f)
 have K2:=K1.trans k2
 clear x0 x1 x2 x3 x4 x5 x6 x7 x8 x9 x10 x11 x12 x13 z0
 obtain⟨x0,x1,x2,x3,x4,x5,x6,x7,x8,x9,x10,x11,x12,x13,-⟩:=slot14 ob2
 have z0:w.heap.size<w2.heap.size:=lt_of_heap ob2
 go_wp2_with fail
 go_ret
 refine⟨?_,K2⟩
 show Ending.returned (.int .i64 _)=Ending.returned (.int .i64 _)
 congr 2
 generalize body.cog (RowKit.wrap64 (m+1)) false=G0
 try (unfold RowKit.wrap64;omega)
theorem add_k5(nn:Nat)(op lb:Str)(xk xn:Nat)(xop:Str)(kids xb body els:T)(has:Bool)(chain:Bool)(cases:T)(hX:CountOk (.x xk xn xop kids xb))(hB:ListOk body):AddV 5 5 nn op lb xk xn xop kids xb body els has chain cases:=by
 intro w D a1 n1 c1 a2 n2 c2 a3 n3 c3 a4 n4 c4 a5 n5 c5 h1 h2 h3 h4 h5 m f
 obtain⟨E,hE⟩:∃ E,E=(T.x xk xn xop kids xb).cog m false:=⟨_,rfl⟩
 have ecog:(T.s 5 nn op lb (.x xk xn xop kids xb) body els has chain cases).cog m f=E+(RowKit.wrap64 (1+m)+body.cog (RowKit.wrap64 (m+1)) false):=by
  rw[hE]
  simp[T.cog]
 rw[ecog]
 clear ecog
 have HB:=Lib.hid hB
 clear hB
 have hXr:Rep w D (T.x xk xn xop kids xb).g [.int .i64 xk,.int .i64 xn,.string xop,.slice a1 n1 c1,.slice a2 n2 c2]:=xrep h1 h2
 have HC:RowKit.Hid (CntE xk xn xop kids xb m E):=Lib.hid (by rw[hE];exact fun w D v0 v1 v2 v3 v4 h=>hX w D v0 v1 v2 v3 v4 m false h)
 have HXr:=Lib.hid hXr
 have H3:=Lib.hid h3
 have H4:=Lib.hid h4
 have H5:=Lib.hid h5
 clear hE hX hXr h1 h2 h3 h4 h5
 have ob0:=heap_alloc_new w (.cells #[.int .i64 5,.int .i64 nn,.string op,.string lb,.int .i64 xk,.int .i64 xn,.string xop,.slice a1 n1 c1,.slice a2 n2 c2,.slice a3 n3 c3,.slice a4 n4 c4,.bool has,.bool chain,.slice a5 n5 c5] 66)
 have kA:Kept (fun _=>False) w (w.alloc (.cells #[.int .i64 5,.int .i64 nn,.string op,.string lb,.int .i64 xk,.int .i64 xn,.string xop,.slice a1 n1 c1,.slice a2 n2 c2,.slice a3 n3 c3,.slice a4 n4 c4,.bool has,.bool chain,.slice a5 n5 c5] 66)):=keptA
 go_enter Tryz.func41,Tryz.ntmps41
 go_upto_region 1 with fail
 obtain⟨w0,hw0⟩:∃ w0,w0=w.alloc (.cells #[.int .i64 5,.int .i64 nn,.string op,.string lb,.int .i64 xk,.int .i64 xn,.string xop,.slice a1 n1 c1,.slice a2 n2 c2,.slice a3 n3 c3,.slice a4 n4 c4,.bool has,.bool chain,.slice a5 n5 c5] 66):=⟨_,rfl⟩
 rw[← hw0]at ob0 kA ⊢
 clear hw0
 obtain⟨x0,x1,x2,x3,x4,x5,x6,x7,x8,x9,x10,x11,x12,x13,-⟩:=slot14 ob0
 have z0:w.heap.size<w0.heap.size:=lt_of_heap ob0
 go_wp2_with fail
 refine(HC.out _ D _ _ _ _ _ (HXr.out.kept kA (fun _ _ f=>f))).mono ?_
 rintro e w1 ⟨rfl,k1⟩
 have ob1:=k1.obj ob0 (fun f=>f)
 have K1:=kA.trans k1
 clear x0 x1 x2 x3 x4 x5 x6 x7 x8 x9 x10 x11 x12 x13 z0
 obtain⟨x0,x1,x2,x3,x4,x5,x6,x7,x8,x9,x10,x11,x12,x13,-⟩:=slot14 ob1
 have z0:w.heap.size<w1.heap.size:=lt_of_heap ob1
 go_wp2_with fail
 refine(HB.out _ D a3 n3 c3 (RowKit.wrap64 (m+1)) (H3.out.kept K1 (fun _ _ f=>f))).mono ?_
 rintro e w2 ⟨rfl,k2⟩
 have ob2:=k2.obj ob1 (fun f=>f)
 have K2:=K1.trans k2
 clear x0 x1 x2 x3 x4 x5 x6 x7 x8 x9 x10 x11 x12 x13 z0
 obtain⟨x0,x1,x2,x3,x4,x5,x6,x7,x8,x9,x10,x11,x12,x13,-⟩:=slot14 ob2
 have z0:w.heap.size<w2.heap.size:=lt_of_heap ob2
 go_wp2_with fail
 go_ret
 refine⟨?_,K2⟩
 show Ending.returned (.int .i64 _)=Ending.returned (.int .i64 _)
 congr 2
 generalize body.cog (RowKit.wrap64 (m+1)) false=G0
 try (unfold RowKit.wrap64;omega)
theorem add_k10(nn:Nat)(op lb:Str)(xk xn:Nat)(xop:Str)(kids xb body els:T)(has:Bool)(chain:Bool)(cases:T)(hX:CountOk (.x xk xn xop kids xb))(hB:ListOk body):AddV 10 10 nn op lb xk xn xop kids xb body els has chain cases:=by
 intro w D a1 n1 c1 a2 n2 c2 a3 n3 c3 a4 n4 c4 a5 n5 c5 h1 h2 h3 h4 h5 m f
 obtain⟨E,hE⟩:∃ E,E=(T.x xk xn xop kids xb).cog m false:=⟨_,rfl⟩
 have ecog:(T.s 10 nn op lb (.x xk xn xop kids xb) body els has chain cases).cog m f=E+body.cog m false:=by
  rw[hE]
  simp[T.cog]
 rw[ecog]
 clear ecog
 have HB:=Lib.hid hB
 clear hB
 have hXr:Rep w D (T.x xk xn xop kids xb).g [.int .i64 xk,.int .i64 xn,.string xop,.slice a1 n1 c1,.slice a2 n2 c2]:=xrep h1 h2
 have HC:RowKit.Hid (CntE xk xn xop kids xb m E):=Lib.hid (by rw[hE];exact fun w D v0 v1 v2 v3 v4 h=>hX w D v0 v1 v2 v3 v4 m false h)
 have HXr:=Lib.hid hXr
 have H3:=Lib.hid h3
 have H4:=Lib.hid h4
 have H5:=Lib.hid h5
 clear hE hX hXr h1 h2 h3 h4 h5
 have ob0:=heap_alloc_new w (.cells #[.int .i64 10,.int .i64 nn,.string op,.string lb,.int .i64 xk,.int .i64 xn,.string xop,.slice a1 n1 c1,.slice a2 n2 c2,.slice a3 n3 c3,.slice a4 n4 c4,.bool has,.bool chain,.slice a5 n5 c5] 66)
 have kA:Kept (fun _=>False) w (w.alloc (.cells #[.int .i64 10,.int .i64 nn,.string op,.string lb,.int .i64 xk,.int .i64 xn,.string xop,.slice a1 n1 c1,.slice a2 n2 c2,.slice a3 n3 c3,.slice a4 n4 c4,.bool has,.bool chain,.slice a5 n5 c5] 66)):=keptA
 go_enter Tryz.func41,Tryz.ntmps41
 go_upto_region 1 with fail
 obtain⟨w0,hw0⟩:∃ w0,w0=w.alloc (.cells #[.int .i64 10,.int .i64 nn,.string op,.string lb,.int .i64 xk,.int .i64 xn,.string xop,.slice a1 n1 c1,.slice a2 n2 c2,.slice a3 n3 c3,.slice a4 n4 c4,.bool has,.bool chain,.slice a5 n5 c5] 66):=⟨_,rfl⟩
 rw[← hw0]at ob0 kA ⊢
 clear hw0
 obtain⟨x0,x1,x2,x3,x4,x5,x6,x7,x8,x9,x10,x11,x12,x13,-⟩:=slot14 ob0
 have z0:w.heap.size<w0.heap.size:=lt_of_heap ob0
 go_wp2_with fail
 refine(HC.out _ D _ _ _ _ _ (HXr.out.kept kA (fun _ _ f=>f))).mono ?_
 rintro e w1 ⟨rfl,k1⟩
 have ob1:=k1.obj ob0 (fun f=>f)
 have K1:=kA.trans k1
 clear x0 x1 x2 x3 x4 x5 x6 x7 x8 x9 x10 x11 x12 x13 z0
 obtain⟨x0,x1,x2,x3,x4,x5,x6,x7,x8,x9,x10,x11,x12,x13,-⟩:=slot14 ob1
 have z0:w.heap.size<w1.heap.size:=lt_of_heap ob1
 go_wp2_with fail
 refine(HB.out _ D a3 n3 c3 m (H3.out.kept K1 (fun _ _ f=>f))).mono ?_
 rintro e w2 ⟨rfl,k2⟩
 have ob2:=k2.obj ob1 (fun f=>f)
 have K2:=K1.trans k2
 clear x0 x1 x2 x3 x4 x5 x6 x7 x8 x9 x10 x11 x12 x13 z0
 obtain⟨x0,x1,x2,x3,x4,x5,x6,x7,x8,x9,x10,x11,x12,x13,-⟩:=slot14 ob2
 have z0:w.heap.size<w2.heap.size:=lt_of_heap ob2
 go_wp2_with fail
 go_ret
 refine⟨?_,K2⟩
 show Ending.returned (.int .i64 _)=Ending.returned (.int .i64 _)
 congr 2
 generalize body.cog m false=G0
 try (unfold RowKit.wrap64;omega)
theorem add_k11(nn:Nat)(op lb:Str)(xk xn:Nat)(xop:Str)(kids xb body els:T)(has:Bool)(chain:Bool)(cases:T)(hX:CountOk (.x xk xn xop kids xb))(hB:ListOk body):AddV 11 11 nn op lb xk xn xop kids xb body els has chain cases:=by
 intro w D a1 n1 c1 a2 n2 c2 a3 n3 c3 a4 n4 c4 a5 n5 c5 h1 h2 h3 h4 h5 m f
 obtain⟨E,hE⟩:∃ E,E=(T.x xk xn xop kids xb).cog m false:=⟨_,rfl⟩
 have ecog:(T.s 11 nn op lb (.x xk xn xop kids xb) body els has chain cases).cog m f=E+body.cog m false:=by
  rw[hE]
  simp[T.cog]
 rw[ecog]
 clear ecog
 have HB:=Lib.hid hB
 clear hB
 have hXr:Rep w D (T.x xk xn xop kids xb).g [.int .i64 xk,.int .i64 xn,.string xop,.slice a1 n1 c1,.slice a2 n2 c2]:=xrep h1 h2
 have HC:RowKit.Hid (CntE xk xn xop kids xb m E):=Lib.hid (by rw[hE];exact fun w D v0 v1 v2 v3 v4 h=>hX w D v0 v1 v2 v3 v4 m false h)
 have HXr:=Lib.hid hXr
 have H3:=Lib.hid h3
 have H4:=Lib.hid h4
 have H5:=Lib.hid h5
 clear hE hX hXr h1 h2 h3 h4 h5
 have ob0:=heap_alloc_new w (.cells #[.int .i64 11,.int .i64 nn,.string op,.string lb,.int .i64 xk,.int .i64 xn,.string xop,.slice a1 n1 c1,.slice a2 n2 c2,.slice a3 n3 c3,.slice a4 n4 c4,.bool has,.bool chain,.slice a5 n5 c5] 66)
 have kA:Kept (fun _=>False) w (w.alloc (.cells #[.int .i64 11,.int .i64 nn,.string op,.string lb,.int .i64 xk,.int .i64 xn,.string xop,.slice a1 n1 c1,.slice a2 n2 c2,.slice a3 n3 c3,.slice a4 n4 c4,.bool has,.bool chain,.slice a5 n5 c5] 66)):=keptA
 go_enter Tryz.func41,Tryz.ntmps41
 go_upto_region 1 with fail
 obtain⟨w0,hw0⟩:∃ w0,w0=w.alloc (.cells #[.int .i64 11,.int .i64 nn,.string op,.string lb,.int .i64 xk,.int .i64 xn,.string xop,.slice a1 n1 c1,.slice a2 n2 c2,.slice a3 n3 c3,.slice a4 n4 c4,.bool has,.bool chain,.slice a5 n5 c5] 66):=⟨_,rfl⟩
 rw[← hw0]at ob0 kA ⊢
 clear hw0
 obtain⟨x0,x1,x2,x3,x4,x5,x6,x7,x8,x9,x10,x11,x12,x13,-⟩:=slot14 ob0
 have z0:w.heap.size<w0.heap.size:=lt_of_heap ob0
 go_wp2_with fail
 refine(HC.out _ D _ _ _ _ _ (HXr.out.kept kA (fun _ _ f=>f))).mono ?_
 rintro e w1 ⟨rfl,k1⟩
 have ob1:=k1.obj ob0 (fun f=>f)
 have K1:=kA.trans k1
 clear x0 x1 x2 x3 x4 x5 x6 x7 x8 x9 x10 x11 x12 x13 z0
 obtain⟨x0,x1,x2,x3,x4,x5,x6,x7,x8,x9,x10,x11,x12,x13,-⟩:=slot14 ob1
 have z0:w.heap.size<w1.heap.size:=lt_of_heap ob1
 go_wp2_with fail
 refine(HB.out _ D a3 n3 c3 m (H3.out.kept K1 (fun _ _ f=>f))).mono ?_
 rintro e w2 ⟨rfl,k2⟩
 have ob2:=k2.obj ob1 (fun f=>f)
 have K2:=K1.trans k2
 clear x0 x1 x2 x3 x4 x5 x6 x7 x8 x9 x10 x11 x12 x13 z0
 obtain⟨x0,x1,x2,x3,x4,x5,x6,x7,x8,x9,x10,x11,x12,x13,-⟩:=slot14 ob2
 have z0:w.heap.size<w2.heap.size:=lt_of_heap ob2
 go_wp2_with fail
 go_ret
 refine⟨?_,K2⟩
 show Ending.returned (.int .i64 _)=Ending.returned (.int .i64 _)
 congr 2
 generalize body.cog m false=G0
 try (unfold RowKit.wrap64;omega)
theorem add_k8no(nn:Nat)(op lb:Str)(xk xn:Nat)(xop:Str)(kids xb body els:T)(has:Bool)(chain:Bool)(cases:T)(hX:CountOk (.x xk xn xop kids xb))(hlb:lb.toList=[]):AddV 8 8 nn op lb xk xn xop kids xb body els has chain cases:=by
 intro w D a1 n1 c1 a2 n2 c2 a3 n3 c3 a4 n4 c4 a5 n5 c5 h1 h2 h3 h4 h5 m f
 obtain⟨E,hE⟩:∃ E,E=(T.x xk xn xop kids xb).cog m false:=⟨_,rfl⟩
 have ecog:(T.s 8 nn op lb (.x xk xn xop kids xb) body els has chain cases).cog m f=E+0:=by
  rw[hE]
  simp[T.cog,hlb]
 rw[ecog]
 clear ecog
 have hlb':(lb.toList).isEmpty=true:=by rw[hlb];rfl
 have hXr:Rep w D (T.x xk xn xop kids xb).g [.int .i64 xk,.int .i64 xn,.string xop,.slice a1 n1 c1,.slice a2 n2 c2]:=xrep h1 h2
 have HC:RowKit.Hid (CntE xk xn xop kids xb m E):=Lib.hid (by rw[hE];exact fun w D v0 v1 v2 v3 v4 h=>hX w D v0 v1 v2 v3 v4 m false h)
 have HXr:=Lib.hid hXr
 have H3:=Lib.hid h3
 have H4:=Lib.hid h4
 have H5:=Lib.hid h5
 clear hE hX hXr h1 h2 h3 h4 h5
 have ob0:=heap_alloc_new w (.cells #[.int .i64 8,.int .i64 nn,.string op,.string lb,.int .i64 xk,.int .i64 xn,.string xop,.slice a1 n1 c1,.slice a2 n2 c2,.slice a3 n3 c3,.slice a4 n4 c4,.bool has,.bool chain,.slice a5 n5 c5] 66)
 have kA:Kept (fun _=>False) w (w.alloc (.cells #[.int .i64 8,.int .i64 nn,.string op,.string lb,.int .i64 xk,.int .i64 xn,.string xop,.slice a1 n1 c1,.slice a2 n2 c2,.slice a3 n3 c3,.slice a4 n4 c4,.bool has,.bool chain,.slice a5 n5 c5] 66)):=keptA
 go_enter Tryz.func41,Tryz.ntmps41
 go_upto_region 1 with fail
 obtain⟨w0,hw0⟩:∃ w0,w0=w.alloc (.cells #[.int .i64 8,.int .i64 nn,.string op,.string lb,.int .i64 xk,.int .i64 xn,.string xop,.slice a1 n1 c1,.slice a2 n2 c2,.slice a3 n3 c3,.slice a4 n4 c4,.bool has,.bool chain,.slice a5 n5 c5] 66):=⟨_,rfl⟩
 rw[← hw0]at ob0 kA ⊢
 clear hw0
 obtain⟨x0,x1,x2,x3,x4,x5,x6,x7,x8,x9,x10,x11,x12,x13,-⟩:=slot14 ob0
 have z0:w.heap.size<w0.heap.size:=lt_of_heap ob0
 go_wp2_with fail
 refine(HC.out _ D _ _ _ _ _ (HXr.out.kept kA (fun _ _ f=>f))).mono ?_
 rintro e w1 ⟨rfl,k1⟩
 have ob1:=k1.obj ob0 (fun f=>f)
 have K1:=kA.trans k1
 clear x0 x1 x2 x3 x4 x5 x6 x7 x8 x9 x10 x11 x12 x13 z0
 obtain⟨x0,x1,x2,x3,x4,x5,x6,x7,x8,x9,x10,x11,x12,x13,-⟩:=slot14 ob1
 have z0:w.heap.size<w1.heap.size:=lt_of_heap ob1
 go_wp2_with fail
 go_ret
 refine⟨?_,K1⟩
 show Ending.returned (.int .i64 _)=Ending.returned (.int .i64 _)
 congr 2
 try (unfold RowKit.wrap64;omega)
theorem add_k8(nn:Nat)(op lb:Str)(xk xn:Nat)(xop:Str)(kids xb body els:T)(has:Bool)(chain:Bool)(cases:T)(hX:CountOk (.x xk xn xop kids xb))(hlb:lb.toList≠[]):AddV 8 8 nn op lb xk xn xop kids xb body els has chain cases:=by
 intro w D a1 n1 c1 a2 n2 c2 a3 n3 c3 a4 n4 c4 a5 n5 c5 h1 h2 h3 h4 h5 m f
 obtain⟨E,hE⟩:∃ E,E=(T.x xk xn xop kids xb).cog m false:=⟨_,rfl⟩
 have ecog:(T.s 8 nn op lb (.x xk xn xop kids xb) body els has chain cases).cog m f=E+1:=by
  rw[hE]
  simp[T.cog,hlb]
 rw[ecog]
 clear ecog
 have hlb':(lb.toList).isEmpty=false:=by cases h:lb.toList with
  | nil=>exact absurd h hlb
  | cons=>rfl
 clear hlb
 have hXr:Rep w D (T.x xk xn xop kids xb).g [.int .i64 xk,.int .i64 xn,.string xop,.slice a1 n1 c1,.slice a2 n2 c2]:=xrep h1 h2
 have HC:RowKit.Hid (CntE xk xn xop kids xb m E):=Lib.hid (by rw[hE];exact fun w D v0 v1 v2 v3 v4 h=>hX w D v0 v1 v2 v3 v4 m false h)
 have HXr:=Lib.hid hXr
 have H3:=Lib.hid h3
 have H4:=Lib.hid h4
 have H5:=Lib.hid h5
 clear hE hX hXr h1 h2 h3 h4 h5
 have ob0:=heap_alloc_new w (.cells #[.int .i64 8,.int .i64 nn,.string op,.string lb,.int .i64 xk,.int .i64 xn,.string xop,.slice a1 n1 c1,.slice a2 n2 c2,.slice a3 n3 c3,.slice a4 n4 c4,.bool has,.bool chain,.slice a5 n5 c5] 66)
 have kA:Kept (fun _=>False) w (w.alloc (.cells #[.int .i64 8,.int .i64 nn,.string op,.string lb,.int .i64 xk,.int .i64 xn,.string xop,.slice a1 n1 c1,.slice a2 n2 c2,.slice a3 n3 c3,.slice a4 n4 c4,.bool has,.bool chain,.slice a5 n5 c5] 66)):=keptA
 go_enter Tryz.func41,Tryz.ntmps41
 go_upto_region 1 with fail
 obtain⟨w0,hw0⟩:∃ w0,w0=w.alloc (.cells #[.int .i64 8,.int .i64 nn,.string op,.string lb,.int .i64 xk,.int .i64 xn,.string xop,.slice a1 n1 c1,.slice a2 n2 c2,.slice a3 n3 c3,.slice a4 n4 c4,.bool has,.bool chain,.slice a5 n5 c5] 66):=⟨_,rfl⟩
 rw[← hw0]at ob0 kA ⊢
 clear hw0
 obtain⟨x0,x1,x2,x3,x4,x5,x6,x7,x8,x9,x10,x11,x12,x13,-⟩:=slot14 ob0
 have z0:w.heap.size<w0.heap.size:=lt_of_heap ob0
 go_wp2_with fail
 refine(HC.out _ D _ _ _ _ _ (HXr.out.kept kA (fun _ _ f=>f))).mono ?_
 rintro e w1 ⟨rfl,k1⟩
 have ob1:=k1.obj ob0 (fun f=>f)
 have K1:=kA.trans k1
 clear x0 x1 x2 x3 x4 x5 x6 x7 x8 x9 x10 x11 x12 x13 z0
 obtain⟨x0,x1,x2,x3,x4,x5,x6,x7,x8,x9,x10,x11,x12,x13,-⟩:=slot14 ob1
 have z0:w.heap.size<w1.heap.size:=lt_of_heap ob1
 go_wp2_with fail
 go_ret
 refine⟨?_,K1⟩
 show Ending.returned (.int .i64 _)=Ending.returned (.int .i64 _)
 congr 2
 try (unfold RowKit.wrap64;omega)
end Go.Proofs.YtleolbpibjnedaaGreat
