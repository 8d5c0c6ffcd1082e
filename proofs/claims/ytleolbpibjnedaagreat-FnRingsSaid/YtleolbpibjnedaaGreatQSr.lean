/- spec.calls. -/
import Derived.Test.YtleolbpibjnedaaGreatQLsI
set_option linter.unusedSimpArgs false
set_option linter.unusedVariables false
set_option maxRecDepth 100000
set_option maxHeartbeats 4000000
namespace Gc
open Go
def T.anyk(name:Str):T→Nat→Bool
 | .cons h t,k+1=>h.calls name || t.anyk name k
 | _,_=>false
theorem T.anyk_zero(name:Str)(t:T):t.anyk name 0=false:=by cases t<;>rfl
theorem T.anyk_succ(name:Str):∀ (t:T) (k:Nat),k<t.len→t.anyk name (k+1)=(t.anyk name k || (t.get k).calls name)
 | .cons h t,0,_=>by simp only[T.anyk,T.anyk_zero,T.get,Bool.or_false,Bool.false_or]
 | .cons h t,k+1,hk=>by
   have:=T.anyk_succ name t k (by simp only[T.len]at hk;omega)
   simp only[T.anyk,T.get]at this ⊢
   rw[this,Bool.or_assoc]
 | .nil,_,h | .x ..,_,h | .s ..,_,h=>by simp[T.len]at h
theorem T.anyk_all(name:Str):∀ (t:T),t.isList→t.anyk name t.len=t.calls name
 | .cons h t,hl=>by
   simp only[T.len,T.anyk,T.calls]
   rw[T.anyk_all name t hl]
 | .nil,_=>rfl
 | .x ..,h=>h.elim
 | .s ..,h=>h.elim
theorem T.anyk_true(name:Str):∀ (t:T) (k:Nat),t.isList→k≤t.len→t.anyk name k=true→t.calls name=true
 | .cons h t,k+1,hl,hk,e=>by
   simp only[T.anyk,Bool.or_eq_true]at e
   simp only[T.calls,Bool.or_eq_true]
   exact e.imp id (T.anyk_true name t k hl (by simp only[T.len]at hk;omega))
 | .cons h t,0,_,_,e=>by simp[T.anyk]at e
 | .nil,_,_,_,e=>by simp[T.anyk]at e
 | .x ..,_,h,_,_=>h.elim
 | .s ..,_,h,_,_=>h.elim
end Gc
namespace Go.Proofs.YtleolbpibjnedaaGreat
open Go Go.RowKit Gc
def BoolP(w:World)(b:Bool)(e:Ending)(w':World):Prop:=e=.returned (.bool b)∧Kept (fun _=>False) w w'
def CallsOk(name:Str)(t:T):Prop:=∀ (w:World) (D:Nat→Prop) (a:Option Addr) (n c:Nat),Rep w D t.g [.slice a n c]→Calls Tryz.prog 10 #[.slice a n c,.string name] w (BoolP w (t.calls name))
def CallXOk(name:Str)(t:T):Prop:=∀ (w:World) (D:Nat→Prop) (v0 v1 v2 v3 v4:Value),Rep w D t.g [v0,v1,v2,v3,v4]→Calls Tryz.prog 24 #[.agg #[v0,v1,v2,v3,v4],.string name] w (BoolP w (t.calls name))
theorem callx_no(name:Str)(kind n:Nat)(op:Str)(kids body:T)(hk:kind≠5)(hl:kids.isList)(hall:kids.All ExprX)(hBr:kids.All (CallXOk name))(bl:body.isList)(hw:CallsOk name body)(hmax:kids.len≤100000):CallXOk name (.x kind n op kids body):=by
 intro w D v0 v1 v2 v3 v4 hr
 obtain⟨rfl,rfl,rfl,h3,h4⟩:=x_inv hr
 obtain⟨a3,n3,c3,rfl,hlen⟩:=list_val (T.g_isList _ hl) h3
 obtain⟨a4,n4,c4,rfl,-⟩:=list_val (T.g_isList _ bl) h4
 rw[T.g_len]at hlen
 have hn3:n3≤100000:=by omega
 have Hlen:=Lib.hid hlen
 have H3:=Lib.hid h3
 have H4:=Lib.hid h4
 have Hall:=Lib.hid hall
 have HBr:=Lib.hid hBr
 have HW:=Lib.hid hw
 clear hr h3 h4 hall hBr hw hlen
 have hkb:((kind:Int) == 5)=false:=by simp;omega
 have kA:Kept (fun _=>False) w (w.alloc (.cells #[.int .i64 kind,.int .i64 n,.string op,.slice a3 n3 c3,.slice a4 n4 c4] 64)):=keptA
 go_enter Tryz.func24,Tryz.ntmps24
 go_wp2_with fail
 have ox:=heap_alloc_new w (.cells #[.int .i64 kind,.int .i64 n,.string op,.slice a3 n3 c3,.slice a4 n4 c4] 64)
 obtain⟨w1,hw1⟩:∃ w1,w1=w.alloc (.cells #[.int .i64 kind,.int .i64 n,.string op,.slice a3 n3 c3,.slice a4 n4 c4] 64):=⟨_,rfl⟩
 rw[← hw1]at ox kA ⊢
 clear hw1
 go_loopw [19] (fun t wr=>∃ k:Nat,t=.int .i64 k∧k≤n3∧kids.anyk name k=false∧Kept (fun _=>False) w1 wr) (fun t _=>(n3-intOf t).toNat)
 case atStart=>exact⟨0,rfl,by omega,T.anyk_zero _ _,Kept.refl _ _⟩
 case round =>
  obtain⟨k,rfl,hk3,hno,K⟩:=hrel
  have Hno:=Lib.hid hno
  clear hno
  have ox':=K.obj ox (fun f=>f)
  obtain⟨x0,x1,x2,x3,x4,-⟩:=slot5 ox'
  have zr:w.heap.size<wr.heap.size:=lt_of_heap ox'
  by_cases hlt:(k:Int)<n3
  · have hkl:k<kids.len:=by have:=Hlen.out;omega
    obtain⟨g,o,rfl⟩:=slice_some (T.g_isList _ hl) H3.out (by omega)
    obtain⟨kd5,nn5,op5,a5,n5,c5,a6,n6,c6,hx,hE,hg,p0,p1,p2,p3,p4⟩:=x_at (k:=k) H3.out hl Hall.out hkl
    have KK:=kA.trans K
    have P0:=KK.cell p0 (fun f=>f)
    have P1:=KK.cell p1 (fun f=>f)
    have P2:=KK.cell p2 (fun f=>f)
    have P3:=KK.cell p3 (fun f=>f)
    have P4:=KK.cell p4 (fun f=>f)
    have zg:g<wr.heap.size:=Nat.lt_of_lt_of_le hg KK.size
    have hX:=Lib.hid hx
    have HB:=Lib.hid (HBr.out.get hkl)
    have hsu:=T.anyk_succ name kids k hkl
    have Hsu:=Lib.hid hsu
    clear hx hE hsu
    go_wp2_with fail
    refine(HB.out _ D _ _ _ _ _ ((hX.out.kept KK (fun _ _ f=>f)).kept (keptA (M:=fun _=>False)) (fun _ _ f=>f))).mono ?_
    rintro e w2 ⟨rfl,k2⟩
    have K2:Kept (fun _=>False) w1 w2:=K.trans (keptA.trans k2)
    obtain⟨bb,hbb⟩:∃ bb,bb=(kids.get k).calls name:=⟨_,rfl⟩
    rw[← hbb]
    have Hbb:=Lib.hid hbb
    clear hbb
    cases bb
    · go_wp2_with fail
      go_roundw
      · exact⟨k+1,by go_num,by omega,by rw[Hsu.out,Hno.out,← Hbb.out];rfl,K2⟩
      · simp[intOf];omega
    · go_wp2_with fail
      go_ret
      refine⟨?_,kA.trans K2⟩
      have e1:kids.calls name=true:=T.anyk_true name kids (k+1) hl (by omega) (by rw[Hsu.out,← Hbb.out,Bool.or_true])
      simp[T.calls,e1]
  · have ek:k=kids.len:=by have:=Hlen.out;omega
    have Hek:=Lib.hid ek
    clear ek
    go_wp2_with fail
    refine(HW.out _ D a4 n4 c4 ((H4.out.kept kA (fun _ _ f=>f)).kept K (fun _ _ f=>f))).mono ?_
    rintro e w3 ⟨rfl,k3⟩
    go_wp2_with fail
    go_ret
    refine⟨?_,(kA.trans K).trans k3⟩
    have e1:kids.calls name=false:=by rw[← T.anyk_all name kids hl,← Hek.out,Hno.out]
    simp[T.calls,e1,hk]
theorem callx_oth(name:Str)(kind n:Nat)(op:Str)(kids body:T)(hk:kind=5)(hlg:(op.toList == name.toList)=false)(hl:kids.isList)(hall:kids.All ExprX)(hBr:kids.All (CallXOk name))(bl:body.isList)(hw:CallsOk name body)(hmax:kids.len≤100000):CallXOk name (.x kind n op kids body):=by
 intro w D v0 v1 v2 v3 v4 hr
 obtain⟨rfl,rfl,rfl,h3,h4⟩:=x_inv hr
 obtain⟨a3,n3,c3,rfl,hlen⟩:=list_val (T.g_isList _ hl) h3
 obtain⟨a4,n4,c4,rfl,-⟩:=list_val (T.g_isList _ bl) h4
 rw[T.g_len]at hlen
 have hn3:n3≤100000:=by omega
 have Hlen:=Lib.hid hlen
 have H3:=Lib.hid h3
 have H4:=Lib.hid h4
 have Hall:=Lib.hid hall
 have HBr:=Lib.hid hBr
 have HW:=Lib.hid hw
 clear hr h3 h4 hall hBr hw hlen
 subst hk
 have hlg':=hlg
 have kA:Kept (fun _=>False) w (w.alloc (.cells #[.int .i64 5,.int .i64 n,.string op,.slice a3 n3 c3,.slice a4 n4 c4] 64)):=keptA
 show Calls Tryz.prog 24 #[.agg #[.int .i64 5,.int .i64 n,.string op,.slice a3 n3 c3,.slice a4 n4 c4],.string name] w _
 go_enter Tryz.func24,Tryz.ntmps24
 go_wp2_with fail
 have ox:=heap_alloc_new w (.cells #[.int .i64 5,.int .i64 n,.string op,.slice a3 n3 c3,.slice a4 n4 c4] 64)
 obtain⟨w1,hw1⟩:∃ w1,w1=w.alloc (.cells #[.int .i64 5,.int .i64 n,.string op,.slice a3 n3 c3,.slice a4 n4 c4] 64):=⟨_,rfl⟩
 rw[← hw1]at ox kA ⊢
 clear hw1
 go_loopw [19] (fun t wr=>∃ k:Nat,t=.int .i64 k∧k≤n3∧kids.anyk name k=false∧Kept (fun _=>False) w1 wr) (fun t _=>(n3-intOf t).toNat)
 case atStart=>exact⟨0,rfl,by omega,T.anyk_zero _ _,Kept.refl _ _⟩
 case round =>
  obtain⟨k,rfl,hk3,hno,K⟩:=hrel
  have Hno:=Lib.hid hno
  clear hno
  have ox':=K.obj ox (fun f=>f)
  obtain⟨x0,x1,x2,x3,x4,-⟩:=slot5 ox'
  have zr:w.heap.size<wr.heap.size:=lt_of_heap ox'
  by_cases hlt:(k:Int)<n3
  · have hkl:k<kids.len:=by have:=Hlen.out;omega
    obtain⟨g,o,rfl⟩:=slice_some (T.g_isList _ hl) H3.out (by omega)
    obtain⟨kd5,nn5,op5,a5,n5,c5,a6,n6,c6,hx,hE,hg,p0,p1,p2,p3,p4⟩:=x_at (k:=k) H3.out hl Hall.out hkl
    have KK:=kA.trans K
    have P0:=KK.cell p0 (fun f=>f)
    have P1:=KK.cell p1 (fun f=>f)
    have P2:=KK.cell p2 (fun f=>f)
    have P3:=KK.cell p3 (fun f=>f)
    have P4:=KK.cell p4 (fun f=>f)
    have zg:g<wr.heap.size:=Nat.lt_of_lt_of_le hg KK.size
    have hX:=Lib.hid hx
    have HB:=Lib.hid (HBr.out.get hkl)
    have hsu:=T.anyk_succ name kids k hkl
    have Hsu:=Lib.hid hsu
    clear hx hE hsu
    go_wp2_with fail
    refine(HB.out _ D _ _ _ _ _ ((hX.out.kept KK (fun _ _ f=>f)).kept (keptA (M:=fun _=>False)) (fun _ _ f=>f))).mono ?_
    rintro e w2 ⟨rfl,k2⟩
    have K2:Kept (fun _=>False) w1 w2:=K.trans (keptA.trans k2)
    obtain⟨bb,hbb⟩:∃ bb,bb=(kids.get k).calls name:=⟨_,rfl⟩
    rw[← hbb]
    have Hbb:=Lib.hid hbb
    clear hbb
    cases bb
    · go_wp2_with fail
      go_roundw
      · exact⟨k+1,by go_num,by omega,by rw[Hsu.out,Hno.out,← Hbb.out];rfl,K2⟩
      · simp[intOf];omega
    · go_wp2_with fail
      go_ret
      refine⟨?_,kA.trans K2⟩
      have e1:kids.calls name=true:=T.anyk_true name kids (k+1) hl (by omega) (by rw[Hsu.out,← Hbb.out,Bool.or_true])
      simp[T.calls,e1]
  · have ek:k=kids.len:=by have:=Hlen.out;omega
    have Hek:=Lib.hid ek
    clear ek
    go_wp2_with fail
    refine(HW.out _ D a4 n4 c4 ((H4.out.kept kA (fun _ _ f=>f)).kept K (fun _ _ f=>f))).mono ?_
    rintro e w3 ⟨rfl,k3⟩
    go_wp2_with fail
    go_ret
    refine⟨?_,(kA.trans K).trans k3⟩
    have e1:kids.calls name=false:=by rw[← T.anyk_all name kids hl,← Hek.out,Hno.out]
    simp[T.calls,e1,hlg]
theorem callx_yes(name:Str)(kind n:Nat)(op:Str)(kids body:T)(hk:kind=5)(hlg:(op.toList == name.toList)=true)(hl:kids.isList)(hall:kids.All ExprX)(hBr:kids.All (CallXOk name))(bl:body.isList)(hw:CallsOk name body)(hmax:kids.len≤100000):CallXOk name (.x kind n op kids body):=by
 intro w D v0 v1 v2 v3 v4 hr
 obtain⟨rfl,rfl,rfl,h3,h4⟩:=x_inv hr
 obtain⟨a3,n3,c3,rfl,hlen⟩:=list_val (T.g_isList _ hl) h3
 obtain⟨a4,n4,c4,rfl,-⟩:=list_val (T.g_isList _ bl) h4
 rw[T.g_len]at hlen
 have hn3:n3≤100000:=by omega
 have Hlen:=Lib.hid hlen
 have H3:=Lib.hid h3
 have H4:=Lib.hid h4
 have Hall:=Lib.hid hall
 have HBr:=Lib.hid hBr
 have HW:=Lib.hid hw
 clear hr h3 h4 hall hBr hw hlen
 subst hk
 have hlg':=hlg
 have kA:Kept (fun _=>False) w (w.alloc (.cells #[.int .i64 5,.int .i64 n,.string op,.slice a3 n3 c3,.slice a4 n4 c4] 64)):=keptA
 show Calls Tryz.prog 24 #[.agg #[.int .i64 5,.int .i64 n,.string op,.slice a3 n3 c3,.slice a4 n4 c4],.string name] w _
 go_enter Tryz.func24,Tryz.ntmps24
 go_wp2_with fail
 go_ret
 exact⟨by simp[T.calls,hlg],kA⟩
theorem callx_any(name:Str)(kind n:Nat)(op:Str)(kids body:T)(hl:kids.isList)(hall:kids.All ExprX)(hBr:kids.All (CallXOk name))(bl:body.isList)(hw:CallsOk name body)(hmax:kids.len≤100000):CallXOk name (.x kind n op kids body):=by
 by_cases hk:kind=5
 · cases hlg:(op.toList == name.toList)
   · exact callx_oth name kind n op kids body hk hlg hl hall hBr bl hw hmax
   · exact callx_yes name kind n op kids body hk hlg hl hall hBr bl hw hmax
 · exact callx_no name kind n op kids body hk hl hall hBr bl hw hmax
def CaseK(name:Str)(c:T):Prop:=c.isList∧CallsOk name c
def StK(name:Str):T→Prop
 | .s _ _ _ _ ex body els _ _ cases=>CallXOk name ex∧CallsOk name body∧CallsOk name els∧cases.isList∧cases.All CaseX∧cases.All (CaseK name)∧cases.len≤100000
 | _=>False
theorem calls_N(name:Str)(l:T)(hl:l.isList)(hX:l.All StmtX)(hS:l.All (StK name))(hmax:l.len≤100000):CallsOk name l:=by
 intro w D a n c hr
 have hlen:=Rep.len_eq (T.g_isList _ hl) hr
 rw[T.g_len]at hlen
 have hn:n≤100000:=by omega
 have Hlen:=Lib.hid hlen
 have HR:=Lib.hid hr
 have HX:=Lib.hid hX
 have HS:=Lib.hid hS
 clear hr hX hS hlen
 go_enter Tryz.func10,Tryz.ntmps10
 go_wp2_with fail
 go_loopw [11] (fun t wr=>∃ k:Nat,t=.int .i64 k∧k≤n∧l.anyk name k=false∧Kept (fun _=>False) w wr) (fun t _=>(n-intOf t).toNat)
 case atStart=>exact⟨0,rfl,by omega,T.anyk_zero _ _,Kept.refl _ _⟩
 case round =>
  obtain⟨k,rfl,hk,hno,K⟩:=hrel
  have Hno:=Lib.hid hno
  clear hno
  by_cases hlt:(k:Int)<n
  · have hkl:k<l.len:=by have:=Hlen.out;omega
    obtain⟨g,o,rfl⟩:=slice_some (T.g_isList _ hl) HR.out (by omega)
    obtain⟨⟨kd,nn,op,lb,xk,xn,xop,a1,n1,c1,a2,n2,c2,a3,n3,c3,a4,n4,c4,has,chain,a5,n5,c5⟩,kids,xb,body,els,cases,he,-,hg,h1,h2,h3,h4,h5,p0,p1,p2,p3,p4,p5,p6,p7,p8,p9,p10,p11,p12,p13⟩:=s_at (k:=k) HR.out hl HX.out hkl
    simp only[]at he h1 h2 h3 h4 h5 p0 p1 p2 p3 p4 p5 p6 p7 p8 p9 p10 p11 p12 p13
    have hst:=HS.out.get hkl
    have hsu:=T.anyk_succ name l k hkl
    rw[he]at hst hsu
    obtain⟨hB,hW3,hW4,hcl,hcX,hcO,hcn⟩:=hst
    have hcy:(T.s kd nn op lb (.x xk xn xop kids xb) body els has chain cases).calls name=((T.x xk xn xop kids xb).calls name || body.calls name || els.calls name || cases.calls name):=rfl
    rw[hcy]at hsu
    have hn5:=Rep.len_eq (T.g_isList _ hcl) h5
    rw[T.g_len]at hn5
    have hXr:Rep w D (T.x xk xn xop kids xb).g [.int .i64 xk,.int .i64 xn,.string xop,.slice a1 n1 c1,.slice a2 n2 c2]:=⟨_,rfl,_,rfl,_,rfl,_,_,rfl,h1,_,_,rfl,h2,rfl⟩
    obtain⟨E,hE⟩:∃ E,E=(T.x xk xn xop kids xb).calls name:=⟨_,rfl⟩
    obtain⟨B,hBe⟩:∃ B,B=body.calls name:=⟨_,rfl⟩
    obtain⟨L,hLe⟩:∃ L,L=els.calls name:=⟨_,rfl⟩
    rw[← hE,← hBe,← hLe]at hsu
    have HB:RowKit.Hid (∀ (w:World) (D:Nat→Prop) (v0 v1 v2 v3 v4:Value),Rep w D (T.x xk xn xop kids xb).g [v0,v1,v2,v3,v4]→Calls Tryz.prog 24 #[.agg #[v0,v1,v2,v3,v4],.string name] w (BoolP w E)):=Lib.hid (by rw[hE];exact hB)
    have HW3:RowKit.Hid (∀ (w:World) (D:Nat→Prop) (a:Option Addr) (n c:Nat),Rep w D body.g [.slice a n c]→Calls Tryz.prog 10 #[.slice a n c,.string name] w (BoolP w B)):=Lib.hid (by rw[hBe];exact hW3)
    have HW4:RowKit.Hid (∀ (w:World) (D:Nat→Prop) (a:Option Addr) (n c:Nat),Rep w D els.g [.slice a n c]→Calls Tryz.prog 10 #[.slice a n c,.string name] w (BoolP w L)):=Lib.hid (by rw[hLe];exact hW4)
    have HcX:=Lib.hid hcX
    have HcO:=Lib.hid hcO
    have Hsu:=Lib.hid hsu
    have Hn5:=Lib.hid hn5
    have HXr:=Lib.hid (hXr.kept K (fun _ _ f=>f))
    have H3:=Lib.hid (h3.kept K (fun _ _ f=>f))
    have H4:=Lib.hid (h4.kept K (fun _ _ f=>f))
    have H5:=Lib.hid (h5.kept K (fun _ _ f=>f))
    have hyes:(E || B || L || cases.calls name)=true→l.calls name=true:=fun e=>T.anyk_true name l (k+1) hl (by omega) (by rw[Hsu.out,e,Bool.or_true])
    have Hyes:=Lib.hid hyes
    have P0:=K.cell p0 (fun f=>f)
    have P1:=K.cell p1 (fun f=>f)
    have P2:=K.cell p2 (fun f=>f)
    have P3:=K.cell p3 (fun f=>f)
    have P4:=K.cell p4 (fun f=>f)
    have P5:=K.cell p5 (fun f=>f)
    have P6:=K.cell p6 (fun f=>f)
    have P7:=K.cell p7 (fun f=>f)
    have P8:=K.cell p8 (fun f=>f)
    have P9:=K.cell p9 (fun f=>f)
    have P10:=K.cell p10 (fun f=>f)
    have P11:=K.cell p11 (fun f=>f)
    have P12:=K.cell p12 (fun f=>f)
    have P13:=K.cell p13 (fun f=>f)
    have zg:g<wr.heap.size:=Nat.lt_of_lt_of_le hg K.size
    have l5:n5≤100000:=by omega
    clear he hB hW3 hW4 hcX hcO hcy hXr hE hBe hLe hsu hn5 h1 h2 h3 h4 h5 hyes p0 p1 p2 p3 p4 p5 p6 p7 p8 p9 p10 p11 p12 p13
    obtain⟨wo,rfl⟩:∃ wo:World,wo=wr:=⟨_,rfl⟩
    have kA:Kept (fun _=>False) wo (wo.alloc (.cells #[.int .i64 kd,.int .i64 nn,.string op,.string lb,.int .i64 xk,.int .i64 xn,.string xop,.slice a1 n1 c1,.slice a2 n2 c2,.slice a3 n3 c3,.slice a4 n4 c4,.bool has,.bool chain,.slice a5 n5 c5] 66)):=keptA
    have Ob:=Lib.hid (heap_alloc_new wo (.cells #[.int .i64 kd,.int .i64 nn,.string op,.string lb,.int .i64 xk,.int .i64 xn,.string xop,.slice a1 n1 c1,.slice a2 n2 c2,.slice a3 n3 c3,.slice a4 n4 c4,.bool has,.bool chain,.slice a5 n5 c5] 66))
    go_wp2_with fail
    refine(HB.out _ D _ _ _ _ _ (HXr.out.kept kA (fun _ _ f=>f))).mono ?_
    rintro e w1 ⟨rfl,k1⟩
    have ob1:=k1.obj Ob.out (fun f=>f)
    have KA1:=kA.trans k1
    cases E
    · obtain⟨x0,x1,x2,x3,x4,x5,x6,x7,x8,x9,x10,x11,x12,x13,-⟩:=slot14 ob1
      have z1:wo.heap.size<w1.heap.size:=lt_of_heap ob1
      go_wp2_with fail
      refine(HW3.out _ D _ _ _ (H3.out.kept KA1 (fun _ _ f=>f))).mono ?_
      rintro e w2 ⟨rfl,k2⟩
      have ob2:=k2.obj ob1 (fun f=>f)
      have KA2:=KA1.trans k2
      cases B
      · clear x0 x1 x2 x3 x4 x5 x6 x7 x8 x9 x10 x11 x12 x13 z1
        obtain⟨x0,x1,x2,x3,x4,x5,x6,x7,x8,x9,x10,x11,x12,x13,-⟩:=slot14 ob2
        have z1:wo.heap.size<w2.heap.size:=lt_of_heap ob2
        go_wp2_with fail
        refine(HW4.out _ D _ _ _ (H4.out.kept KA2 (fun _ _ f=>f))).mono ?_
        rintro e w3 ⟨rfl,k3⟩
        have ob3:=k3.obj ob2 (fun f=>f)
        have KA3:=KA2.trans k3
        cases L
        · clear x0 x1 x2 x3 x4 x5 x6 x7 x8 x9 x10 x11 x12 x13 z1
          obtain⟨x0,x1,x2,x3,x4,x5,x6,x7,x8,x9,x10,x11,x12,x13,-⟩:=slot14 ob3
          have z1:wo.heap.size<w3.heap.size:=lt_of_heap ob3
          go_wp2_with fail
          go_loopw [34] (fun t wr=>∃ j:Nat,t=.int .i64 j∧j≤n5∧cases.anyk name j=false∧Kept (fun _=>False) w3 wr) (fun t _=>(n5-intOf t).toNat)
          case atStart=>exact⟨0,rfl,by omega,T.anyk_zero _ _,Kept.refl _ _⟩
          case round =>
           obtain⟨j,rfl,hj,hno2,KJ⟩:=hrel
           have Hno2:=Lib.hid hno2
           clear hno2
           by_cases hlt2:(j:Int)<n5
           · have hjl:j<cases.len:=by have:=Hn5.out;omega
             have K4J:=KA3.trans KJ
             obtain⟨g2,o2,rfl⟩:=slice_some (T.g_isList _ hcl) H5.out (by omega)
             obtain⟨ca,cn,cc,pc,hcr,hcx,hgc⟩:=c_at (k:=j) (H5.out.kept K4J (fun _ _ f=>f)) hcl HcX.out hjl
             have HC:=Lib.hid (HcO.out.get hjl).2
             have Hcr:=Lib.hid hcr
             have hsu2:=T.anyk_succ name cases j hjl
             have Hsu2:=Lib.hid hsu2
             clear hcr hcx hsu2
             go_wp2_with fail
             refine(HC.out _ D _ _ _ Hcr.out).mono ?_
             rintro e w6 ⟨rfl,hk6⟩
             have K6:=KJ.trans hk6
             obtain⟨bb,hbb⟩:∃ bb,bb=(cases.get j).calls name:=⟨_,rfl⟩
             rw[← hbb]
             have Hbb:=Lib.hid hbb
             clear hbb
             cases bb
             · go_wp2_with fail
               go_roundw
               · exact⟨j+1,by go_num,by omega,by rw[Hsu2.out,Hno2.out,← Hbb.out];rfl,K6⟩
               · simp[intOf];omega
             · go_wp2_with fail
               go_ret
               refine⟨?_,(K.trans KA3).trans K6⟩
               have e1:cases.calls name=true:=T.anyk_true name cases (j+1) hcl (by omega) (by rw[Hsu2.out,← Hbb.out,Bool.or_true])
               rw[Hyes.out (by rw[e1,Bool.or_true])]
               rfl
           · go_wp2_with fail
             have KE:=(K.trans KA3).trans KJ
             have ej:j=cases.len:=by have:=Hn5.out;omega
             have Hj:=Lib.hid ej
             clear ej
             go_roundw
             · refine⟨k+1,by go_num,by omega,?_,KE⟩
               rw[Hsu.out,Hno.out,← T.anyk_all name cases hcl,← Hj.out,Hno2.out]
               rfl
             · simp[intOf];omega
        · clear x0 x1 x2 x3 x4 x5 x6 x7 x8 x9 x10 x11 x12 x13 z1
          go_wp2_with fail
          go_ret
          exact⟨by rw[Hyes.out (by simp)];rfl,K.trans KA3⟩
      · go_wp2_with fail
        go_ret
        exact⟨by rw[Hyes.out (by simp)];rfl,K.trans KA2⟩
    · go_wp2_with fail
      go_ret
      exact⟨by rw[Hyes.out (by simp)];rfl,K.trans KA1⟩
  · go_wp2_with fail
    go_ret
    refine⟨?_,K⟩
    obtain rfl:k=l.len:=by have:=Hlen.out;omega
    rw[← T.anyk_all name l hl,Hno.out]
    rfl
theorem calls_nil(name:Str):CallsOk name .nil:=calls_N name .nil trivial trivial trivial (by simp[T.len])
def GoodK(name:Str)(o:So)(t:T):Prop :=
 match o with
 | .E=>CallXOk name t
 | .S=>StK name t
 | .Es=>t.All (CallXOk name)
 | .Ss=>t.All (StK name)∧CallsOk name t
 | .Cs=>t.All (CaseK name)
theorem good_K(name:Str){fl:Bool}{o:So}{t:T}(h:W fl o t):t.cost≤100000→GoodK name o t:=by
 induction h with
 | num=>intro _;exact callx_any name 0 0 sE .nil .nil trivial trivial trivial trivial (calls_nil name) (by simp[T.len])
 | var n h=>intro _;exact callx_any name 1 n sE .nil .nil trivial trivial trivial trivial (calls_nil name) (by simp[T.len])
 | bin op a b h ha hb hx hy ih1 ih2 =>
   intro hc
   simp only[T.cost]at hc
   exact callx_any name 2 0 op _ _ trivial ⟨(good_S ha (by omega)).1,(good_S hb (by omega)).1,trivial⟩ ⟨ih1 (by omega),ih2 (by omega),trivial⟩ trivial (calls_nil name) (by simp[T.len])
 | not a ha ih =>
   intro hc
   simp only[T.cost]at hc
   exact callx_any name 3 0 sE _ _ trivial ⟨(good_S ha (by omega)).1,trivial⟩ ⟨ih (by omega),trivial⟩ trivial (calls_nil name) (by simp[T.len])
 | par a ha ih =>
   intro hc
   simp only[T.cost]at hc
   exact callx_any name 4 0 sE _ _ trivial ⟨(good_S ha (by omega)).1,trivial⟩ ⟨ih (by omega),trivial⟩ trivial (calls_nil name) (by simp[T.len])
 | call f args h ha ih =>
   intro hc
   simp only[T.cost]at hc
   have hG:=good_S ha (by omega)
   exact callx_any name 5 0 f _ _ hG.1 hG.2.2 (ih (by omega)) trivial (calls_nil name) (by have:=hG.2.1;omega)
 | lit body h hb ih =>
   intro hc
   simp only[T.cost]at hc
   have hG:=good_S hb (by omega)
   exact callx_any name 6 0 sE _ _ trivial trivial trivial hG.1 (ih (by omega)).2 (by simp[T.len])
 | enil=>intro _;exact trivial
 | snil=>intro _;exact⟨trivial,calls_nil name⟩
 | cnil=>intro _;exact trivial
 | econs a t ha ht ih1 ih2=>intro hc;simp only[T.cost]at hc;exact⟨ih1 (by omega),ih2 (by omega)⟩
 | scons a t ha ht ih1 ih2 =>
   intro hc
   have hG:=good_S (W.scons a t ha ht) hc
   have hA:T.All (StK name) (.cons a t):=by simp only[T.cost]at hc;exact⟨ih1 (by omega),(ih2 (by omega)).1⟩
   exact⟨hA,calls_N name _ hG.1 hG.2.2 hA (by have:=hG.2.1;omega)⟩
 | ccons a t ha ht ih1 ih2 =>
   intro hc
   simp only[T.cost]at hc
   exact⟨⟨(good_S ha (by omega)).1,(ih1 (by omega)).2⟩,ih2 (by omega)⟩
 | expr f args h ha ih =>
   intro hc
   simp only[T.cost]at hc
   have hG:=good_S ha (by omega)
   exact⟨callx_any name 5 0 f _ _ hG.1 hG.2.2 (ih (by omega)) trivial (calls_nil name) (by have:=hG.2.1;omega),calls_nil name,calls_nil name,trivial,trivial,trivial,by simp[T.len]⟩
 | assign n op a hn h ha ih=>intro hc;simp only[T.cost]at hc;exact⟨ih (by omega),calls_nil name,calls_nil name,trivial,trivial,trivial,by simp[T.len]⟩
 | count n op hn h=>intro _;exact⟨callx_any name 0 0 sE .nil .nil trivial trivial trivial trivial (calls_nil name) (by simp[T.len]),calls_nil name,calls_nil name,trivial,trivial,trivial,by simp[T.len]⟩
 | ifNo a body ha hb ih1 ih2=>intro hc;simp only[T.cost]at hc;exact⟨ih1 (by omega),(ih2 (by omega)).2,calls_nil name,trivial,trivial,trivial,by simp[T.len]⟩
 | ifElse a body els ha hb he ih1 ih2 ih3=>intro hc;simp only[T.cost]at hc;exact⟨ih1 (by omega),(ih2 (by omega)).2,(ih3 (by omega)).2,trivial,trivial,trivial,by simp[T.len]⟩
 | ifChain a body a' body' els' has' chain' ha hb he ih1 ih2 ih3 =>
   intro hc
   generalize T.s 3 0 sE sE a' body' els' has' chain' .nil=inner at *
   simp only[T.cost]at hc
   have h3:=ih3 (by omega)
   exact⟨ih1 (by omega),(ih2 (by omega)).2,calls_N name (.cons inner .nil) trivial ⟨(good_S he (by omega)).1,trivial⟩ ⟨h3,trivial⟩ (by simp[T.len]),trivial,trivial,trivial,by simp[T.len]⟩
 | for_ a body ha hb ih1 ih2=>intro hc;simp only[T.cost]at hc;exact⟨ih1 (by omega),(ih2 (by omega)).2,calls_nil name,trivial,trivial,trivial,by simp[T.len]⟩
 | range a body ha hb ih1 ih2=>intro hc;simp only[T.cost]at hc;exact⟨ih1 (by omega),(ih2 (by omega)).2,calls_nil name,trivial,trivial,trivial,by simp[T.len]⟩
 | switch a cases ha hcs h ih1 ih2 =>
   intro hc
   simp only[T.cost]at hc
   have hG:=good_S hcs (by omega)
   exact⟨ih1 (by omega),calls_nil name,calls_nil name,hG.1,hG.2,ih2 (by omega),by omega⟩
 | select cases hf hcs h ih =>
   intro hc
   simp only[T.cost]at hc
   have hG:=good_S hcs (by omega)
   exact⟨callx_any name 0 0 sE .nil .nil trivial trivial trivial trivial (calls_nil name) (by simp[T.len]),calls_nil name,calls_nil name,hG.1,hG.2,ih (by omega),by omega⟩
 | branch op h=>intro _;exact⟨callx_any name 0 0 sE .nil .nil trivial trivial trivial trivial (calls_nil name) (by simp[T.len]),calls_nil name,calls_nil name,trivial,trivial,trivial,by simp[T.len]⟩
 | branchTo op k h hk=>intro _;exact⟨callx_any name 0 0 sE .nil .nil trivial trivial trivial trivial (calls_nil name) (by simp[T.len]),calls_nil name,calls_nil name,trivial,trivial,trivial,by simp[T.len]⟩
 | ret a ha ih=>intro hc;simp only[T.cost]at hc;exact⟨ih (by omega),calls_nil name,calls_nil name,trivial,trivial,trivial,by simp[T.len]⟩
 | block body hb ih=>intro hc;simp only[T.cost]at hc;exact⟨callx_any name 0 0 sE .nil .nil trivial trivial trivial trivial (calls_nil name) (by simp[T.len]),(ih (by omega)).2,calls_nil name,trivial,trivial,trivial,by simp[T.len]⟩
 | labelled k kind a body hk h ha hb ih1 ih2 =>
   intro hc
   have hin:StK name (.s kind 0 sE sE a body .nil false false .nil):=by
    simp only[T.cost]at hc
    exact⟨ih1 (by omega),(ih2 (by omega)).2,calls_nil name,trivial,trivial,trivial,by simp[T.len]⟩
   have hWi:W fl .S (.s kind 0 sE sE a body .nil false false .nil):=by
    rcases h with rfl|rfl
    · exact .for_ a body ha hb
    · exact .range a body ha hb
   generalize T.s kind 0 sE sE a body .nil false false .nil=inner at *
   simp only[T.cost]at hc
   exact⟨callx_any name 0 0 sE .nil .nil trivial trivial trivial trivial (calls_nil name) (by simp[T.len]),calls_N name (.cons inner .nil) trivial ⟨(good_S hWi (by omega)).1,trivial⟩ ⟨hin,trivial⟩ (by simp[T.len]),calls_nil name,trivial,trivial,trivial,by simp[T.len]⟩
theorem spec_calls(name:Str){fl:Bool}{t:T}(h:W fl .Ss t)(hc:t.cost≤100000):CallsOk name t:=(good_K name h hc).2
end Go.Proofs.YtleolbpibjnedaaGreat
