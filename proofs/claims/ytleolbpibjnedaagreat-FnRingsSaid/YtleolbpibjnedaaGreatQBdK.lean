/- What is allowed, kind by kind. -/
import Derived.Test.YtleolbpibjnedaaGreatQBdC
import Derived.Test.YtleolbpibjnedaaGreatQBdA
import Derived.Maps.OwnOps
import Derived.Deep.Cut
import Derived.Deep.RegionHeld3
import Derived.Deep.QuietTactic
import Derived.BigQuiet
set_option linter.unusedSimpArgs false
set_option linter.unusedVariables false
set_option maxRecDepth 100000
set_option maxHeartbeats 4000000
namespace Go.Proofs.YtleolbpibjnedaaGreat
open Go Go.RowKit Gc
theorem allowed_ident(n:N):AllowedB n .ident:=by
 intro kd tx i kids hn w D a c c' x b hxN hxK hR
 clear hn hxN hxK hR
 show Calls Tryz.prog 55 #[.agg #[.string kd,.string tx,.int .i64 i,.slice a c c'],.iface 121 (.pointer (some ⟨b,0,none⟩))] w _
 obtain⟨a0,a1,a2,a3,a4,a5,a6,a7,a8,a9,a10,a11,a12,a13,-⟩:=nobs 121 b 74 [183,238,242,283,286,298,326,262,311,314,320,317,266,134] (by decide)
 go_enter Tryz.func55,Tryz.ntmps55
 go_wp2_with fail
 go_ret
 exact⟨rfl,keptA⟩
theorem allowed_flit(n:N):AllowedB n .flit:=by
 intro kd tx i kids hn w D a c c' x b hxN hxK hR
 clear hn hxN hxK hR
 show Calls Tryz.prog 55 #[.agg #[.string kd,.string tx,.int .i64 i,.slice a c c'],.iface 211 (.pointer (some ⟨b,0,none⟩))] w _
 obtain⟨a0,a1,a2,a3,a4,a5,a6,a7,a8,a9,a10,a11,a12,a13,-⟩:=nobs 211 b 74 [183,238,242,283,286,298,326,262,311,314,320,317,266,134] (by decide)
 go_enter Tryz.func55,Tryz.ntmps55
 go_wp2_with fail
 go_ret
 exact⟨rfl,keptA⟩
theorem allowed_paren(n:N):AllowedB n .paren:=by
 intro kd tx i kids hn w D a c c' x b hxN hxK hR
 clear hn hxN hxK hR
 show Calls Tryz.prog 55 #[.agg #[.string kd,.string tx,.int .i64 i,.slice a c c'],.iface 220 (.pointer (some ⟨b,0,none⟩))] w _
 obtain⟨a0,a1,a2,a3,a4,a5,a6,a7,a8,a9,a10,a11,a12,a13,-⟩:=nobs 220 b 74 [183,238,242,283,286,298,326,262,311,314,320,317,266,134] (by decide)
 go_enter Tryz.func55,Tryz.ntmps55
 go_wp2_with fail
 go_ret
 exact⟨rfl,keptA⟩
theorem allowed_call(n:N):AllowedB n .call:=by
 intro kd tx i kids hn w D a c c' x b hxN hxK hR
 clear hn hxN hxK hR
 show Calls Tryz.prog 55 #[.agg #[.string kd,.string tx,.int .i64 i,.slice a c c'],.iface 172 (.pointer (some ⟨b,0,none⟩))] w _
 obtain⟨a0,a1,a2,a3,a4,a5,a6,a7,a8,a9,a10,a11,a12,a13,-⟩:=nobs 172 b 74 [183,238,242,283,286,298,326,262,311,314,320,317,266,134] (by decide)
 go_enter Tryz.func55,Tryz.ntmps55
 go_wp2_with fail
 go_ret
 exact⟨rfl,keptA⟩
theorem allowed_ftype(n:N):AllowedB n .ftype:=by
 intro kd tx i kids hn w D a c c' x b hxN hxK hR
 clear hn hxN hxK hR
 show Calls Tryz.prog 55 #[.agg #[.string kd,.string tx,.int .i64 i,.slice a c c'],.iface 122 (.pointer (some ⟨b,0,none⟩))] w _
 obtain⟨a0,a1,a2,a3,a4,a5,a6,a7,a8,a9,a10,a11,a12,a13,-⟩:=nobs 122 b 74 [183,238,242,283,286,298,326,262,311,314,320,317,266,134] (by decide)
 go_enter Tryz.func55,Tryz.ntmps55
 go_wp2_with fail
 go_ret
 exact⟨rfl,keptA⟩
theorem allowed_flist(n:N):AllowedB n .flist:=by
 intro kd tx i kids hn w D a c c' x b hxN hxK hR
 clear hn hxN hxK hR
 show Calls Tryz.prog 55 #[.agg #[.string kd,.string tx,.int .i64 i,.slice a c c'],.iface 120 (.pointer (some ⟨b,0,none⟩))] w _
 obtain⟨a0,a1,a2,a3,a4,a5,a6,a7,a8,a9,a10,a11,a12,a13,-⟩:=nobs 120 b 74 [183,238,242,283,286,298,326,262,311,314,320,317,266,134] (by decide)
 go_enter Tryz.func55,Tryz.ntmps55
 go_wp2_with fail
 go_ret
 exact⟨rfl,keptA⟩
theorem allowed_exprS(n:N):AllowedB n .exprS:=by
 intro kd tx i kids hn w D a c c' x b hxN hxK hR
 clear hn hxN hxK hR
 show Calls Tryz.prog 55 #[.agg #[.string kd,.string tx,.int .i64 i,.slice a c c'],.iface 278 (.pointer (some ⟨b,0,none⟩))] w _
 obtain⟨a0,a1,a2,a3,a4,a5,a6,a7,a8,a9,a10,a11,a12,a13,-⟩:=nobs 278 b 74 [183,238,242,283,286,298,326,262,311,314,320,317,266,134] (by decide)
 go_enter Tryz.func55,Tryz.ntmps55
 go_wp2_with fail
 go_ret
 exact⟨rfl,keptA⟩
theorem allowed_ret(n:N):AllowedB n .ret:=by
 intro kd tx i kids hn w D a c c' x b hxN hxK hR
 clear hn hxN hxK hR
 show Calls Tryz.prog 55 #[.agg #[.string kd,.string tx,.int .i64 i,.slice a c c'],.iface 295 (.pointer (some ⟨b,0,none⟩))] w _
 obtain⟨a0,a1,a2,a3,a4,a5,a6,a7,a8,a9,a10,a11,a12,a13,-⟩:=nobs 295 b 74 [183,238,242,283,286,298,326,262,311,314,320,317,266,134] (by decide)
 go_enter Tryz.func55,Tryz.ntmps55
 go_wp2_with fail
 go_ret
 exact⟨rfl,keptA⟩
theorem allowed_block(n:N):AllowedB n .block:=by
 intro kd tx i kids hn w D a c c' x b hxN hxK hR
 clear hn hxN hxK hR
 show Calls Tryz.prog 55 #[.agg #[.string kd,.string tx,.int .i64 i,.slice a c c'],.iface 123 (.pointer (some ⟨b,0,none⟩))] w _
 obtain⟨a0,a1,a2,a3,a4,a5,a6,a7,a8,a9,a10,a11,a12,a13,-⟩:=nobs 123 b 74 [183,238,242,283,286,298,326,262,311,314,320,317,266,134] (by decide)
 go_enter Tryz.func55,Tryz.ntmps55
 go_wp2_with fail
 go_ret
 exact⟨rfl,keptA⟩
theorem allowed_if_(n:N):AllowedB n .if_:=by
 intro kd tx i kids hn w D a c c' x b hxN hxK hR
 clear hn hxN hxK hR
 show Calls Tryz.prog 55 #[.agg #[.string kd,.string tx,.int .i64 i,.slice a c c'],.iface 305 (.pointer (some ⟨b,0,none⟩))] w _
 obtain⟨a0,a1,a2,a3,a4,a5,a6,a7,a8,a9,a10,a11,a12,a13,-⟩:=nobs 305 b 74 [183,238,242,283,286,298,326,262,311,314,320,317,266,134] (by decide)
 go_enter Tryz.func55,Tryz.ntmps55
 go_wp2_with fail
 go_ret
 exact⟨rfl,keptA⟩
theorem allowed_case_(n:N):AllowedB n .case_:=by
 intro kd tx i kids hn w D a c c' x b hxN hxK hR
 clear hn hxN hxK hR
 show Calls Tryz.prog 55 #[.agg #[.string kd,.string tx,.int .i64 i,.slice a c c'],.iface 308 (.pointer (some ⟨b,0,none⟩))] w _
 obtain⟨a0,a1,a2,a3,a4,a5,a6,a7,a8,a9,a10,a11,a12,a13,-⟩:=nobs 308 b 74 [183,238,242,283,286,298,326,262,311,314,320,317,266,134] (by decide)
 go_enter Tryz.func55,Tryz.ntmps55
 go_wp2_with fail
 go_ret
 exact⟨rfl,keptA⟩
theorem allowed_for_(n:N):AllowedB n .for_:=by
 intro kd tx i kids hn w D a c c' x b hxN hxK hR
 clear hn hxN hxK hR
 show Calls Tryz.prog 55 #[.agg #[.string kd,.string tx,.int .i64 i,.slice a c c'],.iface 323 (.pointer (some ⟨b,0,none⟩))] w _
 obtain⟨a0,a1,a2,a3,a4,a5,a6,a7,a8,a9,a10,a11,a12,a13,-⟩:=nobs 323 b 74 [183,238,242,283,286,298,326,262,311,314,320,317,266,134] (by decide)
 go_enter Tryz.func55,Tryz.ntmps55
 go_wp2_with fail
 go_ret
 exact⟨rfl,keptA⟩
theorem allowed_labeled(n:N):AllowedB n .labeled:=by
 intro kd tx i kids hn w D a c c' x b hxN hxK hR
 clear hn hxN hxK hR
 show Calls Tryz.prog 55 #[.agg #[.string kd,.string tx,.int .i64 i,.slice a c c'],.iface 272 (.pointer (some ⟨b,0,none⟩))] w _
 obtain⟨a0,a1,a2,a3,a4,a5,a6,a7,a8,a9,a10,a11,a12,a13,-⟩:=nobs 272 b 74 [183,238,242,283,286,298,326,262,311,314,320,317,266,134] (by decide)
 go_enter Tryz.func55,Tryz.ntmps55
 go_wp2_with fail
 go_ret
 exact⟨rfl,keptA⟩
theorem allowed_func(n:N):AllowedB n .func:=by
 intro kd tx i kids hn w D a c c' x b hxN hxK hR
 clear hn hxN hxK hR
 show Calls Tryz.prog 55 #[.agg #[.string kd,.string tx,.int .i64 i,.slice a c c'],.iface 54 (.pointer (some ⟨b,0,none⟩))] w _
 obtain⟨a0,a1,a2,a3,a4,a5,a6,a7,a8,a9,a10,a11,a12,a13,-⟩:=nobs 54 b 74 [183,238,242,283,286,298,326,262,311,314,320,317,266,134] (by decide)
 go_enter Tryz.func55,Tryz.ntmps55
 go_wp2_with fail
 go_ret
 exact⟨rfl,keptA⟩
theorem allowed_lit(kd0 tx0:Str)(i0:Int)(kids0:N)(h0:1≤i0)(h1:i0≤5):AllowedB (.n kd0 tx0 i0 kids0) .lit:=by
 intro kd tx i kids hn w D a c c' x b hxN hxK hR
 cases hn
 clear hxN hxK hR
 show Calls Tryz.prog 55 #[.agg #[.string kd0,.string tx0,.int .i64 i0,.slice a c c'],.iface 183 (.pointer (some ⟨b,0,none⟩))] w _
 have t_BasicLit:∀ w,(Instr.typeAssert (.iface 183 (.pointer (some ⟨b,0,none⟩))) 74 183 true).run Tryz.prog w=.ok (.tuple #[.pointer (some ⟨b,0,none⟩),.bool true]) w:=fun w=>as_lit _ _ w
 go_enter Tryz.func55,Tryz.ntmps55
 go_wp2_with fail
 go_ret
 exact⟨rfl,keptA⟩
theorem allowed_un(kd0 tx0:Str)(i0:Int)(kids0:N)(h:tx0∈([⟨#[33]⟩,⟨#[60,45]⟩]:List Str)):AllowedB (.n kd0 tx0 i0 kids0) .un:=by
 intro kd tx i kids hn w D a c c' x b hxN hxK hR
 cases hn
 clear hxN hxK hR
 show Calls Tryz.prog 55 #[.agg #[.string kd0,.string tx0,.int .i64 i0,.slice a c c'],.iface 238 (.pointer (some ⟨b,0,none⟩))] w _
 have t_BasicLit:=nob 238 b 74 un_BasicLit zp_BasicLit (by decide)
 have t_UnaryExpr:∀ w,(Instr.typeAssert (.iface 238 (.pointer (some ⟨b,0,none⟩))) 74 238 true).run Tryz.prog w=.ok (.tuple #[.pointer (some ⟨b,0,none⟩),.bool true]) w:=fun w=>as_un _ _ w
 go_enter Tryz.func55,Tryz.ntmps55
 go_wp2_with fail
 refine(word_any tx0 [⟨#[43]⟩,⟨#[45]⟩,⟨#[33]⟩,⟨#[94]⟩,⟨#[42]⟩,⟨#[38]⟩,⟨#[60,45]⟩,⟨#[126]⟩] (by simp only[List.mem_cons,List.not_mem_nil,or_false]at h ⊢;rcases h with rfl | rfl<;>simp) (by decide) _ _ 8 8 rfl (fun j u hu=>?_)).mono ?_
 · refine cell_of_cells (cs:=[.string ⟨#[43]⟩,.string ⟨#[45]⟩,.string ⟨#[33]⟩,.string ⟨#[94]⟩,.string ⟨#[42]⟩,.string ⟨#[38]⟩,.string ⟨#[60,45]⟩,.string ⟨#[126]⟩]) (by first | exact heap2_1 _ _ _ | exact heap_alloc_new _ _) j ?_
   have:=congrArg (Option.map Value.string) hu
   rw[← List.getElem?_map]at this
   exact this
 rintro e w1 ⟨rfl,rfl⟩
 go_wp2_with fail
 go_ret
 exact⟨rfl,keptA.trans keptA⟩
theorem allowed_inc(kd0 tx0:Str)(i0:Int)(kids0:N)(h:tx0∈([⟨#[43,43]⟩,⟨#[45,45]⟩]:List Str)):AllowedB (.n kd0 tx0 i0 kids0) .inc:=by
 intro kd tx i kids hn w D a c c' x b hxN hxK hR
 cases hn
 clear hxN hxK hR
 show Calls Tryz.prog 55 #[.agg #[.string kd0,.string tx0,.int .i64 i0,.slice a c c'],.iface 283 (.pointer (some ⟨b,0,none⟩))] w _
 obtain⟨a0,a1,a2,-⟩:=nobs 283 b 74 [183,238,242] (by decide)
 have t_IncDecStmt:∀ w,(Instr.typeAssert (.iface 283 (.pointer (some ⟨b,0,none⟩))) 74 283 true).run Tryz.prog w=.ok (.tuple #[.pointer (some ⟨b,0,none⟩),.bool true]) w:=fun w=>as_inc _ _ w
 go_enter Tryz.func55,Tryz.ntmps55
 go_wp2_with fail
 refine(word_any tx0 [⟨#[43,43]⟩,⟨#[45,45]⟩] (by simp only[List.mem_cons,List.not_mem_nil,or_false]at h ⊢;rcases h with rfl | rfl<;>simp) (by decide) _ _ 2 2 rfl (fun j u hu=>?_)).mono ?_
 · refine cell_of_cells (cs:=[.string ⟨#[43,43]⟩,.string ⟨#[45,45]⟩]) (by first | exact heap2_1 _ _ _ | exact heap_alloc_new _ _) j ?_
   have:=congrArg (Option.map Value.string) hu
   rw[← List.getElem?_map]at this
   exact this
 rintro e w1 ⟨rfl,rfl⟩
 go_wp2_with fail
 go_ret
 exact⟨rfl,keptA.trans keptA⟩
theorem allowed_branch(kd0 tx0:Str)(i0:Int)(kids0:N)(h:tx0∈([⟨#[98,114,101,97,107]⟩,⟨#[99,111,110,116,105,110,117,101]⟩]:List Str)):AllowedB (.n kd0 tx0 i0 kids0) .branch:=by
 intro kd tx i kids hn w D a c c' x b hxN hxK hR
 cases hn
 clear hxN hxK hR
 show Calls Tryz.prog 55 #[.agg #[.string kd0,.string tx0,.int .i64 i0,.slice a c c'],.iface 298 (.pointer (some ⟨b,0,none⟩))] w _
 obtain⟨a0,a1,a2,a3,a4,-⟩:=nobs 298 b 74 [183,238,242,283,286] (by decide)
 have t_BranchStmt:∀ w,(Instr.typeAssert (.iface 298 (.pointer (some ⟨b,0,none⟩))) 74 298 true).run Tryz.prog w=.ok (.tuple #[.pointer (some ⟨b,0,none⟩),.bool true]) w:=fun w=>as_branch _ _ w
 go_enter Tryz.func55,Tryz.ntmps55
 go_wp2_with fail
 refine(word_any tx0 [⟨#[98,114,101,97,107]⟩,⟨#[99,111,110,116,105,110,117,101]⟩,⟨#[103,111,116,111]⟩,⟨#[102,97,108,108,116,104,114,111,117,103,104]⟩] (by simp only[List.mem_cons,List.not_mem_nil,or_false]at h ⊢;rcases h with rfl | rfl<;>simp) (by decide) _ _ 4 4 rfl (fun j u hu=>?_)).mono ?_
 · refine cell_of_cells (cs:=[.string ⟨#[98,114,101,97,107]⟩,.string ⟨#[99,111,110,116,105,110,117,101]⟩,.string ⟨#[103,111,116,111]⟩,.string ⟨#[102,97,108,108,116,104,114,111,117,103,104]⟩]) (by first | exact heap2_1 _ _ _ | exact heap_alloc_new _ _) j ?_
   have:=congrArg (Option.map Value.string) hu
   rw[← List.getElem?_map]at this
   exact this
 rintro e w1 ⟨rfl,rfl⟩
 go_wp2_with fail
 go_ret
 exact⟨rfl,keptA.trans keptA⟩
theorem allowed_range(kd0 tx0:Str)(i0:Int)(kids0:N)(h:tx0∈([⟨#[]⟩]:List Str)):AllowedB (.n kd0 tx0 i0 kids0) .range:=by
 intro kd tx i kids hn w D a c c' x b hxN hxK hR
 cases hn
 clear hxN hxK hR
 show Calls Tryz.prog 55 #[.agg #[.string kd0,.string tx0,.int .i64 i0,.slice a c c'],.iface 326 (.pointer (some ⟨b,0,none⟩))] w _
 obtain⟨a0,a1,a2,a3,a4,a5,-⟩:=nobs 326 b 74 [183,238,242,283,286,298] (by decide)
 have t_RangeStmt:∀ w,(Instr.typeAssert (.iface 326 (.pointer (some ⟨b,0,none⟩))) 74 326 true).run Tryz.prog w=.ok (.tuple #[.pointer (some ⟨b,0,none⟩),.bool true]) w:=fun w=>as_range _ _ w
 go_enter Tryz.func55,Tryz.ntmps55
 go_wp2_with fail
 refine(word_any tx0 [⟨#[]⟩,⟨#[61]⟩,⟨#[58,61]⟩] (by simp only[List.mem_cons,List.not_mem_nil,or_false]at h ⊢;rcases h with rfl<;>simp) (by decide) _ _ 3 3 rfl (fun j u hu=>?_)).mono ?_
 · refine cell_of_cells (cs:=[.string ⟨#[]⟩,.string ⟨#[61]⟩,.string ⟨#[58,61]⟩]) (by first | exact heap2_1 _ _ _ | exact heap_alloc_new _ _) j ?_
   have:=congrArg (Option.map Value.string) hu
   rw[← List.getElem?_map]at this
   exact this
 rintro e w1 ⟨rfl,rfl⟩
 go_wp2_with fail
 go_ret
 exact⟨rfl,keptA.trans keptA⟩
theorem ident_zero(tx:Str)(w:World)(bb mb:Nat)(left depth:Int)(f:Int→Option Addr)(hB:Bld w bb mb left depth f)(kd:Str)(a:Option Addr)(c c':Nat) :
 Calls Tryz.prog 74 #[.pointer (some ⟨bb,0,none⟩),.agg #[.string kd,.string tx,.int .i64 0,.slice a c c']] w (MadeP w bb mb (.name tx 0) .ident 0 left depth f):=by
 go_enter Tryz.func74,Tryz.ntmps74
 go_wp2_with fail
 go_ret
 have kF:∀ {o1 o2:Obj},Kept (Two bb mb) w ((w.alloc o1).alloc o2):=keptA.trans keptA
 refine⟨.n .ident tx 0 none (w.heap.size+1) .nil .nil .nil .nil,_,f,rfl,rfl,rfl,?_,hB.kept (M:=fun _=>False) (keptA.trans keptA) (fun f=>f) (fun f=>f),Ext.refl _,?_,LIn.one (by omega) (by simp),kF⟩
 · exact⟨[.string tx,.pointer none],[],rfl,by omega,heap2_1 w _ _,⟨_,rfl,_,rfl,rfl⟩,rfl⟩
 · refine⟨by simp,by simp,trivial,trivial,trivial,trivial⟩
structure IdS (W0:World) (b:Nat) (wx:World):Prop where
 kept:Kept (fun k=>k=b) W0 wx
 frz:wx.frozen? ⟨b,1,none⟩=false
 lt:b<wx.heap.size
theorem IdS.drew{W0 wx:World}{b:Nat}(h:IdS W0 b wx):IdS W0 b wx.drew:=⟨h.kept.trans keptD,h.frz,h.lt⟩
theorem IdS.set{W0 wx:World}{b:Nat}(h:IdS W0 b wx)(v:Value):IdS W0 b (wx.setCell ⟨b,1,none⟩ v):=⟨h.kept.trans (Kept.set1e (b:=b)),by rw[World.frozen?_setCell];exact h.frz,by simpa [World.setCell]using h.lt⟩
theorem ident_pos(tx:Str)(i:Int)(h0:0<i)(h1:i≤1000000)(w:World)(bb mb:Nat)(left depth:Int)(f:Int→Option Addr)(hB:Bld w bb mb left depth f)(o:Addr)(hf:f i=some o)(kd:Str)(a:Option Addr)(c c':Nat) :
 Calls Tryz.prog 74 #[.pointer (some ⟨bb,0,none⟩),.agg #[.string kd,.string tx,.int .i64 i,.slice a c c']] w (MadeP w bb mb (.name tx i) .ident 0 left depth f):=by
 obtain⟨x0,x1,x2,x3,y0,y1,y2,y3⟩:=slot4 hB.obj
 have zb:bb<w.heap.size:=lt_of_heap hB.obj
 have hm:=hB.map
 have Hf:=Lib.hid hf
 have HB:=Lib.hid hB
 have h0':0≤i:=by omega
 have zm:mb<w.heap.size:=by obtain⟨_,_,e,_⟩:=hm;exact lt_of_heap e
 go_enter Tryz.func74,Tryz.ntmps74
 go_upto_region 5 with fail
 obtain⟨W0,hW0⟩:∃ W0,W0=(w.alloc (.cells #[.string kd,.string tx,.int .i64 i,.slice a c c'] 30)).alloc (.cells #[.string tx,.pointer none] 128):=⟨_,rfl⟩
 rw[← hW0]
 have K0:Kept (fun _=>False) w W0:=by rw[hW0];exact keptA.trans keptA
 obtain⟨u0,u1,u2,u3,v0,v1,v2,v3⟩:=slot4 (hW0▸heap2_0 w _ _)
 have oi:W0.heap[w.heap.size+1]?=some (.cells #[.string tx,.pointer none] 128 (0,0)):=hW0▸heap2_1 w _ _
 have z0:w.heap.size+1<W0.heap.size:=lt_of_heap oi
 clear hW0
 have rule:∀ wx:World,IdS W0 (w.heap.size+1) wx→wx.frozen? ⟨w.heap.size+1,1,none⟩=false∧w.heap.size+1<wx.heap.size∧wx.cell? ⟨bb,3,none⟩=some (.map (some mb))∧wx.cell? ⟨w.heap.size,2,none⟩=some (.int .i64 i)∧wx.cell? ⟨w.heap.size,1,none⟩=some (.string tx) ∧
  (Instr.lookup 97 (.map (some mb)) (.int .i64 i) false).run Tryz.prog wx=.ok (.pointer (some o)) wx:=fun wx h =>
  have hk:=h.kept
  ⟨h.frz,h.lt,hk.cell (K0.cell x3 (fun f=>f)) (by simp only[];omega),hk.cell u2 (by simp),hk.cell u1 (by simp),by rw[((hm.kept K0 (fun f=>f)).kept hk (by omega)).look h0' h1,Hf.out]⟩
 clear hm hf hB
 have kD:IdS W0 (w.heap.size+1) W0:=⟨Kept.refl _ _,free_of_cells oi 1,z0⟩
 have kc:W0.cell? ⟨w.heap.size+1,1,none⟩=some (.pointer none):=cell_of_cells (cs:=[_,_]) oi 1 rfl
 go_region_held3 (fun wx=>IdS W0 (w.heap.size+1) wx) (first | assumption | exact IdS.drew (by assumption) | exact IdS.drew (IdS.drew (by assumption))) (fail)
 go_upto_region 7 with fail
 have kD2:=kD.drew
 have kc2:W0.drew.cell? ⟨w.heap.size+1,1,none⟩=some (.pointer none):=kc
 have kc3:W0.drew.drew.cell? ⟨w.heap.size+1,1,none⟩=some (.pointer none):=kc
 go_region_held3 (fun wx=>IdS W0 (w.heap.size+1) wx) (first | assumption | exact IdS.drew (by assumption) | exact IdS.drew (IdS.drew (by assumption)) | exact IdS.drew (IdS.drew (IdS.set (by assumption) _))) (fail)
 go_wp2_with fail
 go_ret
 have kF:Kept (fun b=>b=w.heap.size+1) W0 (W0.setCell ⟨w.heap.size+1,1,none⟩ (.pointer (some o))).drew.drew:=(Kept.set1e (b:=w.heap.size+1)).trans (keptD.trans keptD)
 have kA:Kept (fun _=>False) w (W0.setCell ⟨w.heap.size+1,1,none⟩ (.pointer (some o))).drew.drew:=((K0.mono (M':=fun b=>False∨w.heap.size≤b) fun _ _ f=>f.elim).trans (kF.mono fun b _ h=>.inr (by omega))).fresh (Nat.le_refl _)
 refine⟨.n .ident tx i (some o) (w.heap.size+1) .nil .nil .nil .nil,_,f,rfl,rfl,rfl,?_,HB.out.kept kA (fun f=>f) (fun f=>f),Ext.refl _,?_,LIn.one (by omega) ?_,kA.mono fun _ _ f=>f.elim⟩
 · exact⟨[.string tx,.pointer (some o)],[],rfl,by omega,set_of_cells oi 1 (.pointer (some o)),⟨_,rfl,_,rfl,rfl⟩,rfl⟩
 · exact⟨by simp[h0,Hf.out],by simp[Hf.out],trivial,trivial,trivial,trivial⟩
 · have:=kF.size;omega
theorem ident_new(tx:Str)(i:Int)(h0:0<i)(h1:i≤1000000)(w:World)(bb mb:Nat)(left depth:Int)(f:Int→Option Addr)(hB:Bld w bb mb left depth f)(hf:f i=none)(kd:Str)(a:Option Addr)(c c':Nat) :
 Calls Tryz.prog 74 #[.pointer (some ⟨bb,0,none⟩),.agg #[.string kd,.string tx,.int .i64 i,.slice a c c']] w (MadeP w bb mb (.name tx i) .ident 0 left depth f):=by
 obtain⟨x0,x1,x2,x3,y0,y1,y2,y3⟩:=slot4 hB.obj
 have zb:bb<w.heap.size:=lt_of_heap hB.obj
 have hm:=hB.map
 have Hf:=Lib.hid hf
 have HB:=Lib.hid hB
 have h0':0≤i:=by omega
 have hne:=hB.ne
 have zm:mb<w.heap.size:=by obtain⟨_,_,e,_⟩:=hm;exact lt_of_heap e
 go_enter Tryz.func74,Tryz.ntmps74
 go_upto_region 5 with fail
 obtain⟨W0,hW0⟩:∃ W0,W0=(w.alloc (.cells #[.string kd,.string tx,.int .i64 i,.slice a c c'] 30)).alloc (.cells #[.string tx,.pointer none] 128):=⟨_,rfl⟩
 rw[← hW0]
 have K0:Kept (fun _=>False) w W0:=by rw[hW0];exact keptA.trans keptA
 obtain⟨u0,u1,u2,u3,v0,v1,v2,v3⟩:=slot4 (hW0▸heap2_0 w _ _)
 have oi:W0.heap[w.heap.size+1]?=some (.cells #[.string tx,.pointer none] 128 (0,0)):=hW0▸heap2_1 w _ _
 have z0:w.heap.size+1<W0.heap.size:=lt_of_heap oi
 have hm0:=hm.kept K0 (fun f=>f)
 clear hW0
 have rule:∀ wx:World,Kept (fun b=>b=mb) W0 wx→wx.cell? ⟨bb,3,none⟩=some (.map (some mb))∧wx.cell? ⟨w.heap.size,2,none⟩=some (.int .i64 i)∧wx.cell? ⟨w.heap.size,1,none⟩=some (.string tx):=fun wx hk =>
  ⟨hk.cell (K0.cell x3 (fun f=>f)) (by simp only[];omega),hk.cell u2 (by simp only[];omega),hk.cell u1 (by simp only[];omega)⟩
 have look:∀ wx:World,Kept (fun _=>False) W0 wx→(Instr.lookup 97 (.map (some mb)) (.int .i64 i) false).run Tryz.prog wx=.ok (.pointer none) wx:=fun wx hk=>by rw[(hm0.kept hk (fun f=>f)).look h0' h1,Hf.out]
 have look0:∀ wx:World,Kept (fun _=>False) W0 wx→wx.cell? ⟨bb,3,none⟩=some (.map (some mb))∧wx.cell? ⟨w.heap.size,2,none⟩=some (.int .i64 i):=fun wx hk =>
  ⟨hk.cell (K0.cell x3 (fun f=>f)) (fun f=>f),hk.cell u2 (fun f=>f)⟩
 clear hm hf hB
 have Hm0:=Lib.hid hm0
 clear hm0
 have kD:Kept (fun _=>False) W0 W0:=Kept.refl _ _
 go_region_held3 (fun wx=>Kept (fun _=>False) W0 wx) (first | assumption | exact keptD | exact Kept.trans (by assumption) keptD) (fail)
 go_upto_region 6 with fail
 clear look look0
 have kD:Kept (fun b=>b=mb) W0 W0.drew:=keptD
 obtain⟨w4,hw4,M4,K4⟩:=MapI.store (Hm0.out.kept (keptA.trans (M:=fun _=>False) (keptD.trans keptD)) (fun f=>f):MapI (W0.alloc (.cells #[.int .i64 4,.string tx,.nilIface] 150)).drew.drew mb f) h0' h1 Hf.out ⟨W0.heap.size,0,none⟩ ⟨by simp,by simp only[];omega⟩ (fun j b hj=>by have:=Hm0.out.lts j b hj;simp only[];omega)
 have KA:Kept (fun b=>b=mb) W0 w4:=Kept.trans (Kept.trans keptA (Kept.trans keptD keptD)) K4
 have HM4:=Lib.hid M4
 clear M4
 go_region_held3 (fun wx=>Kept (fun b=>b=mb) W0 wx) (first | assumption | exact keptD | exact Kept.trans keptA keptD | exact Kept.trans (by assumption) keptD | exact Kept.trans (by assumption) keptA) (fail)
 go_upto_region 7 with fail
 have oi4:w4.heap[w.heap.size+1]?=some (.cells #[.string tx,.pointer none] 128 (0,0)):=KA.obj oi (by omega)
 have z4:w.heap.size+1<w4.heap.size:=lt_of_heap oi4
 have zn:W0.heap.size<w4.heap.size:=by have:=K4.size;simp at this;omega
 clear rule hw4
 have rule7:∀ wx:World,IdS w4 (w.heap.size+1) wx→wx.frozen? ⟨w.heap.size+1,1,none⟩=false∧w.heap.size+1<wx.heap.size∧wx.cell? ⟨bb,3,none⟩=some (.map (some mb))∧wx.cell? ⟨w.heap.size,2,none⟩=some (.int .i64 i) ∧
  (Instr.lookup 97 (.map (some mb)) (.int .i64 i) false).run Tryz.prog wx=.ok (.pointer (some ⟨W0.heap.size,0,none⟩)) wx:=fun wx h =>
  have hk:=h.kept
  ⟨h.frz,h.lt,hk.cell (KA.cell (K0.cell x3 (fun f=>f)) (by simp only[];omega)) (by simp only[];omega),hk.cell (KA.cell u2 (by simp only[];omega)) (by simp only[];omega),by rw[(HM4.out.kept hk (by omega)).look h0' h1];simp⟩
 have kD2:IdS w4 (w.heap.size+1) w4:=⟨Kept.refl _ _,free_of_cells oi4 1,z4⟩
 have kc2:w4.cell? ⟨w.heap.size+1,1,none⟩=some (.pointer none):=cell_of_cells (cs:=[_,_]) oi4 1 rfl
 have kc3:w4.drew.cell? ⟨w.heap.size+1,1,none⟩=some (.pointer none):=kc2
 go_region_held3 (fun wx=>IdS w4 (w.heap.size+1) wx) (first | assumption | exact IdS.drew (by assumption) | exact IdS.drew (IdS.drew (by assumption)) | exact IdS.drew (IdS.set (by assumption) _)) (fail)
 go_wp2_with fail
 go_ret
 have kF:Kept (fun b=>b=w.heap.size+1) w4 (w4.setCell ⟨w.heap.size+1,1,none⟩ (.pointer (some ⟨W0.heap.size,0,none⟩))).drew:=(Kept.set1e (b:=w.heap.size+1)).trans keptD
 have kA:Kept (Two bb mb) w (w4.setCell ⟨w.heap.size+1,1,none⟩ (.pointer (some ⟨W0.heap.size,0,none⟩))).drew:=(((K0.mono (M':=fun b=>Two bb mb b∨w.heap.size≤b) fun _ _ f=>f.elim).trans (KA.mono fun b _ h=>.inl (.inr h))).trans (kF.mono fun b _ h=>.inr (by omega))).fresh (Nat.le_refl _)
 have HBo:w4.heap[bb]?=some (.cells #[.bool false,.int .i64 left,.int .i64 depth,.map (some mb)] 99 (0,0)):=KA.obj (K0.obj HB.out.obj (fun f=>f)) hne
 have HB4:Bld w4 bb mb left depth (fun j=>if j=i then some ⟨W0.heap.size,0,none⟩ else f j):=⟨HBo,HM4.out,hne,HB.out.l0,HB.out.l1,HB.out.d0,HB.out.d1⟩
 refine⟨.n .ident tx i (some ⟨W0.heap.size,0,none⟩) (w.heap.size+1) .nil .nil .nil .nil,_,_,rfl,rfl,rfl,?_,HB4.kept kF (by omega) (by omega),?_,?_,LIn.one (by omega) ?_,kA⟩
 · exact⟨[.string tx,.pointer (some ⟨W0.heap.size,0,none⟩)],[],rfl,by omega,set_of_cells oi4 1 (.pointer (some ⟨W0.heap.size,0,none⟩)),⟨_,rfl,_,rfl,rfl⟩,rfl⟩
 · intro j hj
   by_cases e:j=i
   · subst e;exact absurd Hf.out hj
   · simp only[e,if_false]
 · exact⟨by simp[h0],by simp,trivial,trivial,trivial,trivial⟩
 · have:=kF.size;omega
theorem ident_any(tx:Str)(i:Int)(h0:0≤i)(h1:i≤1000000)(w:World)(bb mb:Nat)(left depth:Int)(f:Int→Option Addr)(hB:Bld w bb mb left depth f)(kd:Str)(a:Option Addr)(c c':Nat) :
 Calls Tryz.prog 74 #[.pointer (some ⟨bb,0,none⟩),.agg #[.string kd,.string tx,.int .i64 i,.slice a c c']] w (MadeP w bb mb (.name tx i) .ident 0 left depth f):=by
 by_cases h:i=0
 · subst h;exact ident_zero tx w bb mb left depth f hB kd a c c'
 · cases hf:f i with
   | none=>exact ident_new tx i (by omega) h1 w bb mb left depth f hB hf kd a c c'
   | some o=>exact ident_pos tx i (by omega) h1 w bb mb left depth f hB o hf kd a c c'
theorem made_ident(s:Str)(i:Int)(h0:0≤i)(h1:i≤1000000):MadeB (.n (K.str .ident) s i .nil) .ident:=by
 intro kd tx i' kids hn w D bb mb left depth f a c c' hR hD hB hcost hdeep
 cases hn
 have hc:=kid_slice (kids:=.nil) trivial hR
 obtain rfl:c=0:=hc
 rw[cost_real (k:=.ident) trivial]at hcost ⊢
 simp only[N.cost]at hcost ⊢
 have l0:=hB.l0
 have HB:=Lib.hid hB
 clear hR hD hB hdeep
 show Calls Tryz.prog 54 #[.pointer (some ⟨bb,0,none⟩),.agg #[.string ⟨#[73,100,101,110,116]⟩,.string s,.int .i64 i,.slice a 0 c']] w _
 go_enter Tryz.func54,Tryz.ntmps54
 go_wp2_with fail
 refine(kids_any _ _ _ _ _ _ _ _ _ rfl).mono ?_
 rintro e W1 ⟨rfl,hk1⟩
 have ox:=hk1.obj (heap_alloc_new w (.cells #[.string ⟨#[73,100,101,110,116]⟩,.string s,.int .i64 i,.slice a 0 c'] 30)) (fun f=>f)
 have K0:Kept (fun _=>False) w W1:=keptA.trans hk1
 obtain⟨x0',x1',x2',x3',-⟩:=slot4 ox
 have zx:w.heap.size<W1.heap.size:=lt_of_heap ox
 clear hk1
 go_wp2_with fail
 refine(ident_any s i h0 h1 _ bb mb left depth f (HB.out.kept K0 (fun f=>f) (fun f=>f)) _ _ _ _).mono ?_
 rintro e w1 h
 have h2:=MadeP.up K0 h
 obtain⟨x,v,f',rfl,hxN,hxK,R1,B1,E1,O1,L1,Q1⟩:=h2
 obtain⟨b,rfl,-⟩:=ptr_of hxK trivial R1
 have HxN:=Lib.hid hxN
 have HxK:=Lib.hid hxK
 have HR1:=Lib.hid (iface_ptr hxK trivial R1)
 have HB1:=Lib.hid B1
 have HE1:=Lib.hid E1
 have HO1:=Lib.hid O1
 clear hxN hxK R1 B1 E1 O1 h
 go_wp2_with fail
 go_ret
 refine⟨x,_,f',rfl,HxN.out,HxK.out,HR1.out,?_,HE1.out,HO1.out,L1,Q1⟩
 have e:left+1-((1+0:Nat):Int)=left:=by omega
 rw[e]
 exact HB1.out
theorem made_lit(s:Str)(i:Int)(h0:0≤i)(h1:i≤100):MadeB (.n (K.str .lit) s i .nil) .lit:=by
 intro kd tx i' kids hn w D bb mb left depth f a c c' hR hD hB hcost hdeep
 cases hn
 have hc:=kid_slice (kids:=.nil) trivial hR
 obtain rfl:c=0:=hc
 rw[cost_real (k:=.lit) trivial]at hcost ⊢
 simp only[N.cost]at hcost ⊢
 have l0:=hB.l0
 have HB:=Lib.hid hB
 clear hR hD hB hdeep
 show Calls Tryz.prog 54 #[.pointer (some ⟨bb,0,none⟩),.agg #[.string ⟨#[66,97,115,105,99,76,105,116]⟩,.string s,.int .i64 i,.slice a 0 c']] w _
 go_enter Tryz.func54,Tryz.ntmps54
 go_wp2_with fail
 refine(kids_any _ _ _ _ _ _ _ _ _ rfl).mono ?_
 rintro e W1 ⟨rfl,hk1⟩
 have ox:=hk1.obj (heap_alloc_new w (.cells #[.string ⟨#[66,97,115,105,99,76,105,116]⟩,.string s,.int .i64 i,.slice a 0 c'] 30)) (fun f=>f)
 have K0:Kept (fun _=>False) w W1:=keptA.trans hk1
 obtain⟨x0',x1',x2',x3',-⟩:=slot4 ox
 have zx:w.heap.size<W1.heap.size:=lt_of_heap ox
 have zs:=K0.size
 clear hk1
 go_wp2_with fail
 go_ret
 have kA:Kept (fun _=>False) W1 (W1.alloc (.cells #[.int .i64 i,.string s] (K.ty .lit))):=keptA
 refine⟨.n .lit s i none W1.heap.size .nil .nil .nil .nil,_,f,rfl,rfl,rfl,shut_lit (m:=1) (by omega) (heap_alloc_new _ _),?_,Ext.refl _,⟨trivial,trivial,trivial,trivial,trivial,trivial⟩,LIn.one zs (by simp),(K0.trans kA).mono fun _ _ f=>f.elim⟩
 have e:left+1-((1+0:Nat):Int)=left:=by omega
 rw[e]
 exact(HB.out.kept K0 (fun f=>f) (fun f=>f)).kept kA (fun f=>f) (fun f=>f)
end Go.Proofs.YtleolbpibjnedaaGreat
