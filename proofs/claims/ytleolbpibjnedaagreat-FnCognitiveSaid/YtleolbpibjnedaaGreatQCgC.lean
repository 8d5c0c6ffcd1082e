/- gocognit's visitor: what a whole walk does with what it holds. -/
import Derived.Test.YtleolbpibjnedaaGreatQCgB
import Derived.Test.YtleolbpibjnedaaGreatQCgA
import Derived.Test.YtleolbpibjnedaaGreatQWkA
set_option linter.unusedSimpArgs false
set_option linter.unusedVariables false
set_option maxRecDepth 100000
set_option maxHeartbeats 4000000
namespace Gc
open Go
def sIf:Str:=⟨#[105,102]⟩
def sFor:Str:=⟨#[102,111,114]⟩
def sSwitch:Str:=⟨#[115,119,105,116,99,104]⟩
def sSelect:Str:=⟨#[115,101,108,101,99,116]⟩
def sElse:Str:=⟨#[101,108,115,101]⟩
def sRecursion:Str:=⟨#[114,101,99,117,114,115,105,111,110]⟩
def posK(k:K)(b:Nat):Value:=.iface k.pty (.pointer (some ⟨b,0,none⟩))
def A.blk:A→Nat
 | .n _ _ _ _ b _ _ _ _=>b
 | _=>0
def A.isNone:A→Bool
 | .n .none ..=>true
 | _=>false
def CS.deepen(s:CS)(text:Str)(pos:Value):CS:=s.add ⟨RowKit.wrap64 (s.nest+1),s.nest,text,pos⟩
def CS.atIf(s:CS)(b:Nat):CS:=if s.els K.if_.pty b=true then s.add ⟨1,0,sIf,posK .if_ b⟩ else s.deepen sIf (posK .if_ b)
def gstep(a:A)(s:CS):CS :=
 match a with
 | .n .branch text _ _ b f0 _ _ _=>if f0.isNone=true then s else s.add ⟨1,0,tokText (tokOf text),posK .branch b⟩
 | .n .bin text _ _ b _ _ _ _=>if isLg (tokOf text)=true∧s.cal K.bin.pty b=false then CS.runs (posK .bin b) a.ops 0 (a.coll s) else s
 | _=>s
def A.csem:A→CS→CS
 | .nil,s=>s
 | .cons h t,s=>t.csem (h.csem s)
 | .n k text num o b f0 f1 f2 f3,s =>
   match k with
   | .none=>s
   | .list=>f0.csem s
   | .flit=>(f1.csem (f0.csem s).up).down
   | .select=>(f0.csem (s.deepen sSelect (posK .select b)).up).down
   | .switch=>(f2.csem (f1.csem (s.deepen sSwitch (posK .switch b))).up).down
   | .for_=>(f3.csem (f1.csem (s.deepen sFor (posK .for_ b))).up).down
   | .range=>(f3.csem (f2.csem (s.deepen sFor (posK .range b))).up).down
   | .if_ =>
     match f3.K with
     | .block=>(f3.csem ((f2.csem (f1.csem (s.atIf b)).up).down.add ⟨1,0,sElse,posK .block f3.blk⟩).up).down
     | .if_=>f3.csem ((f2.csem (f1.csem (s.atIf b)).up).down.mark K.if_.pty f3.blk)
     | _=>(f2.csem (f1.csem (s.atIf b)).up).down
   | k=>match k.arity with
     | 0=>gstep (.n k text num o b f0 f1 f2 f3) s
     | 1=>f0.csem (gstep (.n k text num o b f0 f1 f2 f3) s)
     | 2=>f1.csem (f0.csem (gstep (.n k text num o b f0 f1 f2 f3) s))
     | 3=>f2.csem (f1.csem (f0.csem (gstep (.n k text num o b f0 f1 f2 f3) s)))
     | _=>f3.csem (f2.csem (f1.csem (f0.csem (gstep (.n k text num o b f0 f1 f2 f3) s))))
def K.cwn:K→Nat
 | .list=>1
 | k=>k.arity
def A.cw:A→Nat
 | .nil=>0
 | .cons h t=>h.cw+t.cw
 | .n k text num o b f0 f1 f2 f3=>(match k with | .none=>0 | .list=>0 | .bin=>(f0.ops.length+1+f1.ops.length) | _=>2)+(if 0<k.cwn then f0.cw else 0)+(if 1<k.cwn then f1.cw else 0)+(if 2<k.cwn then f2.cw else 0)+(if 3<k.cwn then f3.cw else 0)
def GPA(a:A)(s:CS):Prop:=s.ds.length+a.cw≤10000
theorem runs_len(pos:Value):∀ (l:List Int) (last:Int) (s:CS),(s.runs pos l last).ds.length≤s.ds.length+l.length
 | [],_,s=>by simp[CS.runs]
 | op :: l,last,s=>by
   simp only[CS.runs]
   split
   · have:=runs_len pos l last s
     simp only[List.length_cons];omega
   · have:=runs_len pos l op (s.add ⟨1,0,tokText op,pos⟩)
     simp only[CS.add,List.length_append,List.length_cons,List.length_nil]at this ⊢
     omega
theorem ops_bin(text:Str)(num:Int)(o:Option Addr)(b:Nat)(f0 f1 f2 f3:A):(A.n .bin text num o b f0 f1 f2 f3).ops.length≤f0.ops.length+1+f1.ops.length:=by
 simp only[A.ops,List.length_append]
 split<;>simp<;>omega
theorem gstep_len(k:K)(text:Str)(num:Int)(o:Option Addr)(b:Nat)(f0 f1 f2 f3:A)(s:CS):(gstep (.n k text num o b f0 f1 f2 f3) s).ds.length≤s.ds.length+(match k with | .none=>0 | .list=>0 | .bin=>(f0.ops.length+1+f1.ops.length) | _=>2):=by
 cases k<;>simp only[gstep]<;>try omega
 · split
   · have h1:=runs_len (posK .bin b) (A.n .bin text num o b f0 f1 f2 f3).ops 0 ((A.n .bin text num o b f0 f1 f2 f3).coll s)
     rw[coll_ds]at h1
     have h2:=ops_bin text num o b f0 f1 f2 f3
     omega
   · omega
 · split
   · omega
   · simp[CS.add]
theorem csem_len:∀ (a:A) (s:CS),(a.csem s).ds.length≤s.ds.length+a.cw
 | .nil,s=>by simp[A.csem]
 | .cons h t,s=>by
   have h1:=csem_len h s
   have h2:=csem_len t (h.csem s)
   simp only[A.csem,A.cw]
   omega
 | .n k text num o b f0 f1 f2 f3,s=>by
   have h0:=csem_len f0
   have h1:=csem_len f1
   have h2:=csem_len f2
   have h3:=csem_len f3
   have hg:=gstep_len k text num o b f0 f1 f2 f3 s
   have hd:∀ (s:CS) (t:Str) (p:Value),(s.deepen t p).ds.length=s.ds.length+1:=fun s t p=>by simp[CS.deepen,CS.add]
   have hi:∀ (s:CS) (b:Nat),(s.atIf b).ds.length=s.ds.length+1:=fun s b=>by unfold CS.atIf;split<;>simp[CS.deepen,CS.add]
   have hu:∀ s:CS,s.up.ds=s.ds:=fun _=>rfl
   have hw:∀ s:CS,s.down.ds=s.ds:=fun _=>rfl
   have hm:∀ (s:CS) (p q:Nat),(s.mark p q).ds=s.ds:=fun _ _ _=>rfl
   have ha:∀ (s:CS) (d:DG),(s.add d).ds.length=s.ds.length+1:=fun s d=>by simp[CS.add]
   obtain⟨s',hs'⟩:∃ s',s'=gstep (.n k text num o b f0 f1 f2 f3) s:=⟨_,rfl⟩
   rw[← hs']at hg
   have g0:=h0 s'
   have g1:=h1 (f0.csem s')
   have g2:=h2 (f1.csem (f0.csem s'))
   have g3:=h3 (f2.csem (f1.csem (f0.csem s')))
   cases k
   case none=>simp[A.csem]
   case list=>have:=h0 s;simp(config:={decide:=true}) only[A.csem,A.cw,K.cwn,K.arity,if_true,if_false];omega
   case flit =>
    have q0:=h0 s
    have q1:=h1 (f0.csem s).up
    simp(config:={decide:=true}) only[A.csem,A.cw,K.cwn,K.arity,if_true,if_false,hu,hw]at *
    omega
   case select =>
    have q0:=h0 (s.deepen sSelect (posK .select b)).up
    simp(config:={decide:=true}) only[A.csem,A.cw,K.cwn,K.arity,if_true,if_false,hu,hw,hd]at *
    omega
   case switch =>
    have q0:=h1 (s.deepen sSwitch (posK .switch b))
    have q1:=h2 (f1.csem (s.deepen sSwitch (posK .switch b))).up
    simp(config:={decide:=true}) only[A.csem,A.cw,K.cwn,K.arity,if_true,if_false,hu,hw,hd]at *
    omega
   case for_ =>
    have q0:=h1 (s.deepen sFor (posK .for_ b))
    have q1:=h3 (f1.csem (s.deepen sFor (posK .for_ b))).up
    simp(config:={decide:=true}) only[A.csem,A.cw,K.cwn,K.arity,if_true,if_false,hu,hw,hd]at *
    omega
   case range =>
    have q0:=h2 (s.deepen sFor (posK .range b))
    have q1:=h3 (f2.csem (s.deepen sFor (posK .range b))).up
    simp(config:={decide:=true}) only[A.csem,A.cw,K.cwn,K.arity,if_true,if_false,hu,hw,hd]at *
    omega
   case if_ =>
    have q0:=h1 (s.atIf b)
    have q1:=h2 (f1.csem (s.atIf b)).up
    have q2:=h3 ((f2.csem (f1.csem (s.atIf b)).up).down.add ⟨1,0,sElse,posK .block f3.blk⟩).up
    have q3:=h3 ((f2.csem (f1.csem (s.atIf b)).up).down.mark K.if_.pty f3.blk)
    simp(config:={decide:=true}) only[A.csem,A.cw,K.cwn,K.arity,if_true,if_false]
    simp only[hu,hi]at q0 q1
    split
    · simp only[hw,hu,ha]at q2 ⊢
      omega
    · simp only[hm,hw]at q3 ⊢
      omega
    · simp only[hw]
      omega
   all_goals
    dsimp only at hg
    simp(config:={decide:=true}) only[A.csem,A.cw,K.cwn,K.arity,if_true,if_false]
    rw[← hs']
    omega
end Gc
namespace Go.Proofs.YtleolbpibjnedaaGreat
open Go Go.RowKit Gc
theorem meth_cog (p : Addr) (w : World) : (method 502 168 (.pointer (some p)) "Visit").run Tryz.prog w = .ok (139, .pointer (some p)) w := by kernel_rfl
theorem ent_cog(args:Array Value)(w:World):(callFunc 139 args).run Tryz.prog w=.ok (.enter 139 args) w:=by kernel_rfl
theorem walk_nil{vb:Nat}{X:TypeId}{b:Nat}{w:World}{P:World→Prop}(h:Calls Tryz.prog 139 #[.pointer (some ⟨vb,0,none⟩),.iface X (.pointer (some ⟨b,0,none⟩))] w (fun e w'=>e=.returned .nilIface∧P w')) :
 Calls Tryz.prog 59 #[gSelf vb,.iface X (.pointer (some ⟨b,0,none⟩))] w (fun e w'=>e=.returned (.tuple #[])∧P w'):=by
 have H:=Lib.hid h
 have hm:=meth_cog ⟨vb,0,none⟩
 have he:=ent_cog
 clear h
 go_enter Tryz.func59,Tryz.ntmps59
 go_wp2_with fail
 refine H.out.mono ?_
 rintro e w1 ⟨rfl,I⟩
 have HI1:=Lib.hid I
 clear I
 go_wp2_with fail
 refine bodyPost_ret (results_none rfl _ _ _) rfl ?_
 exact⟨rfl,HI1.out⟩
theorem gv_nil(vb:Nat)(w:World):Calls Tryz.prog 139 #[.pointer (some ⟨vb,0,none⟩),.nilIface] w (fun e w'=>e=.returned (gSelf vb)∧w=w'):=by
 have t_IfStmt:∀ w,(Instr.typeAssert .nilIface 74 305 true).run Tryz.prog w=.ok (.tuple #[.pointer none,.bool false]) w:=fun w=>assert_nil un_IfStmt zp_IfStmt _ w
 have t_SwitchStmt:∀ w,(Instr.typeAssert .nilIface 74 311 true).run Tryz.prog w=.ok (.tuple #[.pointer none,.bool false]) w:=fun w=>assert_nil un_SwitchStmt zp_SwitchStmt _ w
 have t_TypeSwitchStmt:∀ w,(Instr.typeAssert .nilIface 74 314 true).run Tryz.prog w=.ok (.tuple #[.pointer none,.bool false]) w:=fun w=>assert_nil un_TypeSwitchStmt zp_TypeSwitchStmt _ w
 have t_SelectStmt:∀ w,(Instr.typeAssert .nilIface 74 320 true).run Tryz.prog w=.ok (.tuple #[.pointer none,.bool false]) w:=fun w=>assert_nil un_SelectStmt zp_SelectStmt _ w
 have t_ForStmt:∀ w,(Instr.typeAssert .nilIface 74 323 true).run Tryz.prog w=.ok (.tuple #[.pointer none,.bool false]) w:=fun w=>assert_nil un_ForStmt zp_ForStmt _ w
 have t_RangeStmt:∀ w,(Instr.typeAssert .nilIface 74 326 true).run Tryz.prog w=.ok (.tuple #[.pointer none,.bool false]) w:=fun w=>assert_nil un_RangeStmt zp_RangeStmt _ w
 have t_FuncLit:∀ w,(Instr.typeAssert .nilIface 74 211 true).run Tryz.prog w=.ok (.tuple #[.pointer none,.bool false]) w:=fun w=>assert_nil un_FuncLit zp_FuncLit _ w
 have t_BranchStmt:∀ w,(Instr.typeAssert .nilIface 74 298 true).run Tryz.prog w=.ok (.tuple #[.pointer none,.bool false]) w:=fun w=>assert_nil un_BranchStmt zp_BranchStmt _ w
 have t_BinaryExpr:∀ w,(Instr.typeAssert .nilIface 74 242 true).run Tryz.prog w=.ok (.tuple #[.pointer none,.bool false]) w:=fun w=>assert_nil un_BinaryExpr zp_BinaryExpr _ w
 go_enter Tryz.func139,Tryz.ntmps139
 go_wp2_with fail
 go_ret
 exact⟨rfl,rfl⟩
theorem gv_other(vb:Nat)(X:TypeId)(b:Nat)(hX:X≠305∧X≠311∧X≠314∧X≠320∧X≠323∧X≠326∧X≠211∧X≠298∧X≠242)(w:World):Calls Tryz.prog 139 #[.pointer (some ⟨vb,0,none⟩),.iface X (.pointer (some ⟨b,0,none⟩))] w (fun e w'=>e=.returned (gSelf vb)∧w=w'):=by
 obtain⟨x0,x1,x2,x3,x4,x5,x6,x7,x8⟩:=hX
 have t_IfStmt:=nob (P:=Tryz.prog) X b 74 un_IfStmt zp_IfStmt x0
 have t_SwitchStmt:=nob (P:=Tryz.prog) X b 74 un_SwitchStmt zp_SwitchStmt x1
 have t_TypeSwitchStmt:=nob (P:=Tryz.prog) X b 74 un_TypeSwitchStmt zp_TypeSwitchStmt x2
 have t_SelectStmt:=nob (P:=Tryz.prog) X b 74 un_SelectStmt zp_SelectStmt x3
 have t_ForStmt:=nob (P:=Tryz.prog) X b 74 un_ForStmt zp_ForStmt x4
 have t_RangeStmt:=nob (P:=Tryz.prog) X b 74 un_RangeStmt zp_RangeStmt x5
 have t_FuncLit:=nob (P:=Tryz.prog) X b 74 un_FuncLit zp_FuncLit x6
 have t_BranchStmt:=nob (P:=Tryz.prog) X b 74 un_BranchStmt zp_BranchStmt x7
 have t_BinaryExpr:=nob (P:=Tryz.prog) X b 74 un_BinaryExpr zp_BinaryExpr x8
 clear x0 x1 x2 x3 x4 x5 x6 x7 x8
 go_enter Tryz.func139,Tryz.ntmps139
 go_wp2_with fail
 go_ret
 exact⟨rfl,rfl⟩
theorem gv_if_{vb b:Nat}{w:World}{r:Value}{P:World→Prop}(h:Calls Tryz.prog 141 #[.pointer (some ⟨vb,0,none⟩),.pointer (some ⟨b,0,none⟩)] w (fun e w'=>e=.returned r∧P w')) :
 Calls Tryz.prog 139 #[.pointer (some ⟨vb,0,none⟩),.iface 305 (.pointer (some ⟨b,0,none⟩))] w (fun e w'=>e=.returned r∧P w'):=by
 have H:=Lib.hid h
 clear h
 have t_IfStmt:∀ w,(Instr.typeAssert (.iface 305 (.pointer (some ⟨b,0,none⟩))) 74 305 true).run Tryz.prog w=.ok (.tuple #[.pointer (some ⟨b,0,none⟩),.bool true]) w:=fun w=>assert_yes un_IfStmt _ _ w
 go_enter Tryz.func139,Tryz.ntmps139
 go_wp2_with fail
 refine H.out.mono ?_
 rintro e w1 ⟨rfl,I⟩
 have HI1:=Lib.hid I
 clear I
 go_wp2_with fail
 go_ret
 exact⟨rfl,HI1.out⟩
theorem gv_switch{vb b:Nat}{w:World}{r:Value}{P:World→Prop}(h:Calls Tryz.prog 142 #[.pointer (some ⟨vb,0,none⟩),.pointer (some ⟨b,0,none⟩)] w (fun e w'=>e=.returned r∧P w')) :
 Calls Tryz.prog 139 #[.pointer (some ⟨vb,0,none⟩),.iface 311 (.pointer (some ⟨b,0,none⟩))] w (fun e w'=>e=.returned r∧P w'):=by
 have H:=Lib.hid h
 clear h
 have t_IfStmt:=nob (P:=Tryz.prog) 311 b 74 un_IfStmt zp_IfStmt (by decide)
 have t_SwitchStmt:∀ w,(Instr.typeAssert (.iface 311 (.pointer (some ⟨b,0,none⟩))) 74 311 true).run Tryz.prog w=.ok (.tuple #[.pointer (some ⟨b,0,none⟩),.bool true]) w:=fun w=>assert_yes un_SwitchStmt _ _ w
 go_enter Tryz.func139,Tryz.ntmps139
 go_wp2_with fail
 refine H.out.mono ?_
 rintro e w1 ⟨rfl,I⟩
 have HI1:=Lib.hid I
 clear I
 go_wp2_with fail
 go_ret
 exact⟨rfl,HI1.out⟩
theorem gv_select{vb b:Nat}{w:World}{r:Value}{P:World→Prop}(h:Calls Tryz.prog 144 #[.pointer (some ⟨vb,0,none⟩),.pointer (some ⟨b,0,none⟩)] w (fun e w'=>e=.returned r∧P w')) :
 Calls Tryz.prog 139 #[.pointer (some ⟨vb,0,none⟩),.iface 320 (.pointer (some ⟨b,0,none⟩))] w (fun e w'=>e=.returned r∧P w'):=by
 have H:=Lib.hid h
 clear h
 have t_IfStmt:=nob (P:=Tryz.prog) 320 b 74 un_IfStmt zp_IfStmt (by decide)
 have t_SwitchStmt:=nob (P:=Tryz.prog) 320 b 74 un_SwitchStmt zp_SwitchStmt (by decide)
 have t_TypeSwitchStmt:=nob (P:=Tryz.prog) 320 b 74 un_TypeSwitchStmt zp_TypeSwitchStmt (by decide)
 have t_SelectStmt:∀ w,(Instr.typeAssert (.iface 320 (.pointer (some ⟨b,0,none⟩))) 74 320 true).run Tryz.prog w=.ok (.tuple #[.pointer (some ⟨b,0,none⟩),.bool true]) w:=fun w=>assert_yes un_SelectStmt _ _ w
 go_enter Tryz.func139,Tryz.ntmps139
 go_wp2_with fail
 refine H.out.mono ?_
 rintro e w1 ⟨rfl,I⟩
 have HI1:=Lib.hid I
 clear I
 go_wp2_with fail
 go_ret
 exact⟨rfl,HI1.out⟩
theorem gv_for_{vb b:Nat}{w:World}{r:Value}{P:World→Prop}(h:Calls Tryz.prog 145 #[.pointer (some ⟨vb,0,none⟩),.pointer (some ⟨b,0,none⟩)] w (fun e w'=>e=.returned r∧P w')) :
 Calls Tryz.prog 139 #[.pointer (some ⟨vb,0,none⟩),.iface 323 (.pointer (some ⟨b,0,none⟩))] w (fun e w'=>e=.returned r∧P w'):=by
 have H:=Lib.hid h
 clear h
 have t_IfStmt:=nob (P:=Tryz.prog) 323 b 74 un_IfStmt zp_IfStmt (by decide)
 have t_SwitchStmt:=nob (P:=Tryz.prog) 323 b 74 un_SwitchStmt zp_SwitchStmt (by decide)
 have t_TypeSwitchStmt:=nob (P:=Tryz.prog) 323 b 74 un_TypeSwitchStmt zp_TypeSwitchStmt (by decide)
 have t_SelectStmt:=nob (P:=Tryz.prog) 323 b 74 un_SelectStmt zp_SelectStmt (by decide)
 have t_ForStmt:∀ w,(Instr.typeAssert (.iface 323 (.pointer (some ⟨b,0,none⟩))) 74 323 true).run Tryz.prog w=.ok (.tuple #[.pointer (some ⟨b,0,none⟩),.bool true]) w:=fun w=>assert_yes un_ForStmt _ _ w
 go_enter Tryz.func139,Tryz.ntmps139
 go_wp2_with fail
 refine H.out.mono ?_
 rintro e w1 ⟨rfl,I⟩
 have HI1:=Lib.hid I
 clear I
 go_wp2_with fail
 go_ret
 exact⟨rfl,HI1.out⟩
theorem gv_range{vb b:Nat}{w:World}{r:Value}{P:World→Prop}(h:Calls Tryz.prog 146 #[.pointer (some ⟨vb,0,none⟩),.pointer (some ⟨b,0,none⟩)] w (fun e w'=>e=.returned r∧P w')) :
 Calls Tryz.prog 139 #[.pointer (some ⟨vb,0,none⟩),.iface 326 (.pointer (some ⟨b,0,none⟩))] w (fun e w'=>e=.returned r∧P w'):=by
 have H:=Lib.hid h
 clear h
 have t_IfStmt:=nob (P:=Tryz.prog) 326 b 74 un_IfStmt zp_IfStmt (by decide)
 have t_SwitchStmt:=nob (P:=Tryz.prog) 326 b 74 un_SwitchStmt zp_SwitchStmt (by decide)
 have t_TypeSwitchStmt:=nob (P:=Tryz.prog) 326 b 74 un_TypeSwitchStmt zp_TypeSwitchStmt (by decide)
 have t_SelectStmt:=nob (P:=Tryz.prog) 326 b 74 un_SelectStmt zp_SelectStmt (by decide)
 have t_ForStmt:=nob (P:=Tryz.prog) 326 b 74 un_ForStmt zp_ForStmt (by decide)
 have t_RangeStmt:∀ w,(Instr.typeAssert (.iface 326 (.pointer (some ⟨b,0,none⟩))) 74 326 true).run Tryz.prog w=.ok (.tuple #[.pointer (some ⟨b,0,none⟩),.bool true]) w:=fun w=>assert_yes un_RangeStmt _ _ w
 go_enter Tryz.func139,Tryz.ntmps139
 go_wp2_with fail
 refine H.out.mono ?_
 rintro e w1 ⟨rfl,I⟩
 have HI1:=Lib.hid I
 clear I
 go_wp2_with fail
 go_ret
 exact⟨rfl,HI1.out⟩
theorem gv_flit{vb b:Nat}{w:World}{r:Value}{P:World→Prop}(h:Calls Tryz.prog 147 #[.pointer (some ⟨vb,0,none⟩),.pointer (some ⟨b,0,none⟩)] w (fun e w'=>e=.returned r∧P w')) :
 Calls Tryz.prog 139 #[.pointer (some ⟨vb,0,none⟩),.iface 211 (.pointer (some ⟨b,0,none⟩))] w (fun e w'=>e=.returned r∧P w'):=by
 have H:=Lib.hid h
 clear h
 have t_IfStmt:=nob (P:=Tryz.prog) 211 b 74 un_IfStmt zp_IfStmt (by decide)
 have t_SwitchStmt:=nob (P:=Tryz.prog) 211 b 74 un_SwitchStmt zp_SwitchStmt (by decide)
 have t_TypeSwitchStmt:=nob (P:=Tryz.prog) 211 b 74 un_TypeSwitchStmt zp_TypeSwitchStmt (by decide)
 have t_SelectStmt:=nob (P:=Tryz.prog) 211 b 74 un_SelectStmt zp_SelectStmt (by decide)
 have t_ForStmt:=nob (P:=Tryz.prog) 211 b 74 un_ForStmt zp_ForStmt (by decide)
 have t_RangeStmt:=nob (P:=Tryz.prog) 211 b 74 un_RangeStmt zp_RangeStmt (by decide)
 have t_FuncLit:∀ w,(Instr.typeAssert (.iface 211 (.pointer (some ⟨b,0,none⟩))) 74 211 true).run Tryz.prog w=.ok (.tuple #[.pointer (some ⟨b,0,none⟩),.bool true]) w:=fun w=>assert_yes un_FuncLit _ _ w
 go_enter Tryz.func139,Tryz.ntmps139
 go_wp2_with fail
 refine H.out.mono ?_
 rintro e w1 ⟨rfl,I⟩
 have HI1:=Lib.hid I
 clear I
 go_wp2_with fail
 go_ret
 exact⟨rfl,HI1.out⟩
theorem gv_branch{vb b:Nat}{w:World}{r:Value}{P:World→Prop}(h:Calls Tryz.prog 148 #[.pointer (some ⟨vb,0,none⟩),.pointer (some ⟨b,0,none⟩)] w (fun e w'=>e=.returned r∧P w')) :
 Calls Tryz.prog 139 #[.pointer (some ⟨vb,0,none⟩),.iface 298 (.pointer (some ⟨b,0,none⟩))] w (fun e w'=>e=.returned r∧P w'):=by
 have H:=Lib.hid h
 clear h
 have t_IfStmt:=nob (P:=Tryz.prog) 298 b 74 un_IfStmt zp_IfStmt (by decide)
 have t_SwitchStmt:=nob (P:=Tryz.prog) 298 b 74 un_SwitchStmt zp_SwitchStmt (by decide)
 have t_TypeSwitchStmt:=nob (P:=Tryz.prog) 298 b 74 un_TypeSwitchStmt zp_TypeSwitchStmt (by decide)
 have t_SelectStmt:=nob (P:=Tryz.prog) 298 b 74 un_SelectStmt zp_SelectStmt (by decide)
 have t_ForStmt:=nob (P:=Tryz.prog) 298 b 74 un_ForStmt zp_ForStmt (by decide)
 have t_RangeStmt:=nob (P:=Tryz.prog) 298 b 74 un_RangeStmt zp_RangeStmt (by decide)
 have t_FuncLit:=nob (P:=Tryz.prog) 298 b 74 un_FuncLit zp_FuncLit (by decide)
 have t_BranchStmt:∀ w,(Instr.typeAssert (.iface 298 (.pointer (some ⟨b,0,none⟩))) 74 298 true).run Tryz.prog w=.ok (.tuple #[.pointer (some ⟨b,0,none⟩),.bool true]) w:=fun w=>assert_yes un_BranchStmt _ _ w
 go_enter Tryz.func139,Tryz.ntmps139
 go_wp2_with fail
 refine H.out.mono ?_
 rintro e w1 ⟨rfl,I⟩
 have HI1:=Lib.hid I
 clear I
 go_wp2_with fail
 go_ret
 exact⟨rfl,HI1.out⟩
theorem gv_bin{vb b:Nat}{w:World}{r:Value}{P:World→Prop}(h:Calls Tryz.prog 149 #[.pointer (some ⟨vb,0,none⟩),.pointer (some ⟨b,0,none⟩)] w (fun e w'=>e=.returned r∧P w')) :
 Calls Tryz.prog 139 #[.pointer (some ⟨vb,0,none⟩),.iface 242 (.pointer (some ⟨b,0,none⟩))] w (fun e w'=>e=.returned r∧P w'):=by
 have H:=Lib.hid h
 clear h
 have t_IfStmt:=nob (P:=Tryz.prog) 242 b 74 un_IfStmt zp_IfStmt (by decide)
 have t_SwitchStmt:=nob (P:=Tryz.prog) 242 b 74 un_SwitchStmt zp_SwitchStmt (by decide)
 have t_TypeSwitchStmt:=nob (P:=Tryz.prog) 242 b 74 un_TypeSwitchStmt zp_TypeSwitchStmt (by decide)
 have t_SelectStmt:=nob (P:=Tryz.prog) 242 b 74 un_SelectStmt zp_SelectStmt (by decide)
 have t_ForStmt:=nob (P:=Tryz.prog) 242 b 74 un_ForStmt zp_ForStmt (by decide)
 have t_RangeStmt:=nob (P:=Tryz.prog) 242 b 74 un_RangeStmt zp_RangeStmt (by decide)
 have t_FuncLit:=nob (P:=Tryz.prog) 242 b 74 un_FuncLit zp_FuncLit (by decide)
 have t_BranchStmt:=nob (P:=Tryz.prog) 242 b 74 un_BranchStmt zp_BranchStmt (by decide)
 have t_BinaryExpr:∀ w,(Instr.typeAssert (.iface 242 (.pointer (some ⟨b,0,none⟩))) 74 242 true).run Tryz.prog w=.ok (.tuple #[.pointer (some ⟨b,0,none⟩),.bool true]) w:=fun w=>assert_yes un_BinaryExpr _ _ w
 go_enter Tryz.func139,Tryz.ntmps139
 go_wp2_with fail
 refine H.out.mono ?_
 rintro e w1 ⟨rfl,I⟩
 have HI1:=Lib.hid I
 clear I
 go_wp2_with fail
 go_ret
 exact⟨rfl,HI1.out⟩
theorem inc_if{vb B:Nat}{nm:Value}{s:CS}{w:World}(I:GInv vb B nm s w)(b:Nat)(hp:KeyB w B (posK .if_ b))(hl:s.ds.length≤100000) :
 Calls Tryz.prog 150 #[.pointer (some ⟨vb,0,none⟩),.pointer (some ⟨b,0,none⟩),.string sIf,posK .if_ b] w (VisP vb B nm (s.atIf b) w):=by
 have HM:=Lib.hid (is_else I .if_ b hp)
 have H1:=Lib.hid (inc_any I sIf _ hp hl)
 have H2:=Lib.hid (nest_complexity I sIf _ hp hl)
 cases he:s.els K.if_.pty b
 · have e:s.atIf b=s.deepen sIf (posK .if_ b):=by simp[CS.atIf,he]
   rw[he]at HM
   rw[e]
   clear he e hp I H1
   show Calls Tryz.prog 150 #[.pointer (some ⟨vb,0,none⟩),.pointer (some ⟨b,0,none⟩),.string sIf,.iface 305 (.pointer (some ⟨b,0,none⟩))] w _
   go_enter Tryz.func150,Tryz.ntmps150
   go_wp2_with fail
   refine HM.out.mono ?_
   rintro e w' ⟨rfl,hw⟩
   rw[hw]
   clear hw
   go_wp2_with fail
   refine H2.out.mono ?_
   rintro e w1 ⟨rfl,I1,K1⟩
   have HI1:=Lib.hid I1
   clear I1
   go_wp2_with fail
   go_end0
   exact⟨rfl,HI1.out,K1⟩
 · have e:s.atIf b=s.add ⟨1,0,sIf,posK .if_ b⟩:=by simp[CS.atIf,he]
   rw[he]at HM
   rw[e]
   clear he e hp I H2
   show Calls Tryz.prog 150 #[.pointer (some ⟨vb,0,none⟩),.pointer (some ⟨b,0,none⟩),.string sIf,.iface 305 (.pointer (some ⟨b,0,none⟩))] w _
   go_enter Tryz.func150,Tryz.ntmps150
   go_wp2_with fail
   refine HM.out.mono ?_
   rintro e w' ⟨rfl,hw⟩
   rw[hw]
   clear hw
   go_wp2_with fail
   refine H1.out.mono ?_
   rintro e w1 ⟨rfl,I1,K1⟩
   have HI1:=Lib.hid I1
   clear I1
   go_wp2_with fail
   go_end0
   exact⟨rfl,HI1.out,K1⟩
end Go.Proofs.YtleolbpibjnedaaGreat
