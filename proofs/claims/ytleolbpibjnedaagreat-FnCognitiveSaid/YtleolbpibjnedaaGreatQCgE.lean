/- gocognit's visitor is one. -/
import Derived.Test.YtleolbpibjnedaaGreatQCgD
import Derived.Test.YtleolbpibjnedaaGreatQWkG
set_option linter.unusedSimpArgs false
set_option linter.unusedVariables false
set_option maxRecDepth 100000
set_option maxHeartbeats 4000000
namespace Gc
open Go
theorem VV_flit{t:Str}{i:Int}{ks:N}(h:VV (.n kFuncLit t i ks)):∃ l,ks=.two .ftype (.block l):=by
 generalize hn:N.n kFuncLit t i ks=n at h
 cases h with
 | v k n h =>
   cases h with
   | flit l hl=>simp only[N.part,N.n.injEq]at hn;obtain⟨-,rfl,rfl,rfl⟩:=hn;exact⟨l,rfl⟩
   | _=>exfalso;revert hn;simp[N.part,N.block,kIdent,kLit,kFuncLit,kParen,kCall,kUn,kBin,kExprS,kAssign,kInc,kIf,kFor,kRange,kSwitch,kSelect,kBranch,kReturn,kBlock,kLabeled,kCase,kComm,kFuncType,kFieldList,kFuncDecl]
 | _=>exfalso;revert hn;simp[N.part,N.block,N.ftype,kIdent,kLit,kFuncLit,kParen,kCall,kUn,kBin,kExprS,kAssign,kInc,kIf,kFor,kRange,kSwitch,kSelect,kBranch,kReturn,kBlock,kLabeled,kCase,kComm,kFuncType,kFieldList,kFuncDecl]
theorem VV_select{t:Str}{i:Int}{ks:N}(h:VV (.n kSelect t i ks)):∃ l,ks=.one (.block l):=by
 generalize hn:N.n kSelect t i ks=n at h
 cases h with
 | v k n h =>
   cases h with
   | select l hl=>simp only[N.part,N.n.injEq]at hn;obtain⟨-,rfl,rfl,rfl⟩:=hn;exact⟨l,rfl⟩
   | _=>exfalso;revert hn;simp[N.part,N.block,kIdent,kLit,kFuncLit,kParen,kCall,kUn,kBin,kExprS,kAssign,kInc,kIf,kFor,kRange,kSwitch,kSelect,kBranch,kReturn,kBlock,kLabeled,kCase,kComm,kFuncType,kFieldList,kFuncDecl]
 | _=>exfalso;revert hn;simp[N.part,N.block,N.ftype,kIdent,kLit,kFuncLit,kParen,kCall,kUn,kBin,kExprS,kAssign,kInc,kIf,kFor,kRange,kSwitch,kSelect,kBranch,kReturn,kBlock,kLabeled,kCase,kComm,kFuncType,kFieldList,kFuncDecl]
theorem VV_switch{t:Str}{i:Int}{ks:N}(h:VV (.n kSwitch t i ks)):∃ k x l,isEk k∧V (.k k) x∧ks=.three .none x (.block l):=by
 generalize hn:N.n kSwitch t i ks=n at h
 cases h with
 | v k n h =>
   cases h with
   | switch k x l hk hx hl=>simp only[N.part,N.n.injEq]at hn;obtain⟨-,rfl,rfl,rfl⟩:=hn;exact⟨k,x,l,hk,hx,rfl⟩
   | _=>exfalso;revert hn;simp[N.part,N.block,kIdent,kLit,kFuncLit,kParen,kCall,kUn,kBin,kExprS,kAssign,kInc,kIf,kFor,kRange,kSwitch,kSelect,kBranch,kReturn,kBlock,kLabeled,kCase,kComm,kFuncType,kFieldList,kFuncDecl]
 | _=>exfalso;revert hn;simp[N.part,N.block,N.ftype,kIdent,kLit,kFuncLit,kParen,kCall,kUn,kBin,kExprS,kAssign,kInc,kIf,kFor,kRange,kSwitch,kSelect,kBranch,kReturn,kBlock,kLabeled,kCase,kComm,kFuncType,kFieldList,kFuncDecl]
theorem VV_for_{t:Str}{i:Int}{ks:N}(h:VV (.n kFor t i ks)):∃ k x l,isEk k∧V (.k k) x∧ks=.four .none x .none (.block l):=by
 generalize hn:N.n kFor t i ks=n at h
 cases h with
 | v k n h =>
   cases h with
   | for_ k x l hk hx hl=>simp only[N.part,N.n.injEq]at hn;obtain⟨-,rfl,rfl,rfl⟩:=hn;exact⟨k,x,l,hk,hx,rfl⟩
   | _=>exfalso;revert hn;simp[N.part,N.block,kIdent,kLit,kFuncLit,kParen,kCall,kUn,kBin,kExprS,kAssign,kInc,kIf,kFor,kRange,kSwitch,kSelect,kBranch,kReturn,kBlock,kLabeled,kCase,kComm,kFuncType,kFieldList,kFuncDecl]
 | _=>exfalso;revert hn;simp[N.part,N.block,N.ftype,kIdent,kLit,kFuncLit,kParen,kCall,kUn,kBin,kExprS,kAssign,kInc,kIf,kFor,kRange,kSwitch,kSelect,kBranch,kReturn,kBlock,kLabeled,kCase,kComm,kFuncType,kFieldList,kFuncDecl]
theorem VV_range{t:Str}{i:Int}{ks:N}(h:VV (.n kRange t i ks)):∃ k x l,isEk k∧V (.k k) x∧ks=.four .none .none x (.block l):=by
 generalize hn:N.n kRange t i ks=n at h
 cases h with
 | v k n h =>
   cases h with
   | range k x l hk hx hl=>simp only[N.part,N.n.injEq]at hn;obtain⟨-,rfl,rfl,rfl⟩:=hn;exact⟨k,x,l,hk,hx,rfl⟩
   | _=>exfalso;revert hn;simp[N.part,N.block,kIdent,kLit,kFuncLit,kParen,kCall,kUn,kBin,kExprS,kAssign,kInc,kIf,kFor,kRange,kSwitch,kSelect,kBranch,kReturn,kBlock,kLabeled,kCase,kComm,kFuncType,kFieldList,kFuncDecl]
 | _=>exfalso;revert hn;simp[N.part,N.block,N.ftype,kIdent,kLit,kFuncLit,kParen,kCall,kUn,kBin,kExprS,kAssign,kInc,kIf,kFor,kRange,kSwitch,kSelect,kBranch,kReturn,kBlock,kLabeled,kCase,kComm,kFuncType,kFieldList,kFuncDecl]
theorem VV_if_{t:Str}{i:Int}{ks:N}(h:VV (.n kIf t i ks)):∃ k x l y,isEk k∧V (.k k) x∧ks=.four .none x (.block l) y∧(y=.none∨∃ k2,isSk k2∧V (.k k2) y):=by
 generalize hn:N.n kIf t i ks=n at h
 cases h with
 | v k n h =>
   cases h with
   | ifNo k x l hk hx hl=>simp only[N.part,N.n.injEq]at hn;obtain⟨-,rfl,rfl,rfl⟩:=hn;exact⟨k,x,l,_,hk,hx,rfl,.inl rfl⟩
   | ifElse k k2 x l y hk hks hx hl hy=>simp only[N.part,N.n.injEq]at hn;obtain⟨-,rfl,rfl,rfl⟩:=hn;exact⟨k,x,l,y,hk,hx,rfl,.inr ⟨k2,hks,hy⟩⟩
   | _=>exfalso;revert hn;simp[N.part,N.block,kIdent,kLit,kFuncLit,kParen,kCall,kUn,kBin,kExprS,kAssign,kInc,kIf,kFor,kRange,kSwitch,kSelect,kBranch,kReturn,kBlock,kLabeled,kCase,kComm,kFuncType,kFieldList,kFuncDecl]
 | _=>exfalso;revert hn;simp[N.part,N.block,N.ftype,kIdent,kLit,kFuncLit,kParen,kCall,kUn,kBin,kExprS,kAssign,kInc,kIf,kFor,kRange,kSwitch,kSelect,kBranch,kReturn,kBlock,kLabeled,kCase,kComm,kFuncType,kFieldList,kFuncDecl]
theorem VV_branch{t:Str}{i:Int}{ks:N}(h:VV (.n kBranch t i ks)):(t=sBreak∨t=sContinue)∧(ks=.one .none∨∃ x,V (.k .ident) x∧ks=.one x):=by
 generalize hn:N.n kBranch t i ks=n at h
 cases h with
 | v k n h =>
   cases h with
   | branch op h=>simp only[N.part,N.n.injEq]at hn;obtain⟨-,rfl,rfl,rfl⟩:=hn;exact⟨h,.inl rfl⟩
   | branchTo op h x hx=>simp only[N.part,N.n.injEq]at hn;obtain⟨-,rfl,rfl,rfl⟩:=hn;exact⟨h,.inr ⟨x,hx,rfl⟩⟩
   | _=>exfalso;revert hn;simp[N.part,N.block,kIdent,kLit,kFuncLit,kParen,kCall,kUn,kBin,kExprS,kAssign,kInc,kIf,kFor,kRange,kSwitch,kSelect,kBranch,kReturn,kBlock,kLabeled,kCase,kComm,kFuncType,kFieldList,kFuncDecl]
 | _=>exfalso;revert hn;simp[N.part,N.block,N.ftype,kIdent,kLit,kFuncLit,kParen,kCall,kUn,kBin,kExprS,kAssign,kInc,kIf,kFor,kRange,kSwitch,kSelect,kBranch,kReturn,kBlock,kLabeled,kCase,kComm,kFuncType,kFieldList,kFuncDecl]
theorem VV_bin{t:Str}{i:Int}{ks:N}(h:VV (.n kBin t i ks)):V (.k .bin) (.n kBin t i ks):=by
 generalize hn:N.n kBin t i ks=n at h
 cases h with
 | v k n h =>
   have hk:k=.bin:=by
    cases h<;>first | rfl | (exfalso;revert hn;simp[N.part,N.block,kIdent,kLit,kFuncLit,kParen,kCall,kUn,kBin,kExprS,kAssign,kInc,kIf,kFor,kRange,kSwitch,kSelect,kBranch,kReturn,kBlock,kLabeled,kCase,kComm,kFuncType,kFieldList,kFuncDecl])
   subst hk
   exact h
 | _=>exfalso;revert hn;simp[N.part,N.block,N.ftype,kIdent,kLit,kFuncLit,kParen,kCall,kUn,kBin,kExprS,kAssign,kInc,kIf,kFor,kRange,kSwitch,kSelect,kBranch,kReturn,kBlock,kLabeled,kCase,kComm,kFuncType,kFieldList,kFuncDecl]
theorem V_kind{k:K}{n:N}(h:V (.k k) n):∃ t i ks,n=.n k.str t i ks:=by
 cases h<;>exact⟨_,_,_,rfl⟩
theorem csem_n(k:K)(text:Str)(num:Int)(o:Option Addr)(b:Nat)(f0 f1 f2 f3:A)(s:CS)(hk:k.real)(h:Go.Proofs.YtleolbpibjnedaaGreat.nilK k=false):A.csem (.n k text num o b f0 f1 f2 f3) s=(match k.arity with
 | 0=>gstep (.n k text num o b f0 f1 f2 f3) s
 | 1=>f0.csem (gstep (.n k text num o b f0 f1 f2 f3) s)
 | 2=>f1.csem (f0.csem (gstep (.n k text num o b f0 f1 f2 f3) s))
 | 3=>f2.csem (f1.csem (f0.csem (gstep (.n k text num o b f0 f1 f2 f3) s)))
 | _=>f3.csem (f2.csem (f1.csem (f0.csem (gstep (.n k text num o b f0 f1 f2 f3) s))))):=by
 cases k<;>first | rfl | exact hk.elim | cases h
theorem gpa_n(k:K)(text:Str)(num:Int)(o:Option Addr)(b:Nat)(f0 f1 f2 f3:A)(s:CS)(hk:k.real)(h:GPA (.n k text num o b f0 f1 f2 f3) s) :
 (0<k.arity→GPA f0 (gstep (.n k text num o b f0 f1 f2 f3) s))∧(1<k.arity→GPA f1 (f0.csem (gstep (.n k text num o b f0 f1 f2 f3) s)))∧(2<k.arity→GPA f2 (f1.csem (f0.csem (gstep (.n k text num o b f0 f1 f2 f3) s)))) ∧
 (3<k.arity→GPA f3 (f2.csem (f1.csem (f0.csem (gstep (.n k text num o b f0 f1 f2 f3) s))))):=by
 have hg:=gstep_len k text num o b f0 f1 f2 f3 s
 have hkk:k.cwn=k.arity:=by cases k<;>first | rfl | exact hk.elim
 unfold GPA at h ⊢
 simp only[A.cw,hkk]at h
 have g0:=csem_len f0 (gstep (.n k text num o b f0 f1 f2 f3) s)
 have g1:=csem_len f1 (f0.csem (gstep (.n k text num o b f0 f1 f2 f3) s))
 have g2:=csem_len f2 (f1.csem (f0.csem (gstep (.n k text num o b f0 f1 f2 f3) s)))
 generalize (match k with | .none=>0 | .list=>0 | .bin=>(f0.ops.length+1+f1.ops.length) | _=>2)=z at h hg
 generalize k.arity=m at h ⊢
 refine⟨fun q=>?_,fun q=>?_,fun q=>?_,fun q=>?_⟩
 · simp only[q,if_true]at h;omega
 · simp only[q,show 0<m by omega,if_true]at h;omega
 · simp only[q,show 0<m by omega,show 1<m by omega,if_true]at h;omega
 · simp only[q,show 0<m by omega,show 1<m by omega,show 2<m by omega,if_true]at h;omega
end Gc
namespace Go.Proofs.YtleolbpibjnedaaGreat
open Go Go.RowKit Gc
theorem kid_of{a:A}{k:K}{t:Str}{i:Int}{ks:N}(h:a.N=.n k.str t i ks):a.isn∧a.K=k:=by
 obtain⟨_,_,_,_,_,_,rfl,-⟩:=A_of_N h
 exact⟨trivial,rfl⟩
theorem own_flit{vb B:Nat}{nm:Value}(text:Str)(num:Int)(o:Option Addr)(b:Nat)(f0 f1 f2 f3:A)(hv:VV (A.n .flit text num o b f0 f1 f2 f3).N)(hc:ChildOk 168 (.pointer (some ⟨vb,0,none⟩)) (fun b=>B≤b) (GInv vb B nm) A.csem GPA .flit f0 f1 f2 f3):WalkOk 168 (.pointer (some ⟨vb,0,none⟩)) (fun b=>B≤b) (GInv vb B nm) A.csem GPA (.n .flit text num o b f0 f1 f2 f3):=by
 obtain⟨ks,hN⟩:∃ ks,(A.n .flit text num o b f0 f1 f2 f3).N=.n kFuncLit text num ks:=⟨_,rfl⟩
 rw[hN]at hv
 obtain⟨l,rfl⟩:=VV_flit hv
 have e0:f0.N=.ftype:=congrArg (fun x=>match x with | Gc.N.n _ _ _ (.cons y _)=>y | _=>.nil) hN
 obtain⟨i0,m0⟩:=kid_of (k:=.ftype) e0
 have W0:=(hc f0 (.inl ⟨rfl,by decide⟩)).2.resolve_left (by rw[m0];intro h;cases h)
 have e1:f1.N=.block l:=congrArg (fun x=>match x with | Gc.N.n _ _ _ (.cons _ (.cons y _))=>y | _=>.nil) hN
 obtain⟨i1,m1⟩:=kid_of (k:=.block) e1
 have W1:=(hc f1 (.inr (.inl ⟨rfl,by decide⟩))).2.resolve_left (by rw[m1];intro h;cases h)
 intro w D v s pa hR hD hI
 have hD':∀ b,D b→b<B:=fun b hb=>by have:=hD b hb;omega
 obtain⟨b',rfl,-⟩:=iface_of (k:=.flit) rfl trivial hR
 have eb:b'=b:=by
  simp only[A.g,if_true]at hR
  obtain⟨cs,rs,e,_⟩:=hR
  simp only[ptrVal,List.cons.injEq,Value.iface.injEq,Value.pointer.injEq,Option.some.injEq,Addr.mk.injEq,and_true,true_and]at e
  exact e.1
 subst eb
 exact walk_nil (gv_flit (visit_flit hI D b' _ _ _ f0 f1 f2 f3 i0 m0 W0 i1 m1 W1 hR hD' pa))
theorem own_select{vb B:Nat}{nm:Value}(text:Str)(num:Int)(o:Option Addr)(b:Nat)(f0 f1 f2 f3:A)(hv:VV (A.n .select text num o b f0 f1 f2 f3).N)(hc:ChildOk 168 (.pointer (some ⟨vb,0,none⟩)) (fun b=>B≤b) (GInv vb B nm) A.csem GPA .select f0 f1 f2 f3):WalkOk 168 (.pointer (some ⟨vb,0,none⟩)) (fun b=>B≤b) (GInv vb B nm) A.csem GPA (.n .select text num o b f0 f1 f2 f3):=by
 obtain⟨ks,hN⟩:∃ ks,(A.n .select text num o b f0 f1 f2 f3).N=.n kSelect text num ks:=⟨_,rfl⟩
 rw[hN]at hv
 obtain⟨l,rfl⟩:=VV_select hv
 have e0:f0.N=.block l:=congrArg (fun x=>match x with | Gc.N.n _ _ _ (.cons y _)=>y | _=>.nil) hN
 obtain⟨i0,m0⟩:=kid_of (k:=.block) e0
 have W0:=(hc f0 (.inl ⟨rfl,by decide⟩)).2.resolve_left (by rw[m0];intro h;cases h)
 intro w D v s pa hR hD hI
 have hD':∀ b,D b→b<B:=fun b hb=>by have:=hD b hb;omega
 obtain⟨b',rfl,-⟩:=iface_of (k:=.select) rfl trivial hR
 have eb:b'=b:=by
  simp only[A.g,if_true]at hR
  obtain⟨cs,rs,e,_⟩:=hR
  simp only[ptrVal,List.cons.injEq,Value.iface.injEq,Value.pointer.injEq,Option.some.injEq,Addr.mk.injEq,and_true,true_and]at e
  exact e.1
 subst eb
 exact walk_nil (gv_select (visit_select hI D b' _ _ _ f0 f1 f2 f3 i0 m0 W0 hR hD' pa))
theorem own_switch{vb B:Nat}{nm:Value}(text:Str)(num:Int)(o:Option Addr)(b:Nat)(f0 f1 f2 f3:A)(hv:VV (A.n .switch text num o b f0 f1 f2 f3).N)(hc:ChildOk 168 (.pointer (some ⟨vb,0,none⟩)) (fun b=>B≤b) (GInv vb B nm) A.csem GPA .switch f0 f1 f2 f3):WalkOk 168 (.pointer (some ⟨vb,0,none⟩)) (fun b=>B≤b) (GInv vb B nm) A.csem GPA (.n .switch text num o b f0 f1 f2 f3):=by
 obtain⟨ks,hN⟩:∃ ks,(A.n .switch text num o b f0 f1 f2 f3).N=.n kSwitch text num ks:=⟨_,rfl⟩
 rw[hN]at hv
 obtain⟨k0,x,l,hk,hx,rfl⟩:=VV_switch hv
 have e0:f0.N=Gc.N.none:=congrArg (fun x=>match x with | Gc.N.n _ _ _ (.cons y _)=>y | _=>.nil) hN
 obtain⟨i0,m0⟩:=W_none e0
 have e1:f1.N=x:=congrArg (fun x=>match x with | Gc.N.n _ _ _ (.cons _ (.cons y _))=>y | _=>.nil) hN
 obtain⟨t1,n1,q1,rfl⟩:=V_kind hx
 obtain⟨i1,m1⟩:=kid_of e1
 have W1:=(hc f1 (.inr (.inl ⟨rfl,by decide⟩))).2.resolve_left (by rw[m1];intro h;subst h;exact hk.elim)
 have e2:f2.N=.block l:=congrArg (fun x=>match x with | Gc.N.n _ _ _ (.cons _ (.cons _ (.cons y _)))=>y | _=>.nil) hN
 obtain⟨i2,m2⟩:=kid_of (k:=.block) e2
 have W2:=(hc f2 (.inr (.inr (.inl ⟨rfl,by decide⟩)))).2.resolve_left (by rw[m2];intro h;cases h)
 intro w D v s pa hR hD hI
 have hD':∀ b,D b→b<B:=fun b hb=>by have:=hD b hb;omega
 obtain⟨b',rfl,-⟩:=iface_of (k:=.switch) rfl trivial hR
 have eb:b'=b:=by
  simp only[A.g,if_true]at hR
  obtain⟨cs,rs,e,_⟩:=hR
  simp only[ptrVal,List.cons.injEq,Value.iface.injEq,Value.pointer.injEq,Option.some.injEq,Addr.mk.injEq,and_true,true_and]at e
  exact e.1
 subst eb
 exact walk_nil (gv_switch (visit_switch hI D b' _ _ _ f0 f1 f2 f3 i0 m0 i1 k0 (realE hk) m1 W1 i2 m2 W2 hR hD' pa))
theorem own_for_{vb B:Nat}{nm:Value}(text:Str)(num:Int)(o:Option Addr)(b:Nat)(f0 f1 f2 f3:A)(hv:VV (A.n .for_ text num o b f0 f1 f2 f3).N)(hc:ChildOk 168 (.pointer (some ⟨vb,0,none⟩)) (fun b=>B≤b) (GInv vb B nm) A.csem GPA .for_ f0 f1 f2 f3):WalkOk 168 (.pointer (some ⟨vb,0,none⟩)) (fun b=>B≤b) (GInv vb B nm) A.csem GPA (.n .for_ text num o b f0 f1 f2 f3):=by
 obtain⟨ks,hN⟩:∃ ks,(A.n .for_ text num o b f0 f1 f2 f3).N=.n kFor text num ks:=⟨_,rfl⟩
 rw[hN]at hv
 obtain⟨k0,x,l,hk,hx,rfl⟩:=VV_for_ hv
 have e0:f0.N=Gc.N.none:=congrArg (fun x=>match x with | Gc.N.n _ _ _ (.cons y _)=>y | _=>.nil) hN
 obtain⟨i0,m0⟩:=W_none e0
 have e1:f1.N=x:=congrArg (fun x=>match x with | Gc.N.n _ _ _ (.cons _ (.cons y _))=>y | _=>.nil) hN
 obtain⟨t1,n1,q1,rfl⟩:=V_kind hx
 obtain⟨i1,m1⟩:=kid_of e1
 have W1:=(hc f1 (.inr (.inl ⟨rfl,by decide⟩))).2.resolve_left (by rw[m1];intro h;subst h;exact hk.elim)
 have e2:f2.N=Gc.N.none:=congrArg (fun x=>match x with | Gc.N.n _ _ _ (.cons _ (.cons _ (.cons y _)))=>y | _=>.nil) hN
 obtain⟨i2,m2⟩:=W_none e2
 have e3:f3.N=.block l:=congrArg (fun x=>match x with | Gc.N.n _ _ _ (.cons _ (.cons _ (.cons _ (.cons y _))))=>y | _=>.nil) hN
 obtain⟨i3,m3⟩:=kid_of (k:=.block) e3
 have W3:=(hc f3 (.inr (.inr (.inr ⟨rfl,by decide⟩)))).2.resolve_left (by rw[m3];intro h;cases h)
 intro w D v s pa hR hD hI
 have hD':∀ b,D b→b<B:=fun b hb=>by have:=hD b hb;omega
 obtain⟨b',rfl,-⟩:=iface_of (k:=.for_) rfl trivial hR
 have eb:b'=b:=by
  simp only[A.g,if_true]at hR
  obtain⟨cs,rs,e,_⟩:=hR
  simp only[ptrVal,List.cons.injEq,Value.iface.injEq,Value.pointer.injEq,Option.some.injEq,Addr.mk.injEq,and_true,true_and]at e
  exact e.1
 subst eb
 exact walk_nil (gv_for_ (visit_for_ hI D b' _ _ _ f0 f1 f2 f3 i0 m0 i1 k0 (realE hk) m1 W1 i2 m2 i3 m3 W3 hR hD' pa))
theorem own_range{vb B:Nat}{nm:Value}(text:Str)(num:Int)(o:Option Addr)(b:Nat)(f0 f1 f2 f3:A)(hv:VV (A.n .range text num o b f0 f1 f2 f3).N)(hc:ChildOk 168 (.pointer (some ⟨vb,0,none⟩)) (fun b=>B≤b) (GInv vb B nm) A.csem GPA .range f0 f1 f2 f3):WalkOk 168 (.pointer (some ⟨vb,0,none⟩)) (fun b=>B≤b) (GInv vb B nm) A.csem GPA (.n .range text num o b f0 f1 f2 f3):=by
 obtain⟨ks,hN⟩:∃ ks,(A.n .range text num o b f0 f1 f2 f3).N=.n kRange text num ks:=⟨_,rfl⟩
 rw[hN]at hv
 obtain⟨k0,x,l,hk,hx,rfl⟩:=VV_range hv
 have e0:f0.N=Gc.N.none:=congrArg (fun x=>match x with | Gc.N.n _ _ _ (.cons y _)=>y | _=>.nil) hN
 obtain⟨i0,m0⟩:=W_none e0
 have e1:f1.N=Gc.N.none:=congrArg (fun x=>match x with | Gc.N.n _ _ _ (.cons _ (.cons y _))=>y | _=>.nil) hN
 obtain⟨i1,m1⟩:=W_none e1
 have e2:f2.N=x:=congrArg (fun x=>match x with | Gc.N.n _ _ _ (.cons _ (.cons _ (.cons y _)))=>y | _=>.nil) hN
 obtain⟨t2,n2,q2,rfl⟩:=V_kind hx
 obtain⟨i2,m2⟩:=kid_of e2
 have W2:=(hc f2 (.inr (.inr (.inl ⟨rfl,by decide⟩)))).2.resolve_left (by rw[m2];intro h;subst h;exact hk.elim)
 have e3:f3.N=.block l:=congrArg (fun x=>match x with | Gc.N.n _ _ _ (.cons _ (.cons _ (.cons _ (.cons y _))))=>y | _=>.nil) hN
 obtain⟨i3,m3⟩:=kid_of (k:=.block) e3
 have W3:=(hc f3 (.inr (.inr (.inr ⟨rfl,by decide⟩)))).2.resolve_left (by rw[m3];intro h;cases h)
 intro w D v s pa hR hD hI
 have hD':∀ b,D b→b<B:=fun b hb=>by have:=hD b hb;omega
 obtain⟨b',rfl,-⟩:=iface_of (k:=.range) rfl trivial hR
 have eb:b'=b:=by
  simp only[A.g,if_true]at hR
  obtain⟨cs,rs,e,_⟩:=hR
  simp only[ptrVal,List.cons.injEq,Value.iface.injEq,Value.pointer.injEq,Option.some.injEq,Addr.mk.injEq,and_true,true_and]at e
  exact e.1
 subst eb
 exact walk_nil (gv_range (visit_range hI D b' _ _ _ f0 f1 f2 f3 i0 m0 i1 m1 i2 k0 (realE hk) m2 W2 i3 m3 W3 hR hD' pa))
theorem own_if_{vb B:Nat}{nm:Value}(text:Str)(num:Int)(o:Option Addr)(b:Nat)(f0 f1 f2 f3:A)(hv:VV (A.n .if_ text num o b f0 f1 f2 f3).N)(hc:ChildOk 168 (.pointer (some ⟨vb,0,none⟩)) (fun b=>B≤b) (GInv vb B nm) A.csem GPA .if_ f0 f1 f2 f3):WalkOk 168 (.pointer (some ⟨vb,0,none⟩)) (fun b=>B≤b) (GInv vb B nm) A.csem GPA (.n .if_ text num o b f0 f1 f2 f3):=by
 obtain⟨ks,hN⟩:∃ ks,(A.n .if_ text num o b f0 f1 f2 f3).N=.n kIf text num ks:=⟨_,rfl⟩
 rw[hN]at hv
 obtain⟨k0,x,l,y,hk,hx,rfl,hy⟩:=VV_if_ hv
 have e0:f0.N=Gc.N.none:=congrArg (fun x=>match x with | Gc.N.n _ _ _ (.cons y _)=>y | _=>.nil) hN
 obtain⟨i0,m0⟩:=W_none e0
 have e1:f1.N=x:=congrArg (fun x=>match x with | Gc.N.n _ _ _ (.cons _ (.cons y _))=>y | _=>.nil) hN
 obtain⟨t1,n1,q1,rfl⟩:=V_kind hx
 obtain⟨i1,m1⟩:=kid_of e1
 have W1:=(hc f1 (.inr (.inl ⟨rfl,by decide⟩))).2.resolve_left (by rw[m1];intro h;subst h;exact hk.elim)
 have e2:f2.N=.block l:=congrArg (fun x=>match x with | Gc.N.n _ _ _ (.cons _ (.cons _ (.cons y _)))=>y | _=>.nil) hN
 obtain⟨i2,m2⟩:=kid_of (k:=.block) e2
 have W2:=(hc f2 (.inr (.inr (.inl ⟨rfl,by decide⟩)))).2.resolve_left (by rw[m2];intro h;cases h)
 have e3:f3.N=y:=congrArg (fun x=>match x with | Gc.N.n _ _ _ (.cons _ (.cons _ (.cons _ (.cons y _))))=>y | _=>.nil) hN
 intro w D v s pa hR hD hI
 have hD':∀ b,D b→b<B:=fun b hb=>by have:=hD b hb;omega
 obtain⟨b',rfl,-⟩:=iface_of (k:=.if_) rfl trivial hR
 have eb:b'=b:=by
  simp only[A.g,if_true]at hR
  obtain⟨cs,rs,e,_⟩:=hR
  simp only[ptrVal,List.cons.injEq,Value.iface.injEq,Value.pointer.injEq,Option.some.injEq,Addr.mk.injEq,and_true,true_and]at e
  exact e.1
 subst eb
 rcases hy with rfl|⟨k3,hk3,hy⟩
 · obtain⟨i3,m3⟩:=W_none e3
   exact walk_nil (gv_if_ (visit_if__none hI D b' _ _ _ f0 f1 f2 f3 i0 m0 i1 k0 (realE hk) m1 W1 i2 m2 W2 i3 m3 hR hD' pa))
 · obtain⟨t3,n3,q3,rfl⟩:=V_kind hy
   obtain⟨i3,m3⟩:=kid_of e3
   have W3:=(hc f3 (.inr (.inr (.inr ⟨rfl,by decide⟩)))).2.resolve_left (by rw[m3];intro h;subst h;exact hk3.elim)
   by_cases h1:k3=.block
   · subst h1
     exact walk_nil (gv_if_ (visit_if__else hI D b' _ _ _ f0 f1 f2 f3 i0 m0 i1 k0 (realE hk) m1 W1 i2 m2 W2 i3 m3 W3 hR hD' pa))
   · by_cases h2:k3=.if_
     · subst h2
       exact walk_nil (gv_if_ (visit_if__chain hI D b' _ _ _ f0 f1 f2 f3 i0 m0 i1 k0 (realE hk) m1 W1 i2 m2 W2 i3 m3 W3 hR hD' pa))
     · exact walk_nil (gv_if_ (visit_if__other hI D b' _ _ _ f0 f1 f2 f3 i0 m0 i1 k0 (realE hk) m1 W1 i2 m2 W2 i3 k3 (realS hk3) ⟨h1,h2⟩ m3 hR hD' pa))
theorem tok_break:tokOf sBreak=44:=by decide
theorem tok_continue:tokOf sContinue=46:=by decide
theorem cog_visit{vb B:Nat}{nm:Value}(a:A)(w:World)(D:Nat→Prop)(v:Value)(s:CS)(hv:VV a.N)(pa:GPA a s)(hk:nilK a.K=false)(hR:Rep w D (a.g 1 .fin) [v])(hD:∀ b,D b→¬ B≤b)(hI:GInv vb B nm s w) :
 Calls Tryz.prog 139 #[.pointer (some ⟨vb,0,none⟩),v] w (VisR vb B nm (gstep a s) w (gSelf vb)):=by
 obtain⟨k,t,i,ks,hkr,hN,hb⟩:=VV_form hv
 obtain⟨o,b,f0,f1,f2,f3,rfl,hN'⟩:=A_of_N hN
 have hD':∀ b,D b→b<B:=fun b hb=>by have:=hD b hb;omega
 have hpa:s.ds.length+(A.n k t i o b f0 f1 f2 f3).cw≤10000:=pa
 simp only[A.cw]at hpa
 obtain⟨b',rfl,hkey,hbD⟩:=key_rep (k:=k) rfl hkr hR hD'
 have eb:b'=b:=by
  cases k<;>first
   | exact hkr.elim
   | (simp only[A.g,if_true]at hR;obtain⟨cs,rs,e,_⟩:=hR;simp only[ptrVal,List.cons.injEq,Value.iface.injEq,Value.pointer.injEq,Option.some.injEq,Addr.mk.injEq,and_true,true_and]at e;exact e.1)
 subst eb
 by_cases h1:k=.branch
 · subst h1
   rw[hN']at hv
   obtain⟨ht,hks⟩:=VV_branch hv
   have htk:tokOf t=44∨tokOf t=46:=by
    rcases ht with rfl|rfl
    · exact .inl tok_break
    · exact .inr tok_continue
   rcases hks with rfl|⟨x,hx,rfl⟩
   · have e0:f0.N=Gc.N.none:=congrArg (fun x=>match x with | Gc.N.n _ _ _ (.cons y _)=>y | _=>.nil) hN'
     obtain⟨i0,m0⟩:=W_none e0
     obtain⟨-,-,v0,ho,r0⟩:=open_branch (m:=1) (.inr rfl) i0 hR
     obtain rfl:=none_of0 i0 m0 r0
     have es:gstep (.n .branch t i o b' f0 f1 f2 f3) s=s:=by
      cases f0 with
      | nil=>exact i0.elim
      | cons=>exact i0.elim
      | n k0=>cases m0;rfl
     rw[es]
     exact gv_branch (visit_branch_no hI b' _ ho)
   · have e0:f0.N=x:=congrArg (fun x=>match x with | Gc.N.n _ _ _ (.cons y _)=>y | _=>.nil) hN'
     obtain⟨t0,n0,q0,rfl⟩:=V_kind hx
     obtain⟨i0,m0⟩:=kid_of e0
     obtain⟨-,-,v0,ho,r0⟩:=open_branch (m:=1) (.inr rfl) i0 hR
     obtain⟨b0,rfl,-⟩:=ptr_of m0 trivial r0
     have es:gstep (.n .branch t i o b' f0 f1 f2 f3) s=s.add ⟨1,0,tokText (tokOf t),posK .branch b'⟩:=by
      cases f0 with
      | nil=>exact i0.elim
      | cons=>exact i0.elim
      | n k0=>cases m0;rfl
     rw[es]
     exact gv_branch (visit_branch_to hI b' _ htk ⟨b0,0,none⟩ ho hkey (by omega))
 by_cases h2:k=.bin
 · subst h2
   simp(config:={decide:=true}) only[K.cwn,K.arity,if_true,if_false]at hpa
   obtain⟨hop,p,q,hks,hp,hq⟩:=hb rfl
   subst hks
   rw[hN']at hv
   have hV:=VV_bin hv
   have e0:f0.N=p:=congrArg (fun x=>match x with | Gc.N.n _ _ _ (.cons y _)=>y | _=>.nil) hN'
   have e1:f1.N=q:=congrArg (fun x=>match x with | Gc.N.n _ _ _ (.cons _ (.cons y _))=>y | _=>.nil) hN'
   have i0:f0.isn:=isn_of_N (by rw[e0];exact hp)
   have i1:f1.isn:=isn_of_N (by rw[e1];exact hq)
   have hC:CollOk (.n .bin t i o b' f0 f1 f2 f3):=coll_any hV trivial _ hN'
   have hob:=ops_bin t i o b' f0 f1 f2 f3
   by_cases hc:isLg (tokOf t)=true∧s.cal K.bin.pty b'=false
   · have es:gstep (.n .bin t i o b' f0 f1 f2 f3) s=CS.runs (posK .bin b') (A.n .bin t i o b' f0 f1 f2 f3).ops 0 ((A.n .bin t i o b' f0 f1 f2 f3).coll s):=by simp only[gstep,hc.1,hc.2,and_self,if_true]
     rw[es]
     exact gv_bin (visit_bin_yes hI D b' t i o f0 f1 f2 f3 i0 i1 hC hR hD' hc.1 hc.2 (by omega))
   · have es:gstep (.n .bin t i o b' f0 f1 f2 f3) s=s:=by simp only[gstep,hc,if_false]
     rw[es]
     obtain⟨-,-,v0,v1,ho,-,-⟩:=open_bin (m:=1) (.inr rfl) i0 i1 hR
     refine gv_bin (visit_bin_no hI b' _ v0 v1 ho hkey ?_)
     cases h3:isLg (tokOf t)
     · exact .inl rfl
     · refine .inr ?_
       cases h4:s.cal K.bin.pty b'
       · exact absurd ⟨h3,h4⟩ hc
       · rfl
 · have es:gstep (.n k t i o b' f0 f1 f2 f3) s=s:=by cases k<;>first | rfl | exact absurd rfl h1 | exact absurd rfl h2
   rw[es]
   refine(gv_other vb k.pty b' ?_ w).mono fun e w' h=>by obtain⟨h5,h6⟩:=h;subst h6;exact⟨h5,hI,Kept.refl _ _⟩
   cases k<;>first | exact absurd rfl h1 | exact absurd rfl h2 | exact hkr.elim | (cases hk;done) | decide
theorem cog_vis(vb B:Nat)(nm:Value):Vis CS 168 (.pointer (some ⟨vb,0,none⟩)) 139 (.pointer (some ⟨vb,0,none⟩)) (fun b=>B≤b) (GInv vb B nm) A.csem gstep GPA (fun k=>!nilK k) where
 meth:=meth_cog _
 ent:=ent_cog
 visit:=fun a w D v s hv pa hk hR hD hI=>cog_visit a w D v s hv pa (by simpa using hk) hR hD hI
 leave:=fun w s hI=>(gv_nil vb w).mono fun e w' h=>by obtain⟨h1,h2⟩:=h;subst h2;exact⟨h1,hI,Kept.refl _ _⟩
 her_c:=fun h t s q=>by
  have q':s.ds.length+(A.cons h t).cw≤10000:=q
  simp only[A.cw]at q'
  have:=csem_len h s
  exact⟨by unfold GPA;omega,by unfold GPA;omega⟩
 her_n:=fun k text num o b f0 f1 f2 f3 s hk _ q=>gpa_n k text num o b f0 f1 f2 f3 s hk q
 her_l:=fun text num o b f0 f1 f2 f3 s q=>by
  have q':s.ds.length+(A.n .list text num o b f0 f1 f2 f3).cw≤10000:=q
  simp(config:={decide:=true}) only[A.cw,K.cwn,K.arity,if_true,if_false]at q'
  unfold GPA
  omega
 sk:=fun k h=>by simp[h]
 sem_nil:=fun _=>rfl
 sem_cons:=fun _ _ _=>rfl
 sem_none:=fun _ _ _ _ _ _ _ _ _=>rfl
 sem_list:=fun _ _ _ _ _ _ _ _ _=>rfl
 sem_n:=fun k text num o b f0 f1 f2 f3 s hk h=>csem_n k text num o b f0 f1 f2 f3 s hk (by simpa using h)
 own:=fun k text num o b f0 f1 f2 f3 h hv hc=>by
  cases k
  case flit=>exact own_flit _ _ _ _ _ _ _ _ hv hc
  case select=>exact own_select _ _ _ _ _ _ _ _ hv hc
  case switch=>exact own_switch _ _ _ _ _ _ _ _ hv hc
  case for_=>exact own_for_ _ _ _ _ _ _ _ _ hv hc
  case range=>exact own_range _ _ _ _ _ _ _ _ hv hc
  case if_=>exact own_if_ _ _ _ _ _ _ _ _ hv hc
  all_goals cases h
end Go.Proofs.YtleolbpibjnedaaGreat
