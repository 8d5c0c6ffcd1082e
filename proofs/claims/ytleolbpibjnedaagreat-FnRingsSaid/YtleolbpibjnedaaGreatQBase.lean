/- Plain words about memory: trees of cells (slices of structs, pointers to structs) as they lie in a world, and what keeps them. No program is named here. -/
import Derived.WalkKit
import Derived.Deep.Draws
import Derived.WalkSpells
import Derived.Lib.Hide
import Derived.WalkLawsBesides
import Derived.BigQuiet
import Derived.Deep.QuietTactic
import Derived.Test.YtleolbpibjnedaaGreatProg
import Derived.KernelRfl
set_option linter.unusedSimpArgs false
set_option linter.unusedVariables false
set_option maxRecDepth 100000
set_option maxHeartbeats 4000000
namespace Gc
open Go
theorem pL{α:Type}:(∀ (l:List α) (i:Nat) (a:α),l.toArray.setIfInBounds i a=(l.set i a).toArray)∧(∀ (x:α) (xs:List α) (a:α),(x :: xs).set 0 a=a :: xs)∧(∀ (x:α) (xs:List α) (i:Nat) (a:α),(x :: xs).set (i+1) a=x :: xs.set i a) :=
 ⟨fun _ _ _=>List.setIfInBounds_toArray _ _ _,fun _ _ _=>rfl,fun _ _ _ _=>rfl⟩
inductive G where
 | nil
 | cons (h t:G)
 | fin
 | at (v:Value) (r:G)
 | sl (s r:G)
 | pt (b:Nat) (ty:Nat) (ifc:Option Nat) (p r:G)
 | emb (a r:G)
def ptrVal(b:Nat):Option Nat→Value
 | none=>.pointer (some ⟨b,0,none⟩)
 | some t=>.iface t (.pointer (some ⟨b,0,none⟩))
def Rep(w:World)(D:Nat→Prop):G→List Value→Prop
 | .nil,vs=>∃ a c,vs=[.slice a 0 c]
 | .cons h t,vs=>∃ g o n c hs,vs=[.slice (some ⟨g,o,none⟩) (n+1) (c+1)]∧(D g∧g<w.heap.size)∧Rep w D h hs ∧
    (∀ j u,hs[j]?=some u→w.cell? ⟨g,o+j,none⟩=some u)∧Rep w D t [.slice (some ⟨g,o+hs.length,none⟩) n c]
 | .fin,vs=>vs=[]
 | .at v r,vs=>∃ rs,vs=v :: rs∧Rep w D r rs
 | .sl s r,vs=>∃ v rs,vs=v :: rs∧Rep w D s [v]∧Rep w D r rs
 | .pt b ty ifc p r,vs=>∃ cs rs,vs=ptrVal b ifc :: rs∧D b∧w.heap[b]?=some (.cells cs.toArray ty (0,0))∧Rep w D p cs∧Rep w D r rs
 | .emb a r,vs=>∃ es rs,vs=es++rs∧Rep w D a es∧Rep w D r rs
structure Kept (M:Nat→Prop) (w w':World):Prop where
 os:w'.os=w.os
 tape:w'.tape=w.tape
 output:w'.output=w.output
 size:w.heap.size≤w'.heap.size
 block:∀ k,k<w.heap.size→¬ M k→w'.heap[k]?=w.heap[k]?
theorem Kept.refl(M:Nat→Prop)(w:World):Kept M w w:=⟨rfl,rfl,rfl,Nat.le_refl _,fun _ _ _=>rfl⟩
theorem Kept.trans{M:Nat→Prop}{a b c:World}(h:Kept M a b)(k:Kept M b c):Kept M a c :=
 ⟨k.os.trans h.os,k.tape.trans h.tape,k.output.trans h.output,Nat.le_trans h.size k.size,
  fun i hi hM=>(k.block i (Nat.lt_of_lt_of_le hi h.size) hM).trans (h.block i hi hM)⟩
theorem Kept.mono{M M':Nat→Prop}{w w':World}(h:Kept M w w')(hM:∀ k,k<w.heap.size→M k→M' k):Kept M' w w' :=
 ⟨h.os,h.tape,h.output,h.size,fun k hk hn=>h.block k hk (fun hm=>hn (hM k hk hm))⟩
theorem Kept.fresh{M:Nat→Prop}{B:Nat}{w w':World}(h:Kept (fun k=>M k∨B≤k) w w')(hB:w.heap.size≤B):Kept M w w' :=
 h.mono fun k hk hm=>hm.resolve_right (by omega)
theorem Kept.alloc(M:Nat→Prop)(w:World)(o:Obj):Kept M w (w.alloc o) :=
 ⟨rfl,rfl,rfl,by simp,fun k hk _=>RowKit.Below.heap_alloc _ _ _ hk⟩
theorem Kept.drewN(M:Nat→Prop)(w:World)(n:Nat):Kept M w (w.drewN n):=⟨rfl,rfl,rfl,Nat.le_refl _,fun _ _ _=>rfl⟩
theorem Kept.drew(M:Nat→Prop)(w:World):Kept M w w.drew:=⟨rfl,rfl,rfl,Nat.le_refl _,fun _ _ _=>rfl⟩
theorem keptD{M:Nat→Prop}{w:World}:Kept M w w.drew:=Kept.drew M w
theorem keptAD{M:Nat→Prop}{w:World}{o:Obj}:Kept M w (w.alloc o).drew:=(Kept.alloc M w o).trans (Kept.drew M _)
theorem keptA{M:Nat→Prop}{w:World}{o:Obj}:Kept M w (w.alloc o):=Kept.alloc M w o
theorem Kept.setCell{M:Nat→Prop}(w:World){a:Addr}(ha:M a.block)(v:Value):Kept M w (w.setCell a v) :=
 ⟨rfl,rfl,rfl,by simp[World.setCell],fun k _ hM=>RowKit.Below.heap_setCell _ _ _ _ (fun e=>hM (e▸ha))⟩
theorem Kept.set1{B:Nat}{w:World}{b o:Nat}(hb:B≤b){v:Value}:Kept (fun k=>B≤k) w (w.setCell ⟨b,o,none⟩ v):=Kept.setCell (M:=fun k=>B≤k) w (a:=⟨b,o,none⟩) hb v
theorem Kept.set1e{w:World}{b o:Nat}{v:Value}:Kept (fun k=>k=b) w (w.setCell ⟨b,o,none⟩ v):=Kept.setCell (M:=fun k=>k=b) w (a:=⟨b,o,none⟩) rfl v
theorem Kept.grown{M:Nat→Prop}{w w':World}{row:Option Nat}(hg:w.grownBy w' row)(hr:∀ k,row=some k→M k):Kept M w w' :=
 ⟨hg.os,hg.tape,hg.output,hg.size,fun k hk hM=>hg.block k hk (fun e=>hM (hr k e.symm))⟩
theorem Kept.toBelow{w w':World}(h:Kept (fun _=>False) w w'):RowKit.Below w.heap.size w w' :=
 ⟨h.os,h.tape,h.output,h.size,fun k hk=>h.block k hk (fun f=>f)⟩
theorem cell_of_cells{w:World}{b:Nat}{cs:List Value}{t:TypeId}(h:w.heap[b]?=some (.cells cs.toArray t (0,0)))(o:Nat){v:Value}(hv:cs[o]?=some v):w.cell? ⟨b,o,none⟩=some v:=by simp[World.cell?,h,hv]
theorem free_of_cells{w:World}{b:Nat}{cs:Array Value}{t:TypeId}(h:w.heap[b]?=some (.cells cs t (0,0)))(o:Nat):w.frozen? ⟨b,o,none⟩=false:=by simp[World.frozen?,h]
theorem set_of_cells{w:World}{b:Nat}{cs:List Value}{t:TypeId}(h:w.heap[b]?=some (.cells cs.toArray t (0,0)))(o:Nat)(v:Value):(w.setCell ⟨b,o,none⟩ v).heap[b]?=some (.cells (cs.set o v).toArray t (0,0)):=by
 have hlt:=lt_of_block h
 have h':w.heap[b]=.cells cs.toArray t (0,0):=by simpa [Array.getElem?_eq_getElem hlt]using h
 show(w.heap.modify b _)[b]?=_
 rw[Array.getElem?_eq_getElem (by simpa using hlt),Array.getElem_modify_self,h']
 simp
theorem Kept.set4{M:Nat→Prop}{w:World}{b:Nat}(hb:M b){v0 v1 v2 v3:Value}:Kept M w ((((w.setCell ⟨b,0,none⟩ v0).setCell ⟨b,1,none⟩ v1).setCell ⟨b,2,none⟩ v2).setCell ⟨b,3,none⟩ v3) :=
 ((((Kept.refl _ _).trans (Kept.setCell (M:=M) _ (a:=⟨b,0,none⟩) hb _)).trans (Kept.setCell (M:=M) _ (a:=⟨b,1,none⟩) hb _)).trans (Kept.setCell (M:=M) _ (a:=⟨b,2,none⟩) hb _)).trans (Kept.setCell (M:=M) _ (a:=⟨b,3,none⟩) hb _)
theorem Kept.set5{M:Nat→Prop}{w:World}{b:Nat}(hb:M b){v0 v1 v2 v3 v4:Value}:Kept M w (((((w.setCell ⟨b,0,none⟩ v0).setCell ⟨b,1,none⟩ v1).setCell ⟨b,2,none⟩ v2).setCell ⟨b,3,none⟩ v3).setCell ⟨b,4,none⟩ v4) :=
 (((((Kept.refl _ _).trans (Kept.setCell (M:=M) _ (a:=⟨b,0,none⟩) hb _)).trans (Kept.setCell (M:=M) _ (a:=⟨b,1,none⟩) hb _)).trans (Kept.setCell (M:=M) _ (a:=⟨b,2,none⟩) hb _)).trans (Kept.setCell (M:=M) _ (a:=⟨b,3,none⟩) hb _)).trans (Kept.setCell (M:=M) _ (a:=⟨b,4,none⟩) hb _)
theorem Kept.set14{M:Nat→Prop}{w:World}{b:Nat}(hb:M b){v0 v1 v2 v3 v4 v5 v6 v7 v8 v9 v10 v11 v12 v13:Value}:Kept M w ((((((((((((((w.setCell ⟨b,0,none⟩ v0).setCell ⟨b,1,none⟩ v1).setCell ⟨b,2,none⟩ v2).setCell ⟨b,3,none⟩ v3).setCell ⟨b,4,none⟩ v4).setCell ⟨b,5,none⟩ v5).setCell ⟨b,6,none⟩ v6).setCell ⟨b,7,none⟩ v7).setCell ⟨b,8,none⟩ v8).setCell ⟨b,9,none⟩ v9).setCell ⟨b,10,none⟩ v10).setCell ⟨b,11,none⟩ v11).setCell ⟨b,12,none⟩ v12).setCell ⟨b,13,none⟩ v13) :=
 ((((((((((((((Kept.refl _ _).trans (Kept.setCell (M:=M) _ (a:=⟨b,0,none⟩) hb _)).trans (Kept.setCell (M:=M) _ (a:=⟨b,1,none⟩) hb _)).trans (Kept.setCell (M:=M) _ (a:=⟨b,2,none⟩) hb _)).trans (Kept.setCell (M:=M) _ (a:=⟨b,3,none⟩) hb _)).trans (Kept.setCell (M:=M) _ (a:=⟨b,4,none⟩) hb _)).trans (Kept.setCell (M:=M) _ (a:=⟨b,5,none⟩) hb _)).trans (Kept.setCell (M:=M) _ (a:=⟨b,6,none⟩) hb _)).trans (Kept.setCell (M:=M) _ (a:=⟨b,7,none⟩) hb _)).trans (Kept.setCell (M:=M) _ (a:=⟨b,8,none⟩) hb _)).trans (Kept.setCell (M:=M) _ (a:=⟨b,9,none⟩) hb _)).trans (Kept.setCell (M:=M) _ (a:=⟨b,10,none⟩) hb _)).trans (Kept.setCell (M:=M) _ (a:=⟨b,11,none⟩) hb _)).trans (Kept.setCell (M:=M) _ (a:=⟨b,12,none⟩) hb _)).trans (Kept.setCell (M:=M) _ (a:=⟨b,13,none⟩) hb _)
theorem Kept.setF5{B:Nat}{w:World}{b:Nat}(hb:B≤b){v0 v1 v2 v3 v4:Value}:Kept (fun k=>B≤k) w (((((w.setCell ⟨b,0,none⟩ v0).setCell ⟨b,1,none⟩ v1).setCell ⟨b,2,none⟩ v2).setCell ⟨b,3,none⟩ v3).setCell ⟨b,4,none⟩ v4):=Kept.set5 hb
theorem Kept.setF14{B:Nat}{w:World}{b:Nat}(hb:B≤b){v0 v1 v2 v3 v4 v5 v6 v7 v8 v9 v10 v11 v12 v13:Value}:Kept (fun k=>B≤k) w ((((((((((((((w.setCell ⟨b,0,none⟩ v0).setCell ⟨b,1,none⟩ v1).setCell ⟨b,2,none⟩ v2).setCell ⟨b,3,none⟩ v3).setCell ⟨b,4,none⟩ v4).setCell ⟨b,5,none⟩ v5).setCell ⟨b,6,none⟩ v6).setCell ⟨b,7,none⟩ v7).setCell ⟨b,8,none⟩ v8).setCell ⟨b,9,none⟩ v9).setCell ⟨b,10,none⟩ v10).setCell ⟨b,11,none⟩ v11).setCell ⟨b,12,none⟩ v12).setCell ⟨b,13,none⟩ v13):=Kept.set14 hb
theorem slot4{w:World}{b:Nat}{v0 v1 v2 v3:Value}{t:TypeId}(h:w.heap[b]?=some (.cells #[v0,v1,v2,v3] t (0,0))) :
 w.cell? ⟨b,0,none⟩=some v0∧w.cell? ⟨b,1,none⟩=some v1∧w.cell? ⟨b,2,none⟩=some v2∧w.cell? ⟨b,3,none⟩=some v3 ∧
 w.frozen? ⟨b,0,none⟩=false∧w.frozen? ⟨b,1,none⟩=false∧w.frozen? ⟨b,2,none⟩=false∧w.frozen? ⟨b,3,none⟩=false :=
 ⟨by simp[World.cell?,h],by simp[World.cell?,h],by simp[World.cell?,h],by simp[World.cell?,h],free_of_cells h 0,free_of_cells h 1,free_of_cells h 2,free_of_cells h 3⟩
theorem slot5{w:World}{b:Nat}{v0 v1 v2 v3 v4:Value}{t:TypeId}(h:w.heap[b]?=some (.cells #[v0,v1,v2,v3,v4] t (0,0))) :
 w.cell? ⟨b,0,none⟩=some v0∧w.cell? ⟨b,1,none⟩=some v1∧w.cell? ⟨b,2,none⟩=some v2∧w.cell? ⟨b,3,none⟩=some v3∧w.cell? ⟨b,4,none⟩=some v4 ∧
 w.frozen? ⟨b,0,none⟩=false∧w.frozen? ⟨b,1,none⟩=false∧w.frozen? ⟨b,2,none⟩=false∧w.frozen? ⟨b,3,none⟩=false∧w.frozen? ⟨b,4,none⟩=false :=
 ⟨by simp[World.cell?,h],by simp[World.cell?,h],by simp[World.cell?,h],by simp[World.cell?,h],by simp[World.cell?,h],free_of_cells h 0,free_of_cells h 1,free_of_cells h 2,free_of_cells h 3,free_of_cells h 4⟩
theorem slot14{w:World}{b:Nat}{v0 v1 v2 v3 v4 v5 v6 v7 v8 v9 v10 v11 v12 v13:Value}{t:TypeId}(h:w.heap[b]?=some (.cells #[v0,v1,v2,v3,v4,v5,v6,v7,v8,v9,v10,v11,v12,v13] t (0,0))) :
 w.cell? ⟨b,0,none⟩=some v0∧w.cell? ⟨b,1,none⟩=some v1∧w.cell? ⟨b,2,none⟩=some v2∧w.cell? ⟨b,3,none⟩=some v3∧w.cell? ⟨b,4,none⟩=some v4∧w.cell? ⟨b,5,none⟩=some v5∧w.cell? ⟨b,6,none⟩=some v6∧w.cell? ⟨b,7,none⟩=some v7∧w.cell? ⟨b,8,none⟩=some v8∧w.cell? ⟨b,9,none⟩=some v9∧w.cell? ⟨b,10,none⟩=some v10∧w.cell? ⟨b,11,none⟩=some v11∧w.cell? ⟨b,12,none⟩=some v12∧w.cell? ⟨b,13,none⟩=some v13 ∧
 w.frozen? ⟨b,0,none⟩=false∧w.frozen? ⟨b,1,none⟩=false∧w.frozen? ⟨b,2,none⟩=false∧w.frozen? ⟨b,3,none⟩=false∧w.frozen? ⟨b,4,none⟩=false∧w.frozen? ⟨b,5,none⟩=false∧w.frozen? ⟨b,6,none⟩=false∧w.frozen? ⟨b,7,none⟩=false∧w.frozen? ⟨b,8,none⟩=false∧w.frozen? ⟨b,9,none⟩=false∧w.frozen? ⟨b,10,none⟩=false∧w.frozen? ⟨b,11,none⟩=false∧w.frozen? ⟨b,12,none⟩=false∧w.frozen? ⟨b,13,none⟩=false :=
 ⟨by simp[World.cell?,h],by simp[World.cell?,h],by simp[World.cell?,h],by simp[World.cell?,h],by simp[World.cell?,h],by simp[World.cell?,h],by simp[World.cell?,h],by simp[World.cell?,h],by simp[World.cell?,h],by simp[World.cell?,h],by simp[World.cell?,h],by simp[World.cell?,h],by simp[World.cell?,h],by simp[World.cell?,h],free_of_cells h 0,free_of_cells h 1,free_of_cells h 2,free_of_cells h 3,free_of_cells h 4,free_of_cells h 5,free_of_cells h 6,free_of_cells h 7,free_of_cells h 8,free_of_cells h 9,free_of_cells h 10,free_of_cells h 11,free_of_cells h 12,free_of_cells h 13⟩
theorem Kept.cell{M:Nat→Prop}{w w':World}(h:Kept M w w'){a:Addr}{v:Value}(hc:w.cell? a=some v)(hM:¬ M a.block):w'.cell? a=some v :=
 (World.cell?_of_block (h.block a.block (World.block_lt_of_cell? w a hc) hM)).trans hc
theorem lt_of_heap{w:World}{b:Nat}{o:Obj}(h:w.heap[b]?=some o):b<w.heap.size:=(Array.getElem?_eq_some_iff.1 h).1
theorem Kept.obj{M:Nat→Prop}{w w':World}(h:Kept M w w'){b:Nat}{o:Obj}(hc:w.heap[b]?=some o)(hM:¬ M b):w'.heap[b]?=some o :=
 (h.block b (lt_of_heap hc) hM).trans hc
theorem heap3_0(w:World)(o1 o2 o3:Obj):(((w.alloc o1).alloc o2).alloc o3).heap[w.heap.size]?=some o1 :=
 (heap_alloc_old _ _ (by simp;omega)).trans ((heap_alloc_old _ _ (by simp)).trans (heap_alloc_new w o1))
theorem heap3_1(w:World)(o1 o2 o3:Obj):(((w.alloc o1).alloc o2).alloc o3).heap[w.heap.size+1]?=some o2 :=
 (heap_alloc_old _ _ (by simp)).trans (by have:=heap_alloc_new (w.alloc o1) o2;simpa using this)
theorem heap3_2(w:World)(o1 o2 o3:Obj):(((w.alloc o1).alloc o2).alloc o3).heap[w.heap.size+1+1]?=some o3:=by
 have:=heap_alloc_new ((w.alloc o1).alloc o2) o3;simpa using this
theorem heap2_0(w:World)(o1 o2:Obj):((w.alloc o1).alloc o2).heap[w.heap.size]?=some o1 :=
 (heap_alloc_old _ _ (by simp)).trans (heap_alloc_new w o1)
theorem heap2_1(w:World)(o1 o2:Obj):((w.alloc o1).alloc o2).heap[w.heap.size+1]?=some o2:=by
 have:=heap_alloc_new (w.alloc o1) o2;simpa using this
theorem addr_add(g o j:Nat):(⟨g,o,none⟩:Addr).add j=⟨g,o+j,none⟩:=by
 unfold Addr.add
 split<;>simp_all
theorem new_cells(w:World)(vs:List Value)(T0:Nat):∀ j u,vs[j]?=some u→(w.alloc (.cells vs.toArray T0)).cell? ((⟨w.heap.size,0,none⟩:Addr).add j)=some u:=fun j u hu=>by
 rw[addr_add,Nat.zero_add]
 exact cell_of_cells (heap_alloc_new w _) j hu
theorem Kept.new{M:Nat→Prop}{w w':World}{o:Obj}(h:Kept M (w.alloc o) w')(hM:¬ M w.heap.size):w'.heap[w.heap.size]?=some o :=
 h.obj (heap_alloc_new w o) hM
theorem heap_new_at{w:World}{n:Nat}(h:w.heap.size=n)(o:Obj):(w.alloc o).heap[n]?=some o:=h▸heap_alloc_new w o
theorem wf_a{w3:World}{b:Nat}{v0 v1 v2 v3 v4:Value}{e:Obj}:(((((((w3.setCell ⟨b,0,none⟩ v0).setCell ⟨b,1,none⟩ v1).setCell ⟨b,2,none⟩ v2).setCell ⟨b,3,none⟩ v3).setCell ⟨b,4,none⟩ v4).alloc e)).heap[w3.heap.size]?=some e:=by
 have:=heap_alloc_new (((((w3.setCell ⟨b,0,none⟩ v0).setCell ⟨b,1,none⟩ v1).setCell ⟨b,2,none⟩ v2).setCell ⟨b,3,none⟩ v3).setCell ⟨b,4,none⟩ v4) e
 rwa [show(((((w3.setCell ⟨b,0,none⟩ v0).setCell ⟨b,1,none⟩ v1).setCell ⟨b,2,none⟩ v2).setCell ⟨b,3,none⟩ v3).setCell ⟨b,4,none⟩ v4).heap.size=w3.heap.size from by simp[World.setCell]]at this
theorem wf_b{w3:World}{b:Nat}{v0 v1 v2 v3 v4:Value}{e e':Obj}:((((((((w3.setCell ⟨b,0,none⟩ v0).setCell ⟨b,1,none⟩ v1).setCell ⟨b,2,none⟩ v2).setCell ⟨b,3,none⟩ v3).setCell ⟨b,4,none⟩ v4).alloc e').alloc e)).heap[w3.heap.size+1]?=some e:=by
 have:=heap_alloc_new ((((((w3.setCell ⟨b,0,none⟩ v0).setCell ⟨b,1,none⟩ v1).setCell ⟨b,2,none⟩ v2).setCell ⟨b,3,none⟩ v3).setCell ⟨b,4,none⟩ v4).alloc e') e
 rwa [show((((((w3.setCell ⟨b,0,none⟩ v0).setCell ⟨b,1,none⟩ v1).setCell ⟨b,2,none⟩ v2).setCell ⟨b,3,none⟩ v3).setCell ⟨b,4,none⟩ v4).alloc e').heap.size=w3.heap.size+1 from by simp[World.setCell]]at this
theorem wf_c{w3:World}{b:Nat}{v0 v1 v2 v3 v4:Value}{e e':Obj}:((((((((w3.setCell ⟨b,0,none⟩ v0).setCell ⟨b,1,none⟩ v1).setCell ⟨b,2,none⟩ v2).setCell ⟨b,3,none⟩ v3).setCell ⟨b,4,none⟩ v4).alloc e).alloc e')).heap[w3.heap.size]?=some e:=by
 have:=heap_alloc_old ((((((w3.setCell ⟨b,0,none⟩ v0).setCell ⟨b,1,none⟩ v1).setCell ⟨b,2,none⟩ v2).setCell ⟨b,3,none⟩ v3).setCell ⟨b,4,none⟩ v4).alloc e) e' (r:=w3.heap.size) (by simp[World.setCell])
 exact this.trans wf_a
theorem kept_a{w3:World}{b:Nat}{v0 v1 v2 v3 v4:Value}{e:Obj}:Kept (fun k=>k=b) w3 (((((((w3.setCell ⟨b,0,none⟩ v0).setCell ⟨b,1,none⟩ v1).setCell ⟨b,2,none⟩ v2).setCell ⟨b,3,none⟩ v3).setCell ⟨b,4,none⟩ v4).alloc e)) :=
 (Kept.set5 (M:=fun k=>k=b) rfl).trans keptA
theorem kept_b{w3:World}{b:Nat}{v0 v1 v2 v3 v4:Value}{e e':Obj}:Kept (fun k=>k=b) w3 ((((((((w3.setCell ⟨b,0,none⟩ v0).setCell ⟨b,1,none⟩ v1).setCell ⟨b,2,none⟩ v2).setCell ⟨b,3,none⟩ v3).setCell ⟨b,4,none⟩ v4).alloc e').alloc e)) :=
 kept_a.trans keptA
theorem Rep.kept{M D:Nat→Prop}{w w':World}(h:Kept M w w')(hD:∀ b,D b→¬ M b):∀ (g:G) (vs:List Value),Rep w D g vs→Rep w' D g vs:=by
 intro g
 induction g with
 | nil=>intro vs r;exact r
 | cons hd tl ih1 ih2 =>
   rintro vs ⟨g,o,n,c,hs,rfl,hg,r1,hc,r2⟩
   exact⟨g,o,n,c,hs,rfl,⟨hg.1,Nat.lt_of_lt_of_le hg.2 h.size⟩,ih1 _ r1,fun j u hu=>h.cell (hc j u hu) (hD g hg.1),ih2 _ r2⟩
 | fin=>intro vs r;exact r
 | «at» v r ih =>
   rintro vs ⟨rs,rfl,r1⟩
   exact⟨rs,rfl,ih _ r1⟩
 | sl s r ih1 ih2 =>
   rintro vs ⟨v,rs,rfl,r1,r2⟩
   exact⟨v,rs,rfl,ih1 _ r1,ih2 _ r2⟩
 | pt b ty ifc p r ih1 ih2 =>
   rintro vs ⟨cs,rs,rfl,hb,ho,r1,r2⟩
   exact⟨cs,rs,rfl,hb,h.obj ho (hD b hb),ih1 _ r1,ih2 _ r2⟩
 | emb a r ih1 ih2 =>
   rintro vs ⟨es,rs,rfl,r1,r2⟩
   exact⟨es,rs,rfl,ih1 _ r1,ih2 _ r2⟩
theorem Rep.imp{D D':Nat→Prop}{w:World}(hD:∀ b,b<w.heap.size→D b→D' b):∀ (g:G) (vs:List Value),Rep w D g vs→Rep w D' g vs:=by
 intro g
 induction g with
 | nil=>intro vs r;exact r
 | cons hd tl ih1 ih2 =>
   rintro vs ⟨g,o,n,c,hs,rfl,hg,r1,hc,r2⟩
   exact⟨g,o,n,c,hs,rfl,⟨hD g hg.2 hg.1,hg.2⟩,ih1 _ r1,hc,ih2 _ r2⟩
 | fin=>intro vs r;exact r
 | «at» v r ih =>
   rintro vs ⟨rs,rfl,r1⟩
   exact⟨rs,rfl,ih _ r1⟩
 | sl s r ih1 ih2 =>
   rintro vs ⟨v,rs,rfl,r1,r2⟩
   exact⟨v,rs,rfl,ih1 _ r1,ih2 _ r2⟩
 | pt b ty ifc p r ih1 ih2 =>
   rintro vs ⟨cs,rs,rfl,hb,ho,r1,r2⟩
   exact⟨cs,rs,rfl,hD b (lt_of_heap ho) hb,ho,ih1 _ r1,ih2 _ r2⟩
 | emb a r ih1 ih2 =>
   rintro vs ⟨es,rs,rfl,r1,r2⟩
   exact⟨es,rs,rfl,ih1 _ r1,ih2 _ r2⟩
def G.len:G→Nat
 | .cons _ t=>t.len+1
 | _=>0
def G.snoc:G→G→G
 | .cons h t,x=>.cons h (t.snoc x)
 | _,x=>.cons x .nil
def G.isList:G→Prop
 | .nil=>True
 | .cons _ t=>t.isList
 | _=>False
def RepL(w:World)(D:Nat→Prop):G→List Value→Prop
 | .nil,xs=>xs=[]
 | .cons h t,xs=>∃ hs rs,xs=hs++rs∧Rep w D h hs∧RepL w D t rs
 | _,_=>False
theorem G.len_snoc(l x:G)(h:l.isList):(l.snoc x).len=l.len+1:=by
 induction l with
 | cons hd tl _ ih=>simp only[G.snoc,G.len,ih h]
 | nil=>rfl
 | _=>exact h.elim
theorem RepL.isList{w:World}{D:Nat→Prop}:∀ {l:G} {xs:List Value},RepL w D l xs→l.isList:=by
 intro l
 induction l with
 | cons hd tl _ ih=>rintro xs ⟨hs,rs,_,_,r⟩;exact ih r
 | nil=>intro _ _;trivial
 | _=>intro _ h;exact h.elim
theorem RepL.snoc{w:World}{D:Nat→Prop}{x:G}{ys:List Value}(hx:Rep w D x ys):∀ {l:G} {xs:List Value},RepL w D l xs→RepL w D (l.snoc x) (xs++ys):=by
 intro l
 induction l with
 | cons hd tl _ ih=>rintro xs ⟨hs,rs,rfl,r1,r2⟩;exact⟨hs,rs++ys,by simp,r1,ih r2⟩
 | nil=>rintro xs rfl;exact⟨ys,[],by simp,hx,rfl⟩
 | _=>intro _ h;exact h.elim
theorem RepL.kept{M D:Nat→Prop}{w w':World}(h:Kept M w w')(hD:∀ b,D b→¬ M b):∀ {l:G} {xs:List Value},RepL w D l xs→RepL w' D l xs:=by
 intro l
 induction l with
 | cons hd tl _ ih=>rintro xs ⟨hs,rs,rfl,r1,r2⟩;exact⟨hs,rs,rfl,r1.kept h hD,ih r2⟩
 | nil=>intro _ e;exact e
 | _=>intro _ h;exact h.elim
theorem RepL.imp{D D':Nat→Prop}{w:World}(hD:∀ b,b<w.heap.size→D b→D' b):∀ {l:G} {xs:List Value},RepL w D l xs→RepL w D' l xs:=by
 intro l
 induction l with
 | cons hd tl _ ih=>rintro xs ⟨hs,rs,rfl,r1,r2⟩;exact⟨hs,rs,rfl,r1.imp hD,ih r2⟩
 | nil=>intro _ e;exact e
 | _=>intro _ h;exact h.elim
theorem RepL.slice{w:World}{D:Nat→Prop}{g:Nat}(hg:D g)(hlt:g<w.heap.size):∀ {l:G} {xs:List Value} (o n c:Nat),RepL w D l xs→n=l.len→n≤c →
 (∀ j u,xs[j]?=some u→w.cell? ⟨g,o+j,none⟩=some u)→Rep w D l [.slice (some ⟨g,o,none⟩) n c]:=by
 intro l
 induction l with
 | cons hd tl _ ih =>
   rintro xs o n c ⟨hs,rs,rfl,r1,r2⟩ hn hc hx
   obtain⟨c,rfl⟩:∃ m,c=m+1:=⟨c-1,by simp only[G.len]at hn;omega⟩
   simp only[G.len]at hn
   subst hn
   refine⟨g,o,tl.len,c,hs,rfl,⟨hg,hlt⟩,r1,fun j u hu=>hx j u ?_,ih _ _ _ r2 rfl (by omega) fun j u hu=>?_⟩
   · rw[List.getElem?_append_left (List.getElem?_eq_some_iff.1 hu).1];exact hu
   · have:=hx (hs.length+j) u (by rw[List.getElem?_append_right (by omega),Nat.add_sub_cancel_left];exact hu)
     rw[Nat.add_assoc];exact this
 | nil =>
   rintro xs o n c rfl hn _ _
   simp only[G.len]at hn
   subst hn
   exact⟨_,_,rfl⟩
 | _=>intro _ _ _ _ h;exact h.elim
theorem rep_two{w:World}{D:Nat→Prop}{r T0:Nat}{x y:G}{xs ys:List Value}(hr:w.heap[r]?=some (.cells (xs++ys).toArray T0 (0,0)))(hD:D r)(hx:Rep w D x xs)(hy:Rep w D y ys) :
 Rep w D (.cons x (.cons y .nil)) [.slice (some ⟨r,0,none⟩) 2 2]:=by
 refine RepL.slice hD (lt_of_heap hr) 0 2 2 (xs:=xs++ys) ⟨xs,ys,rfl,hx,ys,[],by simp,hy,rfl⟩ rfl (by omega) fun j u hu=>?_
 simpa using cell_of_cells hr j hu
theorem rep_one{w:World}{D:Nat→Prop}{r T0:Nat}{x:G}{xs:List Value}(hr:w.heap[r]?=some (.cells xs.toArray T0 (0,0)))(hD:D r)(hx:Rep w D x xs) :
 Rep w D (.cons x .nil) [.slice (some ⟨r,0,none⟩) 1 1]:=by
 refine RepL.slice hD (lt_of_heap hr) 0 1 1 (xs:=xs) ⟨xs,[],by simp,hx,rfl⟩ rfl (by omega) fun j u hu=>?_
 simpa using cell_of_cells hr j hu
theorem Rep.len_eq{w:World}{D:Nat→Prop}{l:G}(hl:l.isList){a:Option Addr}{n c:Nat}(h:Rep w D l [.slice a n c]):n=l.len:=by
 induction l generalizing a n c with
 | cons hd tl _ ih =>
   obtain⟨g,o,n',c',hs,e,_,_,_,r⟩:=h
   simp only[List.cons.injEq,Value.slice.injEq,and_true]at e
   obtain⟨_,rfl,_⟩:=e
   simp only[G.len,ih hl r]
 | nil=>obtain⟨a',c',e⟩:=h;simp only[List.cons.injEq,Value.slice.injEq,and_true]at e;exact e.2.1
 | _=>exact hl.elim
def OwnL(w:World)(D:Nat→Prop)(base E size:Nat)(v:Value)(l:G):Prop :=
 ∃ xs,w.ownsRow base E size v l.len xs∧RepL w (fun b=>D b∧some b≠v.ownBlock) l xs
theorem OwnL.nil(w:World)(D:Nat→Prop)(base E size:Nat):OwnL w D base E size (.slice none 0 0) .nil:=⟨[],World.ownsRow_nil _ _ _ _,rfl⟩
theorem OwnL.lt{w:World}{D:Nat→Prop}{base E size:Nat}{v:Value}{l:G}(h:OwnL w D base E size v l):∀ k,v.ownBlock=some k→base≤k∧k<w.heap.size:=by
 obtain⟨xs,h1,_⟩:=h
 exact h1.lt
theorem ownsRow.keptBy{w w':World}{base E size:Nat}{v:Value}{n:Nat}{xs:List Value}(h:w.ownsRow base E size v n xs){M:Nat→Prop}(hk:Kept M w w')(hM:∀ k,v.ownBlock=some k→¬ M k):w'.ownsRow base E size v n xs:=by
 refine⟨h.1,?_⟩
 rcases h.2 with hn|⟨g,cap,cur,rfl,hb,hg,r⟩
 · exact .inl hn
 · exact .inr ⟨g,cap,cur,rfl,hb,hk.obj hg (hM g rfl),r⟩
theorem OwnL.kept{w w':World}{D:Nat→Prop}{base E size:Nat}{v:Value}{l:G}(h:OwnL w D base E size v l){M:Nat→Prop}(hk:Kept M w w')
 (hM:∀ k,v.ownBlock=some k→¬ M k) (hD:∀ b,D b→¬ M b):OwnL w' D base E size v l:=by
 obtain⟨xs,h1,h2⟩:=h
 exact⟨xs,ownsRow.keptBy h1 hk hM,h2.kept hk fun b hb=>hD b hb.1⟩
theorem OwnL.rep{w:World}{D:Nat→Prop}{base E size:Nat}{v:Value}{l:G}(h:OwnL w D base E size v l)(hD:∀ b,base≤b→b<w.heap.size→D b):Rep w D l [v]:=by
 obtain⟨xs,h1,h2⟩:=h
 rcases h1.2 with ⟨rfl,hn⟩|⟨g,cap,cur,rfl,hb,hg,hnc,_,hs,ht⟩
 · cases l with
   | nil=>exact⟨none,0,rfl⟩
   | cons hd tl=>simp[G.len]at hn
   | _=>exact h2.isList.elim
 · have hlt:=lt_of_heap hg
   refine(h2.imp fun b _ hb=>hb.1).slice (hD g hb hlt) hlt 0 _ _ rfl hnc fun j u hu=>?_
   have:=h1.cells (g:=g) rfl j u hu
   rw[show(⟨g,0+j,none⟩:Addr)=(⟨g,0,none⟩:Addr).add j from ?_]
   · exact this
   · unfold Addr.add;split<;>simp_all
abbrev Str:=ByteArray
def strOf(l:List UInt8):Str:=⟨l.toArray⟩
inductive T where
 | nil
 | cons (h t:T)
 | x (kind n:Nat) (op:Str) (kids body:T)
 | s (kind n:Nat) (op label:Str) (ex body els:T) (has chain:Bool) (cases:T)
def T.len:T→Nat
 | .cons _ t=>t.len+1
 | _=>0
def T.snoc:T→T→T
 | .cons h t,y=>.cons h (t.snoc y)
 | _,y=>.cons y .nil
def T.g:T→G
 | .nil=>.nil
 | .cons h t=>.cons h.g t.g
 | .x kind n op kids body=>.at (.int .i64 kind) (.at (.int .i64 n) (.at (.string op) (.sl kids.g (.sl body.g .fin))))
 | .s kind n op label ex body els has chain cases =>
   .at (.int .i64 kind) (.at (.int .i64 n) (.at (.string op) (.at (.string label) (.emb ex.g (.sl body.g (.sl els.g (.at (.bool has) (.at (.bool chain) (.sl cases.g .fin)))))))))
theorem T.g_len(t:T):t.g.len=t.len:=by
 induction t with
 | cons h t _ ih=>simp only[T.g,G.len,T.len,ih]
 | _=>rfl
def T.isList:T→Prop
 | .nil=>True
 | .cons _ t=>t.isList
 | _=>False
theorem T.g_isList(t:T)(h:t.isList):t.g.isList:=by
 induction t with
 | cons hd tl _ ih=>exact ih h
 | nil=>trivial
 | _=>exact h.elim
theorem T.g_snoc(t y:T)(h:t.isList):(t.snoc y).g=t.g.snoc y.g:=by
 induction t with
 | cons hd tl _ ih=>simp only[T.snoc,T.g,G.snoc,ih h]
 | nil=>rfl
 | _=>exact h.elim
theorem T.isList_snoc(t y:T)(h:t.isList):(t.snoc y).isList:=by
 induction t with
 | cons hd tl _ ih=>exact ih h
 | nil=>trivial
 | _=>exact h.elim
theorem T.len_snoc(t y:T)(h:t.isList):(t.snoc y).len=t.len+1:=by
 induction t with
 | cons hd tl _ ih=>simp only[T.snoc,T.len,ih h]
 | nil=>rfl
 | _=>exact h.elim
def sE:Str:=⟨#[]⟩
def sAnd:Str:=⟨#[38,38]⟩
def sOr:Str:=⟨#[124,124]⟩
def sPlus:Str:=⟨#[43]⟩
def sLess:Str:=⟨#[60]⟩
def sInc:Str:=⟨#[43,43]⟩
def sDec:Str:=⟨#[45,45]⟩
def sF:Str:=⟨#[102]⟩
def sG:Str:=⟨#[103]⟩
def sH:Str:=⟨#[104]⟩
def sK:Str:=⟨#[107]⟩
def sBreak:Str:=⟨#[98,114,101,97,107]⟩
def sContinue:Str:=⟨#[99,111,110,116,105,110,117,101]⟩
def T.xd:T→Nat
 | .nil=>0
 | .cons h t=>max h.xd t.xd
 | .x _ _ _ kids _=>1+kids.xd
 | .s ..=>0
theorem T.xd_snoc(t y:T)(h:t.isList):(t.snoc y).xd=max t.xd y.xd:=by
 induction t with
 | cons hd tl _ ih=>simp only[T.snoc,T.xd,ih h];omega
 | nil=>simp[T.snoc,T.xd]
 | _=>exact h.elim
def dec(n:Nat):List UInt8:=if n<10 then [(48+n).toUInt8] else dec (n / 10)++[(48+n%10).toUInt8]
def lab(k:Nat):Str:=strOf (108 :: dec k)
def isName(s:Str):Prop:=s=sF∨s=sG∨s=sH∨s=sK
def isOp2(s:Str):Prop:=s=sAnd∨s=sOr∨s=sPlus∨s=sLess
inductive So | E | Es | S | Ss | Cs
inductive W (fl:Bool):So→T→Prop
 | num:W fl .E (.x 0 0 sE .nil .nil)
 | var (n:Nat) (h:n<4):W fl .E (.x 1 n sE .nil .nil)
 | bin (op:Str) (a b:T) (h:isOp2 op) (ha:W fl .E a) (hb:W fl .E b) (hx:a.xd≤2) (hy:b.xd≤2):W fl .E (.x 2 0 op (.cons a (.cons b .nil)) .nil)
 | not (a:T) (ha:W fl .E a):W fl .E (.x 3 0 sE (.cons a .nil) .nil)
 | par (a:T) (ha:W fl .E a):W fl .E (.x 4 0 sE (.cons a .nil) .nil)
 | call (f:Str) (args:T) (h:isName f) (ha:W fl .Es args):W fl .E (.x 5 0 f args .nil)
 | lit (body:T) (h:fl=false) (hb:W fl .Ss body):W fl .E (.x 6 0 sE .nil body)
 | enil:W fl .Es .nil
 | econs (a t:T) (ha:W fl .E a) (ht:W fl .Es t):W fl .Es (.cons a t)
 | expr (f:Str) (args:T) (h:isName f) (ha:W fl .Es args):W fl .S (.s 0 0 sE sE (.x 5 0 f args .nil) .nil .nil false false .nil)
 | assign (n:Nat) (op:Str) (a:T) (hn:n<4) (h:op=sE∨op=sPlus) (ha:W fl .E a):W fl .S (.s 1 n op sE a .nil .nil false false .nil)
 | count (n:Nat) (op:Str) (hn:n<4) (h:op=sInc∨op=sDec):W fl .S (.s 2 n op sE (.x 0 0 sE .nil .nil) .nil .nil false false .nil)
 | ifNo (a body:T) (ha:W fl .E a) (hb:W fl .Ss body):W fl .S (.s 3 0 sE sE a body .nil false false .nil)
 | ifElse (a body els:T) (ha:W fl .E a) (hb:W fl .Ss body) (he:W fl .Ss els):W fl .S (.s 3 0 sE sE a body els true false .nil)
 | ifChain (a body a' body' els':T) (has' chain':Bool) (ha:W fl .E a) (hb:W fl .Ss body) (he:W fl .S (.s 3 0 sE sE a' body' els' has' chain' .nil)) :
    W fl .S (.s 3 0 sE sE a body (.cons (.s 3 0 sE sE a' body' els' has' chain' .nil) .nil) false true .nil)
 | for_ (a body:T) (ha:W fl .E a) (hb:W fl .Ss body):W fl .S (.s 4 0 sE sE a body .nil false false .nil)
 | range (a body:T) (ha:W fl .E a) (hb:W fl .Ss body):W fl .S (.s 5 0 sE sE a body .nil false false .nil)
 | switch (a cases:T) (ha:W fl .E a) (hc:W fl .Cs cases) (h:1≤cases.len∧cases.len≤3):W fl .S (.s 6 0 sE sE a .nil .nil false false cases)
 | select (cases:T) (h:fl=false) (hc:W fl .Cs cases) (h:1≤cases.len∧cases.len≤3):W fl .S (.s 7 0 sE sE (.x 0 0 sE .nil .nil) .nil .nil false false cases)
 | branch (op:Str) (h:op=sBreak∨op=sContinue):W fl .S (.s 8 0 op sE (.x 0 0 sE .nil .nil) .nil .nil false false .nil)
 | branchTo (op:Str) (k:Nat) (h:op=sBreak∨op=sContinue) (hk:k≤1000):W fl .S (.s 8 0 op (lab k) (.x 0 0 sE .nil .nil) .nil .nil false false .nil)
 | ret (a:T) (ha:W fl .E a):W fl .S (.s 9 0 sE sE a .nil .nil false false .nil)
 | block (body:T) (hb:W fl .Ss body):W fl .S (.s 10 0 sE sE (.x 0 0 sE .nil .nil) body .nil false false .nil)
 | labelled (k kind:Nat) (a body:T) (hk:k≤1000) (h:kind=4∨kind=5) (ha:W fl .E a) (hb:W fl .Ss body) :
    W fl .S (.s 11 0 sE (lab k) (.x 0 0 sE .nil .nil) (.cons (.s kind 0 sE sE a body .nil false false .nil) .nil) .nil false false .nil)
 | snil:W fl .Ss .nil
 | scons (a t:T) (ha:W fl .S a) (ht:W fl .Ss t):W fl .Ss (.cons a t)
 | cnil:W fl .Cs .nil
 | ccons (a t:T) (ha:W fl .Ss a) (ht:W fl .Cs t):W fl .Cs (.cons a t)
theorem W.list{fl:Bool}{o:So}{t:T}(h:W fl o t):(o=.E∨o=.S)∨t.isList:=by
 induction h with
 | enil | snil | cnil=>exact .inr trivial
 | econs a t ha ht ih1 ih2=>exact .inr (ih2.resolve_left (by simp))
 | scons a t ha ht ih1 ih2=>exact .inr (ih2.resolve_left (by simp))
 | ccons a t ha ht ih1 ih2=>exact .inr (ih2.resolve_left (by simp))
 | _=>exact .inl (by simp)
def T.cost:T→Nat
 | .nil=>0
 | .cons h t=>h.cost+t.cost
 | .x kind _ _ kids body=>(if kind=5 then 2 else if kind=6 then 4 else 1)+kids.cost+body.cost
 | .s _ _ _ _ ex body els _ _ cases=>2+ex.cost+body.cost+els.cost+1+cases.cost+4*cases.len
def T.deep:T→Nat
 | .nil=>0
 | .cons h t=>max h.deep t.deep
 | .x kind _ _ kids body=>if kind=6 then 2+max 1 body.deep else if kind=5 then 1+max 1 kids.deep else 1+kids.deep
 | .s kind _ _ _ ex body els has _ cases=>if kind=7 then 3+max 3 cases.deep else if kind=6 then max (1+ex.deep) (3+max 1 cases.deep) else
    1+max (max 1 ex.deep) (max (1+body.deep) (if has then 1+els.deep else els.deep))
theorem T.cost_snoc(t y:T)(h:t.isList):(t.snoc y).cost=t.cost+y.cost:=by
 induction t with
 | cons hd tl _ ih=>simp only[T.snoc,T.cost,ih h];omega
 | nil=>simp[T.snoc,T.cost]
 | _=>exact h.elim
theorem T.deep_snoc(t y:T)(h:t.isList):(t.snoc y).deep=max t.deep y.deep:=by
 induction t with
 | cons hd tl _ ih=>simp only[T.snoc,T.deep,ih h];omega
 | nil=>simp[T.snoc,T.deep]
 | _=>exact h.elim
theorem W.snocE{fl:Bool}{y:T}(hy:W fl .E y):∀ {t:T},W fl .Es t→W fl .Es (t.snoc y):=by
 intro t h
 generalize ho:So.Es=o at h
 induction h with
 | enil=>exact .econs _ _ hy .enil
 | econs a t ha ht _ ih=>exact .econs _ _ ha (ih rfl)
 | _=>cases ho
theorem W.snocS{fl:Bool}{y:T}(hy:W fl .S y):∀ {t:T},W fl .Ss t→W fl .Ss (t.snoc y):=by
 intro t h
 generalize ho:So.Ss=o at h
 induction h with
 | snil=>exact .scons _ _ hy .snil
 | scons a t ha ht _ ih=>exact .scons _ _ ha (ih rfl)
 | _=>cases ho
theorem W.snocC{fl:Bool}{y:T}(hy:W fl .Ss y):∀ {t:T},W fl .Cs t→W fl .Cs (t.snoc y):=by
 intro t h
 generalize ho:So.Cs=o at h
 induction h with
 | cnil=>exact .ccons _ _ hy .cnil
 | ccons a t ha ht _ ih=>exact .ccons _ _ ha (ih rfl)
 | _=>cases ho
def logic(op:Str):Bool:=op.toList == [38,38] || op.toList == [124,124]
def T.cyc:T→Nat
 | .nil=>0
 | .cons h t=>h.cyc+t.cyc
 | .x kind _ op kids body=>body.cyc+(if kind=2∧logic op=true then 1 else 0)+kids.cyc
 | .s kind _ _ _ ex body els _ _ cases=>ex.cyc+body.cyc+els.cyc+cases.len+(if kind=3∨kind=4∨kind=5 then 1 else 0)+cases.cyc
def T.calls(name:Str):T→Bool
 | .nil=>false
 | .cons h t=>h.calls name || t.calls name
 | .x kind _ op kids body=>(kind == 5 && op.toList == name.toList) || kids.calls name || body.calls name
 | .s _ _ _ _ ex body els _ _ cases=>ex.calls name || body.calls name || els.calls name || cases.calls name
inductive N where
 | nil
 | cons (h t:N)
 | n (kind text:Str) (num:Int) (kids:N)
def N.len:N→Nat
 | .cons _ t=>t.len+1
 | _=>0
def N.snoc:N→N→N
 | .cons h t,y=>.cons h (t.snoc y)
 | _,y=>.cons y .nil
def N.g:N→G
 | .nil=>.nil
 | .cons h t=>.cons h.g t.g
 | .n kind text num kids=>.at (.string kind) (.at (.string text) (.at (.int .i64 num) (.sl kids.g .fin)))
theorem N.g_len(t:N):t.g.len=t.len:=by
 induction t with
 | cons h t _ ih=>simp only[N.g,G.len,N.len,ih]
 | _=>rfl
def N.isList:N→Prop
 | .nil=>True
 | .cons _ t=>t.isList
 | _=>False
theorem N.g_isList(t:N)(h:t.isList):t.g.isList:=by
 induction t with
 | cons h t _ ih=>simp only[N.g,G.isList];exact ih h
 | nil=>trivial
 | n=>exact h.elim
theorem N.g_snoc(t y:N)(h:t.isList):(t.snoc y).g=t.g.snoc y.g:=by
 induction t with
 | cons hd tl _ ih=>simp only[N.snoc,N.g,G.snoc,ih h]
 | nil=>rfl
 | n=>exact h.elim
theorem N.len_snoc(t y:N)(h:t.isList):(t.snoc y).len=t.len+1:=by
 induction t with
 | cons hd tl _ ih=>simp only[N.snoc,N.len,ih h]
 | nil=>rfl
 | n=>exact h.elim
def kIdent:Str:=⟨#[73,100,101,110,116]⟩
def kList:Str:=⟨#[108,105,115,116]⟩
def kBin:Str:=⟨#[66,105,110,97,114,121,69,120,112,114]⟩
def kUn:Str:=⟨#[85,110,97,114,121,69,120,112,114]⟩
def kParen:Str:=⟨#[80,97,114,101,110,69,120,112,114]⟩
def kCall:Str:=⟨#[67,97,108,108,69,120,112,114]⟩
def kFuncLit:Str:=⟨#[70,117,110,99,76,105,116]⟩
def kFuncType:Str:=⟨#[70,117,110,99,84,121,112,101]⟩
def kFieldList:Str:=⟨#[70,105,101,108,100,76,105,115,116]⟩
def kBlock:Str:=⟨#[66,108,111,99,107,83,116,109,116]⟩
def kAssign:Str:=⟨#[65,115,115,105,103,110,83,116,109,116]⟩
def kInc:Str:=⟨#[73,110,99,68,101,99,83,116,109,116]⟩
def kIf:Str:=⟨#[73,102,83,116,109,116]⟩
def kFor:Str:=⟨#[70,111,114,83,116,109,116]⟩
def kRange:Str:=⟨#[82,97,110,103,101,83,116,109,116]⟩
def kLit:Str:=⟨#[66,97,115,105,99,76,105,116]⟩
def kCase:Str:=⟨#[67,97,115,101,67,108,97,117,115,101]⟩
def kSwitch:Str:=⟨#[83,119,105,116,99,104,83,116,109,116]⟩
def kExprS:Str:=⟨#[69,120,112,114,83,116,109,116]⟩
def kComm:Str:=⟨#[67,111,109,109,67,108,97,117,115,101]⟩
def kSelect:Str:=⟨#[83,101,108,101,99,116,83,116,109,116]⟩
def kBranch:Str:=⟨#[66,114,97,110,99,104,83,116,109,116]⟩
def kReturn:Str:=⟨#[82,101,116,117,114,110,83,116,109,116]⟩
def kLabeled:Str:=⟨#[76,97,98,101,108,101,100,83,116,109,116]⟩
def kFuncDecl:Str:=⟨#[70,117,110,99,68,101,99,108]⟩
def sNot:Str:=⟨#[33]⟩
def sArrow:Str:=⟨#[60,45]⟩
def sCh:Str:=⟨#[99,104]⟩
def s7:Str:=⟨#[55]⟩
def N.none:N:=.n sE sE 0 .nil
def N.part(k:Str)(kids:N):N:=.n k sE 0 kids
def N.list(l:N):N:=.part kList l
def N.one(x:N):N:=.cons x .nil
def N.two(x y:N):N:=.cons x (.cons y .nil)
def N.three(x y z:N):N:=.cons x (.cons y (.cons z .nil))
def N.four(x y z u:N):N:=.cons x (.cons y (.cons z (.cons u .nil)))
def N.name(s:Str)(i:Int):N:=.n kIdent s i .nil
def N.var(n:Nat):N:=.name (strOf [118,(97+n).toUInt8]) (n+1:Nat)
def labNum(s:Str):Nat:=s.data.toList.tail.foldl (fun n b=>n*10+(b.toNat-48)) 0
def N.label(s:Str):N:=.name s (50+labNum s:Nat)
def N.block(l:N):N:=.part kBlock (.one (.list l))
def N.ftype:N:=.part kFuncType (.three .none (.part kFieldList (.one .none)) .none)
def N.lit(i:Nat):N:=.n kLit (strOf [(48+i).toUInt8]) 1 .nil
def N.first:N→N
 | .cons h _=>h
 | _=>.none
def N.clause(m:Nat)(last:Bool)(l:N):N :=
 if m%2=0 then .part kCase (.two (if last=true then .none else .list (.one (.lit (1+m / 2)))) (.list l))
 else .part kComm (.two (if last=true then .none else .part kExprS (.one (.n kUn sArrow 0 (.one (.name sCh 0))))) (.list l))
def T.isNil:T→Bool
 | .nil=>true
 | _=>false
def T.N:T→Nat→N
 | .nil,_=>.nil
 | .cons h t,0=>.cons (h.N 0) (t.N 0)
 | .cons h t,m+1=>.cons (.clause m t.isNil (h.N 0)) (t.N (m+3))
 | .x kind n op kids body,_ =>
   if kind=1 then .var n else if kind=2 then .n kBin op 0 (kids.N 0) else if kind=3 then .n kUn sNot 0 (kids.N 0) else if kind=4 then .part kParen (kids.N 0)
   else if kind=5 then .part kCall (.two (.name op 0) (.list (kids.N 0))) else if kind=6 then .part kFuncLit (.two .ftype (.block (body.N 0))) else .lit 7
 | .s kind n op label ex body els has chain cases,_ =>
   if kind=1 then .n kAssign (op++⟨#[61]⟩) 0 (.two (.list (.one (.var n))) (.list (.one (ex.N 0))))
   else if kind=2 then .n kInc op 0 (.one (.var n))
   else if kind=3 then .part kIf (.four .none (ex.N 0) (.block (body.N 0)) (if chain=true then (els.N 0).first else if has=true then .block (els.N 0) else .none))
   else if kind=4 then .part kFor (.four .none (ex.N 0) .none (.block (body.N 0)))
   else if kind=5 then .part kRange (.four .none .none (ex.N 0) (.block (body.N 0)))
   else if kind=6 then .part kSwitch (.three .none (ex.N 0) (.part kBlock (.one (.list (cases.N 1)))))
   else if kind=7 then .part kSelect (.one (.part kBlock (.one (.list (cases.N 2)))))
   else if kind=8 then .n kBranch op 0 (.one (if label.data.size=0 then .none else .label label))
   else if kind=9 then .part kReturn (.one (.list (.one (ex.N 0))))
   else if kind=10 then .block (body.N 0)
   else if kind=11 then .part kLabeled (.two (.label label) (body.N 0).first)
   else .part kExprS (.one (ex.N 0))
def N.func(called:Str)(body:N):N:=.part kFuncDecl (.four .none (.name called 0) .ftype (.block body))
inductive K where
 | none | list | ident | lit | flit | paren | call | un | bin | ftype | flist | exprS | inc | assign | ret | branch | block | if_ | case_ | switch | comm | select | for_ | range | labeled | func
def K.str:K→Str
 | .none=>sE | .list=>kList | .ident=>kIdent | .lit=>kLit | .flit=>kFuncLit | .paren=>kParen | .call=>kCall | .un=>kUn | .bin=>kBin | .ftype=>kFuncType | .flist=>kFieldList
 | .exprS=>kExprS | .inc=>kInc | .assign=>kAssign | .ret=>kReturn | .branch=>kBranch | .block=>kBlock | .if_=>kIf | .case_=>kCase | .switch=>kSwitch | .comm=>kComm | .select=>kSelect
 | .for_=>kFor | .range=>kRange | .labeled=>kLabeled | .func=>kFuncDecl
def K.ty:K→Nat
 | .none=>0 | .list=>0 | .ident=>128 | .lit=>188 | .flit=>215 | .paren=>222 | .call=>177 | .un=>241 | .bin=>244 | .ftype=>256 | .flist=>206
 | .exprS=>279 | .inc=>285 | .assign=>288 | .ret=>297 | .branch=>300 | .block=>304 | .if_=>307 | .case_=>310 | .switch=>313 | .comm=>319 | .select=>322
 | .for_=>325 | .range=>328 | .labeled=>277 | .func=>125
def K.pty:K→Nat
 | .none=>0 | .list=>0 | .ident=>121 | .lit=>183 | .flit=>211 | .paren=>220 | .call=>172 | .un=>238 | .bin=>242 | .ftype=>122 | .flist=>120
 | .exprS=>278 | .inc=>283 | .assign=>286 | .ret=>295 | .branch=>298 | .block=>123 | .if_=>305 | .case_=>308 | .switch=>311 | .comm=>317 | .select=>320
 | .for_=>323 | .range=>326 | .labeled=>272 | .func=>54
def K.arity:K→Nat
 | .none | .list | .ident | .lit=>0
 | .paren | .un | .flist | .exprS | .inc | .ret | .branch | .block | .select=>1
 | .flit | .call | .bin | .assign | .case_ | .comm | .labeled=>2
 | .ftype | .switch=>3
 | .if_ | .for_ | .range | .func=>4
inductive A where
 | nil
 | cons (h t:A)
 | n (k:K) (text:Str) (num:Int) (o:Option Addr) (b:Nat) (f0 f1 f2 f3:A)
def A.N:A→N
 | .nil=>.nil
 | .cons h t=>.cons h.N t.N
 | .n k text num _ _ f0 f1 f2 f3 =>
   .n k.str text num (match k with
    | .list=>f0.N
    | k=>match k.arity with
      | 0=>.nil
      | 1=>.one f0.N
      | 2=>.two f0.N f1.N
      | 3=>.three f0.N f1.N f2.N
      | _=>.four f0.N f1.N f2.N f3.N)
def A.K:A→K
 | .n k ..=>k
 | _=>.none
def toks:List (List UInt8):=[[73,78,84],[70,76,79,65,84],[73,77,65,71],[67,72,65,82],[83,84,82,73,78,71],[43],[45],[42],[47],[37],[38],[124],[94],[60,60],[62,62],[38,94],
 [43,61],[45,61],[42,61],[47,61],[37,61],[38,61],[124,61],[94,61],[60,60,61],[62,62,61],[38,94,61],[38,38],[124,124],[60,45],[43,43],[45,45],[61,61],[60],[62],[61],[33],[33,61],[60,61],[62,61],[58,61],[46,46,46],[126],
 [98,114,101,97,107],[99,111,110,115,116],[99,111,110,116,105,110,117,101],[102,97,108,108,116,104,114,111,117,103,104],[103,111,116,111],[105,109,112,111,114,116],[116,121,112,101],[118,97,114]]
def tokN(s:Str):Nat:=if toks.findIdx (fun x=>x == s.data.toList)<51 then toks.findIdx (fun x=>x == s.data.toList)+1 else 0
def tokOf(s:Str):Int:=tokN s
def A.g:A→Nat→G→G
 | .nil,_,_=>.nil
 | .cons h t,_,_=>.cons (h.g 1 .fin) (t.g 3 .fin)
 | .n k text num o b f0 f1 f2 f3,m,r =>
   match k with
   | .none=>if m=2 then .sl .nil r else .at (if m=1 then .nilIface else .pointer none) r
   | .list=>.sl (f0.g 3 .fin) r
   | k=>.pt b k.ty (if m=1 then some k.pty else none) (match k with
     | .ident=>.at (.string text) (.at (.pointer o) .fin)
     | .lit=>.at (.int .i64 num) (.at (.string text) .fin)
     | .flit=>f0.g 0 (f1.g 0 .fin)
     | .call=>f0.g 1 (f1.g 2 .fin)
     | .un=>.at (.int .i64 (tokOf text)) (f0.g 1 .fin)
     | .bin=>f0.g 1 (.at (.int .i64 (tokOf text)) (f1.g 1 .fin))
     | .ftype=>f0.g 0 (f1.g 0 (f2.g 0 .fin))
     | .inc=>f0.g 1 (.at (.int .i64 (tokOf text)) .fin)
     | .assign=>f0.g 2 (.at (.int .i64 (tokOf text)) (f1.g 2 .fin))
     | .branch=>.at (.int .i64 (tokOf text)) (f0.g 0 .fin)
     | .flist | .ret | .block=>f0.g 2 .fin
     | .if_=>f0.g 1 (f1.g 1 (f2.g 0 (f3.g 1 .fin)))
     | .case_=>f0.g 2 (f1.g 2 .fin)
     | .switch=>f0.g 1 (f1.g 1 (f2.g 0 .fin))
     | .comm=>f0.g 1 (f1.g 2 .fin)
     | .select=>f0.g 0 .fin
     | .for_=>f0.g 1 (f1.g 1 (f2.g 1 (f3.g 0 .fin)))
     | .range=>f0.g 1 (f1.g 1 (.at (.int .i64 (tokOf text)) (f2.g 1 (f3.g 0 .fin))))
     | .labeled=>f0.g 0 (f1.g 1 .fin)
     | .func=>f0.g 0 (f1.g 0 (f2.g 0 (f3.g 0 .fin)))
     | _=>f0.g 1 .fin) r
def A.blocks:A→List Nat
 | .nil=>[]
 | .cons h t=>h.blocks++t.blocks
 | .n k _ _ _ b f0 f1 f2 f3=>(match k with | .none | .list=>[] | _=>[b])++(f0.blocks++(f1.blocks++(f2.blocks++f3.blocks)))
def A.objs(f:Int→Option Addr):A→Prop
 | .nil=>True
 | .cons h t=>h.objs f∧t.objs f
 | .n k _ num o _ f0 f1 f2 f3=>(match k with | .ident=>o=if 0<num then f num else Option.none | _=>True)∧(match k with | .ident=>0<num→f num≠Option.none | _=>True)∧f0.objs f∧f1.objs f∧f2.objs f∧f3.objs f
def Ext(f f':Int→Option Addr):Prop:=∀ i,f i≠Option.none→f' i=f i
theorem Ext.refl(f:Int→Option Addr):Ext f f:=fun _ _=>rfl
theorem Ext.trans{f g h:Int→Option Addr}(a:Ext f g)(b:Ext g h):Ext f h:=fun i hi=>(b i (by rw[a i hi];exact hi)).trans (a i hi)
theorem A.objs_ext{f f':Int→Option Addr}(h:Ext f f'):∀ (a:A),a.objs f→a.objs f'
 | .nil,_=>trivial
 | .cons x t,⟨h1,h2⟩=>⟨A.objs_ext h x h1,A.objs_ext h t h2⟩
 | .n k text num o b f0 f1 f2 f3,⟨h1,h1',h2,h3,h4,h5⟩=>by
   refine⟨?_,?_,A.objs_ext h f0 h2,A.objs_ext h f1 h3,A.objs_ext h f2 h4,A.objs_ext h f3 h5⟩
   · cases k<;>try trivial
     simp only at h1 h1' ⊢
     rw[h1]
     split
     · rename_i hn;exact(h _ (h1' hn)).symm
     · rfl
   · cases k<;>try trivial
     simp only at h1' ⊢
     intro hn
     rw[h _ (h1' hn)]
     exact h1' hn
def LIn(l:List Nat)(lo hi:Nat):Prop:=l.Nodup∧∀ b∈l,lo≤b∧b<hi
theorem LIn.append{l l':List Nat}{lo mid mid' hi:Nat}(h:LIn l lo mid)(h':LIn l' mid' hi)(h1:mid≤mid')(h0:lo≤mid')(h2:mid≤hi):LIn (l++l') lo hi:=by
 refine⟨List.nodup_append.2 ⟨h.1,h'.1,fun x hx y hy e=>?_⟩,fun b hb=>?_⟩
 · have:=h.2 x hx;have:=h'.2 y hy;omega
 · rcases List.mem_append.1 hb with hb|hb
   · have:=h.2 b hb;omega
   · have:=h'.2 b hb;omega
theorem LIn.swap{l l':List Nat}{lo hi:Nat}(h:LIn (l++l') lo hi):LIn (l'++l) lo hi:=by
 obtain⟨h1,h2⟩:=h
 rw[List.nodup_append]at h1
 exact⟨List.nodup_append.2 ⟨h1.2.1,h1.1,fun x hx y hy e=>h1.2.2 y hy x hx e.symm⟩,fun b hb=>h2 b (by simpa [or_comm]using hb)⟩
theorem LIn.nil{lo hi:Nat}:LIn [] lo hi:=⟨List.nodup_nil,by simp⟩
theorem LIn.one{b lo hi:Nat}(h:lo≤b)(h':b<hi):LIn [b] lo hi:=⟨by simp,by simp;omega⟩
def N.cost:N→Nat
 | .nil=>0
 | .cons h t=>h.cost+t.cost
 | .n kind _ _ kids=>(if kind.data.toList=[]∨kind.data.toList=kList.data.toList then 0 else 1)+kids.cost
def N.deep:N→Nat
 | .nil=>0
 | .cons h t=>max h.deep t.deep
 | .n kind _ _ kids=>(if kind.data.toList=[]∨kind.data.toList=kList.data.toList then 0 else 1)+kids.deep
def N.get:N→Nat→Gc.N
 | .cons h _,0=>h
 | .cons _ t,k+1=>t.get k
 | _,_=>.nil
def N.All(P:N→Prop):N→Prop
 | .cons h t=>P h∧t.All P
 | _=>True
theorem N.All.get{P:N→Prop}:∀ {t:N} {k:Nat},t.All P→k<t.len→P (t.get k)
 | .cons _ _,0,h,_=>h.1
 | .cons _ t,k+1,h,hk=>N.All.get (t:=t) h.2 (by simp only[N.len]at hk;omega)
 | .nil,_,_,h | .n ..,_,_,h=>by simp[N.len]at h
def N.isN:N→Prop
 | .n _ _ _ kids=>kids.isList
 | _=>False
theorem n_len{w:World}{D:Nat→Prop}:∀ {n:N},n.isN→∀ {hs:List Value},Rep w D n.g hs→hs.length=4
 | .n kind text num kids,_,hs,h=>by
   obtain⟨_,rfl,_,rfl,_,rfl,v,_,rfl,_,rfl⟩:=h
   rfl
 | .nil,h,_,_ | .cons ..,h,_,_=>h.elim
theorem rep_at_N{w:World}{D:Nat→Prop}:∀ {t:N} {g o n c k:Nat},Rep w D t.g [.slice (some ⟨g,o,none⟩) n c]→t.isList→t.All Gc.N.isN→k<t.len →
 ∃ kd tx i a m c' kids,t.get k=.n kd tx i kids∧kids.isList∧Rep w D kids.g [.slice a m c']∧D g∧g<w.heap.size∧w.cell? ⟨g,o+k*4,none⟩=some (.string kd)∧w.cell? ⟨g,o+k*4+1,none⟩=some (.string tx)∧w.cell? ⟨g,o+k*4+2,none⟩=some (.int .i64 i)∧w.cell? ⟨g,o+k*4+3,none⟩=some (.slice a m c')
 | .cons h t,g,o,n,c,k,hr,hl,ha,hk=>by
   obtain⟨g',o',n',c',hs,e,⟨hD,hg⟩,hx,hc,ht⟩:=hr
   simp only[List.cons.injEq,Value.slice.injEq,and_true,Option.some.injEq,Addr.mk.injEq]at e
   obtain⟨⟨rfl,rfl⟩,rfl,rfl⟩:=e
   have hlen:hs.length=4:=n_len ha.1 hx
   cases k with
   | zero =>
     match h,ha.1 with
     | .n kind text num kids,hk=>
       obtain⟨_,rfl,_,rfl,_,rfl,v,_,rfl,hkids,rfl⟩:=hx
       have hkl:∃ a m c',v=.slice a m c':=by
        cases kids with
        | nil=>obtain⟨a,c,e⟩:=hkids;simp only[List.cons.injEq,and_true]at e;exact⟨_,_,_,e⟩
        | cons=>obtain⟨_,_,_,_,_,e,_⟩:=hkids;simp only[List.cons.injEq,and_true]at e;exact⟨_,_,_,e⟩
        | n=>exact hk.elim
       obtain⟨a,m,c'',rfl⟩:=hkl
       exact⟨kind,text,num,a,m,c'',kids,rfl,hk,hkids,hD,hg,by simpa using hc 0 _ rfl,by simpa using hc 1 _ rfl,by simpa using hc 2 _ rfl,by simpa using hc 3 _ rfl⟩
   | succ k =>
     rw[hlen]at ht
     obtain⟨kd,tx,i,a,m,c'',kids,h1,h2,h3,h4,h5,h6,h7,h8,h9⟩:=rep_at_N (t:=t) (k:=k) ht hl ha.2 (by simp only[N.len]at hk;omega)
     exact⟨kd,tx,i,a,m,c'',kids,h1,h2,h3,h4,h5,by rw[show o+(k+1)*4=o+4+k*4 by omega];exact h6,by rw[show o+(k+1)*4=o+4+k*4 by omega];exact h7,by rw[show o+(k+1)*4=o+4+k*4 by omega];exact h8,by rw[show o+(k+1)*4=o+4+k*4 by omega];exact h9⟩
 | .nil,_,_,_,_,_,_,_,_,h | .n ..,_,_,_,_,_,_,_,_,h=>by simp[N.len]at h
section
variable {P:Program} {w:World} {D:Nat→Prop} {base E size:Nat} {v:Value} {l:G}
theorem run_append_one(t ty:TypeId)(i:TypeInfo)(z:Value)(bytes:Nat)(ht:P.underlying t=some (.slice E))(hi:P.info? E=some i)(hz:i.zero=some z)
 (hsize:i.size=size) (hby:i.bytes=bytes) (hzs:z.cells.size=size)
 (hown:OwnL w D base E size v l) (a:Addr) (c:Nat) (x:G) (news:List Value) (hl:news.length=size) (hnews:∀ j u,news[j]?=some u→w.cell? (a.add j)=some u)
 (h1:∀ u∈news,u.oneCell'=true) (hx:Rep w (fun b=>D b∧some b≠v.ownBlock) x news)
 (hn:l.len≤1000000) (hb:bytes≤1000000) (hbase:base≤w.heap.size) :
 ∃ v' w',(Builtin.append_ #[t,t] ty #[v,.slice (some a) 1 c]).run P w=.ok v' w'∧OwnL w' D base E size v' (l.snoc x)∧Kept (fun k=>some k=v.ownBlock) w w' ∧
  (v'.ownBlock=v.ownBlock∨v'.ownBlock=some w.heap.size)∧v'≠.slice none 0 0:=by
 obtain⟨xs,ho,hr⟩:=hown
 have hlist:=hr.isList
 have hlen:=G.len_snoc l x hlist
 have hl':news.length=1*i.size:=by rw[hl,hsize];omega
 have hmul:(l.len+1)*bytes≤1000001*1000000:=Nat.mul_le_mul (by omega) hb
 have hxs:xs.length=l.len*size:=ho.1
 have hr':=hr.snoc hx
 have grown:∀ (old:Nat),old<l.len+1 →
  OwnL (w.drew.alloc (.cells (xs.toArray++news.toArray++Builtin.zeroCells z.cells (grownCap w (l.len+1) old E-(l.len+1))) E)) D base E size
   (.slice (some ⟨w.heap.size,0,none⟩) (l.len+1) (grownCap w (l.len+1) old E)) (l.snoc x):=by
  intro old hold
  have hge:=grownCap_ge w (l.len+1) old E
  have hcm:grownCap w (l.len+1) old E≤maxLen:=grownCap_le_maxLen w (l.len+1) old E (by unfold maxLen;omega)
  refine⟨xs++news,⟨?_,.inr ⟨w.heap.size,_,_,by rw[hlen],hbase,heap_alloc_new w.drew _,by rw[hlen];exact hge,hcm,?_,?_⟩⟩,?_⟩
  · rw[List.length_append,hxs,hl,hlen,Nat.add_mul,Nat.one_mul]
  · simp only[Array.size_append,List.size_toArray,size_zeroCells,hzs,hxs,hl]
    rw[← Nat.succ_mul,← Nat.add_mul]
    congr 1
    omega
  · simp only[Array.toList_append,List.append_assoc,hlen]
    rw[← List.append_assoc]
    have:(l.len+1)*size=(xs++news).length:=by rw[List.length_append,hxs,hl,Nat.add_mul,Nat.one_mul]
    rw[this]
    exact List.take_left
  · have hk:Kept (fun _=>False) w (w.drew.alloc (.cells (xs.toArray++news.toArray++Builtin.zeroCells z.cells (grownCap w (l.len+1) old E-(l.len+1))) E)):=(Kept.drew _ w).trans (Kept.alloc _ _ _)
    refine((hr'.imp (D':=fun b=>D b∧b<w.heap.size) fun b hlt hb=>⟨hb.1,hlt⟩).kept hk (fun _ _=>id)).imp fun b _ hb=>⟨hb.1,?_⟩
    simp only[Value.ownBlock,ne_eq,Option.some.injEq]
    omega
 rcases ho.2 with ⟨rfl,h0⟩|⟨g,cap,cur,rfl,hbg,hg,hnc,hcm,hcs,htake⟩
 · have hx0:xs=[]:=List.eq_nil_of_length_eq_zero (by rw[hxs,h0];simp)
   subst hx0
   have hrun:=run_append_nil (P:=P) w t ty E i z ht hi hz a 1 c news hl' hnews (by omega) (by omega) (by rw[hby];omega)
   have hgr:=grown 0 (by omega)
   rw[h0]at hgr
   simp only[Nat.zero_add,Array.empty_append]at hgr
   exact⟨_,_,hrun,hgr,(Kept.drew _ w).trans (Kept.alloc _ _ _),.inr rfl,by simp⟩
 · by_cases hroom:l.len+1≤cap
   · have hfit:l.len*i.size+news.length≤cur.size:=by rw[hl,hcs,hsize,← Nat.succ_mul];exact Nat.mul_le_mul_right _ hroom
     have hrun:=run_append_room (P:=P) w t ty E i ht hi g l.len cap cur hg a 1 c news hl' hnews h1 hroom hfit
     have hkept:Kept (fun k=>some k=Value.ownBlock (.slice (some ⟨g,0,none⟩) l.len cap)) w (w.setRow g (cur.toList.take (l.len*i.size)++news++cur.toList.drop (l.len*i.size+news.length)).toArray) :=
      ⟨rfl,rfl,rfl,by simp,fun k _ hk=>setRow_other w g k _ (fun e=>hk (by simp[Value.ownBlock,e]))⟩
     refine⟨_,_,hrun,⟨xs++news,⟨?_,.inr ⟨g,cap,_,by rw[hlen],hbg,setRow_heap w g cur _ E _ hg,by rw[hlen];exact hroom,hcm,?_,?_⟩⟩,?_⟩,hkept,.inl rfl,by simp⟩
     · rw[List.length_append,hxs,hl,hlen,Nat.add_mul,Nat.one_mul]
     · simp only[List.size_toArray,List.length_append,List.length_take,List.length_drop,Array.length_toList]
       omega
     · rw[hsize,htake,hlen]
       have:(l.len+1)*size=(xs++news).length:=by rw[List.length_append,hxs,hl,Nat.add_mul,Nat.one_mul]
       rw[this]
       exact List.take_left
     · exact hr'.kept hkept fun b hb e=>hb.2 e
   · have holds:∀ j u,xs[j]?=some u→w.cell? ((⟨g,0,none⟩:Addr).add j)=some u:=ho.cells (g:=g) rfl
     have hrun:=run_append_grow (P:=P) w t ty E i z ht hi hz ⟨g,0,none⟩ l.len cap xs (by rw[hxs,hsize]) holds a 1 c news hl' hnews (by omega) (by omega) (growslice_fits (by omega) (by rw[hby];omega))
     exact⟨_,_,hrun,grown cap (by omega),(Kept.drew _ w).trans (Kept.alloc _ _ _),.inr rfl,by simp⟩
theorem run_append_one'(t ty:TypeId)(i:TypeInfo)(z:Value)(bytes:Nat)(ht:P.underlying t=some (.slice E))(hi:P.info? E=some i)(hz:i.zero=some z)
 (hsize:i.size=size) (hby:i.bytes=bytes) (hzs:z.cells.size=size)
 (hown:OwnL w D base E size v l) (n:Nat) (hnl:l.len=n) (a:Addr) (c:Nat) (x:G) (news:List Value) (hl:news.length=size) (hnews:∀ j u,news[j]?=some u→w.cell? (a.add j)=some u)
 (h1:∀ u∈news,u.oneCell'=true) (hx:Rep w (fun b=>D b∧some b≠v.ownBlock) x news)
 (hn:n≤1000000) (hb:bytes≤1000000) (hbase:base≤w.heap.size) :
 ∃ g cap w',(Builtin.append_ #[t,t] ty #[v,.slice (some a) 1 c]).run P w=.ok (.slice (some ⟨g,0,none⟩) (n+1) cap) w'∧OwnL w' D base E size (.slice (some ⟨g,0,none⟩) (n+1) cap) (l.snoc x) ∧
  Kept (fun k=>some k=v.ownBlock) w w'∧(v.ownBlock=some g∨g=w.heap.size)∧g<w'.heap.size:=by
 subst hnl
 obtain⟨v',w',hr,ho,hk,hb',hne⟩:=run_append_one (P:=P) (w:=w) t ty i z bytes ht hi hz hsize hby hzs hown a c x news hl hnews h1 hx hn hb hbase
 have hlen:(l.snoc x).len=l.len+1:=by
  obtain⟨xs,_,hr⟩:=hown
  exact G.len_snoc l x hr.isList
 have hown':=ho
 obtain⟨xs',ho',_⟩:=hown'
 rw[hlen]at ho'
 rcases ho'.2 with ⟨e,_⟩|⟨g,cap,cur,rfl,hbg,hg,_⟩
 · exact(hne e).elim
 · refine⟨g,cap,w',hr,ho,hk,?_,lt_of_heap hg⟩
   rcases hb' with e|e
   · exact .inl e.symm
   · exact .inr (by simpa [Value.ownBlock]using e)
theorem wpList_append_one{ops:Array Oper}{rest:List Oper}{o:Oper}{A:Act}{Q:Exit→Act→World→Prop}(hgd:o.guard=none)(s y:Operand)(t:TypeId)
 (ho:o.op=.call { callee:=.builtin .append,args:=#[s,y],argTypes:=#[t,t] })
 (i:TypeInfo) (z:Value) (bytes:Nat) (ht:P.underlying t=some (.slice E)) (hi:P.info? E=some i) (hz:i.zero=some z)
 (hsize:i.size=size) (hby:i.bytes=bytes) (hzs:z.cells.size=size)
 (hs:A.eval s=v) (hown:OwnL w D base E size v l) (n:Nat) (hnl:l.len=n) (a:Addr) (c:Nat) (hy:A.eval y=.slice (some a) 1 c) (x:G) (news:List Value) (hl:news.length=size) (hnews:∀ j u,news[j]?=some u→w.cell? (a.add j)=some u)
 (h1:∀ u∈news,u.oneCell'=true) (hx:Rep w (fun b=>D b∧some b≠v.ownBlock) x news)
 (hn:n≤1000000) (hb:bytes≤1000000) (hbase:base≤w.heap.size)
 (h:∀ g cap w',OwnL w' D base E size (.slice (some ⟨g,0,none⟩) (n+1) cap) (l.snoc x)→Kept (fun k=>some k=v.ownBlock) w w'→(v.ownBlock=some g∨g=w.heap.size)→g<w'.heap.size →
   wpList P ops Q rest (A.put o.dst (.slice (some ⟨g,0,none⟩) (n+1) cap)) w'):wpList P ops Q (o :: rest) A w:=by
 refine wpList_plain hgd fun K hK=>?_
 obtain⟨g,cap,w',hr,h2,h3,h4,h5⟩:=run_append_one' (P:=P) (w:=w) t o.type i z bytes ht hi hz hsize hby hzs hown n hnl a c x news hl hnews h1 hx hn hb hbase
 unfold Oper.wp execOp
 simp only[ho,resolve,invoke,builtin,Sem.run_bind,Sem.run_pure,Result.andThen_ok,List.map_toArray,List.map_cons,List.map_nil,hs,hy,hr]
 exact hK _ _ (h g cap w' h2 h3 h4 h5)
theorem step_append_one{ops:Array Oper}{o:Oper}{A:Act}{K:Act→World→Prop}{Q:Exit→Act→World→Prop}{R:Prop}(hgd:o.guard=none)(s y:Operand)(t:TypeId)
 (ho:o.op=.call { callee:=.builtin .append,args:=#[s,y],argTypes:=#[t,t] })
 (i:TypeInfo) (z:Value) (bytes:Nat) (ht:P.underlying t=some (.slice E)) (hi:P.info? E=some i) (hz:i.zero=some z)
 (hsize:i.size=size) (hby:i.bytes=bytes) (hzs:z.cells.size=size)
 (hs:A.eval s=v) (hown:OwnL w D base E size v l) (n:Nat) (hnl:l.len=n) (a:Addr) (c:Nat) (hy:A.eval y=.slice (some a) 1 c) (x:G) (news:List Value) (hl:news.length=size) (hnews:∀ j u,news[j]?=some u→w.cell? (a.add j)=some u)
 (h1:∀ u∈news,u.oneCell'=true) (hx:Rep w (fun b=>D b∧some b≠v.ownBlock) x news)
 (hn:n≤1000000) (hb:bytes≤1000000) (hbase:base≤w.heap.size)
 (h:∀ g cap w',OwnL w' D base E size (.slice (some ⟨g,0,none⟩) (n+1) cap) (l.snoc x)→Kept (fun k=>some k=v.ownBlock) w w'→(v.ownBlock=some g∨g=w.heap.size)→g<w'.heap.size →
   K (A.put o.dst (.slice (some ⟨g,0,none⟩) (n+1) cap)) w'):if Region.wanted o (yielded ops A.tmps)=true then Oper.wp P o A w K Q else R:=by
 have hw:Region.wanted o (yielded ops A.tmps)=true:=by simp[Region.wanted,hgd]
 rw[if_pos hw]
 obtain⟨g,cap,w',hr,h2,h3,h4,h5⟩:=run_append_one' (P:=P) (w:=w) t o.type i z bytes ht hi hz hsize hby hzs hown n hnl a c x news hl hnews h1 hx hn hb hbase
 unfold Oper.wp execOp
 simp only[ho,resolve,invoke,builtin,Sem.run_bind,Sem.run_pure,Result.andThen_ok,List.map_toArray,List.map_cons,List.map_nil,hs,hy,hr]
 exact h g cap w' h2 h3 h4 h5
end
end Gc
namespace Go.Proofs.YtleolbpibjnedaaGreat
open Go Go.RowKit Gc
structure MC where
 m:Nat
 left:Int
 labels:Nat
 inner:Nat
def Nums(w:World)(mb:Nat)(ns:Value):Prop :=
 (∃ a cap,ns=.slice a 0 cap)∨∃ g o len cap,ns=.slice (some ⟨g,o,none⟩) len cap∧g≠mb∧0<len∧len≤100∧∀ k,k<len→∃ n:Nat,n<4294967296∧w.cell? ⟨g,o+k,none⟩=some (.int .u32 n)
def FlOk(fl:Bool):Prop:=fl=false
structure MSt (w:World) (mb:Nat) (ns:Value) (fl:Bool) (c:MC):Prop where
 obj:w.heap[mb]?=some (.cells [ns,.int .i64 (c.m:Int),.int .i64 c.left,.int .i64 (c.labels:Int),.int .i64 (c.inner:Int),.bool fl].toArray 80 (0,0))
 nums:Nums w mb ns
 tot:(c.m:Int)+c.left≤150
 lo:-400≤c.left
 lab:c.labels≤c.m
 inn:c.inner≤2
 flo:FlOk fl
theorem Nums.kept{w w':World}{mb:Nat}{ns:Value}(h:Nums w mb ns)(hk:Kept (fun b=>b=mb) w w'):Nums w' mb ns:=by
 rcases h with h|⟨g,o,len,cap,e,hg,h0,h1,hc⟩
 · exact .inl h
 · exact .inr ⟨g,o,len,cap,e,hg,h0,h1,fun k hlt=>let ⟨n,hn,hc⟩:=hc k hlt;⟨n,hn,hk.cell hc hg⟩⟩
theorem MSt.keptBut{w w':World}{mb:Nat}{ns:Value}{fl:Bool}{c:MC}(h:MSt w mb ns fl c){M:Nat→Prop}(hk:Kept M w w')(hM:∀ b,M b→w.heap.size≤b):MSt w' mb ns fl c :=
 have hk':Kept (fun _=>False) w w':=hk.mono fun k hlt hm=>by have:=hM k hm;omega
 ⟨hk'.obj h.obj (fun f=>f),h.nums.kept (hk'.mono fun _ _ f=>f.elim),h.tot,h.lo,h.lab,h.inn,h.flo⟩
theorem keptFresh{M:Nat→Prop}{w w1 w':World}(h:Kept M w w1)(h':Kept (fun b=>w.heap.size≤b) w1 w'):Kept M w w' :=
 ((h.mono (M':=fun b=>M b∨w.heap.size≤b) fun _ _ h=>.inl h).trans (h'.mono fun _ _ h=>.inr h)).fresh (Nat.le_refl _)
theorem MSt.later{w w1 w':World}{mb:Nat}{ns:Value}{fl:Bool}{c c':MC}(h:MSt w mb ns fl c)(hst:MSt w1 mb ns fl c')(hk:Kept (fun b=>b=mb) w w1)(hk':Kept (fun b=>w.heap.size≤b) w1 w'):MSt w' mb ns fl c' :=
 ⟨hk'.obj hst.obj (by have:=lt_of_heap h.obj;omega),h.nums.kept (keptFresh hk hk'),hst.tot,hst.lo,hst.lab,hst.inn,hst.flo⟩
theorem keptRules{w w':World}{mb B:Nat}(h:Kept (fun b=>b=mb) w w')(hB:mb<B) :
 (∀ b o,B≤b→b<w.heap.size→w'.cell? ⟨b,o,none⟩=w.cell? ⟨b,o,none⟩)∧(∀ b o,B≤b→b<w.heap.size→w'.frozen? ⟨b,o,none⟩=w.frozen? ⟨b,o,none⟩) :=
 ⟨fun b o h0 h1=>World.cell?_of_block (h.block b h1 (by omega)),fun b o h0 h1=>World.frozen?_of_block (h.block b h1 (by omega))⟩
structure Went (k O X:Int) (c c':MC):Prop where
 tot:(c'.m:Int)+c'.left=c.m+c.left
 le:c'.left+k≤c.left
 lab0:c.labels≤c'.labels
 lab1:(c'.labels:Int)+c'.left≤c.labels+c.left
 inner:c'.inner=c.inner
 low:0≤c.left→-O≤c'.left
 low':c.left<0→c.left-X≤c'.left
def NextN(w:World)(mb:Nat)(ns:Value)(fl:Bool)(c:MC)(n:Nat)(e:Ending)(w':World):Prop :=
 e=.returned (.int .u32 n)∧MSt w' mb ns fl { c with m:=c.m+1,left:=c.left-1 }∧Kept (fun b=>b=mb) w w'
theorem next_end{w w1:World}{mb:Nat}{ns:Value}{fl:Bool}{c:MC}(h:MSt w mb ns fl c)(hlo:-399≤c.left){e:Ending}{i:Int}(hk:Kept (fun b=>b=mb) w w1)(hobj:w1.heap[mb]?=w.heap[mb]?)
 (he:e=.returned (.int .u32 i)) (h0:0≤i) :
 NextN w mb ns fl c i.toNat e ((w1.setCell { block:=mb,off:=1 } (Value.int IntKind.i64 (↑c.m+1))).setCell { block:=mb,off:=2 } (Value.int IntKind.i64 (c.left-1))):=by
 have k2:Kept (fun b=>b=mb) w ((w1.setCell { block:=mb,off:=1 } (Value.int IntKind.i64 (↑c.m+1))).setCell { block:=mb,off:=2 } (Value.int IntKind.i64 (c.left-1))) :=
  hk.trans (Kept.set1e.trans Kept.set1e)
 have h':=h.obj
 rw[← hobj]at h'
 exact⟨by rw[he,Int.toNat_of_nonneg h0],⟨set_of_cells (set_of_cells h' 1 _) 2 _,h.nums.kept k2,by have:=h.tot;simp only[];omega,by simp only[];omega,by have:=h.lab;simp only[];omega,h.inn,h.flo⟩,k2⟩
theorem next_ex(w:World)(mb:Nat)(ns:Value)(fl:Bool)(c:MC)(h:MSt w mb ns fl c)(hlo:-399≤c.left) :
 ∃ n:Nat,n<536870912∧Calls Tryz.prog 42 #[.pointer (some ⟨mb,0,none⟩)] w (NextN w mb ns fl c n):=by
 obtain⟨m,left,labels,inner⟩:=c
 have c0:=cell_of_cells h.obj 0 rfl
 have c1:=cell_of_cells h.obj 1 rfl
 have c2:=cell_of_cells h.obj 2 rfl
 have f1:=free_of_cells h.obj 1
 have f2:=free_of_cells h.obj 2
 have ht:=h.tot
 have hm:m≤1000:=by have:=h.lo;simp only[]at ht this;omega
 have hl:-399≤left:=hlo
 have hl':left≤150:=by simp only[]at ht;omega
 rcases h.nums with ⟨a,cap,rfl⟩|⟨g,o,len,cap,rfl,hg,h0,h1,hc⟩
 · have H:=Lib.hid h
   clear h ht
   refine⟨(((m:Int)*40503+17) / 8).toNat,by omega,?_⟩
   go_enter Tryz.func42,Tryz.ntmps42
   go_wp2
   go_ret
   exact next_end H.out hlo (Kept.refl _ _) rfl rfl (by omega)
 · obtain⟨n,hn,hcn⟩:=hc (m%len) (Nat.mod_lt _ h0)
   have hlt:=Nat.mod_lt m h0
   have H:=Lib.hid h
   clear h hc ht
   refine⟨((((n:Int)*((2654435761+wrap64 ((m:Int) / (len:Int))%4294967296*2)%4294967296)+m)%4294967296) / 8).toNat,by omega,?_⟩
   go_enter Tryz.func42,Tryz.ntmps42
   go_wp2
   go_quiet (fail)
   go_wp2
   go_ret
   exact next_end H.out hlo (Kept.drewN _ w _) rfl rfl (by omega)
def NextP(w:World)(mb:Nat)(ns:Value)(fl:Bool)(c:MC)(e:Ending)(w':World):Prop :=
 ∃ n:Nat,n<536870912∧e=.returned (.int .u32 n)∧MSt w' mb ns fl { c with m:=c.m+1,left:=c.left-1 }∧Kept (fun b=>b=mb) w w'
theorem next_any(w:World)(mb:Nat)(ns:Value)(fl:Bool)(c:MC)(h:MSt w mb ns fl c)(hlo:-399≤c.left) :
 Calls Tryz.prog 42 #[.pointer (some ⟨mb,0,none⟩)] w (NextP w mb ns fl c):=by
 obtain⟨n,hn,hc⟩:=next_ex w mb ns fl c h hlo
 exact hc.mono fun e w' ⟨he,hs,hk⟩=>⟨n,hn,he,hs,hk⟩
theorem enc_digit(k:Nat)(hk:k<10):Utf8.encode (48+(k:Int))=strOf [(48+k).toUInt8]:=by
 have:k=0∨k=1∨k=2∨k=3∨k=4∨k=5∨k=6∨k=7∨k=8∨k=9:=by omega
 rcases this with rfl|rfl|rfl|rfl|rfl|rfl|rfl|rfl|rfl|rfl<;>rfl
theorem strOf_append(a b:List UInt8):strOf a++strOf b=strOf (a++b):=by
 apply ByteArray.ext
 show(strOf a++strOf b).data=_
 rw[ByteArray.data_append]
 simp[strOf]
theorem dec_lt{n:Nat}(h:n<10):dec n=[(48+n).toUInt8]:=by rw[dec];simp[h]
theorem dec_ge{n:Nat}(h:¬ n<10):dec n=dec (n / 10)++[(48+n%10).toUInt8]:=by rw[dec];simp[h]
theorem dec_len:∀ (k n:Nat),n<10 ^ (k+1)→(dec n).length≤k+1
 | 0,n,h=>by rw[dec_lt (by omega)];simp
 | k+1,n,h=>by
   by_cases hn:n<10
   · rw[dec_lt hn];simp
   · have:=dec_len k (n / 10) (by rw[Nat.pow_succ]at h;omega)
     rw[dec_ge hn]
     simp only[List.length_append,List.length_cons,List.length_nil]
     omega
theorem strOf_size(l:List UInt8):(strOf l).size=l.length:=by simp[strOf,ByteArray.size]
theorem decimal_any:∀ (m n:Nat),n≤m→n≤100000→∀ (w:World) (N:Int),N=n→Calls Tryz.prog 46 #[.int .i64 N] w (fun e w'=>e=.returned (.string (strOf (dec n)))∧w'=w):=by
 intro m
 induction m with
 | zero =>
   intro n hn hb w N hN
   obtain rfl:n=0:=by omega
   obtain rfl:N=0:=hN
   go_enter Tryz.func46,Tryz.ntmps46
   go_wp2_with fail
   go_ret
   exact⟨by rw[dec_lt (by decide)];rfl,rfl⟩
 | succ m ih =>
   intro n hn hb w N hN
   have h0:0≤N:=by omega
   have h1:N≤100000:=by omega
   have ih':=Lib.hid ih
   clear ih
   have hN':=Lib.hid hN
   by_cases hlt:N<10
   · clear hN
     go_enter Tryz.func46,Tryz.ntmps46
     go_wp2_with fail
     go_ret
     refine⟨?_,rfl⟩
     have e:N=n:=hN'.out
     subst e
     rw[dec_lt (by omega)]
     exact congrArg (fun s=>Ending.returned (.string s)) (enc_digit n (by omega))
   · clear hN
     go_enter Tryz.func46,Tryz.ntmps46
     go_wp2_with fail
     refine(ih'.out (n / 10) (by omega) (by omega) w _ (by have:=hN'.out;omega)).mono ?_
     rintro e w1 ⟨rfl,rfl⟩
     have hs1:(strOf (dec (n / 10))).size≤6:=by rw[strOf_size];exact dec_len 5 _ (by have:=hN'.out;omega)
     have hs2:(Utf8.encode (48+N%10)).size=1:=by
      have e:N%10=(n%10:Nat):=by have:=hN'.out;omega
      rw[e,enc_digit _ (by omega),strOf_size]
      rfl
     go_wp2_with fail
     go_ret
     refine⟨?_,rfl⟩
     have e:N=n:=hN'.out
     subst e
     have hd:strOf (dec n)=strOf (dec (n / 10))++Utf8.encode (48+((n%10:Nat):Int)):=by rw[dec_ge (n:=n) (by omega),enc_digit _ (by omega),strOf_append]
     show Ending.returned (.string (strOf (dec (n / 10))++Utf8.encode (48+((n:Int)%10))))=_
     rw[hd,Int.natCast_emod]
     rfl
open Go Gc
theorem ul_sX:Tryz.prog.underlying 62=some (.slice 64):=by kernel_rfl
theorem ul_sS:Tryz.prog.underlying 23=some (.slice 66):=by kernel_rfl
theorem ul_ssS:Tryz.prog.underlying 44=some (.slice 23):=by kernel_rfl
theorem ul_sStr:Tryz.prog.underlying 25=some (.slice 9):=by kernel_rfl
theorem ul_sN:Tryz.prog.underlying 28=some (.slice 30):=by kernel_rfl
theorem info_X:(Tryz.prog.info? 64).map (fun i=>(i.zero,i.size,i.bytes))=some (some (.agg #[.int .i64 0,.int .i64 0,.string ⟨#[]⟩,.slice none 0 0,.slice none 0 0]),5,80):=by kernel_rfl
theorem info_S:(Tryz.prog.info? 66).map (fun i=>(i.zero,i.size,i.bytes))=some (some (.agg #[.int .i64 0,.int .i64 0,.string ⟨#[]⟩,.string ⟨#[]⟩,.int .i64 0,.int .i64 0,.string ⟨#[]⟩,.slice none 0 0,.slice none 0 0,.slice none 0 0,.slice none 0 0,.bool false,.bool false,.slice none 0 0]),14,208):=by kernel_rfl
theorem info_sS:(Tryz.prog.info? 23).map (fun i=>(i.zero,i.size,i.bytes))=some (some (.slice none 0 0),1,24):=by kernel_rfl
theorem info_Str:(Tryz.prog.info? 9).map (fun i=>(i.zero,i.size,i.bytes))=some (some (.string ⟨#[]⟩),1,16):=by kernel_rfl
theorem info_N:(Tryz.prog.info? 30).map (fun i=>(i.zero,i.size,i.bytes))=some (some (.agg #[.string ⟨#[]⟩,.string ⟨#[]⟩,.int .i64 0,.slice none 0 0]),4,64):=by kernel_rfl
end Go.Proofs.YtleolbpibjnedaaGreat
