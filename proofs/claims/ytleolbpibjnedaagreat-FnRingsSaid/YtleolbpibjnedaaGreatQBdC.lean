/- Parts of syntax in memory, opened and shut. -/
import Derived.Test.YtleolbpibjnedaaGreatQBdB
import Derived.Maps.OwnOps
set_option linter.unusedSimpArgs false
set_option linter.unusedVariables false
set_option maxRecDepth 100000
set_option maxHeartbeats 4000000
namespace Gc
open Go
def A.isn:A→Prop
 | .n ..=>True
 | _=>False
theorem g_split{w:World}{D:Nat→Prop}{a:A}(hn:a.isn){m:Nat}{r:G}{vs:List Value}(h:Rep w D (a.g m r) vs):∃ v rs,vs=v :: rs∧Rep w D (a.g m .fin) [v]∧Rep w D r rs:=by
 cases a with
 | nil=>exact hn.elim
 | cons=>exact hn.elim
 | n k text num o b f0 f1 f2 f3 =>
   cases k
   case none =>
    simp only[A.g]at h ⊢
    split at h
    · obtain⟨v,rs,e,h1,h2⟩:=h
      rename_i hm
      refine⟨v,rs,e,?_,h2⟩
      rw[if_pos hm]
      exact⟨v,[],rfl,h1,rfl⟩
    · rename_i hm
      obtain⟨rs,e,h2⟩:=h
      refine⟨_,rs,e,?_,h2⟩
      rw[if_neg hm]
      exact⟨[],rfl,rfl⟩
   case list =>
    simp only[A.g]at h ⊢
    obtain⟨v,rs,e,h1,h2⟩:=h
    exact⟨v,rs,e,⟨v,[],rfl,h1,rfl⟩,h2⟩
   all_goals
    simp only[A.g]at h ⊢
    obtain⟨cs,rs,e,h1,h2,h3,h4⟩:=h
    exact⟨_,rs,e,⟨cs,[],rfl,h1,h2,h3,rfl⟩,h4⟩
theorem g_join{w:World}{D:Nat→Prop}{a:A}(hn:a.isn){m:Nat}{r:G}{v:Value}{rs:List Value}(h:Rep w D (a.g m .fin) [v])(h2:Rep w D r rs):Rep w D (a.g m r) (v :: rs):=by
 cases a with
 | nil=>exact hn.elim
 | cons=>exact hn.elim
 | n k text num o b f0 f1 f2 f3 =>
   cases k
   case none =>
    simp only[A.g]at h ⊢
    split at h
    · obtain⟨v,rs',e,h1,h3⟩:=h
      rename_i hm
      simp only[List.cons.injEq]at e
      rw[if_pos hm]
      exact⟨v,rs,by rw[e.1],h1,h2⟩
    · rename_i hm
      obtain⟨rs',e,h3⟩:=h
      simp only[List.cons.injEq]at e
      rw[if_neg hm]
      exact⟨rs,by rw[e.1],h2⟩
   case list =>
    simp only[A.g]at h ⊢
    obtain⟨v,rs',e,h1,h3⟩:=h
    simp only[List.cons.injEq]at e
    exact⟨v,rs,by rw[e.1],h1,h2⟩
   all_goals
    simp only[A.g]at h ⊢
    obtain⟨cs,rs',e,h1,h3,h4,h5⟩:=h
    simp only[List.cons.injEq]at e
    exact⟨cs,rs,by rw[e.1],h1,h3,h4,h2⟩
theorem isn_of_N{a:A}(h:a.N.isN):a.isn:=by
 cases a with
 | nil=>exact h.elim
 | cons=>exact h.elim
 | n=>trivial
theorem isn_of_K{a:A}{k:K}(h:a.K=k)(hk:k≠.none):a.isn:=by
 cases a with
 | nil=>exact hk h.symm
 | cons=>exact hk h.symm
 | n=>trivial
theorem open_ident{w:World}{D:Nat→Prop}{m:Nat}(hm:m=0∨m=1){text:Str}{num:Int}{o:Option Addr}{b:Nat}{f0 f1 f2 f3:A}{v:Value}(h:Rep w D ((A.n .ident text num o b f0 f1 f2 f3).g m .fin) [v]) :
 v=ptrVal b (if m=1 then some (K.pty .ident) else Option.none)∧D b∧w.heap[b]?=some (.cells #[.string text,.pointer o] (K.ty .ident) (0,0)):=by
 obtain⟨cs,rs,e,hD,ho,hr,hf⟩:=h
 simp only[List.cons.injEq]at e
 refine⟨e.1,hD,?_⟩
 have q0:Rep w D (.at (.string text) (.at (.pointer o) .fin)) cs:=hr
 clear hr
 obtain⟨cs0,rfl,q1⟩:=q0
 obtain⟨cs1,rfl,q2⟩:=q1
 obtain rfl:=q2
 exact ho
theorem open_lit{w:World}{D:Nat→Prop}{m:Nat}(hm:m=0∨m=1){text:Str}{num:Int}{o:Option Addr}{b:Nat}{f0 f1 f2 f3:A}{v:Value}(h:Rep w D ((A.n .lit text num o b f0 f1 f2 f3).g m .fin) [v]) :
 v=ptrVal b (if m=1 then some (K.pty .lit) else Option.none)∧D b∧w.heap[b]?=some (.cells #[.int .i64 num,.string text] (K.ty .lit) (0,0)):=by
 obtain⟨cs,rs,e,hD,ho,hr,hf⟩:=h
 simp only[List.cons.injEq]at e
 refine⟨e.1,hD,?_⟩
 have q0:Rep w D (.at (.int .i64 num) (.at (.string text) .fin)) cs:=hr
 clear hr
 obtain⟨cs0,rfl,q1⟩:=q0
 obtain⟨cs1,rfl,q2⟩:=q1
 obtain rfl:=q2
 exact ho
theorem shut_lit{w:World}{D:Nat→Prop}{m:Nat}{text:Str}{num:Int}{o:Option Addr}{b:Nat}{f0 f1 f2 f3:A}(hD:D b)(ho:w.heap[b]?=some (.cells #[.int .i64 num,.string text] (K.ty .lit) (0,0))) :
 Rep w D ((A.n .lit text num o b f0 f1 f2 f3).g m .fin) [ptrVal b (if m=1 then some (K.pty .lit) else Option.none)] :=
 ⟨[.int .i64 num,.string text],[],rfl,hD,ho,⟨_,rfl,⟨_,rfl,rfl⟩⟩,rfl⟩
theorem open_flit{w:World}{D:Nat→Prop}{m:Nat}(hm:m=0∨m=1){text:Str}{num:Int}{o:Option Addr}{b:Nat}{f0 f1 f2 f3:A}(h0:f0.isn)(h1:f1.isn){v:Value}(h:Rep w D ((A.n .flit text num o b f0 f1 f2 f3).g m .fin) [v]) :
 v=ptrVal b (if m=1 then some (K.pty .flit) else Option.none)∧D b∧∃ v0 v1:Value,w.heap[b]?=some (.cells #[v0,v1] (K.ty .flit) (0,0))∧Rep w D (f0.g 0 .fin) [v0]∧Rep w D (f1.g 0 .fin) [v1]:=by
 obtain⟨cs,rs,e,hD,ho,hr,hf⟩:=h
 simp only[List.cons.injEq]at e
 refine⟨e.1,hD,?_⟩
 have q0:Rep w D (f0.g 0 (f1.g 0 .fin)) cs:=hr
 clear hr
 obtain⟨v0,cs0,rfl,r0,q1⟩:=g_split h0 q0
 clear q0
 obtain⟨v1,cs1,rfl,r1,q2⟩:=g_split h1 q1
 clear q1
 obtain rfl:=q2
 exact⟨v0,v1,ho,r0,r1⟩
theorem shut_flit{w:World}{D:Nat→Prop}{m:Nat}{text:Str}{num:Int}{o:Option Addr}{b:Nat}{f0 f1 f2 f3:A}(h0:f0.isn)(h1:f1.isn){v0 v1:Value}(hD:D b)(ho:w.heap[b]?=some (.cells #[v0,v1] (K.ty .flit) (0,0)))(r0:Rep w D (f0.g 0 .fin) [v0])(r1:Rep w D (f1.g 0 .fin) [v1]) :
 Rep w D ((A.n .flit text num o b f0 f1 f2 f3).g m .fin) [ptrVal b (if m=1 then some (K.pty .flit) else Option.none)] :=
 ⟨[v0,v1],[],rfl,hD,ho,(g_join h0 r0 (g_join h1 r1 rfl)),rfl⟩
theorem open_paren{w:World}{D:Nat→Prop}{m:Nat}(hm:m=0∨m=1){text:Str}{num:Int}{o:Option Addr}{b:Nat}{f0 f1 f2 f3:A}(h0:f0.isn){v:Value}(h:Rep w D ((A.n .paren text num o b f0 f1 f2 f3).g m .fin) [v]) :
 v=ptrVal b (if m=1 then some (K.pty .paren) else Option.none)∧D b∧∃ v0:Value,w.heap[b]?=some (.cells #[v0] (K.ty .paren) (0,0))∧Rep w D (f0.g 1 .fin) [v0]:=by
 obtain⟨cs,rs,e,hD,ho,hr,hf⟩:=h
 simp only[List.cons.injEq]at e
 refine⟨e.1,hD,?_⟩
 have q0:Rep w D (f0.g 1 .fin) cs:=hr
 clear hr
 obtain⟨v0,cs0,rfl,r0,q1⟩:=g_split h0 q0
 clear q0
 obtain rfl:=q1
 exact⟨v0,ho,r0⟩
theorem shut_paren{w:World}{D:Nat→Prop}{m:Nat}{text:Str}{num:Int}{o:Option Addr}{b:Nat}{f0 f1 f2 f3:A}(h0:f0.isn){v0:Value}(hD:D b)(ho:w.heap[b]?=some (.cells #[v0] (K.ty .paren) (0,0)))(r0:Rep w D (f0.g 1 .fin) [v0]) :
 Rep w D ((A.n .paren text num o b f0 f1 f2 f3).g m .fin) [ptrVal b (if m=1 then some (K.pty .paren) else Option.none)] :=
 ⟨[v0],[],rfl,hD,ho,(g_join h0 r0 rfl),rfl⟩
theorem open_call{w:World}{D:Nat→Prop}{m:Nat}(hm:m=0∨m=1){text:Str}{num:Int}{o:Option Addr}{b:Nat}{f0 f1 f2 f3:A}(h0:f0.isn)(h1:f1.isn){v:Value}(h:Rep w D ((A.n .call text num o b f0 f1 f2 f3).g m .fin) [v]) :
 v=ptrVal b (if m=1 then some (K.pty .call) else Option.none)∧D b∧∃ v0 v1:Value,w.heap[b]?=some (.cells #[v0,v1] (K.ty .call) (0,0))∧Rep w D (f0.g 1 .fin) [v0]∧Rep w D (f1.g 2 .fin) [v1]:=by
 obtain⟨cs,rs,e,hD,ho,hr,hf⟩:=h
 simp only[List.cons.injEq]at e
 refine⟨e.1,hD,?_⟩
 have q0:Rep w D (f0.g 1 (f1.g 2 .fin)) cs:=hr
 clear hr
 obtain⟨v0,cs0,rfl,r0,q1⟩:=g_split h0 q0
 clear q0
 obtain⟨v1,cs1,rfl,r1,q2⟩:=g_split h1 q1
 clear q1
 obtain rfl:=q2
 exact⟨v0,v1,ho,r0,r1⟩
theorem shut_call{w:World}{D:Nat→Prop}{m:Nat}{text:Str}{num:Int}{o:Option Addr}{b:Nat}{f0 f1 f2 f3:A}(h0:f0.isn)(h1:f1.isn){v0 v1:Value}(hD:D b)(ho:w.heap[b]?=some (.cells #[v0,v1] (K.ty .call) (0,0)))(r0:Rep w D (f0.g 1 .fin) [v0])(r1:Rep w D (f1.g 2 .fin) [v1]) :
 Rep w D ((A.n .call text num o b f0 f1 f2 f3).g m .fin) [ptrVal b (if m=1 then some (K.pty .call) else Option.none)] :=
 ⟨[v0,v1],[],rfl,hD,ho,(g_join h0 r0 (g_join h1 r1 rfl)),rfl⟩
theorem open_un{w:World}{D:Nat→Prop}{m:Nat}(hm:m=0∨m=1){text:Str}{num:Int}{o:Option Addr}{b:Nat}{f0 f1 f2 f3:A}(h0:f0.isn){v:Value}(h:Rep w D ((A.n .un text num o b f0 f1 f2 f3).g m .fin) [v]) :
 v=ptrVal b (if m=1 then some (K.pty .un) else Option.none)∧D b∧∃ v0:Value,w.heap[b]?=some (.cells #[.int .i64 (tokOf text),v0] (K.ty .un) (0,0))∧Rep w D (f0.g 1 .fin) [v0]:=by
 obtain⟨cs,rs,e,hD,ho,hr,hf⟩:=h
 simp only[List.cons.injEq]at e
 refine⟨e.1,hD,?_⟩
 have q0:Rep w D (.at (.int .i64 (tokOf text)) (f0.g 1 .fin)) cs:=hr
 clear hr
 obtain⟨cs0,rfl,q1⟩:=q0
 obtain⟨v0,cs1,rfl,r0,q2⟩:=g_split h0 q1
 clear q1
 obtain rfl:=q2
 exact⟨v0,ho,r0⟩
theorem shut_un{w:World}{D:Nat→Prop}{m:Nat}{text:Str}{num:Int}{o:Option Addr}{b:Nat}{f0 f1 f2 f3:A}(h0:f0.isn){v0:Value}(hD:D b)(ho:w.heap[b]?=some (.cells #[.int .i64 (tokOf text),v0] (K.ty .un) (0,0)))(r0:Rep w D (f0.g 1 .fin) [v0]) :
 Rep w D ((A.n .un text num o b f0 f1 f2 f3).g m .fin) [ptrVal b (if m=1 then some (K.pty .un) else Option.none)] :=
 ⟨[.int .i64 (tokOf text),v0],[],rfl,hD,ho,⟨_,rfl,(g_join h0 r0 rfl)⟩,rfl⟩
theorem open_bin{w:World}{D:Nat→Prop}{m:Nat}(hm:m=0∨m=1){text:Str}{num:Int}{o:Option Addr}{b:Nat}{f0 f1 f2 f3:A}(h0:f0.isn)(h1:f1.isn){v:Value}(h:Rep w D ((A.n .bin text num o b f0 f1 f2 f3).g m .fin) [v]) :
 v=ptrVal b (if m=1 then some (K.pty .bin) else Option.none)∧D b∧∃ v0 v1:Value,w.heap[b]?=some (.cells #[v0,.int .i64 (tokOf text),v1] (K.ty .bin) (0,0))∧Rep w D (f0.g 1 .fin) [v0]∧Rep w D (f1.g 1 .fin) [v1]:=by
 obtain⟨cs,rs,e,hD,ho,hr,hf⟩:=h
 simp only[List.cons.injEq]at e
 refine⟨e.1,hD,?_⟩
 have q0:Rep w D (f0.g 1 (.at (.int .i64 (tokOf text)) (f1.g 1 .fin))) cs:=hr
 clear hr
 obtain⟨v0,cs0,rfl,r0,q1⟩:=g_split h0 q0
 clear q0
 obtain⟨cs1,rfl,q2⟩:=q1
 obtain⟨v1,cs2,rfl,r1,q3⟩:=g_split h1 q2
 clear q2
 obtain rfl:=q3
 exact⟨v0,v1,ho,r0,r1⟩
theorem shut_bin{w:World}{D:Nat→Prop}{m:Nat}{text:Str}{num:Int}{o:Option Addr}{b:Nat}{f0 f1 f2 f3:A}(h0:f0.isn)(h1:f1.isn){v0 v1:Value}(hD:D b)(ho:w.heap[b]?=some (.cells #[v0,.int .i64 (tokOf text),v1] (K.ty .bin) (0,0)))(r0:Rep w D (f0.g 1 .fin) [v0])(r1:Rep w D (f1.g 1 .fin) [v1]) :
 Rep w D ((A.n .bin text num o b f0 f1 f2 f3).g m .fin) [ptrVal b (if m=1 then some (K.pty .bin) else Option.none)] :=
 ⟨[v0,.int .i64 (tokOf text),v1],[],rfl,hD,ho,(g_join h0 r0 ⟨_,rfl,(g_join h1 r1 rfl)⟩),rfl⟩
theorem open_ftype{w:World}{D:Nat→Prop}{m:Nat}(hm:m=0∨m=1){text:Str}{num:Int}{o:Option Addr}{b:Nat}{f0 f1 f2 f3:A}(h0:f0.isn)(h1:f1.isn)(h2:f2.isn){v:Value}(h:Rep w D ((A.n .ftype text num o b f0 f1 f2 f3).g m .fin) [v]) :
 v=ptrVal b (if m=1 then some (K.pty .ftype) else Option.none)∧D b∧∃ v0 v1 v2:Value,w.heap[b]?=some (.cells #[v0,v1,v2] (K.ty .ftype) (0,0))∧Rep w D (f0.g 0 .fin) [v0]∧Rep w D (f1.g 0 .fin) [v1]∧Rep w D (f2.g 0 .fin) [v2]:=by
 obtain⟨cs,rs,e,hD,ho,hr,hf⟩:=h
 simp only[List.cons.injEq]at e
 refine⟨e.1,hD,?_⟩
 have q0:Rep w D (f0.g 0 (f1.g 0 (f2.g 0 .fin))) cs:=hr
 clear hr
 obtain⟨v0,cs0,rfl,r0,q1⟩:=g_split h0 q0
 clear q0
 obtain⟨v1,cs1,rfl,r1,q2⟩:=g_split h1 q1
 clear q1
 obtain⟨v2,cs2,rfl,r2,q3⟩:=g_split h2 q2
 clear q2
 obtain rfl:=q3
 exact⟨v0,v1,v2,ho,r0,r1,r2⟩
theorem shut_ftype{w:World}{D:Nat→Prop}{m:Nat}{text:Str}{num:Int}{o:Option Addr}{b:Nat}{f0 f1 f2 f3:A}(h0:f0.isn)(h1:f1.isn)(h2:f2.isn){v0 v1 v2:Value}(hD:D b)(ho:w.heap[b]?=some (.cells #[v0,v1,v2] (K.ty .ftype) (0,0)))(r0:Rep w D (f0.g 0 .fin) [v0])(r1:Rep w D (f1.g 0 .fin) [v1])(r2:Rep w D (f2.g 0 .fin) [v2]) :
 Rep w D ((A.n .ftype text num o b f0 f1 f2 f3).g m .fin) [ptrVal b (if m=1 then some (K.pty .ftype) else Option.none)] :=
 ⟨[v0,v1,v2],[],rfl,hD,ho,(g_join h0 r0 (g_join h1 r1 (g_join h2 r2 rfl))),rfl⟩
theorem open_flist{w:World}{D:Nat→Prop}{m:Nat}(hm:m=0∨m=1){text:Str}{num:Int}{o:Option Addr}{b:Nat}{f0 f1 f2 f3:A}(h0:f0.isn){v:Value}(h:Rep w D ((A.n .flist text num o b f0 f1 f2 f3).g m .fin) [v]) :
 v=ptrVal b (if m=1 then some (K.pty .flist) else Option.none)∧D b∧∃ v0:Value,w.heap[b]?=some (.cells #[v0] (K.ty .flist) (0,0))∧Rep w D (f0.g 2 .fin) [v0]:=by
 obtain⟨cs,rs,e,hD,ho,hr,hf⟩:=h
 simp only[List.cons.injEq]at e
 refine⟨e.1,hD,?_⟩
 have q0:Rep w D (f0.g 2 .fin) cs:=hr
 clear hr
 obtain⟨v0,cs0,rfl,r0,q1⟩:=g_split h0 q0
 clear q0
 obtain rfl:=q1
 exact⟨v0,ho,r0⟩
theorem shut_flist{w:World}{D:Nat→Prop}{m:Nat}{text:Str}{num:Int}{o:Option Addr}{b:Nat}{f0 f1 f2 f3:A}(h0:f0.isn){v0:Value}(hD:D b)(ho:w.heap[b]?=some (.cells #[v0] (K.ty .flist) (0,0)))(r0:Rep w D (f0.g 2 .fin) [v0]) :
 Rep w D ((A.n .flist text num o b f0 f1 f2 f3).g m .fin) [ptrVal b (if m=1 then some (K.pty .flist) else Option.none)] :=
 ⟨[v0],[],rfl,hD,ho,(g_join h0 r0 rfl),rfl⟩
theorem open_exprS{w:World}{D:Nat→Prop}{m:Nat}(hm:m=0∨m=1){text:Str}{num:Int}{o:Option Addr}{b:Nat}{f0 f1 f2 f3:A}(h0:f0.isn){v:Value}(h:Rep w D ((A.n .exprS text num o b f0 f1 f2 f3).g m .fin) [v]) :
 v=ptrVal b (if m=1 then some (K.pty .exprS) else Option.none)∧D b∧∃ v0:Value,w.heap[b]?=some (.cells #[v0] (K.ty .exprS) (0,0))∧Rep w D (f0.g 1 .fin) [v0]:=by
 obtain⟨cs,rs,e,hD,ho,hr,hf⟩:=h
 simp only[List.cons.injEq]at e
 refine⟨e.1,hD,?_⟩
 have q0:Rep w D (f0.g 1 .fin) cs:=hr
 clear hr
 obtain⟨v0,cs0,rfl,r0,q1⟩:=g_split h0 q0
 clear q0
 obtain rfl:=q1
 exact⟨v0,ho,r0⟩
theorem shut_exprS{w:World}{D:Nat→Prop}{m:Nat}{text:Str}{num:Int}{o:Option Addr}{b:Nat}{f0 f1 f2 f3:A}(h0:f0.isn){v0:Value}(hD:D b)(ho:w.heap[b]?=some (.cells #[v0] (K.ty .exprS) (0,0)))(r0:Rep w D (f0.g 1 .fin) [v0]) :
 Rep w D ((A.n .exprS text num o b f0 f1 f2 f3).g m .fin) [ptrVal b (if m=1 then some (K.pty .exprS) else Option.none)] :=
 ⟨[v0],[],rfl,hD,ho,(g_join h0 r0 rfl),rfl⟩
theorem open_inc{w:World}{D:Nat→Prop}{m:Nat}(hm:m=0∨m=1){text:Str}{num:Int}{o:Option Addr}{b:Nat}{f0 f1 f2 f3:A}(h0:f0.isn){v:Value}(h:Rep w D ((A.n .inc text num o b f0 f1 f2 f3).g m .fin) [v]) :
 v=ptrVal b (if m=1 then some (K.pty .inc) else Option.none)∧D b∧∃ v0:Value,w.heap[b]?=some (.cells #[v0,.int .i64 (tokOf text)] (K.ty .inc) (0,0))∧Rep w D (f0.g 1 .fin) [v0]:=by
 obtain⟨cs,rs,e,hD,ho,hr,hf⟩:=h
 simp only[List.cons.injEq]at e
 refine⟨e.1,hD,?_⟩
 have q0:Rep w D (f0.g 1 (.at (.int .i64 (tokOf text)) .fin)) cs:=hr
 clear hr
 obtain⟨v0,cs0,rfl,r0,q1⟩:=g_split h0 q0
 clear q0
 obtain⟨cs1,rfl,q2⟩:=q1
 obtain rfl:=q2
 exact⟨v0,ho,r0⟩
theorem shut_inc{w:World}{D:Nat→Prop}{m:Nat}{text:Str}{num:Int}{o:Option Addr}{b:Nat}{f0 f1 f2 f3:A}(h0:f0.isn){v0:Value}(hD:D b)(ho:w.heap[b]?=some (.cells #[v0,.int .i64 (tokOf text)] (K.ty .inc) (0,0)))(r0:Rep w D (f0.g 1 .fin) [v0]) :
 Rep w D ((A.n .inc text num o b f0 f1 f2 f3).g m .fin) [ptrVal b (if m=1 then some (K.pty .inc) else Option.none)] :=
 ⟨[v0,.int .i64 (tokOf text)],[],rfl,hD,ho,(g_join h0 r0 ⟨_,rfl,rfl⟩),rfl⟩
theorem open_assign{w:World}{D:Nat→Prop}{m:Nat}(hm:m=0∨m=1){text:Str}{num:Int}{o:Option Addr}{b:Nat}{f0 f1 f2 f3:A}(h0:f0.isn)(h1:f1.isn){v:Value}(h:Rep w D ((A.n .assign text num o b f0 f1 f2 f3).g m .fin) [v]) :
 v=ptrVal b (if m=1 then some (K.pty .assign) else Option.none)∧D b∧∃ v0 v1:Value,w.heap[b]?=some (.cells #[v0,.int .i64 (tokOf text),v1] (K.ty .assign) (0,0))∧Rep w D (f0.g 2 .fin) [v0]∧Rep w D (f1.g 2 .fin) [v1]:=by
 obtain⟨cs,rs,e,hD,ho,hr,hf⟩:=h
 simp only[List.cons.injEq]at e
 refine⟨e.1,hD,?_⟩
 have q0:Rep w D (f0.g 2 (.at (.int .i64 (tokOf text)) (f1.g 2 .fin))) cs:=hr
 clear hr
 obtain⟨v0,cs0,rfl,r0,q1⟩:=g_split h0 q0
 clear q0
 obtain⟨cs1,rfl,q2⟩:=q1
 obtain⟨v1,cs2,rfl,r1,q3⟩:=g_split h1 q2
 clear q2
 obtain rfl:=q3
 exact⟨v0,v1,ho,r0,r1⟩
theorem shut_assign{w:World}{D:Nat→Prop}{m:Nat}{text:Str}{num:Int}{o:Option Addr}{b:Nat}{f0 f1 f2 f3:A}(h0:f0.isn)(h1:f1.isn){v0 v1:Value}(hD:D b)(ho:w.heap[b]?=some (.cells #[v0,.int .i64 (tokOf text),v1] (K.ty .assign) (0,0)))(r0:Rep w D (f0.g 2 .fin) [v0])(r1:Rep w D (f1.g 2 .fin) [v1]) :
 Rep w D ((A.n .assign text num o b f0 f1 f2 f3).g m .fin) [ptrVal b (if m=1 then some (K.pty .assign) else Option.none)] :=
 ⟨[v0,.int .i64 (tokOf text),v1],[],rfl,hD,ho,(g_join h0 r0 ⟨_,rfl,(g_join h1 r1 rfl)⟩),rfl⟩
theorem open_ret{w:World}{D:Nat→Prop}{m:Nat}(hm:m=0∨m=1){text:Str}{num:Int}{o:Option Addr}{b:Nat}{f0 f1 f2 f3:A}(h0:f0.isn){v:Value}(h:Rep w D ((A.n .ret text num o b f0 f1 f2 f3).g m .fin) [v]) :
 v=ptrVal b (if m=1 then some (K.pty .ret) else Option.none)∧D b∧∃ v0:Value,w.heap[b]?=some (.cells #[v0] (K.ty .ret) (0,0))∧Rep w D (f0.g 2 .fin) [v0]:=by
 obtain⟨cs,rs,e,hD,ho,hr,hf⟩:=h
 simp only[List.cons.injEq]at e
 refine⟨e.1,hD,?_⟩
 have q0:Rep w D (f0.g 2 .fin) cs:=hr
 clear hr
 obtain⟨v0,cs0,rfl,r0,q1⟩:=g_split h0 q0
 clear q0
 obtain rfl:=q1
 exact⟨v0,ho,r0⟩
theorem shut_ret{w:World}{D:Nat→Prop}{m:Nat}{text:Str}{num:Int}{o:Option Addr}{b:Nat}{f0 f1 f2 f3:A}(h0:f0.isn){v0:Value}(hD:D b)(ho:w.heap[b]?=some (.cells #[v0] (K.ty .ret) (0,0)))(r0:Rep w D (f0.g 2 .fin) [v0]) :
 Rep w D ((A.n .ret text num o b f0 f1 f2 f3).g m .fin) [ptrVal b (if m=1 then some (K.pty .ret) else Option.none)] :=
 ⟨[v0],[],rfl,hD,ho,(g_join h0 r0 rfl),rfl⟩
theorem open_branch{w:World}{D:Nat→Prop}{m:Nat}(hm:m=0∨m=1){text:Str}{num:Int}{o:Option Addr}{b:Nat}{f0 f1 f2 f3:A}(h0:f0.isn){v:Value}(h:Rep w D ((A.n .branch text num o b f0 f1 f2 f3).g m .fin) [v]) :
 v=ptrVal b (if m=1 then some (K.pty .branch) else Option.none)∧D b∧∃ v0:Value,w.heap[b]?=some (.cells #[.int .i64 (tokOf text),v0] (K.ty .branch) (0,0))∧Rep w D (f0.g 0 .fin) [v0]:=by
 obtain⟨cs,rs,e,hD,ho,hr,hf⟩:=h
 simp only[List.cons.injEq]at e
 refine⟨e.1,hD,?_⟩
 have q0:Rep w D (.at (.int .i64 (tokOf text)) (f0.g 0 .fin)) cs:=hr
 clear hr
 obtain⟨cs0,rfl,q1⟩:=q0
 obtain⟨v0,cs1,rfl,r0,q2⟩:=g_split h0 q1
 clear q1
 obtain rfl:=q2
 exact⟨v0,ho,r0⟩
theorem shut_branch{w:World}{D:Nat→Prop}{m:Nat}{text:Str}{num:Int}{o:Option Addr}{b:Nat}{f0 f1 f2 f3:A}(h0:f0.isn){v0:Value}(hD:D b)(ho:w.heap[b]?=some (.cells #[.int .i64 (tokOf text),v0] (K.ty .branch) (0,0)))(r0:Rep w D (f0.g 0 .fin) [v0]) :
 Rep w D ((A.n .branch text num o b f0 f1 f2 f3).g m .fin) [ptrVal b (if m=1 then some (K.pty .branch) else Option.none)] :=
 ⟨[.int .i64 (tokOf text),v0],[],rfl,hD,ho,⟨_,rfl,(g_join h0 r0 rfl)⟩,rfl⟩
theorem open_block{w:World}{D:Nat→Prop}{m:Nat}(hm:m=0∨m=1){text:Str}{num:Int}{o:Option Addr}{b:Nat}{f0 f1 f2 f3:A}(h0:f0.isn){v:Value}(h:Rep w D ((A.n .block text num o b f0 f1 f2 f3).g m .fin) [v]) :
 v=ptrVal b (if m=1 then some (K.pty .block) else Option.none)∧D b∧∃ v0:Value,w.heap[b]?=some (.cells #[v0] (K.ty .block) (0,0))∧Rep w D (f0.g 2 .fin) [v0]:=by
 obtain⟨cs,rs,e,hD,ho,hr,hf⟩:=h
 simp only[List.cons.injEq]at e
 refine⟨e.1,hD,?_⟩
 have q0:Rep w D (f0.g 2 .fin) cs:=hr
 clear hr
 obtain⟨v0,cs0,rfl,r0,q1⟩:=g_split h0 q0
 clear q0
 obtain rfl:=q1
 exact⟨v0,ho,r0⟩
theorem shut_block{w:World}{D:Nat→Prop}{m:Nat}{text:Str}{num:Int}{o:Option Addr}{b:Nat}{f0 f1 f2 f3:A}(h0:f0.isn){v0:Value}(hD:D b)(ho:w.heap[b]?=some (.cells #[v0] (K.ty .block) (0,0)))(r0:Rep w D (f0.g 2 .fin) [v0]) :
 Rep w D ((A.n .block text num o b f0 f1 f2 f3).g m .fin) [ptrVal b (if m=1 then some (K.pty .block) else Option.none)] :=
 ⟨[v0],[],rfl,hD,ho,(g_join h0 r0 rfl),rfl⟩
theorem open_if_{w:World}{D:Nat→Prop}{m:Nat}(hm:m=0∨m=1){text:Str}{num:Int}{o:Option Addr}{b:Nat}{f0 f1 f2 f3:A}(h0:f0.isn)(h1:f1.isn)(h2:f2.isn)(h3:f3.isn){v:Value}(h:Rep w D ((A.n .if_ text num o b f0 f1 f2 f3).g m .fin) [v]) :
 v=ptrVal b (if m=1 then some (K.pty .if_) else Option.none)∧D b∧∃ v0 v1 v2 v3:Value,w.heap[b]?=some (.cells #[v0,v1,v2,v3] (K.ty .if_) (0,0))∧Rep w D (f0.g 1 .fin) [v0]∧Rep w D (f1.g 1 .fin) [v1]∧Rep w D (f2.g 0 .fin) [v2]∧Rep w D (f3.g 1 .fin) [v3]:=by
 obtain⟨cs,rs,e,hD,ho,hr,hf⟩:=h
 simp only[List.cons.injEq]at e
 refine⟨e.1,hD,?_⟩
 have q0:Rep w D (f0.g 1 (f1.g 1 (f2.g 0 (f3.g 1 .fin)))) cs:=hr
 clear hr
 obtain⟨v0,cs0,rfl,r0,q1⟩:=g_split h0 q0
 clear q0
 obtain⟨v1,cs1,rfl,r1,q2⟩:=g_split h1 q1
 clear q1
 obtain⟨v2,cs2,rfl,r2,q3⟩:=g_split h2 q2
 clear q2
 obtain⟨v3,cs3,rfl,r3,q4⟩:=g_split h3 q3
 clear q3
 obtain rfl:=q4
 exact⟨v0,v1,v2,v3,ho,r0,r1,r2,r3⟩
theorem shut_if_{w:World}{D:Nat→Prop}{m:Nat}{text:Str}{num:Int}{o:Option Addr}{b:Nat}{f0 f1 f2 f3:A}(h0:f0.isn)(h1:f1.isn)(h2:f2.isn)(h3:f3.isn){v0 v1 v2 v3:Value}(hD:D b)(ho:w.heap[b]?=some (.cells #[v0,v1,v2,v3] (K.ty .if_) (0,0)))(r0:Rep w D (f0.g 1 .fin) [v0])(r1:Rep w D (f1.g 1 .fin) [v1])(r2:Rep w D (f2.g 0 .fin) [v2])(r3:Rep w D (f3.g 1 .fin) [v3]) :
 Rep w D ((A.n .if_ text num o b f0 f1 f2 f3).g m .fin) [ptrVal b (if m=1 then some (K.pty .if_) else Option.none)] :=
 ⟨[v0,v1,v2,v3],[],rfl,hD,ho,(g_join h0 r0 (g_join h1 r1 (g_join h2 r2 (g_join h3 r3 rfl)))),rfl⟩
theorem open_case_{w:World}{D:Nat→Prop}{m:Nat}(hm:m=0∨m=1){text:Str}{num:Int}{o:Option Addr}{b:Nat}{f0 f1 f2 f3:A}(h0:f0.isn)(h1:f1.isn){v:Value}(h:Rep w D ((A.n .case_ text num o b f0 f1 f2 f3).g m .fin) [v]) :
 v=ptrVal b (if m=1 then some (K.pty .case_) else Option.none)∧D b∧∃ v0 v1:Value,w.heap[b]?=some (.cells #[v0,v1] (K.ty .case_) (0,0))∧Rep w D (f0.g 2 .fin) [v0]∧Rep w D (f1.g 2 .fin) [v1]:=by
 obtain⟨cs,rs,e,hD,ho,hr,hf⟩:=h
 simp only[List.cons.injEq]at e
 refine⟨e.1,hD,?_⟩
 have q0:Rep w D (f0.g 2 (f1.g 2 .fin)) cs:=hr
 clear hr
 obtain⟨v0,cs0,rfl,r0,q1⟩:=g_split h0 q0
 clear q0
 obtain⟨v1,cs1,rfl,r1,q2⟩:=g_split h1 q1
 clear q1
 obtain rfl:=q2
 exact⟨v0,v1,ho,r0,r1⟩
theorem shut_case_{w:World}{D:Nat→Prop}{m:Nat}{text:Str}{num:Int}{o:Option Addr}{b:Nat}{f0 f1 f2 f3:A}(h0:f0.isn)(h1:f1.isn){v0 v1:Value}(hD:D b)(ho:w.heap[b]?=some (.cells #[v0,v1] (K.ty .case_) (0,0)))(r0:Rep w D (f0.g 2 .fin) [v0])(r1:Rep w D (f1.g 2 .fin) [v1]) :
 Rep w D ((A.n .case_ text num o b f0 f1 f2 f3).g m .fin) [ptrVal b (if m=1 then some (K.pty .case_) else Option.none)] :=
 ⟨[v0,v1],[],rfl,hD,ho,(g_join h0 r0 (g_join h1 r1 rfl)),rfl⟩
theorem open_switch{w:World}{D:Nat→Prop}{m:Nat}(hm:m=0∨m=1){text:Str}{num:Int}{o:Option Addr}{b:Nat}{f0 f1 f2 f3:A}(h0:f0.isn)(h1:f1.isn)(h2:f2.isn){v:Value}(h:Rep w D ((A.n .switch text num o b f0 f1 f2 f3).g m .fin) [v]) :
 v=ptrVal b (if m=1 then some (K.pty .switch) else Option.none)∧D b∧∃ v0 v1 v2:Value,w.heap[b]?=some (.cells #[v0,v1,v2] (K.ty .switch) (0,0))∧Rep w D (f0.g 1 .fin) [v0]∧Rep w D (f1.g 1 .fin) [v1]∧Rep w D (f2.g 0 .fin) [v2]:=by
 obtain⟨cs,rs,e,hD,ho,hr,hf⟩:=h
 simp only[List.cons.injEq]at e
 refine⟨e.1,hD,?_⟩
 have q0:Rep w D (f0.g 1 (f1.g 1 (f2.g 0 .fin))) cs:=hr
 clear hr
 obtain⟨v0,cs0,rfl,r0,q1⟩:=g_split h0 q0
 clear q0
 obtain⟨v1,cs1,rfl,r1,q2⟩:=g_split h1 q1
 clear q1
 obtain⟨v2,cs2,rfl,r2,q3⟩:=g_split h2 q2
 clear q2
 obtain rfl:=q3
 exact⟨v0,v1,v2,ho,r0,r1,r2⟩
theorem shut_switch{w:World}{D:Nat→Prop}{m:Nat}{text:Str}{num:Int}{o:Option Addr}{b:Nat}{f0 f1 f2 f3:A}(h0:f0.isn)(h1:f1.isn)(h2:f2.isn){v0 v1 v2:Value}(hD:D b)(ho:w.heap[b]?=some (.cells #[v0,v1,v2] (K.ty .switch) (0,0)))(r0:Rep w D (f0.g 1 .fin) [v0])(r1:Rep w D (f1.g 1 .fin) [v1])(r2:Rep w D (f2.g 0 .fin) [v2]) :
 Rep w D ((A.n .switch text num o b f0 f1 f2 f3).g m .fin) [ptrVal b (if m=1 then some (K.pty .switch) else Option.none)] :=
 ⟨[v0,v1,v2],[],rfl,hD,ho,(g_join h0 r0 (g_join h1 r1 (g_join h2 r2 rfl))),rfl⟩
theorem open_comm{w:World}{D:Nat→Prop}{m:Nat}(hm:m=0∨m=1){text:Str}{num:Int}{o:Option Addr}{b:Nat}{f0 f1 f2 f3:A}(h0:f0.isn)(h1:f1.isn){v:Value}(h:Rep w D ((A.n .comm text num o b f0 f1 f2 f3).g m .fin) [v]) :
 v=ptrVal b (if m=1 then some (K.pty .comm) else Option.none)∧D b∧∃ v0 v1:Value,w.heap[b]?=some (.cells #[v0,v1] (K.ty .comm) (0,0))∧Rep w D (f0.g 1 .fin) [v0]∧Rep w D (f1.g 2 .fin) [v1]:=by
 obtain⟨cs,rs,e,hD,ho,hr,hf⟩:=h
 simp only[List.cons.injEq]at e
 refine⟨e.1,hD,?_⟩
 have q0:Rep w D (f0.g 1 (f1.g 2 .fin)) cs:=hr
 clear hr
 obtain⟨v0,cs0,rfl,r0,q1⟩:=g_split h0 q0
 clear q0
 obtain⟨v1,cs1,rfl,r1,q2⟩:=g_split h1 q1
 clear q1
 obtain rfl:=q2
 exact⟨v0,v1,ho,r0,r1⟩
theorem shut_comm{w:World}{D:Nat→Prop}{m:Nat}{text:Str}{num:Int}{o:Option Addr}{b:Nat}{f0 f1 f2 f3:A}(h0:f0.isn)(h1:f1.isn){v0 v1:Value}(hD:D b)(ho:w.heap[b]?=some (.cells #[v0,v1] (K.ty .comm) (0,0)))(r0:Rep w D (f0.g 1 .fin) [v0])(r1:Rep w D (f1.g 2 .fin) [v1]) :
 Rep w D ((A.n .comm text num o b f0 f1 f2 f3).g m .fin) [ptrVal b (if m=1 then some (K.pty .comm) else Option.none)] :=
 ⟨[v0,v1],[],rfl,hD,ho,(g_join h0 r0 (g_join h1 r1 rfl)),rfl⟩
theorem open_select{w:World}{D:Nat→Prop}{m:Nat}(hm:m=0∨m=1){text:Str}{num:Int}{o:Option Addr}{b:Nat}{f0 f1 f2 f3:A}(h0:f0.isn){v:Value}(h:Rep w D ((A.n .select text num o b f0 f1 f2 f3).g m .fin) [v]) :
 v=ptrVal b (if m=1 then some (K.pty .select) else Option.none)∧D b∧∃ v0:Value,w.heap[b]?=some (.cells #[v0] (K.ty .select) (0,0))∧Rep w D (f0.g 0 .fin) [v0]:=by
 obtain⟨cs,rs,e,hD,ho,hr,hf⟩:=h
 simp only[List.cons.injEq]at e
 refine⟨e.1,hD,?_⟩
 have q0:Rep w D (f0.g 0 .fin) cs:=hr
 clear hr
 obtain⟨v0,cs0,rfl,r0,q1⟩:=g_split h0 q0
 clear q0
 obtain rfl:=q1
 exact⟨v0,ho,r0⟩
theorem shut_select{w:World}{D:Nat→Prop}{m:Nat}{text:Str}{num:Int}{o:Option Addr}{b:Nat}{f0 f1 f2 f3:A}(h0:f0.isn){v0:Value}(hD:D b)(ho:w.heap[b]?=some (.cells #[v0] (K.ty .select) (0,0)))(r0:Rep w D (f0.g 0 .fin) [v0]) :
 Rep w D ((A.n .select text num o b f0 f1 f2 f3).g m .fin) [ptrVal b (if m=1 then some (K.pty .select) else Option.none)] :=
 ⟨[v0],[],rfl,hD,ho,(g_join h0 r0 rfl),rfl⟩
theorem open_for_{w:World}{D:Nat→Prop}{m:Nat}(hm:m=0∨m=1){text:Str}{num:Int}{o:Option Addr}{b:Nat}{f0 f1 f2 f3:A}(h0:f0.isn)(h1:f1.isn)(h2:f2.isn)(h3:f3.isn){v:Value}(h:Rep w D ((A.n .for_ text num o b f0 f1 f2 f3).g m .fin) [v]) :
 v=ptrVal b (if m=1 then some (K.pty .for_) else Option.none)∧D b∧∃ v0 v1 v2 v3:Value,w.heap[b]?=some (.cells #[v0,v1,v2,v3] (K.ty .for_) (0,0))∧Rep w D (f0.g 1 .fin) [v0]∧Rep w D (f1.g 1 .fin) [v1]∧Rep w D (f2.g 1 .fin) [v2]∧Rep w D (f3.g 0 .fin) [v3]:=by
 obtain⟨cs,rs,e,hD,ho,hr,hf⟩:=h
 simp only[List.cons.injEq]at e
 refine⟨e.1,hD,?_⟩
 have q0:Rep w D (f0.g 1 (f1.g 1 (f2.g 1 (f3.g 0 .fin)))) cs:=hr
 clear hr
 obtain⟨v0,cs0,rfl,r0,q1⟩:=g_split h0 q0
 clear q0
 obtain⟨v1,cs1,rfl,r1,q2⟩:=g_split h1 q1
 clear q1
 obtain⟨v2,cs2,rfl,r2,q3⟩:=g_split h2 q2
 clear q2
 obtain⟨v3,cs3,rfl,r3,q4⟩:=g_split h3 q3
 clear q3
 obtain rfl:=q4
 exact⟨v0,v1,v2,v3,ho,r0,r1,r2,r3⟩
theorem shut_for_{w:World}{D:Nat→Prop}{m:Nat}{text:Str}{num:Int}{o:Option Addr}{b:Nat}{f0 f1 f2 f3:A}(h0:f0.isn)(h1:f1.isn)(h2:f2.isn)(h3:f3.isn){v0 v1 v2 v3:Value}(hD:D b)(ho:w.heap[b]?=some (.cells #[v0,v1,v2,v3] (K.ty .for_) (0,0)))(r0:Rep w D (f0.g 1 .fin) [v0])(r1:Rep w D (f1.g 1 .fin) [v1])(r2:Rep w D (f2.g 1 .fin) [v2])(r3:Rep w D (f3.g 0 .fin) [v3]) :
 Rep w D ((A.n .for_ text num o b f0 f1 f2 f3).g m .fin) [ptrVal b (if m=1 then some (K.pty .for_) else Option.none)] :=
 ⟨[v0,v1,v2,v3],[],rfl,hD,ho,(g_join h0 r0 (g_join h1 r1 (g_join h2 r2 (g_join h3 r3 rfl)))),rfl⟩
theorem open_range{w:World}{D:Nat→Prop}{m:Nat}(hm:m=0∨m=1){text:Str}{num:Int}{o:Option Addr}{b:Nat}{f0 f1 f2 f3:A}(h0:f0.isn)(h1:f1.isn)(h2:f2.isn)(h3:f3.isn){v:Value}(h:Rep w D ((A.n .range text num o b f0 f1 f2 f3).g m .fin) [v]) :
 v=ptrVal b (if m=1 then some (K.pty .range) else Option.none)∧D b∧∃ v0 v1 v2 v3:Value,w.heap[b]?=some (.cells #[v0,v1,.int .i64 (tokOf text),v2,v3] (K.ty .range) (0,0))∧Rep w D (f0.g 1 .fin) [v0]∧Rep w D (f1.g 1 .fin) [v1]∧Rep w D (f2.g 1 .fin) [v2]∧Rep w D (f3.g 0 .fin) [v3]:=by
 obtain⟨cs,rs,e,hD,ho,hr,hf⟩:=h
 simp only[List.cons.injEq]at e
 refine⟨e.1,hD,?_⟩
 have q0:Rep w D (f0.g 1 (f1.g 1 (.at (.int .i64 (tokOf text)) (f2.g 1 (f3.g 0 .fin))))) cs:=hr
 clear hr
 obtain⟨v0,cs0,rfl,r0,q1⟩:=g_split h0 q0
 clear q0
 obtain⟨v1,cs1,rfl,r1,q2⟩:=g_split h1 q1
 clear q1
 obtain⟨cs2,rfl,q3⟩:=q2
 obtain⟨v2,cs3,rfl,r2,q4⟩:=g_split h2 q3
 clear q3
 obtain⟨v3,cs4,rfl,r3,q5⟩:=g_split h3 q4
 clear q4
 obtain rfl:=q5
 exact⟨v0,v1,v2,v3,ho,r0,r1,r2,r3⟩
theorem shut_range{w:World}{D:Nat→Prop}{m:Nat}{text:Str}{num:Int}{o:Option Addr}{b:Nat}{f0 f1 f2 f3:A}(h0:f0.isn)(h1:f1.isn)(h2:f2.isn)(h3:f3.isn){v0 v1 v2 v3:Value}(hD:D b)(ho:w.heap[b]?=some (.cells #[v0,v1,.int .i64 (tokOf text),v2,v3] (K.ty .range) (0,0)))(r0:Rep w D (f0.g 1 .fin) [v0])(r1:Rep w D (f1.g 1 .fin) [v1])(r2:Rep w D (f2.g 1 .fin) [v2])(r3:Rep w D (f3.g 0 .fin) [v3]) :
 Rep w D ((A.n .range text num o b f0 f1 f2 f3).g m .fin) [ptrVal b (if m=1 then some (K.pty .range) else Option.none)] :=
 ⟨[v0,v1,.int .i64 (tokOf text),v2,v3],[],rfl,hD,ho,(g_join h0 r0 (g_join h1 r1 ⟨_,rfl,(g_join h2 r2 (g_join h3 r3 rfl))⟩)),rfl⟩
theorem open_labeled{w:World}{D:Nat→Prop}{m:Nat}(hm:m=0∨m=1){text:Str}{num:Int}{o:Option Addr}{b:Nat}{f0 f1 f2 f3:A}(h0:f0.isn)(h1:f1.isn){v:Value}(h:Rep w D ((A.n .labeled text num o b f0 f1 f2 f3).g m .fin) [v]) :
 v=ptrVal b (if m=1 then some (K.pty .labeled) else Option.none)∧D b∧∃ v0 v1:Value,w.heap[b]?=some (.cells #[v0,v1] (K.ty .labeled) (0,0))∧Rep w D (f0.g 0 .fin) [v0]∧Rep w D (f1.g 1 .fin) [v1]:=by
 obtain⟨cs,rs,e,hD,ho,hr,hf⟩:=h
 simp only[List.cons.injEq]at e
 refine⟨e.1,hD,?_⟩
 have q0:Rep w D (f0.g 0 (f1.g 1 .fin)) cs:=hr
 clear hr
 obtain⟨v0,cs0,rfl,r0,q1⟩:=g_split h0 q0
 clear q0
 obtain⟨v1,cs1,rfl,r1,q2⟩:=g_split h1 q1
 clear q1
 obtain rfl:=q2
 exact⟨v0,v1,ho,r0,r1⟩
theorem shut_labeled{w:World}{D:Nat→Prop}{m:Nat}{text:Str}{num:Int}{o:Option Addr}{b:Nat}{f0 f1 f2 f3:A}(h0:f0.isn)(h1:f1.isn){v0 v1:Value}(hD:D b)(ho:w.heap[b]?=some (.cells #[v0,v1] (K.ty .labeled) (0,0)))(r0:Rep w D (f0.g 0 .fin) [v0])(r1:Rep w D (f1.g 1 .fin) [v1]) :
 Rep w D ((A.n .labeled text num o b f0 f1 f2 f3).g m .fin) [ptrVal b (if m=1 then some (K.pty .labeled) else Option.none)] :=
 ⟨[v0,v1],[],rfl,hD,ho,(g_join h0 r0 (g_join h1 r1 rfl)),rfl⟩
theorem open_func{w:World}{D:Nat→Prop}{m:Nat}(hm:m=0∨m=1){text:Str}{num:Int}{o:Option Addr}{b:Nat}{f0 f1 f2 f3:A}(h0:f0.isn)(h1:f1.isn)(h2:f2.isn)(h3:f3.isn){v:Value}(h:Rep w D ((A.n .func text num o b f0 f1 f2 f3).g m .fin) [v]) :
 v=ptrVal b (if m=1 then some (K.pty .func) else Option.none)∧D b∧∃ v0 v1 v2 v3:Value,w.heap[b]?=some (.cells #[v0,v1,v2,v3] (K.ty .func) (0,0))∧Rep w D (f0.g 0 .fin) [v0]∧Rep w D (f1.g 0 .fin) [v1]∧Rep w D (f2.g 0 .fin) [v2]∧Rep w D (f3.g 0 .fin) [v3]:=by
 obtain⟨cs,rs,e,hD,ho,hr,hf⟩:=h
 simp only[List.cons.injEq]at e
 refine⟨e.1,hD,?_⟩
 have q0:Rep w D (f0.g 0 (f1.g 0 (f2.g 0 (f3.g 0 .fin)))) cs:=hr
 clear hr
 obtain⟨v0,cs0,rfl,r0,q1⟩:=g_split h0 q0
 clear q0
 obtain⟨v1,cs1,rfl,r1,q2⟩:=g_split h1 q1
 clear q1
 obtain⟨v2,cs2,rfl,r2,q3⟩:=g_split h2 q2
 clear q2
 obtain⟨v3,cs3,rfl,r3,q4⟩:=g_split h3 q3
 clear q3
 obtain rfl:=q4
 exact⟨v0,v1,v2,v3,ho,r0,r1,r2,r3⟩
theorem shut_func{w:World}{D:Nat→Prop}{m:Nat}{text:Str}{num:Int}{o:Option Addr}{b:Nat}{f0 f1 f2 f3:A}(h0:f0.isn)(h1:f1.isn)(h2:f2.isn)(h3:f3.isn){v0 v1 v2 v3:Value}(hD:D b)(ho:w.heap[b]?=some (.cells #[v0,v1,v2,v3] (K.ty .func) (0,0)))(r0:Rep w D (f0.g 0 .fin) [v0])(r1:Rep w D (f1.g 0 .fin) [v1])(r2:Rep w D (f2.g 0 .fin) [v2])(r3:Rep w D (f3.g 0 .fin) [v3]) :
 Rep w D ((A.n .func text num o b f0 f1 f2 f3).g m .fin) [ptrVal b (if m=1 then some (K.pty .func) else Option.none)] :=
 ⟨[v0,v1,v2,v3],[],rfl,hD,ho,(g_join h0 r0 (g_join h1 r1 (g_join h2 r2 (g_join h3 r3 rfl)))),rfl⟩
end Gc
namespace Go.Proofs.YtleolbpibjnedaaGreat
open Go Go.RowKit Gc
theorem MadeP.up{w W:World}{bb mb:Nat}{n:N}{k:K}{m:Nat}{left depth:Int}{f:Int→Option Addr}{e:Ending}{w':World}(hk:Kept (fun _=>False) w W)(h:MadeP W bb mb n k m left depth f e w'):MadeP w bb mb n k m left depth f e w':=by
 obtain⟨a,v,f',h1,h2,h3,h4,h5,h6,h7,h8,h9⟩:=h
 have:=hk.size
 exact⟨a,v,f',h1,h2,h3,h4.imp fun b _ hb=>by omega,h5,h6,h7,⟨h8.1,fun b hb=>by have:=h8.2 b hb;omega⟩,(hk.mono fun _ _ f=>f.elim).trans h9⟩
theorem kid_slice{w:World}{D:Nat→Prop}{kids:N}(hl:kids.isList){a:Option Addr}{c c':Nat}(h:Rep w D kids.g [.slice a c c']):c=kids.len:=by
 have:=Rep.len_eq (N.g_isList _ hl) h
 rwa [N.g_len]at this
theorem slice_someN{w:World}{D:Nat→Prop}{l:N}(hl:l.isList){a:Option Addr}{n c:Nat}(h:Rep w D l.g [.slice a n c])(hn:0<n):∃ g o,a=some ⟨g,o,none⟩:=by
 cases l with
 | nil=>obtain⟨_,_,e⟩:=h;simp only[List.cons.injEq,Value.slice.injEq,and_true]at e;omega
 | cons hd tl=>obtain⟨g,o,n',c',hs,e,_⟩:=h;simp only[List.cons.injEq,Value.slice.injEq,and_true]at e;exact⟨g,o,e.1⟩
 | _=>exact hl.elim
theorem must_Expr(kids:N)(j:Nat)(k:K)(hk:isE k)(hj:j<kids.len)(hl:kids.isList)(hall:kids.All Gc.N.isN)(hN:NodeB (kids.get j) k)(w:World)(D:Nat→Prop)(bb mb:Nat)(left depth:Int)(f:Int→Option Addr)(kd tx:Str)(i:Int)(a:Option Addr)(c c':Nat)
 (hR:Rep w D kids.g [.slice a c c']) (hD:∀ b,D b→¬ Two bb mb b) (hB:Bld w bb mb left depth f) (hcost:((kids.get j).cost:Int)≤left) (hdeep:depth+(kids.get j).deep≤60) (J:Int) (hJ:J=j) (hmax:kids.len≤100000) :
 Calls Tryz.prog 71 #[.pointer (some ⟨bb,0,none⟩),.agg #[.string kd,.string tx,.int .i64 i,.slice a c c'],.int .i64 J] w (MadeP w bb mb (kids.get j) k 1 (left-(kids.get j).cost) depth f):=by
 subst hJ
 have hc:=kid_slice hl hR
 have hcm:c≤100000:=by omega
 have hjc:(j:Int)<c:=by omega
 obtain⟨g,o,rfl⟩:=slice_someN hl hR (by omega)
 obtain⟨kd',tx',i',a',n',c'',kids',he,hl',hR',_,hg,p0,p1,p2,p3⟩:=rep_at_N (k:=j) hR hl hall hj
 have HN:=Lib.hid hN
 have He:=Lib.hid he
 have HR':=Lib.hid hR'
 have HD:=Lib.hid hD
 have HB:=Lib.hid hB
 clear hN he hR' hD hB hR hc
 go_enter Tryz.func71,Tryz.ntmps71
 go_wp2_with fail
 have kA:Kept (fun _=>False) w (w.alloc (.cells #[.string kd,.string tx,.int .i64 i,.slice (some ⟨g,o,none⟩) c c'] 30)):=keptA
 refine(HN.out kd' tx' i' kids' He.out _ D bb mb left depth f a' n' c'' (HR'.out.kept kA (fun _ _ f=>f)) HD.out (HB.out.kept kA (fun f=>f) (fun f=>f)) hcost hdeep).mono ?_
 rintro e w1 ⟨x,v,f',rfl,hxN,hxK,R1,B1,E1,O1,L1,K1⟩
 have hkr:k.real:=by cases k<;>first | exact hk.elim | trivial
 obtain⟨b,rfl,hbD⟩:=iface_of hxK hkr R1
 have ta:=asE_any k hk (.pointer (some ⟨b,0,none⟩)) 74 w1
 have HxN:=Lib.hid hxN
 have HxK:=Lib.hid hxK
 have HR1:=Lib.hid R1
 have HB1:=Lib.hid B1
 have HE1:=Lib.hid E1
 have HO1:=Lib.hid O1
 clear hxN hxK R1 B1 E1 O1
 go_wp2_with fail
 go_ret
 exact MadeP.up kA ⟨x,_,f',rfl,HxN.out,HxK.out,HR1.out,HB1.out,HE1.out,HO1.out,L1,K1⟩
theorem must_Stmt(kids:N)(j:Nat)(k:K)(hk:isS k)(hj:j<kids.len)(hl:kids.isList)(hall:kids.All Gc.N.isN)(hN:NodeB (kids.get j) k)(w:World)(D:Nat→Prop)(bb mb:Nat)(left depth:Int)(f:Int→Option Addr)(kd tx:Str)(i:Int)(a:Option Addr)(c c':Nat)
 (hR:Rep w D kids.g [.slice a c c']) (hD:∀ b,D b→¬ Two bb mb b) (hB:Bld w bb mb left depth f) (hcost:((kids.get j).cost:Int)≤left) (hdeep:depth+(kids.get j).deep≤60) (J:Int) (hJ:J=j) (hmax:kids.len≤100000) :
 Calls Tryz.prog 83 #[.pointer (some ⟨bb,0,none⟩),.agg #[.string kd,.string tx,.int .i64 i,.slice a c c'],.int .i64 J] w (MadeP w bb mb (kids.get j) k 1 (left-(kids.get j).cost) depth f):=by
 subst hJ
 have hc:=kid_slice hl hR
 have hcm:c≤100000:=by omega
 have hjc:(j:Int)<c:=by omega
 obtain⟨g,o,rfl⟩:=slice_someN hl hR (by omega)
 obtain⟨kd',tx',i',a',n',c'',kids',he,hl',hR',_,hg,p0,p1,p2,p3⟩:=rep_at_N (k:=j) hR hl hall hj
 have HN:=Lib.hid hN
 have He:=Lib.hid he
 have HR':=Lib.hid hR'
 have HD:=Lib.hid hD
 have HB:=Lib.hid hB
 clear hN he hR' hD hB hR hc
 go_enter Tryz.func83,Tryz.ntmps83
 go_wp2_with fail
 have kA:Kept (fun _=>False) w (w.alloc (.cells #[.string kd,.string tx,.int .i64 i,.slice (some ⟨g,o,none⟩) c c'] 30)):=keptA
 refine(HN.out kd' tx' i' kids' He.out _ D bb mb left depth f a' n' c'' (HR'.out.kept kA (fun _ _ f=>f)) HD.out (HB.out.kept kA (fun f=>f) (fun f=>f)) hcost hdeep).mono ?_
 rintro e w1 ⟨x,v,f',rfl,hxN,hxK,R1,B1,E1,O1,L1,K1⟩
 have hkr:k.real:=by cases k<;>first | exact hk.elim | trivial
 obtain⟨b,rfl,hbD⟩:=iface_of hxK hkr R1
 have ta:=asS_any k hk (.pointer (some ⟨b,0,none⟩)) 74 w1
 have HxN:=Lib.hid hxN
 have HxK:=Lib.hid hxK
 have HR1:=Lib.hid R1
 have HB1:=Lib.hid B1
 have HE1:=Lib.hid E1
 have HO1:=Lib.hid O1
 clear hxN hxK R1 B1 E1 O1
 go_wp2_with fail
 go_ret
 exact MadeP.up kA ⟨x,_,f',rfl,HxN.out,HxK.out,HR1.out,HB1.out,HE1.out,HO1.out,L1,K1⟩
theorem must_FuncType(kids:N)(j:Nat)(hj:j<kids.len)(hl:kids.isList)(hall:kids.All Gc.N.isN)(hN:NodeB (kids.get j) .ftype)(w:World)(D:Nat→Prop)(bb mb:Nat)(left depth:Int)(f:Int→Option Addr)(kd tx:Str)(i:Int)(a:Option Addr)(c c':Nat)
 (hR:Rep w D kids.g [.slice a c c']) (hD:∀ b,D b→¬ Two bb mb b) (hB:Bld w bb mb left depth f) (hcost:((kids.get j).cost:Int)≤left) (hdeep:depth+(kids.get j).deep≤60) (J:Int) (hJ:J=j) (hmax:kids.len≤100000) :
 Calls Tryz.prog 76 #[.pointer (some ⟨bb,0,none⟩),.agg #[.string kd,.string tx,.int .i64 i,.slice a c c'],.int .i64 J] w (MadeP w bb mb (kids.get j) .ftype 0 (left-(kids.get j).cost) depth f):=by
 subst hJ
 have hc:=kid_slice hl hR
 have hcm:c≤100000:=by omega
 have hjc:(j:Int)<c:=by omega
 obtain⟨g,o,rfl⟩:=slice_someN hl hR (by omega)
 obtain⟨kd',tx',i',a',n',c'',kids',he,hl',hR',_,hg,p0,p1,p2,p3⟩:=rep_at_N (k:=j) hR hl hall hj
 have HN:=Lib.hid hN
 have He:=Lib.hid he
 have HR':=Lib.hid hR'
 have HD:=Lib.hid hD
 have HB:=Lib.hid hB
 clear hN he hR' hD hB hR hc
 go_enter Tryz.func76,Tryz.ntmps76
 go_wp2_with fail
 have kA:Kept (fun _=>False) w (w.alloc (.cells #[.string kd,.string tx,.int .i64 i,.slice (some ⟨g,o,none⟩) c c'] 30)):=keptA
 refine(HN.out kd' tx' i' kids' He.out _ D bb mb left depth f a' n' c'' (HR'.out.kept kA (fun _ _ f=>f)) HD.out (HB.out.kept kA (fun f=>f) (fun f=>f)) hcost hdeep).mono ?_
 rintro e w1 ⟨x,v,f',rfl,hxN,hxK,R1,B1,E1,O1,L1,K1⟩
 obtain⟨b,rfl,hbD⟩:=iface_of hxK trivial R1
 have ta:(Instr.typeAssert (.iface (K.pty .ftype) (.pointer (some ⟨b,0,none⟩))) 74 122 true).run Tryz.prog w1=.ok (.tuple #[.pointer (some ⟨b,0,none⟩),.bool true]) w1:=as_ftype (.pointer (some ⟨b,0,none⟩)) 74 w1
 have HxN:=Lib.hid hxN
 have HxK:=Lib.hid hxK
 have HR1:=Lib.hid (ptr_iface hxK trivial R1)
 have HB1:=Lib.hid B1
 have HE1:=Lib.hid E1
 have HO1:=Lib.hid O1
 clear hxN hxK R1 B1 E1 O1
 go_wp2_with fail
 go_ret
 exact MadeP.up kA ⟨x,_,f',rfl,HxN.out,HxK.out,HR1.out,HB1.out,HE1.out,HO1.out,L1,K1⟩
theorem must_BlockStmt(kids:N)(j:Nat)(hj:j<kids.len)(hl:kids.isList)(hall:kids.All Gc.N.isN)(hN:NodeB (kids.get j) .block)(w:World)(D:Nat→Prop)(bb mb:Nat)(left depth:Int)(f:Int→Option Addr)(kd tx:Str)(i:Int)(a:Option Addr)(c c':Nat)
 (hR:Rep w D kids.g [.slice a c c']) (hD:∀ b,D b→¬ Two bb mb b) (hB:Bld w bb mb left depth f) (hcost:((kids.get j).cost:Int)≤left) (hdeep:depth+(kids.get j).deep≤60) (J:Int) (hJ:J=j) (hmax:kids.len≤100000) :
 Calls Tryz.prog 77 #[.pointer (some ⟨bb,0,none⟩),.agg #[.string kd,.string tx,.int .i64 i,.slice a c c'],.int .i64 J] w (MadeP w bb mb (kids.get j) .block 0 (left-(kids.get j).cost) depth f):=by
 subst hJ
 have hc:=kid_slice hl hR
 have hcm:c≤100000:=by omega
 have hjc:(j:Int)<c:=by omega
 obtain⟨g,o,rfl⟩:=slice_someN hl hR (by omega)
 obtain⟨kd',tx',i',a',n',c'',kids',he,hl',hR',_,hg,p0,p1,p2,p3⟩:=rep_at_N (k:=j) hR hl hall hj
 have HN:=Lib.hid hN
 have He:=Lib.hid he
 have HR':=Lib.hid hR'
 have HD:=Lib.hid hD
 have HB:=Lib.hid hB
 clear hN he hR' hD hB hR hc
 go_enter Tryz.func77,Tryz.ntmps77
 go_wp2_with fail
 have kA:Kept (fun _=>False) w (w.alloc (.cells #[.string kd,.string tx,.int .i64 i,.slice (some ⟨g,o,none⟩) c c'] 30)):=keptA
 refine(HN.out kd' tx' i' kids' He.out _ D bb mb left depth f a' n' c'' (HR'.out.kept kA (fun _ _ f=>f)) HD.out (HB.out.kept kA (fun f=>f) (fun f=>f)) hcost hdeep).mono ?_
 rintro e w1 ⟨x,v,f',rfl,hxN,hxK,R1,B1,E1,O1,L1,K1⟩
 obtain⟨b,rfl,hbD⟩:=iface_of hxK trivial R1
 have ta:(Instr.typeAssert (.iface (K.pty .block) (.pointer (some ⟨b,0,none⟩))) 74 123 true).run Tryz.prog w1=.ok (.tuple #[.pointer (some ⟨b,0,none⟩),.bool true]) w1:=as_block (.pointer (some ⟨b,0,none⟩)) 74 w1
 have HxN:=Lib.hid hxN
 have HxK:=Lib.hid hxK
 have HR1:=Lib.hid (ptr_iface hxK trivial R1)
 have HB1:=Lib.hid B1
 have HE1:=Lib.hid E1
 have HO1:=Lib.hid O1
 clear hxN hxK R1 B1 E1 O1
 go_wp2_with fail
 go_ret
 exact MadeP.up kA ⟨x,_,f',rfl,HxN.out,HxK.out,HR1.out,HB1.out,HE1.out,HO1.out,L1,K1⟩
theorem must_Ident(kids:N)(j:Nat)(hj:j<kids.len)(hl:kids.isList)(hall:kids.All Gc.N.isN)(hN:NodeB (kids.get j) .ident)(w:World)(D:Nat→Prop)(bb mb:Nat)(left depth:Int)(f:Int→Option Addr)(kd tx:Str)(i:Int)(a:Option Addr)(c c':Nat)
 (hR:Rep w D kids.g [.slice a c c']) (hD:∀ b,D b→¬ Two bb mb b) (hB:Bld w bb mb left depth f) (hcost:((kids.get j).cost:Int)≤left) (hdeep:depth+(kids.get j).deep≤60) (J:Int) (hJ:J=j) (hmax:kids.len≤100000) :
 Calls Tryz.prog 79 #[.pointer (some ⟨bb,0,none⟩),.agg #[.string kd,.string tx,.int .i64 i,.slice a c c'],.int .i64 J] w (MadeP w bb mb (kids.get j) .ident 0 (left-(kids.get j).cost) depth f):=by
 subst hJ
 have hc:=kid_slice hl hR
 have hcm:c≤100000:=by omega
 have hjc:(j:Int)<c:=by omega
 obtain⟨g,o,rfl⟩:=slice_someN hl hR (by omega)
 obtain⟨kd',tx',i',a',n',c'',kids',he,hl',hR',_,hg,p0,p1,p2,p3⟩:=rep_at_N (k:=j) hR hl hall hj
 have HN:=Lib.hid hN
 have He:=Lib.hid he
 have HR':=Lib.hid hR'
 have HD:=Lib.hid hD
 have HB:=Lib.hid hB
 clear hN he hR' hD hB hR hc
 go_enter Tryz.func79,Tryz.ntmps79
 go_wp2_with fail
 have kA:Kept (fun _=>False) w (w.alloc (.cells #[.string kd,.string tx,.int .i64 i,.slice (some ⟨g,o,none⟩) c c'] 30)):=keptA
 refine(HN.out kd' tx' i' kids' He.out _ D bb mb left depth f a' n' c'' (HR'.out.kept kA (fun _ _ f=>f)) HD.out (HB.out.kept kA (fun f=>f) (fun f=>f)) hcost hdeep).mono ?_
 rintro e w1 ⟨x,v,f',rfl,hxN,hxK,R1,B1,E1,O1,L1,K1⟩
 obtain⟨b,rfl,hbD⟩:=iface_of hxK trivial R1
 have ta:(Instr.typeAssert (.iface (K.pty .ident) (.pointer (some ⟨b,0,none⟩))) 74 121 true).run Tryz.prog w1=.ok (.tuple #[.pointer (some ⟨b,0,none⟩),.bool true]) w1:=as_ident (.pointer (some ⟨b,0,none⟩)) 74 w1
 have HxN:=Lib.hid hxN
 have HxK:=Lib.hid hxK
 have HR1:=Lib.hid (ptr_iface hxK trivial R1)
 have HB1:=Lib.hid B1
 have HE1:=Lib.hid E1
 have HO1:=Lib.hid O1
 clear hxN hxK R1 B1 E1 O1
 go_wp2_with fail
 go_ret
 exact MadeP.up kA ⟨x,_,f',rfl,HxN.out,HxK.out,HR1.out,HB1.out,HE1.out,HO1.out,L1,K1⟩
theorem must_FieldList(kids:N)(j:Nat)(hj:j<kids.len)(hl:kids.isList)(hall:kids.All Gc.N.isN)(hN:NodeB (kids.get j) .flist)(w:World)(D:Nat→Prop)(bb mb:Nat)(left depth:Int)(f:Int→Option Addr)(kd tx:Str)(i:Int)(a:Option Addr)(c c':Nat)
 (hR:Rep w D kids.g [.slice a c c']) (hD:∀ b,D b→¬ Two bb mb b) (hB:Bld w bb mb left depth f) (hcost:((kids.get j).cost:Int)≤left) (hdeep:depth+(kids.get j).deep≤60) (J:Int) (hJ:J=j) (hmax:kids.len≤100000) :
 Calls Tryz.prog 81 #[.pointer (some ⟨bb,0,none⟩),.agg #[.string kd,.string tx,.int .i64 i,.slice a c c'],.int .i64 J] w (MadeP w bb mb (kids.get j) .flist 0 (left-(kids.get j).cost) depth f):=by
 subst hJ
 have hc:=kid_slice hl hR
 have hcm:c≤100000:=by omega
 have hjc:(j:Int)<c:=by omega
 obtain⟨g,o,rfl⟩:=slice_someN hl hR (by omega)
 obtain⟨kd',tx',i',a',n',c'',kids',he,hl',hR',_,hg,p0,p1,p2,p3⟩:=rep_at_N (k:=j) hR hl hall hj
 have HN:=Lib.hid hN
 have He:=Lib.hid he
 have HR':=Lib.hid hR'
 have HD:=Lib.hid hD
 have HB:=Lib.hid hB
 clear hN he hR' hD hB hR hc
 go_enter Tryz.func81,Tryz.ntmps81
 go_wp2_with fail
 have kA:Kept (fun _=>False) w (w.alloc (.cells #[.string kd,.string tx,.int .i64 i,.slice (some ⟨g,o,none⟩) c c'] 30)):=keptA
 refine(HN.out kd' tx' i' kids' He.out _ D bb mb left depth f a' n' c'' (HR'.out.kept kA (fun _ _ f=>f)) HD.out (HB.out.kept kA (fun f=>f) (fun f=>f)) hcost hdeep).mono ?_
 rintro e w1 ⟨x,v,f',rfl,hxN,hxK,R1,B1,E1,O1,L1,K1⟩
 obtain⟨b,rfl,hbD⟩:=iface_of hxK trivial R1
 have ta:(Instr.typeAssert (.iface (K.pty .flist) (.pointer (some ⟨b,0,none⟩))) 74 120 true).run Tryz.prog w1=.ok (.tuple #[.pointer (some ⟨b,0,none⟩),.bool true]) w1:=as_flist (.pointer (some ⟨b,0,none⟩)) 74 w1
 have HxN:=Lib.hid hxN
 have HxK:=Lib.hid hxK
 have HR1:=Lib.hid (ptr_iface hxK trivial R1)
 have HB1:=Lib.hid B1
 have HE1:=Lib.hid E1
 have HO1:=Lib.hid O1
 clear hxN hxK R1 B1 E1 O1
 go_wp2_with fail
 go_ret
 exact MadeP.up kA ⟨x,_,f',rfl,HxN.out,HxK.out,HR1.out,HB1.out,HE1.out,HO1.out,L1,K1⟩
theorem maybe_Expr_no(kids:N)(j:Nat)(hj:j<kids.len)(hl:kids.isList)(hall:kids.All Gc.N.isN)(hn:kids.get j=Gc.N.none)(w:World)(D:Nat→Prop)(bb mb:Nat)(left depth:Int)(f:Int→Option Addr)(kd tx:Str)(i:Int)(a:Option Addr)(c c':Nat)
 (hR:Rep w D kids.g [.slice a c c']) (hD:∀ b,D b→¬ Two bb mb b) (hB:Bld w bb mb left depth f) (J:Int) (hJ:J=j) (hmax:kids.len≤100000) :
 Calls Tryz.prog 75 #[.pointer (some ⟨bb,0,none⟩),.agg #[.string kd,.string tx,.int .i64 i,.slice a c c'],.int .i64 J] w (MadeP w bb mb Gc.N.none .none 1 left depth f):=by
 subst hJ
 have hc:=kid_slice hl hR
 have hcm:c≤100000:=by omega
 have hjc:(j:Int)<c:=by omega
 obtain⟨g,o,rfl⟩:=slice_someN hl hR (by omega)
 obtain⟨kd',tx',i',a',n',c'',kids',he,hl',hR',_,hg,p0,p1,p2,p3⟩:=rep_at_N (k:=j) hR hl hall hj
 rw[hn]at he
 obtain rfl:(⟨#[]⟩:ByteArray)=kd':=congrArg (fun x=>match x with|Gc.N.n k _ _ _=>k|_=>sE) he
 have HB:=Lib.hid hB
 clear hn he hR' hD hB hR hc
 go_enter Tryz.func75,Tryz.ntmps75
 go_wp2_with fail
 go_ret
 exact⟨.n .none sE 0 none 0 .nil .nil .nil .nil,_,f,rfl,rfl,rfl,⟨[],rfl,rfl⟩,HB.out.kept (keptA (M:=fun _=>False)) (fun f=>f) (fun f=>f),Ext.refl _,⟨trivial,trivial,trivial,trivial,trivial,trivial⟩,LIn.nil,keptA⟩
theorem maybe_Expr(kids:N)(j:Nat)(k:K)(hk:isE k)(hj:j<kids.len)(hl:kids.isList)(hall:kids.All Gc.N.isN)(hN:NodeB (kids.get j) k)(hne:∀ tx i ks,kids.get j≠.n sE tx i ks)(w:World)(D:Nat→Prop)(bb mb:Nat)(left depth:Int)(f:Int→Option Addr)(kd tx:Str)(i:Int)(a:Option Addr)(c c':Nat)
 (hR:Rep w D kids.g [.slice a c c']) (hD:∀ b,D b→¬ Two bb mb b) (hB:Bld w bb mb left depth f) (hcost:((kids.get j).cost:Int)≤left) (hdeep:depth+(kids.get j).deep≤60) (J:Int) (hJ:J=j) (hmax:kids.len≤100000) :
 Calls Tryz.prog 75 #[.pointer (some ⟨bb,0,none⟩),.agg #[.string kd,.string tx,.int .i64 i,.slice a c c'],.int .i64 J] w (MadeP w bb mb (kids.get j) k 1 (left-(kids.get j).cost) depth f):=by
 subst hJ
 have hc:=kid_slice hl hR
 have hcm:c≤100000:=by omega
 have hjc:(j:Int)<c:=by omega
 obtain⟨g,o,rfl⟩:=slice_someN hl hR (by omega)
 obtain⟨kd',tx',i',a',n',c'',kids',he,hl',hR',_,hg,p0,p1,p2,p3⟩:=rep_at_N (k:=j) hR hl hall hj
 have hkd:kd'.toList.isEmpty=false:=by
  cases hh:kd'.toList.isEmpty
  · rfl
  · exfalso
    rw[Go.ByteArray.toList_eq]at hh
    have e2:kd'=sE:=by
     have h2:kd'.data.toList=[]:=by simpa using hh
     cases kd' with
     | mk d=>cases d with
       | mk l=>simp only at h2;subst h2;rfl
    exact hne _ _ _ (by rw[he,e2])
 have hkd2:(kd'.toList == ByteArray.toList ⟨#[]⟩)=false:=by
  rw[Go.ByteArray.toList_eq,Go.ByteArray.toList_eq]at *
  cases hx:kd'.data.toList with
  | nil=>rw[hx]at hkd;cases hkd
  | cons=>rfl
 have hkd3:¬ kd'.toList=[]:=by
  intro e
  rw[e]at hkd
  cases hkd
 have HN:=Lib.hid hN
 have HR:=Lib.hid hR
 have HD:=Lib.hid hD
 have HB:=Lib.hid hB
 have HL:=Lib.hid hall
 clear hN he hR' hD hB hR hc hne hall
 go_enter Tryz.func75,Tryz.ntmps75
 go_wp2_with fail
 have kA:Kept (fun _=>False) w (w.alloc (.cells #[.string kd,.string tx,.int .i64 i,.slice (some ⟨g,o,none⟩) c c'] 30)):=keptA
 refine(must_Expr kids j k hk hj hl HL.out HN.out _ D bb mb left depth f kd tx i _ c c' (HR.out.kept kA (fun _ _ f=>f)) HD.out (HB.out.kept kA (fun f=>f) (fun f=>f)) hcost hdeep _ rfl hmax).mono ?_
 rintro e w1 h1
 have h2:=MadeP.up kA h1
 obtain⟨x,v,f',rfl,H⟩:=h2
 have HH:=Lib.hid H
 clear H h1
 go_wp2_with fail
 go_ret
 exact⟨x,_,f',rfl,HH.out⟩
theorem maybe_Stmt_no(kids:N)(j:Nat)(hj:j<kids.len)(hl:kids.isList)(hall:kids.All Gc.N.isN)(hn:kids.get j=Gc.N.none)(w:World)(D:Nat→Prop)(bb mb:Nat)(left depth:Int)(f:Int→Option Addr)(kd tx:Str)(i:Int)(a:Option Addr)(c c':Nat)
 (hR:Rep w D kids.g [.slice a c c']) (hD:∀ b,D b→¬ Two bb mb b) (hB:Bld w bb mb left depth f) (J:Int) (hJ:J=j) (hmax:kids.len≤100000) :
 Calls Tryz.prog 87 #[.pointer (some ⟨bb,0,none⟩),.agg #[.string kd,.string tx,.int .i64 i,.slice a c c'],.int .i64 J] w (MadeP w bb mb Gc.N.none .none 1 left depth f):=by
 subst hJ
 have hc:=kid_slice hl hR
 have hcm:c≤100000:=by omega
 have hjc:(j:Int)<c:=by omega
 obtain⟨g,o,rfl⟩:=slice_someN hl hR (by omega)
 obtain⟨kd',tx',i',a',n',c'',kids',he,hl',hR',_,hg,p0,p1,p2,p3⟩:=rep_at_N (k:=j) hR hl hall hj
 rw[hn]at he
 obtain rfl:(⟨#[]⟩:ByteArray)=kd':=congrArg (fun x=>match x with|Gc.N.n k _ _ _=>k|_=>sE) he
 have HB:=Lib.hid hB
 clear hn he hR' hD hB hR hc
 go_enter Tryz.func87,Tryz.ntmps87
 go_wp2_with fail
 go_ret
 exact⟨.n .none sE 0 none 0 .nil .nil .nil .nil,_,f,rfl,rfl,rfl,⟨[],rfl,rfl⟩,HB.out.kept (keptA (M:=fun _=>False)) (fun f=>f) (fun f=>f),Ext.refl _,⟨trivial,trivial,trivial,trivial,trivial,trivial⟩,LIn.nil,keptA⟩
theorem maybe_Stmt(kids:N)(j:Nat)(k:K)(hk:isS k)(hj:j<kids.len)(hl:kids.isList)(hall:kids.All Gc.N.isN)(hN:NodeB (kids.get j) k)(hne:∀ tx i ks,kids.get j≠.n sE tx i ks)(w:World)(D:Nat→Prop)(bb mb:Nat)(left depth:Int)(f:Int→Option Addr)(kd tx:Str)(i:Int)(a:Option Addr)(c c':Nat)
 (hR:Rep w D kids.g [.slice a c c']) (hD:∀ b,D b→¬ Two bb mb b) (hB:Bld w bb mb left depth f) (hcost:((kids.get j).cost:Int)≤left) (hdeep:depth+(kids.get j).deep≤60) (J:Int) (hJ:J=j) (hmax:kids.len≤100000) :
 Calls Tryz.prog 87 #[.pointer (some ⟨bb,0,none⟩),.agg #[.string kd,.string tx,.int .i64 i,.slice a c c'],.int .i64 J] w (MadeP w bb mb (kids.get j) k 1 (left-(kids.get j).cost) depth f):=by
 subst hJ
 have hc:=kid_slice hl hR
 have hcm:c≤100000:=by omega
 have hjc:(j:Int)<c:=by omega
 obtain⟨g,o,rfl⟩:=slice_someN hl hR (by omega)
 obtain⟨kd',tx',i',a',n',c'',kids',he,hl',hR',_,hg,p0,p1,p2,p3⟩:=rep_at_N (k:=j) hR hl hall hj
 have hkd:kd'.toList.isEmpty=false:=by
  cases hh:kd'.toList.isEmpty
  · rfl
  · exfalso
    rw[Go.ByteArray.toList_eq]at hh
    have e2:kd'=sE:=by
     have h2:kd'.data.toList=[]:=by simpa using hh
     cases kd' with
     | mk d=>cases d with
       | mk l=>simp only at h2;subst h2;rfl
    exact hne _ _ _ (by rw[he,e2])
 have hkd2:(kd'.toList == ByteArray.toList ⟨#[]⟩)=false:=by
  rw[Go.ByteArray.toList_eq,Go.ByteArray.toList_eq]at *
  cases hx:kd'.data.toList with
  | nil=>rw[hx]at hkd;cases hkd
  | cons=>rfl
 have hkd3:¬ kd'.toList=[]:=by
  intro e
  rw[e]at hkd
  cases hkd
 have HN:=Lib.hid hN
 have HR:=Lib.hid hR
 have HD:=Lib.hid hD
 have HB:=Lib.hid hB
 have HL:=Lib.hid hall
 clear hN he hR' hD hB hR hc hne hall
 go_enter Tryz.func87,Tryz.ntmps87
 go_wp2_with fail
 have kA:Kept (fun _=>False) w (w.alloc (.cells #[.string kd,.string tx,.int .i64 i,.slice (some ⟨g,o,none⟩) c c'] 30)):=keptA
 refine(must_Stmt kids j k hk hj hl HL.out HN.out _ D bb mb left depth f kd tx i _ c c' (HR.out.kept kA (fun _ _ f=>f)) HD.out (HB.out.kept kA (fun f=>f) (fun f=>f)) hcost hdeep _ rfl hmax).mono ?_
 rintro e w1 h1
 have h2:=MadeP.up kA h1
 obtain⟨x,v,f',rfl,H⟩:=h2
 have HH:=Lib.hid H
 clear H h1
 go_wp2_with fail
 go_ret
 exact⟨x,_,f',rfl,HH.out⟩
theorem maybe_BlockStmt(kids:N)(j:Nat)(hj:j<kids.len)(hl:kids.isList)(hall:kids.All Gc.N.isN)(hN:NodeB (kids.get j) .block)(hne:∀ tx i ks,kids.get j≠.n sE tx i ks)(w:World)(D:Nat→Prop)(bb mb:Nat)(left depth:Int)(f:Int→Option Addr)(kd tx:Str)(i:Int)(a:Option Addr)(c c':Nat)
 (hR:Rep w D kids.g [.slice a c c']) (hD:∀ b,D b→¬ Two bb mb b) (hB:Bld w bb mb left depth f) (hcost:((kids.get j).cost:Int)≤left) (hdeep:depth+(kids.get j).deep≤60) (J:Int) (hJ:J=j) (hmax:kids.len≤100000) :
 Calls Tryz.prog 90 #[.pointer (some ⟨bb,0,none⟩),.agg #[.string kd,.string tx,.int .i64 i,.slice a c c'],.int .i64 J] w (MadeP w bb mb (kids.get j) .block 0 (left-(kids.get j).cost) depth f):=by
 subst hJ
 have hc:=kid_slice hl hR
 have hcm:c≤100000:=by omega
 have hjc:(j:Int)<c:=by omega
 obtain⟨g,o,rfl⟩:=slice_someN hl hR (by omega)
 obtain⟨kd',tx',i',a',n',c'',kids',he,hl',hR',_,hg,p0,p1,p2,p3⟩:=rep_at_N (k:=j) hR hl hall hj
 have hkd:kd'.toList.isEmpty=false:=by
  cases hh:kd'.toList.isEmpty
  · rfl
  · exfalso
    rw[Go.ByteArray.toList_eq]at hh
    have e2:kd'=sE:=by
     have h2:kd'.data.toList=[]:=by simpa using hh
     cases kd' with
     | mk d=>cases d with
       | mk l=>simp only at h2;subst h2;rfl
    exact hne _ _ _ (by rw[he,e2])
 have hkd2:(kd'.toList == ByteArray.toList ⟨#[]⟩)=false:=by
  rw[Go.ByteArray.toList_eq,Go.ByteArray.toList_eq]at *
  cases hx:kd'.data.toList with
  | nil=>rw[hx]at hkd;cases hkd
  | cons=>rfl
 have hkd3:¬ kd'.toList=[]:=by
  intro e
  rw[e]at hkd
  cases hkd
 have HN:=Lib.hid hN
 have HR:=Lib.hid hR
 have HD:=Lib.hid hD
 have HB:=Lib.hid hB
 have HL:=Lib.hid hall
 clear hN he hR' hD hB hR hc hne hall
 go_enter Tryz.func90,Tryz.ntmps90
 go_wp2_with fail
 have kA:Kept (fun _=>False) w (w.alloc (.cells #[.string kd,.string tx,.int .i64 i,.slice (some ⟨g,o,none⟩) c c'] 30)):=keptA
 refine(must_BlockStmt kids j hj hl HL.out HN.out _ D bb mb left depth f kd tx i _ c c' (HR.out.kept kA (fun _ _ f=>f)) HD.out (HB.out.kept kA (fun f=>f) (fun f=>f)) hcost hdeep _ rfl hmax).mono ?_
 rintro e w1 h1
 have h2:=MadeP.up kA h1
 obtain⟨x,v,f',rfl,H⟩:=h2
 have HH:=Lib.hid H
 clear H h1
 go_wp2_with fail
 go_ret
 exact⟨x,_,f',rfl,HH.out⟩
theorem maybe_Ident_no(kids:N)(j:Nat)(hj:j<kids.len)(hl:kids.isList)(hall:kids.All Gc.N.isN)(hn:kids.get j=Gc.N.none)(w:World)(D:Nat→Prop)(bb mb:Nat)(left depth:Int)(f:Int→Option Addr)(kd tx:Str)(i:Int)(a:Option Addr)(c c':Nat)
 (hR:Rep w D kids.g [.slice a c c']) (hD:∀ b,D b→¬ Two bb mb b) (hB:Bld w bb mb left depth f) (J:Int) (hJ:J=j) (hmax:kids.len≤100000) :
 Calls Tryz.prog 85 #[.pointer (some ⟨bb,0,none⟩),.agg #[.string kd,.string tx,.int .i64 i,.slice a c c'],.int .i64 J] w (MadeP w bb mb Gc.N.none .none 0 left depth f):=by
 subst hJ
 have hc:=kid_slice hl hR
 have hcm:c≤100000:=by omega
 have hjc:(j:Int)<c:=by omega
 obtain⟨g,o,rfl⟩:=slice_someN hl hR (by omega)
 obtain⟨kd',tx',i',a',n',c'',kids',he,hl',hR',_,hg,p0,p1,p2,p3⟩:=rep_at_N (k:=j) hR hl hall hj
 rw[hn]at he
 obtain rfl:(⟨#[]⟩:ByteArray)=kd':=congrArg (fun x=>match x with|Gc.N.n k _ _ _=>k|_=>sE) he
 have HB:=Lib.hid hB
 clear hn he hR' hD hB hR hc
 go_enter Tryz.func85,Tryz.ntmps85
 go_wp2_with fail
 go_ret
 exact⟨.n .none sE 0 none 0 .nil .nil .nil .nil,_,f,rfl,rfl,rfl,⟨[],rfl,rfl⟩,HB.out.kept (keptA (M:=fun _=>False)) (fun f=>f) (fun f=>f),Ext.refl _,⟨trivial,trivial,trivial,trivial,trivial,trivial⟩,LIn.nil,keptA⟩
theorem maybe_Ident(kids:N)(j:Nat)(hj:j<kids.len)(hl:kids.isList)(hall:kids.All Gc.N.isN)(hN:NodeB (kids.get j) .ident)(hne:∀ tx i ks,kids.get j≠.n sE tx i ks)(w:World)(D:Nat→Prop)(bb mb:Nat)(left depth:Int)(f:Int→Option Addr)(kd tx:Str)(i:Int)(a:Option Addr)(c c':Nat)
 (hR:Rep w D kids.g [.slice a c c']) (hD:∀ b,D b→¬ Two bb mb b) (hB:Bld w bb mb left depth f) (hcost:((kids.get j).cost:Int)≤left) (hdeep:depth+(kids.get j).deep≤60) (J:Int) (hJ:J=j) (hmax:kids.len≤100000) :
 Calls Tryz.prog 85 #[.pointer (some ⟨bb,0,none⟩),.agg #[.string kd,.string tx,.int .i64 i,.slice a c c'],.int .i64 J] w (MadeP w bb mb (kids.get j) .ident 0 (left-(kids.get j).cost) depth f):=by
 subst hJ
 have hc:=kid_slice hl hR
 have hcm:c≤100000:=by omega
 have hjc:(j:Int)<c:=by omega
 obtain⟨g,o,rfl⟩:=slice_someN hl hR (by omega)
 obtain⟨kd',tx',i',a',n',c'',kids',he,hl',hR',_,hg,p0,p1,p2,p3⟩:=rep_at_N (k:=j) hR hl hall hj
 have hkd:kd'.toList.isEmpty=false:=by
  cases hh:kd'.toList.isEmpty
  · rfl
  · exfalso
    rw[Go.ByteArray.toList_eq]at hh
    have e2:kd'=sE:=by
     have h2:kd'.data.toList=[]:=by simpa using hh
     cases kd' with
     | mk d=>cases d with
       | mk l=>simp only at h2;subst h2;rfl
    exact hne _ _ _ (by rw[he,e2])
 have hkd2:(kd'.toList == ByteArray.toList ⟨#[]⟩)=false:=by
  rw[Go.ByteArray.toList_eq,Go.ByteArray.toList_eq]at *
  cases hx:kd'.data.toList with
  | nil=>rw[hx]at hkd;cases hkd
  | cons=>rfl
 have hkd3:¬ kd'.toList=[]:=by
  intro e
  rw[e]at hkd
  cases hkd
 have HN:=Lib.hid hN
 have HR:=Lib.hid hR
 have HD:=Lib.hid hD
 have HB:=Lib.hid hB
 have HL:=Lib.hid hall
 clear hN he hR' hD hB hR hc hne hall
 go_enter Tryz.func85,Tryz.ntmps85
 go_wp2_with fail
 have kA:Kept (fun _=>False) w (w.alloc (.cells #[.string kd,.string tx,.int .i64 i,.slice (some ⟨g,o,none⟩) c c'] 30)):=keptA
 refine(must_Ident kids j hj hl HL.out HN.out _ D bb mb left depth f kd tx i _ c c' (HR.out.kept kA (fun _ _ f=>f)) HD.out (HB.out.kept kA (fun f=>f) (fun f=>f)) hcost hdeep _ rfl hmax).mono ?_
 rintro e w1 h1
 have h2:=MadeP.up kA h1
 obtain⟨x,v,f',rfl,H⟩:=h2
 have HH:=Lib.hid H
 clear H h1
 go_wp2_with fail
 go_ret
 exact⟨x,_,f',rfl,HH.out⟩
theorem maybe_FieldList_no(kids:N)(j:Nat)(hj:j<kids.len)(hl:kids.isList)(hall:kids.All Gc.N.isN)(hn:kids.get j=Gc.N.none)(w:World)(D:Nat→Prop)(bb mb:Nat)(left depth:Int)(f:Int→Option Addr)(kd tx:Str)(i:Int)(a:Option Addr)(c c':Nat)
 (hR:Rep w D kids.g [.slice a c c']) (hD:∀ b,D b→¬ Two bb mb b) (hB:Bld w bb mb left depth f) (J:Int) (hJ:J=j) (hmax:kids.len≤100000) :
 Calls Tryz.prog 82 #[.pointer (some ⟨bb,0,none⟩),.agg #[.string kd,.string tx,.int .i64 i,.slice a c c'],.int .i64 J] w (MadeP w bb mb Gc.N.none .none 0 left depth f):=by
 subst hJ
 have hc:=kid_slice hl hR
 have hcm:c≤100000:=by omega
 have hjc:(j:Int)<c:=by omega
 obtain⟨g,o,rfl⟩:=slice_someN hl hR (by omega)
 obtain⟨kd',tx',i',a',n',c'',kids',he,hl',hR',_,hg,p0,p1,p2,p3⟩:=rep_at_N (k:=j) hR hl hall hj
 rw[hn]at he
 obtain rfl:(⟨#[]⟩:ByteArray)=kd':=congrArg (fun x=>match x with|Gc.N.n k _ _ _=>k|_=>sE) he
 have HB:=Lib.hid hB
 clear hn he hR' hD hB hR hc
 go_enter Tryz.func82,Tryz.ntmps82
 go_wp2_with fail
 go_ret
 exact⟨.n .none sE 0 none 0 .nil .nil .nil .nil,_,f,rfl,rfl,rfl,⟨[],rfl,rfl⟩,HB.out.kept (keptA (M:=fun _=>False)) (fun f=>f) (fun f=>f),Ext.refl _,⟨trivial,trivial,trivial,trivial,trivial,trivial⟩,LIn.nil,keptA⟩
end Go.Proofs.YtleolbpibjnedaaGreat
namespace Gc
open Go
def A.snoc:A→A→A
 | .cons h t,y=>.cons h (t.snoc y)
 | _,y=>.cons y .nil
def A.isList:A→Prop
 | .nil=>True
 | .cons _ t=>t.isList
 | _=>False
def A.len:A→Nat
 | .cons _ t=>t.len+1
 | _=>0
theorem A.g_snoc(t y:A)(h:t.isList):(t.snoc y).g 3 .fin=(t.g 3 .fin).snoc (y.g 1 .fin):=by
 induction t with
 | cons hd tl _ ih=>simp only[A.snoc,A.g,G.snoc,ih h]
 | nil=>rfl
 | _=>exact h.elim
theorem A.isList_snoc(t y:A)(h:t.isList):(t.snoc y).isList:=by
 induction t with
 | cons hd tl _ ih=>exact ih h
 | nil=>trivial
 | _=>exact h.elim
theorem A.len_snoc(t y:A)(h:t.isList):(t.snoc y).len=t.len+1:=by
 induction t with
 | cons hd tl _ ih=>simp only[A.snoc,A.len,ih h]
 | nil=>rfl
 | _=>exact h.elim
theorem A.g_len(t:A)(h:t.isList):(t.g 3 .fin).len=t.len:=by
 induction t with
 | cons hd tl _ ih=>simp only[A.g,G.len,A.len,ih h]
 | nil=>rfl
 | _=>exact h.elim
theorem A.N_snoc(t y:A)(h:t.isList):(t.snoc y).N=t.N.snoc y.N:=by
 induction t with
 | cons hd tl _ ih=>simp only[A.snoc,A.N,N.snoc,ih h]
 | nil=>rfl
 | _=>exact h.elim
theorem A.blocks_snoc(t y:A)(h:t.isList):(t.snoc y).blocks=t.blocks++y.blocks:=by
 induction t with
 | cons hd tl _ ih=>simp only[A.snoc,A.blocks,ih h,List.append_assoc]
 | nil=>simp[A.snoc,A.blocks]
 | _=>exact h.elim
theorem A.objs_snoc{f:Int→Option Addr}(t y:A)(h:t.isList)(h1:t.objs f)(h2:y.objs f):(t.snoc y).objs f:=by
 induction t with
 | cons hd tl _ ih=>exact⟨h1.1,ih h h1.2⟩
 | nil=>exact⟨h2,trivial⟩
 | _=>exact h.elim
def N.pre:N→Nat→Gc.N
 | .cons h t,k+1=>.cons h (t.pre k)
 | _,_=>.nil
theorem N.pre_zero(t:N):t.pre 0=.nil:=by cases t<;>rfl
theorem N.pre_succ:∀ (t:N) (k:Nat),k<t.len→t.pre (k+1)=(t.pre k).snoc (t.get k)
 | .cons h t,0,_=>by simp only[N.pre,N.pre_zero,N.snoc,N.get]
 | .cons h t,k+1,hk=>by
   have:=N.pre_succ t k (by simp only[N.len]at hk;omega)
   simp only[N.pre,N.snoc,N.get]
   exact congrArg _ this
 | .nil,_,h | .n ..,_,h=>by simp[N.len]at h
theorem N.pre_all:∀ (t:N),t.isList→t.pre t.len=t
 | .cons h t,hl=>by
   simp only[N.len,N.pre]
   rw[N.pre_all t hl]
 | .nil,_=>rfl
 | .n ..,h=>h.elim
theorem N.cost_pre:∀ (t:N) (k:Nat),k<t.len→(t.pre (k+1)).cost=(t.pre k).cost+(t.get k).cost∧(t.pre (k+1)).cost≤t.cost∧(t.get k).deep≤t.deep
 | .cons h t,0,_=>by simp only[N.pre,N.pre_zero,N.cost,N.get,N.deep];omega
 | .cons h t,k+1,hk=>by
   have:=N.cost_pre t k (by simp only[N.len]at hk;omega)
   simp only[N.pre,N.cost,N.get,N.deep]at this ⊢
   omega
 | .nil,_,h | .n ..,_,h=>by simp[N.len]at h
end Gc
namespace Go.Proofs.YtleolbpibjnedaaGreat
open Go Go.RowKit Gc
theorem ul_sExpr:Tryz.prog.underlying 175=some (.slice 153):=by kernel_rfl
theorem ul_sStmt:Tryz.prog.underlying 301=some (.slice 274):=by kernel_rfl
theorem info_Expr:(Tryz.prog.info? 153).map (fun i=>(i.zero,i.size,i.bytes))=some (some .nilIface,1,16):=by kernel_rfl
theorem info_Stmt:(Tryz.prog.info? 274).map (fun i=>(i.zero,i.size,i.bytes))=some (some .nilIface,1,16):=by kernel_rfl
structure LI (W0:World) (E:Nat) (bb mb:Nat) (l:N) (left depth:Int) (f:Int→Option Addr) (k:Nat) (a:Option Addr) (cap:Nat) (xs:A) (f':Int→Option Addr) (wr:World):Prop where
 own:OwnL wr (fun b=>W0.heap.size≤b) W0.heap.size E 1 (.slice a k cap) (xs.g 3 .fin)
 isl:xs.isList
 len:xs.len=k
 nn:xs.N=l.pre k
 bld:Bld wr bb mb (left-(l.pre k).cost) depth f'
 ext:Ext f f'
 objs:xs.objs f'
 lin:LIn xs.blocks W0.heap.size wr.heap.size
 kept:Kept (fun b=>Two bb mb b∨W0.heap.size≤b) W0 wr
theorem LI.start{W0:World}{E bb mb:Nat}{l:N}{left depth:Int}{f:Int→Option Addr}(hB:Bld W0 bb mb left depth f) :
 LI W0 E bb mb l left depth f 0 (some ⟨W0.heap.size,0,none⟩) 0 .nil f (W0.alloc (.cells #[] E)) :=
 ⟨⟨[],World.ownsRow_made W0 #[] 0 (Nat.le_refl _) (Nat.zero_le _) rfl,rfl⟩,trivial,rfl,by rw[N.pre_zero];rfl,by rw[N.pre_zero];simp only[N.cost,Int.natCast_zero,Int.sub_zero];exact hB.kept (keptA (M:=fun _=>False)) (fun f=>f) (fun f=>f),Ext.refl _,trivial,LIn.nil,keptA⟩
theorem LI.app{W0 wr w2:World}{E bb mb:Nat}{l:N}{left depth:Int}{f f':Int→Option Addr}{k:Nat}{a:Option Addr}{cap:Nat}{xs:A}(I:LI W0 E bb mb l left depth f k a cap xs f' wr)(hbb:bb<W0.heap.size)(hmb:mb<W0.heap.size)
 (hk:Kept (Two bb mb) wr w2) {x:A} {v:Value} (R:Rep w2 (fun b=>wr.heap.size≤b) (x.g 1 .fin) [v]) (o:Obj) :
 OwnL (w2.alloc o) (fun b=>W0.heap.size≤b) W0.heap.size E 1 (.slice a k cap) (xs.g 3 .fin)∧Rep (w2.alloc o) (fun b=>W0.heap.size≤b∧some b≠(Value.slice a k cap).ownBlock) (x.g 1 .fin) [v]∧W0.heap.size≤w2.heap.size∧(xs.g 3 .fin).len=k:=by
 have h3:Kept (Two bb mb) wr (w2.alloc o):=hk.trans keptA
 have s0:=I.kept.size
 have s1:=hk.size
 refine⟨I.own.kept h3 (fun b e=>fun h=>?_) (fun b hb h=>?_),(R.kept (keptA (M:=fun _=>False)) (fun _ _ f=>f)).imp fun b _ hb=>⟨by omega,fun e=>?_⟩,by omega,by rw[A.g_len _ I.isl,I.len]⟩
 · have:=I.own.lt b e
   rcases h with h|h<;>omega
 · rcases h with h|h<;>omega
 · have:=I.own.lt b e.symm
   omega
theorem LI.next{W0 wr w2 w4:World}{E bb mb:Nat}{l:N}{left depth:Int}{f f' f2:Int→Option Addr}{k:Nat}{a:Option Addr}{cap g cap':Nat}{xs:A}(I:LI W0 E bb mb l left depth f k a cap xs f' wr)(hbb:bb<W0.heap.size)(hmb:mb<W0.heap.size)(hkl:k<l.len)
 {x:A} (hxN:x.N=l.get k) (B2:Bld w2 bb mb (left-(l.pre k).cost-(l.get k).cost) depth f2) (E2:Ext f' f2) (O2:x.objs f2) (L2:LIn x.blocks wr.heap.size w2.heap.size) (hk:Kept (Two bb mb) wr w2) {o:Obj}
 (O4:OwnL w4 (fun b=>W0.heap.size≤b) W0.heap.size E 1 (.slice (some ⟨g,0,none⟩) (k+1) cap') ((xs.g 3 .fin).snoc (x.g 1 .fin))) (K4:Kept (fun b=>some b=(Value.slice a k cap).ownBlock) (w2.alloc o) w4) :
 LI W0 E bb mb l left depth f (k+1) (some ⟨g,0,none⟩) cap' (xs.snoc x) f2 w4:=by
 have hc:=N.cost_pre l k hkl
 have s0:=I.kept.size
 have s1:=hk.size
 have s4:=K4.size
 simp only[World.size_alloc]at s4
 have ho:∀ b,some b=(Value.slice a k cap).ownBlock→W0.heap.size≤b:=fun b e=>(I.own.lt b e.symm).1
 have K24:Kept (fun b=>some b=(Value.slice a k cap).ownBlock) w2 w4:=keptA.trans K4
 refine⟨by rw[A.g_snoc _ _ I.isl];exact O4,A.isList_snoc _ _ I.isl,by rw[A.len_snoc _ _ I.isl,I.len],by rw[A.N_snoc _ _ I.isl,I.nn,hxN,N.pre_succ _ _ hkl],?_,I.ext.trans E2,A.objs_snoc _ _ I.isl (A.objs_ext E2 _ I.objs) O2,?_,?_⟩
 · have e:left-((l.pre (k+1)).cost:Int)=left-(l.pre k).cost-(l.get k).cost:=by omega
   rw[e]
   exact B2.kept K24 (fun h=>by have:=ho _ h;omega) (fun h=>by have:=ho _ h;omega)
 · rw[A.blocks_snoc _ _ I.isl]
   exact LIn.append I.lin (L2:LIn x.blocks wr.heap.size w2.heap.size) (Nat.le_refl _) s0 (by omega) |> fun h=>⟨h.1,fun b hb=>by have:=h.2 b hb;omega⟩
 · exact(I.kept.trans (hk.mono (M':=fun b=>Two bb mb b∨W0.heap.size≤b) fun b _ h=>.inl h)).trans (K24.mono fun b _ h=>.inr (ho b h))
theorem allN_imp{P Q:N→Prop}(h:∀ x,P x→Q x):∀ {t:N},t.All P→t.All Q
 | .cons _ t,hh=>⟨h _ hh.1,allN_imp h (t:=t) hh.2⟩
 | .nil,_=>trivial
 | .n ..,_=>trivial
theorem list_Expr(kids l:N)(j:Nat)(hj:j<kids.len)(hl:kids.isList)(hall:kids.All Gc.N.isN)(hn:kids.get j=.list l)(hll:l.isList)(hla:l.All (fun x=>Gc.N.isN x∧∃ k,NodeB x k∧isE k))(hml:l.len≤100000)(w:World)(D:Nat→Prop)(bb mb:Nat)(left depth:Int)(f:Int→Option Addr)(kd tx:Str)(i:Int)(a:Option Addr)(c c':Nat)
 (hR:Rep w D kids.g [.slice a c c']) (hD:∀ b,D b→¬ Two bb mb b) (hB:Bld w bb mb left depth f) (hcost:(l.cost:Int)≤left) (hdeep:depth+l.deep≤60) (J:Int) (hJ:J=j) (hmax:kids.len≤100000) :
 Calls Tryz.prog 78 #[.pointer (some ⟨bb,0,none⟩),.agg #[.string kd,.string tx,.int .i64 i,.slice a c c'],.int .i64 J] w (MadeP w bb mb (.list l) .list 2 (left-l.cost) depth f):=by
 subst hJ
 have hc:=kid_slice hl hR
 have hcm:c≤100000:=by omega
 have hjc:(j:Int)<c:=by omega
 obtain⟨g,o,rfl⟩:=slice_someN hl hR (by omega)
 obtain⟨kd',tx',i',a',n',c'',kids',he,hl',hR',_,hg,p0,p1,p2,p3⟩:=rep_at_N (k:=j) hR hl hall hj
 rw[hn]at he
 have e1:(⟨#[108,105,115,116]⟩:ByteArray)=kd':=congrArg (fun x=>match x with | Gc.N.n k _ _ _=>k | _=>sE) he
 have e2:l=kids':=congrArg (fun x=>match x with | Gc.N.n _ _ _ k=>k | _=>.nil) he
 subst e1 e2
 clear he hn
 have hn':=kid_slice hll hR'
 have zb:bb<w.heap.size:=lt_of_heap hB.obj
 have zm:mb<w.heap.size:=by obtain⟨_,_,e,_⟩:=hB.map;exact lt_of_heap e
 have hl0:=hB.l0
 have hd0:=hB.d0
 have hn1:n'≤100000:=by omega
 have Hn':=Lib.hid hn'
 have Hla:=Lib.hid hla
 have HR':=Lib.hid hR'
 have HD:=Lib.hid hD
 have HB:=Lib.hid hB
 obtain⟨i0,hi,hz0,hz1,hz2⟩:=info_parts info_Expr
 have hcj:decide (c≤j)=false:=by simp;omega
 clear hR' hD hB hR hc hn' hla hall
 go_enter Tryz.func78,Tryz.ntmps78
 go_upto_region 10 with fail
 obtain⟨W0,hW0⟩:∃ W0,W0=(w.alloc (.cells #[.string kd,.string tx,.int .i64 i,.slice (some ⟨g,o,none⟩) c c'] 30)).alloc (.cells #[.string ⟨#[108,105,115,116]⟩,.string tx',.int .i64 i',.slice a' n' c''] 30):=⟨_,rfl⟩
 rw[← hW0]
 have K0:Kept (fun _=>False) w W0:=by rw[hW0];exact keptA.trans keptA
 have ol:W0.heap[w.heap.size+1]?=some (.cells #[.string ⟨#[108,105,115,116]⟩,.string tx',.int .i64 i',.slice a' n' c''] 30 (0,0)):=hW0▸heap2_1 w _ _
 obtain⟨x0,x1,x2,x3,-⟩:=slot4 ol
 have z0:w.heap.size+1<W0.heap.size:=lt_of_heap ol
 have zs:=K0.size
 clear hW0
 have HI:=LI.start (E:=153) (l:=l) (HB.out.kept K0 (fun f=>f) (fun f=>f))
 go_wp2_with fail
 go_loopw [8,42] (fun v t wr=>∃ (k:Nat) (a:Option Addr) (cap:Nat) (xs:A) (f':Int→Option Addr),k≤n'∧v=.slice a k cap∧t=.int .i64 k∧LI W0 153 bb mb l left depth f k a cap xs f' wr) (fun _ t _=>(n'-intOf t).toNat)
 case atStart=>exact⟨0,_,0,.nil,f,by omega,rfl,rfl,HI⟩
 case round =>
  clear HI
  obtain⟨k,a,cap,xs,f',hk3,rfl,rfl,I⟩:=hrel
  have s0:=I.kept.size
  have hnb:∀ i,¬ (Two bb mb (⟨w.heap.size+1,i,none⟩:Addr).block∨W0.heap.size≤(⟨w.heap.size+1,i,none⟩:Addr).block):=fun i h=>by simp only[Two]at h;omega
  have q0:=I.kept.cell x0 (hnb _)
  have q1:=I.kept.cell x1 (hnb _)
  have q2:=I.kept.cell x2 (hnb _)
  have q3:=I.kept.cell x3 (hnb _)
  have zr:w.heap.size+1<wr.heap.size:=by omega
  by_cases hlt:(k:Int)<n'
  · have hkl:k<l.len:=by have:=Hn'.out;omega
    obtain⟨hisN,kk,hNk,hE⟩:=Hla.out.get hkl
    have hcp:=N.cost_pre l k hkl
    have HNk:=Lib.hid hNk
    clear hNk
    go_wp2_with fail
    refine(must_Expr l k kk hE hkl hll (allN_imp (fun x h=>h.1) Hla.out) HNk.out _ (fun b=>b<w.heap.size∧¬ Two bb mb b) bb mb (left-(l.pre k).cost) depth f' _ _ _ _ _ _ ((((HR'.out.imp (D':=fun b=>b<w.heap.size∧¬ Two bb mb b) fun b hlt hb=>⟨hlt,HD.out b hb⟩).kept K0 (fun _ _ f=>f)).kept I.kept (fun b hb h=>by rcases h with h | h;exact hb.2 h;omega))) (fun b hb=>hb.2) I.bld (by omega) (by omega) _ rfl hml).mono ?_
    rintro e w2 ⟨x,v,f2,rfl,hxN,hxK,R2,B2,E2,O2,L2,K2⟩
    have hkr:kk.real:=by cases kk<;>first | exact hE.elim | trivial
    obtain⟨b,rfl,hbD⟩:=iface_of hxK hkr R2
    go_wp2_with (at_builtin;go_must (refine wpList_append_one (D:=fun b=>W0.heap.size≤b) (base:=W0.heap.size) (v:=.slice a k cap) rfl (.tmp 45) (.tmp 50) 175 rfl i0 _ 16 ul_sExpr hi hz0 hz1 hz2 rfl rfl (I.app (by omega) (by omega) K2 R2 _).1 k (I.app (by omega) (by omega) K2 R2 (Obj.cells #[] 0)).2.2.2 ⟨w2.heap.size,0,none⟩ 1 rfl (x.g 1 .fin) [.iface kk.pty (.pointer (some ⟨b,0,none⟩))] rfl (new_cells _ _ _) (fun u hu=>by rw[List.mem_singleton.1 hu];rfl) (I.app (by omega) (by omega) K2 R2 _).2.1 (by omega) (by omega) (by have:=(I.app (by omega) (by omega) K2 R2 (Obj.cells #[] 0)).2.2.1;simp;omega) ?_);intro g4 cap' w4 O4 K4 hb4 hg4)
    have I':=I.next (by omega) (by omega) hkl hxN B2 E2 O2 L2 K2 O4 K4
    go_roundw
    · exact⟨k+1,_,_,_,_,by omega,rfl,by go_num,I'⟩
    · simp[intOf];omega
  · go_wp2_with fail
    go_ret
    obtain rfl:k=l.len:=by have:=Hn'.out;omega
    have hpa:=N.pre_all l hll
    refine MadeP.up K0 ⟨.n .list sE 0 none 0 xs .nil .nil .nil,_,f',rfl,?_,rfl,?_,?_,I.ext,⟨trivial,trivial,I.objs,trivial,trivial,trivial⟩,?_,(I.kept.mono (M':=fun b=>Two bb mb b∨W0.heap.size≤b) fun _ _ h=>h).fresh (Nat.le_refl _)⟩
    · show Gc.N.n kList sE 0 xs.N=_
      rw[I.nn,hpa]
      rfl
    · exact⟨_,[],rfl,I.own.rep (D:=fun b=>W0.heap.size≤b) (fun b h0 _=>h0),rfl⟩
    · have:=I.bld
      rw[hpa]at this
      exact this
    · have e:(A.n .list sE 0 none 0 xs .nil .nil .nil).blocks=xs.blocks:=by simp[A.blocks]
      rw[e]
      exact I.lin
theorem list_Expr_no(kids:N)(j:Nat)(hj:j<kids.len)(hl:kids.isList)(hall:kids.All Gc.N.isN)(hn:kids.get j=Gc.N.none)(w:World)(D:Nat→Prop)(bb mb:Nat)(left depth:Int)(f:Int→Option Addr)(kd tx:Str)(i:Int)(a:Option Addr)(c c':Nat)
 (hR:Rep w D kids.g [.slice a c c']) (hD:∀ b,D b→¬ Two bb mb b) (hB:Bld w bb mb left depth f) (J:Int) (hJ:J=j) (hmax:kids.len≤100000) :
 Calls Tryz.prog 78 #[.pointer (some ⟨bb,0,none⟩),.agg #[.string kd,.string tx,.int .i64 i,.slice a c c'],.int .i64 J] w (MadeP w bb mb Gc.N.none .none 2 left depth f):=by
 subst hJ
 have hc:=kid_slice hl hR
 have hcm:c≤100000:=by omega
 have hjc:(j:Int)<c:=by omega
 obtain⟨g,o,rfl⟩:=slice_someN hl hR (by omega)
 obtain⟨kd',tx',i',a',n',c'',kids',he,hl',hR',_,hg,p0,p1,p2,p3⟩:=rep_at_N (k:=j) hR hl hall hj
 have hn':=kid_slice hl' hR'
 rw[hn]at he
 obtain rfl:(⟨#[]⟩:ByteArray)=kd':=congrArg (fun x=>match x with|Gc.N.n k _ _ _=>k|_=>sE) he
 have e2:Gc.N.nil=kids':=congrArg (fun x=>match x with | Gc.N.n _ _ _ k=>k | _=>.nil) he
 subst e2
 obtain rfl:n'=0:=hn'
 have HB:=Lib.hid hB
 clear hn he hR' hD hB hR hc
 go_enter Tryz.func78,Tryz.ntmps78
 go_wp2_with fail
 go_ret
 exact⟨.n .none sE 0 none 0 .nil .nil .nil .nil,_,f,rfl,rfl,rfl,⟨_,[],rfl,⟨_,_,rfl⟩,rfl⟩,HB.out.kept (M:=fun _=>False) (keptA.trans keptA) (fun f=>f) (fun f=>f),Ext.refl _,⟨trivial,trivial,trivial,trivial,trivial,trivial⟩,LIn.nil,keptA.trans keptA⟩
theorem list_Field_no(kids:N)(j:Nat)(hj:j<kids.len)(hl:kids.isList)(hall:kids.All Gc.N.isN)(hn:kids.get j=Gc.N.none)(w:World)(D:Nat→Prop)(bb mb:Nat)(left depth:Int)(f:Int→Option Addr)(kd tx:Str)(i:Int)(a:Option Addr)(c c':Nat)
 (hR:Rep w D kids.g [.slice a c c']) (hD:∀ b,D b→¬ Two bb mb b) (hB:Bld w bb mb left depth f) (J:Int) (hJ:J=j) (hmax:kids.len≤100000) :
 Calls Tryz.prog 73 #[.pointer (some ⟨bb,0,none⟩),.agg #[.string kd,.string tx,.int .i64 i,.slice a c c'],.int .i64 J] w (MadeP w bb mb Gc.N.none .none 2 left depth f):=by
 subst hJ
 have hc:=kid_slice hl hR
 have hcm:c≤100000:=by omega
 have hjc:(j:Int)<c:=by omega
 obtain⟨g,o,rfl⟩:=slice_someN hl hR (by omega)
 obtain⟨kd',tx',i',a',n',c'',kids',he,hl',hR',_,hg,p0,p1,p2,p3⟩:=rep_at_N (k:=j) hR hl hall hj
 have hn':=kid_slice hl' hR'
 rw[hn]at he
 obtain rfl:(⟨#[]⟩:ByteArray)=kd':=congrArg (fun x=>match x with|Gc.N.n k _ _ _=>k|_=>sE) he
 have e2:Gc.N.nil=kids':=congrArg (fun x=>match x with | Gc.N.n _ _ _ k=>k | _=>.nil) he
 subst e2
 obtain rfl:n'=0:=hn'
 have HB:=Lib.hid hB
 clear hn he hR' hD hB hR hc
 go_enter Tryz.func73,Tryz.ntmps73
 go_wp2_with fail
 go_ret
 exact⟨.n .none sE 0 none 0 .nil .nil .nil .nil,_,f,rfl,rfl,rfl,⟨_,[],rfl,⟨_,_,rfl⟩,rfl⟩,HB.out.kept (M:=fun _=>False) (keptA.trans keptA) (fun f=>f) (fun f=>f),Ext.refl _,⟨trivial,trivial,trivial,trivial,trivial,trivial⟩,LIn.nil,keptA.trans keptA⟩
theorem list_Stmt(kids l:N)(j:Nat)(hj:j<kids.len)(hl:kids.isList)(hall:kids.All Gc.N.isN)(hn:kids.get j=.list l)(hll:l.isList)(hla:l.All (fun x=>Gc.N.isN x∧∃ k,NodeB x k∧isS k))(hml:l.len≤100000)(w:World)(D:Nat→Prop)(bb mb:Nat)(left depth:Int)(f:Int→Option Addr)(kd tx:Str)(i:Int)(a:Option Addr)(c c':Nat)
 (hR:Rep w D kids.g [.slice a c c']) (hD:∀ b,D b→¬ Two bb mb b) (hB:Bld w bb mb left depth f) (hcost:(l.cost:Int)≤left) (hdeep:depth+l.deep≤60) (J:Int) (hJ:J=j) (hmax:kids.len≤100000) :
 Calls Tryz.prog 86 #[.pointer (some ⟨bb,0,none⟩),.agg #[.string kd,.string tx,.int .i64 i,.slice a c c'],.int .i64 J] w (MadeP w bb mb (.list l) .list 2 (left-l.cost) depth f):=by
 subst hJ
 have hc:=kid_slice hl hR
 have hcm:c≤100000:=by omega
 have hjc:(j:Int)<c:=by omega
 obtain⟨g,o,rfl⟩:=slice_someN hl hR (by omega)
 obtain⟨kd',tx',i',a',n',c'',kids',he,hl',hR',_,hg,p0,p1,p2,p3⟩:=rep_at_N (k:=j) hR hl hall hj
 rw[hn]at he
 have e1:(⟨#[108,105,115,116]⟩:ByteArray)=kd':=congrArg (fun x=>match x with | Gc.N.n k _ _ _=>k | _=>sE) he
 have e2:l=kids':=congrArg (fun x=>match x with | Gc.N.n _ _ _ k=>k | _=>.nil) he
 subst e1 e2
 clear he hn
 have hn':=kid_slice hll hR'
 have zb:bb<w.heap.size:=lt_of_heap hB.obj
 have zm:mb<w.heap.size:=by obtain⟨_,_,e,_⟩:=hB.map;exact lt_of_heap e
 have hl0:=hB.l0
 have hd0:=hB.d0
 have hn1:n'≤100000:=by omega
 have Hn':=Lib.hid hn'
 have Hla:=Lib.hid hla
 have HR':=Lib.hid hR'
 have HD:=Lib.hid hD
 have HB:=Lib.hid hB
 obtain⟨i0,hi,hz0,hz1,hz2⟩:=info_parts info_Stmt
 have hcj:decide (c≤j)=false:=by simp;omega
 clear hR' hD hB hR hc hn' hla hall
 go_enter Tryz.func86,Tryz.ntmps86
 go_upto_region 10 with fail
 obtain⟨W0,hW0⟩:∃ W0,W0=(w.alloc (.cells #[.string kd,.string tx,.int .i64 i,.slice (some ⟨g,o,none⟩) c c'] 30)).alloc (.cells #[.string ⟨#[108,105,115,116]⟩,.string tx',.int .i64 i',.slice a' n' c''] 30):=⟨_,rfl⟩
 rw[← hW0]
 have K0:Kept (fun _=>False) w W0:=by rw[hW0];exact keptA.trans keptA
 have ol:W0.heap[w.heap.size+1]?=some (.cells #[.string ⟨#[108,105,115,116]⟩,.string tx',.int .i64 i',.slice a' n' c''] 30 (0,0)):=hW0▸heap2_1 w _ _
 obtain⟨x0,x1,x2,x3,-⟩:=slot4 ol
 have z0:w.heap.size+1<W0.heap.size:=lt_of_heap ol
 have zs:=K0.size
 clear hW0
 have HI:=LI.start (E:=274) (l:=l) (HB.out.kept K0 (fun f=>f) (fun f=>f))
 go_wp2_with fail
 go_loopw [8,42] (fun v t wr=>∃ (k:Nat) (a:Option Addr) (cap:Nat) (xs:A) (f':Int→Option Addr),k≤n'∧v=.slice a k cap∧t=.int .i64 k∧LI W0 274 bb mb l left depth f k a cap xs f' wr) (fun _ t _=>(n'-intOf t).toNat)
 case atStart=>exact⟨0,_,0,.nil,f,by omega,rfl,rfl,HI⟩
 case round =>
  clear HI
  obtain⟨k,a,cap,xs,f',hk3,rfl,rfl,I⟩:=hrel
  have s0:=I.kept.size
  have hnb:∀ i,¬ (Two bb mb (⟨w.heap.size+1,i,none⟩:Addr).block∨W0.heap.size≤(⟨w.heap.size+1,i,none⟩:Addr).block):=fun i h=>by simp only[Two]at h;omega
  have q0:=I.kept.cell x0 (hnb _)
  have q1:=I.kept.cell x1 (hnb _)
  have q2:=I.kept.cell x2 (hnb _)
  have q3:=I.kept.cell x3 (hnb _)
  have zr:w.heap.size+1<wr.heap.size:=by omega
  by_cases hlt:(k:Int)<n'
  · have hkl:k<l.len:=by have:=Hn'.out;omega
    obtain⟨hisN,kk,hNk,hE⟩:=Hla.out.get hkl
    have hcp:=N.cost_pre l k hkl
    have HNk:=Lib.hid hNk
    clear hNk
    go_wp2_with fail
    refine(must_Stmt l k kk hE hkl hll (allN_imp (fun x h=>h.1) Hla.out) HNk.out _ (fun b=>b<w.heap.size∧¬ Two bb mb b) bb mb (left-(l.pre k).cost) depth f' _ _ _ _ _ _ ((((HR'.out.imp (D':=fun b=>b<w.heap.size∧¬ Two bb mb b) fun b hlt hb=>⟨hlt,HD.out b hb⟩).kept K0 (fun _ _ f=>f)).kept I.kept (fun b hb h=>by rcases h with h | h;exact hb.2 h;omega))) (fun b hb=>hb.2) I.bld (by omega) (by omega) _ rfl hml).mono ?_
    rintro e w2 ⟨x,v,f2,rfl,hxN,hxK,R2,B2,E2,O2,L2,K2⟩
    have hkr:kk.real:=by cases kk<;>first | exact hE.elim | trivial
    obtain⟨b,rfl,hbD⟩:=iface_of hxK hkr R2
    go_wp2_with (at_builtin;go_must (refine wpList_append_one (D:=fun b=>W0.heap.size≤b) (base:=W0.heap.size) (v:=.slice a k cap) rfl (.tmp 45) (.tmp 50) 301 rfl i0 _ 16 ul_sStmt hi hz0 hz1 hz2 rfl rfl (I.app (by omega) (by omega) K2 R2 _).1 k (I.app (by omega) (by omega) K2 R2 (Obj.cells #[] 0)).2.2.2 ⟨w2.heap.size,0,none⟩ 1 rfl (x.g 1 .fin) [.iface kk.pty (.pointer (some ⟨b,0,none⟩))] rfl (new_cells _ _ _) (fun u hu=>by rw[List.mem_singleton.1 hu];rfl) (I.app (by omega) (by omega) K2 R2 _).2.1 (by omega) (by omega) (by have:=(I.app (by omega) (by omega) K2 R2 (Obj.cells #[] 0)).2.2.1;simp;omega) ?_);intro g4 cap' w4 O4 K4 hb4 hg4)
    have I':=I.next (by omega) (by omega) hkl hxN B2 E2 O2 L2 K2 O4 K4
    go_roundw
    · exact⟨k+1,_,_,_,_,by omega,rfl,by go_num,I'⟩
    · simp[intOf];omega
  · go_wp2_with fail
    go_ret
    obtain rfl:k=l.len:=by have:=Hn'.out;omega
    have hpa:=N.pre_all l hll
    refine MadeP.up K0 ⟨.n .list sE 0 none 0 xs .nil .nil .nil,_,f',rfl,?_,rfl,?_,?_,I.ext,⟨trivial,trivial,I.objs,trivial,trivial,trivial⟩,?_,(I.kept.mono (M':=fun b=>Two bb mb b∨W0.heap.size≤b) fun _ _ h=>h).fresh (Nat.le_refl _)⟩
    · show Gc.N.n kList sE 0 xs.N=_
      rw[I.nn,hpa]
      rfl
    · exact⟨_,[],rfl,I.own.rep (D:=fun b=>W0.heap.size≤b) (fun b h0 _=>h0),rfl⟩
    · have:=I.bld
      rw[hpa]at this
      exact this
    · have e:(A.n .list sE 0 none 0 xs .nil .nil .nil).blocks=xs.blocks:=by simp[A.blocks]
      rw[e]
      exact I.lin
end Go.Proofs.YtleolbpibjnedaaGreat
namespace Gc
open Go
theorem LIn.mono{l:List Nat}{lo hi lo' hi':Nat}(h:LIn l lo hi)(h1:lo'≤lo)(h2:hi≤hi'):LIn l lo' hi':=⟨h.1,fun b hb=>by have:=h.2 b hb;omega⟩
theorem cost_real{k:K}(h:k.real)(t:Str)(i:Int)(kids:N):(N.n k.str t i kids).cost=1+kids.cost:=by
 cases k<;>first | exact h.elim | (simp only[N.cost];rw[if_neg (by decide)])
theorem deep_real{k:K}(h:k.real)(t:Str)(i:Int)(kids:N):(N.n k.str t i kids).deep=1+kids.deep:=by
 cases k<;>first | exact h.elim | (simp only[N.deep];rw[if_neg (by decide)])
theorem none_of1{a:A}(hn:a.isn)(hk:a.K=.none){w:World}{D:Nat→Prop}{v:Value}(h:Rep w D (a.g 1 .fin) [v]):v=.nilIface:=by
 cases a with
 | nil=>exact hn.elim
 | cons=>exact hn.elim
 | n k text num o b f0 f1 f2 f3 =>
   cases hk
   obtain⟨rs,e,_⟩:=h
   simp only[List.cons.injEq]at e
   exact e.1
theorem none_of0{a:A}(hn:a.isn)(hk:a.K=.none){w:World}{D:Nat→Prop}{v:Value}(h:Rep w D (a.g 0 .fin) [v]):v=.pointer none:=by
 cases a with
 | nil=>exact hn.elim
 | cons=>exact hn.elim
 | n k text num o b f0 f1 f2 f3 =>
   cases hk
   obtain⟨rs,e,_⟩:=h
   simp only[List.cons.injEq]at e
   exact e.1
theorem slice_of{a:A}(hn:a.isn)(hk:a.K=.none∨a.K=.list)(hl:∀ l,a.N=.n kList sE 0 l→l.isList){w:World}{D:Nat→Prop}{v:Value}(h:Rep w D (a.g 2 .fin) [v])(hN:a.K=.list→∃ l,a.N=.n kList sE 0 l):∃ g n c,v=.slice g n c:=by
 cases a with
 | nil=>exact hn.elim
 | cons=>exact hn.elim
 | n k text num o b f0 f1 f2 f3 =>
   rcases hk with hk|hk
   · cases hk
     obtain⟨u,rs,e,⟨a,c,e2⟩,_⟩:=h
     simp only[List.cons.injEq,and_true]at e e2
     exact⟨_,_,_,e.1.trans e2⟩
   · cases hk
     obtain⟨l,e0⟩:=hN rfl
     have hll:=hl l e0
     have e1:f0.N=l:=congrArg (fun x=>match x with | N.n _ _ _ k=>k | _=>.nil) e0
     obtain⟨u,rs,e,h2,_⟩:=h
     simp only[List.cons.injEq]at e
     rw[e.1]
     cases f0 with
     | nil=>obtain⟨a,c,e2⟩:=h2;simp only[List.cons.injEq,and_true]at e2;exact⟨_,_,_,e2⟩
     | cons=>obtain⟨_,_,_,_,_,e2,_⟩:=h2;simp only[List.cons.injEq,and_true]at e2;exact⟨_,_,_,e2⟩
     | n=>rw[← e1]at hll;exact hll.elim
theorem iface_ptr{a:A}{k:K}(hk:a.K=k)(hr:k.real){w:World}{D:Nat→Prop}{b:Nat}(h:Rep w D (a.g 0 .fin) [.pointer (some ⟨b,0,none⟩)]):Rep w D (a.g 1 .fin) [.iface k.pty (.pointer (some ⟨b,0,none⟩))]:=by
 subst hk
 cases a with
 | nil=>exact hr.elim
 | cons=>exact hr.elim
 | n k text num o b' f0 f1 f2 f3 =>
   cases k<;>first
    | exact hr.elim
    | (simp only[A.g,if_true,Nat.zero_ne_one,if_false]at h ⊢;obtain⟨cs,rs,e,h1,h2,h3,h4⟩:=h;simp only[ptrVal]at e;cases e;exact⟨cs,[],rfl,h1,h2,h3,rfl⟩)
end Gc
namespace Go.Proofs.YtleolbpibjnedaaGreat
open Go Go.RowKit Gc
def CallB(F:Nat)(kids:N)(j:Nat)(k:K)(m:Nat):Prop:=∀ (w:World) (D:Nat→Prop) (bb mb:Nat) (left depth:Int) (f:Int→Option Addr) (kd tx:Str) (i:Int) (a:Option Addr) (c c':Nat),
 Rep w D kids.g [.slice a c c']→(∀ b,D b→¬ Two bb mb b)→Bld w bb mb left depth f→((kids.get j).cost:Int)≤left→depth+(kids.get j).deep≤60→∀ J:Int,J=j →
 Calls Tryz.prog F #[.pointer (some ⟨bb,0,none⟩),.agg #[.string kd,.string tx,.int .i64 i,.slice a c c'],.int .i64 J] w (MadeP w bb mb (kids.get j) k m (left-(kids.get j).cost) depth f)
section
variable {kids:N} {j:Nat} (hj:j<kids.len) (hl:kids.isList) (hall:kids.All Gc.N.isN) (hmax:kids.len≤100000)
include hj hl hall hmax
theorem cb_mustE{k:K}(hk:isE k)(hN:NodeB (kids.get j) k):CallB 71 kids j k 1:=fun w D bb mb left depth f kd tx i a c c' hR hD hB h1 h2 J hJ=>must_Expr kids j k hk hj hl hall hN w D bb mb left depth f kd tx i a c c' hR hD hB h1 h2 J hJ hmax
theorem cb_mustS{k:K}(hk:isS k)(hN:NodeB (kids.get j) k):CallB 83 kids j k 1:=fun w D bb mb left depth f kd tx i a c c' hR hD hB h1 h2 J hJ=>must_Stmt kids j k hk hj hl hall hN w D bb mb left depth f kd tx i a c c' hR hD hB h1 h2 J hJ hmax
theorem cb_mustFT(hN:NodeB (kids.get j) .ftype):CallB 76 kids j .ftype 0:=fun w D bb mb left depth f kd tx i a c c' hR hD hB h1 h2 J hJ=>must_FuncType kids j hj hl hall hN w D bb mb left depth f kd tx i a c c' hR hD hB h1 h2 J hJ hmax
theorem cb_mustB(hN:NodeB (kids.get j) .block):CallB 77 kids j .block 0:=fun w D bb mb left depth f kd tx i a c c' hR hD hB h1 h2 J hJ=>must_BlockStmt kids j hj hl hall hN w D bb mb left depth f kd tx i a c c' hR hD hB h1 h2 J hJ hmax
theorem cb_mustI(hN:NodeB (kids.get j) .ident):CallB 79 kids j .ident 0:=fun w D bb mb left depth f kd tx i a c c' hR hD hB h1 h2 J hJ=>must_Ident kids j hj hl hall hN w D bb mb left depth f kd tx i a c c' hR hD hB h1 h2 J hJ hmax
theorem cb_mustFL(hN:NodeB (kids.get j) .flist):CallB 81 kids j .flist 0:=fun w D bb mb left depth f kd tx i a c c' hR hD hB h1 h2 J hJ=>must_FieldList kids j hj hl hall hN w D bb mb left depth f kd tx i a c c' hR hD hB h1 h2 J hJ hmax
theorem cb_maybeE{k:K}(hk:isE k)(hN:NodeB (kids.get j) k)(hne:∀ tx i ks,kids.get j≠.n sE tx i ks):CallB 75 kids j k 1:=fun w D bb mb left depth f kd tx i a c c' hR hD hB h1 h2 J hJ=>maybe_Expr kids j k hk hj hl hall hN hne w D bb mb left depth f kd tx i a c c' hR hD hB h1 h2 J hJ hmax
theorem cb_maybeS{k:K}(hk:isS k)(hN:NodeB (kids.get j) k)(hne:∀ tx i ks,kids.get j≠.n sE tx i ks):CallB 87 kids j k 1:=fun w D bb mb left depth f kd tx i a c c' hR hD hB h1 h2 J hJ=>maybe_Stmt kids j k hk hj hl hall hN hne w D bb mb left depth f kd tx i a c c' hR hD hB h1 h2 J hJ hmax
theorem cb_maybeB(hN:NodeB (kids.get j) .block)(hne:∀ tx i ks,kids.get j≠.n sE tx i ks):CallB 90 kids j .block 0:=fun w D bb mb left depth f kd tx i a c c' hR hD hB h1 h2 J hJ=>maybe_BlockStmt kids j hj hl hall hN hne w D bb mb left depth f kd tx i a c c' hR hD hB h1 h2 J hJ hmax
theorem cb_maybeI(hN:NodeB (kids.get j) .ident)(hne:∀ tx i ks,kids.get j≠.n sE tx i ks):CallB 85 kids j .ident 0:=fun w D bb mb left depth f kd tx i a c c' hR hD hB h1 h2 J hJ=>maybe_Ident kids j hj hl hall hN hne w D bb mb left depth f kd tx i a c c' hR hD hB h1 h2 J hJ hmax
theorem cb_noE(hn:kids.get j=Gc.N.none):CallB 75 kids j .none 1:=fun w D bb mb left depth f kd tx i a c c' hR hD hB h1 h2 J hJ=>by
 have:=maybe_Expr_no kids j hj hl hall hn w D bb mb left depth f kd tx i a c c' hR hD hB J hJ hmax
 rw[hn,show left-(Gc.N.none.cost:Int)=left by simp[Gc.N.none,N.cost,sE]];exact this
theorem cb_noS(hn:kids.get j=Gc.N.none):CallB 87 kids j .none 1:=fun w D bb mb left depth f kd tx i a c c' hR hD hB h1 h2 J hJ=>by
 have:=maybe_Stmt_no kids j hj hl hall hn w D bb mb left depth f kd tx i a c c' hR hD hB J hJ hmax
 rw[hn,show left-(Gc.N.none.cost:Int)=left by simp[Gc.N.none,N.cost,sE]];exact this
theorem cb_noI(hn:kids.get j=Gc.N.none):CallB 85 kids j .none 0:=fun w D bb mb left depth f kd tx i a c c' hR hD hB h1 h2 J hJ=>by
 have:=maybe_Ident_no kids j hj hl hall hn w D bb mb left depth f kd tx i a c c' hR hD hB J hJ hmax
 rw[hn,show left-(Gc.N.none.cost:Int)=left by simp[Gc.N.none,N.cost,sE]];exact this
theorem cb_noFL(hn:kids.get j=Gc.N.none):CallB 82 kids j .none 0:=fun w D bb mb left depth f kd tx i a c c' hR hD hB h1 h2 J hJ=>by
 have:=maybe_FieldList_no kids j hj hl hall hn w D bb mb left depth f kd tx i a c c' hR hD hB J hJ hmax
 rw[hn,show left-(Gc.N.none.cost:Int)=left by simp[Gc.N.none,N.cost,sE]];exact this
theorem cb_listE{l:N}(hn:kids.get j=.list l)(hll:l.isList)(hla:l.All (fun x=>Gc.N.isN x∧∃ k,NodeB x k∧isE k))(hml:l.len≤100000):CallB 78 kids j .list 2:=fun w D bb mb left depth f kd tx i a c c' hR hD hB h1 h2 J hJ=>by
 have e1:(kids.get j).cost=l.cost:=by rw[hn];simp[Gc.N.list,Gc.N.part,N.cost,kList]
 have e2:(kids.get j).deep=l.deep:=by rw[hn];simp[Gc.N.list,Gc.N.part,N.deep,kList]
 have:=list_Expr kids l j hj hl hall hn hll hla hml w D bb mb left depth f kd tx i a c c' hR hD hB (by omega) (by omega) J hJ hmax
 rw[e1,hn];exact this
theorem cb_listS{l:N}(hn:kids.get j=.list l)(hll:l.isList)(hla:l.All (fun x=>Gc.N.isN x∧∃ k,NodeB x k∧isS k))(hml:l.len≤100000):CallB 86 kids j .list 2:=fun w D bb mb left depth f kd tx i a c c' hR hD hB h1 h2 J hJ=>by
 have e1:(kids.get j).cost=l.cost:=by rw[hn];simp[Gc.N.list,Gc.N.part,N.cost,kList]
 have e2:(kids.get j).deep=l.deep:=by rw[hn];simp[Gc.N.list,Gc.N.part,N.deep,kList]
 have:=list_Stmt kids l j hj hl hall hn hll hla hml w D bb mb left depth f kd tx i a c c' hR hD hB (by omega) (by omega) J hJ hmax
 rw[e1,hn];exact this
theorem cb_noLE(hn:kids.get j=Gc.N.none):CallB 78 kids j .none 2:=fun w D bb mb left depth f kd tx i a c c' hR hD hB h1 h2 J hJ=>by
 have:=list_Expr_no kids j hj hl hall hn w D bb mb left depth f kd tx i a c c' hR hD hB J hJ hmax
 rw[hn,show left-(Gc.N.none.cost:Int)=left by simp[Gc.N.none,N.cost,sE]];exact this
theorem cb_noLF(hn:kids.get j=Gc.N.none):CallB 73 kids j .none 2:=fun w D bb mb left depth f kd tx i a c c' hR hD hB h1 h2 J hJ=>by
 have:=list_Field_no kids j hj hl hall hn w D bb mb left depth f kd tx i a c c' hR hD hB J hJ hmax
 rw[hn,show left-(Gc.N.none.cost:Int)=left by simp[Gc.N.none,N.cost,sE]];exact this
end
end Go.Proofs.YtleolbpibjnedaaGreat
