/-
  Texts of this proof, merged: WMb, WMk12, WLaw8, FrameA, ReadB, FrameZ, FrameY, FrameG, FrameV.
-/
import Derived.Test.YtbjbmpcgiokdaaaGreatDoorGo7
import Derived.Test.YtbjbmpcgiokdaaaGreatDoorGo6
import Derived.Test.YtbjbmpcgiokdaaaGreatDoorGo4
import Derived.OpenShut
import Derived.Test.YtbjbmpcgiokdaaaGreatDoorGo5
import Derived.Test.YtbjbmpcgiokdaaaGreatDoorRows
import Derived.Carry
import Derived.Test.YtbjbmpcgiokdaaaGreatDoorCards
import Derived.Test.YtbjbmpcgiokdaaaGreatDoorTie
import Derived.ProofKit
import Derived.Deep.DeepWitnessRowRef
set_option linter.unusedVariables false
set_option linter.unusedSimpArgs false
namespace Go.Eng
open Go Go.Proofs
set_option maxRecDepth 100000
set_option maxHeartbeats 1000000
theorem len_mem{K:Known}{ea:Fin 5→Addr}(hs:Sents K ea){rb c:Nat}{a:Option Addr}{data l:List UInt8}{f1 f2 f3:Frag}(hF:(Hn K ea hs rb a c data).At l f1 f2 f3){L:Frags}(hm:f1∈L):Fn Tryz.prog K 32 #[.pointer (some ⟨rb,0,none⟩)] L fun r L'=>r=.int .i64 ((l.length:Nat):Int)∧L'=L:=by
  obtain⟨i,rfl,rfl,hi,hd,hc,hg,rfl⟩:=hF
  obtain⟨A,B,rfl⟩:=List.append_of_mem hm
  refine Fn.sameR (Fn.perm List.perm_middle (Fn.frame (L:=[_]) (F:=A++B) (readerLen_spec rb data i hd a c hi))) ?_
  rintro r L⟨L1,⟨rfl,rfl⟩,rfl⟩
  exact⟨_,Same.perm (List.perm_middle (l₁:=A) (l₂:=B)).symm,by rw[List.length_drop],rfl⟩
theorem multi_zat{K:Known}{ea:Fin 5→Addr}{src:Src K ea}{zb:Nat}{h:Hd}{ms:Bool}{rest:List UInt8}{LZ:Frags}(hZ:ZAt src zb h ms rest LZ)(b:Bool)(G:Frags):
    Fn Tryz.prog K 33 #[.pointer (some ⟨zb,0,none⟩),.bool b] (G++LZ) fun r L=>∃LZ2,r=.tuple #[]∧ZAt src zb h b rest LZ2∧L=G++LZ2:=by
  obtain⟨f1,f2,f3,bs,xa,xn,X,fb,DN,hA,hb,hX,hDN,rfl⟩:=hZ
  have pm:∀(a1 a2 a3 a4 a5 a6 a7:Frag),(G++([a1,a2,a3,a4,a5,a6,a7]++DN)).Perm ([a6]++(G++([a1,a2,a3,a4,a5,a7]++DN))):=fun a1 a2 a3 a4 a5 a6 a7=>(permF fun x=>by simp only[List.append_eq,List.count_append,List.count_cons,List.count_nil];omega)
  refine Fn.sameR (Fn.perm (pm _ _ _ _ _ _ _) (Fn.frame (multi_walk zb _ _ b))) ?_
  rintro r L⟨L1,⟨rfl,rfl⟩,rfl⟩
  exact⟨_,Same.perm (pm _ _ _ _ _ _ _).symm,_,rfl,⟨f1,f2,f3,bs,xa,xn,X,fb,DN,hA,hb,hX,hDN,rfl⟩,rfl⟩
theorem reset_inG{K:Known}{ea:Fin 5→Addr}(hs:Sents K ea)(src:Src K ea)(l:List UInt8)(x1 x2 x3:Frag)(zb:Nat)(hA:src.At l x1 x2 x3){LZ:Frags}(hZ:ZOld zb LZ)(G:Frags):
    Fn Tryz.prog K 34 #[.pointer (some ⟨zb,0,none⟩),.iface src.t src.v] (G++(x1::x2::x3::LZ)) fun r L=>∃LE,r=Er.val ea (Ac l).1∧ResetEnd src zb l LE∧L=G++LE:=by
  refine Fn.sameR (Fn.perm (L2:=([x1,x2,x3]++LZ)++G) (permF fun x=>by simp only[List.append_eq,List.count_append,List.count_cons,List.count_nil];omega) (Fn.frame (F:=G) (reset_spec hs src l x1 x2 x3 zb hA hZ))) ?_
  rintro r L⟨L1,⟨rfl,hE⟩,rfl⟩
  exact⟨G++L1,Same.perm List.perm_append_comm,L1,rfl,hE,rfl⟩
theorem arr8(f:Nat→Value)(u0 u1 u2 u3 u4 u5 u6 u7:Value):((((((((((Array.range 8).map f).setIfInBounds 0 u0).setIfInBounds 1 u1).setIfInBounds 2 u2).setIfInBounds 3 u3).setIfInBounds 4 u4).setIfInBounds 5 u5).setIfInBounds 6 u6).setIfInBounds 7 u7)=#[u0,u1,u2,u3,u4,u5,u6,u7]:=by
  rw[show Array.range 8=#[0,1,2,3,4,5,6,7] by decide];simp
theorem unRun(s1 s2:ByteArray)(xa oa:Option Addr)(xn xc on oc:Nat)(m o e z:Int)(w:World):(Instr.buildSlice 49 1 [(0,.agg #[.int .i64 z,.string s1,.string s2,.slice xa xn xc,.int .i64 m,.int .u8 o,.slice oa on oc,.int .i64 e])].toArray).run Tryz.prog w=
   .ok (.slice (some ⟨w.heap.size,0,none⟩) 1 1) (w.alloc (.cells [Value.int .i64 z,.string s1,.string s2,.slice xa xn xc,.int .i64 m,.int .u8 o,.slice oa on oc,.int .i64 e].toArray 29)):=by
  simp[Instr.buildSlice,Instr.fill,Value.cells,newRow,Tryz.runUnderlying49,Tryz.typeInfo29]
  rw[arr8]
theorem infoU:Tryz.prog.info? 29=some Tryz.t29:=by kernel_rfl
theorem sl_reads{s:Nat}{v:Value}{k:Nat}{cs:List Value}{Lf:Frags}(h:Sl s v k cs Lf)(h0:0<k):∃b o c,v=.slice (some ⟨b,o,none⟩) k c∧∀(K:Known) (L:Frags),(∀f∈Lf,f∈L)→Reads K L b o cs:=by
  obtain⟨b,o,c,ds,rfl,rfl,h3,h4,h5,h6⟩:=h.one h0
  exact⟨b,o,c,rfl,fun K L hL=>Reads.mem (k:=0) (hL _ (.head _)) (by rw[List.drop_zero,h.1];exact h6)⟩
def MembersR(data:List UInt8)(r:Value)(L:Frags):Prop:=
  ∃us lb lo lc rb ro rc cs,r=.tuple #[.slice (some ⟨lb,lo,none⟩) us.length lc,.slice (some ⟨rb,ro,none⟩) us.length rc]∧us.length≤data.length+1∧MemL data us∧UnsV us cs L∧
    (∀(K:Known) (L2:Frags),(∀f∈L,f∈L2)→Reads K L2 lb lo cs)∧(∀(K:Known) (L2:Frags),(∀f∈L,f∈L2)→Reads K L2 rb ro (intsV (us.map (·.2))))
theorem members_end{data:List UInt8}{us:List (UnpR×Nat)}{v2 v3:Value}{cs:List Value}{Lm Lr G:Frags}(hl:us.length≤data.length+1)(hm:MemL data us)(hU:UnsV us cs G)(h2:Sl 8 v2 us.length cs Lm)(h3:Sl 1 v3 (us.map (·.2)).length (intsV (us.map (·.2))) Lr):MembersR data (.tuple #[v2,v3]) (Lm++(Lr++G)):=by
  have h0:0<us.length:=by
    cases us with
    |nil=>exact hm.elim
    |cons=>simp
  obtain⟨b,o,c,rfl,hr⟩:=sl_reads h2 h0
  obtain⟨b2,o2,c2,rfl,hr2⟩:=sl_reads h3 (by rw[List.length_map];exact h0)
  rw[List.length_map]
  exact⟨us,b,o,c,b2,o2,c2,cs,rfl,hl,hm,hU.mono (fun f hf=>by simp[hf]),fun K L2 hL=>hr K L2 fun f hf=>hL f (by simp[hf]),fun K L2 hL=>hr2 K L2 fun f hf=>hL f (by simp[hf])⟩
theorem members_walk{K:Known}{ea:Fin 5→Addr}(hs:Sents K ea)(hc:Codes K)(v:Value)(data:List UInt8)(hv:BA K v data)(hl:data.length≤70000000000)(Q:List UInt8→Prop)(hQ0:Q data)(hQ:∀l,Q l→(Ac l).1=.none→(gzR false (Ac l).2.1).1.length≤70368744177664∧((gzR false (Ac l).2.1).2.1=1→Q (gzR false (Ac l).2.1).2.2)):Fn Tryz.prog K 17 #[v] ([]) (fun r L=>∃L2 J,Same L (L2++J)∧MembersR data r L2):=by
 refine Fn.intro (args:=[v]) (RR:=Ret2 2 3 _) Tryz.func17 rfl rfl Tryz.ntmps17 (res2 Tryz.results17) ?_
 refine Bi (env2:=[(0,v)]) U<|Cr<|Ea U U<|Ea U U<|Ek3 0 2 3 U<|Cr<|Em U U ?_
 refine Ai (Ar U Tryz.call22 (clone_big hv (by omega) [])) U ?_;rintro _ _⟨a,c,GL,rfl,hCl,rfl⟩;refine Ax (L2:=(_)) U ?_
 refine Ai (OpX.pick [] (F:=(_)) U (Ar U Tryz.call21 (newReader_spec a data.length c))) U ?_;rintro _ _⟨_,⟨rb,rfl,rfl⟩,rfl⟩;refine Et2 U ?_
 obtain⟨x1,x2,x3,hA,hSm⟩:=src_big hs rb hCl (by omega)
 refine Ev (hSm [])<|Er3 U<|Ea U U<|Ek3 2 3 4 U<|Cr<|Em U U<|Aa (Eo U conc61) U<|Ai (Ar U Tryz.call20 (zNewReader_in hs (Hn K ea hs rb a c data) data x1 x2 x3 hA [])) U ?_
 rintro _ _(⟨hne,rfl,f1,f2,f3,hF,rfl⟩|⟨hno,zb,LZ,rfl,hZ,rfl⟩)
 ·refine Er3 U<|Em U U<|Aa (Bg U U) U<|Aa (Bg U U) U<|Ea U U<|Ea U U<|Ek5 2 3 4 5 6 U<|As<|Bw (fun mm ee ll=>∃(l:List UInt8),∃(zv:Value),∃(zb:Nat),∃(us:List (UnpR×Nat)),∃(cs:List Value),∃(v2:Value),∃(v3:Value),∃(Lm:Frags),∃(Lr:Frags),∃(G:Frags),∃(TT:Frags),keeps ee [2,3,4,5,6]=some [(2,v2),(3,v3),(4,.pointer (some ⟨rb,0,none⟩)),(5,zv),(6,Er.val ea (Ac l).1)]∧ll=[]++((Lm++(Lr++G))++TT)∧(ResetEnd (Hn K ea hs rb a c data) zb l TT)∧((Ac l).1=.none→zv=.pointer (some ⟨zb,0,none⟩))∧(Sl 8 v2 us.length cs Lm)∧(Sl 1 v3 (us.map (·.2)).length (intsV (us.map (·.2))) Lr)∧(UnsV us cs G)∧(∀u2,MemL l u2→MemL data (us++u2))∧(l.length+us.length≤data.length)∧(Q l)∧mm=l.length) (_) ⟨data,_,0,[],[],.slice none 0 0,.slice none 0 0,[],[],[],_,rfl,rfl,.inl ⟨hne,f1,f2,f3,[],hF,(List.append_nil _).symm⟩,(fun h=>absurd h hne),Sl.nil 8,Sl.nil 1,rfl,(fun _ h=>h),Nat.le_refl _,hQ0,rfl⟩ ?_
  rintro m0 _ _⟨l,zv,zb,us,cs,v2,v3,Lm,Lr,G,TT,hk0,rfl,hRE,hzv,hsm,hsr,hmv,hml,hle,hq,hm0⟩
  refine Av _ hk0<|As<|Am<|Cr<|Em U U<|Ag (Df U) U<|Ek6 2 3 4 5 6 18 U<|Dn U (fun h18=>?_) (fun h18=>?_)
  ·obtain⟨_,f1,f2,f3,T2,hF,rfl⟩:=hRE.resolve_right (fun h=>h18 h.1)
   have hU4:UnsV (us++[(((kindOf (Ac l).1,noHd,[],0):UnpR),(Ac l).2.1.length)]) (cs++[.int .i64 ((kindOf (Ac l).1:Nat):Int),.string ⟨#[]⟩,.string ⟨#[]⟩,.slice none 0 0,.int .i64 0,.int .u8 0,.slice none 0 0,.int .i64 0]) G:=hmv.snoc ⟨none,0,none,0,rfl,(RdV.nil).mono (fun f hf=>by cases hf),(RdV.nil).mono (fun f hf=>by cases hf)⟩
   refine Cr<|Em U U<|Em U U ?_
   refine Ai (OpX.pick [] (F:=(Lm++(Lr++G))++([f1,f2,f3]++T2)) U (Ar U Tryz.call23 (kind_spec hs _))) U ?_;rintro _ _⟨_,⟨rfl,rfl⟩,rfl⟩;refine Ax (L2:=(_)) U ?_
   refine Aa (Et (v:=.agg #[.int .i64 ((kindOf (Ac l).1:Nat):Int),.string ⟨#[]⟩,.string ⟨#[]⟩,.slice none 0 0,.int .i64 0,.int .u8 0,.slice none 0 0,.int .i64 0]) [(0,.int .i64 ((kindOf (Ac l).1:Nat):Int))] U (fun w=>by simp[Instr.build,Instr.fill,Value.cells,Tryz.zeroValue29])) U<|Ai (Bn (vs:=[.int .i64 ((kindOf (Ac l).1:Nat):Int),.string ⟨#[]⟩,.string ⟨#[]⟩,.slice none 0 0,.int .i64 0,.int .u8 0,.slice none 0 0,.int .i64 0]) (e:=29) [(0,.agg #[.int .i64 ((kindOf (Ac l).1:Nat):Int),.string ⟨#[]⟩,.string ⟨#[]⟩,.slice none 0 0,.int .i64 0,.int .u8 0,.slice none 0 0,.int .i64 0])] U (unRun _ _ _ _ _ _ _ _ _ _ _ _)) U ?_
   rintro _ _⟨yb,rfl,rfl⟩
   refine Ev (L2:=Lm++([⟨yb,0,[.int .i64 ((kindOf (Ac l).1:Nat):Int),.string ⟨#[]⟩,.string ⟨#[]⟩,.slice none 0 0,.int .i64 0,.int .u8 0,.slice none 0 0,.int .i64 0]⟩]++((Lr++G)++([f1,f2,f3]++T2)))) (Same.perm (permF fun x=>by simp only[List.append_eq,List.count_append,List.count_cons,List.count_nil];omega)) ?_
   refine Ai (Hm (P:=Tryz.prog) (s:=8) (bytes:=112) (t:=49) (xs:=cs) (ys:=[.int .i64 ((kindOf (Ac l).1:Nat):Int),.string ⟨#[]⟩,.string ⟨#[]⟩,.slice none 0 0,.int .i64 0,.int .u8 0,.slice none 0 0,.int .i64 0]) (Lf:=Lm) Tu49 infoU U U U U (by decide) U U hsm U (.inr ⟨yb,0,rfl,Reads.mem (k:=0) (List.mem_append_right _ (.head _)) U⟩) U (by omega) (by omega)) U ?_
   rintro v2 _⟨Lm3,hsm3,rfl⟩
   refine Gk (A:=[]++((Lm3++(Lr++G))++([f1,f2,f3]++T2))) (F:=[⟨yb,0,[.int .i64 ((kindOf (Ac l).1:Nat):Int),.string ⟨#[]⟩,.string ⟨#[]⟩,.slice none 0 0,.int .i64 0,.int .u8 0,.slice none 0 0,.int .i64 0]⟩]) (Same.perm (permF fun x=>by simp only[List.append_eq,List.count_append,List.count_cons,List.count_nil];omega)) ?_
   obtain⟨la3,lc3,rfl⟩:=hsm3.form
   refine Em U U<|Em U U ?_
   refine Ai (Ar U Tryz.call32 (len_mem hs hF (by simp))) U ?_;rintro _ _⟨rfl,rfl⟩;refine Ax (L2:=(_)) U ?_
   refine Ai (Bn (vs:=[.int .i64 (((Ac l).2.1.length:Nat):Int)]) (e:=3) [(0,.int .i64 (((Ac l).2.1.length:Nat):Int))] U (fun w=>by simp[Instr.buildSlice,Instr.fill,Value.cells,newRow,Tryz.runUnderlying23,Tryz.typeInfo3];rw[arr1])) U ?_
   rintro _ _⟨yb,rfl,rfl⟩
   refine Ev (L2:=Lr++([⟨yb,0,[.int .i64 (((Ac l).2.1.length:Nat):Int)]⟩]++((Lm3++G)++([f1,f2,f3]++T2)))) (Same.perm (permF fun x=>by simp only[List.append_eq,List.count_append,List.count_cons,List.count_nil];omega)) ?_
   refine Ai (Fu (L:=_) (xs:=us.map (·.2)) (ys:=[(Ac l).2.1.length]) (Lf:=Lr) U U hsr U (.inr ⟨yb,0,rfl,Reads.mem (k:=0) (List.mem_append_right _ (.head _)) U⟩) (by rw[List.length_map];simp only[List.length_cons,List.length_nil];omega)) U ?_
   rintro v3 _⟨Lr3,hsr3,rfl⟩
   refine Gk (A:=[]++((Lm3++(Lr3++G))++([f1,f2,f3]++T2))) (F:=[⟨yb,0,[.int .i64 (((Ac l).2.1.length:Nat):Int)]⟩]) (Same.perm (permF fun x=>by simp only[List.append_eq,List.count_append,List.count_cons,List.count_nil];omega)) ?_
   rw[show us.map (·.2)++[(Ac l).2.1.length]=(us++[(((kindOf (Ac l).1,noHd,[],0):UnpR),(Ac l).2.1.length)]).map (·.2) by rw[List.map_append];rfl]at hsr3
   refine Ea U U<|Ea U U<|Ek6 2 3 4 5 6 18 U<|Bb ?_
   refine⟨_,_,rfl,rfl,Lm3++(Lr3++G),_,Same.refl _,?_⟩
   exact members_end (by rw[List.length_append,List.length_singleton];omega) (hml _ (memL_bad h18)) hU4 (by rw[List.length_append];exact hsm3) hsr3
  obtain⟨_,hZ⟩:=hRE.resolve_left (fun h=>h.1 h18)
  obtain rfl:=hzv h18
  refine Ap<|Cr<|Em U U ?_
  refine Ai (Ar U Tryz.call33 (multi_zat hZ false _)) U ?_;rintro _ _⟨LZm,rfl,hZm,rfl⟩;refine Ax (L2:=(_)) U ?_
  refine Ek6 2 3 4 5 6 18 U<|Cr<|Em U U ?_
  refine Ai (Ar U Tryz.call24 (rest_in hs hc (readHead_mod _) ⟨none,0,0,rfl,by decide,.inl U⟩ (hQ l hq h18).1 hZm _)) U ?_;rintro _ _⟨a1,k1,a2,k2,GL,T9,rfl,hU,hT,rfl⟩;refine Ax (L2:=(_)) U ?_
  refine An (v:=.agg #[.int .i64 0,.string (Ac l).2.2.name,.string (Ac l).2.2.comment,.slice a1 ((Ac l).2.2.extra.getD []).length k1,.int .i64 (((Ac l).2.2.mod:Nat):Int),.int .u8 (((Ac l).2.2.os:Nat):Int),.slice a2 (gzR false (Ac l).2.1).1.length k2,.int .i64 (((gzR false (Ac l).2.1).2.1:Nat):Int)]) U ?_
  refine Ai (Dq Tryz.zeroValue29) U ?_;rintro _ _⟨b7,rfl,rfl⟩;refine Et2 U ?_
  refine Ao (Bq 0 (k:=0) U U U U U U Tz29 U) ?_;rintro _ _⟨rfl,rfl⟩;refine Et2 U ?_
  refine Ax (L2:=⟨b7,0,[.int .i64 0,.string (Ac l).2.2.name,.string (Ac l).2.2.comment,.slice a1 ((Ac l).2.2.extra.getD []).length k1,.int .i64 (((Ac l).2.2.mod:Nat):Int),.int .u8 (((Ac l).2.2.os:Nat):Int),.slice a2 (gzR false (Ac l).2.1).1.length k2,.int .i64 (((gzR false (Ac l).2.1).2.1:Nat):Int)]⟩::((Lm++(Lr++G))++(GL++T9))) U<|Ek7 2 3 4 5 6 7 18 U ?_
  obtain⟨w1,w2,w3,LZ2,⟨l0,hA0⟩,hA1,hOld,rfl⟩:=hT
  obtain⟨l3,hA3,hl3⟩:∃l3,(Hn K ea hs rb a c data).At l3 w1 w2 w3∧((gzR false (Ac l).2.1).2.1=1→l3=(gzR false (Ac l).2.1).2.2):=by
    by_cases hk:(gzR false (Ac l).2.1).2.1=1
    · exact⟨_,hA1 U hk,fun _=>rfl⟩
    · exact⟨l0,hA0,fun h=>absurd h hk⟩
  have hU4:UnsV (us++[(((0,(Ac l).2.2,(gzR false (Ac l).2.1).1,(gzR false (Ac l).2.1).2.1):UnpR),l3.length)]) (cs++[.int .i64 0,.string (Ac l).2.2.name,.string (Ac l).2.2.comment,.slice a1 ((Ac l).2.2.extra.getD []).length k1,.int .i64 (((Ac l).2.2.mod:Nat):Int),.int .u8 (((Ac l).2.2.os:Nat):Int),.slice a2 (gzR false (Ac l).2.1).1.length k2,.int .i64 (((gzR false (Ac l).2.1).2.1:Nat):Int)]) (G++GL):=by
    refine(hmv.mono (fun f hf=>by simp[hf])).snoc ⟨a1,k1,a2,k2,rfl,?_,?_⟩
    · obtain⟨ev,bv,e,q1,q2⟩:=hU
      rw[unV,unV]at e
      injection e with e
      simp only[Array.mk.injEq,List.cons.injEq,and_true,true_and]at e
      obtain⟨rfl,rfl⟩:=e
      exact q1.mono (fun f hf=>by simp[hf])
    · obtain⟨ev,bv,e,q1,q2⟩:=hU
      rw[unV,unV]at e
      injection e with e
      simp only[Array.mk.injEq,List.cons.injEq,and_true,true_and]at e
      obtain⟨rfl,rfl⟩:=e
      exact q2.mono (fun f hf=>by simp[hf])
  refine Cr<|Em U U<|Ag (De 0 (k:=0) U U U U Tryz.isAgg29 Tz29) U<|Ai (Bn (vs:=[.int .i64 0,.string (Ac l).2.2.name,.string (Ac l).2.2.comment,.slice a1 ((Ac l).2.2.extra.getD []).length k1,.int .i64 (((Ac l).2.2.mod:Nat):Int),.int .u8 (((Ac l).2.2.os:Nat):Int),.slice a2 (gzR false (Ac l).2.1).1.length k2,.int .i64 (((gzR false (Ac l).2.1).2.1:Nat):Int)]) (e:=29) [(0,.agg #[.int .i64 0,.string (Ac l).2.2.name,.string (Ac l).2.2.comment,.slice a1 ((Ac l).2.2.extra.getD []).length k1,.int .i64 (((Ac l).2.2.mod:Nat):Int),.int .u8 (((Ac l).2.2.os:Nat):Int),.slice a2 (gzR false (Ac l).2.1).1.length k2,.int .i64 (((gzR false (Ac l).2.1).2.1:Nat):Int)])] U (unRun _ _ _ _ _ _ _ _ _ _ _ _)) U ?_
  rintro _ _⟨yb,rfl,rfl⟩
  refine Ev (L2:=Lm++([⟨yb,0,[.int .i64 0,.string (Ac l).2.2.name,.string (Ac l).2.2.comment,.slice a1 ((Ac l).2.2.extra.getD []).length k1,.int .i64 (((Ac l).2.2.mod:Nat):Int),.int .u8 (((Ac l).2.2.os:Nat):Int),.slice a2 (gzR false (Ac l).2.1).1.length k2,.int .i64 (((gzR false (Ac l).2.1).2.1:Nat):Int)]⟩,⟨b7,0,[.int .i64 0,.string (Ac l).2.2.name,.string (Ac l).2.2.comment,.slice a1 ((Ac l).2.2.extra.getD []).length k1,.int .i64 (((Ac l).2.2.mod:Nat):Int),.int .u8 (((Ac l).2.2.os:Nat):Int),.slice a2 (gzR false (Ac l).2.1).1.length k2,.int .i64 (((gzR false (Ac l).2.1).2.1:Nat):Int)]⟩]++((Lr++G)++(GL++(w1::w2::w3::LZ2))))) (Same.perm (permF fun x=>by simp only[List.append_eq,List.count_append,List.count_cons,List.count_nil];omega)) ?_
  refine Ai (Hm (P:=Tryz.prog) (s:=8) (bytes:=112) (t:=49) (xs:=cs) (ys:=[.int .i64 0,.string (Ac l).2.2.name,.string (Ac l).2.2.comment,.slice a1 ((Ac l).2.2.extra.getD []).length k1,.int .i64 (((Ac l).2.2.mod:Nat):Int),.int .u8 (((Ac l).2.2.os:Nat):Int),.slice a2 (gzR false (Ac l).2.1).1.length k2,.int .i64 (((gzR false (Ac l).2.1).2.1:Nat):Int)]) (Lf:=Lm) Tu49 infoU U U U U (by decide) U U hsm U (.inr ⟨yb,0,rfl,Reads.mem (k:=0) (List.mem_append_right _ (.head _)) U⟩) U (by omega) (by omega)) U ?_
  rintro v2 _⟨Lm3,hsm3,rfl⟩
  refine Gk (A:=[⟨b7,0,[.int .i64 0,.string (Ac l).2.2.name,.string (Ac l).2.2.comment,.slice a1 ((Ac l).2.2.extra.getD []).length k1,.int .i64 (((Ac l).2.2.mod:Nat):Int),.int .u8 (((Ac l).2.2.os:Nat):Int),.slice a2 (gzR false (Ac l).2.1).1.length k2,.int .i64 (((gzR false (Ac l).2.1).2.1:Nat):Int)]⟩]++((Lm3++(Lr++G))++(GL++(w1::w2::w3::LZ2)))) (F:=[⟨yb,0,[.int .i64 0,.string (Ac l).2.2.name,.string (Ac l).2.2.comment,.slice a1 ((Ac l).2.2.extra.getD []).length k1,.int .i64 (((Ac l).2.2.mod:Nat):Int),.int .u8 (((Ac l).2.2.os:Nat):Int),.slice a2 (gzR false (Ac l).2.1).1.length k2,.int .i64 (((gzR false (Ac l).2.1).2.1:Nat):Int)]⟩]) (Same.perm (permF fun x=>by simp only[List.append_eq,List.count_append,List.count_cons,List.count_nil];omega)) ?_
  obtain⟨la3,lc3,rfl⟩:=hsm3.form
  refine Em U U<|Em U U ?_
  refine Ai (Ar U Tryz.call32 (len_mem hs hA3 (by simp))) U ?_;rintro _ _⟨rfl,rfl⟩;refine Et2 U ?_
  refine Ai (Bn (vs:=[.int .i64 ((l3.length:Nat):Int)]) (e:=3) [(0,.int .i64 ((l3.length:Nat):Int))] U (fun w=>by simp[Instr.buildSlice,Instr.fill,Value.cells,newRow,Tryz.runUnderlying23,Tryz.typeInfo3];rw[arr1])) U ?_
  rintro _ _⟨yb,rfl,rfl⟩
  refine Ev (L2:=Lr++([⟨yb,0,[.int .i64 ((l3.length:Nat):Int)]⟩,⟨b7,0,[.int .i64 0,.string (Ac l).2.2.name,.string (Ac l).2.2.comment,.slice a1 ((Ac l).2.2.extra.getD []).length k1,.int .i64 (((Ac l).2.2.mod:Nat):Int),.int .u8 (((Ac l).2.2.os:Nat):Int),.slice a2 (gzR false (Ac l).2.1).1.length k2,.int .i64 (((gzR false (Ac l).2.1).2.1:Nat):Int)]⟩]++((Lm3++G)++(GL++(w1::w2::w3::LZ2))))) (Same.perm (permF fun x=>by simp only[List.append_eq,List.count_append,List.count_cons,List.count_nil];omega)) ?_
  refine Ai (Fu (L:=_) (xs:=us.map (·.2)) (ys:=[l3.length]) (Lf:=Lr) U U hsr U (.inr ⟨yb,0,rfl,Reads.mem (k:=0) (List.mem_append_right _ (.head _)) U⟩) (by rw[List.length_map];simp only[List.length_cons,List.length_nil];omega)) U ?_
  rintro v3 _⟨Lr3,hsr3,rfl⟩
  refine Gk (A:=[⟨b7,0,[.int .i64 0,.string (Ac l).2.2.name,.string (Ac l).2.2.comment,.slice a1 ((Ac l).2.2.extra.getD []).length k1,.int .i64 (((Ac l).2.2.mod:Nat):Int),.int .u8 (((Ac l).2.2.os:Nat):Int),.slice a2 (gzR false (Ac l).2.1).1.length k2,.int .i64 (((gzR false (Ac l).2.1).2.1:Nat):Int)]⟩]++((Lm3++(Lr3++G))++(GL++(w1::w2::w3::LZ2)))) (F:=[⟨yb,0,[.int .i64 ((l3.length:Nat):Int)]⟩]) (Same.perm (permF fun x=>by simp only[List.append_eq,List.count_append,List.count_cons,List.count_nil];omega)) ?_
  rw[show us.map (·.2)++[l3.length]=(us++[(((0,(Ac l).2.2,(gzR false (Ac l).2.1).1,(gzR false (Ac l).2.1).2.1):UnpR),l3.length)]).map (·.2) by rw[List.map_append];rfl]at hsr3
  refine Ea U U<|Ea U U<|Ek7 2 3 4 5 6 7 18 U<|Am<|Cr<|Aa (Ab U fa29_3) U<|Ag (Aj 0 (k:=7) U U U Ta3) U<|Aa (S.ne (b:=((1:Nat):Int)) U U) U<|Ek8 2 3 4 5 6 7 18 45 U<|Bf U (fun h45=>?_) (fun h45=>?_)
  ·refine Cr<|Em U U<|Em U U<|Ea U U<|Ea U U<|Ek8 2 3 4 5 6 7 18 45 U<|Bb ?_
   refine⟨_,_,rfl,rfl,Lm3++(Lr3++(G++GL)),⟨b7,0,[.int .i64 0,.string (Ac l).2.2.name,.string (Ac l).2.2.comment,.slice a1 ((Ac l).2.2.extra.getD []).length k1,.int .i64 (((Ac l).2.2.mod:Nat):Int),.int .u8 (((Ac l).2.2.os:Nat):Int),.slice a2 (gzR false (Ac l).2.1).1.length k2,.int .i64 (((gzR false (Ac l).2.1).2.1:Nat):Int)]⟩::w1::w2::w3::LZ2,Same.perm (permF fun x=>by simp only[List.append_eq,List.count_append,List.count_cons,List.count_nil];omega),?_⟩
   exact members_end (by rw[List.length_append,List.length_singleton];omega) (hml _ (memL_last h18 (by omega))) hU4 (by rw[List.length_append];exact hsm3) hsr3
  have hk1:(gzR false (Ac l).2.1).2.1=1:=by omega
  obtain rfl:=hl3 hk1
  have hglt:=gz_rest_lt hk1
  have hrl:=readHead_le l
  refine Ap<|Al<|Em U U<|Em U U<|Aa (Eo U conc61) U ?_
  refine Ev (L2:=([⟨b7,0,[.int .i64 0,.string (Ac l).2.2.name,.string (Ac l).2.2.comment,.slice a1 ((Ac l).2.2.extra.getD []).length k1,.int .i64 (((Ac l).2.2.mod:Nat):Int),.int .u8 (((Ac l).2.2.os:Nat):Int),.slice a2 (gzR false (Ac l).2.1).1.length k2,.int .i64 (((gzR false (Ac l).2.1).2.1:Nat):Int)]⟩]++((Lm3++(Lr3++G))++GL))++(w1::w2::w3::LZ2)) (Same.perm (permF fun x=>by simp only[List.append_eq,List.count_append,List.count_cons,List.count_nil];omega)) ?_
  refine Ai (Ar U Tryz.call34 (reset_inG hs (Hn K ea hs rb a c data) (gzR false (Ac l).2.1).2.2 w1 w2 w3 zb hA3 hOld _)) U ?_;rintro _ _⟨LE,rfl,hRE4,rfl⟩;refine Ax (L2:=(_)) U ?_
  refine Gk (A:=(Lm3++(Lr3++(G++GL)))++LE) (F:=[⟨b7,0,[.int .i64 0,.string (Ac l).2.2.name,.string (Ac l).2.2.comment,.slice a1 ((Ac l).2.2.extra.getD []).length k1,.int .i64 (((Ac l).2.2.mod:Nat):Int),.int .u8 (((Ac l).2.2.os:Nat):Int),.slice a2 (gzR false (Ac l).2.1).1.length k2,.int .i64 (((gzR false (Ac l).2.1).2.1:Nat):Int)]⟩]) (Same.perm (permF fun x=>by simp only[List.append_eq,List.count_append,List.count_cons,List.count_nil];omega)) ?_
  refine Ea U U<|Ek8 2 3 4 5 6 7 18 45 U ?_
  refine⟨_,?_,(gzR false (Ac l).2.1).2.2,_,zb,us++[(((0,(Ac l).2.2,(gzR false (Ac l).2.1).1,(gzR false (Ac l).2.1).2.1):UnpR),(gzR false (Ac l).2.1).2.2.length)],cs++[.int .i64 0,.string (Ac l).2.2.name,.string (Ac l).2.2.comment,.slice a1 ((Ac l).2.2.extra.getD []).length k1,.int .i64 (((Ac l).2.2.mod:Nat):Int),.int .u8 (((Ac l).2.2.os:Nat):Int),.slice a2 (gzR false (Ac l).2.1).1.length k2,.int .i64 (((gzR false (Ac l).2.1).2.1:Nat):Int)],_,_,Lm3,Lr3,G++GL,LE,rfl,rfl,hRE4,(fun _=>rfl),(by rw[List.length_append];exact hsm3),hsr3,hU4,(fun u2 h=>by rw[List.append_assoc];exact hml _ (memL_next h18 hk1 h)),(by rw[List.length_append,List.length_singleton];omega),((hQ l hq h18).2 hk1),rfl⟩;omega
 refine Ax (L2:=(_)) U<|Em U U<|Aa (Bg U U) U<|Aa (Bg U U) U<|Ea U U<|Ea U U<|Ek5 2 3 4 5 6 U<|As<|Bw (fun mm ee ll=>∃(l:List UInt8),∃(zv:Value),∃(zb:Nat),∃(us:List (UnpR×Nat)),∃(cs:List Value),∃(v2:Value),∃(v3:Value),∃(Lm:Frags),∃(Lr:Frags),∃(G:Frags),∃(TT:Frags),keeps ee [2,3,4,5,6]=some [(2,v2),(3,v3),(4,.pointer (some ⟨rb,0,none⟩)),(5,zv),(6,Er.val ea (Ac l).1)]∧ll=[]++((Lm++(Lr++G))++TT)∧(ResetEnd (Hn K ea hs rb a c data) zb l TT)∧((Ac l).1=.none→zv=.pointer (some ⟨zb,0,none⟩))∧(Sl 8 v2 us.length cs Lm)∧(Sl 1 v3 (us.map (·.2)).length (intsV (us.map (·.2))) Lr)∧(UnsV us cs G)∧(∀u2,MemL l u2→MemL data (us++u2))∧(l.length+us.length≤data.length)∧(Q l)∧mm=l.length) (_) ⟨data,_,zb,[],[],.slice none 0 0,.slice none 0 0,[],[],[],_,rfl,rfl,.inr ⟨hno,hZ⟩,(fun _=>rfl),Sl.nil 8,Sl.nil 1,rfl,(fun _ h=>h),Nat.le_refl _,hQ0,rfl⟩ ?_
 rintro m1 _ _⟨l,zv,zb,us,cs,v2,v3,Lm,Lr,G,TT,hk1,rfl,hRE,hzv,hsm,hsr,hmv,hml,hle,hq,hm1⟩
 refine Av _ hk1<|As<|Am<|Cr<|Em U U<|Ag (Df U) U<|Ek6 2 3 4 5 6 18 U<|Dn U (fun h18=>?_) (fun h18=>?_)
 ·obtain⟨_,f1,f2,f3,T2,hF,rfl⟩:=hRE.resolve_right (fun h=>h18 h.1)
  have hU4:UnsV (us++[(((kindOf (Ac l).1,noHd,[],0):UnpR),(Ac l).2.1.length)]) (cs++[.int .i64 ((kindOf (Ac l).1:Nat):Int),.string ⟨#[]⟩,.string ⟨#[]⟩,.slice none 0 0,.int .i64 0,.int .u8 0,.slice none 0 0,.int .i64 0]) G:=hmv.snoc ⟨none,0,none,0,rfl,(RdV.nil).mono (fun f hf=>by cases hf),(RdV.nil).mono (fun f hf=>by cases hf)⟩
  refine Cr<|Em U U<|Em U U ?_
  refine Ai (OpX.pick [] (F:=(Lm++(Lr++G))++([f1,f2,f3]++T2)) U (Ar U Tryz.call23 (kind_spec hs _))) U ?_;rintro _ _⟨_,⟨rfl,rfl⟩,rfl⟩;refine Ax (L2:=(_)) U ?_
  refine Aa (Et (v:=.agg #[.int .i64 ((kindOf (Ac l).1:Nat):Int),.string ⟨#[]⟩,.string ⟨#[]⟩,.slice none 0 0,.int .i64 0,.int .u8 0,.slice none 0 0,.int .i64 0]) [(0,.int .i64 ((kindOf (Ac l).1:Nat):Int))] U (fun w=>by simp[Instr.build,Instr.fill,Value.cells,Tryz.zeroValue29])) U<|Ai (Bn (vs:=[.int .i64 ((kindOf (Ac l).1:Nat):Int),.string ⟨#[]⟩,.string ⟨#[]⟩,.slice none 0 0,.int .i64 0,.int .u8 0,.slice none 0 0,.int .i64 0]) (e:=29) [(0,.agg #[.int .i64 ((kindOf (Ac l).1:Nat):Int),.string ⟨#[]⟩,.string ⟨#[]⟩,.slice none 0 0,.int .i64 0,.int .u8 0,.slice none 0 0,.int .i64 0])] U (unRun _ _ _ _ _ _ _ _ _ _ _ _)) U ?_
  rintro _ _⟨yb,rfl,rfl⟩
  refine Ev (L2:=Lm++([⟨yb,0,[.int .i64 ((kindOf (Ac l).1:Nat):Int),.string ⟨#[]⟩,.string ⟨#[]⟩,.slice none 0 0,.int .i64 0,.int .u8 0,.slice none 0 0,.int .i64 0]⟩]++((Lr++G)++([f1,f2,f3]++T2)))) (Same.perm (permF fun x=>by simp only[List.append_eq,List.count_append,List.count_cons,List.count_nil];omega)) ?_
  refine Ai (Hm (P:=Tryz.prog) (s:=8) (bytes:=112) (t:=49) (xs:=cs) (ys:=[.int .i64 ((kindOf (Ac l).1:Nat):Int),.string ⟨#[]⟩,.string ⟨#[]⟩,.slice none 0 0,.int .i64 0,.int .u8 0,.slice none 0 0,.int .i64 0]) (Lf:=Lm) Tu49 infoU U U U U (by decide) U U hsm U (.inr ⟨yb,0,rfl,Reads.mem (k:=0) (List.mem_append_right _ (.head _)) U⟩) U (by omega) (by omega)) U ?_
  rintro v2 _⟨Lm3,hsm3,rfl⟩
  refine Gk (A:=[]++((Lm3++(Lr++G))++([f1,f2,f3]++T2))) (F:=[⟨yb,0,[.int .i64 ((kindOf (Ac l).1:Nat):Int),.string ⟨#[]⟩,.string ⟨#[]⟩,.slice none 0 0,.int .i64 0,.int .u8 0,.slice none 0 0,.int .i64 0]⟩]) (Same.perm (permF fun x=>by simp only[List.append_eq,List.count_append,List.count_cons,List.count_nil];omega)) ?_
  obtain⟨la3,lc3,rfl⟩:=hsm3.form
  refine Em U U<|Em U U ?_
  refine Ai (Ar U Tryz.call32 (len_mem hs hF (by simp))) U ?_;rintro _ _⟨rfl,rfl⟩;refine Ax (L2:=(_)) U ?_
  refine Ai (Bn (vs:=[.int .i64 (((Ac l).2.1.length:Nat):Int)]) (e:=3) [(0,.int .i64 (((Ac l).2.1.length:Nat):Int))] U (fun w=>by simp[Instr.buildSlice,Instr.fill,Value.cells,newRow,Tryz.runUnderlying23,Tryz.typeInfo3];rw[arr1])) U ?_
  rintro _ _⟨yb,rfl,rfl⟩
  refine Ev (L2:=Lr++([⟨yb,0,[.int .i64 (((Ac l).2.1.length:Nat):Int)]⟩]++((Lm3++G)++([f1,f2,f3]++T2)))) (Same.perm (permF fun x=>by simp only[List.append_eq,List.count_append,List.count_cons,List.count_nil];omega)) ?_
  refine Ai (Fu (L:=_) (xs:=us.map (·.2)) (ys:=[(Ac l).2.1.length]) (Lf:=Lr) U U hsr U (.inr ⟨yb,0,rfl,Reads.mem (k:=0) (List.mem_append_right _ (.head _)) U⟩) (by rw[List.length_map];simp only[List.length_cons,List.length_nil];omega)) U ?_
  rintro v3 _⟨Lr3,hsr3,rfl⟩
  refine Gk (A:=[]++((Lm3++(Lr3++G))++([f1,f2,f3]++T2))) (F:=[⟨yb,0,[.int .i64 (((Ac l).2.1.length:Nat):Int)]⟩]) (Same.perm (permF fun x=>by simp only[List.append_eq,List.count_append,List.count_cons,List.count_nil];omega)) ?_
  rw[show us.map (·.2)++[(Ac l).2.1.length]=(us++[(((kindOf (Ac l).1,noHd,[],0):UnpR),(Ac l).2.1.length)]).map (·.2) by rw[List.map_append];rfl]at hsr3
  refine Ea U U<|Ea U U<|Ek6 2 3 4 5 6 18 U<|Bb ?_
  refine⟨_,_,rfl,rfl,Lm3++(Lr3++G),_,Same.refl _,?_⟩
  exact members_end (by rw[List.length_append,List.length_singleton];omega) (hml _ (memL_bad h18)) hU4 (by rw[List.length_append];exact hsm3) hsr3
 obtain⟨_,hZ⟩:=hRE.resolve_left (fun h=>h.1 h18)
 obtain rfl:=hzv h18
 refine Ap<|Cr<|Em U U ?_
 refine Ai (Ar U Tryz.call33 (multi_zat hZ false _)) U ?_;rintro _ _⟨LZm,rfl,hZm,rfl⟩;refine Ax (L2:=(_)) U ?_
 refine Ek6 2 3 4 5 6 18 U<|Cr<|Em U U ?_
 refine Ai (Ar U Tryz.call24 (rest_in hs hc (readHead_mod _) ⟨none,0,0,rfl,by decide,.inl U⟩ (hQ l hq h18).1 hZm _)) U ?_;rintro _ _⟨a1,k1,a2,k2,GL,T9,rfl,hU,hT,rfl⟩;refine Ax (L2:=(_)) U ?_
 refine An (v:=.agg #[.int .i64 0,.string (Ac l).2.2.name,.string (Ac l).2.2.comment,.slice a1 ((Ac l).2.2.extra.getD []).length k1,.int .i64 (((Ac l).2.2.mod:Nat):Int),.int .u8 (((Ac l).2.2.os:Nat):Int),.slice a2 (gzR false (Ac l).2.1).1.length k2,.int .i64 (((gzR false (Ac l).2.1).2.1:Nat):Int)]) U ?_
 refine Ai (Dq Tryz.zeroValue29) U ?_;rintro _ _⟨b7,rfl,rfl⟩;refine Et2 U ?_
 refine Ao (Bq 0 (k:=0) U U U U U U Tz29 U) ?_;rintro _ _⟨rfl,rfl⟩;refine Et2 U ?_
 refine Ax (L2:=⟨b7,0,[.int .i64 0,.string (Ac l).2.2.name,.string (Ac l).2.2.comment,.slice a1 ((Ac l).2.2.extra.getD []).length k1,.int .i64 (((Ac l).2.2.mod:Nat):Int),.int .u8 (((Ac l).2.2.os:Nat):Int),.slice a2 (gzR false (Ac l).2.1).1.length k2,.int .i64 (((gzR false (Ac l).2.1).2.1:Nat):Int)]⟩::((Lm++(Lr++G))++(GL++T9))) U<|Ek7 2 3 4 5 6 7 18 U ?_
 obtain⟨w1,w2,w3,LZ2,⟨l0,hA0⟩,hA1,hOld,rfl⟩:=hT
 obtain⟨l3,hA3,hl3⟩:∃l3,(Hn K ea hs rb a c data).At l3 w1 w2 w3∧((gzR false (Ac l).2.1).2.1=1→l3=(gzR false (Ac l).2.1).2.2):=by
   by_cases hk:(gzR false (Ac l).2.1).2.1=1
   · exact⟨_,hA1 U hk,fun _=>rfl⟩
   · exact⟨l0,hA0,fun h=>absurd h hk⟩
 have hU4:UnsV (us++[(((0,(Ac l).2.2,(gzR false (Ac l).2.1).1,(gzR false (Ac l).2.1).2.1):UnpR),l3.length)]) (cs++[.int .i64 0,.string (Ac l).2.2.name,.string (Ac l).2.2.comment,.slice a1 ((Ac l).2.2.extra.getD []).length k1,.int .i64 (((Ac l).2.2.mod:Nat):Int),.int .u8 (((Ac l).2.2.os:Nat):Int),.slice a2 (gzR false (Ac l).2.1).1.length k2,.int .i64 (((gzR false (Ac l).2.1).2.1:Nat):Int)]) (G++GL):=by
   refine(hmv.mono (fun f hf=>by simp[hf])).snoc ⟨a1,k1,a2,k2,rfl,?_,?_⟩
   · obtain⟨ev,bv,e,q1,q2⟩:=hU
     rw[unV,unV]at e
     injection e with e
     simp only[Array.mk.injEq,List.cons.injEq,and_true,true_and]at e
     obtain⟨rfl,rfl⟩:=e
     exact q1.mono (fun f hf=>by simp[hf])
   · obtain⟨ev,bv,e,q1,q2⟩:=hU
     rw[unV,unV]at e
     injection e with e
     simp only[Array.mk.injEq,List.cons.injEq,and_true,true_and]at e
     obtain⟨rfl,rfl⟩:=e
     exact q2.mono (fun f hf=>by simp[hf])
 refine Cr<|Em U U<|Ag (De 0 (k:=0) U U U U Tryz.isAgg29 Tz29) U<|Ai (Bn (vs:=[.int .i64 0,.string (Ac l).2.2.name,.string (Ac l).2.2.comment,.slice a1 ((Ac l).2.2.extra.getD []).length k1,.int .i64 (((Ac l).2.2.mod:Nat):Int),.int .u8 (((Ac l).2.2.os:Nat):Int),.slice a2 (gzR false (Ac l).2.1).1.length k2,.int .i64 (((gzR false (Ac l).2.1).2.1:Nat):Int)]) (e:=29) [(0,.agg #[.int .i64 0,.string (Ac l).2.2.name,.string (Ac l).2.2.comment,.slice a1 ((Ac l).2.2.extra.getD []).length k1,.int .i64 (((Ac l).2.2.mod:Nat):Int),.int .u8 (((Ac l).2.2.os:Nat):Int),.slice a2 (gzR false (Ac l).2.1).1.length k2,.int .i64 (((gzR false (Ac l).2.1).2.1:Nat):Int)])] U (unRun _ _ _ _ _ _ _ _ _ _ _ _)) U ?_
 rintro _ _⟨yb,rfl,rfl⟩
 refine Ev (L2:=Lm++([⟨yb,0,[.int .i64 0,.string (Ac l).2.2.name,.string (Ac l).2.2.comment,.slice a1 ((Ac l).2.2.extra.getD []).length k1,.int .i64 (((Ac l).2.2.mod:Nat):Int),.int .u8 (((Ac l).2.2.os:Nat):Int),.slice a2 (gzR false (Ac l).2.1).1.length k2,.int .i64 (((gzR false (Ac l).2.1).2.1:Nat):Int)]⟩,⟨b7,0,[.int .i64 0,.string (Ac l).2.2.name,.string (Ac l).2.2.comment,.slice a1 ((Ac l).2.2.extra.getD []).length k1,.int .i64 (((Ac l).2.2.mod:Nat):Int),.int .u8 (((Ac l).2.2.os:Nat):Int),.slice a2 (gzR false (Ac l).2.1).1.length k2,.int .i64 (((gzR false (Ac l).2.1).2.1:Nat):Int)]⟩]++((Lr++G)++(GL++(w1::w2::w3::LZ2))))) (Same.perm (permF fun x=>by simp only[List.append_eq,List.count_append,List.count_cons,List.count_nil];omega)) ?_
 refine Ai (Hm (P:=Tryz.prog) (s:=8) (bytes:=112) (t:=49) (xs:=cs) (ys:=[.int .i64 0,.string (Ac l).2.2.name,.string (Ac l).2.2.comment,.slice a1 ((Ac l).2.2.extra.getD []).length k1,.int .i64 (((Ac l).2.2.mod:Nat):Int),.int .u8 (((Ac l).2.2.os:Nat):Int),.slice a2 (gzR false (Ac l).2.1).1.length k2,.int .i64 (((gzR false (Ac l).2.1).2.1:Nat):Int)]) (Lf:=Lm) Tu49 infoU U U U U (by decide) U U hsm U (.inr ⟨yb,0,rfl,Reads.mem (k:=0) (List.mem_append_right _ (.head _)) U⟩) U (by omega) (by omega)) U ?_
 rintro v2 _⟨Lm3,hsm3,rfl⟩
 refine Gk (A:=[⟨b7,0,[.int .i64 0,.string (Ac l).2.2.name,.string (Ac l).2.2.comment,.slice a1 ((Ac l).2.2.extra.getD []).length k1,.int .i64 (((Ac l).2.2.mod:Nat):Int),.int .u8 (((Ac l).2.2.os:Nat):Int),.slice a2 (gzR false (Ac l).2.1).1.length k2,.int .i64 (((gzR false (Ac l).2.1).2.1:Nat):Int)]⟩]++((Lm3++(Lr++G))++(GL++(w1::w2::w3::LZ2)))) (F:=[⟨yb,0,[.int .i64 0,.string (Ac l).2.2.name,.string (Ac l).2.2.comment,.slice a1 ((Ac l).2.2.extra.getD []).length k1,.int .i64 (((Ac l).2.2.mod:Nat):Int),.int .u8 (((Ac l).2.2.os:Nat):Int),.slice a2 (gzR false (Ac l).2.1).1.length k2,.int .i64 (((gzR false (Ac l).2.1).2.1:Nat):Int)]⟩]) (Same.perm (permF fun x=>by simp only[List.append_eq,List.count_append,List.count_cons,List.count_nil];omega)) ?_
 obtain⟨la3,lc3,rfl⟩:=hsm3.form
 refine Em U U<|Em U U ?_
 refine Ai (Ar U Tryz.call32 (len_mem hs hA3 (by simp))) U ?_;rintro _ _⟨rfl,rfl⟩;refine Et2 U ?_
 refine Ai (Bn (vs:=[.int .i64 ((l3.length:Nat):Int)]) (e:=3) [(0,.int .i64 ((l3.length:Nat):Int))] U (fun w=>by simp[Instr.buildSlice,Instr.fill,Value.cells,newRow,Tryz.runUnderlying23,Tryz.typeInfo3];rw[arr1])) U ?_
 rintro _ _⟨yb,rfl,rfl⟩
 refine Ev (L2:=Lr++([⟨yb,0,[.int .i64 ((l3.length:Nat):Int)]⟩,⟨b7,0,[.int .i64 0,.string (Ac l).2.2.name,.string (Ac l).2.2.comment,.slice a1 ((Ac l).2.2.extra.getD []).length k1,.int .i64 (((Ac l).2.2.mod:Nat):Int),.int .u8 (((Ac l).2.2.os:Nat):Int),.slice a2 (gzR false (Ac l).2.1).1.length k2,.int .i64 (((gzR false (Ac l).2.1).2.1:Nat):Int)]⟩]++((Lm3++G)++(GL++(w1::w2::w3::LZ2))))) (Same.perm (permF fun x=>by simp only[List.append_eq,List.count_append,List.count_cons,List.count_nil];omega)) ?_
 refine Ai (Fu (L:=_) (xs:=us.map (·.2)) (ys:=[l3.length]) (Lf:=Lr) U U hsr U (.inr ⟨yb,0,rfl,Reads.mem (k:=0) (List.mem_append_right _ (.head _)) U⟩) (by rw[List.length_map];simp only[List.length_cons,List.length_nil];omega)) U ?_
 rintro v3 _⟨Lr3,hsr3,rfl⟩
 refine Gk (A:=[⟨b7,0,[.int .i64 0,.string (Ac l).2.2.name,.string (Ac l).2.2.comment,.slice a1 ((Ac l).2.2.extra.getD []).length k1,.int .i64 (((Ac l).2.2.mod:Nat):Int),.int .u8 (((Ac l).2.2.os:Nat):Int),.slice a2 (gzR false (Ac l).2.1).1.length k2,.int .i64 (((gzR false (Ac l).2.1).2.1:Nat):Int)]⟩]++((Lm3++(Lr3++G))++(GL++(w1::w2::w3::LZ2)))) (F:=[⟨yb,0,[.int .i64 ((l3.length:Nat):Int)]⟩]) (Same.perm (permF fun x=>by simp only[List.append_eq,List.count_append,List.count_cons,List.count_nil];omega)) ?_
 rw[show us.map (·.2)++[l3.length]=(us++[(((0,(Ac l).2.2,(gzR false (Ac l).2.1).1,(gzR false (Ac l).2.1).2.1):UnpR),l3.length)]).map (·.2) by rw[List.map_append];rfl]at hsr3
 refine Ea U U<|Ea U U<|Ek7 2 3 4 5 6 7 18 U<|Am<|Cr<|Aa (Ab U fa29_3) U<|Ag (Aj 0 (k:=7) U U U Ta3) U<|Aa (S.ne (b:=((1:Nat):Int)) U U) U<|Ek8 2 3 4 5 6 7 18 45 U<|Bf U (fun h45=>?_) (fun h45=>?_)
 ·refine Cr<|Em U U<|Em U U<|Ea U U<|Ea U U<|Ek8 2 3 4 5 6 7 18 45 U<|Bb ?_
  refine⟨_,_,rfl,rfl,Lm3++(Lr3++(G++GL)),⟨b7,0,[.int .i64 0,.string (Ac l).2.2.name,.string (Ac l).2.2.comment,.slice a1 ((Ac l).2.2.extra.getD []).length k1,.int .i64 (((Ac l).2.2.mod:Nat):Int),.int .u8 (((Ac l).2.2.os:Nat):Int),.slice a2 (gzR false (Ac l).2.1).1.length k2,.int .i64 (((gzR false (Ac l).2.1).2.1:Nat):Int)]⟩::w1::w2::w3::LZ2,Same.perm (permF fun x=>by simp only[List.append_eq,List.count_append,List.count_cons,List.count_nil];omega),?_⟩
  exact members_end (by rw[List.length_append,List.length_singleton];omega) (hml _ (memL_last h18 (by omega))) hU4 (by rw[List.length_append];exact hsm3) hsr3
 have hk1:(gzR false (Ac l).2.1).2.1=1:=by omega
 obtain rfl:=hl3 hk1
 have hglt:=gz_rest_lt hk1
 have hrl:=readHead_le l
 refine Ap<|Al<|Em U U<|Em U U<|Aa (Eo U conc61) U ?_
 refine Ev (L2:=([⟨b7,0,[.int .i64 0,.string (Ac l).2.2.name,.string (Ac l).2.2.comment,.slice a1 ((Ac l).2.2.extra.getD []).length k1,.int .i64 (((Ac l).2.2.mod:Nat):Int),.int .u8 (((Ac l).2.2.os:Nat):Int),.slice a2 (gzR false (Ac l).2.1).1.length k2,.int .i64 (((gzR false (Ac l).2.1).2.1:Nat):Int)]⟩]++((Lm3++(Lr3++G))++GL))++(w1::w2::w3::LZ2)) (Same.perm (permF fun x=>by simp only[List.append_eq,List.count_append,List.count_cons,List.count_nil];omega)) ?_
 refine Ai (Ar U Tryz.call34 (reset_inG hs (Hn K ea hs rb a c data) (gzR false (Ac l).2.1).2.2 w1 w2 w3 zb hA3 hOld _)) U ?_;rintro _ _⟨LE,rfl,hRE4,rfl⟩;refine Ax (L2:=(_)) U ?_
 refine Gk (A:=(Lm3++(Lr3++(G++GL)))++LE) (F:=[⟨b7,0,[.int .i64 0,.string (Ac l).2.2.name,.string (Ac l).2.2.comment,.slice a1 ((Ac l).2.2.extra.getD []).length k1,.int .i64 (((Ac l).2.2.mod:Nat):Int),.int .u8 (((Ac l).2.2.os:Nat):Int),.slice a2 (gzR false (Ac l).2.1).1.length k2,.int .i64 (((gzR false (Ac l).2.1).2.1:Nat):Int)]⟩]) (Same.perm (permF fun x=>by simp only[List.append_eq,List.count_append,List.count_cons,List.count_nil];omega)) ?_
 refine Ea U U<|Ek8 2 3 4 5 6 7 18 45 U ?_
 refine⟨_,?_,(gzR false (Ac l).2.1).2.2,_,zb,us++[(((0,(Ac l).2.2,(gzR false (Ac l).2.1).1,(gzR false (Ac l).2.1).2.1):UnpR),(gzR false (Ac l).2.1).2.2.length)],cs++[.int .i64 0,.string (Ac l).2.2.name,.string (Ac l).2.2.comment,.slice a1 ((Ac l).2.2.extra.getD []).length k1,.int .i64 (((Ac l).2.2.mod:Nat):Int),.int .u8 (((Ac l).2.2.os:Nat):Int),.slice a2 (gzR false (Ac l).2.1).1.length k2,.int .i64 (((gzR false (Ac l).2.1).2.1:Nat):Int)],_,_,Lm3,Lr3,G++GL,LE,rfl,rfl,hRE4,(fun _=>rfl),(by rw[List.length_append];exact hsm3),hsr3,hU4,(fun u2 h=>by rw[List.append_assoc];exact hml _ (memL_next h18 hk1 h)),(by rw[List.length_append,List.length_singleton];omega),((hQ l hq h18).2 hk1),rfl⟩;omega
theorem members_big{K:Known}{ea:Fin 5→Addr}(hs:Sents K ea)(hc:Codes K){v:Value}{data:List UInt8}(hv:BA K v data)(hl:data.length≤70000000000)(Q:List UInt8→Prop)(hQ0:Q data)(hQ:∀l,Q l→(Ac l).1=.none→(gzR false (Ac l).2.1).1.length≤70368744177664∧((gzR false (Ac l).2.1).2.1=1→Q (gzR false (Ac l).2.1).2.2))(G:Frags):
    Fn Tryz.prog K 17 #[v] G fun r L=>∃GL,MembersR data r GL∧L=G++GL:=by
  refine Fn.lose (Fn.frame (L:=[]) (F:=G) (members_walk hs hc v data hv hl Q hQ0 hQ)) ?_
  rintro r L⟨L1,⟨L2,J,hS,hU⟩,rfl⟩
  refine⟨G++L2,J,?_,L2,hU,rfl⟩
  have:=Same.appendL G hS
  rw[←List.append_assoc]at this
  exact(Same.perm List.perm_append_comm).trans this
theorem small_q(l:List UInt8)(h:l.length≤65536)(h18:(Ac l).1=.none):(gzR false (Ac l).2.1).1.length≤70368744177664∧((gzR false (Ac l).2.1).2.1=1→(gzR false (Ac l).2.1).2.2.length≤65536):=by
  have hr:=readHead_le l
  refine⟨Nat.le_trans (gzR_len _ _ (by omega)) (by decide),fun hk=>?_⟩
  have:=gz_rest_lt hk
  omega
end Go.Eng
set_option maxRecDepth 100000
namespace Go.Eng
open Go Go.Proofs
theorem members_fr{K:Known}{ea:Fin 5→Addr}(hs:Sents K ea)(hc:Codes K){v:Value}{data:List UInt8}{g:Frag}(hv:Sl 1 v data.length (bytesV data) [g])(h0:0<data.length)(hl:data.length≤70000000000)
    (Q:List UInt8→Prop)(hQ0:Q data)(hQ:∀l,Q l→(Ac l).1=.none→(gzR false (Ac l).2.1).1.length≤70368744177664∧((gzR false (Ac l).2.1).2.1=1→Q (gzR false (Ac l).2.1).2.2)):
    Fn Tryz.prog K 17 #[v] [g] fun r L=>∃GL,MembersR data r GL∧L=GL:=by
  have key:Fn Tryz.prog K 17 #[v] [g] fun r L'=>∃L1,MembersR data r L1∧L'=L1++[g]:=by
    refine Fn.still fun w hw=>?_
    obtain⟨b,o,c,cs,rfl,h2,h3,h4,h5,h6⟩:=hv.one h0
    simp only[List.cons.injEq,and_true]at h2
    subst h2
    rw[Nat.mul_one]at h6
    have hr:Reads K [⟨b,o,cs⟩] b o (bytesV data):=Reads.mem (k:=0) (.head _) (by rw[List.drop_zero,Bh];exact h6)
    have hb:∀b o,K b=some o→w.heap[b]? =some o:=fun _ _ h=>hw.base _ _ h
    refine Fn.mono (members_big (hs.mono hb) (hc.mono hb) (v:=.slice (some ⟨b,o,none⟩) data.length c) (.inr (.inr ⟨b,o,c,rfl,h4,hr.kb hw⟩)) hl Q hQ0 hQ []) ?_
    rintro r L⟨GL,h,rfl⟩
    exact h
  refine Fn.lose key ?_
  rintro r L⟨GL,h,rfl⟩
  exact⟨GL,[g],Same.refl _,GL,h,rfl⟩
theorem make_tail{K:Known}(hS:SpT K)(hOC:CapS K 7)(l:List MB)(pb po pc i:Nat)(hB:∀i (h:i<l.length),∃cs,MbA K cs l[i]∧∀j u,cs[j]? =some u→cellAt K pb (po+i*12+j)=some u)(hlen:wtMs l≤10000000)(hll:l.length≤10000000)(hmade:∀p∈l,∃nb cb data,MdOk p nb cb data)(hsize:∀p∈l,SizeOk p)(hi:i<l.length)(c:Nat)(hc:l.length≤c):
    Fn Tryz.prog K 10 #[.slice (some ⟨pb,part po i c 12,none⟩) (l.length-i) pc] [] fun r L=>∃out g a c,r=.slice a out.length c∧FileR K (l.drop i) out∧out.length≤1250*wtMs l∧L=[g]:=by
  have hd:wtMs (l.drop i)≤wtMs l:=by
    have e:wtMs (l.take i++l.drop i)=wtMs (l.take i)+wtMs (l.drop i):=by unfold wtMs;rw[List.map_append,List.sum_append]
    rw[List.take_append_drop]at e
    omega
  have hk:=make_rd hS hOC (l.drop i) pb (po+i*12) pc (fun j hj=>by
    rw[List.length_drop]at hj
    obtain⟨cs,h1,h2⟩:=hB (i+j) (by omega)
    refine⟨cs,by rw[List.getElem_drop];exact h1,fun k u hu=>?_⟩
    rw[←h2 k u hu];congr 1;omega) (by omega) (by rw[List.length_drop];omega) (fun p hp=>hmade p (List.mem_of_mem_drop hp)) (fun p hp=>hsize p (List.mem_of_mem_drop hp)) (by rw[List.length_drop];omega)
  rw[List.length_drop]at hk
  rw[part,if_neg (by omega)]
  refine Fn.mono hk ?_
  rintro r L⟨out,g,h1,h2,h3,h4,rfl⟩
  obtain⟨a,c2,rfl⟩:=h1.form
  exact⟨out,g,a,c2,rfl,h3,by omega,rfl⟩
theorem BA.eb{K:Known}{a:Option Addr}{n c:Nat}{l:List UInt8}(h:BA K (.slice a n c) l):∀L:Frags,RB K L a l:=by
  rcases h with⟨_,rfl⟩|⟨_,_,_,rfl⟩|⟨pb,po,cap,e,_,hk⟩
  · exact fun L=>.inl U
  · exact fun L=>.inl U
  · injection e with e1
    exact fun L=>.inr ⟨pb,po,e1,hk.reads⟩
def MetQ(behind l:List UInt8):Prop:=(∃ms,Chain l ms behind∧(allD ms).length≤65536∧ms≠[])∨l.length≤65536
theorem metQ_of{behind l:List UInt8}{ms:List PM}(hb:behind.length≤65536)(h:Chain l ms behind)(hd:(allD ms).length≤65536):MetQ behind l:=by
  cases ms with
  |nil=>
    have e:l=behind:=h
    exact .inr (by rw[e];exact hb)
  |cons m ms=>exact .inl ⟨_,h,hd,by simp⟩
theorem metQ_step{behind:List UInt8}(hb:behind.length≤65536)(l:List UInt8)(h:MetQ behind l)(h18:(Ac l).1=.none):(gzR false (Ac l).2.1).1.length≤70368744177664∧((gzR false (Ac l).2.1).2.1=1→MetQ behind (gzR false (Ac l).2.1).2.2):=by
  rcases h with⟨ms,hc,hd,h0⟩|h
  · cases ms with
    |nil=>exact absurd rfl h0
    |cons m ms=>
      obtain⟨rest,⟨_,_,h3⟩,_,h5⟩:=hc
      rw[allD_cons,List.length_append]at hd
      rw[h3]
      exact⟨by show m.data.length≤_;omega,fun _=>metQ_of hb h5 (by omega)⟩
  · have:=small_q l h h18
    exact⟨this.1,fun hk=>.inr (this.2 hk)⟩
theorem law8_plain{K:Known}{l:List MB}{out behind:List UInt8}(h:FileR K l out)(hq:(l.flatMap dataOf).length≤65536)(hb:behind.length≤65536):
    MetQ behind (out++behind)∧∀us,MemL (out++behind) us→l.length<us.length∧
      (∀i (hi:i<l.length),∃u n,us[i]? =some (u,n)∧u.1=0∧u.2.2.2=1∧u.2.2.1=dataOf l[i]∧u.2.1.name=l[i].md.name∧u.2.1.comment=l[i].md.comment∧u.2.1.extra.getD []=l[i].md.extra∧((u.2.1.mod:Nat):Int)=l[i].md.mod∧u.2.1.os=l[i].md.os.toNat∧
        (i+1=l.length→n=behind.length)∧∀out2,FileR K (l.drop (i+1)) out2→n=out2.length+behind.length)∧
      (behind=[]→us.length=l.length+1∧∃u n,us[l.length]? =some (u,n)∧u.1=1):=by
  obtain⟨ps,hp,rfl⟩:=h
  obtain⟨ms,h1,h2⟩:=file_chain behind hp
  have hd:=allM_data h2
  refine⟨metQ_of hb h1 (by rw[hd];exact hq),fun us hm=>?_⟩
  obtain⟨us2,rfl,hm2⟩:=memL_chain h1 hm
  have hlm:ms.length=l.length:=allM_len h2
  have hu0:0<us2.length:=by
    cases us2 with
    |nil=>exact hm2.elim
    |cons=>simp
  refine⟨by rw[List.length_append,List.length_map];omega,fun i hi=>?_,fun e=>?_⟩
  · obtain⟨m,hmi,⟨nb,cb,k1,k2⟩,k3⟩:=allM_get h2 hi
    refine⟨(mu m).1,m.left,by rw[List.getElem?_append_left (by rw[List.length_map];omega),List.getElem?_map,hmi];rfl,rfl,rfl,?_,?_,?_,k2.2.2.1,k2.2.2.2.1,k2.2.2.2.2,fun e=>?_,k3⟩
    · show m.data=_
      unfold dataOf;rw[k1.2.2.2.2.2.2.2.1];rfl
    · show m.hd.name=_
      rw[k2.1,latin_back k1.1]
    · show m.hd.comment=_
      rw[k2.2.1,latin_back k1.2.1]
    · have:=k3 [] (by rw[e,List.drop_length];exact FileR.nil)
      simpa using this
  · subst e
    have hk:(Ac []).1≠.none:=by decide
    match us2,hm2 with
    |(u,n)::r,hm2=>
      rcases hm2 with⟨_,rfl,rfl⟩|⟨hb,_⟩
      · refine⟨by rw[List.length_append,List.length_map,List.length_singleton];omega,_,n,by rw[List.getElem?_append_right (by rw[List.length_map];omega),List.length_map,hlm,Nat.sub_self];rfl,by decide⟩
      · exact absurd hb hk
set_option maxRecDepth 100000
set_option maxHeartbeats 1000000
theorem law8{K:Known}{ea:Fin 5→Addr}(hs:Sents K ea)(hc:Codes K)(hS:SpT K)(hOC:CapS K 7)(l:List MB)(a:Option Addr)(c:Nat)(hM:MbsA K a l)(hlen:wtMs l≤10000000)(hll:l.length≤10000000)(hlc:l.length≤c)(behind:List UInt8)(a2:Option Addr)(c2:Nat)(hv:BA K (.slice a2 behind.length c2) behind):Fn Tryz.prog K 5 #[.slice a l.length c,.slice a2 behind.length c2] ([]) (fun r L=>r=.bool true):=by
 refine Fn.intro (args:=[.slice a l.length c,.slice a2 behind.length c2]) (RR:=Ret1 4 _) Tryz.func5 rfl rfl Tryz.ntmps5 (res1 Tryz.results5) ?_
 refine Bi (env2:=[(0,.slice a l.length c),(1,.slice a2 behind.length c2)]) U<|Cr<|Ea U U<|Ek3 0 1 4 U<|Am<|Cr<|Em U U ?_
 refine Ai (OpX.pick [] (F:=[]) U (Ar U Tryz.call7 (zz6_spec l a c hM hll))) U ?_;rintro _ _⟨_,⟨q1,rfl,hq1,rfl⟩,rfl⟩;refine Ax (L2:=[]) U ?_
 refine Aa (Gc U) U<|Em U U<|Ha (fun g16=>?_) (fun g16=>?_)
 ·refine Ae 16 true U U U U<|Ae 16 true U U U U<|Ae 16 true U U U U<|Aa (Bz U U) U<|Ek4 0 1 4 20 U<|He U (rfl)<|Cr<|Ea U U<|Ek4 0 1 4 20 U<|Bb ?_
  exact⟨_,rfl,rfl⟩
 refine Ak 16 U U<|Em U U<|Ak 16 U U<|Aa (Bc U Tu25) U<|Ak 16 U U<|Aa (Fh (b:=((2147483647:Nat):Int)) U U) U<|Aa (Bk U U) U<|Ek4 0 1 4 20 U<|Bf U (fun h20=>?_) (fun h20=>?_)
 ·refine Cr<|Ea U U<|Ek4 0 1 4 20 U<|Bb ?_
  exact⟨_,rfl,rfl⟩
 have hqt:q1=true:=by simpa using g16
 have hsz:=hq1 hqt
 refine Ap<|Am<|Cr<|Em U U ?_
 refine Ai (OpX.pick [] (F:=[]) U (Ar U Tryz.call8 (madeq_spec l a c hM hlen hll hsz))) U ?_;rintro _ _⟨_,⟨q2,rfl,hq2,rfl⟩,rfl⟩;refine Ax (L2:=[]) U ?_
 refine Aa (Gc U) U<|Em U U<|Ha (fun g24=>?_) (fun g24=>?_)
 ·refine Ae 24 true U U U U<|Ae 24 true U U U U<|Ae 24 true U U U U<|Aa (Bz U U) U<|Ek5 0 1 4 20 28 U<|He U (rfl)<|Cr<|Ea U U<|Ek5 0 1 4 20 28 U<|Bb ?_
  exact⟨_,rfl,rfl⟩
 refine Ak 24 U U<|Em U U<|Ak 24 U U<|Aa (Bc U Tu25) U<|Ak 24 U U<|Aa (Fh (b:=((65536:Nat):Int)) U U) U<|Aa (Bk U U) U<|Ek5 0 1 4 20 28 U<|Bf U (fun h28=>?_) (fun h28=>?_)
 ·refine Cr<|Ea U U<|Ek5 0 1 4 20 28 U<|Bb ?_
  exact⟨_,rfl,rfl⟩
 have hq2t:q2=true:=by simpa using g24
 have hbl:behind.length≤65536:=by omega
 obtain⟨hl0,hl1000,hmd,hdl⟩:=hq2 hq2t
 obtain⟨pb,po,hae,hB⟩:=hM.resolve_left (fun h=>by rw[h]at hl0;simp at hl0)
 subst hae
 refine Ap<|Cr<|Em U U ?_
 refine Ai (OpX.pick [] (F:=[]) U (Ar U Tryz.call10 (make_rd hS hOC l pb po c hB hlen hll (fun p hp=>(hmd p hp).ok) hsz hl0))) U ?_;rintro _ _⟨_,⟨out,og,hSo,ho0,hF,hoL,rfl⟩,rfl⟩;refine Er1 U ?_
 refine Em U U ?_
 refine Ai (OpX.pick [0] (F:=[]) U (Dh (xs:=out) (ys:=behind) (F:=[]) U U hSo U (hv.eb _) ho0 (by omega))) U ?_;rintro _ _⟨_,⟨g1,hSg,rfl⟩,rfl⟩;refine Er1 U ?_
 obtain⟨hMQ,hpl⟩:=law8_plain hF hdl hbl
 have hgl:(out++behind).length=out.length+behind.length:=List.length_append
 refine Ai (Ar U Tryz.call17 (members_fr hs hc hSg (by omega) (by omega) (MetQ behind) hMQ (metQ_step hbl))) U ?_;rintro _ _⟨GM,⟨us,lb,lo,lc,rb,ro,rc,ucs,rfl,hul,hmem,huv,hur,hrr⟩,hGM⟩;refine Ax (L2:=(_)) U ?_
 refine Ax (L2:=GM) hGM ?_
 obtain⟨hlt,hel,hend⟩:=hpl us hmem
 refine Em U U<|Aa (Bg U U) U<|Aa (Bg U U) U<|Ea U U<|Ea U U<|Ek7 0 1 4 5 6 20 28 U<|Am<|Cr<|Em U U<|Aa (Bc U Tu49) U<|Em U U<|Aa (Bc U Tu22) U ?_
 refine Aa (Dl U U) U<|An (v:=.bool false) (congrArg Value.bool (decide_eq_false (by omega)))<|Em U U<|Ak 42 U U<|Em U U<|Ak 42 U U<|Aa (Bc U Tu23) U<|Ak 42 U U<|Em U U<|Ak 42 U U<|Aa (Bc U Tu49) U<|Ak 42 U U ?_
 refine Aa (S.ne U U) U<|An (v:=.bool false) (congrArg Value.bool (decide_eq_false (by omega)))<|Aa (Bk U U) U<|Ek8 0 1 4 5 6 20 28 48 U<|C.no U (rfl)<|Ap<|Am<|Cr<|Em U U<|Aa (Bc U Tu22) U<|Em U U<|Ek11 0 1 4 5 6 20 28 48 49 50 51 U ?_
 refine As<|Bw (fun mm ee ll=>∃(i:Nat),keeps ee [0,1,5,6,49,50,51]=some [(0,.slice (some ⟨pb,po,none⟩) l.length c),(1,.slice a2 behind.length c2),(5,.slice (some ⟨lb,lo,none⟩) us.length lc),(6,.slice (some ⟨rb,ro,none⟩) us.length rc),(49,.slice (some ⟨pb,po,none⟩) l.length c),(50,.int .i64 ((l.length:Nat):Int)),(51,.int .i64 ((i:Nat):Int))]∧ll=[]++GM∧(i≤l.length)∧mm=l.length-i) (_) ⟨0,rfl,rfl,Nat.zero_le _,rfl⟩ ?_
 rintro m0 _ GM⟨i,hk0,rfl,hi,hm0⟩
 refine Av _ hk0<|Cr<|Aa (Dl U U) U<|Ek8 0 1 5 6 49 50 51 52 U<|Am<|Bf U (fun h52=>?_) (fun h52=>?_)
 ·have hi2:i<l.length:=by omega
  obtain⟨p,hp⟩:∃p,p=l[i]:=⟨_,rfl⟩
  have hpm:p∈l:=hp▸List.getElem_mem hi2
  obtain⟨cells,⟨ea,ec,va,vc,rfl,hE,hBl⟩,hcell⟩:=hB i hi2
  obtain⟨u,un,hu,hu1,hu2,hu3,hu4,hu5,hu6,hu7,hu8,hlast,hnext⟩:=hel i hi2
  rw[←hp]at hE hBl hcell hu3 hu4 hu5 hu6 hu7 hu8
  rw[←hu7]at hcell
  obtain⟨nb,cb,dta,k1,k2,k3,k4,k5,k6,k7,k8,k9⟩:=hmd p hpm
  have hdo:dataOf p=dta:=by unfold dataOf;rw[k8];rfl
  rw[hdo]at hu3
  have hwt:=wtMs_succ hi2
  rw[←hp]at hwt
  have hw1:wtM p=wtL p.bl+60:=rfl
  have hwl:=wtMs_take l (i+1)
  obtain⟨ucs1,hU2,hc2⟩:=huv.get hu
  replace hU2:UnV u ucs1 GM:=hU2
  obtain⟨xa2,xc2,oa2,oc2,rfl,hx2,ho2⟩:=hU2
  obtain⟨_,hrx2⟩:=hx2.same
  obtain⟨_,hro2⟩:=ho2.same
  refine Ap<|Am<|As<|Cr<|Em U U<|Aa (Bm (b:=pb) (o:=po) (l:=l.length) (c:=c) (i:=i) (k:=.i64) U U hi2 Tu22 Tz35) U<|Ag (Gg (vs:=[.string p.md.name,.string p.md.comment,.slice ea p.md.extra.length ec,.int .i64 ((u.2.1.mod:Nat):Int),u8 p.md.os,.bool p.md.text,.bool p.md.checked,.bool p.md.ex,.bool p.md.nm,.bool p.md.cm,u8 p.md.flags,.slice va p.bl.length vc]) U hcell U Tryz.isAgg35 Tz35) U ?_
  refine Ai (Dq Tryz.zeroValue35) U ?_;rintro _ _⟨b8,rfl,rfl⟩;refine Et2 U ?_
  refine Ea U U ?_
  refine Ao (Bq 0 (k:=0) U U U U U U Tz35 U) ?_;rintro _ _⟨rfl,rfl⟩;refine Et2 U ?_
  refine Ax (L2:=⟨b8,0,[.string p.md.name,.string p.md.comment,.slice ea p.md.extra.length ec,.int .i64 ((u.2.1.mod:Nat):Int),u8 p.md.os,.bool p.md.text,.bool p.md.checked,.bool p.md.ex,.bool p.md.nm,.bool p.md.cm,u8 p.md.flags,.slice va p.bl.length vc]⟩::GM) U<|Ek10 0 1 5 6 7 8 49 50 51 52 U<|Cr<|Aa (Ab U fa35_7) U<|Ag (Aj 0 (k:=11) U U U Ta33) U ?_
  refine Ai (OpX.pick [0] (F:=(_)) U (Ar U Tryz.call11 (data_rd p.bl va vc hBl (by omega) dta k8 _ _))) U ?_;rintro _ _⟨_,⟨da,dc,eg,hdR,rfl,rfl⟩,rfl⟩;refine Et3 U ?_
  refine Em U U<|Aa (Bg U U) U<|Aa (Bg U U) U<|Ea U U<|Ea U U<|Ek11 0 1 5 6 7 8 9 49 50 51 52 U<|Cr<|Em U U<|Em U U<|Aa (Bm U U (by omega) Tu49 Tz29) U<|Ag (S.loadAR (k:=i*8) (hur K _ (fun f hf=>by simp[hf])) U hc2 U Tryz.isAgg29 Tz29) U ?_
  refine Ai (Dq Tryz.zeroValue29) U ?_;rintro _ _⟨b11,rfl,rfl⟩;refine Et4 U ?_
  refine Ax (L2:=⟨b11,0,[.int .i64 0,.string ⟨#[]⟩,.string ⟨#[]⟩,.slice none 0 0,.int .i64 0,.int .u8 0,.slice none 0 0,.int .i64 0]⟩::eg::⟨b8,0,[.string p.md.name,.string p.md.comment,.slice ea p.md.extra.length ec,.int .i64 ((u.2.1.mod:Nat):Int),u8 p.md.os,.bool p.md.text,.bool p.md.checked,.bool p.md.ex,.bool p.md.nm,.bool p.md.cm,u8 p.md.flags,.slice va p.bl.length vc]⟩::GM) (by kernel_rfl) ?_
  refine Ao (Bq 0 (k:=0) U U U U U U Tz29 U) ?_;rintro _ _⟨rfl,rfl⟩;refine Et4 U ?_
  refine Ek12 0 1 5 6 7 8 9 11 49 50 51 52 U<|Am<|Cr<|Aa (Ab U fa29_0) U<|Ag (Aj 0 (k:=0) U U U Ta3) U<|Aa (S.ne (b:=((0:Nat):Int)) U U) U<|An (v:=.bool false) (congrArg Value.bool (decide_eq_false (by omega)))<|Em U U<|Ak 69 U U<|Aa (Ab U fa29_3) U<|Ak 69 U U<|Ag (Aj 0 (k:=7) U U U Ta3) U ?_
  refine Ak 69 U U<|Aa (S.ne (b:=((1:Nat):Int)) U U) U<|An (v:=.bool false) (congrArg Value.bool (decide_eq_false (by omega)))<|Aa (Bk U U) U<|Em U U<|Ak 74 U U<|Aa (Ab U fa29_1) U<|Ak 74 U U<|Ag (De 0 (k:=1) U U U U Ta27 Tz27) U<|Ak 74 U U<|Aa (Ab U fa35_0) U<|Ak 74 U U ?_
  refine Ag (De 2 (k:=0) U U U U Tryz.isAgg32 Tryz.sizeOf32) U<|Ak 74 U U ?_
  refine Ai (Ar U Tryz.call12 (same_spec _ _ _ _ _ _ _ _ _ _ _ _ _ _ (hrx2 K _ (fun f hf=>by simp[hf])) (hE.imp id fun⟨b,o,e,h⟩=>⟨b,o,e,h.reads⟩))) U ?_;rintro _ _⟨rfl,rfl⟩;refine Et4 U ?_
  refine An (v:=.bool true) (congrArg Value.bool (decide_eq_true ⟨hu4,hu5,hu6,rfl,hu8⟩))<|Ak 74 U U<|Aa (Gc U) U<|Aa (Bk U U) U<|Em U U<|Ak 82 U U<|Aa (Ab U fa29_2) U<|Ak 82 U U<|Ag (Aj 0 (k:=6) U U U Ta25) U<|Ak 82 U U<|Em U U<|Ak 82 U U ?_
  refine Ai (Ar U Tryz.call13 (bytesEqual_spec _ _ _ _ _ _ (hro2 K _ (fun f hf=>by simp[hf])) (hdR K _ (.tail _ (.head _))))) U ?_;rintro _ _⟨rfl,rfl⟩;refine Et4 U ?_
  refine An (v:=.bool true) (congrArg Value.bool (decide_eq_true hu3))<|Ak 82 U U<|Aa (Gc U) U<|Aa (Bk U U) U<|Ek13 0 1 5 6 7 8 9 11 49 50 51 52 88 U<|C.no U (rfl)<|Ap<|Cr<|Em U U<|Aa (Bc U Tu25) U<|Ea U U<|Ek14 0 1 5 6 7 8 9 11 12 49 50 51 52 88 U ?_
  refine Du (M:=fun ee ll=>∃(left:Nat),keeps ee [0,1,5,6,7,12,49,50,51]=some [(0,.slice (some ⟨pb,po,none⟩) l.length c),(1,.slice a2 behind.length c2),(5,.slice (some ⟨lb,lo,none⟩) us.length lc),(6,.slice (some ⟨rb,ro,none⟩) us.length rc),(7,.int .i64 ((i:Nat):Int)),(12,.int .i64 ((left:Nat):Int)),(49,.slice (some ⟨pb,po,none⟩) l.length c),(50,.int .i64 ((l.length:Nat):Int)),(51,.int .i64 ((i:Nat):Int))]∧ll=[]++GM∧(left=un)) ?_ ?_
  ·refine Cr<|Em U U<|Aa (Bl (b:=((1:Nat):Int)) U U (N.add64 (by omega))) U<|Em U U<|Aa (Bc U Tu22) U<|Aa (Dl U U) U<|Ek15 0 1 5 6 7 8 9 11 12 49 50 51 52 88 95 U<|Bf U (fun h95=>?_) (fun h95=>?_)
   ·refine Al<|Em U U<|Em U U<|Em U U<|Aa (Bl (b:=((1:Nat):Int)) U U (N.add64 (by omega))) U<|Aa (S.slL U U (by omega) Tu22 Tz35) U ?_
    refine Ai (OpX.pick [] (F:=(_::_::_::_)) U (Ar U Tryz.call10 (make_tail hS hOC l pb po _ (i+1) hB hlen hll (fun p hp=>(hmd p hp).ok) hsz (by omega) c hlc))) U ?_;rintro _ _⟨_,⟨out2,og2,ta,tc,rfl,hF2,ho2L,rfl⟩,rfl⟩;refine Et5 U ?_
    refine Aa (Bc U Tu25) U<|Aa (Bl U U (N.add64 (by omega))) U<|Ea U U<|E.shed [0,0,0,0] (A:=[_,_,_,_]) (F:=GM) U<|Ek15 0 1 5 6 7 8 9 11 12 49 50 51 52 88 95 U ?_
    exact⟨_,rfl,rfl,(by rw[hnext _ hF2];omega)⟩
   refine C.shed [0,0,0] (A:=[_,_,_]) (F:=GM) U<|Ap ?_
   exact⟨_,rfl,rfl,(hlast (by omega)).symm⟩
  rintro _ GM⟨left,hq18,rfl,hleft⟩
  refine Av _ hq18<|Cr<|Em U U<|Em U U<|Aa (Bm U U (by omega) Tu23 Tz3) U ?_
  refine Ag (S.loadR (j:=i*1) (v:=.int .i64 ((un:Nat):Int)) (hrr K _ (fun f hf=>by simp[hf])) U (by rw[Nat.mul_one,intsV,List.map_map,List.getElem?_map,hu];rfl) Ta3) U ?_
  refine Em U U<|Aa (S.ne U U) U<|An (v:=.bool false) (congrArg Value.bool (decide_eq_false (by omega)))<|Ek10 0 1 5 6 7 12 49 50 51 109 U<|C.no U (rfl)<|Ap<|Al<|Aa (Bl (b:=((1:Nat):Int)) U U (N.add64 (by omega))) U<|Em U U<|Ek10 0 1 5 6 7 12 49 50 51 109 U ?_
  refine⟨_,?_,i+1,rfl,rfl,by omega,rfl⟩;omega
 have hi2:i=l.length:=by omega
 refine Bu U<|Cr<|Em U U<|Aa (Bc U Tu25) U<|Aa (Fh (b:=((0:Nat):Int)) U U) U<|Em U U<|Ek (fun g114=>?_) (fun g114=>?_)
 ·refine Ae 114 true U U U U<|Ae 114 true U U U U<|Ae 114 true U U U U<|Ae 114 true U U U U<|Ae 114 true U U U U<|Ae 114 true U U U U<|Ae 114 true U U U U<|Fq 121 U U U<|Fq 121 U U U<|Fq 121 U U U<|Fq 121 U U U<|Fq 121 U U U ?_
  refine Fq 121 U U U<|Fq 121 U U U<|Ae 114 true U U U U<|Aa (Bz U U) U<|Ea U U<|Ek9 0 1 4 5 6 49 50 51 52 U<|Bb ?_
  exact⟨_,rfl,rfl⟩
 have hb0:behind=[]:=List.eq_nil_of_length_eq_zero (by omega)
 obtain⟨hul2,u,un,hu,hu1⟩:=hend hb0
 obtain⟨ucs1,hU2,hc2⟩:=huv.get hu
 replace hU2:UnV u ucs1 GM:=hU2
 obtain⟨xa2,xc2,oa2,oc2,rfl,_,_⟩:=hU2
 have hc3:ucs[l.length*8]? =some (.int .i64 ((u.1:Nat):Int)):=by
   have h:=congrArg (fun z=>z[0]?) hc2
   simpa[List.getElem?_take,List.getElem?_drop]using h
 refine Ak 114 U U<|Em U U<|Ak 114 U U<|Aa (Bc U Tu49) U<|Ak 114 U U<|Em U U<|Ak 114 U U<|Aa (Bc U Tu22) U<|Ak 114 U U<|Aa (Bl (b:=((1:Nat):Int)) U U (N.add64 (by omega))) U<|Ak 114 U U<|Aa (Ef U U) U ?_
 refine An (v:=.bool true) (congrArg Value.bool (decide_eq_true (by omega)))<|Ak 114 U U<|Em U U<|Ak 121 U U<|Em U U<|Ak 121 U U<|Em U U<|Ak 121 U U<|Aa (Bc U Tu22) U<|Ak 121 U U<|Aa (Bm U U (by omega) Tu49 Tz29) U<|Ak 121 U U ?_
 refine Aa (Ab U fa29_0) U<|Ak 121 U U<|Ag (S.loadR (j:=l.length*8) (v:=.int .i64 ((u.1:Nat):Int)) (hur K _ (fun f hf=>by simp[hf])) U hc3 Ta3) U<|Ak 121 U U<|Aa (Ef (b:=((1:Nat):Int)) U U) U<|An (v:=.bool true) (congrArg Value.bool (decide_eq_true (by omega)))<|Ak 114 U U<|Aa (Bz U U) U<|Aa (Bk U U) U<|Ea U U<|Ek9 0 1 4 5 6 49 50 51 52 U<|Bb ?_
 exact⟨_,rfl,rfl⟩
open Go Go.Proofs Go.ChangeShapes Go.WideShapes Go.RowKit
theorem codes_laid{W:World}{d:List (DataW Unit)}{r:List (String×DataW Unit)}{ps:List MemPlace}(hd:d=ordL.map fun n=>.lit (.int .i64 (n:Int)))(h:DataW.LaidVars Tryz.prog W (("gzipfiles/pub/flate.codeOrder",.agg d)::r) ps):Codes (fun b=>W.heap[b]?):=by
  subst hd
  obtain⟨g,t,cs,fuel,p,q,hg,ht,hv,hd,_,_⟩:=h
  obtain rfl:=Option.some.inj ((show Tryz.prog.globalNamed "gzipfiles/pub/flate.codeOrder" =some 10 by kernel_rfl).symm.trans hg)
  obtain rfl:=Option.some.inj ((show(Tryz.prog.globals[10]?).map (·.type)=some 189 by kernel_rfl).symm.trans ht)
  obtain⟨xs,m,_,ex,_,hl,hel⟩:=DataW.trod_array Tu189 hd
  have c1:Tryz.prog.cellsOf 3=1:=by kernel_rfl
  refine⟨fun i hi=>?_⟩
  have hE:=hel i hi
  rw[c1,Nat.mul_one,List.getElem?_eq_getElem (by omega)]at hE
  obtain⟨z,e1,e2,_⟩:=DataW.trod_int Tu3 hE
  have hlen:ordL.length=19:=rfl
  have e3:(xs.map (·.1))=ordL.map fun n=>.lit (.int .i64 (n:Int)):=(DataW.agg.inj (Prod.mk.inj ex).1).symm
  have e4:(xs.map (·.1))[i]? =(ordL.map fun(n:Nat)=>(DataW.lit (.int .i64 (n:Int)):DataW Unit))[i]? :=by rw[e3]
  rw[List.getElem?_map,List.getElem?_map,List.getElem?_eq_getElem (by omega:i<xs.length),List.getElem?_eq_getElem (by omega:i<ordL.length),e2]at e4
  have hz:z=((ordL.getD i 0:Nat):Int):=by
    simp only[Option.map_some,Option.some.injEq,DataW.lit.injEq,Lit.int.injEq,true_and]at e4
    rw[e4,List.getD,List.getElem?_eq_getElem (by omega:i<ordL.length)];rfl
  have hc:W.cell? ⟨10,i,none⟩=some (.int .i64 z):=by
    rw[World.var?_cell hg hv i]
    have:cs.toList[i]? =some (.int .i64 z):=by
      have h0:((cs.toList.drop i).take 1)[0]? =some (.int .i64 z):=by rw[e1];rfl
      simpa using h0
    simpa using this
  rw[←hz,Nat.zero_add,Nat.mul_one]
  exact Hu hc
theorem arg_ba{H:Type}{enc:TypeId×Value→H}{W:World}{base:Nat}{v1:Value}{d1:DataW H}{p1:List MemPlace}(hval:Value.okWide Tryz.prog W .any base 25 v1)
    (h1:DataW.Trod enc Tryz.prog W 0 (fun _=>true) true 25 v1 d1 p1):∃l a c,v1=.slice a l.length c∧BA (fun b=>W.heap[b]?) (.slice a l.length c) l:=by
  rcases arg_bytes hval h1 with rfl|⟨a,c,rfl⟩|⟨pb,po,cap,l,rfl,hcap,hp⟩
  · exact⟨[],none,0,rfl,.inl ⟨rfl,rfl⟩⟩
  · exact⟨[],some a,c,rfl,.inr (.inl ⟨a,c,rfl,rfl⟩)⟩
  · exact⟨l,_,_,rfl,.inr (.inr ⟨pb,po,cap,rfl,hcap,hp⟩)⟩
open Go Go.Proofs Go.Proofs.YtbjbmpcgiokdaaaGreatDoor Go.ChangeShapes Go.WideShapes Go.RowKit
def bulkOf{H:Type}(d:DataW H):Nat:=Rows.uptoBulk d
theorem bulk_all{H:Type}:∀l:List (DataW H),Rows.uptoBulkAll l=(l.map bulkOf).sum
  | []=>by simp[Rows.uptoBulkAll]
  |d::r=>by
    have:=bulk_all r
    simp only[Rows.uptoBulkAll,List.map_cons,List.sum_cons,this];rfl
theorem Jc{H:Type}(d:DataW H):1≤bulkOf d:=by
  unfold bulkOf
  cases d with
  |lit l=>cases l<;>simp[Rows.uptoBulk]
  |nil=>simp[Rows.uptoBulk]
  |ptr d=>simp[Rows.uptoBulk]
  |slice a b=>simp[Rows.uptoBulk]
  |agg a=>simp[Rows.uptoBulk]
  |iface t d=>simp[Rows.uptoBulk]
  |map e=>simp[Rows.uptoBulk]
  |held h=>simp[Rows.uptoBulk]
theorem sum_ge{α:Type}{f:α→Nat}{l:List α}(h:∀x∈l,1≤f x):l.length≤(l.map f).sum:=by
  induction l with
  |nil=>simp
  |cons x r ih=>
    have h1:=h x (.head _)
    have h2:=ih fun y hy=>h y (.tail _ hy)
    simp only[List.length_cons,List.map_cons,List.sum_cons];omega
theorem bulk_slice{H:Type}(a b:List (DataW H)):(a.map bulkOf).sum+1≤bulkOf (.slice a b):=by
  show _≤Rows.uptoBulk _
  simp only[Rows.uptoBulk,bulk_all];omega
theorem bulk_agg{H:Type}(a:List (DataW H)):bulkOf (.agg a)=(a.map bulkOf).sum+1:=by
  show Rows.uptoBulk _=_
  simp only[Rows.uptoBulk,bulk_all]
theorem list_of{α:Type}{P:Nat→α→Prop}{wt:α→Nat}{f:Nat→Nat}:∀n:Nat,(∀i,i<n→∃x,P i x∧wt x≤f i)→∃l:List α,l.length=n∧(∀i (h:i<l.length),P i l[i])∧(l.map wt).sum≤((List.range n).map f).sum
  |0,_=>⟨[],rfl,fun i h=>by simp at h,by simp⟩
  |n+1,h=>by
    obtain⟨l,h1,h2,h3⟩:=list_of n fun i hi=>h i (by omega)
    obtain⟨x,h4,h5⟩:=h n (by omega)
    refine⟨l++[x],by simp[h1],fun i hi=>?_,?_⟩
    · rw[List.length_append,List.length_singleton]at hi
      rcases Nat.lt_or_ge i l.length with h6|h6
      · rw[List.getElem_append_left h6];exact h2 i h6
      · obtain rfl:i=n:=by omega
        rw[List.getElem_append_right h6]
        simpa[h1]using h4
    · rw[List.map_append,List.sum_append,List.range_succ,List.map_append,List.sum_append]
      simp only[List.map_cons,List.map_nil,List.sum_cons,List.sum_nil];omega
section
variable {H:Type}{enc:TypeId×Value→H}{W:World}{fuel:Nat}{cs:List Value}{x:DataW H×List MemPlace}
theorem struct_bulk{P:Program}{base:Nat}{sp:Nat→Bool}{hd:Bool}{t:TypeId}{fs:Array Field}(ht:P.underlying t=some (.struct fs))(h:DataW.trod enc P W base sp hd fuel t cs=some x):
    cs.length=P.cellsOf t∧∃(n:Nat) (ys:List (DataW H×List MemPlace)),ys.length=fs.size∧bulkOf x.1=(ys.map fun y=>bulkOf y.1).sum+1∧∀(i:Nat) (f:Field),fs[i]? =some f→∃y,ys[i]? =some y∧DataW.trod enc P W base sp hd n f.type ((cs.drop f.offset).take (P.cellsOf f.type))=some y:=by
  obtain⟨xs,n,_,rfl,hl,hlen,hf⟩:=DataW.trod_struct ht h
  refine⟨hl,n,xs,hlen,?_,fun i f hi=>?_⟩
  · rw[bulk_agg,List.map_map];rfl
  · have:i<xs.length:=by rw[hlen];exact(Array.getElem?_eq_some_iff.1 hi).1
    exact⟨xs[i],List.getElem?_eq_getElem this,by rw[hf i f hi,List.getElem?_eq_getElem this]⟩
theorem slice_bulk{e t:TypeId}{m:Nat}(ht:Tryz.prog.underlying t=some (.slice e))(hc:Tryz.prog.cellsOf e=m)(hm0:0<m)(h:DataW.trod enc Tryz.prog W 0 (fun _=>true) true fuel t cs=some x):
    (cs=[.slice none 0 0])∨∃(a:Option Addr) (len cap n:Nat) (D:Nat→DataW H×List MemPlace),cs=[.slice a len cap]∧len≤cap∧((List.range len).map fun i=>bulkOf (D i).1).sum+1≤bulkOf x.1∧
      (len=0∨∃b o,a=some ⟨b,o,none⟩∧∀i,i<len→∃cs',DataW.trod enc Tryz.prog W 0 (fun _=>true) true n e cs'=some (D i)∧∀j u,cs'[j]? =some u→cellAt (fun b=>W.heap[b]?) b (o+i*m+j)=some u):=by
  rcases Go.Deep.open_slice ht h with⟨rfl,_⟩|⟨a,len,cap,m2,n,D,Pl,rfl,_,hl,hm,hmm,rfl,hcx⟩
  · exact .inl U
  · right
    simp only[if_true]at hmm
    refine⟨some a,len,cap,n,fun i=>(D i,Pl i),rfl,hl,?_,?_⟩
    · refine Nat.le_trans (Nat.le_of_eq ?_) (bulk_slice _ _)
      rw[List.map_map];rfl
    · by_cases h0:len=0
      · exact .inl h0
      · right
        rw[hc]at hcx
        obtain⟨ab,ao,spot⟩:=a
        obtain⟨cs0,g1,g2⟩:=hcx 0 (by omega)
        obtain⟨gl,g3⟩:=cells?_cell g1
        have hspot:spot=none:=by
          have g4:=g3 0 (cs0[0]'(by omega)) (List.getElem?_eq_getElem (by omega))
          simpa[Addr.add]using World.cell?_spot g4
        subst hspot
        refine⟨ab,ao,rfl,fun i hi=>?_⟩
        obtain⟨cs',h1,h2⟩:=hcx i (by omega)
        obtain⟨_,h3⟩:=cells?_cell h1
        refine⟨cs',h2,fun j u hj=>?_⟩
        have:=h3 j u hj
        rw[Gx,Gx]at this
        exact Hu this
theorem slice_len{a:Option Addr}{len:Nat}{D:Nat→DataW H×List MemPlace}:len≤((List.range len).map fun i=>bulkOf (D i).1).sum:=by
  have:=sum_ge (f:=fun i=>bulkOf (D i).1) (l:=List.range len) (fun _ _=>Jc _)
  simpa using this
theorem bytes_bulk(h:DataW.trod enc Tryz.prog W 0 (fun _=>true) true fuel 25 cs=some x):∃v l,cs=[v]∧BytesA (fun b=>W.heap[b]?) v l∧l.length≤bulkOf x.1:=by
  obtain⟨v,l,rfl,hb⟩:=trod_bytes h
  refine⟨v,l,rfl,hb,?_⟩
  have hb2:BA (fun b=>W.heap[b]?) v l:=hb
  obtain⟨a,c,rfl⟩:=hb2.sl
  have h1:=Jc x.1
  rcases slice_bulk Tu25 cellsU8 (by decide) h with e|⟨a2,len,cap,n,D,e,_,h2,_⟩
  · simp only[List.cons.injEq,Value.slice.injEq,and_true]at e
    omega
  · simp only[List.cons.injEq,Value.slice.injEq,and_true]at e
    have:=slice_len (a:=a2) (len:=len) (D:=D)
    omega
theorem sz_bulk(h:DataW.trod enc Tryz.prog W 0 (fun _=>true) true fuel 23 cs=some x):∃a n c,cs=[.slice a n c]∧SzA (fun b=>W.heap[b]?) (.slice a n c):=by
  have c1:Tryz.prog.cellsOf 3=1:=by kernel_rfl
  rcases open_ints Tu23 Tu3 c1 h with⟨hcs,hx⟩|⟨a,len,cap,zs,hcs,_,hl,hm,hz,hx,hcell,hwz⟩
  · exact⟨_,_,_,hcs,none,0,0,rfl,by decide,.inl U⟩
  · simp only[if_true]at hz
    have hmx:maxLen≤9223372036854775807:=by decide
    by_cases h0:len=0
    · exact⟨_,_,_,hcs,some a,len,cap,rfl,by omega,.inl h0⟩
    · obtain⟨ab,ao,spot⟩:=a
      have hspot:spot=none:=by simpa[Addr.add]using World.cell?_spot (hcell 0 (by omega))
      subst hspot
      refine⟨_,_,_,hcs,_,len,cap,rfl,by omega,.inr ⟨ab,ao,rfl,fun j hj=>?_⟩⟩
      have hcj:=hcell j (by omega)
      rw[Addr.add_lit]at hcj
      rw[Nat.mul_one]
      exact⟨_,Hu hcj⟩
theorem cellsTok:Tryz.prog.cellsOf 75=3:=by kernel_rfl
theorem tok_bulk(h:DataW.trod enc Tryz.prog W 0 (fun _=>true) true fuel 75 cs=some x):∃t:TokM,cs=tokCells t:=by
  obtain⟨hl,n,hf⟩:=struct_fields Tryz.underlying75 h
  rw[cellsTok]at hl
  match cs,hl with
  | [c0,c1,c2],_=>
    obtain⟨y0,f0⟩:=hf 0 _ rfl
    obtain⟨y1,f1⟩:=hf 1 _ rfl
    obtain⟨y2,f2⟩:=hf 2 _ rfl
    simp only[List.getElem_toArray,List.getElem_cons_zero,List.getElem_cons_succ,Hs 3,Hs 5,List.drop_zero,List.drop_succ_cons,List.take_succ_cons,List.take_zero]at f0 f1 f2
    obtain⟨m0,e0,w0⟩:=trod_int Tu5 f0
    obtain⟨o0,rfl⟩:=u8_of_wf w0
    obtain⟨m1,e1,_⟩:=trod_int Tu3 f1
    obtain⟨m2,e2,_⟩:=trod_int Tu3 f2
    simp only[List.cons.injEq,and_true]at e0 e1 e2
    subst e0 e1 e2
    exact⟨(o0,m1,m2),rfl⟩
theorem toks_bulk(h:DataW.trod enc Tryz.prog W 0 (fun _=>true) true fuel 71 cs=some x):∃v l,cs=[v]∧TokA (fun b=>W.heap[b]?) v l∧l.length≤bulkOf x.1:=by
  rcases slice_bulk Tu71 cellsTok (by decide) h with rfl|⟨a,len,cap,n,D,rfl,_,hb,h0⟩
  · exact⟨_,[],rfl,⟨none,0,rfl,.inl U⟩,Nat.zero_le _⟩
  · have hl:=slice_len (a:=a) (len:=len) (D:=D)
    rcases h0 with rfl|⟨b,o,rfl,hc⟩
    · exact⟨_,[],rfl,⟨a,cap,rfl,.inl U⟩,Nat.zero_le _⟩
    · obtain⟨l,h1,h2,_⟩:=list_of (P:=fun i (t:TokM)=>∀j u,(tokCells t)[j]? =some u→cellAt (fun b=>W.heap[b]?) b (o+i*3+j)=some u) (wt:=fun _=>0) (f:=fun _=>0) len fun i hi=>by
        obtain⟨cs',h1,h2⟩:=hc i hi
        obtain⟨t,rfl⟩:=tok_bulk h1
        exact⟨t,h2,Nat.le_refl _⟩
      subst h1
      exact⟨_,l,rfl,⟨some ⟨b,o,none⟩,cap,rfl,.inr ⟨b,o,rfl,h2⟩⟩,by omega⟩
theorem block_bulk(h:DataW.trod enc Tryz.prog W 0 (fun _=>true) true fuel 73 cs=some x):∃p:PB,BlkA (fun b=>W.heap[b]?) cs p∧wtB p≤bulkOf x.1:=by
  obtain⟨hl,n,ys,hy,hbk,hf⟩:=struct_bulk Tryz.underlying73 h
  rw[cellsBlock]at hl
  match cs,hl with
  | [c0,c1,c2,c3],_=>
    obtain⟨y0,g0,f0⟩:=hf 0 _ rfl
    obtain⟨y1,g1,f1⟩:=hf 1 _ rfl
    obtain⟨y2,g2,f2⟩:=hf 2 _ rfl
    obtain⟨y3,g3,f3⟩:=hf 3 _ rfl
    simp only[List.getElem_toArray,List.getElem_cons_zero,List.getElem_cons_succ,Hs 3,Hs 25,Hs 71,Hs 23,List.drop_zero,List.drop_succ_cons,List.take_succ_cons,List.take_zero]at f0 f1 f2 f3
    obtain⟨m0,e0,_⟩:=trod_int Tu3 f0
    obtain⟨v1,l1,e1,b1,w1⟩:=bytes_bulk f1
    obtain⟨v2,l2,e2,b2,w2⟩:=toks_bulk f2
    obtain⟨a3,n3,k3,e3,b3⟩:=sz_bulk f3
    simp only[List.cons.injEq,and_true]at e0 e1 e2 e3
    subst e0 e1 e2 e3
    have hb1:BA (fun b=>W.heap[b]?) c1 l1:=b1
    obtain⟨a1,k1,rfl⟩:=hb1.sl
    refine⟨⟨m0,l1,l2,a3,n3⟩,⟨a1,k1,_,a3,n3,k3,rfl,hb1,b2,b3,rfl,rfl⟩,?_⟩
    match ys,hy with
    | [z0,z1,z2,z3],_=>
      simp only[List.getElem?_cons_zero,List.getElem?_cons_succ,Option.some.injEq]at g0 g1 g2 g3
      subst g0 g1 g2 g3
      simp only[List.map_cons,List.map_nil,List.sum_cons,List.sum_nil]at hbk
      show l1.length+l2.length+1≤_
      omega
theorem blocks_bulk(h:DataW.trod enc Tryz.prog W 0 (fun _=>true) true fuel 33 cs=some x):∃a l c,cs=[.slice a l.length c]∧(l=[]∨∃b o,a=some ⟨b,o,none⟩∧∀i (h:i<l.length),∃cs,BlkA (fun b=>W.heap[b]?) cs l[i]∧∀j u,cs[j]? =some u→cellAt (fun b=>W.heap[b]?) b (o+i*4+j)=some u)∧wtL l+1≤bulkOf x.1:=by
  have hb1:=Jc x.1
  rcases slice_bulk Tu33 cellsBlock (by decide) h with rfl|⟨a,len,cap,n,D,rfl,_,hb,h0⟩
  · exact⟨none,[],0,rfl,.inl U,hb1⟩
  · rcases h0 with rfl|⟨b,o,rfl,hc⟩
    · exact⟨a,[],cap,rfl,.inl U,hb1⟩
    · obtain⟨l,h1,h2,h3⟩:=list_of (P:=fun i (p:PB)=>∃cs,BlkA (fun b=>W.heap[b]?) cs p∧∀j u,cs[j]? =some u→cellAt (fun b=>W.heap[b]?) b (o+i*4+j)=some u) (wt:=wtB) (f:=fun i=>bulkOf (D i).1) len fun i hi=>by
        obtain⟨cs',h1,h2⟩:=hc i hi
        obtain⟨p,h3,h4⟩:=block_bulk h1
        exact⟨p,⟨cs',h3,h2⟩,h4⟩
      subst h1
      exact⟨some ⟨b,o,none⟩,l,cap,rfl,.inr ⟨b,o,rfl,h2⟩,by unfold wtL;omega⟩
theorem made_bulk(h:DataW.trod enc Tryz.prog W 0 (fun _=>true) true fuel 35 cs=some x):∃m:MB,MbA (fun b=>W.heap[b]?) cs m∧wtM m≤8*bulkOf x.1:=by
  obtain⟨hl,n,ys,hy,hbk,hf⟩:=struct_bulk Tryz.underlying35 h
  rw[cellsMade]at hl
  match cs,hl with
  | [c0,c1,c2,c3,c4,c5,c6,c7,c8,c9,c10,c11],_=>
    obtain⟨y0,g0,f0⟩:=hf 0 _ rfl
    obtain⟨y1,g1,f1⟩:=hf 1 _ rfl
    obtain⟨y2,g2,f2⟩:=hf 2 _ rfl
    obtain⟨y3,g3,f3⟩:=hf 3 _ rfl
    obtain⟨y4,g4,f4⟩:=hf 4 _ rfl
    obtain⟨y5,g5,f5⟩:=hf 5 _ rfl
    obtain⟨y6,g6,f6⟩:=hf 6 _ rfl
    obtain⟨y7,g7,f7⟩:=hf 7 _ rfl
    simp only[List.getElem_toArray,List.getElem_cons_zero,List.getElem_cons_succ,cellsHead,Hs 4,Hs 5,Hs 33,List.drop_zero,List.drop_succ_cons,List.take_succ_cons,List.take_zero]at f0 f1 f2 f3 f4 f5 f6 f7
    obtain⟨nm,cm,ve,ex,mod,os,e0,hb,z0,z1,w0⟩:=trod_head f0
    obtain⟨b1,e1⟩:=trod_bool Tu4 f1
    obtain⟨b2,e2⟩:=trod_bool Tu4 f2
    obtain⟨b3,e3⟩:=trod_bool Tu4 f3
    obtain⟨b4,e4⟩:=trod_bool Tu4 f4
    obtain⟨b5,e5⟩:=trod_bool Tu4 f5
    obtain⟨m6,e6,w6⟩:=trod_int Tu5 f6
    obtain⟨o6,rfl⟩:=u8_of_wf w6
    obtain⟨va,bl,vc,e7,hbl,wbl⟩:=blocks_bulk f7
    simp only[List.cons.injEq,and_true]at e0 e1 e2 e3 e4 e5 e6 e7
    obtain⟨rfl,rfl,rfl,rfl,rfl⟩:=e0
    subst e1 e2 e3 e4 e5 e6 e7
    have hE:∃ea ec,c2=.slice ea ex.length ec∧(ex=[]∨∃b o,ea=some ⟨b,o,none⟩∧KB (fun b=>W.heap[b]?) b o ex):=by
      rcases hb with⟨rfl,rfl⟩|⟨a,c,rfl,rfl⟩|⟨pb,po,cap,rfl,_,h⟩
      · exact⟨none,0,rfl,.inl U⟩
      · exact⟨some a,c,rfl,.inl U⟩
      · exact⟨_,cap,rfl,.inr ⟨pb,po,rfl,h⟩⟩
    obtain⟨ea,ec,rfl,hE⟩:=hE
    refine⟨⟨⟨nm,cm,ex,mod,os,b1,b2,b3,b4,b5,o6⟩,bl⟩,⟨ea,ec,va,vc,rfl,hE,hbl⟩,?_⟩
    match ys,hy with
    | [z0',z1',z2,z3,z4,z5,z6,z7],_=>
      simp only[List.getElem?_cons_zero,List.getElem?_cons_succ,Option.some.injEq]at g0 g1 g2 g3 g4 g5 g6 g7
      subst g0 g1 g2 g3 g4 g5 g6 g7
      simp only[List.map_cons,List.map_nil,List.sum_cons,List.sum_nil]at hbk
      have q0:=Jc z0'.1
      have q1:=Jc z1'.1
      have q2:=Jc z2.1
      have q3:=Jc z3.1
      have q4:=Jc z4.1
      have q5:=Jc z5.1
      have q6:=Jc z6.1
      show wtL bl+60≤_
      omega
theorem arg_mades{base:Nat}{v1:Value}{d1:DataW H}{p1:List MemPlace}(hval:Value.okWide Tryz.prog W .any base 22 v1)
    (h1:DataW.Trod enc Tryz.prog W 0 (fun _=>true) true 22 v1 d1 p1):∃a l c,v1=.slice a l.length c∧MbsA (fun b=>W.heap[b]?) a l∧wtMs l≤8*bulkOf d1∧l.length≤c:=by
  obtain⟨a1,len1,cap1,rfl⟩:=okWide_slice Tu22 hval
  obtain⟨fuel,h⟩:=h1
  rcases slice_bulk Tu22 cellsMade (by decide) h with e|⟨a,len,cap,n,D,e,hlc,hb,h0⟩
  · simp[Value.cells]at e
    obtain⟨rfl,rfl,rfl⟩:=e
    exact⟨none,[],0,rfl,.inl U,by simp[wtMs],Nat.le_refl _⟩
  · simp[Value.cells]at e
    obtain⟨rfl,rfl,rfl⟩:=e
    rcases h0 with rfl|⟨b,o,rfl,hc⟩
    · exact⟨a1,[],cap1,rfl,.inl U,by simp[wtMs],Nat.zero_le _⟩
    · obtain⟨l,h1,h2,h3⟩:=list_of (P:=fun i (p:MB)=>∃cs,MbA (fun b=>W.heap[b]?) cs p∧∀j u,cs[j]? =some u→cellAt (fun b=>W.heap[b]?) b (o+i*12+j)=some u) (wt:=wtM) (f:=fun i=>8*bulkOf (D i).1) len1 fun i hi=>by
        obtain⟨cs',h1,h2⟩:=hc i hi
        obtain⟨p,h3,h4⟩:=made_bulk h1
        exact⟨p,⟨cs',h3,h2⟩,h4⟩
      subst h1
      refine⟨some ⟨b,o,none⟩,l,cap1,rfl,.inr ⟨b,o,rfl,h2⟩,?_,hlc⟩
      have e8:∀(k:Nat),((List.range k).map fun i=>8*bulkOf (D i).1).sum=8*((List.range k).map fun i=>bulkOf (D i).1).sum:=by
        intro k
        induction k with
        |zero=>simp
        |succ k ih=>rw[List.range_succ,List.map_append,List.sum_append,ih,List.map_append,List.sum_append];simp;omega
      rw[e8]at h3
      unfold wtMs
      have hb':((List.range l.length).map fun i=>bulkOf (D i).1).sum+1≤bulkOf d1:=hb
      omega
end
theorem gn0:Tryz.prog.globalNamed "io.ErrShortBuffer" =some 9:=by kernel_rfl
theorem gn1:Tryz.prog.globalNamed "io.EOF" =some 0:=by kernel_rfl
theorem gn2:Tryz.prog.globalNamed "io.ErrUnexpectedEOF" =some 8:=by kernel_rfl
theorem gn4:Tryz.prog.globalNamed "gzipfiles/pub/gogzip.ErrChecksum" =some 2:=by kernel_rfl
theorem gn5:Tryz.prog.globalNamed "gzipfiles/pub/gogzip.ErrHeader" =some 1:=by kernel_rfl
theorem gt0:(Tryz.prog.globals[9]?).map (·.type)=some 58:=by kernel_rfl
theorem gt1:(Tryz.prog.globals[0]?).map (·.type)=some 58:=by kernel_rfl
theorem gt2:(Tryz.prog.globals[8]?).map (·.type)=some 58:=by kernel_rfl
theorem gt4:(Tryz.prog.globals[2]?).map (·.type)=some 58:=by kernel_rfl
theorem gt5:(Tryz.prog.globals[1]?).map (·.type)=some 58:=by kernel_rfl
theorem laid_skip{W:World}{n:String}{d:DataW Unit}{r:List (String×DataW Unit)}{ps:List MemPlace}(h:DataW.LaidVars Tryz.prog W ((n,d)::r) ps):∃p q,DataW.LaidVars Tryz.prog W r q∧ps=p++q:=by
  obtain⟨g,t,cs,fuel,p,q,_,_,_,_,hr,rfl⟩:=h
  exact⟨_,q,hr,rfl⟩
def eaOf(a0 a1 a2 a3 a4:Addr)(k:Fin 5):Addr:=match k with
  |0=>a0
  |1=>a1
  |2=>a2
  |3=>a3
  |4=>a4
theorem gssizes:Tryz.prog.globalNamed "gzipfiles/spec.sizes" =some 3:=by kernel_rfl
theorem gusizes:(Tryz.prog.globals[3]?).map (·.type)=some 23:=by kernel_rfl
theorem gsmore:Tryz.prog.globalNamed "gzipfiles/spec.more" =some 4:=by kernel_rfl
theorem gumore:(Tryz.prog.globals[4]?).map (·.type)=some 23:=by kernel_rfl
theorem gsfar:Tryz.prog.globalNamed "gzipfiles/spec.far" =some 5:=by kernel_rfl
theorem gufar:(Tryz.prog.globals[5]?).map (·.type)=some 23:=by kernel_rfl
theorem gsfurther:Tryz.prog.globalNamed "gzipfiles/spec.further" =some 6:=by kernel_rfl
theorem gufurther:(Tryz.prog.globals[6]?).map (·.type)=some 23:=by kernel_rfl
theorem gsorder:Tryz.prog.globalNamed "gzipfiles/spec.order" =some 7:=by kernel_rfl
theorem guorder:(Tryz.prog.globals[7]?).map (·.type)=some 23:=by kernel_rfl
theorem tab_laid{W:World}{n:String}{g:Nat}{l:List Nat}{d:List (DataW Unit)}{r:List (String×DataW Unit)}{ps:List MemPlace}(hn:Tryz.prog.globalNamed n=some g)(hty:(Tryz.prog.globals[g]?).map (·.type)=some 23)(hdd:d=l.map fun n=>.lit (.int .i64 (n:Int)))(h0:0<l.length)
    (h:DataW.LaidVars Tryz.prog W ((n,.slice d [])::r) ps):TabS (fun b=>W.heap[b]?) g l∧∃p q,DataW.LaidVars Tryz.prog W r q∧ps=p++q:=by
  subst hdd
  obtain⟨g',t,cs,fuel,p,q,hg,ht,hv,hd,hr,rfl⟩:=h
  refine⟨?_,_,q,hr,rfl⟩
  obtain rfl:=Option.some.inj (hn.symm.trans hg)
  obtain rfl:=Option.some.inj (hty.symm.trans ht)
  have c1:Tryz.prog.cellsOf 3=1:=by kernel_rfl
  rcases open_ints Tu23 Tu3 c1 hd with⟨_,hx⟩|⟨a,len,cap,zs,hcs,_,hl,hm,hz,hx,hcell,hwz⟩
  · cases(Prod.mk.inj hx).1
  · simp only[if_true]at hz
    obtain⟨e1,e2⟩:=DataW.slice.inj (Prod.mk.inj hx).1
    have e3:zs.drop len=[]:=by simpa[lits]using e2.symm
    have hlen:len=l.length:=by
      have:=congrArg List.length e1
      simp only[lits,List.length_map,List.length_take]at this
      omega
    obtain⟨ab,ao,spot⟩:=a
    have hspot:spot=none:=by simpa[Addr.add]using World.cell?_spot (hcell 0 (by omega))
    subst hspot
    refine⟨ab,ao,cap,?_,fun i hi=>?_⟩
    · rw[←hlen]
      refine Hu ?_
      rw[World.var?_cell hg hv 0]
      have:cs.toList[0]? =some (.slice (some ⟨ab,ao,none⟩) len cap):=by rw[hcs];rfl
      simpa using this
    · have hcj:=hcell i (by omega)
      rw[Addr.add_lit]at hcj
      rw[Nat.mul_one]
      refine Hu ?_
      rw[hcj]
      have e4:(lits (H:=Unit) .i64 (zs.take len))[i]? =(l.map fun(n:Nat)=>(DataW.lit (.int .i64 (n:Int)):DataW Unit))[i]? :=by rw[←e1]
      simp only[lits,List.getElem?_map]at e4
      rw[List.getElem?_eq_getElem (show i<(zs.take len).length by rw[List.length_take];omega),List.getElem?_eq_getElem (by omega:i<l.length)]at e4
      simp only[Option.map_some,Option.some.injEq,DataW.lit.injEq,Lit.int.injEq,true_and,List.getElem_take]at e4
      have e5:zs.getD i 0=zs[i]'(by omega):=by simp[List.getD,List.getElem?_eq_getElem (show i<zs.length by omega)]
      rw[e5,e4,List.getD,List.getElem?_eq_getElem hi];rfl
theorem laid_all{W:World}(h:laidMetH Tryz.prog Rows.fnReadAsToldRow.laid W):(∃ea,Sents (fun b=>W.heap[b]?) ea)∧Codes (fun b=>W.heap[b]?)∧SpT (fun b=>W.heap[b]?):=by
  have h':laidMet Tryz.prog [("gzipfiles/spec.sizes",Rows.laid_gzipfiles_spec_sizes),("gzipfiles/spec.more",Rows.laid_gzipfiles_spec_more),("gzipfiles/spec.far",Rows.laid_gzipfiles_spec_far),("gzipfiles/spec.further",Rows.laid_gzipfiles_spec_further),("gzipfiles/spec.order",Rows.laid_gzipfiles_spec_order),("io.ErrShortBuffer",Rows.laid_io_ErrShortBuffer),("io.EOF",Rows.laid_io_EOF),("io.ErrUnexpectedEOF",Rows.laid_io_ErrUnexpectedEOF),("gzipfiles/pub/flate.codeOrder",Rows.laid_gzipfiles_pub_flate_codeOrder),("gzipfiles/pub/gogzip.ErrChecksum",Rows.laid_gzipfiles_pub_gogzip_ErrChecksum),("gzipfiles/pub/gogzip.ErrHeader",Rows.laid_gzipfiles_pub_gogzip_ErrHeader)] W:=h
  obtain⟨ps,v0,hnd,hrows⟩:=h'
  obtain⟨t1,p1,s1,v1,rfl⟩:=tab_laid (l:=sizesL) gssizes gusizes rfl (by decide) v0
  obtain⟨t2,p2,s2,v2,rfl⟩:=tab_laid (l:=moreL) gsmore gumore rfl (by decide) v1
  obtain⟨t3,p3,s3,v3,rfl⟩:=tab_laid (l:=farL) gsfar gufar rfl (by decide) v2
  obtain⟨t4,p4,s4,v4,rfl⟩:=tab_laid (l:=furL) gsfurther gufurther rfl (by decide) v3
  obtain⟨t5,p5,s5,w0,rfl⟩:=tab_laid (l:=ordL) gsorder guorder rfl (by decide) v4
  replace hnd:s5.Nodup:=by
    simp only[List.nodup_append]at hnd
    exact hnd.2.1.2.1.2.1.2.1.2.1
  replace hrows:∀b off,MemPlace.cell b off∈s5→(∃c t,W.heap[b]? =some (.cells c t (0,0)))∧∀u v,W.cell? ⟨b,off,none⟩=some (.iface u v)→Value.okWide Tryz.prog W .any 0 u v:=fun b off hb=>hrows b off (by simp[hb])
  obtain⟨a0,q0,c0,w1,rfl⟩:=laid_err gn0 gt0 w0 hrows
  obtain⟨a1,q1,c1,w2,rfl⟩:=laid_err gn1 gt1 w1 fun b off hb=>hrows b off (by simp[hb])
  obtain⟨a2,q2,c2,w3,rfl⟩:=laid_err gn2 gt2 w2 fun b off hb=>hrows b off (by simp[hb])
  have hcodes:=codes_laid rfl w3
  obtain⟨p3,q3,w4,rfl⟩:=laid_skip w3
  obtain⟨a4,q4,c4,w5,rfl⟩:=laid_err gn4 gt4 w4 fun b off hb=>hrows b off (by simp[hb])
  obtain⟨a5,q5,c5,w6,rfl⟩:=laid_err gn5 gt5 w5 fun b off hb=>hrows b off (by simp[hb])
  have k0:=(hrows a0.block a0.off (by simp[MemPlace.row])).1
  have k1:=(hrows a1.block a1.off (by simp[MemPlace.row])).1
  have k2:=(hrows a2.block a2.off (by simp[MemPlace.row])).1
  have k4:=(hrows a4.block a4.off (by simp[MemPlace.row])).1
  have k5:=(hrows a5.block a5.off (by simp[MemPlace.row])).1
  have n15:a1≠a5:=by rintro rfl;simp[MemPlace.row,List.nodup_append]at hnd
  have n14:a1≠a4:=by rintro rfl;simp[MemPlace.row,List.nodup_append]at hnd
  have n12:a1≠a2:=by rintro rfl;simp[MemPlace.row,List.nodup_append]at hnd
  have n10:a0≠a1:=by rintro rfl;simp[MemPlace.row,List.nodup_append]at hnd
  have n54:a4≠a5:=by rintro rfl;simp[MemPlace.row,List.nodup_append]at hnd
  have n52:a2≠a5:=by rintro rfl;simp[MemPlace.row,List.nodup_append]at hnd
  have n50:a0≠a5:=by rintro rfl;simp[MemPlace.row,List.nodup_append]at hnd
  have n42:a2≠a4:=by rintro rfl;simp[MemPlace.row,List.nodup_append]at hnd
  have n40:a0≠a4:=by rintro rfl;simp[MemPlace.row,List.nodup_append]at hnd
  have n20:a0≠a2:=by rintro rfl;simp[MemPlace.row,List.nodup_append]at hnd
  refine⟨?_,hcodes,t5,t1,t2,t3,t4⟩
  refine⟨eaOf a1 a5 a4 a2 a0,fun k=>?_,fun j k e=>?_,c1,c5,c4,c2,c0⟩
  · match k with
    |0=>exact k1
    |1=>exact k5
    |2=>exact k4
    |3=>exact k2
    |4=>exact k0
  · match j,k,e with
    |0,0,_=>rfl
    |1,1,_=>rfl
    |2,2,_=>rfl
    |3,3,_=>rfl
    |4,4,_=>rfl
    |0,1,e=>exact absurd e n15
    |0,2,e=>exact absurd e n14
    |0,3,e=>exact absurd e n12
    |0,4,e=>exact absurd (Eq.symm e) n10
    |1,0,e=>exact absurd (Eq.symm e) n15
    |1,2,e=>exact absurd (Eq.symm e) n54
    |1,3,e=>exact absurd (Eq.symm e) n52
    |1,4,e=>exact absurd (Eq.symm e) n50
    |2,0,e=>exact absurd (Eq.symm e) n14
    |2,1,e=>exact absurd e n54
    |2,3,e=>exact absurd (Eq.symm e) n42
    |2,4,e=>exact absurd (Eq.symm e) n40
    |3,0,e=>exact absurd (Eq.symm e) n12
    |3,1,e=>exact absurd e n52
    |3,2,e=>exact absurd e n42
    |3,4,e=>exact absurd (Eq.symm e) n20
    |4,0,e=>exact absurd e n10
    |4,1,e=>exact absurd e n50
    |4,2,e=>exact absurd e n40
    |4,3,e=>exact absurd e n20
theorem tab_cap{W:World}{n:String}{g:Nat}{d:List (DataW Unit)}{r:List (String×DataW Unit)}{ps:List MemPlace}(hn:Tryz.prog.globalNamed n=some g)(hty:(Tryz.prog.globals[g]?).map (·.type)=some 23)
    (h:DataW.LaidVars Tryz.prog W ((n,.slice d [])::r) ps):CapS (fun b=>W.heap[b]?) g:=by
  obtain⟨g',t,cs,fuel,p,q,hg,ht,hv,hd,hr,rfl⟩:=h
  obtain rfl:=Option.some.inj (hn.symm.trans hg)
  obtain rfl:=Option.some.inj (hty.symm.trans ht)
  have c1:Tryz.prog.cellsOf 3=1:=by kernel_rfl
  rcases open_ints Tu23 Tu3 c1 hd with⟨_,hx⟩|⟨a,len,cap,zs,hcs,_,hl,hm,hz,hx,hcell,hwz⟩
  · cases(Prod.mk.inj hx).1
  · intro a2 n2 c2 h2
    have h3:cellAt (fun b=>W.heap[b]?) g 0=some (.slice (some a) len cap):=by
      refine Hu ?_
      rw[World.var?_cell hg hv 0]
      have:cs.toList[0]? =some (.slice (some a) len cap):=by rw[hcs];rfl
      simpa using this
    have:=Option.some.inj (h3.symm.trans h2)
    injection this with e1 e2 e3
    omega
theorem laid_cap{W:World}(h:laidMetH Tryz.prog Rows.fnReadAsToldRow.laid W):CapS (fun b=>W.heap[b]?) 7:=by
  have h':laidMet Tryz.prog [("gzipfiles/spec.sizes",Rows.laid_gzipfiles_spec_sizes),("gzipfiles/spec.more",Rows.laid_gzipfiles_spec_more),("gzipfiles/spec.far",Rows.laid_gzipfiles_spec_far),("gzipfiles/spec.further",Rows.laid_gzipfiles_spec_further),("gzipfiles/spec.order",Rows.laid_gzipfiles_spec_order),("io.ErrShortBuffer",Rows.laid_io_ErrShortBuffer),("io.EOF",Rows.laid_io_EOF),("io.ErrUnexpectedEOF",Rows.laid_io_ErrUnexpectedEOF),("gzipfiles/pub/flate.codeOrder",Rows.laid_gzipfiles_pub_flate_codeOrder),("gzipfiles/pub/gogzip.ErrChecksum",Rows.laid_gzipfiles_pub_gogzip_ErrChecksum),("gzipfiles/pub/gogzip.ErrHeader",Rows.laid_gzipfiles_pub_gogzip_ErrHeader)] W:=h
  obtain⟨ps,v0,hnd,hrows⟩:=h'
  obtain⟨t1,p1,s1,v1,rfl⟩:=tab_laid (l:=sizesL) gssizes gusizes rfl (by decide) v0
  obtain⟨t2,p2,s2,v2,rfl⟩:=tab_laid (l:=moreL) gsmore gumore rfl (by decide) v1
  obtain⟨t3,p3,s3,v3,rfl⟩:=tab_laid (l:=farL) gsfar gufar rfl (by decide) v2
  obtain⟨t4,p4,s4,v4,rfl⟩:=tab_laid (l:=furL) gsfurther gufurther rfl (by decide) v3
  exact tab_cap gsorder guorder v4
theorem ms_len(l:List MB):l.length≤wtMs l:=by
  unfold wtMs
  induction l with
  |nil=>simp
  |cons x r ih=>simp only[List.length_cons,List.map_cons,List.sum_cons];unfold wtM at*;omega
theorem To.below{K:Known}{w w':World}{L':Frags}(h:To K w [] w' L'):Below w.heap.size w w':=
  ⟨h.os,h.tape,h.output,h.size,fun k hk=>h.old k hk fun f hf=>by cases hf⟩
theorem agree_all(w:World):Agree (fun b=>w.heap[b]?) [] w.heap:=
  ⟨fun _ _ h=>h,(fun f hf=>by cases hf),(fun f hf=>by cases hf),List.Pairwise.nil⟩
section
variable {H:Type}{enc:TypeId×Value→H}{P:Program}{W W':World}
theorem trodAll_stays(hl:laidOutB P=true){sp:Nat→Bool}:∀{ts:List TypeId} {vs:List Value} {ds:List (DataW H)} {ps:List MemPlace},(∀t∈ts,P.readableRec t=true∧t<P.types.size)→
    DataW.TrodAll enc P W 0 (fun _=>true) true ts vs ds ps→(∀p∈ps,W.sameAt W' p)→(∀p∈ps,sp p.block=true)→DataW.TrodAll enc P W' 0 sp true ts vs ds ps
  | [],[],[],_,_,h,_,_=>h
  |t::ts,v::vs,d::ds,_,ht,⟨p,q,h1,h2,e⟩,hs,hp=>by
    subst e
    exact⟨p,q,WideElems.Trod_stays hl (ht t (by simp)).1 (ht t (by simp)).2 h1 (fun x hx=>hs x (by simp[hx])) (fun x hx=>hp x (by simp[hx])),
      trodAll_stays hl (fun t h=>ht t (by simp[h])) h2 (fun x hx=>hs x (by simp[hx])) (fun x hx=>hp x (by simp[hx])),rfl⟩
theorem post_true{f:Func}{s:ChangeSpec}{args:Array Value}{ds gs:List (DataW H)}{before:List MemPlace}{bt:TypeId}(hl:laidOutB P=true)
    (hts:∀t∈f.params.toList,P.readableRec t=true∧t<P.types.size)(hbool:P.underlying bt=some .bool)(hres:f.resultTypes=#[bt])(hsv:s.vars=[])
    (hfn:s.fn H (ds++gs)={results:=[.lit (.bool true)],args:=ds,vars:=[]})(hW:DataW.Whole enc P f.params.toList s.vars false W args.toList ds gs before)(hb:Below W.heap.size W W'):
    s.post enc P f false true false false W args (.bool true) W':=by
  have hW':=hW
  obtain⟨p,q,hA,hV,rfl,hfz,hnd⟩:=hW
  rw[hsv]at hV
  obtain⟨rfl,rfl⟩:=trodVars_none hV
  have hlt:∀x∈p,x.block<W.heap.size:=fun x hx=>by simpa using hW'.lt x (by simp[hx])
  refine⟨ds,[],p++[],[],p,[],hW',?_,?_,?_,hb.frame _,fun h=>by cases h⟩
  · rw[hres,hfn]
    exact trodAll_cons_mk (shut_bool hbool _) trodAll_mk0
  · rw[hfn]
    exact trodAll_stays hl hts hA (fun x hx=>hb.same (hlt x hx)) (fun x hx=>by simpa using hlt x hx)
  · rw[hfn,hsv]
    exact U
end
theorem ownD:ownKnob Tryz.prog.godebug=none:=by kernel_rfl
theorem laidOutD:laidOutB Tryz.prog=true:=by kernel_rfl
def intS(l:List Nat):Obj:=.cells (l.map fun(n:Nat)=>Value.int .i64 (n:Int)).toArray 3
def errS(l:List UInt8):Obj:=.cells #[.string ⟨l.toArray⟩] 234
noncomputable def lowD:Nat:=(World.holding Tryz.prog default ⟨#[],#[],[]⟩).heap.size
def layErr(g:Nat)(b:Nat)(H:Array Obj):Array Obj:=H.modify g fun
  |.cells _ t frozen=>.cells #[.iface 215 (.pointer (some ⟨b,0,none⟩))] t frozen
  |o=>o
def layInts(g:Nat)(l:List Int)(H:Array Obj):Array Obj:=H.modify g fun
  |.cells _ t frozen=>.cells (l.map fun n=>Value.int .i64 n).toArray t frozen
  |o=>o
def laySl(g:Nat)(b n:Nat)(H:Array Obj):Array Obj:=H.modify g fun
  |.cells _ t frozen=>.cells #[.slice (some ⟨b,0,none⟩) n n] t frozen
  |o=>o
noncomputable def laidWorldZ (os:Os):World:=
  let w0:=World.holding Tryz.prog os ⟨#[errS [115,104,111,114,116,32,98,117,102,102,101,114],errS [69,79,70],errS [117,110,101,120,112,101,99,116,101,100,32,69,79,70],
    errS [103,122,105,112,58,32,105,110,118,97,108,105,100,32,99,104,101,99,107,115,117,109],errS [103,122,105,112,58,32,105,110,118,97,108,105,100,32,104,101,97,100,101,114],intS sizesL,intS moreL,intS farL,intS furL,intS ordL],#[],[]⟩
  {w0 with heap:=laySl 3 (lowD+5) 29 (laySl 4 (lowD+6) 29 (laySl 5 (lowD+7) 30 (laySl 6 (lowD+8) 30 (laySl 7 (lowD+9) 19 (layErr 9 lowD (layErr 0 (lowD+1) (layErr 8 (lowD+2) (layErr 2 (lowD+3) (layErr 1 (lowD+4)
    (layInts 10 [16,17,18,0,8,7,9,6,10,5,11,4,12,3,13,2,14,1,15] w0.heap))))))))))}
theorem laid_metZ(os:Os)(args:Array Value):laidMet Tryz.prog Rows.fnReadAsToldRow.laid ((laidWorldZ os).forCall (fun _ _=>0) ⟨#[],args,[]⟩).memory:=
  laidMet_of_run' 8 (by kernel_rfl) (by kernel_rfl)
end Go.Eng
