/-
  Texts of this proof, merged: ReadB, FrameZ, FrameY, FrameG, FrameV.
-/
import Derived.Test.YtbjbmpcgiokdaaaGreatDoorFr5
import Derived.Test.YtbjbmpcgiokdaaaGreatDoorFr7
import Derived.Test.YtbjbmpcgiokdaaaGreatDoorRows
import Derived.Test.YtbjbmpcgiokdaaaGreatDoorFr6
import Derived.Carry
import Derived.Test.YtbjbmpcgiokdaaaGreatDoorCards
import Derived.Test.YtbjbmpcgiokdaaaGreatDoorTie
import Derived.ProofKit
import Derived.Deep.DeepWitnessRowRef
set_option linter.unusedVariables false
set_option linter.unusedSimpArgs false
namespace Go.Eng
open Go Go.Proofs Go.Proofs.YtbjbmpcgiokdaaaGreatDoor Go.ChangeShapes Go.WideShapes Go.RowKit
set_option maxRecDepth 100000
def bulkOf {H:Type} (d:DataW H):Nat:=Rows.uptoBulk d
theorem bulk_all {H:Type}:∀ l:List (DataW H),Rows.uptoBulkAll l=(l.map bulkOf).sum
  | []=>by simp [Rows.uptoBulkAll]
  | d::r=>by
    have:=bulk_all r
    simp only [Rows.uptoBulkAll,List.map_cons,List.sum_cons,this]; rfl
theorem Ja {H:Type} (d:DataW H):1≤bulkOf d:=by
  unfold bulkOf
  cases d with
  | lit l=>cases l <;> simp [Rows.uptoBulk]
  | nil=>simp [Rows.uptoBulk]
  | ptr d=>simp [Rows.uptoBulk]
  | slice a b=>simp [Rows.uptoBulk]
  | agg a=>simp [Rows.uptoBulk]
  | iface t d=>simp [Rows.uptoBulk]
  | map e=>simp [Rows.uptoBulk]
  | held h=>simp [Rows.uptoBulk]
theorem sum_ge {α:Type} {f:α→Nat} {l:List α} (h:∀ x ∈ l,1≤f x):l.length≤(l.map f).sum:=by
  induction l with
  | nil=>simp
  | cons x r ih =>
    have h1:=h x (.head _)
    have h2:=ih fun y hy=>h y (.tail _ hy)
    simp only [List.length_cons,List.map_cons,List.sum_cons]; omega
theorem bulk_slice {H:Type} (a b:List (DataW H)):(a.map bulkOf).sum + 1≤bulkOf (.slice a b):=by
  show _≤Rows.uptoBulk _
  simp only [Rows.uptoBulk,bulk_all]; omega
theorem bulk_agg {H:Type} (a:List (DataW H)):bulkOf (.agg a)=(a.map bulkOf).sum + 1:=by
  show Rows.uptoBulk _=_
  simp only [Rows.uptoBulk,bulk_all]
theorem list_of {α:Type} {P:Nat→α→Prop} {wt:α→Nat} {f:Nat→Nat}:∀ n:Nat,(∀ i,i < n→∃ x,P i x∧wt x≤f i)→∃ l:List α,l.length=n∧(∀ i (h:i < l.length),P i l[i])∧(l.map wt).sum≤((List.range n).map f).sum
  | 0,_=>⟨[],rfl,fun i h=>by simp at h,by simp⟩
  | n + 1,h=>by
    obtain ⟨l,h1,h2,h3⟩:=list_of n fun i hi=>h i (by omega)
    obtain ⟨x,h4,h5⟩:=h n (by omega)
    refine ⟨l ++ [x],by simp [h1],fun i hi => ?_,?_⟩
    · rw [List.length_append,List.length_singleton] at hi
      rcases Nat.lt_or_ge i l.length with h6 | h6
      · rw [List.getElem_append_left h6]; exact h2 i h6
      · obtain rfl:i=n:=by omega
        rw [List.getElem_append_right h6]
        simpa [h1] using h4
    · rw [List.map_append,List.sum_append,List.range_succ,List.map_append,List.sum_append]
      simp only [List.map_cons,List.map_nil,List.sum_cons,List.sum_nil]; omega
section
variable {H:Type} {enc:TypeId × Value→H} {W:World} {fuel:Nat} {cs:List Value} {x:DataW H × List MemPlace}
theorem struct_bulk {P:Program} {base:Nat} {sp:Nat→Bool} {hd:Bool} {t:TypeId} {fs:Array Field} (ht:P.underlying t=some (.struct fs)) (h:DataW.trod enc P W base sp hd fuel t cs=some x) :
    cs.length=P.cellsOf t∧∃ (n:Nat) (ys:List (DataW H × List MemPlace)),ys.length=fs.size∧bulkOf x.1=(ys.map fun y=>bulkOf y.1).sum + 1∧∀ (i:Nat) (f:Field),fs[i]? = some f→∃ y,ys[i]? = some y∧DataW.trod enc P W base sp hd n f.type ((cs.drop f.offset).take (P.cellsOf f.type))=some y:=by
  obtain ⟨xs,n,_,rfl,hl,hlen,hf⟩:=DataW.trod_struct ht h
  refine ⟨hl,n,xs,hlen,?_,fun i f hi => ?_⟩
  · rw [bulk_agg,List.map_map]; rfl
  · have:i < xs.length:=by rw [hlen]; exact (Array.getElem?_eq_some_iff.1 hi).1
    exact ⟨xs[i],List.getElem?_eq_getElem this,by rw [hf i f hi,List.getElem?_eq_getElem this]⟩
theorem slice_bulk {e t:TypeId} {m:Nat} (ht:Tryz.prog.underlying t=some (.slice e)) (hc:Tryz.prog.cellsOf e=m) (hm0:0 < m) (h:DataW.trod enc Tryz.prog W 0 (fun _=>true) true fuel t cs=some x) :
    (cs=[.slice none 0 0]) ∨ ∃ (a:Option Addr) (len cap n:Nat) (D:Nat→DataW H × List MemPlace),cs=[.slice a len cap]∧((List.range len).map fun i=>bulkOf (D i).1).sum + 1≤bulkOf x.1 ∧
      (len=0 ∨ ∃ b o,a=some ⟨b,o,none⟩∧∀ i,i < len→∃ cs',DataW.trod enc Tryz.prog W 0 (fun _=>true) true n e cs'=some (D i)∧∀ j u,cs'[j]? = some u→cellAt (fun b=>W.heap[b]?) b (o + i * m + j)=some u):=by
  rcases Go.Deep.open_slice ht h with ⟨rfl,_⟩ | ⟨a,len,cap,m2,n,D,Pl,rfl,_,hl,hm,hmm,rfl,hcx⟩
  · exact .inl rfl
  · right
    simp only [if_true] at hmm
    refine ⟨some a,len,cap,n,fun i=>(D i,Pl i),rfl,?_,?_⟩
    · refine Nat.le_trans (Nat.le_of_eq ?_) (bulk_slice _ _)
      rw [List.map_map]; rfl
    · by_cases h0:len=0
      · exact .inl h0
      · right
        rw [hc] at hcx
        obtain ⟨ab,ao,spot⟩:=a
        obtain ⟨cs0,g1,g2⟩:=hcx 0 (by omega)
        obtain ⟨gl,g3⟩:=cells?_cell g1
        have hspot:spot=none:=by
          have g4:=g3 0 (cs0[0]'(by omega)) (List.getElem?_eq_getElem (by omega))
          simpa [Addr.add] using World.cell?_spot g4
        subst hspot
        refine ⟨ab,ao,rfl,fun i hi => ?_⟩
        obtain ⟨cs',h1,h2⟩:=hcx i (by omega)
        obtain ⟨_,h3⟩:=cells?_cell h1
        refine ⟨cs',h2,fun j u hj => ?_⟩
        have:=h3 j u hj
        rw [Gt,Gt] at this
        exact Ho this
theorem slice_len {a:Option Addr} {len:Nat} {D:Nat→DataW H × List MemPlace}:len≤((List.range len).map fun i=>bulkOf (D i).1).sum:=by
  have:=sum_ge (f:=fun i=>bulkOf (D i).1) (l:=List.range len) (fun _ _=>Ja _)
  simpa using this
theorem bytes_bulk (h:DataW.trod enc Tryz.prog W 0 (fun _=>true) true fuel 25 cs=some x):∃ v l,cs=[v]∧BytesA (fun b=>W.heap[b]?) v l∧l.length≤bulkOf x.1:=by
  obtain ⟨v,l,rfl,hb⟩:=trod_bytes h
  refine ⟨v,l,rfl,hb,?_⟩
  have hb2:BA (fun b=>W.heap[b]?) v l:=hb
  obtain ⟨a,c,rfl⟩:=hb2.sl
  have h1:=Ja x.1
  rcases slice_bulk Tu25 cellsU8 (by decide) h with e | ⟨a2,len,cap,n,D,e,h2,_⟩
  · simp only [List.cons.injEq,Value.slice.injEq,and_true] at e
    omega
  · simp only [List.cons.injEq,Value.slice.injEq,and_true] at e
    have:=slice_len (a:=a2) (len:=len) (D:=D)
    omega
theorem sz_bulk (h:DataW.trod enc Tryz.prog W 0 (fun _=>true) true fuel 23 cs=some x):∃ a n c,cs=[.slice a n c]∧SzA (fun b=>W.heap[b]?) (.slice a n c):=by
  have c1:Tryz.prog.cellsOf 3=1:=by kernel_rfl
  rcases open_ints Tu23 Tu3 c1 h with ⟨hcs,hx⟩ | ⟨a,len,cap,zs,hcs,_,hl,hm,hz,hx,hcell,hwz⟩
  · exact ⟨_,_,_,hcs,none,0,0,rfl,by decide,.inl rfl⟩
  · simp only [if_true] at hz
    have hmx:maxLen≤9223372036854775807:=by decide
    by_cases h0:len=0
    · exact ⟨_,_,_,hcs,some a,len,cap,rfl,by omega,.inl h0⟩
    · obtain ⟨ab,ao,spot⟩:=a
      have hspot:spot=none:=by simpa [Addr.add] using World.cell?_spot (hcell 0 (by omega))
      subst hspot
      refine ⟨_,_,_,hcs,_,len,cap,rfl,by omega,.inr ⟨ab,ao,rfl,fun j hj => ?_⟩⟩
      have hcj:=hcell j (by omega)
      rw [Addr.add_lit] at hcj
      rw [Nat.mul_one]
      exact ⟨_,Ho hcj⟩
theorem cellsTok:Tryz.prog.cellsOf 75=3:=by kernel_rfl
theorem tok_bulk (h:DataW.trod enc Tryz.prog W 0 (fun _=>true) true fuel 75 cs=some x):∃ t:TokM,cs=tokCells t:=by
  obtain ⟨hl,n,hf⟩:=struct_fields Tryz.underlying75 h
  rw [cellsTok] at hl
  match cs,hl with
  | [c0,c1,c2],_ =>
    obtain ⟨y0,f0⟩:=hf 0 _ rfl
    obtain ⟨y1,f1⟩:=hf 1 _ rfl
    obtain ⟨y2,f2⟩:=hf 2 _ rfl
    simp only [List.getElem_toArray,List.getElem_cons_zero,List.getElem_cons_succ,Hm 3,Hm 5,List.drop_zero,List.drop_succ_cons,List.take_succ_cons,List.take_zero] at f0 f1 f2
    obtain ⟨m0,e0,w0⟩:=trod_int Tu5 f0
    obtain ⟨o0,rfl⟩:=u8_of_wf w0
    obtain ⟨m1,e1,_⟩:=trod_int Tu3 f1
    obtain ⟨m2,e2,_⟩:=trod_int Tu3 f2
    simp only [List.cons.injEq,and_true] at e0 e1 e2
    subst e0 e1 e2
    exact ⟨(o0,m1,m2),rfl⟩
theorem toks_bulk (h:DataW.trod enc Tryz.prog W 0 (fun _=>true) true fuel 71 cs=some x):∃ v l,cs=[v]∧TokA (fun b=>W.heap[b]?) v l∧l.length≤bulkOf x.1:=by
  rcases slice_bulk Tu71 cellsTok (by decide) h with rfl | ⟨a,len,cap,n,D,rfl,hb,h0⟩
  · exact ⟨_,[],rfl,⟨none,0,rfl,.inl rfl⟩,Nat.zero_le _⟩
  · have hl:=slice_len (a:=a) (len:=len) (D:=D)
    rcases h0 with rfl | ⟨b,o,rfl,hc⟩
    · exact ⟨_,[],rfl,⟨a,cap,rfl,.inl rfl⟩,Nat.zero_le _⟩
    · obtain ⟨l,h1,h2,_⟩:=list_of (P:=fun i (t:TokM)=>∀ j u,(tokCells t)[j]? = some u→cellAt (fun b=>W.heap[b]?) b (o + i * 3 + j)=some u) (wt:=fun _=>0) (f:=fun _=>0) len fun i hi=>by
        obtain ⟨cs',h1,h2⟩:=hc i hi
        obtain ⟨t,rfl⟩:=tok_bulk h1
        exact ⟨t,h2,Nat.le_refl _⟩
      subst h1
      exact ⟨_,l,rfl,⟨some ⟨b,o,none⟩,cap,rfl,.inr ⟨b,o,rfl,h2⟩⟩,by omega⟩
theorem block_bulk (h:DataW.trod enc Tryz.prog W 0 (fun _=>true) true fuel 73 cs=some x):∃ p:PB,BlkA (fun b=>W.heap[b]?) cs p∧wtB p≤bulkOf x.1:=by
  obtain ⟨hl,n,ys,hy,hbk,hf⟩:=struct_bulk Tryz.underlying73 h
  rw [cellsBlock] at hl
  match cs,hl with
  | [c0,c1,c2,c3],_ =>
    obtain ⟨y0,g0,f0⟩:=hf 0 _ rfl
    obtain ⟨y1,g1,f1⟩:=hf 1 _ rfl
    obtain ⟨y2,g2,f2⟩:=hf 2 _ rfl
    obtain ⟨y3,g3,f3⟩:=hf 3 _ rfl
    simp only [List.getElem_toArray,List.getElem_cons_zero,List.getElem_cons_succ,Hm 3,Hm 25,Hm 71,Hm 23,List.drop_zero,List.drop_succ_cons,List.take_succ_cons,List.take_zero] at f0 f1 f2 f3
    obtain ⟨m0,e0,_⟩:=trod_int Tu3 f0
    obtain ⟨v1,l1,e1,b1,w1⟩:=bytes_bulk f1
    obtain ⟨v2,l2,e2,b2,w2⟩:=toks_bulk f2
    obtain ⟨a3,n3,k3,e3,b3⟩:=sz_bulk f3
    simp only [List.cons.injEq,and_true] at e0 e1 e2 e3
    subst e0 e1 e2 e3
    have hb1:BA (fun b=>W.heap[b]?) c1 l1:=b1
    obtain ⟨a1,k1,rfl⟩:=hb1.sl
    refine ⟨⟨m0,l1,l2⟩,⟨a1,k1,_,a3,n3,k3,rfl,hb1,b2,b3⟩,?_⟩
    match ys,hy with
    | [z0,z1,z2,z3],_ =>
      simp only [List.getElem?_cons_zero,List.getElem?_cons_succ,Option.some.injEq] at g0 g1 g2 g3
      subst g0 g1 g2 g3
      simp only [List.map_cons,List.map_nil,List.sum_cons,List.sum_nil] at hbk
      show l1.length + l2.length + 1≤_
      omega
theorem blocks_bulk (h:DataW.trod enc Tryz.prog W 0 (fun _=>true) true fuel 33 cs=some x):∃ a l c,cs=[.slice a l.length c]∧(l=[] ∨ ∃ b o,a=some ⟨b,o,none⟩∧∀ i (h:i < l.length),∃ cs,BlkA (fun b=>W.heap[b]?) cs l[i]∧∀ j u,cs[j]? = some u→cellAt (fun b=>W.heap[b]?) b (o + i * 4 + j)=some u)∧wtL l + 1≤bulkOf x.1:=by
  have hb1:=Ja x.1
  rcases slice_bulk Tu33 cellsBlock (by decide) h with rfl | ⟨a,len,cap,n,D,rfl,hb,h0⟩
  · exact ⟨none,[],0,rfl,.inl rfl,hb1⟩
  · rcases h0 with rfl | ⟨b,o,rfl,hc⟩
    · exact ⟨a,[],cap,rfl,.inl rfl,hb1⟩
    · obtain ⟨l,h1,h2,h3⟩:=list_of (P:=fun i (p:PB)=>∃ cs,BlkA (fun b=>W.heap[b]?) cs p∧∀ j u,cs[j]? = some u→cellAt (fun b=>W.heap[b]?) b (o + i * 4 + j)=some u) (wt:=wtB) (f:=fun i=>bulkOf (D i).1) len fun i hi=>by
        obtain ⟨cs',h1,h2⟩:=hc i hi
        obtain ⟨p,h3,h4⟩:=block_bulk h1
        exact ⟨p,⟨cs',h3,h2⟩,h4⟩
      subst h1
      exact ⟨some ⟨b,o,none⟩,l,cap,rfl,.inr ⟨b,o,rfl,h2⟩,by unfold wtL; omega⟩
theorem made_bulk (h:DataW.trod enc Tryz.prog W 0 (fun _=>true) true fuel 35 cs=some x):∃ m:MB,MbA (fun b=>W.heap[b]?) cs m∧wtM m≤8 * bulkOf x.1:=by
  obtain ⟨hl,n,ys,hy,hbk,hf⟩:=struct_bulk Tryz.underlying35 h
  rw [cellsMade] at hl
  match cs,hl with
  | [c0,c1,c2,c3,c4,c5,c6,c7,c8,c9,c10,c11],_ =>
    obtain ⟨y0,g0,f0⟩:=hf 0 _ rfl
    obtain ⟨y1,g1,f1⟩:=hf 1 _ rfl
    obtain ⟨y2,g2,f2⟩:=hf 2 _ rfl
    obtain ⟨y3,g3,f3⟩:=hf 3 _ rfl
    obtain ⟨y4,g4,f4⟩:=hf 4 _ rfl
    obtain ⟨y5,g5,f5⟩:=hf 5 _ rfl
    obtain ⟨y6,g6,f6⟩:=hf 6 _ rfl
    obtain ⟨y7,g7,f7⟩:=hf 7 _ rfl
    simp only [List.getElem_toArray,List.getElem_cons_zero,List.getElem_cons_succ,cellsHead,Hm 4,Hm 5,Hm 33,List.drop_zero,List.drop_succ_cons,List.take_succ_cons,List.take_zero] at f0 f1 f2 f3 f4 f5 f6 f7
    obtain ⟨nm,cm,ve,ex,mod,os,e0,hb,z0,z1,w0⟩:=trod_head f0
    obtain ⟨b1,e1⟩:=trod_bool Tu4 f1
    obtain ⟨b2,e2⟩:=trod_bool Tu4 f2
    obtain ⟨b3,e3⟩:=trod_bool Tu4 f3
    obtain ⟨b4,e4⟩:=trod_bool Tu4 f4
    obtain ⟨b5,e5⟩:=trod_bool Tu4 f5
    obtain ⟨m6,e6,w6⟩:=trod_int Tu5 f6
    obtain ⟨o6,rfl⟩:=u8_of_wf w6
    obtain ⟨va,bl,vc,e7,hbl,wbl⟩:=blocks_bulk f7
    simp only [List.cons.injEq,and_true] at e0 e1 e2 e3 e4 e5 e6 e7
    obtain ⟨rfl,rfl,rfl,rfl,rfl⟩:=e0
    subst e1 e2 e3 e4 e5 e6 e7
    have hE:∃ ea ec,c2=.slice ea ex.length ec∧(ex=[] ∨ ∃ b o,ea=some ⟨b,o,none⟩∧KB (fun b=>W.heap[b]?) b o ex):=by
      rcases hb with ⟨rfl,rfl⟩ | ⟨a,c,rfl,rfl⟩ | ⟨pb,po,cap,rfl,_,h⟩
      · exact ⟨none,0,rfl,.inl rfl⟩
      · exact ⟨some a,c,rfl,.inl rfl⟩
      · exact ⟨_,cap,rfl,.inr ⟨pb,po,rfl,h⟩⟩
    obtain ⟨ea,ec,rfl,hE⟩:=hE
    refine ⟨⟨⟨nm,cm,ex,mod,os,b1,b2,b3,b4,b5,o6⟩,bl⟩,⟨ea,ec,va,vc,rfl,hE,hbl⟩,?_⟩
    match ys,hy with
    | [z0',z1',z2,z3,z4,z5,z6,z7],_ =>
      simp only [List.getElem?_cons_zero,List.getElem?_cons_succ,Option.some.injEq] at g0 g1 g2 g3 g4 g5 g6 g7
      subst g0 g1 g2 g3 g4 g5 g6 g7
      simp only [List.map_cons,List.map_nil,List.sum_cons,List.sum_nil] at hbk
      have q0:=Ja z0'.1
      have q1:=Ja z1'.1
      have q2:=Ja z2.1
      have q3:=Ja z3.1
      have q4:=Ja z4.1
      have q5:=Ja z5.1
      have q6:=Ja z6.1
      show wtL bl + 60≤_
      omega
theorem arg_mades {base:Nat} {v1:Value} {d1:DataW H} {p1:List MemPlace} (hval:Value.okWide Tryz.prog W .any base 22 v1)
    (h1:DataW.Trod enc Tryz.prog W 0 (fun _=>true) true 22 v1 d1 p1):∃ a l c,v1=.slice a l.length c∧MbsA (fun b=>W.heap[b]?) a l∧wtMs l≤8 * bulkOf d1:=by
  obtain ⟨a1,len1,cap1,rfl⟩:=okWide_slice Tu22 hval
  obtain ⟨fuel,h⟩:=h1
  rcases slice_bulk Tu22 cellsMade (by decide) h with e | ⟨a,len,cap,n,D,e,hb,h0⟩
  · simp [Value.cells] at e
    obtain ⟨rfl,rfl,rfl⟩:=e
    exact ⟨none,[],0,rfl,.inl rfl,by simp [wtMs]⟩
  · simp [Value.cells] at e
    obtain ⟨rfl,rfl,rfl⟩:=e
    rcases h0 with rfl | ⟨b,o,rfl,hc⟩
    · exact ⟨a1,[],cap1,rfl,.inl rfl,by simp [wtMs]⟩
    · obtain ⟨l,h1,h2,h3⟩:=list_of (P:=fun i (p:MB)=>∃ cs,MbA (fun b=>W.heap[b]?) cs p∧∀ j u,cs[j]? = some u→cellAt (fun b=>W.heap[b]?) b (o + i * 12 + j)=some u) (wt:=wtM) (f:=fun i=>8 * bulkOf (D i).1) len1 fun i hi=>by
        obtain ⟨cs',h1,h2⟩:=hc i hi
        obtain ⟨p,h3,h4⟩:=made_bulk h1
        exact ⟨p,⟨cs',h3,h2⟩,h4⟩
      subst h1
      refine ⟨some ⟨b,o,none⟩,l,cap1,rfl,.inr ⟨b,o,rfl,h2⟩,?_⟩
      have e8:∀ (k:Nat),((List.range k).map fun i=>8 * bulkOf (D i).1).sum=8 * ((List.range k).map fun i=>bulkOf (D i).1).sum:=by
        intro k
        induction k with
        | zero=>simp
        | succ k ih=>rw [List.range_succ,List.map_append,List.sum_append,ih,List.map_append,List.sum_append]; simp; omega
      rw [e8] at h3
      unfold wtMs
      have hb':((List.range l.length).map fun i=>bulkOf (D i).1).sum + 1≤bulkOf d1:=hb
      omega
end
theorem gn0:Tryz.prog.globalNamed "io.ErrShortBuffer" = some 9:=by kernel_rfl
theorem gn1:Tryz.prog.globalNamed "io.EOF" = some 0:=by kernel_rfl
theorem gn2:Tryz.prog.globalNamed "io.ErrUnexpectedEOF" = some 8:=by kernel_rfl
theorem gn4:Tryz.prog.globalNamed "gzipfiles/pub/gogzip.ErrChecksum" = some 2:=by kernel_rfl
theorem gn5:Tryz.prog.globalNamed "gzipfiles/pub/gogzip.ErrHeader" = some 1:=by kernel_rfl
theorem gt0:(Tryz.prog.globals[9]?).map (·.type)=some 58:=by kernel_rfl
theorem gt1:(Tryz.prog.globals[0]?).map (·.type)=some 58:=by kernel_rfl
theorem gt2:(Tryz.prog.globals[8]?).map (·.type)=some 58:=by kernel_rfl
theorem gt4:(Tryz.prog.globals[2]?).map (·.type)=some 58:=by kernel_rfl
theorem gt5:(Tryz.prog.globals[1]?).map (·.type)=some 58:=by kernel_rfl
theorem laid_skip {W:World} {n:String} {d:DataW Unit} {r:List (String × DataW Unit)} {ps:List MemPlace} (h:DataW.LaidVars Tryz.prog W ((n,d)::r) ps):∃ p q,DataW.LaidVars Tryz.prog W r q∧ps=p ++ q:=by
  obtain ⟨g,t,cs,fuel,p,q,_,_,_,_,hr,rfl⟩:=h
  exact ⟨_,q,hr,rfl⟩
def eaOf (a0 a1 a2 a3 a4:Addr) (k:Fin 5):Addr:=match k with
  | 0=>a0
  | 1=>a1
  | 2=>a2
  | 3=>a3
  | 4=>a4
theorem gssizes:Tryz.prog.globalNamed "gzipfiles/spec.sizes" = some 3:=by kernel_rfl
theorem gusizes:(Tryz.prog.globals[3]?).map (·.type)=some 23:=by kernel_rfl
theorem gsmore:Tryz.prog.globalNamed "gzipfiles/spec.more" = some 4:=by kernel_rfl
theorem gumore:(Tryz.prog.globals[4]?).map (·.type)=some 23:=by kernel_rfl
theorem gsfar:Tryz.prog.globalNamed "gzipfiles/spec.far" = some 5:=by kernel_rfl
theorem gufar:(Tryz.prog.globals[5]?).map (·.type)=some 23:=by kernel_rfl
theorem gsfurther:Tryz.prog.globalNamed "gzipfiles/spec.further" = some 6:=by kernel_rfl
theorem gufurther:(Tryz.prog.globals[6]?).map (·.type)=some 23:=by kernel_rfl
theorem gsorder:Tryz.prog.globalNamed "gzipfiles/spec.order" = some 7:=by kernel_rfl
theorem guorder:(Tryz.prog.globals[7]?).map (·.type)=some 23:=by kernel_rfl
theorem tab_laid {W:World} {n:String} {g:Nat} {l:List Nat} {d:List (DataW Unit)} {r:List (String × DataW Unit)} {ps:List MemPlace} (hn:Tryz.prog.globalNamed n=some g) (hty:(Tryz.prog.globals[g]?).map (·.type)=some 23) (hdd:d=l.map fun n=>.lit (.int .i64 (n:Int))) (h0:0 < l.length)
    (h:DataW.LaidVars Tryz.prog W ((n,.slice d [])::r) ps):TabS (fun b=>W.heap[b]?) g l∧∃ p q,DataW.LaidVars Tryz.prog W r q∧ps=p ++ q:=by
  subst hdd
  obtain ⟨g',t,cs,fuel,p,q,hg,ht,hv,hd,hr,rfl⟩:=h
  refine ⟨?_,_,q,hr,rfl⟩
  obtain rfl:=Option.some.inj (hn.symm.trans hg)
  obtain rfl:=Option.some.inj (hty.symm.trans ht)
  have c1:Tryz.prog.cellsOf 3=1:=by kernel_rfl
  rcases open_ints Tu23 Tu3 c1 hd with ⟨_,hx⟩ | ⟨a,len,cap,zs,hcs,_,hl,hm,hz,hx,hcell,hwz⟩
  · cases (Prod.mk.inj hx).1
  · simp only [if_true] at hz
    obtain ⟨e1,e2⟩:=DataW.slice.inj (Prod.mk.inj hx).1
    have e3:zs.drop len=[]:=by simpa [lits] using e2.symm
    have hlen:len=l.length:=by
      have:=congrArg List.length e1
      simp only [lits,List.length_map,List.length_take] at this
      omega
    obtain ⟨ab,ao,spot⟩:=a
    have hspot:spot=none:=by simpa [Addr.add] using World.cell?_spot (hcell 0 (by omega))
    subst hspot
    refine ⟨ab,ao,cap,?_,fun i hi => ?_⟩
    · rw [← hlen]
      refine Ho ?_
      rw [World.var?_cell hg hv 0]
      have:cs.toList[0]? = some (.slice (some ⟨ab,ao,none⟩) len cap):=by rw [hcs]; rfl
      simpa using this
    · have hcj:=hcell i (by omega)
      rw [Addr.add_lit] at hcj
      rw [Nat.mul_one]
      refine Ho ?_
      rw [hcj]
      have e4:(lits (H:=Unit) .i64 (zs.take len))[i]? = (l.map fun (n:Nat)=>(DataW.lit (.int .i64 (n:Int)):DataW Unit))[i]? := by rw [← e1]
      simp only [lits,List.getElem?_map] at e4
      rw [List.getElem?_eq_getElem (show i < (zs.take len).length by rw [List.length_take]; omega),List.getElem?_eq_getElem (by omega:i < l.length)] at e4
      simp only [Option.map_some,Option.some.injEq,DataW.lit.injEq,Lit.int.injEq,true_and,List.getElem_take] at e4
      have e5:zs.getD i 0=zs[i]'(by omega):=by simp [List.getD,List.getElem?_eq_getElem (show i < zs.length by omega)]
      rw [e5,e4,List.getD,List.getElem?_eq_getElem hi]; rfl
theorem laid_all {W:World} (h:laidMetH Tryz.prog Rows.fnReadAsToldRow.laid W):(∃ ea,Sents (fun b=>W.heap[b]?) ea)∧Codes (fun b=>W.heap[b]?)∧SpT (fun b=>W.heap[b]?):=by
  have h':laidMet Tryz.prog [("gzipfiles/spec.sizes",Rows.laid_gzipfiles_spec_sizes),("gzipfiles/spec.more",Rows.laid_gzipfiles_spec_more),("gzipfiles/spec.far",Rows.laid_gzipfiles_spec_far),("gzipfiles/spec.further",Rows.laid_gzipfiles_spec_further),("gzipfiles/spec.order",Rows.laid_gzipfiles_spec_order),("io.ErrShortBuffer",Rows.laid_io_ErrShortBuffer),("io.EOF",Rows.laid_io_EOF),("io.ErrUnexpectedEOF",Rows.laid_io_ErrUnexpectedEOF),("gzipfiles/pub/flate.codeOrder",Rows.laid_gzipfiles_pub_flate_codeOrder),("gzipfiles/pub/gogzip.ErrChecksum",Rows.laid_gzipfiles_pub_gogzip_ErrChecksum),("gzipfiles/pub/gogzip.ErrHeader",Rows.laid_gzipfiles_pub_gogzip_ErrHeader)] W:=h
  obtain ⟨ps,v0,hnd,hrows⟩:=h'
  obtain ⟨t1,p1,s1,v1,rfl⟩:=tab_laid (l:=sizesL) gssizes gusizes rfl (by decide) v0
  obtain ⟨t2,p2,s2,v2,rfl⟩:=tab_laid (l:=moreL) gsmore gumore rfl (by decide) v1
  obtain ⟨t3,p3,s3,v3,rfl⟩:=tab_laid (l:=farL) gsfar gufar rfl (by decide) v2
  obtain ⟨t4,p4,s4,v4,rfl⟩:=tab_laid (l:=furL) gsfurther gufurther rfl (by decide) v3
  obtain ⟨t5,p5,s5,w0,rfl⟩:=tab_laid (l:=ordL) gsorder guorder rfl (by decide) v4
  replace hnd:s5.Nodup:=by
    simp only [List.nodup_append] at hnd
    exact hnd.2.1.2.1.2.1.2.1.2.1
  replace hrows:∀ b off,MemPlace.cell b off ∈ s5→(∃ c t,W.heap[b]? = some (.cells c t (0,0)))∧∀ u v,W.cell? ⟨b,off,none⟩=some (.iface u v)→Value.okWide Tryz.prog W .any 0 u v:=fun b off hb=>hrows b off (by simp [hb])
  obtain ⟨a0,q0,c0,w1,rfl⟩:=laid_err gn0 gt0 w0 hrows
  obtain ⟨a1,q1,c1,w2,rfl⟩:=laid_err gn1 gt1 w1 fun b off hb=>hrows b off (by simp [hb])
  obtain ⟨a2,q2,c2,w3,rfl⟩:=laid_err gn2 gt2 w2 fun b off hb=>hrows b off (by simp [hb])
  have hcodes:=codes_laid rfl w3
  obtain ⟨p3,q3,w4,rfl⟩:=laid_skip w3
  obtain ⟨a4,q4,c4,w5,rfl⟩:=laid_err gn4 gt4 w4 fun b off hb=>hrows b off (by simp [hb])
  obtain ⟨a5,q5,c5,w6,rfl⟩:=laid_err gn5 gt5 w5 fun b off hb=>hrows b off (by simp [hb])
  have k0:=(hrows a0.block a0.off (by simp [MemPlace.row])).1
  have k1:=(hrows a1.block a1.off (by simp [MemPlace.row])).1
  have k2:=(hrows a2.block a2.off (by simp [MemPlace.row])).1
  have k4:=(hrows a4.block a4.off (by simp [MemPlace.row])).1
  have k5:=(hrows a5.block a5.off (by simp [MemPlace.row])).1
  have n15:a1 ≠ a5:=by rintro rfl; simp [MemPlace.row,List.nodup_append] at hnd
  have n14:a1 ≠ a4:=by rintro rfl; simp [MemPlace.row,List.nodup_append] at hnd
  have n12:a1 ≠ a2:=by rintro rfl; simp [MemPlace.row,List.nodup_append] at hnd
  have n10:a0 ≠ a1:=by rintro rfl; simp [MemPlace.row,List.nodup_append] at hnd
  have n54:a4 ≠ a5:=by rintro rfl; simp [MemPlace.row,List.nodup_append] at hnd
  have n52:a2 ≠ a5:=by rintro rfl; simp [MemPlace.row,List.nodup_append] at hnd
  have n50:a0 ≠ a5:=by rintro rfl; simp [MemPlace.row,List.nodup_append] at hnd
  have n42:a2 ≠ a4:=by rintro rfl; simp [MemPlace.row,List.nodup_append] at hnd
  have n40:a0 ≠ a4:=by rintro rfl; simp [MemPlace.row,List.nodup_append] at hnd
  have n20:a0 ≠ a2:=by rintro rfl; simp [MemPlace.row,List.nodup_append] at hnd
  refine ⟨?_,hcodes,t5,t1,t2,t3,t4⟩
  refine ⟨eaOf a1 a5 a4 a2 a0,fun k => ?_,fun j k e => ?_,c1,c5,c4,c2,c0⟩
  · match k with
    | 0=>exact k1
    | 1=>exact k5
    | 2=>exact k4
    | 3=>exact k2
    | 4=>exact k0
  · match j,k,e with
    | 0,0,_=>rfl
    | 1,1,_=>rfl
    | 2,2,_=>rfl
    | 3,3,_=>rfl
    | 4,4,_=>rfl
    | 0,1,e=>exact absurd e n15
    | 0,2,e=>exact absurd e n14
    | 0,3,e=>exact absurd e n12
    | 0,4,e=>exact absurd (Eq.symm e) n10
    | 1,0,e=>exact absurd (Eq.symm e) n15
    | 1,2,e=>exact absurd (Eq.symm e) n54
    | 1,3,e=>exact absurd (Eq.symm e) n52
    | 1,4,e=>exact absurd (Eq.symm e) n50
    | 2,0,e=>exact absurd (Eq.symm e) n14
    | 2,1,e=>exact absurd e n54
    | 2,3,e=>exact absurd (Eq.symm e) n42
    | 2,4,e=>exact absurd (Eq.symm e) n40
    | 3,0,e=>exact absurd (Eq.symm e) n12
    | 3,1,e=>exact absurd e n52
    | 3,2,e=>exact absurd e n42
    | 3,4,e=>exact absurd (Eq.symm e) n20
    | 4,0,e=>exact absurd e n10
    | 4,1,e=>exact absurd e n50
    | 4,2,e=>exact absurd e n40
    | 4,3,e=>exact absurd e n20
theorem tab_cap {W:World} {n:String} {g:Nat} {d:List (DataW Unit)} {r:List (String × DataW Unit)} {ps:List MemPlace} (hn:Tryz.prog.globalNamed n=some g) (hty:(Tryz.prog.globals[g]?).map (·.type)=some 23)
    (h:DataW.LaidVars Tryz.prog W ((n,.slice d [])::r) ps):CapS (fun b=>W.heap[b]?) g:=by
  obtain ⟨g',t,cs,fuel,p,q,hg,ht,hv,hd,hr,rfl⟩:=h
  obtain rfl:=Option.some.inj (hn.symm.trans hg)
  obtain rfl:=Option.some.inj (hty.symm.trans ht)
  have c1:Tryz.prog.cellsOf 3=1:=by kernel_rfl
  rcases open_ints Tu23 Tu3 c1 hd with ⟨_,hx⟩ | ⟨a,len,cap,zs,hcs,_,hl,hm,hz,hx,hcell,hwz⟩
  · cases (Prod.mk.inj hx).1
  · intro a2 n2 c2 h2
    have h3:cellAt (fun b=>W.heap[b]?) g 0=some (.slice (some a) len cap):=by
      refine Ho ?_
      rw [World.var?_cell hg hv 0]
      have:cs.toList[0]? = some (.slice (some a) len cap):=by rw [hcs]; rfl
      simpa using this
    have:=Option.some.inj (h3.symm.trans h2)
    injection this with e1 e2 e3
    omega
theorem laid_cap {W:World} (h:laidMetH Tryz.prog Rows.fnReadAsToldRow.laid W):CapS (fun b=>W.heap[b]?) 7:=by
  have h':laidMet Tryz.prog [("gzipfiles/spec.sizes",Rows.laid_gzipfiles_spec_sizes),("gzipfiles/spec.more",Rows.laid_gzipfiles_spec_more),("gzipfiles/spec.far",Rows.laid_gzipfiles_spec_far),("gzipfiles/spec.further",Rows.laid_gzipfiles_spec_further),("gzipfiles/spec.order",Rows.laid_gzipfiles_spec_order),("io.ErrShortBuffer",Rows.laid_io_ErrShortBuffer),("io.EOF",Rows.laid_io_EOF),("io.ErrUnexpectedEOF",Rows.laid_io_ErrUnexpectedEOF),("gzipfiles/pub/flate.codeOrder",Rows.laid_gzipfiles_pub_flate_codeOrder),("gzipfiles/pub/gogzip.ErrChecksum",Rows.laid_gzipfiles_pub_gogzip_ErrChecksum),("gzipfiles/pub/gogzip.ErrHeader",Rows.laid_gzipfiles_pub_gogzip_ErrHeader)] W:=h
  obtain ⟨ps,v0,hnd,hrows⟩:=h'
  obtain ⟨t1,p1,s1,v1,rfl⟩:=tab_laid (l:=sizesL) gssizes gusizes rfl (by decide) v0
  obtain ⟨t2,p2,s2,v2,rfl⟩:=tab_laid (l:=moreL) gsmore gumore rfl (by decide) v1
  obtain ⟨t3,p3,s3,v3,rfl⟩:=tab_laid (l:=farL) gsfar gufar rfl (by decide) v2
  obtain ⟨t4,p4,s4,v4,rfl⟩:=tab_laid (l:=furL) gsfurther gufurther rfl (by decide) v3
  exact tab_cap gsorder guorder v4
theorem ms_len (l:List MB):l.length≤wtMs l:=by
  unfold wtMs
  induction l with
  | nil=>simp
  | cons x r ih=>simp only [List.length_cons,List.map_cons,List.sum_cons]; unfold wtM at *; omega
open Go Go.Proofs Go.ChangeShapes Go.WideShapes Go.RowKit
theorem To.below {K:Known} {w w':World} {L':Frags} (h:To K w [] w' L'):Below w.heap.size w w' :=
  ⟨h.os,h.tape,h.output,h.size,fun k hk=>h.old k hk fun f hf=>by cases hf⟩
theorem agree_all (w:World):Agree (fun b=>w.heap[b]?) [] w.heap :=
  ⟨fun _ _ h=>h,(fun f hf=>by cases hf),(fun f hf=>by cases hf),List.Pairwise.nil⟩
section
variable {H:Type} {enc:TypeId × Value→H} {P:Program} {W W':World}
theorem trodAll_stays (hl:laidOutB P=true) {sp:Nat→Bool}:∀ {ts:List TypeId} {vs:List Value} {ds:List (DataW H)} {ps:List MemPlace},(∀ t ∈ ts,P.readableRec t=true∧t < P.types.size) →
    DataW.TrodAll enc P W 0 (fun _=>true) true ts vs ds ps→(∀ p ∈ ps,W.sameAt W' p)→(∀ p ∈ ps,sp p.block=true)→DataW.TrodAll enc P W' 0 sp true ts vs ds ps
  | [],[],[],_,_,h,_,_=>h
  | t::ts,v::vs,d::ds,_,ht,⟨p,q,h1,h2,e⟩,hs,hp=>by
    subst e
    exact ⟨p,q,WideElems.Trod_stays hl (ht t (by simp)).1 (ht t (by simp)).2 h1 (fun x hx=>hs x (by simp [hx])) (fun x hx=>hp x (by simp [hx])),
      trodAll_stays hl (fun t h=>ht t (by simp [h])) h2 (fun x hx=>hs x (by simp [hx])) (fun x hx=>hp x (by simp [hx])),rfl⟩
theorem post_true {f:Func} {s:ChangeSpec} {args:Array Value} {ds gs:List (DataW H)} {before:List MemPlace} {bt:TypeId} (hl:laidOutB P=true)
    (hts:∀ t ∈ f.params.toList,P.readableRec t=true∧t < P.types.size) (hbool:P.underlying bt=some .bool) (hres:f.resultTypes=#[bt]) (hsv:s.vars=[])
    (hfn:s.fn H (ds ++ gs)={ results:=[.lit (.bool true)],args:=ds,vars:=[] }) (hW:DataW.Whole enc P f.params.toList s.vars false W args.toList ds gs before) (hb:Below W.heap.size W W') :
    s.post enc P f false true false false W args (.bool true) W':=by
  have hW':=hW
  obtain ⟨p,q,hA,hV,rfl,hfz,hnd⟩:=hW
  rw [hsv] at hV
  obtain ⟨rfl,rfl⟩:=trodVars_none hV
  have hlt:∀ x ∈ p,x.block < W.heap.size:=fun x hx=>by simpa using hW'.lt x (by simp [hx])
  refine ⟨ds,[],p ++ [],[],p,[],hW',?_,?_,?_,hb.frame _,fun h=>by cases h⟩
  · rw [hres,hfn]
    exact trodAll_cons_mk (shut_bool hbool _) trodAll_mk0
  · rw [hfn]
    exact trodAll_stays hl hts hA (fun x hx=>hb.same (hlt x hx)) (fun x hx=>by simpa using hlt x hx)
  · rw [hfn,hsv]
    exact rfl
end
theorem ownD:ownKnob Tryz.prog.godebug=none:=by kernel_rfl
theorem laidOutD:laidOutB Tryz.prog=true:=by kernel_rfl
def intS (l:List Nat):Obj:=.cells (l.map fun (n:Nat)=>Value.int .i64 (n:Int)).toArray 3
def errS (l:List UInt8):Obj:=.cells #[.string ⟨l.toArray⟩] 234
noncomputable def lowD:Nat:=(World.holding Tryz.prog default ⟨#[],#[],[]⟩).heap.size
def layErr (g:Nat) (b:Nat) (H:Array Obj):Array Obj:=H.modify g fun
  | .cells _ t frozen=>.cells #[.iface 215 (.pointer (some ⟨b,0,none⟩))] t frozen
  | o=>o
def layInts (g:Nat) (l:List Int) (H:Array Obj):Array Obj:=H.modify g fun
  | .cells _ t frozen=>.cells (l.map fun n=>Value.int .i64 n).toArray t frozen
  | o=>o
def laySl (g:Nat) (b n:Nat) (H:Array Obj):Array Obj:=H.modify g fun
  | .cells _ t frozen=>.cells #[.slice (some ⟨b,0,none⟩) n n] t frozen
  | o=>o
noncomputable def laidWorldZ (os:Os):World :=
  let w0:=World.holding Tryz.prog os ⟨#[errS [115,104,111,114,116,32,98,117,102,102,101,114],errS [69,79,70],errS [117,110,101,120,112,101,99,116,101,100,32,69,79,70],
    errS [103,122,105,112,58,32,105,110,118,97,108,105,100,32,99,104,101,99,107,115,117,109],errS [103,122,105,112,58,32,105,110,118,97,108,105,100,32,104,101,97,100,101,114],intS sizesL,intS moreL,intS farL,intS furL,intS ordL],#[],[]⟩
  { w0 with heap:=laySl 3 (lowD + 5) 29 (laySl 4 (lowD + 6) 29 (laySl 5 (lowD + 7) 30 (laySl 6 (lowD + 8) 30 (laySl 7 (lowD + 9) 19 (layErr 9 lowD (layErr 0 (lowD + 1) (layErr 8 (lowD + 2) (layErr 2 (lowD + 3) (layErr 1 (lowD + 4)
    (layInts 10 [16,17,18,0,8,7,9,6,10,5,11,4,12,3,13,2,14,1,15] w0.heap)))))))))) }
theorem laid_metZ (os:Os) (args:Array Value):laidMet Tryz.prog Rows.fnReadAsToldRow.laid ((laidWorldZ os).forCall (fun _ _=>0) ⟨#[],args,[]⟩).memory :=
  laidMet_of_run' 8 (by kernel_rfl) (by kernel_rfl)
end Go.Eng
