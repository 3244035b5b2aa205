/-
  Texts of this proof, merged: Eng1, Eng2, Eng3, Eng4, Eng5, Eng6, Eng7, Huf.
-/
import Derived.Calls
import Derived.Orders
import Derived.Tactics
import Derived.ScopeJumps
import Derived.RowKit3
import Derived.Below
import Derived.Deep.LoopGhost
import Derived.IntWalk
import Derived.Laws.Slices
import Derived.Laws.Build
import Derived.Laws.BitsAllLaws
import Derived.Laws.Bits64
import Derived.Laws.IdiomCopy
import Derived.WalkLawsBesides
import Derived.Laws.AppendOwn
import Derived.Laws.MakeOwn
import Derived.Laws.IdiomStrings
import Derived.Laws.Cover4
import Derived.LaidEql
import Derived.LaidEqlPtr
import Derived.Stop.Asserts
set_option linter.unusedVariables false
set_option linter.unusedSimpArgs false
namespace Go.Eng
open Go
abbrev Env:=List (Nat×Value)
def get? :Env→Nat→Option Value
  | [],_=>none
  |p::r,t=>bif Nat.beq p.1 t then some p.2 else get? r t
def ev?(env:Env):Operand→Option Value
  |.tmp t=>get? env t
  |.const v=>some v
  |.global g=>some (.pointer (some ⟨g,0,none⟩))
  |.func f=>some (.func (.func f) #[] #[])
structure Fits(n:Nat)(env:Env)(a:Act):Prop where
  defers:a.defers=[]
  size:a.tmps.size=n
  val:∀t v,get? env t=some v→a.tmps.getD t undef=v
theorem Fits.eval{n:Nat}{env:Env}{a:Act}(h:Fits n env a){x:Operand}{v:Value}(hx:ev? env x=some v):a.eval x=v:=by
  cases x with
  |tmp t=>exact h.val t v hx
  |const u=>simpa[ev?,Act.eval]using hx
  |global g=>simpa[ev?,Act.eval]using hx
  |func f=>simpa[ev?,Act.eval]using hx
theorem Fits.put{n:Nat}{env:Env}{a:Act}(h:Fits n env a){d:Nat}(hd:d<n)(v:Value):Fits n ((d,v)::env) (a.put (some d) v):=by
  refine⟨h.defers,by simp[Act.put,h.size],fun t u hu=>?_⟩
  have hd':d<a.tmps.size:=by rw[h.size];exact hd
  simp only[get?]at hu
  cases hb:Nat.beq d t with
  |true=>
    have:d=t:=Nat.eq_of_beq_eq_true hb
    subst this
    simp only[hb,cond_true,Option.some.injEq]at hu
    subst hu
    simp[Act.put,hd']
  |false=>
    have hne:d≠t:=Nat.ne_of_beq_eq_false hb
    simp only[hb,cond_false]at hu
    have:=h.val t u hu
    simpa[Act.put,Array.getElem?_setIfInBounds_ne hne]using this
def keeps(env:Env):List Nat→Option Env
  | []=>some []
  |t::ts=>match get? env t,keeps env ts with
    |some v,some r=>some ((t,v)::r)
    |_,_=>none
theorem keeps_sub{env:Env}:∀{ts:List Nat} {env1:Env},keeps env ts=some env1→∀t v,get? env1 t=some v→get? env t=some v
  | [],env1,h,t,v,hv=>by
    simp only[keeps,Option.some.injEq]at h
    subst h
    simp[get?]at hv
  |s::ts,env1,h,t,v,hv=>by
    simp only[keeps]at h
    split at h
    · rename_i u r hu hr
      simp only[Option.some.injEq]at h
      subst h
      simp only[get?]at hv
      cases hb:Nat.beq s t with
      |true=>
        have:s=t:=Nat.eq_of_beq_eq_true hb
        subst this
        simp only[hb,cond_true,Option.some.injEq]at hv
        rw[←hv];exact hu
      |false=>
        simp only[hb,cond_false]at hv
        exact keeps_sub hr t v hv
    · cases h
theorem Fits.keeps{n:Nat}{env env1:Env}{a:Act}(h:Fits n env a){ts:List Nat}(hk:keeps env ts=some env1):Fits n env1 a:=
  ⟨h.defers,h.size,fun t v hv=>h.val t v (keeps_sub hk t v hv)⟩
structure Frag where
  b:Nat
  o:Nat
  cs:List Value
abbrev Frags:=List Frag
def cellAt(K:Nat→Option Obj)(b o:Nat):Option Value:=
  match K b with
  |some (.cells c _ _)=>c[o]?
  |_=>none
structure Frag.ok(f:Frag)(H:Array Obj):Prop where
  row:∃c t fr,H[f.b]? =some (.cells c t fr)∧(∀j (h:j<f.cs.length),c[f.o+j]? =some f.cs[j])∧
    ∀j,j<f.cs.length→(decide (fr.1≤f.o+j)&&decide (f.o+j<fr.2))=false
def Frag.has(f:Frag)(b j:Nat):Prop:=f.b=b∧f.o≤j∧j<f.o+f.cs.length
def Gb(L:Frags)(b j:Nat):Prop:=∃f∈L,f.has b j
def Disj(f g:Frag):Prop:=∀b j,f.has b j→g.has b j→False
abbrev Known:=Nat→Option Obj
def Known.sits(K:Known)(H:Array Obj):Prop:=∀b o,K b=some o→H[b]? =some o
structure Agree(H0:Known)(L:Frags)(H:Array Obj):Prop where
  base:H0.sits H
  up:∀f∈L,H0 f.b=none
  ok:∀f∈L,f.ok H
  dis:L.Pairwise Disj
structure To(H0:Known)(w:World)(L:Frags)(w':World)(L':Frags):Prop where
  st:Agree H0 L' w'.heap
  size:w.heap.size≤w'.heap.size
  old:∀b,b<w.heap.size→(∀f∈L,f.b≠b)→w'.heap[b]? =w.heap[b]?
  cells:∀b c t fr,w.heap[b]? =some (.cells c t fr)→∃c',w'.heap[b]? =some (.cells c' t fr)∧c'.size=c.size∧∀j,¬Gb L b j→c'[j]? =c[j]?
  foot:∀f∈L',w.heap.size≤f.b∨((∃g∈L,g.b=f.b)∧∀j,f.has f.b j→Gb L f.b j)
  os:w'.os=w.os
  tape:w'.tape=w.tape
  output:w'.output=w.output
theorem Dv{α:Type}{H:Array α}{b:Nat}{x:α}(h:H[b]? =some x):b<H.size:=by
  rcases Nat.lt_or_ge b H.size with h'|h'
  · exact h'
  · rw[Array.getElem?_eq_none h']at h;cases h
theorem Frag.ok.lt{f:Frag}{H:Array Obj}(h:f.ok H):f.b<H.size:=by
  obtain⟨c,t,fr,hb,_⟩:=h.row
  exact Dv hb
theorem To.refl{H0:Known}{w:World}{L:Frags}(h:Agree H0 L w.heap):To H0 w L w L:=
  ⟨h,Nat.le_refl _,fun _ _ _=>rfl,fun b c t fr hb=>⟨c,hb,rfl,fun _ _=>rfl⟩,fun f hf=>.inr ⟨⟨f,hf,rfl⟩,fun j hj=>⟨f,hf,hj⟩⟩,rfl,rfl,rfl⟩
theorem To.trans{H0:Known}{w1 w2 w3:World}{L1 L2 L3:Frags}(h:To H0 w1 L1 w2 L2)(k:To H0 w2 L2 w3 L3):To H0 w1 L1 w3 L3:=by
  have notin:∀b,b<w1.heap.size→(∀f∈L1,f.b≠b)→∀f∈L2,f.b≠b:=by
    intro b hb hn f hf he
    rcases h.foot f hf with h1|⟨⟨g,hg,hgb⟩,_⟩
    · omega
    · exact hn g hg (by omega)
  have notcov:∀b j,b<w1.heap.size→¬Gb L1 b j→¬Gb L2 b j:=by
    rintro b j hb hn⟨f,hf,hfb,hlo,hhi⟩
    rcases h.foot f hf with h1|⟨_,h2⟩
    · omega
    · have:=h2 j ⟨rfl,hlo,hhi⟩
      rw[hfb]at this
      exact hn this
  refine⟨k.st,Nat.le_trans h.size k.size,fun b hb hn=>?_,fun b c t fr hb=>?_,fun f hf=>?_,k.os.trans h.os,k.tape.trans h.tape,k.output.trans h.output⟩
  · rw[k.old b (Nat.lt_of_lt_of_le hb h.size) (notin b hb hn)]
    exact h.old b hb hn
  · obtain⟨c',hc',hs',hj'⟩:=h.cells b c t fr hb
    obtain⟨c'',hc'',hs'',hj''⟩:=k.cells b c' t fr hc'
    exact⟨c'',hc'',hs''.trans hs',fun j hj=>(hj'' j (notcov b j (Dv hb) hj)).trans (hj' j hj)⟩
  · by_cases hb:w1.heap.size≤f.b
    · exact .inl hb
    · rcases k.foot f hf with h1|⟨⟨g,hg,hgb⟩,hc⟩
      · exact .inl (Nat.le_trans h.size h1)
      · refine .inr ⟨?_,fun j hj=>?_⟩
        · rcases h.foot g hg with h1|⟨h2,_⟩
          · omega
          · obtain⟨x,hx,hxb⟩:=h2
            exact⟨x,hx,by omega⟩
        · rcases Classical.em (Gb L1 f.b j)with h3|h3
          · exact h3
          · exact absurd (hc j hj) (notcov f.b j (by omega) h3)
theorem Agree.frame{H0:Known}{w w':World}{L L' F:Frags}(h:Agree H0 (L++F) w.heap)(k:To H0 w L w' L'):Agree H0 (L'++F) w'.heap:=by
  have hd:=List.pairwise_append.1 h.dis
  have okF:∀f∈F,f.ok w'.heap:=by
    intro f hf
    obtain⟨c,t,fr,hb,hv,hz⟩:=(h.ok f (List.mem_append_right _ hf)).row
    obtain⟨c',hc',hs,hj⟩:=k.cells f.b c t fr hb
    refine⟨c',t,fr,hc',fun j hjl=>?_,hz⟩
    rw[hj (f.o+j) ?_]
    · exact hv j hjl
    · rintro⟨g,hg,hgh⟩
      exact hd.2.2 g hg f hf f.b (f.o+j) hgh ⟨rfl,by omega,by omega⟩
  refine⟨k.st.base,fun f hf=>?_,fun f hf=>?_,?_⟩
  · rcases List.mem_append.1 hf with h1|h1
    · exact k.st.up f h1
    · exact h.up f (List.mem_append_right _ h1)
  · rcases List.mem_append.1 hf with h1|h1
    · exact k.st.ok f h1
    · exact okF f h1
  · refine List.pairwise_append.2 ⟨k.st.dis,hd.2.1,fun f hf g hg b j hfh hgh=>?_⟩
    rcases k.foot f hf with h1|⟨_,h2⟩
    · have:=(h.ok g (List.mem_append_right _ hg)).lt
      have e1:=hfh.1
      have e2:=hgh.1
      omega
    · have hb:=hfh.1
      subst hb
      obtain⟨x,hx,hxh⟩:=h2 j hfh
      exact hd.2.2 x hx g hg f.b j hxh hgh
theorem Gb.left{L F:Frags}{b j:Nat}(h:Gb L b j):Gb (L++F) b j:=by
  obtain⟨f,hf,hh⟩:=h
  exact⟨f,List.mem_append_left _ hf,hh⟩
theorem To.frame{H0:Known}{w w':World}{L L' F:Frags}(h:Agree H0 (L++F) w.heap)(k:To H0 w L w' L'):To H0 w (L++F) w' (L'++F):=by
  refine⟨h.frame k,k.size,fun b hb hn=>k.old b hb fun f hf=>hn f (List.mem_append_left _ hf),fun b c t fr hb=>?_,fun f hf=>?_,k.os,k.tape,k.output⟩
  · obtain⟨c',hc',hs,hj⟩:=k.cells b c t fr hb
    exact⟨c',hc',hs,fun j hn=>hj j fun hc=>hn hc.left⟩
  · rcases List.mem_append.1 hf with h1|h1
    · rcases k.foot f h1 with h2|⟨⟨g,hg,hgb⟩,h3⟩
      · exact .inl h2
      · exact .inr ⟨⟨g,List.mem_append_left _ hg,hgb⟩,fun j hj=>(h3 j hj).left⟩
    · exact .inr ⟨⟨f,List.mem_append_right _ h1,rfl⟩,fun j hj=>⟨f,List.mem_append_right _ h1,hj⟩⟩
theorem Disj.symm{f g:Frag}(h:Disj f g):Disj g f:=fun b j hg hf=>h b j hf hg
theorem Agree.perm{H0:Known}{L L':Frags}{H:Array Obj}(h:Agree H0 L H)(p:L.Perm L'):Agree H0 L' H:=
  ⟨h.base,fun f hf=>h.up f (p.mem_iff.2 hf),fun f hf=>h.ok f (p.mem_iff.2 hf),p.pairwise h.dis fun h=>h.symm⟩
theorem Gb.perm{L L':Frags}(p:L.Perm L'){b j:Nat}(h:Gb L b j):Gb L' b j:=by
  obtain⟨f,hf,hh⟩:=h
  exact⟨f,p.mem_iff.1 hf,hh⟩
theorem To.permL{H0:Known}{w w':World}{L L2 L':Frags}(p:L.Perm L2)(k:To H0 w L2 w' L'):To H0 w L w' L':=by
  refine⟨k.st,k.size,fun b hb hn=>k.old b hb fun f hf=>hn f (p.mem_iff.2 hf),fun b c t fr hb=>?_,fun f hf=>?_,k.os,k.tape,k.output⟩
  · obtain⟨c',hc',hs,hj⟩:=k.cells b c t fr hb
    exact⟨c',hc',hs,fun j hn=>hj j fun hc=>hn (hc.perm p.symm)⟩
  · rcases k.foot f hf with h2|⟨⟨g,hg,hgb⟩,h3⟩
    · exact .inl h2
    · exact .inr ⟨⟨g,p.mem_iff.2 hg,hgb⟩,fun j hj=>(h3 j hj).perm p.symm⟩
theorem To.permR{H0:Known}{w w':World}{L L2 L':Frags}(p:L'.Perm L2)(k:To H0 w L w' L'):To H0 w L w' L2:=
  ⟨k.st.perm p,k.size,k.old,k.cells,fun f hf=>k.foot f (p.mem_iff.2 hf),k.os,k.tape,k.output⟩
theorem Agree.drop{H0:Known}{L F:Frags}{H:Array Obj}(h:Agree H0 (L++F) H):Agree H0 L H:=
  ⟨h.base,fun f hf=>h.up f (List.mem_append_left _ hf),fun f hf=>h.ok f (List.mem_append_left _ hf),(List.pairwise_append.1 h.dis).1⟩
theorem To.drop{H0:Known}{w w':World}{L L' F:Frags}(k:To H0 w L w' (L'++F)):To H0 w L w' L':=
  ⟨k.st.drop,k.size,k.old,k.cells,fun f hf=>k.foot f (List.mem_append_left _ hf),k.os,k.tape,k.output⟩
def pull:Frags→Nat→Option (Frag×Frags)
  | [],_=>none
  |x::r,0=>some (x,r)
  |x::r,i+1=>match pull r i with
    |some (y,r')=>some (y,x::r')
    |none=>none
theorem pull_perm:∀{L:Frags} {i:Nat} {x:Frag} {r:Frags},pull L i=some (x,r)→L.Perm (x::r)
  | [],_,_,_,h=>by cases h
  |y::L,0,x,r,h=>by
    simp only[pull,Option.some.injEq,Prod.mk.injEq]at h
    obtain⟨rfl,rfl⟩:=h
    exact .refl _
  |y::L,i+1,x,r,h=>by
    simp only[pull]at h
    split at h
    · rename_i z r' hz
      simp only[Option.some.injEq,Prod.mk.injEq]at h
      obtain⟨rfl,rfl⟩:=h
      exact((pull_perm hz).cons y).trans (.swap _ _ _)
    · cases h
section
variable (P:Program)(H0:Known)(n:Nat)
def exop(ρ:Operand→Value)(op:Op)(ty:TypeId):Sem Next:=execOp ρ ⟨none,op,ty,"",#[],none⟩
theorem execOp_exop(ρ:Operand→Value)(o:Oper):execOp ρ o=exop ρ o.op o.type:=rfl
def OpS(op:Op)(ty:TypeId)(env:Env)(L:Frags)(v:Value):Prop:=
  ∀a w,Fits n env a→Agree H0 L w.heap→(exop a.eval op ty).run P w=.ok (.value v) w
def OpP(op:Op)(ty:TypeId)(env:Env)(v:Value):Prop:=
  ∀a w,Fits n env a→(exop a.eval op ty).run P w=.ok (.value v) w
def Out(w:World)(L:Frags)(R:Value→Frags→Prop):Result Next→Prop
  |.ok (.value v) w'=>∃L',R v L'∧To H0 w L w' L'
  |.ok .skip w'=>∃L',R undef L'∧To H0 w L w' L'
  |.ok (.enter f args) w'=>Calls P f args w' fun e w''=>∃v L',e=.returned v∧R v L'∧To H0 w L w'' L'
  |_=>False
def OpX(op:Op)(ty:TypeId)(env:Env)(L:Frags)(R:Value→Frags→Prop):Prop:=
  ∀a w,Fits n env a→Agree H0 L w.heap→Out P H0 w L R ((exop a.eval op ty).run P w)
def Fn(f:FuncId)(args:Array Value)(L:Frags)(R:Value→Frags→Prop):Prop:=
  ∀w,Agree H0 L w.heap→Calls P f args w fun e w'=>∃v L',e=.returned v∧R v L'∧To H0 w L w' L'
abbrev Post:=Env→Frags→Prop
def look:List (Nat×Post)→Nat→Option Post
  | [],_=>none
  |p::r,t=>bif Nat.beq p.1 t then some p.2 else look r t
structure Sat(w:World)(L:Frags)(N:Post)(X:List (Nat×Post))(R:Post)(Q:Exit→Act→World→Prop):Prop where
  normal:∀env' L' a' w',N env' L'→Fits n env' a'→To H0 w L w' L'→Q .normal a' w'
  exit:∀id K,look X (2*id)=some K→∀env' L' a' w',K env' L'→Fits n env' a'→To H0 w L w' L'→Q (.exit id) a' w'
  goto:∀l K,look X (2*l+1)=some K→∀env' L' a' w',K env' L'→Fits n env' a'→To H0 w L w' L'→Q (.goto l) a' w'
  ret:∀env' L' a' w',R env' L'→Fits n env' a'→To H0 w L w' L'→Q .ret a' w'
def wpC(c:Code)(env:Env)(L:Frags)(N:Post)(X:List (Nat×Post))(R:Post):Prop:=
  ∀a w,Fits n env a→Agree H0 L w.heap→∀Q,Sat H0 n w L N X R Q→c.wp P Q a w
def wpE(ops:Array Oper)(l:List Oper)(env:Env)(L:Frags)(N:Post):Prop:=
  ∀a w,Fits n env a→Agree H0 L w.heap→∀Q:Exit→Act→World→Prop,
    (∀env' L' a' w',N env' L'→Fits n env' a'→To H0 w L w' L'→Q .normal a' w')→wpList P ops Q l a w
end
section
variable {P:Program}{H0:Known}{n:Nat}
theorem Sat.after{w w1:World}{L L1:Frags}{N X R Q}(s:Sat H0 n w L N X R Q)(t:To H0 w L w1 L1):Sat H0 n w1 L1 N X R Q:=
  ⟨fun e l a w' h f k=>s.normal e l a w' h f (t.trans k),fun id K hk e l a w' h f k=>s.exit id K hk e l a w' h f (t.trans k),
   fun id K hk e l a w' h f k=>s.goto id K hk e l a w' h f (t.trans k),fun e l a w' h f k=>s.ret e l a w' h f (t.trans k)⟩
theorem Fn.mono{f:FuncId}{args:Array Value}{L:Frags}{R R':Value→Frags→Prop}(h:Fn P H0 f args L R)(hr:∀v L',R v L'→R' v L'):Fn P H0 f args L R':=
  fun w hw=>Calls.mono (h w hw) fun _ _ ⟨v,L',e,r,t⟩=>⟨v,L',e,hr _ _ r,t⟩
theorem Fn.frame{f:FuncId}{args:Array Value}{L F:Frags}{R:Value→Frags→Prop}(h:Fn P H0 f args L R):
    Fn P H0 f args (L++F) fun v L'=>∃L1,R v L1∧L'=L1++F:=
  fun w hw=>Calls.mono (h w hw.drop) fun _ _ ⟨v,L',e,r,t⟩=>⟨v,L'++F,e,⟨L',r,rfl⟩,To.frame hw t⟩
theorem Fn.perm{f:FuncId}{args:Array Value}{L L2:Frags}{R:Value→Frags→Prop}(p:L.Perm L2)(h:Fn P H0 f args L2 R):Fn P H0 f args L R:=
  fun w hw=>Calls.mono (h w (hw.perm p)) fun _ _ ⟨v,L',e,r,t⟩=>⟨v,L',e,r,t.permL p⟩
theorem OpX.frame{op:Op}{ty:TypeId}{env:Env}{L F:Frags}{R:Value→Frags→Prop}(h:OpX P H0 n op ty env L R):
    OpX P H0 n op ty env (L++F) fun v L'=>∃L1,R v L1∧L'=L1++F:=by
  intro a w hf hw
  have:=h a w hf hw.drop
  revert this
  generalize (exop a.eval op ty).run P w=r
  intro h
  cases r with
  |ok x w'=>
    cases x<;>simp only[Out]at h⊢
    case value v=>obtain⟨L',r,t⟩:=h;exact⟨_,⟨L',r,rfl⟩,To.frame hw t⟩
    case skip=>obtain⟨L',r,t⟩:=h;exact⟨_,⟨L',r,rfl⟩,To.frame hw t⟩
    case enter f args=>exact Calls.mono h fun _ _ ⟨v,L',e,r,t⟩=>⟨v,_,e,⟨L',r,rfl⟩,To.frame hw t⟩
  |halt x w'=>exact h
theorem OpX.perm{op:Op}{ty:TypeId}{env:Env}{L L2:Frags}{R:Value→Frags→Prop}(p:L.Perm L2)(h:OpX P H0 n op ty env L2 R):OpX P H0 n op ty env L R:=by
  intro a w hf hw
  have:=h a w hf (hw.perm p)
  revert this
  generalize (exop a.eval op ty).run P w=r
  intro h
  cases r with
  |ok x w'=>
    cases x<;>simp only[Out]at h⊢
    case value v=>obtain⟨L',r,t⟩:=h;exact⟨L',r,t.permL p⟩
    case skip=>obtain⟨L',r,t⟩:=h;exact⟨L',r,t.permL p⟩
    case enter f args=>exact Calls.mono h fun _ _ ⟨v,L',e,r,t⟩=>⟨v,L',e,r,t.permL p⟩
  |halt x w'=>exact h
theorem Av{c:Code}{env env1:Env}{L:Frags}{N X R}(ts:List Nat)(hk:keeps env ts=some env1)(h:wpC P H0 n c env1 L N X R):wpC P H0 n c env L N X R:=
  fun a w hf hw Q s=>h a w (hf.keeps hk) hw Q s
theorem C.mono{c:Code}{env:Env}{L:Frags}{N N' X R}(hn:∀e l,N e l→N' e l)(h:wpC P H0 n c env L N X R):wpC P H0 n c env L N' X R:=
  fun a w hf hw Q s=>h a w hf hw Q ⟨fun e l a w h=>s.normal e l a w (hn e l h),s.exit,s.goto,s.ret⟩
theorem C.perm{c:Code}{env:Env}{L L2:Frags}{N X R}(p:L.Perm L2)(h:wpC P H0 n c env L2 N X R):wpC P H0 n c env L N X R:=by
  intro a w hf hw Q s
  refine h a w hf (hw.perm p) Q ⟨fun e l a w h f k=>s.normal e l a w h f (k.permL p),fun id K hk e l a w h f k=>s.exit id K hk e l a w h f (k.permL p),
    fun id K hk e l a w h f k=>s.goto id K hk e l a w h f (k.permL p),fun e l a w h f k=>s.ret e l a w h f (k.permL p)⟩
theorem Am{x y:Code}{env:Env}{L:Frags}{N X R}(h:wpC P H0 n x env L (fun e l=>wpC P H0 n y e l N X R) X R):wpC P H0 n (.seq x y) env L N X R:=by
  intro a w hf hw Q s
  refine wp_seq (h a w hf hw _ ⟨fun e l a' w' hk f k=>?_,s.exit,s.goto,s.ret⟩)
  exact hk a' w' f k.st Q (s.after k)
theorem Ap{env:Env}{L:Frags}{N:Post}{X R}(h:N env L):wpC P H0 n .skip env L N X R:=
  fun a w hf hw Q s=>wp_skip (s.normal env L a w h hf (To.refl hw))
theorem Bb{env:Env}{L:Frags}{N X}{R:Post}(h:R env L):wpC P H0 n .ret env L N X R:=
  fun a w hf hw Q s=>wp_ret (s.ret env L a w h hf (To.refl hw))
theorem Bu{id:Nat}{env:Env}{L:Frags}{N X R}{K:Post}(hk:look X (2*id)=some K)(h:K env L):wpC P H0 n (.exit id) env L N X R:=
  fun a w hf hw Q s=>wp_exit (s.exit id K hk env L a w h hf (To.refl hw))
theorem C.goto{l:Nat}{env:Env}{L:Frags}{N X R}{K:Post}(hk:look X (2*l+1)=some K)(h:K env L):wpC P H0 n (.goto l) env L N X R:=
  fun a w hf hw Q s=>wp_goto (s.goto l K hk env L a w h hf (To.refl hw))
theorem As{id:Nat}{c:Code}{env:Env}{L:Frags}{N X R}(h:wpC P H0 n c env L N ((2*id,N)::X) R):wpC P H0 n (.block id c) env L N X R:=by
  intro a w hf hw Q s
  refine wp_block (h a w hf hw _ ⟨s.normal,fun i K hk e l a' w' hK f k=>?_,fun i K hk e l a' w' hK f k=>?_,s.ret⟩)
  · simp only[look]at hk
    cases hb:Nat.beq (2*id) (2*i)with
    |true=>
      have:i=id:=by have:=Nat.eq_of_beq_eq_true hb;omega
      simp only[hb,cond_true,Option.some.injEq]at hk
      subst hk
      simp only[Exit.inBlock,this,if_true]
      exact s.normal e l a' w' hK f k
    |false=>
      have:i≠id:=by have:=Nat.ne_of_beq_eq_false hb;omega
      simp only[hb,cond_false]at hk
      simp only[Exit.inBlock,this,if_false]
      exact s.exit i K hk e l a' w' hK f k
  · simp only[look]at hk
    have hb:Nat.beq (2*id) (2*i+1)=false:=by
      cases hb:Nat.beq (2*id) (2*i+1)with
      |false=>rfl
      |true=>have:=Nat.eq_of_beq_eq_true hb;omega
    simp only[hb,cond_false]at hk
    exact s.goto i K hk e l a' w' hK f k
theorem Eg{c:Operand}{x y:Code}{env:Env}{L:Frags}{N X R}{b:Bool}(hc:ev? env c=some (.bool b))
    (ht:b=true→wpC P H0 n x env L N X R)(he:b=false→wpC P H0 n y env L N X R):wpC P H0 n (.cond c x y) env L N X R:=by
  intro a w hf hw Q s
  refine wp_cond_split (hf.eval hc) (fun h=>ht h a w hf hw Q s) (fun h=>he h a w hf hw Q s)
theorem Bf{c:Operand}{x y:Code}{env:Env}{L:Frags}{N X R}{p:Prop}{_:Decidable p}(hc:ev? env c=some (.bool (decide p)))
    (ht:p→wpC P H0 n x env L N X R)(he:¬p→wpC P H0 n y env L N X R):wpC P H0 n (.cond c x y) env L N X R:=
  Eg hc (fun h=>ht (of_decide_eq_true h)) (fun h=>he (of_decide_eq_false h))
theorem He{c:Operand}{x y:Code}{env:Env}{L:Frags}{N X R}{b:Bool}(hc:ev? env c=some (.bool b))(hb:b=true)
    (ht:wpC P H0 n x env L N X R):wpC P H0 n (.cond c x y) env L N X R:=
  Eg hc (fun _=>ht) (fun h=>by rw[hb]at h;cases h)
theorem C.no{c:Operand}{x y:Code}{env:Env}{L:Frags}{N X R}{b:Bool}(hc:ev? env c=some (.bool b))(hb:b=false)
    (he:wpC P H0 n y env L N X R):wpC P H0 n (.cond c x y) env L N X R:=
  Eg hc (fun h=>by rw[hb]at h;cases h) (fun _=>he)
theorem Bw{c:Code}{env:Env}{L:Frags}{N X R}(I:Nat→Post)(m:Nat)(h0:I m env L)
    (round:∀m env L,I m env L→wpC P H0 n c env L (fun e l=>∃m',m'<m∧I m' e l) X R):wpC P H0 n (.loop c) env L N X R:=by
  intro a w hf hw Q s
  refine wp_loop_ghost (fun k a' w'=>∃env' L',I k env' L'∧Fits n env' a'∧To H0 w L w' L') m ⟨env,L,h0,hf,To.refl hw⟩ ?_
  rintro k a' w'⟨env',L',hI,f,t⟩
  refine round k env' L' hI a' w' f t.st _ ⟨fun e l a2 w2 ⟨m',hm,hI'⟩ f2 t2=>⟨m',hm,e,l,hI',f2,t.trans t2⟩,fun i K hk e l a2 w2 hK f2 t2=>s.exit i K hk e l a2 w2 hK f2 (t.trans t2),
        fun i K hk e l a2 w2 hK f2 t2=>s.goto i K hk e l a2 w2 hK f2 (t.trans t2),fun e l a2 w2 hK f2 t2=>s.ret e l a2 w2 hK f2 (t.trans t2)⟩
def jumps(J:Nat→Act→World→Prop)(Q:Exit→Act→World→Prop):Exit→Act→World→Prop
  |.goto l,a,w=>J l a w
  |e,a,w=>Q e a w
theorem wp_scope_labels{c:Code}{Q:Exit→Act→World→Prop}{a:Act}{w:World}(J:Nat→Nat→Act→World→Prop)
    (first:c.wp P (jumps (fun l a' w'=>∃m,J l m a' w') Q) a w)
    (pass:∀l m a w,J l m a w→∃rest,findLabel c l=some rest∧rest.wp P (jumps (fun l' a' w'=>∃m',m'<m∧J l' m' a' w') Q) a w):(Code.scope c).wp P Q a w:=by
  intro b k cs
  have key:∀m l a w,J l m a w→∃rest,findLabel c l=some rest∧∃e a' w',Q e a' w'∧Arrives P (lone (b.at a (.code rest::.inScope c::k)) cs w) b k cs e a' w':=by
    intro m
    induction m using Nat.strongRecOn with
    |_ m ih=>
      intro l a w hJ
      obtain⟨rest,hf,hp⟩:=pass l m a w hJ
      refine⟨rest,hf,?_⟩
      obtain⟨e,a₁,w₁,hq,harr⟩:=hp b (.inScope c::k) cs
      cases e with
      |normal=>exact⟨.normal,a₁,w₁,hq,Steps.trans harr (.one step_inScope)⟩
      |exit id=>exact⟨.exit id,a₁,w₁,hq,fun k' hk=>harr k' (by simp[exitTo,hk])⟩
      |goto l'=>
        obtain⟨m',hlt,hJ'⟩:=hq
        obtain⟨rest',hf',e₂,a₂,w₂,hq₂,harr₂⟩:=ih m' hlt l' a₁ w₁ hJ'
        have hg:gotoIn l' (.inScope c::k)=some (.code rest'::.inScope c::k):=by simp[gotoIn,hf']
        exact⟨e₂,a₂,w₂,hq₂,.of_steps (harr _ hg) harr₂⟩
      |ret=>exact⟨_,a₁,w₁,hq,harr⟩
      |panic ch=>exact⟨_,a₁,w₁,hq,harr⟩
      |outgrown=>exact⟨_,a₁,w₁,hq,harr⟩
  obtain⟨e,a₁,w₁,hq,harr⟩:=first b (.inScope c::k) cs
  cases e with
  |normal=>exact⟨.normal,a₁,w₁,hq,.head step_scope (Steps.trans harr (.one step_inScope))⟩
  |exit id=>exact⟨.exit id,a₁,w₁,hq,fun k' hk=>.head step_scope (harr k' (by simp[exitTo,hk]))⟩
  |goto l'=>
    obtain⟨m,hJ'⟩:=hq
    obtain⟨rest',hf',e₂,a₂,w₂,hq₂,harr₂⟩:=key m l' a₁ w₁ hJ'
    have hg:gotoIn l' (.inScope c::k)=some (.code rest'::.inScope c::k):=by simp[gotoIn,hf']
    exact⟨e₂,a₂,w₂,hq₂,.of_steps (.head step_scope (harr _ hg)) harr₂⟩
  |ret=>exact⟨_,a₁,w₁,hq,.of_steps (.one step_scope) harr⟩
  |panic ch=>exact⟨_,a₁,w₁,hq,.of_steps (.one step_scope) harr⟩
  |outgrown=>exact⟨_,a₁,w₁,hq,.of_steps (.one step_scope) harr⟩
theorem C.scope{c:Code}{env:Env}{L:Frags}{N X R}(l1 l2:Nat)(J:Nat→Nat→Post)
    (first:wpC P H0 n c env L N ((2*l1+1,fun e l=>∃m,J l1 m e l)::(2*l2+1,fun e l=>∃m,J l2 m e l)::X) R)
    (pass:∀l m env L,(l=l1∨l=l2)→J l m env L→∃rest,findLabel c l=some rest∧
      wpC P H0 n rest env L N ((2*l1+1,fun e l=>∃m',m'<m∧J l1 m' e l)::(2*l2+1,fun e l=>∃m',m'<m∧J l2 m' e l)::X) R)
    (hX:∀i,look X (2*i+1)=none):wpC P H0 n (.scope c) env L N X R:=by
  intro a w hf hw Q s
  refine wp_scope_labels (fun l m a' w'=>(l=l1∨l=l2)∧∃env' L',J l m env' L'∧Fits n env' a'∧To H0 w L w' L') ?_ ?_
  · refine first a w hf hw _ ⟨s.normal,fun i K hk=>?_,fun i K hk e l a' w' hK f t=>?_,s.ret⟩
    · have e1:Nat.beq (2*l1+1) (2*i)=false:=by
        cases hb:Nat.beq (2*l1+1) (2*i)with
        |false=>rfl
        |true=>have:=Nat.eq_of_beq_eq_true hb;omega
      have e2:Nat.beq (2*l2+1) (2*i)=false:=by
        cases hb:Nat.beq (2*l2+1) (2*i)with
        |false=>rfl
        |true=>have:=Nat.eq_of_beq_eq_true hb;omega
      simp only[look,e1,e2,cond_false]at hk
      exact s.exit i K hk
    · simp only[look,hX]at hk
      simp only[jumps]
      cases hb:Nat.beq (2*l1+1) (2*i+1)with
      |true=>
        have:i=l1:=by have:=Nat.eq_of_beq_eq_true hb;omega
        simp only[hb,cond_true,Option.some.injEq]at hk
        subst hk
        obtain⟨m,hm⟩:=hK
        exact⟨m,.inl this,e,l,by rw[this];exact hm,f,t⟩
      |false=>
        simp only[hb,cond_false]at hk
        cases hb2:Nat.beq (2*l2+1) (2*i+1)with
        |true=>
          have:i=l2:=by have:=Nat.eq_of_beq_eq_true hb2;omega
          simp only[hb2,cond_true,Option.some.injEq]at hk
          subst hk
          obtain⟨m,hm⟩:=hK
          exact⟨m,.inr this,e,l,by rw[this];exact hm,f,t⟩
        |false=>simp only[hb2,cond_false]at hk;cases hk
  · rintro l m a' w'⟨hl,env',L',hJ,f,t⟩
    obtain⟨rest,hr,hp⟩:=pass l m env' L' hl hJ
    refine⟨rest,hr,hp a' w' f t.st _ ⟨fun e l a2 w2 h f2 t2=>s.normal e l a2 w2 h f2 (t.trans t2),fun i K hk e l a2 w2 hK f2 t2=>?_,fun i K hk e l a2 w2 hK f2 t2=>?_,
      fun e l a2 w2 hK f2 t2=>s.ret e l a2 w2 hK f2 (t.trans t2)⟩⟩
    · have e1:Nat.beq (2*l1+1) (2*i)=false:=by
        cases hb:Nat.beq (2*l1+1) (2*i)with
        |false=>rfl
        |true=>have:=Nat.eq_of_beq_eq_true hb;omega
      have e2:Nat.beq (2*l2+1) (2*i)=false:=by
        cases hb:Nat.beq (2*l2+1) (2*i)with
        |false=>rfl
        |true=>have:=Nat.eq_of_beq_eq_true hb;omega
      simp only[look,e1,e2,cond_false]at hk
      exact s.exit i K hk e l a2 w2 hK f2 (t.trans t2)
    · simp only[look,hX]at hk
      simp only[jumps]
      cases hb:Nat.beq (2*l1+1) (2*i+1)with
      |true=>
        have:i=l1:=by have:=Nat.eq_of_beq_eq_true hb;omega
        simp only[hb,cond_true,Option.some.injEq]at hk
        subst hk
        obtain⟨m',hm,hm'⟩:=hK
        exact⟨m',hm,.inl this,e,l,by rw[this];exact hm',f2,t.trans t2⟩
      |false=>
        simp only[hb,cond_false]at hk
        cases hb2:Nat.beq (2*l2+1) (2*i+1)with
        |true=>
          have:i=l2:=by have:=Nat.eq_of_beq_eq_true hb2;omega
          simp only[hb2,cond_true,Option.some.injEq]at hk
          subst hk
          obtain⟨m',hm,hm'⟩:=hK
          exact⟨m',hm,.inr this,e,l,by rw[this];exact hm',f2,t.trans t2⟩
        |false=>simp only[hb2,cond_false]at hk;cases hk
theorem Al{id:Nat}{l:List Oper}{env:Env}{L:Frags}{N X R}(h:wpE P H0 n l.toArray l env L N):wpC P H0 n (.region id l.toArray false) env L N X R:=
  fun a w hf hw _ s=>wp_region_lit (h a w hf hw _ s.normal)
theorem Fz{ops:Array Oper}{env env1:Env}{L:Frags}{N:Post}(ts:List Nat)(hk:keeps env ts=some env1)(h:N env1 L):wpE P H0 n ops [] env L N:=
  fun _ w hf hw _ k=>k env1 L _ w h (hf.keeps hk) (To.refl hw)
theorem E.perm{ops:Array Oper}{l:List Oper}{env:Env}{L L2:Frags}{N:Post}(p:L.Perm L2)(h:wpE P H0 n ops l env L2 N):wpE P H0 n ops l env L N:=
  fun a w hf hw Q k=>h a w hf (hw.perm p) Q fun e l a w h f t=>k e l a w h f (t.permL p)
theorem Ax{ops:Array Oper}{l:List Oper}{env:Env}{L L2:Frags}{N:Post}(p:L=L2)(h:wpE P H0 n ops l env L2 N):wpE P H0 n ops l env L N:=p▸h
theorem Ag{ops:Array Oper}{d:Nat}{op:Op}{ty:TypeId}{pos:String}{af:Array Edge}{rest:List Oper}{env:Env}{L:Frags}{N:Post}{v:Value}
    (h:OpS P H0 n op ty env L v)(hd:Nat.blt d n=true)(k:wpE P H0 n ops rest ((d,v)::env) L N):
    wpE P H0 n ops (⟨some d,op,ty,pos,af,none⟩::rest) env L N:=by
  intro a w hf hw Q hq
  have hd':d<n:=by rw[Nat.blt_eq]at hd;exact hd
  have h1:=h a w hf hw
  simp only[wpList,Region.wanted,if_true]
  refine .inl ?_
  simp only[Oper.wp,execOp_exop,h1,Oper.upon]
  exact k _ _ (hf.put hd' v) hw Q hq
theorem Aa{ops:Array Oper}{d:Nat}{op:Op}{ty:TypeId}{pos:String}{af:Array Edge}{rest:List Oper}{env:Env}{L:Frags}{N:Post}{v:Value}
    (h:OpP P n op ty env v)(hd:Nat.blt d n=true)(k:wpE P H0 n ops rest ((d,v)::env) L N):
    wpE P H0 n ops (⟨some d,op,ty,pos,af,none⟩::rest) env L N:=
  Ag (fun a w hf _=>h a w hf) hd k
def ext(dst:Option Nat)(v:Value)(env:Env):Env:=match dst with|some d=>(d,v)::env|none=>env
def dstOk(dst:Option Nat)(n:Nat):Bool:=match dst with|some d=>Nat.blt d n|none=>true
theorem Fits.ext{env:Env}{a:Act}(h:Fits n env a){dst:Option Nat}(hd:dstOk dst n=true)(v:Value):Fits n (ext dst v env) (a.put dst v):=by
  cases dst with
  |none=>exact h
  |some d=>exact h.put (by simpa[dstOk,Nat.blt_eq]using hd) v
theorem upon_of_out{o:Oper}{a:Act}{w:World}{env:Env}{L:Frags}{R:Value→Frags→Prop}(hf:Fits n env a)(hd:dstOk o.dst n=true){next:Act→World→Prop}{Q:Exit→Act→World→Prop}
    (k:∀v L' w',R v L'→To H0 w L w' L'→next (a.put o.dst v) w'):∀{r:Result Next},Out P H0 w L R r→o.upon P a next Q r
  |.ok (.value v) w',h=>by obtain⟨L',r,t⟩:=h;exact k _ _ _ r t
  |.ok .skip w',h=>by obtain⟨L',r,t⟩:=h;exact k _ _ _ r t
  |.ok (.enter f args) w',h=>by
    simp only[Oper.upon]
    refine Calls.mono h ?_
    rintro e w''⟨v,L',rfl,r,t⟩
    exact k _ _ _ r t
theorem E.loud{ops:Array Oper}{dst:Option Nat}{op:Op}{ty:TypeId}{pos:String}{af:Array Edge}{rest:List Oper}{env:Env}{L:Frags}{N:Post}{R:Value→Frags→Prop}
    (h:OpX P H0 n op ty env L R)(hd:dstOk dst n=true)(k:∀v L',R v L'→wpE P H0 n ops rest (ext dst v env) L' N):
    wpE P H0 n ops (⟨dst,op,ty,pos,af,none⟩::rest) env L N:=by
  intro a w hf hw Q hq
  have h1:=h a w hf hw
  simp only[wpList,Region.wanted,if_true]
  refine .inl ?_
  simp only[Oper.wp,execOp_exop]
  refine upon_of_out hf hd (fun v L' w' hr t=>?_) h1
  exact k v L' hr _ w' (hf.ext hd v) t.st Q fun e l a2 w2 h f t2=>hq e l a2 w2 h f (t.trans t2)
theorem Ae{ops:Array Oper}{dst:Option Nat}{op:Op}{ty:TypeId}{pos:String}{af:Array Edge}{j:Nat}{b:Bool}{rest:List Oper}{env:Env}{L:Frags}{N:Post}
    (t:Nat)(c:Bool)(ht:(ops[j]?).bind (·.dst)=some t)(hv:get? env t=some (.bool c))(hc:c= !b)(hd:dstOk dst n=true)
    (k:wpE P H0 n ops rest (ext dst undef env) L N):
    wpE P H0 n ops (⟨dst,op,ty,pos,af,some (j,b)⟩::rest) env L N:=by
  intro a w hf hw Q hq
  have hy:yielded ops a.tmps j=some c:=by
    have:=hf.val t _ hv
    unfold yielded
    rw[ht]
    simp only[Option.bind_some]
    rw[Array.getD_eq_getD_getElem?]at this
    cases hx:a.tmps[t]? with
    |none=>rw[hx]at this;simp[undef]at this
    |some x=>rw[hx]at this;simp only[Option.getD_some]at this;subst this;rfl
  have hne:(some c==some b)=false:=by subst hc;cases b<;>rfl
  simp only[wpList,Region.wanted,hy,hne,Bool.false_eq_true,if_false]
  exact k _ w (hf.ext hd undef) hw Q hq
def Ret0(R:Value→Frags→Prop):Post:=fun _ L=>R (.tuple #[]) L
def Ret1(r:Nat)(R:Value→Frags→Prop):Post:=fun env L=>∃v,get? env r=some v∧R v L
def Ret2(r s:Nat)(R:Value→Frags→Prop):Post:=fun env L=>∃u v,get? env r=some u∧get? env s=some v∧R (.tuple #[u,v]) L
theorem Fn.body{f:FuncId}{fn:Func}{c:Code}{args:Array Value}{L:Frags}{R:Value→Frags→Prop}{RR:Post}(hf:P.funcs[f]? =some fn)(hb:fn.body=some c)
    (env:Env)(hargs:args.size≤fn.ntmps)(henv:∀t v,get? env t=some v→args[t]? =some v)(hn:fn.ntmps=n)
    (hres:∀env' L' a w,RR env' L'→Fits n env' a→Agree H0 L' w.heap→∃v,(results fn a.tmps).run P w=.ok v w∧R v L')
    (h:wpC P H0 n c env L RR [] RR):Fn P H0 f args L R:=by
  intro w hw
  subst hn
  refine calls_of_wp hf hb (h _ w ⟨rfl,by simp;omega,fun t v hv=>?_⟩ hw _ ⟨fun e l a w' hr f t=>?_,fun _ _ hk=>by simp[look]at hk,fun _ _ hk=>by simp[look]at hk,fun e l a w' hr f t=>?_⟩)
  · have:=henv t v hv
    rw[Array.getD_eq_getD_getElem?,Array.getElem?_append_left (by exact Dv this),this]
    rfl
  · obtain⟨v,h1,h2⟩:=hres e l a w' hr f t.st
    exact⟨f.defers,v,h1,v,l,rfl,h2,t⟩
  · obtain⟨v,h1,h2⟩:=hres e l a w' hr f t.st
    exact⟨f.defers,v,h1,v,l,rfl,h2,t⟩
theorem res0{fn:Func}{R:Value→Frags→Prop}(hr:fn.results=#[]):∀env' L' a w,Ret0 R env' L'→Fits n env' a→Agree H0 L' w.heap→∃v,(results fn a.tmps).run P w=.ok v w∧R v L':=
  fun _ _ a w h _ _=>⟨_,results_none hr a.tmps P w,h⟩
theorem res1{fn:Func}{R:Value→Frags→Prop}{t:Nat}(hr:fn.results=#[.tmp t]):∀env' L' a w,Ret1 t R env' L'→Fits n env' a→Agree H0 L' w.heap→∃v,(results fn a.tmps).run P w=.ok v w∧R v L':=
  fun _ _ a w ⟨v,hv,h⟩ f _=>⟨v,by rw[results_tmp hr a.tmps P w,f.val t v hv],h⟩
theorem res2{fn:Func}{R:Value→Frags→Prop}{t s:Nat}(hr:fn.results=#[.tmp t,.tmp s]):∀env' L' a w,Ret2 t s R env' L'→Fits n env' a→Agree H0 L' w.heap→∃v,(results fn a.tmps).run P w=.ok v w∧R v L':=
  fun _ _ a w ⟨u,v,hu,hv,h⟩ f _=>⟨.tuple #[u,v],by rw[results_tmp2 hr a.tmps P w,f.val t u hu,f.val s v hv],h⟩
def argEnv:Nat→List Value→Env
  |_,[]=>[]
  |k,v::r=>(k,v)::argEnv (k+1) r
theorem argEnv_get:∀(l:List Value) (k t:Nat) (v:Value),get? (argEnv k l) t=some v→k≤t∧l[t-k]? =some v
  | [],k,t,v,h=>by simp[argEnv,get?]at h
  |x::r,k,t,v,h=>by
    simp only[argEnv,get?]at h
    cases hb:Nat.beq k t with
    |true=>
      have:k=t:=Nat.eq_of_beq_eq_true hb
      subst this
      simp only[hb,cond_true,Option.some.injEq]at h
      subst h
      simp
    |false=>
      have hne:k≠t:=Nat.ne_of_beq_eq_false hb
      simp only[hb,cond_false]at h
      have h2:=argEnv_get r (k+1) t v h
      refine⟨by omega,?_⟩
      have e:t-k=(t-(k+1))+1:=by omega
      rw[e,List.getElem?_cons_succ]
      exact h2.2
theorem Fn.intro{f:FuncId}{fn:Func}{c:Code}{args:List Value}{L:Frags}{R:Value→Frags→Prop}{RR:Post}(hf:P.funcs[f]? =some fn)(hb:fn.body=some c)
    (hargs:Nat.ble args.length fn.ntmps=true)(hn:fn.ntmps=n)
    (hres:∀env' L' a w,RR env' L'→Fits n env' a→Agree H0 L' w.heap→∃v,(results fn a.tmps).run P w=.ok v w∧R v L')
    (h:wpC P H0 n c (argEnv 0 args) L RR [] RR):Fn P H0 f args.toArray L R:=
  Fn.body hf hb (argEnv 0 args) (by simpa using Nat.le_of_ble_eq_true hargs) (fun t v hv=>by have:=(argEnv_get args 0 t v hv).2;simpa using this) hn hres h
end
section
variable {P:Program}{H0:Known}{n:Nat}{env:Env}{L:Frags}{ty:TypeId}
theorem Agree.at{H:Array Obj}(h:Agree H0 L H){i:Nat}{f:Frag}(hf:L[i]? =some f):f.ok H:=h.ok f (List.mem_of_getElem? hf)
theorem Gu{f:Frag}{w:World}(h:f.ok w.heap){j:Nat}{v:Value}(hj:f.cs[j]? =some v):w.cell? ⟨f.b,f.o+j,none⟩=some v:=by
  obtain⟨c,t,fr,hb,hv,_⟩:=h.row
  have hl:j<f.cs.length:=by
    rcases Nat.lt_or_ge j f.cs.length with h'|h'
    · exact h'
    · rw[List.getElem?_eq_none h']at hj;cases hj
  have h1:=hv j hl
  rw[List.getElem?_eq_getElem hl]at hj
  simp only[World.cell?,hb,h1]
  simpa using hj
theorem frozen_of_ok{f:Frag}{w:World}(h:f.ok w.heap){j:Nat}(hl:j<f.cs.length):w.frozen? ⟨f.b,f.o+j,none⟩=false:=by
  obtain⟨c,t,fr,hb,_,hz⟩:=h.row
  simp only[World.frozen?,hb]
  exact hz j hl
theorem cell_of_known{w:World}(h:H0.sits w.heap){b o:Nat}{v:Value}(hv:cellAt H0 b o=some v):w.cell? ⟨b,o,none⟩=some v:=by
  unfold cellAt at hv
  split at hv
  · rename_i c t fr hb;simp only[World.cell?,h b _ hb];simpa using hv
  · cases hv
theorem cell_of_base{w:World}(h:Agree H0 L w.heap){b o:Nat}{v:Value}(hv:cellAt H0 b o=some v):w.cell? ⟨b,o,none⟩=some v:=cell_of_known h.base hv
theorem Fp{x:Operand}{v:Value}(h:ev? env x=some v):OpP P n (.move x) ty env v:=by
  intro a w hf;simp only[exop,execOp,hf.eval h];rfl
theorem Az{x:Operand}{v:Value}(h:ev? env x=some v):OpP P n (.assign x) ty env v:=by
  intro a w hf;simp only[exop,execOp,hf.eval h];rfl
theorem Bz{c x y:Operand}{u:Value}(hc:ev? env c=some (.bool true))(hx:ev? env x=some u):OpP P n (.pick c x y) ty env u:=by
  intro a w hf;simp only[exop,execOp,hf.eval hc,hf.eval hx];rfl
theorem Bk{c x y:Operand}{v:Value}(hc:ev? env c=some (.bool false))(hy:ev? env y=some v):OpP P n (.pick c x y) ty env v:=by
  intro a w hf;simp only[exop,execOp,hf.eval hc,hf.eval hy];rfl
theorem Ad{x:Operand}{a:Addr}(h:ev? env x=some (.pointer (some a))):OpP P n (.nilCheck x) ty env (.pointer (some a)):=by
  intro a w hf;simp only[exop,execOp,hf.eval h];rfl
theorem S.nilIface{x:Operand}{t:TypeId}{v:Value}(h:ev? env x=some (.iface t v)):OpP P n (.nilCheck x) ty env (.iface t v):=by
  intro a w hf;simp only[exop,execOp,hf.eval h];rfl
theorem Bg{x:Operand}{vs:Array Value}{i:Nat}{v:Value}(h:ev? env x=some (.tuple vs))(hi:vs[i]? =some v):OpP P n (.extract x i) ty env v:=by
  intro a w hf;simp only[exop,execOp,hf.eval h]
  simp[Instr.extract,hi]
theorem Eo{x:Operand}{t:TypeId}{v:Value}(h:ev? env x=some v)(hc:P.concrete t=true):OpP P n (.makeInterface t x) ty env (.iface t v):=by
  intro a w hf;simp only[exop,execOp,hf.eval h]
  simp[run_makeInterface,hc]
theorem Gc{x:Operand}{t:TypeId}{b:Bool}(h:ev? env x=some (.bool b)):OpP P n (.unOp .not t x) ty env (.bool (!b)):=by
  intro a w hf;simp only[exop,execOp,hf.eval h];rfl
theorem Ab{x:Operand}{s:TypeId}{f:Nat}{k:Nat}{b o:Nat}(h:ev? env x=some (.pointer (some ⟨b,o,none⟩)))
    (hf:∀a w,(Instr.fieldAt s (.pointer (some a)) f).run P w=.ok (.pointer (some (a.add k))) w):
    OpP P n (.fieldAddr s x f) ty env (.pointer (some ⟨b,o+k,none⟩)):=by
  intro a w hf';simp only[exop,execOp,hf'.eval h]
  have hk:(⟨b,o,none⟩:Addr).add k=⟨b,o+k,none⟩:=by
    unfold Addr.add
    by_cases h0:k=0
    · simp[h0]
    · simp[h0]
  simp[hf,hk]
theorem run_load1{w:World}{t:TypeId}{a:Addr}{v:Value}(hag:∀w,(isAgg t).run P w=.ok false w)(hv:w.cell? a=some v):
    (Instr.loadAt t (.pointer (some a))).run P w=.ok v w:=by
  simp[Instr.loadAt,Instr.sureAddr,loadVar,hag,hv]
theorem Aj(i:Nat){x:Operand}{t:TypeId}{b o k:Nat}{cs:List Value}{v:Value}(hL:L[i]? =some ⟨b,o,cs⟩)(h:ev? env x=some (.pointer (some ⟨b,o+k,none⟩)))
    (hv:cs[k]? =some v)(hag:∀w,(isAgg t).run P w=.ok false w):OpS P H0 n (.load t x) ty env L v:=by
  intro a w hf hw
  simp only[exop,execOp,hf.eval h]
  have:=run_load1 (P:=P) hag (Gu (hw.at hL) hv)
  simp[this]
theorem Be{x:Operand}{t:TypeId}{b o:Nat}{v:Value}(h:ev? env x=some (.pointer (some ⟨b,o,none⟩)))
    (hv:cellAt H0 b o=some v)(hag:∀w,(isAgg t).run P w=.ok false w):OpS P H0 n (.load t x) ty env L v:=by
  intro a w hf hw
  simp only[exop,execOp,hf.eval h]
  have:=run_load1 (P:=P) hag (cell_of_base hw hv)
  simp[this]
theorem run_loadAgg{w:World}{t:TypeId}{b o m:Nat}{vs:List Value}(hag:∀w,(isAgg t).run P w=.ok true w)(hsz:∀w,(sizeOf t).run P w=.ok m w)
    (hlen:vs.length=m)(hv:∀j v,vs[j]? =some v→w.cell? ⟨b,o+j,none⟩=some v):
    (Instr.loadAt t (.pointer (some ⟨b,o,none⟩))).run P w=.ok (.agg vs.toArray) w:=by
  have h1:=run_loadCells_list (P:=P) w ⟨b,o,none⟩ vs (fun j v hj=>by
    have:(⟨b,o,none⟩:Addr).add j=⟨b,o+j,none⟩:=by
      unfold Addr.add
      by_cases h0:j=0<;>simp[h0]
    rw[this];exact hv j v hj)
  rw[hlen]at h1
  simp[Instr.loadAt,Instr.sureAddr,loadVar,hag,hsz,h1]
theorem De(i:Nat){x:Operand}{t:TypeId}{b o k m:Nat}{cs vs:List Value}(hL:L[i]? =some ⟨b,o,cs⟩)(h:ev? env x=some (.pointer (some ⟨b,o+k,none⟩)))
    (hv:(cs.drop k).take m=vs)(hlen:vs.length=m)(hag:∀w,(isAgg t).run P w=.ok true w)(hsz:∀w,(sizeOf t).run P w=.ok m w):
    OpS P H0 n (.load t x) ty env L (.agg vs.toArray):=by
  intro a w hf hw
  simp only[exop,execOp,hf.eval h]
  have h2:=run_loadAgg (P:=P) (w:=w) (b:=b) (o:=o+k) hag hsz hlen (fun j v hj=>by
    rw[←hv,List.getElem?_take]at hj
    split at hj
    · rw[List.getElem?_drop]at hj
      have:=Gu (hw.at hL) hj
      rw[Nat.add_assoc];exact this
    · cases hj)
  simp[h2]
theorem Gg{x:Operand}{t:TypeId}{b o m:Nat}{vs:List Value}(h:ev? env x=some (.pointer (some ⟨b,o,none⟩)))
    (hv:∀j v,vs[j]? =some v→cellAt H0 b (o+j)=some v)(hlen:vs.length=m)(hag:∀w,(isAgg t).run P w=.ok true w)(hsz:∀w,(sizeOf t).run P w=.ok m w):
    OpS P H0 n (.load t x) ty env L (.agg vs.toArray):=by
  intro a w hf hw
  simp only[exop,execOp,hf.eval h]
  have h2:=run_loadAgg (P:=P) (w:=w) (b:=b) (o:=o) hag hsz hlen (fun j v hj=>cell_of_base hw (hv j v hj))
  simp[h2]
def one(v:Value):Bool:=match v with|.agg _|.tuple _=>false|_=>true
theorem one_cells{v:Value}(h:one v=true):v.cells=#[v]:=by cases v<;>first|rfl|(simp[one]at h)
theorem one_oneCell{v:Value}(h:one v=true):v.oneCell'=true:=by cases v<;>first|rfl|(simp[one]at h)
def putF(L:Frags)(i:Nat)(cs':List Value):Frags:=
  match L[i]? with
  |some f=>L.set i ⟨f.b,f.o,cs'⟩
  |none=>L
structure Wrote(w:World)(b o:Nat)(vs:List Value)(w':World):Prop where
  size:w'.heap.size=w.heap.size
  other:∀k,k≠b→w'.heap[k]? =w.heap[k]?
  here:∀c t fr,w.heap[b]? =some (.cells c t fr)→∃c',w'.heap[b]? =some (.cells c' t fr)∧c'.size=c.size∧
    (∀j (h:j<vs.length),o+j<c.size→c'[o+j]? =some vs[j])∧∀j,(j<o∨o+vs.length≤j)→c'[j]? =c[j]?
  os:w'.os=w.os
  tape:w'.tape=w.tape
  output:w'.output=w.output
theorem wrote_cell(w:World)(b o:Nat)(v:Value):Wrote w b o [v] (w.setCell ⟨b,o,none⟩ v):=by
  refine⟨by simp,fun k hk=>?_,fun c t fr hb=>?_,rfl,rfl,rfl⟩
  · simp only[World.setCell,Array.getElem?_modify]
    rw[if_neg (by simpa using Ne.symm hk)]
  · refine⟨c.setIfInBounds o v,?_,by simp,fun j h ho=>?_,fun j h=>?_⟩
    · simp only[World.setCell,Array.getElem?_modify,if_true,hb]
      simp
    · have:j=0:=by simp at h;exact h
      subst this
      simp at ho
      simp[ho]
    · simp at h
      exact Array.getElem?_setIfInBounds_ne (by omega)
theorem Wrote.trans{w w1 w2:World}{b o:Nat}{v:Value}{r:List Value}(h:Wrote w b o [v] w1)(k:Wrote w1 b (o+1) r w2):Wrote w b o (v::r) w2:=by
  refine⟨k.size.trans h.size,fun x hx=>(k.other x hx).trans (h.other x hx),fun c t fr hb=>?_,k.os.trans h.os,k.tape.trans h.tape,k.output.trans h.output⟩
  obtain⟨c1,hc1,hs1,hi1,ho1⟩:=h.here c t fr hb
  obtain⟨c2,hc2,hs2,hi2,ho2⟩:=k.here c1 t fr hc1
  refine⟨c2,hc2,hs2.trans hs1,fun j hj hlt=>?_,fun j hj=>?_⟩
  · cases j with
    |zero=>
      rw[ho2 _ (.inl (by omega))]
      have:=hi1 0 (by simp) (by simpa using hlt)
      simpa using this
    |succ j=>
      have:=hi2 j (by simpa using hj) (by rw[hs1];omega)
      rw[show o+(j+1)=o+1+j by omega]
      simpa using this
  · simp at hj
    rw[ho2 j (by omega),ho1 j (by simp;omega)]
theorem wrote_cells(b:Nat):∀(vs:List Value) (o:Nat) (w:World),Wrote w b o vs (w.setCells b o vs)
  | [],o,w=>⟨rfl,fun _ _=>rfl,fun c t fr hb=>⟨c,hb,rfl,fun j h=>by simp at h,fun _ _=>rfl⟩,rfl,rfl,rfl⟩
  |v::r,o,w=>(wrote_cell w b o v).trans (wrote_cells b r (o+1) (w.setCell ⟨b,o,none⟩ v))
theorem has_same{b o:Nat}{cs cs':List Value}(hl:cs'.length=cs.length){x j:Nat}:(⟨b,o,cs'⟩:Frag).has x j↔(⟨b,o,cs⟩:Frag).has x j:=by
  simp[Frag.has,hl]
theorem mem_set{L:Frags}{i:Nat}{f g:Frag}(h:g∈L.set i f):g=f∨∃j,j≠i∧L[j]? =some g:=by
  obtain⟨j,hj⟩:=List.mem_iff_getElem?.1 h
  rw[List.getElem?_set]at hj
  by_cases hij:i=j
  · rw[if_pos hij]at hj
    split at hj
    · left;simpa using hj.symm
    · cases hj
  · rw[if_neg hij]at hj
    exact .inr ⟨j,fun e=>hij e.symm,hj⟩
theorem disj_at{L:Frags}(h:L.Pairwise Disj){i j:Nat}{f g:Frag}(hi:L[i]? =some f)(hj:L[j]? =some g)(hne:i≠j):Disj f g:=by
  have hi':=List.getElem?_eq_some_iff.1 hi
  have hj':=List.getElem?_eq_some_iff.1 hj
  obtain⟨li,rfl⟩:=hi'
  obtain⟨lj,rfl⟩:=hj'
  rw[List.pairwise_iff_getElem]at h
  rcases Nat.lt_or_ge i j with hlt|hge
  · exact h i j li lj hlt
  · exact(h j i lj li (by omega)).symm
theorem To.write{w w':World}(hw:Agree H0 L w.heap){i:Nat}{b o k:Nat}{cs cs' vs:List Value}(hL:L[i]? =some ⟨b,o,cs⟩)
    (hwr:Wrote w b (o+k) vs w')(hk:k+vs.length≤cs.length)(hcs:cs'=cs.take k++vs++cs.drop (k+vs.length)):To H0 w L w' (putF L i cs'):=by
  have hlen:cs'.length=cs.length:=by rw[hcs];simp;omega
  have hput:putF L i cs'=L.set i ⟨b,o,cs'⟩:=by simp[putF,hL]
  have hmem:(⟨b,o,cs⟩:Frag)∈L:=List.mem_of_getElem? hL
  obtain⟨c,t,fr,hb,hv,hz⟩:=(hw.ok _ hmem).row
  obtain⟨c',hc',hs',hin,hout⟩:=hwr.here c t fr hb
  have hup:=hw.up _ hmem
  simp only at hb hv hz hup
  have hcsz:∀j,j<cs.length→o+j<c.size:=fun j hj=>Dv (hv j hj)
  have okf:(⟨b,o,cs'⟩:Frag).ok w'.heap:=by
    refine⟨c',t,fr,hc',fun j hj=>?_,fun j hj=>hz j (by rw[←hlen];exact hj)⟩
    have hj2:j<cs.length:=by rw[←hlen];exact hj
    have e:cs'[j]? =if j<k then cs[j]? else if j<k+vs.length then vs[j-k]? else cs[j]? :=by
      rw[hcs]
      by_cases h1:j<k
      · rw[if_pos h1,List.append_assoc,List.getElem?_append_left (by simp;omega),List.getElem?_take];simp[h1]
      · rw[if_neg h1]
        by_cases h2:j<k+vs.length
        · rw[if_pos h2,List.getElem?_append_left (by simp;omega),List.getElem?_append_right (by simp;omega)]
          simp;rw[show min k cs.length=k by omega]
        · rw[if_neg h2,List.getElem?_append_right (by simp;omega),List.getElem?_drop]
          congr 1;simp;omega
    rw[List.getElem?_eq_getElem hj]at e
    show c'[o+j]? =some cs'[j]
    rw[e]
    by_cases h1:j<k
    · rw[if_pos h1,hout _ (.inl (by omega)),hv j hj2,List.getElem?_eq_getElem hj2]
    · rw[if_neg h1]
      by_cases h2:j<k+vs.length
      · rw[if_pos h2]
        have:=hin (j-k) (by omega) (by have:=hcsz j hj2;omega)
        rw[show o+k+(j-k)=o+j by omega]at this
        rw[this,List.getElem?_eq_getElem (by omega)]
      · rw[if_neg h2,hout _ (.inr (by omega)),hv j hj2,List.getElem?_eq_getElem hj2]
  have okg:∀j g,j≠i→L[j]? =some g→g.ok w'.heap:=by
    intro j g hji hg
    have hd:=disj_at hw.dis hg hL hji
    obtain⟨c2,t2,fr2,hb2,hv2,hz2⟩:=(hw.at hg).row
    by_cases he:g.b=b
    · have:c2=c∧t2=t∧fr2=fr:=by
        rw[he,hb]at hb2
        simp only[Option.some.injEq,Obj.cells.injEq]at hb2
        exact⟨hb2.1.symm,hb2.2.1.symm,hb2.2.2.symm⟩
      obtain⟨rfl,rfl,rfl⟩:=this
      refine⟨c',t2,fr2,by rw[he];exact hc',fun x hx=>?_,hz2⟩
      rw[hout (g.o+x) ?_]
      · exact hv2 x hx
      · rcases Nat.lt_or_ge (g.o+x) (o+k)with h1|h1
        · exact .inl h1
        · rcases Nat.lt_or_ge (g.o+x) (o+k+vs.length)with h2|h2
          · exact absurd ⟨rfl,by show o≤g.o+x;omega,by show g.o+x<o+cs.length;omega⟩ (hd b (g.o+x) ⟨he,by omega,by omega⟩)
          · exact .inr h2
    · exact⟨c2,t2,fr2,by rw[hwr.other _ he];exact hb2,hv2,hz2⟩
  rw[hput]
  refine⟨⟨fun x ox hx=>?_,fun f hf=>?_,fun f hf=>?_,?_⟩,by rw[hwr.size];exact Nat.le_refl _,fun x hx hn=>?_,fun x cx tx fx hx=>?_,fun f hf=>?_,hwr.os,hwr.tape,hwr.output⟩
  · rw[hwr.other x (fun e=>by rw[e,hup]at hx;cases hx)];exact hw.base x ox hx
  · rcases mem_set hf with rfl|⟨j,_,hj⟩
    · exact hup
    · exact hw.up f (List.mem_of_getElem? hj)
  · rcases mem_set hf with rfl|⟨j,hji,hj⟩
    · exact okf
    · exact okg j f hji hj
  · rw[List.pairwise_iff_getElem]
    intro p q hp hq hpq
    have hpd:=hw.dis
    rw[List.pairwise_iff_getElem]at hpd
    have hp':p<L.length:=by simpa using hp
    have hq':q<L.length:=by simpa using hq
    have base:=hpd p q hp' hq' hpq
    have hgi:∀(x:Nat) (hx:x<L.length) (hx2:x<(L.set i ⟨b,o,cs'⟩).length) (y j:Nat),((L.set i ⟨b,o,cs'⟩)[x]'hx2).has y j↔(L[x]).has y j:=by
      intro x hx hx2 y j
      rw[List.getElem_set]
      by_cases hix:i=x
      · subst hix
        rw[if_pos rfl]
        rw[List.getElem?_eq_getElem hx,Option.some.injEq]at hL
        rw[hL]
        exact has_same hlen
      · rw[if_neg hix]
    intro y j h1 h2
    exact base y j ((hgi p hp' hp y j).1 h1) ((hgi q hq' hq y j).1 h2)
  · exact hwr.other x (fun e=>hn _ hmem (by simpa using e.symm))
  · by_cases he:x=b
    · subst he
      obtain⟨c3,h3,h4,_,h5⟩:=hwr.here cx tx fx hx
      refine⟨c3,h3,h4,fun j hj=>h5 j ?_⟩
      rcases Nat.lt_or_ge j (o+k)with h6|h6
      · exact .inl h6
      · rcases Nat.lt_or_ge j (o+k+vs.length)with h7|h7
        · exact absurd ⟨_,hmem,rfl,by show o≤j;omega,by show j<o+cs.length;omega⟩ hj
        · exact .inr h7
    · exact⟨cx,by rw[hwr.other x he];exact hx,rfl,fun _ _=>rfl⟩
  · rcases mem_set hf with rfl|⟨j,_,hj⟩
    · exact .inr ⟨⟨_,hmem,rfl⟩,fun j hj=>⟨_,hmem,(has_same hlen).1 hj⟩⟩
    · exact .inr ⟨⟨f,List.mem_of_getElem? hj,rfl⟩,fun x hx=>⟨f,List.mem_of_getElem? hj,hx⟩⟩
theorem putF_eq{i:Nat}{b o:Nat}{cs cs':List Value}(hL:L[i]? =some ⟨b,o,cs⟩):putF L i cs'=L.set i ⟨b,o,cs'⟩:=by simp[putF,hL]
theorem run_storeVar1{w:World}{t:TypeId}{b o:Nat}{v u:Value}(h1:one v=true)(hsz:∀w,(sizeOf t).run P w=.ok 1 w)
    (hc:w.cell? ⟨b,o,none⟩=some u)(hz:w.frozen? ⟨b,o,none⟩=false):
    (Instr.storeAt t (.pointer (some ⟨b,o,none⟩)) v).run P w=.ok () (w.setCell ⟨b,o,none⟩ v):=by
  have h2:=run_storeCells_cells (P:=P) b o [v] 0 w (by simpa using by rw[hc];rfl) (by simpa using hz) (by simpa using one_oneCell h1)
  simp only[Nat.add_zero,World.setCells]at h2
  simp[Instr.storeAt,Instr.sureAddr,storeVar,hsz,one_cells h1,h2]
theorem Aq(i:Nat){t:TypeId}{x y:Operand}{b o k:Nat}{cs:List Value}{v:Value}(hL:L[i]? =some ⟨b,o,cs⟩)(hx:ev? env x=some (.pointer (some ⟨b,o+k,none⟩)))
    (hy:ev? env y=some v)(h1:one v=true)(hk:Nat.blt k cs.length=true)(hsz:∀w,(sizeOf t).run P w=.ok 1 w):
    OpX P H0 n (.store t x y) ty env L fun u L'=>u=undef∧L'=L.set i ⟨b,o,cs.set k v⟩:=by
  intro a w hf hw
  have hk':k<cs.length:=by simpa[Nat.blt_eq]using hk
  have hok:=hw.at hL
  have hst:=run_storeVar1 (P:=P) (t:=t) h1 hsz (Gu hok (List.getElem?_eq_getElem hk')) (frozen_of_ok hok hk')
  have hrun:(exop a.eval (.store t x y) ty).run P w=.ok .skip (w.setCell ⟨b,o+k,none⟩ v):=by
    simp only[exop,execOp,hf.eval hx,hf.eval hy]
    simp only[Sem.run_bind,hst,Result.andThen_ok,Sem.run_pure]
  rw[hrun]
  refine⟨_,⟨rfl,rfl⟩,?_⟩
  rw[←putF_eq hL]
  refine To.write hw hL (wrote_cell w b (o+k) v) (by simp;omega) ?_
  rw[List.set_eq_take_append_cons_drop,if_pos hk']
  simp
theorem Bq(i:Nat){t:TypeId}{x y:Operand}{b o k m:Nat}{cs cs' vs:List Value}(hL:L[i]? =some ⟨b,o,cs⟩)(hx:ev? env x=some (.pointer (some ⟨b,o+k,none⟩)))
    (hy:ev? env y=some (.agg vs.toArray))(h1:vs.all one=true)(hlen:vs.length=m)(hk:Nat.ble (k+m) cs.length=true)(hsz:∀w,(sizeOf t).run P w=.ok m w)
    (hcs:cs'=cs.take k++vs++cs.drop (k+m)):
    OpX P H0 n (.store t x y) ty env L fun u L'=>u=undef∧L'=L.set i ⟨b,o,cs'⟩:=by
  intro a w hf hw
  have hk':k+m≤cs.length:=Nat.le_of_ble_eq_true hk
  have hok:=hw.at hL
  have h2:=run_storeCells_cells (P:=P) b (o+k) vs 0 w (fun j hj=>by
      have:=Gu hok (j:=k+j) (List.getElem?_eq_getElem (by simp only;omega))
      simp only at this
      rw[Nat.add_zero,Nat.add_assoc,this];rfl)
    (fun j hj=>by
      have:=frozen_of_ok hok (j:=k+j) (by simp only;omega)
      simp only at this
      rw[Nat.add_zero,Nat.add_assoc,this]) (fun v hv=>one_oneCell (List.all_eq_true.1 h1 v hv))
  simp only[Nat.add_zero]at h2
  have hst:(Instr.storeAt t (.pointer (some ⟨b,o+k,none⟩)) (.agg vs.toArray)).run P w=.ok () (w.setCells b (o+k) vs):=by
    simp[Instr.storeAt,Instr.sureAddr,storeVar,hsz,Value.cells,hlen,h2]
  have hrun:(exop a.eval (.store t x y) ty).run P w=.ok .skip (w.setCells b (o+k) vs):=by
    simp only[exop,execOp,hf.eval hx,hf.eval hy]
    simp only[Sem.run_bind,hst,Result.andThen_ok,Sem.run_pure]
  rw[hrun]
  refine⟨_,⟨rfl,rfl⟩,?_⟩
  rw[←putF_eq hL]
  exact To.write hw hL (wrote_cells b vs (o+k) w) (by omega) (by rw[hlen];exact hcs)
theorem To.new{w:World}(hw:Agree H0 L w.heap)(vs:List Value)(t:TypeId):
    To H0 w L {w with heap:=w.heap.push (.cells vs.toArray t)} (⟨w.heap.size,0,vs⟩::L):=by
  have hold:∀(k:Nat),k<w.heap.size→(w.heap.push (.cells vs.toArray t))[k]? =w.heap[k]? :=fun k hk=>by
    rw[Array.getElem?_push,if_neg (by omega)]
  refine⟨⟨fun b ob hb=>?_,fun f hf=>?_,fun f hf=>?_,?_⟩,by simp,fun b hb _=>hold b hb,fun b c t' fr hb=>⟨c,?_,rfl,fun _ _=>rfl⟩,fun f hf=>?_,rfl,rfl,rfl⟩
  · have h1:=hw.base b ob hb
    simp only
    rw[hold b (Dv h1)]
    exact h1
  · rcases List.mem_cons.1 hf with rfl|h
    · cases hk:H0 w.heap.size with
      |none=>rfl
      |some o=>exact absurd (Dv (hw.base _ o hk)) (Nat.lt_irrefl _)
    · exact hw.up f h
  · rcases List.mem_cons.1 hf with rfl|h
    · exact⟨vs.toArray,t,(0,0),by simp,fun j hj=>by simp only at hj;simp[hj],fun j _=>by simp⟩
    · obtain⟨c,t',fr,h1,h2⟩:=(hw.ok f h).row
      exact⟨c,t',fr,by rw[hold _ (Dv h1)];exact h1,h2⟩
  · refine List.pairwise_cons.2 ⟨fun g hg b j h1 h2=>?_,hw.dis⟩
    have:=(hw.ok g hg).lt
    have e1:w.heap.size=b:=h1.1
    have e2:=h2.1
    omega
  · rw[hold _ (Dv hb)];exact hb
  · rcases List.mem_cons.1 hf with rfl|h
    · exact .inl (Nat.le_refl _)
    · exact .inr ⟨⟨f,h,rfl⟩,fun j hj=>⟨f,h,hj⟩⟩
theorem Dq{e:TypeId}{z:Value}(hz:∀w,(zeroValue e).run P w=.ok z w):
    OpX P H0 n (.alloc e) ty env L fun v L'=>∃b,v=.pointer (some ⟨b,0,none⟩)∧L'=⟨b,0,z.cells.toList⟩::L:=by
  intro a w hf hw
  have:=To.new hw z.cells.toList e
  simp only[exop,execOp]
  simp only[Instr.alloc,Sem.run_bind,hz,Result.andThen_ok,newVar,newRow,run_newObj,Sem.run_pure,Out]
  exact⟨_,⟨_,rfl,rfl⟩,by simpa using this⟩
theorem X.box{e:TypeId}{x:Operand}{v:Value}(hx:ev? env x=some v):
    OpX P H0 n (.box e x) ty env L fun u L'=>∃b,u=.pointer (some ⟨b,0,none⟩)∧L'=⟨b,0,v.cells.toList⟩::L:=by
  intro a w hf hw
  have:=To.new hw v.cells.toList e
  simp only[exop,execOp,hf.eval hx]
  simp only[Instr.box,Sem.run_bind,Result.andThen_ok,newVar,newRow,run_newObj,Sem.run_pure,Out]
  exact⟨_,⟨_,rfl,rfl⟩,by simpa using this⟩
def evs?(env:Env):List Operand→Option (List Value)
  | []=>some []
  |x::r=>match ev? env x,evs? env r with
    |some v,some l=>some (v::l)
    |_,_=>none
theorem evs_eval{a:Act}(hf:Fits n env a):∀{xs:List Operand} {vs:List Value},evs? env xs=some vs→xs.map a.eval=vs
  | [],vs,h=>by simpa[evs?]using h
  |x::r,vs,h=>by
    simp only[evs?]at h
    split at h
    · rename_i v l hv hl
      simp only[Option.some.injEq]at h
      subst h
      rw[List.map_cons,hf.eval hv,evs_eval hf hl]
    · cases h
theorem Ar{f:FuncId}{xs:List Operand}{ats:Array TypeId}{vs:List Value}{R:Value→Frags→Prop}(hx:evs? env xs=some vs)
    (hc:∀args w,(callFunc f args).run P w=.ok (.enter f args) w)(h:Fn P H0 f vs.toArray L R):
    OpX P H0 n (.call {callee:=.value (.func f),args:=xs.toArray,argTypes:=ats}) ty env L R:=by
  intro a w hf hw
  have he:Array.map a.eval xs.toArray=vs.toArray:=by simp[evs_eval hf hx]
  have hrun:(exop a.eval (.call {callee:=.value (.func f),args:=xs.toArray,argTypes:=ats}) ty).run P w=.ok (.enter f vs.toArray) w:=by
    simp only[exop,execOp,resolve,he,Act.eval,Deferred.ofValue]
    simp[invoke,hc]
  rw[hrun]
  exact h w hw
theorem X.callv{f:FuncId}{c:Operand}{xs:List Operand}{ats:Array TypeId}{vs:List Value}{R:Value→Frags→Prop}(hv:ev? env c=some (.func (.func f) #[] #[]))(hx:evs? env xs=some vs)
    (hc:∀args w,(callFunc f args).run P w=.ok (.enter f args) w)(h:Fn P H0 f vs.toArray L R):
    OpX P H0 n (.call {callee:=.value c,args:=xs.toArray,argTypes:=ats}) ty env L R:=by
  intro a w hf hw
  have he:Array.map a.eval xs.toArray=vs.toArray:=by simp[evs_eval hf hx]
  have hrun:(exop a.eval (.call {callee:=.value c,args:=xs.toArray,argTypes:=ats}) ty).run P w=.ok (.enter f vs.toArray) w:=by
    simp only[exop,execOp,resolve,he,hf.eval hv,Deferred.ofValue]
    simp[invoke,hc]
  rw[hrun]
  exact h w hw
theorem X.invoke{f:FuncId}{c:Operand}{m:String}{xs:List Operand}{ats:Array TypeId}{vs:List Value}{t:TypeId}{u r:Value}{R:Value→Frags→Prop}(hv:ev? env c=some (.iface t u))
    (hx:evs? env xs=some vs)(hm:∀w,(method (P.types.size+Made.depth) t u m).run P w=.ok (f,r) w)
    (hc:∀args w,(callFunc f args).run P w=.ok (.enter f args) w)(h:Fn P H0 f (r::vs).toArray L R):
    OpX P H0 n (.call {callee:=.invoke c m,args:=xs.toArray,argTypes:=ats}) ty env L R:=by
  intro a w hf hw
  have he:Array.map a.eval xs.toArray=vs.toArray:=by simp[evs_eval hf hx]
  have hargs:(#[Value.iface t u]++vs.toArray).extract 1 (#[Value.iface t u]++vs.toArray).size=vs.toArray:=by simp
  have h0:(#[Value.iface t u]++vs.toArray)[0]? =some (.iface t u):=by simp
  have hr:#[r]++vs.toArray=(r::vs).toArray:=by simp
  have hinv:(Go.invoke (.fn (.method m) #[]) (#[Value.iface t u]++vs.toArray)).run P w=.ok (.enter f (r::vs).toArray) w:=by
    simp only[Go.invoke,h0,hargs,callMethod]
    simp[hm,hc]
  have hrun:(exop a.eval (.call {callee:=.invoke c m,args:=xs.toArray,argTypes:=ats}) ty).run P w=.ok (.enter f (r::vs).toArray) w:=by
    simp only[exop,execOp,resolve,he,hf.eval hv]
    simp only[Sem.run_bind,Sem.run_pure,Result.andThen_ok]
    exact hinv
  rw[hrun]
  exact h w hw
end
namespace N
theorem wrapU{k:IntKind}(hk:k.signed=false)(x:Nat):k.wrap (x:Int)=((x%2^k.bits:Nat):Int):=by
  simp only[IntKind.wrap,hk,Bool.false_and,Bool.false_eq_true,if_false]
  norm_cast
theorem wrapU_lt{k:IntKind}(hk:k.signed=false){x:Nat}(h:x<2^k.bits):k.wrap (x:Int)=(x:Int):=by
  rw[wrapU hk,Nat.mod_eq_of_lt h]
theorem i64n{x:Nat}(h:x≤9223372036854775807):IntKind.i64.wrap (x:Int)=(x:Int):=IntWalk.i64_in _ (by omega)
theorem add64{a b:Nat}(h:a+b≤9223372036854775807):IntKind.i64.wrap ((a:Int)+(b:Int))=((a+b:Nat):Int):=by
  rw[IntWalk.i64_in _ (by omega)];norm_cast
theorem sub64{a b:Nat}(h:b≤a)(h2:a≤9223372036854775807):IntKind.i64.wrap ((a:Int)-(b:Int))=((a-b:Nat):Int):=by
  rw[IntWalk.i64_in _ (by omega)];omega
theorem mul64{a b:Nat}(h:a*b≤9223372036854775807):IntKind.i64.wrap ((a:Int)*(b:Int))=((a*b:Nat):Int):=by
  rw[←i64n h];norm_cast
theorem addZ{a b:Int}(h: -9223372036854775808≤a+b∧a+b≤9223372036854775807):IntKind.i64.wrap (a+b)=a+b:=IntWalk.i64_in _ h
theorem subZ{a b:Int}(h: -9223372036854775808≤a-b∧a-b≤9223372036854775807):IntKind.i64.wrap (a-b)=a-b:=IntWalk.i64_in _ h
theorem addU32w(a b:Nat):IntKind.u32.wrap ((a:Int)+(b:Int))=(((a+b)%4294967296:Nat):Int):=by
  have:=wrapU (k:=.u32) rfl (a+b)
  rw[show((a:Int)+(b:Int))=((a+b:Nat):Int)from by norm_cast,this];rfl
theorem ofInt_nat(w a:Nat):BitVec.ofInt w (a:Int)=BitVec.ofNat w a:=by
  apply BitVec.eq_of_toNat_eq
  simp
theorem bits_and{k:IntKind}{a b:Nat}(hk:k.signed=false)(ha:a<2^k.bits)(hb:b<2^k.bits):bits .and k (a:Int) (b:Int)=((a&&&b:Nat):Int):=by
  simp only[bits,ofInt_nat]
  rw[show((BitVec.ofNat k.bits a&&&BitVec.ofNat k.bits b).toNat)=a&&&b from by
    simp[BitVec.toNat_and,Nat.mod_eq_of_lt ha,Nat.mod_eq_of_lt hb]]
  exact wrapU_lt hk (Nat.lt_of_le_of_lt Nat.and_le_left ha)
theorem bits_or{k:IntKind}{a b:Nat}(hk:k.signed=false)(ha:a<2^k.bits)(hb:b<2^k.bits):bits .or k (a:Int) (b:Int)=((a|||b:Nat):Int):=by
  simp only[bits,ofInt_nat]
  rw[show((BitVec.ofNat k.bits a|||BitVec.ofNat k.bits b).toNat)=a|||b from by
    simp[BitVec.toNat_or,Nat.mod_eq_of_lt ha,Nat.mod_eq_of_lt hb]]
  exact wrapU_lt hk (Nat.or_lt_two_pow ha hb)
theorem bits_xor{k:IntKind}{a b:Nat}(hk:k.signed=false)(ha:a<2^k.bits)(hb:b<2^k.bits):bits .xor k (a:Int) (b:Int)=((a^^^b:Nat):Int):=by
  simp only[bits,ofInt_nat]
  rw[show((BitVec.ofNat k.bits a^^^BitVec.ofNat k.bits b).toNat)=a^^^b from by
    simp[BitVec.toNat_xor,Nat.mod_eq_of_lt ha,Nat.mod_eq_of_lt hb]]
  exact wrapU_lt hk (Nat.xor_lt_two_pow ha hb)
theorem i64_small{x:Nat}(h:x<9223372036854775808):IntKind.i64.wrap (x:Int)=(x:Int):=IntWalk.i64_in _ (by omega)
theorem and64{a b:Nat}(ha:a<9223372036854775808)(hb:b<9223372036854775808):bits .and .i64 (a:Int) (b:Int)=((a&&&b:Nat):Int):=by
  simp only[bits,ofInt_nat]
  rw[show((BitVec.ofNat IntKind.i64.bits a&&&BitVec.ofNat IntKind.i64.bits b).toNat)=a&&&b from by
    have h1:a<2^IntKind.i64.bits:=by show a<18446744073709551616;omega
    have h2:b<2^IntKind.i64.bits:=by show b<18446744073709551616;omega
    simp[BitVec.toNat_and,Nat.mod_eq_of_lt h1,Nat.mod_eq_of_lt h2]]
  exact i64_small (Nat.lt_of_le_of_lt Nat.and_le_left ha)
theorem or64{a b:Nat}(ha:a<9223372036854775808)(hb:b<9223372036854775808):bits .or .i64 (a:Int) (b:Int)=((a|||b:Nat):Int):=by
  simp only[bits,ofInt_nat]
  rw[show((BitVec.ofNat IntKind.i64.bits a|||BitVec.ofNat IntKind.i64.bits b).toNat)=a|||b from by
    have h1:a<2^IntKind.i64.bits:=by show a<18446744073709551616;omega
    have h2:b<2^IntKind.i64.bits:=by show b<18446744073709551616;omega
    simp[BitVec.toNat_or,Nat.mod_eq_of_lt h1,Nat.mod_eq_of_lt h2]]
  refine i64_small ?_
  have:=Nat.or_lt_two_pow (n:=63) (x:=a) (y:=b) (by simpa using ha) (by simpa using hb)
  simpa using this
theorem shlU{k:IntKind}(hk:k.signed=false)(a s:Nat):k.wrap ((a:Int)*2^(min ((s:Int)).toNat k.bits))=(((a<<<s)%2^k.bits:Nat):Int):=by
  have e:((a:Int)*2^(min ((s:Int)).toNat k.bits))=((a*2^(min s k.bits):Nat):Int):=by simp
  rw[e,wrapU hk,Nat.shiftLeft_eq]
  congr 1
  rcases Nat.le_total s k.bits with h|h
  · rw[Nat.min_eq_left h]
  · rw[Nat.min_eq_right h,Nat.mul_mod_left]
    obtain⟨d,rfl⟩:=Nat.exists_eq_add_of_le h
    rw[Nat.pow_add,←Nat.mul_assoc,Nat.mul_right_comm,Nat.mul_mod_left]
theorem shl64{a s:Nat}(h:a<<<s<9223372036854775808):IntKind.i64.wrap ((a:Int)*2^(min ((s:Int)).toNat IntKind.i64.bits))=((a<<<s:Nat):Int):=by
  by_cases ha:a=0
  · subst ha;simp;rfl
  · have hs:s≤64:=by
      rcases Nat.lt_or_ge 64 s with h1|h1
      · rw[Nat.shiftLeft_eq]at h
        have:2^64≤2^s:=Nat.pow_le_pow_right (by omega) (by omega)
        have h3:1*2^64≤a*2^s:=Nat.mul_le_mul (by omega) this
        omega
      · exact h1
    have e:((a:Int)*2^(min ((s:Int)).toNat IntKind.i64.bits))=((a<<<s:Nat):Int):=by
      rw[Nat.shiftLeft_eq]
      have:min ((s:Int)).toNat IntKind.i64.bits=s:=by show min _ 64=s;simp;omega
      rw[this];simp
    rw[e,i64_small h]
theorem shr{k:IntKind}{a:Nat}(ha:a<2^k.bits)(s:Nat):(a:Int).fdiv (2^(min ((s:Int)).toNat k.bits))=((a>>>s:Nat):Int):=by
  rw[Nat.shiftRight_eq_div_pow]
  have e:(2^(min ((s:Int)).toNat k.bits):Int)=((2^(min s k.bits):Nat):Int):=by simp
  rw[e]
  show(a:Int).fdiv _=_
  rw[Int.fdiv_eq_ediv_of_nonneg _ (Int.natCast_nonneg _)]
  rcases Nat.le_total s k.bits with h|h
  · rw[Nat.min_eq_left h];norm_cast
  · rw[Nat.min_eq_right h]
    have h1:a/2^k.bits=0:=Nat.div_eq_of_lt ha
    have h2:a/2^s=0:=Nat.div_eq_of_lt (Nat.lt_of_lt_of_le ha (Nat.pow_le_pow_right (by omega) h))
    rw[h2];norm_cast
theorem and_u8{a b:Nat}(ha:a<256)(hb:b<256):bits .and .u8 (a:Int) (b:Int)=((a&&&b:Nat):Int):=bits_and rfl ha hb
theorem or_u8{a b:Nat}(ha:a<256)(hb:b<256):bits .or .u8 (a:Int) (b:Int)=((a|||b:Nat):Int):=bits_or rfl ha hb
theorem xor_u8{a b:Nat}(ha:a<256)(hb:b<256):bits .xor .u8 (a:Int) (b:Int)=((a^^^b:Nat):Int):=bits_xor rfl ha hb
theorem shl_u8(a s:Nat):IntKind.u8.wrap ((a:Int)*2^(min ((s:Int)).toNat IntKind.u8.bits))=(((a<<<s)%256:Nat):Int):=shlU rfl a s
theorem in_u8{a:Nat}(ha:a<256):IntKind.u8.wrap (a:Int)=(a:Int):=wrapU_lt rfl ha
theorem mod_u8(a:Nat):IntKind.u8.wrap (a:Int)=((a%256:Nat):Int):=wrapU rfl a
theorem and_u16{a b:Nat}(ha:a<65536)(hb:b<65536):bits .and .u16 (a:Int) (b:Int)=((a&&&b:Nat):Int):=bits_and rfl ha hb
theorem or_u16{a b:Nat}(ha:a<65536)(hb:b<65536):bits .or .u16 (a:Int) (b:Int)=((a|||b:Nat):Int):=bits_or rfl ha hb
theorem shl_u16(a s:Nat):IntKind.u16.wrap ((a:Int)*2^(min ((s:Int)).toNat IntKind.u16.bits))=(((a<<<s)%65536:Nat):Int):=shlU rfl a s
theorem shr_u16{a:Nat}(ha:a<65536)(s:Nat):(a:Int).fdiv (2^(min ((s:Int)).toNat IntKind.u16.bits))=((a>>>s:Nat):Int):=shr (k:=.u16) ha s
theorem in_u16{a:Nat}(ha:a<65536):IntKind.u16.wrap (a:Int)=(a:Int):=wrapU_lt rfl ha
theorem mod_u16(a:Nat):IntKind.u16.wrap (a:Int)=((a%65536:Nat):Int):=wrapU rfl a
theorem and_u32{a b:Nat}(ha:a<4294967296)(hb:b<4294967296):bits .and .u32 (a:Int) (b:Int)=((a&&&b:Nat):Int):=bits_and rfl ha hb
theorem or_u32{a b:Nat}(ha:a<4294967296)(hb:b<4294967296):bits .or .u32 (a:Int) (b:Int)=((a|||b:Nat):Int):=bits_or rfl ha hb
theorem xor_u32{a b:Nat}(ha:a<4294967296)(hb:b<4294967296):bits .xor .u32 (a:Int) (b:Int)=((a^^^b:Nat):Int):=bits_xor rfl ha hb
theorem shl_u32(a s:Nat):IntKind.u32.wrap ((a:Int)*2^(min ((s:Int)).toNat IntKind.u32.bits))=(((a<<<s)%4294967296:Nat):Int):=shlU rfl a s
theorem shr_u32{a:Nat}(ha:a<4294967296)(s:Nat):(a:Int).fdiv (2^(min ((s:Int)).toNat IntKind.u32.bits))=((a>>>s:Nat):Int):=shr (k:=.u32) ha s
theorem in_u32{a:Nat}(ha:a<4294967296):IntKind.u32.wrap (a:Int)=(a:Int):=wrapU_lt rfl ha
theorem mod_u32(a:Nat):IntKind.u32.wrap (a:Int)=((a%4294967296:Nat):Int):=wrapU rfl a
theorem sub_u32{a b:Nat}(h:b≤a)(h2:a<4294967296):IntKind.u32.wrap ((a:Int)-(b:Int))=((a-b:Nat):Int):=by
  have:=in_u32 (a:=a-b) (by omega)
  rw[←this];congr 1;omega
theorem and_u64{a b:Nat}(ha:a<18446744073709551616)(hb:b<18446744073709551616):bits .and .u64 (a:Int) (b:Int)=((a&&&b:Nat):Int):=bits_and rfl ha hb
theorem or_u64{a b:Nat}(ha:a<18446744073709551616)(hb:b<18446744073709551616):bits .or .u64 (a:Int) (b:Int)=((a|||b:Nat):Int):=bits_or rfl ha hb
theorem shl_u64(a s:Nat):IntKind.u64.wrap ((a:Int)*2^(min ((s:Int)).toNat IntKind.u64.bits))=(((a<<<s)%18446744073709551616:Nat):Int):=shlU rfl a s
theorem shr_u64{a:Nat}(ha:a<18446744073709551616)(s:Nat):(a:Int).fdiv (2^(min ((s:Int)).toNat IntKind.u64.bits))=((a>>>s:Nat):Int):=shr (k:=.u64) ha s
theorem in_u64{a:Nat}(ha:a<18446744073709551616):IntKind.u64.wrap (a:Int)=(a:Int):=wrapU_lt rfl ha
theorem add_u64{a b:Nat}(h:a+b<18446744073709551616):IntKind.u64.wrap ((a:Int)+(b:Int))=((a+b:Nat):Int):=by
  have:=in_u64 h
  rw[←this];norm_cast
theorem sub_u64{a b:Nat}(h:b≤a)(h2:a<18446744073709551616):IntKind.u64.wrap ((a:Int)-(b:Int))=((a-b:Nat):Int):=by
  have:=in_u64 (a:=a-b) (by omega)
  rw[←this];congr 1;omega
theorem shr64{a:Nat}(ha:a<9223372036854775808)(s:Nat):(a:Int).fdiv (2^(min ((s:Int)).toNat IntKind.i64.bits))=((a>>>s:Nat):Int):=shr (k:=.i64) (show a<18446744073709551616 by omega) s
end N
theorem Hk(b:Builtin)(ats:Array TypeId)(ty:TypeId)(cs:Array Bool)(args:Array Value)(s:Sem Value)
    (h:builtin b ats ty cs args=(do pure (.value (←s)))){P:Program}{w w':World}{v:Value}(hs:s.run P w=.ok v w'):(builtin b ats ty cs args).run P w=.ok (.value v) w':=by
  rw[h];simp[hs]
section
variable {P:Program}{H0:Known}{n:Nat}{env:Env}{L:Frags}{ty:TypeId}
theorem Gl{op:BinOp}{xT yT:TypeId}{x y:Operand}{k k':IntKind}{a b:Int}{v:Value}(hx:ev? env x=some (.int k a))(hy:ev? env y=some (.int k' b))
    (h:∀w,(binOp op xT (.int k a) (.int k' b)).run P w=.ok v w):OpP P n (.binOp op xT x y yT) ty env v:=by
  intro ac w hf
  simp only[exop,execOp,hf.eval hx,hf.eval hy,eqGuard_at_int]
  simp[h]
theorem Bl{xT yT:TypeId}{x y:Operand}{k:IntKind}{a b r:Int}(hx:ev? env x=some (.int k a))(hy:ev? env y=some (.int k b))(hr:k.wrap (a+b)=r):
    OpP P n (.binOp .add xT x y yT) ty env (.int k r):=Gl hx hy fun w=>by simp[binOp_add,Op.intArith,hr]
theorem Dr{xT yT:TypeId}{x y:Operand}{k:IntKind}{a b r:Int}(hx:ev? env x=some (.int k a))(hy:ev? env y=some (.int k b))(hr:k.wrap (a-b)=r):
    OpP P n (.binOp .sub xT x y yT) ty env (.int k r):=Gl hx hy fun w=>by simp[binOp_sub,Op.intArith,hr]
theorem S.mul{xT yT:TypeId}{x y:Operand}{k:IntKind}{a b r:Int}(hx:ev? env x=some (.int k a))(hy:ev? env y=some (.int k b))(hr:k.wrap (a*b)=r):
    OpP P n (.binOp .mul xT x y yT) ty env (.int k r):=Gl hx hy fun w=>by simp[binOp_mul,Op.intArith,hr]
theorem Fa{xT yT:TypeId}{x y:Operand}{k:IntKind}{a b r:Int}(hx:ev? env x=some (.int k a))(hy:ev? env y=some (.int k b))(hr:bits .and k a b=r):
    OpP P n (.binOp .and xT x y yT) ty env (.int k r):=Gl hx hy fun w=>by simp[binOp_and,intBits_and,hr]
theorem S.or{xT yT:TypeId}{x y:Operand}{k:IntKind}{a b r:Int}(hx:ev? env x=some (.int k a))(hy:ev? env y=some (.int k b))(hr:bits .or k a b=r):
    OpP P n (.binOp .or xT x y yT) ty env (.int k r):=Gl hx hy fun w=>by simp[binOp_or,intBits_or,hr]
theorem S.xor{xT yT:TypeId}{x y:Operand}{k:IntKind}{a b r:Int}(hx:ev? env x=some (.int k a))(hy:ev? env y=some (.int k b))(hr:bits .xor k a b=r):
    OpP P n (.binOp .xor xT x y yT) ty env (.int k r):=Gl hx hy fun w=>by simp[binOp_xor,intBits_xor,hr]
theorem Fy{xT yT:TypeId}{x y:Operand}{k k':IntKind}{a b r:Int}(hx:ev? env x=some (.int k a))(hy:ev? env y=some (.int k' b))(hb:0≤b)(hr:k.wrap (a*2^(min b.toNat k.bits))=r):
    OpP P n (.binOp .shl xT x y yT) ty env (.int k r):=Gl hx hy fun w=>by
  rw[binOp_shl];simp[Op.shift,show¬b<0 by omega,hr]
theorem Fl{xT yT:TypeId}{x y:Operand}{k k':IntKind}{a b r:Int}(hx:ev? env x=some (.int k a))(hy:ev? env y=some (.int k' b))(hb:0≤b)(hr:a.fdiv (2^(min b.toNat k.bits))=r):
    OpP P n (.binOp .shr xT x y yT) ty env (.int k r):=Gl hx hy fun w=>by
  rw[binOp_shr];simp[Op.shift,show¬b<0 by omega,hr]
theorem S.quo{xT yT:TypeId}{x y:Operand}{k:IntKind}{a b r:Int}(hx:ev? env x=some (.int k a))(hy:ev? env y=some (.int k b))(hb:b≠0)(hr:k.wrap (a.tdiv b)=r):
    OpP P n (.binOp .quo xT x y yT) ty env (.int k r):=Gl hx hy fun w=>by simp[binOp_quo,Op.intDiv,hb,hr]
theorem S.rem{xT yT:TypeId}{x y:Operand}{k:IntKind}{a b r:Int}(hx:ev? env x=some (.int k a))(hy:ev? env y=some (.int k b))(hb:b≠0)(hr:a.tmod b=r):
    OpP P n (.binOp .rem xT x y yT) ty env (.int k r):=Gl hx hy fun w=>by simp[binOp_rem,Op.intDiv,hb,hr]
theorem Dl{xT yT:TypeId}{x y:Operand}{k:IntKind}{a b:Int}(hx:ev? env x=some (.int k a))(hy:ev? env y=some (.int k b)):
    OpP P n (.binOp .lss xT x y yT) ty env (.bool (decide (a<b))):=Gl hx hy fun w=>by simp[binOp_lss]
theorem S.le{xT yT:TypeId}{x y:Operand}{k:IntKind}{a b:Int}(hx:ev? env x=some (.int k a))(hy:ev? env y=some (.int k b)):
    OpP P n (.binOp .leq xT x y yT) ty env (.bool (decide (a≤b))):=Gl hx hy fun w=>by simp[binOp_leq]
theorem Fh{xT yT:TypeId}{x y:Operand}{k:IntKind}{a b:Int}(hx:ev? env x=some (.int k a))(hy:ev? env y=some (.int k b)):
    OpP P n (.binOp .gtr xT x y yT) ty env (.bool (decide (b<a))):=Gl hx hy fun w=>by simp[binOp_gtr]
theorem S.ge{xT yT:TypeId}{x y:Operand}{k:IntKind}{a b:Int}(hx:ev? env x=some (.int k a))(hy:ev? env y=some (.int k b)):
    OpP P n (.binOp .geq xT x y yT) ty env (.bool (decide (b≤a))):=Gl hx hy fun w=>by simp[binOp_geq]
theorem Ef{xT yT:TypeId}{x y:Operand}{k:IntKind}{a b:Int}(hx:ev? env x=some (.int k a))(hy:ev? env y=some (.int k b)):
    OpP P n (.binOp .eql xT x y yT) ty env (.bool (decide (a=b))):=Gl hx hy fun w=>by simp[binOp_eql];rfl
theorem S.ne{xT yT:TypeId}{x y:Operand}{k:IntKind}{a b:Int}(hx:ev? env x=some (.int k a))(hy:ev? env y=some (.int k b)):
    OpP P n (.binOp .neq xT x y yT) ty env (.bool (decide (a≠b))):=Gl hx hy fun w=>by
  simp only[binOp_neq,Sem.run_pure,Result.ok.injEq,Value.bool.injEq,and_true]
  by_cases h:a=b<;>simp[h]
theorem S.not32{xT:TypeId}{x:Operand}{a:Nat}(hx:ev? env x=some (.int .u32 (a:Int)))(ha:a<4294967296):
    OpP P n (.unOp .xor xT x) ty env (.int .u32 ((4294967295^^^a:Nat):Int)):=by
  intro ac w hf
  simp only[exop,execOp,hf.eval hx,Op.unary]
  have e:IntKind.u32.signed=false:=rfl
  have:=N.bits_xor (k:=.u32) (a:=4294967295) (b:=a) rfl (by decide) ha
  rw[e]
  simp only[Bool.false_eq_true,if_false,intBits_xor]
  rw[show IntKind.u32.max=((4294967295:Nat):Int)from rfl,this]
  rfl
theorem Bv{src dst:TypeId}{x:Operand}{k k':IntKind}{a r:Int}(hx:ev? env x=some (.int k a))(hs:P.underlying src=some (.int k))(hd:P.underlying dst=some (.int k'))(hr:k'.wrap a=r):
    OpP P n (.convert src dst x) ty env (.int k' r):=by
  intro ac w hf
  simp only[exop,execOp,hf.eval hx]
  have h1:=run_convert_int (P:=P) w src dst k a (by rw[hs];rfl) (by rw[hd];simp[Program.intKind,hd])
  simp[h1,Program.intKind,hd,hr]
theorem Bc{t e:TypeId}{x:Operand}{a:Option Addr}{l c:Nat}(hx:ev? env x=some (.slice a l c))(ht:P.underlying t=some (.slice e)):
    OpP P n (.call {callee:=.builtin .len,args:=#[x],argTypes:=#[t]}) ty env (.int .i64 (l:Int)):=by
  intro ac w hf
  simp only[exop,execOp,resolve]
  have h1:=run_len_slice (P:=P) w t ty a l c (by simp[Program.elem,ht])
  simp[hf.eval hx,invoke,Hk .len _ _ _ _ _ rfl h1,goInt]
theorem S.capSl{t e:TypeId}{x:Operand}{a:Option Addr}{l c:Nat}(hx:ev? env x=some (.slice a l c))(ht:P.underlying t=some (.slice e)):
    OpP P n (.call {callee:=.builtin .cap,args:=#[x],argTypes:=#[t]}) ty env (.int .i64 (c:Int)):=by
  intro ac w hf
  simp only[exop,execOp,resolve]
  have h1:=run_cap_slice (P:=P) w t ty a l c (by simp[Program.elem,ht])
  simp[hf.eval hx,invoke,Hk .cap _ _ _ _ _ rfl h1,goInt]
theorem S.lenStr{t:TypeId}{x:Operand}{s:ByteArray}(hx:ev? env x=some (.string s))(ht:P.underlying t=some .string):
    OpP P n (.call {callee:=.builtin .len,args:=#[x],argTypes:=#[t]}) ty env (.int .i64 (s.size:Int)):=by
  intro ac w hf
  simp only[exop,execOp,resolve]
  have h1:=run_len_string (P:=P) w t ty s ht
  simp[hf.eval hx,invoke,Hk .len _ _ _ _ _ rfl h1,goInt]
theorem S.min2{ats:Array TypeId}{x y:Operand}{k:IntKind}{a b:Int}(hx:ev? env x=some (.int k a))(hy:ev? env y=some (.int k b)):
    OpP P n (.call {callee:=.builtin .min,args:=#[x,y],argTypes:=ats}) ty env (.int k (if b<a then b else a)):=by
  intro ac w hf
  simp only[exop,execOp,resolve]
  have h1:(Builtin.min_ ats ty #[.int k a,.int k b]).run P w=.ok (.int k (if b<a then b else a)) w:=rfl
  simp[hf.eval hx,hf.eval hy,invoke,Hk .min _ _ _ _ _ rfl h1]
theorem S.max2{ats:Array TypeId}{x y:Operand}{k:IntKind}{a b:Int}(hx:ev? env x=some (.int k a))(hy:ev? env y=some (.int k b)):
    OpP P n (.call {callee:=.builtin .max,args:=#[x,y],argTypes:=ats}) ty env (.int k (if b>a then b else a)):=by
  intro ac w hf
  simp only[exop,execOp,resolve]
  have h1:(Builtin.max_ ats ty #[.int k a,.int k b]).run P w=.ok (.int k (if b>a then b else a)) w:=rfl
  simp[hf.eval hx,hf.eval hy,invoke,Hk .max _ _ _ _ _ rfl h1]
theorem Gx(b o k:Nat):(⟨b,o,none⟩:Addr).add k=⟨b,o+k,none⟩:=by
  unfold Addr.add
  by_cases h0:k=0<;>simp[h0]
theorem Bm{t e s:TypeId}{x y:Operand}{b o l c i:Nat}{k:IntKind}(hx:ev? env x=some (.slice (some ⟨b,o,none⟩) l c))(hy:ev? env y=some (.int k (i:Int)))(hi:i<l)
    (ht:P.underlying t=some (.slice e))(hs:∀w,(sizeOf e).run P w=.ok s w):
    OpP P n (.indexAddr t x y) ty env (.pointer (some ⟨b,o+i*s,none⟩)):=by
  intro ac w hf
  simp only[exop,execOp,hf.eval hx,hf.eval hy]
  have:(0:Int)≤(i:Int)∧(i:Int)<(l:Int):=by omega
  simp[Instr.indexAt,asIntOf,underlying,ht,hs,hi,Gx]
theorem Bj{t e s m:TypeId}{x y:Operand}{b o i:Nat}{k:IntKind}(hx:ev? env x=some (.pointer (some ⟨b,o,none⟩)))(hy:ev? env y=some (.int k (i:Int)))(hi:i<m)
    (ht:P.underlying t=some (.array m e))(hs:∀w,(sizeOf e).run P w=.ok s w):
    OpP P n (.indexAddr t x y) ty env (.pointer (some ⟨b,o+i*s,none⟩)):=by
  intro ac w hf
  simp only[exop,execOp,hf.eval hx,hf.eval hy]
  simp[Instr.indexAt,asIntOf,underlying,ht,hs,hi,Instr.sureAddr,Gx]
def part(o l c:Nat)(s:Nat):Nat:=if c=l then o else o+l*s
theorem sliced_eq{b o l h c s:Nat}:sliced (some ⟨b,o,none⟩) l h c s=.slice (some ⟨b,part o l c s,none⟩) (h-l) (c-l):=by
  unfold sliced part
  by_cases hc:c=l
  · simp[hc]
  · simp[hc,Gx]
theorem S.slLH{t e s:TypeId}{x y z:Operand}{b o l c lo hi:Nat}{k k':IntKind}(hx:ev? env x=some (.slice (some ⟨b,o,none⟩) l c))(hy:ev? env y=some (.int k (lo:Int)))(hz:ev? env z=some (.int k' (hi:Int)))
    (h1:lo≤hi)(h2:hi≤c)(ht:P.underlying t=some (.slice e))(hs:∀w,(sizeOf e).run P w=.ok s w):
    OpP P n (.slice t x (some y) (some z) none) ty env (.slice (some ⟨b,part o lo c s,none⟩) (hi-lo) (c-lo)):=by
  intro ac w hf
  simp only[exop,execOp,hf.eval hx,Option.map_some,Option.map_none,hf.eval hy,hf.eval hz]
  have he:P.elem t=e:=by simp[Program.elem,ht]
  have ht':P.underlying t=some (.slice (P.elem t)):=by rw[he];exact ht
  rw[show(do pure (Next.value (←Instr.sliceAt t (.slice (some ⟨b,o,none⟩) l c) (some (.int k (lo:Int))) (some (.int k' (hi:Int))) none)):Sem Next).run P w=_ from by
    rw[Sem.run_bind,run_sliceAt_slice (P:=P) w t _ _ _ _ ht',run_slice_lh (P:=P) w t (some ⟨b,o,none⟩) l c ht' k k' lo hi (by omega) (by omega) (by omega)]]
  simp[he,hs,sliced_eq]
theorem S.slL{t e s:TypeId}{x y:Operand}{b o l c lo:Nat}{k:IntKind}(hx:ev? env x=some (.slice (some ⟨b,o,none⟩) l c))(hy:ev? env y=some (.int k (lo:Int)))
    (h1:lo≤l)(ht:P.underlying t=some (.slice e))(hs:∀w,(sizeOf e).run P w=.ok s w):
    OpP P n (.slice t x (some y) none none) ty env (.slice (some ⟨b,part o lo c s,none⟩) (l-lo) (c-lo)):=by
  intro ac w hf
  simp only[exop,execOp,hf.eval hx,Option.map_some,Option.map_none,hf.eval hy]
  have he:P.elem t=e:=by simp[Program.elem,ht]
  have ht':P.underlying t=some (.slice (P.elem t)):=by rw[he];exact ht
  rw[show(do pure (Next.value (←Instr.sliceAt t (.slice (some ⟨b,o,none⟩) l c) (some (.int k (lo:Int))) none none)):Sem Next).run P w=_ from by
    rw[Sem.run_bind,run_sliceAt_slice (P:=P) w t _ _ _ _ ht',run_slice_l (P:=P) w t (some ⟨b,o,none⟩) l c ht' k lo (by omega) (by omega)]]
  simp[he,hs,sliced_eq]
theorem S.slH{t e s:TypeId}{x z:Operand}{b o l c hi:Nat}{k':IntKind}(hx:ev? env x=some (.slice (some ⟨b,o,none⟩) l c))(hz:ev? env z=some (.int k' (hi:Int)))
    (h2:hi≤c)(ht:P.underlying t=some (.slice e))(hs:∀w,(sizeOf e).run P w=.ok s w):
    OpP P n (.slice t x none (some z) none) ty env (.slice (some ⟨b,o,none⟩) hi c):=by
  intro ac w hf
  simp only[exop,execOp,hf.eval hx,Option.map_some,Option.map_none,hf.eval hz]
  have he:P.elem t=e:=by simp[Program.elem,ht]
  have ht':P.underlying t=some (.slice (P.elem t)):=by rw[he];exact ht
  rw[show(do pure (Next.value (←Instr.sliceAt t (.slice (some ⟨b,o,none⟩) l c) none (some (.int k' (hi:Int))) none)):Sem Next).run P w=_ from by
    rw[Sem.run_bind,run_sliceAt_slice (P:=P) w t _ _ _ _ ht',run_slice_h (P:=P) w t (some ⟨b,o,none⟩) l c ht' k' hi (by omega) (by omega)]]
  have:part o 0 c s=o:=by unfold part;split<;>simp
  simp[he,hs,sliced_eq,this]
theorem Fo{t e s m:TypeId}{x:Operand}{lo hi:Option Operand}{b o l h:Nat}{k k':IntKind}(hx:ev? env x=some (.pointer (some ⟨b,o,none⟩)))
    (hlo:match lo with|some y=>ev? env y=some (.int k (l:Int))|none=>l=0)(hhi:match hi with|some z=>ev? env z=some (.int k' (h:Int))|none=>h=m)
    (h1:l≤h)(h2:h≤m)(ht:P.underlying t=some (.array m e))(hs:∀w,(sizeOf e).run P w=.ok s w):
    OpP P n (.slice t x lo hi none) ty env (.slice (some ⟨b,part o l m s,none⟩) (h-l) (m-l)):=by
  intro ac w hf
  simp only[exop,execOp,hf.eval hx]
  have key:∀(lo' hi':Option Value),(match lo' with|some v=>v=.int k (l:Int)|none=>l=0)→(match hi' with|some v=>v=.int k' (h:Int)|none=>h=m)→
      (Instr.sliceBounds false m m lo' hi' none).run P w=.ok (l,h,m) w:=by
    intro lo' hi' e1 e2
    cases hi' with
    |none=>
      cases lo' with
      |none=>simp only at e1 e2;subst e1 e2;rfl
      |some v=>
        simp only at e1 e2;subst e1 e2
        simp[Instr.sliceBounds,Instr.sliceBound,asIntOf,show(l:Int)≤(h:Int) by omega,h1]
    |some u=>
      simp only at e2;subst e2
      cases lo' with
      |none=>simp only at e1;subst e1;simp[Instr.sliceBounds,Instr.sliceBound,asIntOf,h2]
      |some v=>simp only at e1;subst e1;simp[Instr.sliceBounds,Instr.sliceBound,asIntOf,h1,h2]
  have hb:=key (lo.map ac.eval) (hi.map ac.eval) (by cases lo with|none=>exact hlo|some y=>exact hf.eval hlo) (by cases hi with|none=>exact hhi|some z=>exact hf.eval hhi)
  have hrun:(Instr.sliceAt t (.pointer (some ⟨b,o,none⟩)) (lo.map ac.eval) (hi.map ac.eval) none).run P w=.ok (.slice (some ⟨b,part o l m s,none⟩) (h-l) (m-l)) w:=by
    simp only[Instr.sliceAt,Sem.run_bind,underlying]
    simp only[Sem.run_bind,run_program,Result.andThen_ok,ht,Sem.run_pure,Instr.sureAddr]
    rw[hb]
    simp only[Result.andThen_ok,hs]
    unfold part
    by_cases hc:m=l
    · simp[hc]
    · simp[hc,Gx]
  simp[hrun]
theorem S.ixStr{t:TypeId}{x y:Operand}{s:ByteArray}{i:Nat}{k:IntKind}{c:UInt8}(hx:ev? env x=some (.string s))(hy:ev? env y=some (.int k (i:Int)))(hi:s[i]? =some c)
    (ht:P.underlying t=some .string):OpP P n (.index t x y) ty env (.int .u8 (c.toNat:Int)):=by
  intro ac w hf
  simp only[exop,execOp,hf.eval hx,hf.eval hy]
  simp[Instr.index,asIntOf,underlying,ht,hi]
end
open Go
def picks:List Nat→Frags→Option (Frags×Frags)
  | [],L=>some ([],L)
  |i::is,L=>match pull L i with
    |some (x,r)=>match picks is r with
      |some (A,F)=>some (x::A,F)
      |none=>none
    |none=>none
theorem Br:∀{is:List Nat} {L A F:Frags},picks is L=some (A,F)→L.Perm (A++F)
  | [],L,A,F,h=>by
    simp only[picks,Option.some.injEq,Prod.mk.injEq]at h
    obtain⟨rfl,rfl⟩:=h
    exact .refl _
  |i::is,L,A,F,h=>by
    simp only[picks]at h
    split at h
    · rename_i x r hx
      split at h
      · rename_i A' F' hr
        simp only[Option.some.injEq,Prod.mk.injEq]at h
        obtain⟨rfl,rfl⟩:=h
        exact(pull_perm hx).trans ((Br hr).cons x)
      · cases h
    · cases h
section
variable {P:Program}{H0:Known}{n:Nat}
theorem OpX.pick{op:Op}{ty:TypeId}{env:Env}{L A F:Frags}{R:Value→Frags→Prop}(is:List Nat)(hp:picks is L=some (A,F))(h:OpX P H0 n op ty env A R):
    OpX P H0 n op ty env L fun v L'=>∃L1,R v L1∧L'=L1++F:=(OpX.frame h).perm (Br hp)
theorem Fn.pick{f:FuncId}{args:Array Value}{L A F:Frags}{R:Value→Frags→Prop}(is:List Nat)(hp:picks is L=some (A,F))(h:Fn P H0 f args A R):
    Fn P H0 f args L fun v L'=>∃L1,R v L1∧L'=L1++F:=(Fn.frame h).perm (Br hp)
theorem Ai{ops:Array Oper}{d:Nat}{op:Op}{ty:TypeId}{pos:String}{af:Array Edge}{rest:List Oper}{env:Env}{L:Frags}{N:Post}{R:Value→Frags→Prop}
    (h:OpX P H0 n op ty env L R)(hd:Nat.blt d n=true)(k:∀v L',R v L'→wpE P H0 n ops rest ((d,v)::env) L' N):
    wpE P H0 n ops (⟨some d,op,ty,pos,af,none⟩::rest) env L N:=E.loud h hd k
theorem Ao{ops:Array Oper}{op:Op}{ty:TypeId}{pos:String}{af:Array Edge}{rest:List Oper}{env:Env}{L:Frags}{N:Post}{R:Value→Frags→Prop}
    (h:OpX P H0 n op ty env L R)(k:∀v L',R v L'→wpE P H0 n ops rest env L' N):
    wpE P H0 n ops (⟨none,op,ty,pos,af,none⟩::rest) env L N:=E.loud h rfl k
theorem Dd{ops:Array Oper}{l:List Oper}{env:Env}{L A F:Frags}{N:Post}(is:List Nat)(hp:picks is L=some (A,F))(h:wpE P H0 n ops l env (A++F) N):wpE P H0 n ops l env L N:=E.perm (Br hp) h
theorem Hv{c:Code}{env:Env}{L A F:Frags}{N X R}(is:List Nat)(hp:picks is L=some (A,F))(h:wpC P H0 n c env (A++F) N X R):wpC P H0 n c env L N X R:=C.perm (Br hp) h
theorem Du{x y:Code}{env:Env}{L:Frags}{N X R}{M:Post}(hx:wpC P H0 n x env L M X R)(hy:∀e l,M e l→wpC P H0 n y e l N X R):wpC P H0 n (.seq x y) env L N X R:=
  Am (C.mono hy hx)
theorem Bx{c:Code}{env:Env}{L L2:Frags}{N X R}(p:L=L2)(h:wpC P H0 n c env L2 N X R):wpC P H0 n c env L N X R:=p▸h
theorem Bi{c:Code}{env env2:Env}{L:Frags}{N X R}(p:env=env2)(h:wpC P H0 n c env2 L N X R):wpC P H0 n c env L N X R:=p▸h
theorem C.forget{c:Code}{env:Env}{L A F:Frags}{N X R}(is:List Nat)(hp:picks is L=some (A,F))(h:wpC P H0 n c env A N X R):wpC P H0 n c env L N X R:=by
  intro a w hf hw Q s
  have p:=Br hp
  have hA:Agree H0 (A++F) w.heap:=hw.perm p
  have base:∀{w' L'},To H0 w A w' L'→To H0 w L w' L':=fun t=>(To.frame hA t).drop.permL p
  exact h a w hf hA.drop Q ⟨fun e l a' w' h f t=>s.normal e l a' w' h f (base t),fun i K hk e l a' w' h f t=>s.exit i K hk e l a' w' h f (base t),
    fun i K hk e l a' w' h f t=>s.goto i K hk e l a' w' h f (base t),fun e l a' w' h f t=>s.ret e l a' w' h f (base t)⟩
theorem Ds{ops:Array Oper}{l:List Oper}{env:Env}{L A F:Frags}{N:Post}(is:List Nat)(hp:picks is L=some (A,F))(h:wpE P H0 n ops l env A N):wpE P H0 n ops l env L N:=by
  intro a w hf hw Q s
  have p:=Br hp
  have hA:Agree H0 (A++F) w.heap:=hw.perm p
  exact h a w hf hA.drop Q fun e l a' w' h f t=>s e l a' w' h f ((To.frame hA t).drop.permL p)
theorem C.known{c:Code}{env:Env}{L:Frags}{N X R}
    (h:∀K:Known,(∀b o,H0 b=some o→K b=some o)→(∀f∈L,∀j v,f.cs[j]? =some v→cellAt K f.b (f.o+j)=some v)→
      wpC P K n c env [] (fun e l=>N e (l++L)) (X.map fun p=>(p.1,fun e l=>p.2 e (l++L))) (fun e l=>R e (l++L))):wpC P H0 n c env L N X R:=by
  intro a w hf hw Q s
  let K:Known:=fun b=>match H0 b with
    |some o=>some o
    |none=>w.heap[b]?
  have hK1:∀b o,H0 b=some o→K b=some o:=fun b o hb=>by simp only[K,hb]
  have hK2:K.sits w.heap:=fun b o hb=>by
    simp only[K]at hb
    split at hb
    · rename_i o' ho
      simp only[Option.some.injEq]at hb
      subst hb
      exact hw.base b _ ho
    · exact hb
  have hK3:∀b,b<w.heap.size→∃o,K b=some o∧w.heap[b]? =some o:=fun b hb=>by
    cases hk:H0 b with
    |some o=>exact⟨o,hK1 b o hk,hw.base b o hk⟩
    |none=>exact⟨w.heap[b],by simp only[K,hk];exact Array.getElem?_eq_getElem hb,Array.getElem?_eq_getElem hb⟩
  have hcell:∀f∈L,∀j v,f.cs[j]? =some v→cellAt K f.b (f.o+j)=some v:=fun f hfL j v hj=>by
    obtain⟨cc,t,fr,hb,hv,_⟩:=(hw.ok f hfL).row
    have hl:=(List.getElem?_eq_some_iff.1 hj).1
    have h1:=hv j hl
    obtain⟨o,ho,ho2⟩:=hK3 f.b (Dv hb)
    rw[hb,Option.some.injEq]at ho2
    subst ho2
    rw[List.getElem?_eq_getElem hl]at hj
    simp only[cellAt,ho,h1]
    simpa using hj
  have up:∀{w' L'},To K w [] w' L'→To H0 w L w' (L'++L):=by
    intro w' L' t
    have same:∀b,b<w.heap.size→w'.heap[b]? =w.heap[b]? :=fun b hb=>t.old b hb (fun f hf=>by cases hf)
    have okL:∀f∈L,f.ok w'.heap:=fun f hf=>by
      obtain⟨cc,t,fr,hb,hv⟩:=(hw.ok f hf).row
      exact⟨cc,t,fr,by rw[same _ (Dv hb)];exact hb,hv⟩
    have new:∀f∈L',w.heap.size≤f.b:=fun f hf=>by
      rcases t.foot f hf with h1|⟨⟨g,hg,_⟩,_⟩
      · exact h1
      · cases hg
    refine⟨⟨fun b o hb=>?_,fun f hf=>?_,fun f hf=>?_,?_⟩,t.size,fun b hb _=>same b hb,fun b cc tt fr hb=>⟨cc,by rw[same b (Dv hb)];exact hb,rfl,fun _ _=>rfl⟩,fun f hf=>?_,t.os,t.tape,t.output⟩
    · have h1:=hw.base b o hb
      rw[same b (Dv h1)];exact h1
    · rcases List.mem_append.1 hf with h1|h1
      · cases hk:H0 f.b with
        |none=>rfl
        |some o=>exact absurd (Dv (hw.base _ o hk)) (by have:=new f h1;omega)
      · exact hw.up f h1
    · rcases List.mem_append.1 hf with h1|h1
      · exact t.st.ok f h1
      · exact okL f h1
    · refine List.pairwise_append.2 ⟨t.st.dis,hw.dis,fun f hf g hg b j h1 h2=>?_⟩
      have e1:=new f hf
      have e2:=(hw.ok g hg).lt
      have e3:=h1.1
      have e4:=h2.1
      omega
    · rcases List.mem_append.1 hf with h1|h1
      · exact .inl (new f h1)
      · exact .inr ⟨⟨f,h1,rfl⟩,fun j hj=>⟨f,h1,hj⟩⟩
  have lookMap:∀(X:List (Nat×Post)) t K',look (X.map fun p=>(p.1,fun e l=>p.2 e (l++L))) t=some K'→∃K0,look X t=some K0∧K'=fun e l=>K0 e (l++L):=by
    intro X
    induction X with
    |nil=>intro t K' h;simp[look]at h
    |cons p r ih=>
      intro t K' h
      simp only[List.map_cons,look]at h⊢
      cases hb:Nat.beq p.1 t with
      |true=>
        simp only[hb,cond_true,Option.some.injEq]at h⊢
        exact⟨p.2,rfl,h.symm⟩
      |false=>
        simp only[hb,cond_false]at h⊢
        exact ih t K' h
  refine h K hK1 hcell a w hf ⟨hK2,(fun f hf=>by cases hf),(fun f hf=>by cases hf),List.Pairwise.nil⟩ Q ⟨fun e l a' w' h f t=>s.normal e _ a' w' h f (up t),fun i K' hk e l a' w' h f t=>?_,
    fun i K' hk e l a' w' h f t=>?_,fun e l a' w' h f t=>s.ret e _ a' w' h f (up t)⟩
  · obtain⟨K0,h1,rfl⟩:=lookMap X _ _ hk
    exact s.exit i K0 h1 e _ a' w' h f (up t)
  · obtain⟨K0,h1,rfl⟩:=lookMap X _ _ hk
    exact s.goto i K0 h1 e _ a' w' h f (up t)
theorem Fn.still{f:FuncId}{args:Array Value}{L:Frags}{R:Value→Frags→Prop}
    (h:∀w:World,Agree H0 L w.heap→Fn P (fun b=>w.heap[b]?) f args [] R):Fn P H0 f args L fun v L'=>∃L1,R v L1∧L'=L1++L:=by
  intro w hw
  refine Calls.mono (h w hw w ⟨fun b o hb=>hb,(fun f hf=>by cases hf),(fun f hf=>by cases hf),List.Pairwise.nil⟩) ?_
  rintro e w'⟨v,L',rfl,hr,t⟩
  refine⟨v,L'++L,rfl,⟨L',hr,rfl⟩,?_⟩
  have same:∀b,b<w.heap.size→w'.heap[b]? =w.heap[b]? :=fun b hb=>t.old b hb (fun f hf=>by cases hf)
  have new:∀f∈L',w.heap.size≤f.b:=fun f hf=>by
    rcases t.foot f hf with h1|⟨⟨g,hg,_⟩,_⟩
    · exact h1
    · cases hg
  refine⟨⟨fun b o hb=>?_,fun f hf=>?_,fun f hf=>?_,?_⟩,t.size,fun b hb _=>same b hb,fun b cc tt fr hb=>⟨cc,by rw[same b (Dv hb)];exact hb,rfl,fun _ _=>rfl⟩,fun f hf=>?_,t.os,t.tape,t.output⟩
  · have h1:=hw.base b o hb
    rw[same b (Dv h1)];exact h1
  · rcases List.mem_append.1 hf with h1|h1
    · cases hk:H0 f.b with
      |none=>rfl
      |some o=>exact absurd (Dv (hw.base _ o hk)) (by have:=new f h1;omega)
    · exact hw.up f h1
  · rcases List.mem_append.1 hf with h1|h1
    · exact t.st.ok f h1
    · obtain⟨cc,t,fr,hb,hv⟩:=(hw.ok f h1).row
      exact⟨cc,t,fr,by rw[same _ (Dv hb)];exact hb,hv⟩
  · refine List.pairwise_append.2 ⟨t.st.dis,hw.dis,fun f hf g hg b j h1 h2=>?_⟩
    have e1:=new f hf
    have e2:=(hw.ok g hg).lt
    have e3:=h1.1
    have e4:=h2.1
    omega
  · rcases List.mem_append.1 hf with h1|h1
    · exact .inl (new f h1)
    · exact .inr ⟨⟨f,h1,rfl⟩,fun j hj=>⟨f,h1,hj⟩⟩
theorem Fn.stillR{f:FuncId}{args:Array Value}{L:Frags}{R:Value→Prop}
    (h:∀w:World,Agree H0 L w.heap→Fn P (fun b=>w.heap[b]?) f args [] fun v _=>R v):Fn P H0 f args L fun v L'=>R v∧L'=L:=by
  intro w hw
  refine Calls.mono (Fn.still (fun w hw=>h w hw) w hw) ?_
  rintro e w'⟨v,L',rfl,⟨L1,hr,rfl⟩,t⟩
  exact⟨v,L,rfl,⟨hr,rfl⟩,(t.permR List.perm_append_comm).drop⟩
theorem Agree.cellAt{L:Frags}{w:World}(hw:Agree H0 L w.heap){f:Frag}(hf:f∈L){j:Nat}{v:Value}(hj:f.cs[j]? =some v):cellAt (fun b=>w.heap[b]?) f.b (f.o+j)=some v:=by
  obtain⟨c,t,fr,hb,hv,_⟩:=(hw.ok f hf).row
  have hl:=(List.getElem?_eq_some_iff.1 hj).1
  have h1:=hv j hl
  rw[List.getElem?_eq_getElem hl]at hj
  simp only[Go.Eng.cellAt,hb,h1]
  simpa using hj
inductive Plan where
  |done
  |pure (i cl:Nat)(rest:Plan)
  |seg (s:List (Nat×Nat))(rest:Plan)
  |alt (i:Nat)(p:Plan)(more:Plan)
  |stop
def closedB(ops:Array Oper)(i:Nat)(cl:Array Bool):Bool:=
  (List.range ops.size).all fun j=>j==i||cl.getD j true|| !(Region.ready .any ops cl).contains j
def subB(ops:Array Oper)(l cl:Array Bool):Bool:=(List.range ops.size).all fun j=> !l.getD j true||cl.getD j false
def selB(ops:Array Oper):Bool:=ops.all fun o=>match o.op with|.select .. =>false|_=>true
def inList:Option (List Nat)→Nat→Bool
  |some s,j=>s.contains j
  |none,_=>true
def apartB(ops:Array Oper)(i:Nat)(l cl:Array Bool)(inn:Option (List Nat)):Bool:=
  match ops[i]? with
  |none=>false
  |some oi=>(List.range ops.size).all fun j=>match ops[j]? with
    |none=>true
    |some oj=>j==i||l.getD j true|| !cl.getD j true||(oi.apart ops oj&&inList inn j)
def depMask(o:Oper):Nat:=o.after.toList.foldl (fun m e=>if Region.binds .any e then m|||2^e.on else m) 0
def depsB(ops:Array Oper)(ds:List Nat):Bool:=ops.toList.map depMask==ds
def readyM(ds:List Nat)(l j:Nat):Bool:= !l.testBit j&&(ds.getD j 0&&&l==ds.getD j 0)
def firstM(ops:Array Oper)(ds:List Nat)(i l cl:Nat)(inn:Option (List Nat)):Bool:=
  readyM ds l i&&(l&&&cl==l)&&decide (cl<2^ops.size)&&
    (match ops[i]? with
     |none=>false
     |some oi=>(List.range ops.size).all fun j=>
        j==i||(if cl.testBit j then l.testBit j||((match ops[j]? with|some oj=>oi.apart ops oj|none=>false)&&inList inn j)else !(ds.getD j 0&&&cl==ds.getD j 0)))
def segM(ops:Array Oper)(ds:List Nat):List (Nat×Nat)→Nat→Bool
  | [],_=>true
  |p::s,l=>firstM ops ds p.1 l p.2 (some (s.map (·.1)))&&segM ops ds s (l|||2^p.1)
def allM:List (Nat×Nat)→Nat→Nat
  | [],l=>l
  |p::s,l=>allM s (l|||2^p.1)
def Plan.alts:Plan→List Nat
  |.alt i _ m=>i::m.alts
  |_=>[]
def Plan.ok(ops:Array Oper)(ds:List Nat):Plan→Nat→Bool→Nat→Bool
  |.done,f,_,l=>f==0&&(List.range ops.size).all fun j=> !readyM ds l j
  |.pure i cl r,f,_,l=>match f with
    |0=>false
    |f+1=>firstM ops ds i l cl none&&r.ok ops ds f true (l|||2^i)
  |.seg s r,f,_,l=>decide (s.length≤f)&&segM ops ds s l&&r.ok ops ds (f-s.length) true (allM s l)
  |.alt i p m,f,first,l=>match f with
    |0=>false
    |f'+1=>(!first||(readyM ds l i&&(List.range ops.size).all fun j=> !readyM ds l j||j==i||m.alts.contains j))&&decide (i<ops.size)&&p.ok ops ds f' true (l|||2^i)&&m.ok ops ds f false l
  |.stop,_,first,_=> !first
section
variable {ops:Array Oper}{ds:List Nat}
structure Rep(ops:Array Oper)(listed:Array Bool)(l:Nat):Prop where
  size:listed.size=ops.size
  bit:∀j,listed.getD j false=l.testBit j
theorem Rep.set{listed:Array Bool}{l i:Nat}(h:Rep ops listed l)(hi:i<ops.size):Rep ops (listed.setIfInBounds i true) (l|||2^i):=by
  refine⟨by simpa using h.size,fun j=>?_⟩
  rw[Nat.testBit_or,←h.bit j,Nat.testBit_two_pow]
  by_cases hij:i=j
  · subst hij
    have:i<listed.size:=by rw[h.size];exact hi
    simp[this]
  · rw[getD_set_ne false hij];simp[hij]
theorem depMask_bit(o:Oper)(k:Nat):(depMask o).testBit k=true↔∃e∈o.after,Region.binds .any e=true∧e.on=k:=by
  have key:∀(l:List Edge) (m:Nat),(l.foldl (fun m e=>if Region.binds .any e then m|||2^e.on else m) m).testBit k=true↔m.testBit k=true∨∃e∈l,Region.binds .any e=true∧e.on=k:=by
    intro l
    induction l with
    |nil=>intro m;simp
    |cons e r ih=>
      intro m
      rw[List.foldl_cons,ih]
      by_cases hb:Region.binds .any e=true
      · simp only[hb,if_true,Nat.testBit_or,Nat.testBit_two_pow,Bool.or_eq_true,decide_eq_true_eq,List.mem_cons]
        constructor
        · rintro((h|h)|⟨x,hx,h⟩)
          · exact .inl h
          · exact .inr ⟨e,.inl rfl,hb,h⟩
          · exact .inr ⟨x,.inr hx,h⟩
        · rintro(h|⟨x,rfl|hx,h⟩)
          · exact .inl (.inl h)
          · exact .inl (.inr h.2)
          · exact .inr ⟨x,hx,h⟩
      · simp only[hb,if_false,List.mem_cons,Bool.false_eq_true]
        constructor
        · rintro(h|⟨x,hx,h⟩)
          · exact .inl h
          · exact .inr ⟨x,.inr hx,h⟩
        · rintro(h|⟨x,rfl|hx,h⟩)
          · exact .inl h
          · exact absurd h.1 hb
          · exact .inr ⟨x,hx,h⟩
  unfold depMask
  rw[key]
  simp
theorem mask_sub{d l:Nat}:(d&&&l==d)=true↔∀k,d.testBit k=true→l.testBit k=true:=by
  rw[beq_iff_eq]
  constructor
  · intro h k hk
    have:=congrArg (·.testBit k) h
    simp only[Nat.testBit_and]at this
    rw[hk]at this
    simpa using this
  · intro h
    apply Nat.eq_of_testBit_eq
    intro k
    rw[Nat.testBit_and]
    cases hd:d.testBit k with
    |false=>simp
    |true=>simp[h k hd]
theorem deps_at(hds:depsB ops ds=true){j:Nat}{o:Oper}(ho:ops[j]? =some o):ds.getD j 0=depMask o:=by
  simp only[depsB,beq_iff_eq]at hds
  rw[←hds]
  have:ops.toList[j]? =some o:=by simpa using ho
  simp[List.getD,this]
theorem ready_rep(hds:depsB ops ds=true){listed:Array Bool}{l:Nat}(h:Rep ops listed l){j:Nat}(hj:j<ops.size):j∈Region.ready .any ops listed↔readyM ds l j=true:=by
  have ho:ops[j]? =some ops[j]:=Array.getElem?_eq_getElem hj
  rw[mem_ready]
  simp only[readyM,deps_at hds ho,Bool.and_eq_true,Bool.not_eq_true',mask_sub,depMask_bit]
  rw[getD_any' (by rw[h.size];exact hj) true false,h.bit]
  constructor
  · rintro⟨h1,o,h2,h3⟩
    rw[ho,Option.some.injEq]at h2
    subst h2
    exact⟨h1,fun k ⟨e,he,hb,hk⟩=>by rw[←hk,←h.bit];exact h3 e he hb⟩
  · rintro⟨h1,h2⟩
    exact⟨h1,_,ho,fun e he hb=>by rw[h.bit];exact h2 _ ⟨e,he,hb,rfl⟩⟩
where
  getD_any' {l:Array Bool} {k:Nat} (h:k<l.size) (x y:Bool):l.getD k x=l.getD k y:=by simp[h]
theorem Ja{listed:Array Bool}{j:Nat}(h:j∈Region.ready .any ops listed):j<ops.size:=by
  obtain⟨_,o,ho,_⟩:=mem_ready.1 h
  exact Dv ho
def maskArr(n m:Nat):Array Bool:=((List.range n).map fun j=>m.testBit j).toArray
theorem maskArr_rep{m:Nat}(hm:m<2^ops.size):Rep ops (maskArr ops.size m) m:=by
  refine⟨by simp[maskArr],fun j=>?_⟩
  rcases Nat.lt_or_ge j ops.size with h|h
  · simp[maskArr,h]
  · have h1:m.testBit j=false:=Nat.testBit_lt_two_pow (Nat.lt_of_lt_of_le hm (Nat.pow_le_pow_right (by omega) h))
    rw[h1]
    simp[maskArr,h]
theorem Jk(hds:depsB ops ds=true){i l cl:Nat}{q:Option (List Nat)}{listed:Array Bool}(hr:Rep ops listed l)(h:firstM ops ds i l cl q=true):
    ∃cl:Array Bool,i∈Region.ready .any ops listed∧closedB ops i cl=true∧subB ops listed cl=true∧apartB ops i listed cl q=true∧listed.size=ops.size∧cl.size=ops.size:=by
  simp only[firstM,Bool.and_eq_true,decide_eq_true_eq]at h
  obtain⟨⟨⟨h1,h2⟩,h3⟩,h4⟩:=h
  cases hoi:ops[i]? with
  |none=>rw[hoi]at h4;cases h4
  |some oi=>
    rw[hoi]at h4
    simp only[List.all_eq_true,List.mem_range]at h4
    have hi:i<ops.size:=Dv hoi
    have hc:=maskArr_rep (ops:=ops) h3
    have any:∀{a:Array Bool} {k:Nat},k<a.size→∀x y,a.getD k x=a.getD k y:=fun h x y=>by simp[h]
    refine⟨maskArr ops.size cl,(ready_rep hds hr hi).2 h1,?_,?_,?_,hr.size,hc.size⟩
    · simp only[closedB,List.all_eq_true,List.mem_range]
      intro j hj
      have h5:=h4 j hj
      rw[any (by rw[hc.size];exact hj) true false,hc.bit]
      by_cases hji:(j==i)=true
      · simp[hji]
      · simp only[hji,Bool.false_or,Bool.or_eq_true]at h5⊢
        cases hb:cl.testBit j with
        |true=>simp
        |false=>
          rw[hb]at h5
          simp only[Bool.false_eq_true,if_false,Bool.not_eq_true',or_false,false_or]at h5⊢
          simp only[List.contains_eq_mem,decide_eq_false_iff_not]
          rw[ready_rep hds hc hj]
          simp only[readyM,Bool.and_eq_true,not_and]
          intro _
          rw[h5];simp
    · simp only[subB,List.all_eq_true,List.mem_range]
      intro j hj
      rw[any (by rw[hr.size];exact hj) true false,hr.bit,hc.bit]
      cases hb:l.testBit j with
      |false=>simp
      |true=>rw[mask_sub.1 h2 j hb];simp
    · simp only[apartB,hoi,List.all_eq_true,List.mem_range]
      intro j hj
      have h5:=h4 j hj
      have hoj:ops[j]? =some ops[j]:=Array.getElem?_eq_getElem hj
      simp only[hoj]at h5⊢
      rw[any (by rw[hr.size];exact hj) true false,hr.bit,any (by rw[hc.size];exact hj) true false,hc.bit]
      by_cases hji:(j==i)=true
      · simp[hji]
      · simp only[hji,Bool.false_or,Bool.or_eq_true]at h5⊢
        cases hb:cl.testBit j with
        |false=>simp
        |true=>
          rw[hb]at h5
          simp only[if_true,Bool.or_eq_true]at h5
          rcases h5 with h5|h5
          · rw[h5];simp
          · exact .inr h5
end
variable {ops:Array Oper}{Q:Exit→Act→World→Prop}
def wpAnyC(P:Program)(C:World→Prop)(ops:Array Oper)(Q:Exit→Act→World→Prop):Nat→Array Bool→Act→World→Prop
  |0,listed,a,w=>Region.ready .any ops listed=[]∧Q .normal a w
  |fuel+1,listed,a,w=>
    (Region.ready .any ops listed=[]→Q .normal a w)∧
    ∀i∈Region.ready .any ops listed,wpOp P ops Q i (fun a' w'=>C w'∧wpAnyC P C ops Q fuel (listed.setIfInBounds i true) a' w') a w
theorem wpAnyC_any{C:World→Prop}:∀(fuel:Nat) (listed:Array Bool) (a:Act) (w:World),wpAnyC P C ops Q fuel listed a w→wpAny P .any ops Q fuel listed a w
  |0,_,_,_,h=>h
  |fuel+1,_,_,_,h=>⟨h.1,fun i hi=>wpOp_mono (fun a' w' h'=>wpAnyC_any fuel _ a' w' h'.2) (h.2 i hi)⟩
def YAt(P:Program)(ops:Array Oper)(o:Oper)(v:Value)(a:Act)(w:World):Prop:=
  (Region.wanted o (yielded ops a.tmps)=true∧(execOp a.eval o).run P w=.ok (.value v) w)∨(Region.wanted o (yielded ops a.tmps)=false∧v=undef)
theorem YAt.wpOp{i:Nat}{o:Oper}{v:Value}{a:Act}{w:World}(hi:ops[i]? =some o)(hy:YAt P ops o v a w){K:Act→World→Prop}(h:K (a.put o.dst v) w):wpOp P ops Q i K a w:=by
  unfold Go.wpOp
  simp only[hi]
  rcases hy with⟨hw,hv⟩|⟨hw,rfl⟩
  · simp only[hw,if_true,Oper.wp,hv,Oper.upon];exact .inl h
  · simp only[hw,Bool.false_eq_true,if_false];exact h
theorem YAt.of_same{o:Oper}{v:Value}{a a':Act}{w:World}(hy:YAt P ops o v a w)(he:execOp a'.eval o=execOp a.eval o)
    (hw:Region.wanted o (yielded ops a'.tmps)=Region.wanted o (yielded ops a.tmps)):YAt P ops o v a' w:=by
  unfold YAt at*
  rw[he,hw]
  exact hy
def YIn(P:Program)(C:World→Prop)(ops:Array Oper)(o:Oper)(v:Value)(a:Act):Prop:=∀w,C w→YAt P ops o v a w
theorem op_put{C:World→Prop}{j:Nat}{oi oj:Oper}{v:Value}(hj:ops[j]? =some oj)(hap:oi.apart ops oj=true)
    (hsi:∀cs b,oi.op≠.select cs b)(hsj:∀cs b,oj.op≠.select cs b)
    (hQ:∀c a w,¬Q (.panic c) a w){K:Act→World→Prop}{a:Act}{w:World}
    (hy:YIn P C ops oi v a)(h:wpOp P ops Q j K (a.put oi.dst v) w):
    wpOp P ops Q j (fun a' w'=>YIn P C ops oi v a'∧K (a'.put oi.dst v) w') a w:=by
  obtain⟨h1,h2,h3⟩:=Oper.apart_spec hap
  have keep:∀(a:Act),YIn P C ops oi v a→∀u,YIn P C ops oi v (a.put oj.dst u):=fun a hy u w hc=>
    (hy w hc).of_same (execOp_put oi hsi a oj.dst u h3) (wanted_put oi a oj.dst u h3)
  have keepD:∀d,YIn P C ops oi v {a with defers:=d::a.defers}:=fun d w hc=>(hy w hc).of_same rfl rfl
  unfold wpOp at*
  simp only[hj]at*
  rw[wanted_put oj a oi.dst v h1]at h
  split
  · rename_i hw
    simp only[hw,if_true]at h
    rcases h with h|⟨hasks,hlets⟩
    case inr=>exact .inr ⟨by unfold Oper.asks at*;rw[execOp_put oj hsj a oi.dst v h1]at hasks;exact hasks,hlets⟩
    refine .inl ?_
    unfold Oper.wp at*
    rw[execOp_put oj hsj a oi.dst v h1]at h
    generalize (execOp a.eval oj).run P w=r at*
    cases r with
    |ok n w'=>
      cases n<;>simp only[Oper.upon]at h⊢
      case value u=>exact⟨keep a hy u,by rw[←Act.put_comm a v u h2];exact h⟩
      case skip=>exact⟨keep a hy _,by rw[←Act.put_comm a v undef h2];exact h⟩
      case defer d=>
        refine⟨keep _ (keepD d) _,?_⟩
        rw[←Act.put_comm _ v undef h2,←Act.put_defers]
        exact h
      case enter f args=>
        refine Calls.mono h fun e w'' he=>?_
        cases e with
        |returned u=>exact⟨keep a hy u,by rw[←Act.put_comm a v u h2];exact he⟩
        |panicked c=>exact(hQ _ _ _ he).elim
        |outgrown=>exact he
      case row row args=>exact Rows.mono h fun u w'' he=>⟨keep a hy u,by rw[←Act.put_comm a v u h2];exact he⟩
    |halt x w'=>
      cases x<;>simp only[Oper.upon]at h⊢
      case panic u=>exact(hQ _ _ _ h).elim
  · rename_i hw
    simp only[hw]at h
    exact⟨keep a hy _,by rw[←Act.put_comm a v undef h2];exact h⟩
theorem getD_lt{l:Array Bool}{k:Nat}(h:l.getD k false=true):k<l.size:=by
  rcases Nat.lt_or_ge k l.size with h'|h'
  · exact h'
  · simp[Array.getElem?_eq_none h']at h
theorem getD_any{l:Array Bool}{k:Nat}(h:k<l.size)(x y:Bool):l.getD k x=l.getD k y:=by simp[h]
theorem inClosure{i:Nat}{cl:Array Bool}(hcl:closedB ops i cl=true){listed:Array Bool}(hls:listed.size=ops.size)(hs:subB ops listed cl=true){j:Nat}(hji:j≠i)
    (hj:j∈Region.ready .any ops listed):cl.getD j true=true∧j<ops.size:=by
  obtain⟨hu,oj,hoj,hall⟩:=mem_ready.1 hj
  have hjs:j<ops.size:=Dv hoj
  refine⟨?_,hjs⟩
  simp only[closedB,List.all_eq_true,List.mem_range]at hcl
  have h1:=hcl j hjs
  simp only[Bool.or_eq_true,beq_iff_eq,Bool.not_eq_true',List.contains_eq_mem,decide_eq_false_iff_not]at h1
  rcases h1 with(h1|h1)|h1
  · exact absurd h1 hji
  · exact h1
  · cases hc:cl.getD j true with
    |true=>rfl
    |false=>
      refine absurd (mem_ready.2 ⟨hc,oj,hoj,fun e he hb=>?_⟩) h1
      have h2:=hall e he hb
      have hes:=getD_lt h2
      simp only[subB,List.all_eq_true,List.mem_range]at hs
      have h3:=hs e.on (by omega)
      rw[getD_any hes true false,h2]at h3
      simpa using h3
theorem subB_set{i j:Nat}{cl listed:Array Bool}(hsz:cl.size=ops.size)(hs:subB ops listed cl=true)(hcj:cl.getD j true=true)(hjs:j<ops.size):subB ops (listed.setIfInBounds j true) cl=true:=by
  simp only[subB,List.all_eq_true,List.mem_range]at hs⊢
  intro k hk
  by_cases hkj:j=k
  · subst hkj
    rw[getD_any (by omega) false true,hcj];simp
  · rw[getD_set_ne true hkj];exact hs k hk
theorem apartB_at{i j:Nat}{oi oj:Oper}(hi:ops[i]? =some oi)(hoj:ops[j]? =some oj){l cl:Array Bool}{inn:Option (List Nat)}(h:apartB ops i l cl inn=true)(hji:j≠i)
    (hu:l.getD j true=false)(hcj:cl.getD j true=true):oi.apart ops oj=true∧∀s,inn=some s→j∈s:=by
  simp only[apartB,hi,List.all_eq_true,List.mem_range]at h
  have h2:=h j (Dv hoj)
  have hji':(j==i)=false:=by simpa using hji
  simp only[hoj,hji',hu,hcj,Bool.not_true,Bool.or_self,Bool.false_or,Bool.and_eq_true]at h2
  refine⟨h2.1,fun s hs=>?_⟩
  subst hs
  simpa[inList]using h2.2
theorem apartB_set{i j:Nat}{oi:Oper}(hi:ops[i]? =some oi){l cl:Array Bool}{inn inn':Option (List Nat)}(h:apartB ops i l cl inn=true)
    (hin:∀k,k≠j→inList inn k=true→inList inn' k=true):
    apartB ops i (l.setIfInBounds j true) cl inn'=true:=by
  simp only[apartB,hi,List.all_eq_true,List.mem_range]at h⊢
  intro k hk
  have h5:=h k hk
  cases hok:ops[k]? with
  |none=>simp
  |some ok=>
    simp only[hok]at h5⊢
    by_cases hkj:j=k
    · subst hkj
      have:(l.setIfInBounds j true).getD j true=true:=by simp
      rw[this];simp
    · rw[getD_set_ne true hkj]
      simp only[Bool.or_eq_true,Bool.and_eq_true]at h5⊢
      rcases h5 with h5|h5
      · exact .inl h5
      · exact .inr ⟨h5.1,hin k (fun e=>hkj e.symm) h5.2⟩
theorem first_in{C:World→Prop}{i:Nat}{oi:Oper}{v:Value}(hi:ops[i]? =some oi)(cl:Array Bool)
    (hsel:∀(j:Nat) (o:Oper) cs b,ops[j]? =some o→o.op≠.select cs b)(hQ:∀c a w,¬Q (.panic c) a w)
    (hcl:closedB ops i cl=true)(hsz:cl.size=ops.size):
    ∀(fuel:Nat) (listed:Array Bool) (a:Act) (w:World),listed.size=ops.size→subB ops listed cl=true→apartB ops i listed cl none=true→i∈Region.ready .any ops listed→YIn P C ops oi v a→C w→
      wpAnyC P C ops Q fuel (listed.setIfInBounds i true) (a.put oi.dst v) w→wpAnyC P C ops Q (fuel+1) listed a w:=by
  intro fuel
  induction fuel with
  |zero=>
    intro listed a w hls hs hap hr hy hC H
    refine⟨fun h=>(by rw[h]at hr;cases hr),fun j hj=>?_⟩
    by_cases hji:j=i
    · subst hji;exact(hy w hC).wpOp hi ⟨hC,H⟩
    · have:=ready_mono hj hji
      rw[H.1]at this
      cases this
  |succ fuel ih=>
    intro listed a w hls hs hap hr hy hC H
    refine⟨fun h=>(by rw[h]at hr;cases hr),fun j hj=>?_⟩
    by_cases hji:j=i
    · subst hji;exact(hy w hC).wpOp hi ⟨hC,H⟩
    · have h1:=H.2 j (ready_mono hj hji)
      obtain⟨hcj,hjs⟩:=inClosure hcl hls hs hji hj
      obtain⟨hu,oj,hoj,hall⟩:=mem_ready.1 hj
      have hap2:=(apartB_at hi hoj hap hji hu hcj).1
      have h3:=op_put (C:=C) hoj hap2 (fun cs b=>hsel i oi cs b hi) (fun cs b=>hsel j oj cs b hoj) hQ hy h1
      refine wpOp_mono (fun a' w' h4=>⟨h4.2.1,ih (listed.setIfInBounds j true) a' w' (by simpa using hls) (subB_set (i:=i) hsz hs hcj hjs) (apartB_set hi hap (fun _ _ h=>h)) (ready_mono hr (Ne.symm hji)) h4.1 h4.2.1 ?_⟩) h3
      rw[Array.setIfInBounds_comm _ _ hji]
      exact h4.2.2
def wpRun(P:Program)(ops:Array Oper)(w:World)(fin:Array Bool→Act→Prop):Nat→Array Bool→Act→Prop
  |0,listed,a=>fin listed a
  |f+1,listed,a=>Region.ready .any ops listed≠[]∧∀i∈Region.ready .any ops listed,∃o v,ops[i]? =some o∧YAt P ops o v a w∧wpRun P ops w fin f (listed.setIfInBounds i true) (a.put o.dst v)
theorem wpRun_any{C:World→Prop}{w:World}(hC:C w){fin:Array Bool→Act→Prop}{g:Nat}(hfin:∀l a,fin l a→wpAnyC P C ops Q g l a w):
    ∀(f:Nat) (listed:Array Bool) (a:Act),wpRun P ops w fin f listed a→wpAnyC P C ops Q (f+g) listed a w
  |0,l,a,h=>by rw[Nat.zero_add];exact hfin l a h
  |f+1,l,a,h=>by
    rw[show f+1+g=(f+g)+1 by omega]
    refine⟨fun h0=>absurd h0 h.1,fun i hi=>?_⟩
    obtain⟨o,v,ho,hy,hr⟩:=h.2 i hi
    exact hy.wpOp ho ⟨hC,wpRun_any hC hfin f _ _ hr⟩
theorem run_first{w:World}{fin:Array Bool→Act→Prop}{i:Nat}{oi:Oper}{v:Value}(hi:ops[i]? =some oi)(cl:Array Bool)
    (hsel:∀(j:Nat) (o:Oper) cs b,ops[j]? =some o→o.op≠.select cs b)
    (hcl:closedB ops i cl=true)(hsz:cl.size=ops.size):
    ∀(s:List Nat) (listed:Array Bool) (a:Act),s.Nodup→listed.size=ops.size→subB ops listed cl=true→apartB ops i listed cl (some s)=true→i∈Region.ready .any ops listed→YAt P ops oi v a w→
      wpRun P ops w fin s.length (listed.setIfInBounds i true) (a.put oi.dst v)→wpRun P ops w fin (s.length+1) listed a:=by
  intro s
  induction hn:s.length generalizing s with
  |zero=>
    intro listed a _ hls hs hap hr hy H
    refine⟨fun h=>(by rw[h]at hr;cases hr),fun j hj=>?_⟩
    by_cases hji:j=i
    · subst hji;exact⟨oi,v,hi,hy,H⟩
    · obtain⟨hcj,hjs⟩:=inClosure hcl hls hs hji hj
      obtain⟨hu,oj,hoj,_⟩:=mem_ready.1 hj
      have:=(apartB_at hi hoj hap hji hu hcj).2 s rfl
      rw[List.length_eq_zero_iff.1 hn]at this
      cases this
  |succ m ih=>
    intro listed a hnd hls hs hap hr hy H
    refine⟨fun h=>(by rw[h]at hr;cases hr),fun j hj=>?_⟩
    by_cases hji:j=i
    · subst hji;exact⟨oi,v,hi,hy,H⟩
    · obtain⟨hcj,hjs⟩:=inClosure hcl hls hs hji hj
      obtain⟨hu,oj,hoj,_⟩:=mem_ready.1 hj
      obtain⟨hap2,hin⟩:=apartB_at hi hoj hap hji hu hcj
      have hjs':=hin s rfl
      obtain⟨oj',u,hoj',hyj,hrun⟩:=H.2 j (ready_mono hj hji)
      have:oj'=oj:=Option.some.inj (hoj'.symm.trans hoj)
      subst this
      obtain⟨h1,h2,h3⟩:=Oper.apart_spec hap2
      refine⟨oj',u,hoj,?_,?_⟩
      · exact hyj.of_same (execOp_put oj' (fun cs b=>hsel j oj' cs b hoj) a oi.dst v h1).symm (wanted_put oj' a oi.dst v h1).symm
      · have hle:(s.erase j).length=m:=by rw[List.length_erase_of_mem hjs'];omega
        refine ih (s.erase j) hle (listed.setIfInBounds j true) (a.put oj'.dst u) (hnd.erase j) (by simpa using hls) (subB_set (i:=i) hsz hs hcj hjs) (apartB_set hi hap (fun k hk h=>?_)) (ready_mono hr (Ne.symm hji)) ?_ ?_
        · simp only[inList,List.contains_eq_mem,decide_eq_true_eq]at h⊢
          exact(List.mem_erase_of_ne hk).2 h
        · exact hy.of_same (execOp_put oi (fun cs b=>hsel i oi cs b hi) a oj'.dst u h3) (wanted_put oi a oj'.dst u h3)
        · rw[Array.setIfInBounds_comm _ _ hji,←Act.put_comm a v u h2]
          exact hrun
variable (P H0 n) in
def wpD(ops:Array Oper)(ds:List Nat)(p:Plan)(env:Env)(L:Frags)(N:Post):Prop:=
  ∀(fuel:Nat) (listed:Array Bool) (l:Nat),Rep ops listed l→depsB ops ds=true→p.ok ops ds fuel true l=true→selB ops=true→∀a w,Fits n env a→Agree H0 L w.heap→∀Nw:Act→World→Prop,
    (∀env' L' a' w',N env' L'→Fits n env' a'→To H0 w L w' L'→Nw a' w')→wpAnyC P (fun w=>H0.sits w.heap) ops (fun e a w=>e=.normal∧Nw a w) fuel listed a w
variable (P H0 n) in
def wpS(ops:Array Oper)(ds:List Nat)(s:List (Nat×Nat))(env:Env)(L:Frags)(M:Env→Prop):Prop:=
  ∀(listed:Array Bool) (l:Nat),Rep ops listed l→depsB ops ds=true→(s.map (·.1)).Nodup→segM ops ds s l=true→selB ops=true→∀a w,Fits n env a→Agree H0 L w.heap→∀fin:Array Bool→Act→Prop,
    (∀env' a' listed',M env'→Fits n env' a'→Rep ops listed' (allM s l)→fin listed' a')→wpRun P ops w fin s.length listed a
variable (P H0 n) in
def wpO(ops:Array Oper)(ds:List Nat)(i:Nat)(p:Plan)(env:Env)(L:Frags)(N:Post):Prop:=
  ∀(fuel:Nat) (listed:Array Bool) (l:Nat),Rep ops (listed.setIfInBounds i true) l→depsB ops ds=true→p.ok ops ds fuel true l=true→selB ops=true→∀a w,Fits n env a→Agree H0 L w.heap→∀Nw:Act→World→Prop,
    (∀env' L' a' w',N env' L'→Fits n env' a'→To H0 w L w' L'→Nw a' w')→
    wpOp P ops (fun e a w=>e=.normal∧Nw a w) i (fun a' w'=>H0.sits w'.heap∧wpAnyC P (fun w=>H0.sits w.heap) ops (fun e a w=>e=.normal∧Nw a w) fuel (listed.setIfInBounds i true) a' w') a w
variable (P H0 n) in
def wpM(ops:Array Oper)(ds:List Nat):Plan→Env→Frags→Post→Prop
  |.alt i p m,env,L,N=>wpO P H0 n ops ds i p env L N∧wpM ops ds m env L N
  |_,_,_,_=>True
theorem selB_spec(h:selB ops=true)(j:Nat)(o:Oper)(cs:Array SelectCase)(b:Bool)(ho:ops[j]? =some o):o.op≠.select cs b:=by
  intro e
  simp only[selB,Array.all_eq_true_iff_forall_mem]at h
  have:=h o (Array.mem_of_getElem? ho)
  rw[e]at this
  simp at this
theorem Bt{id:Nat}{l:List Oper}{env:Env}{L:Frags}{N X R}(ds:List Nat)(p:Plan)(hm:P.follows .mixedOrders=true)
    (hp:(depsB l.toArray ds&&p.ok l.toArray ds l.toArray.size true 0&&selB l.toArray)=true)
    (h:wpD P H0 n l.toArray ds p env L N):wpC P H0 n (.region id l.toArray true) env L N X R:=by
  intro a w hf hw Q s
  simp only[Bool.and_eq_true]at hp
  have hw':Agree H0 L ({w with drawn:=w.drawn+1}:World).heap:=hw
  have h1:=h l.toArray.size (Array.replicate l.toArray.size false) 0 ⟨by simp,fun j=>by rw[getD_replicate];simp⟩ hp.1.1 hp.1.2 hp.2 a {w with drawn:=w.drawn+1} hf hw' (fun a w=>Q .normal a w) (fun env' L' a' w' hN f t=>by
    refine s.normal env' L' a' w' hN f ⟨t.st,t.size,t.old,t.cells,t.foot,t.os,t.tape,t.output⟩)
  refine Code.wp_mono ?_ (wp_region_any (Q:=fun e a w=>e=.normal∧Q .normal a w) hm (wpAnyC_any _ _ _ _ h1))
  rintro e a w⟨rfl,h⟩;exact h
where
  getD_replicate (m j:Nat):(Array.replicate m false).getD j false=false:=by
    rcases Nat.lt_or_ge j m with h|h
    · simp[h]
    · simp[h]
theorem none_ready{ds:List Nat}(hds:depsB ops ds=true){listed:Array Bool}{l:Nat}(hr:Rep ops listed l)(h:∀j,j<ops.size→readyM ds l j=false):Region.ready .any ops listed=[]:=by
  rw[List.eq_nil_iff_forall_not_mem]
  intro j hj
  have:=(ready_rep hds hr (Ja hj)).1 hj
  rw[h j (Ja hj)]at this
  cases this
variable {ds:List Nat}
theorem D.keep{env env1:Env}{L:Frags}{N:Post}(ts:List Nat)(hk:keeps env ts=some env1)(h:N env1 L):wpD P H0 n ops ds .done env L N:=by
  intro fuel listed l hrep hds hp _ a w hf hw Nw k
  simp only[Plan.ok,Bool.and_eq_true,beq_iff_eq,List.all_eq_true,List.mem_range,Bool.not_eq_true']at hp
  obtain⟨rfl,hp⟩:=hp
  exact⟨none_ready hds hrep hp,rfl,k env1 L a w h (hf.keeps hk) (To.refl hw)⟩
theorem Hb{p:Plan}{env:Env}{L A F:Frags}{N:Post}(is:List Nat)(hp:picks is L=some (A,F))(h:wpD P H0 n ops ds p env (A++F) N):wpD P H0 n ops ds p env L N:=
  fun fuel listed l h0 h00 h1 h2 a w hf hw Nw k=>h fuel listed l h0 h00 h1 h2 a w hf (hw.perm (Br hp)) Nw fun e l a w h f t=>k e l a w h f (t.permL (Br hp))
theorem Dz{p:Plan}{env:Env}{L L2:Frags}{N:Post}(e:L=L2)(h:wpD P H0 n ops ds p env L2 N):wpD P H0 n ops ds p env L N:=e▸h
variable (P H0 n) in
def OpK(op:Op)(ty:TypeId)(env:Env)(v:Value):Prop:=
  ∀a w,Fits n env a→H0.sits w.heap→(exop a.eval op ty).run P w=.ok (.value v) w
theorem D.known{i d cl:Nat}{op:Op}{ty:TypeId}{pos:String}{af:Array Edge}{r:Plan}{env:Env}{L:Frags}{N:Post}{v:Value}(hi:ops[i]? =some ⟨some d,op,ty,pos,af,none⟩)
    (h:OpK P H0 n op ty env v)(hd:Nat.blt d n=true)(k:wpD P H0 n ops ds r ((d,v)::env) L N):wpD P H0 n ops ds (.pure i cl r) env L N:=by
  intro fuel listed l hrep hds hp hsel a w hf hw Nw hq
  cases fuel with
  |zero=>simp[Plan.ok]at hp
  |succ fuel=>
    simp only[Plan.ok,Bool.and_eq_true]at hp
    obtain⟨cla,h1,h2,h3,h4,h5,h6⟩:=Jk hds hrep hp.1
    have hd':d<n:=by rw[Nat.blt_eq]at hd;exact hd
    refine first_in hi cla (selB_spec hsel) (fun c a w hh=>by simp at hh) h2 h6 fuel listed a w h5 h3 h4 h1 (fun w hs=>.inl ⟨by simp[Region.wanted],h a w hf hs⟩) hw.base ?_
    exact k fuel _ _ (hrep.set (Ja h1)) hds hp.2 hsel _ w (hf.put hd' v) hw Nw hq
theorem Ah{i d cl:Nat}{op:Op}{ty:TypeId}{pos:String}{af:Array Edge}{r:Plan}{env:Env}{L:Frags}{N:Post}{v:Value}(hi:ops[i]? =some ⟨some d,op,ty,pos,af,none⟩)
    (h:OpP P n op ty env v)(hd:Nat.blt d n=true)(k:wpD P H0 n ops ds r ((d,v)::env) L N):wpD P H0 n ops ds (.pure i cl r) env L N:=
  D.known hi (fun a w hf _=>h a w hf) hd k
theorem Je{a:Act}{env:Env}(hf:Fits n env a){j t:Nat}{c:Bool}(ht:(ops[j]?).bind (·.dst)=some t)(hv:get? env t=some (.bool c)):yielded ops a.tmps j=some c:=by
  have:=hf.val t _ hv
  unfold yielded
  rw[ht]
  simp only[Option.bind_some]
  rw[Array.getD_eq_getD_getElem?]at this
  cases hx:a.tmps[t]? with
  |none=>rw[hx]at this;simp[undef]at this
  |some x=>rw[hx]at this;simp only[Option.getD_some]at this;subst this;rfl
theorem Fb{i j cl:Nat}{b:Bool}{dst:Option Nat}{op:Op}{ty:TypeId}{pos:String}{af:Array Edge}{r:Plan}{env:Env}{L:Frags}{N:Post}(t:Nat)(c:Bool)
    (hi:ops[i]? =some ⟨dst,op,ty,pos,af,some (j,b)⟩)(ht:(ops[j]?).bind (·.dst)=some t)(hv:get? env t=some (.bool c))(hc:c= !b)(hd:dstOk dst n=true)
    (k:wpD P H0 n ops ds r (ext dst undef env) L N):wpD P H0 n ops ds (.pure i cl r) env L N:=by
  intro fuel listed l hrep hds hp hsel a w hf hw Nw hq
  cases fuel with
  |zero=>simp[Plan.ok]at hp
  |succ fuel=>
    simp only[Plan.ok,Bool.and_eq_true]at hp
    obtain⟨cla,h1,h2,h3,h4,h5,h6⟩:=Jk hds hrep hp.1
    have hy:=Je (ops:=ops) hf ht hv
    have hne:(some c==some b)=false:=by subst hc;cases b<;>rfl
    refine first_in hi cla (selB_spec hsel) (fun c a w hh=>by simp at hh) h2 h6 fuel listed a w h5 h3 h4 h1 (fun w _=>.inr ⟨by simp only[Region.wanted,hy,hne],rfl⟩) hw.base ?_
    exact k fuel _ _ (hrep.set (Ja h1)) hds hp.2 hsel _ w (hf.ext hd undef) hw Nw hq
theorem Gq{i j d cl:Nat}{b:Bool}{op:Op}{ty:TypeId}{pos:String}{af:Array Edge}{r:Plan}{env:Env}{L:Frags}{N:Post}{v:Value}(t:Nat)
    (hi:ops[i]? =some ⟨some d,op,ty,pos,af,some (j,b)⟩)(ht:(ops[j]?).bind (·.dst)=some t)(hv:get? env t=some (.bool b))
    (h:OpK P H0 n op ty env v)(hd:Nat.blt d n=true)(k:wpD P H0 n ops ds r ((d,v)::env) L N):wpD P H0 n ops ds (.pure i cl r) env L N:=by
  intro fuel listed l hrep hds hp hsel a w hf hw Nw hq
  cases fuel with
  |zero=>simp[Plan.ok]at hp
  |succ fuel=>
    simp only[Plan.ok,Bool.and_eq_true]at hp
    obtain⟨cla,h1,h2,h3,h4,h5,h6⟩:=Jk hds hrep hp.1
    have hd':d<n:=by rw[Nat.blt_eq]at hd;exact hd
    have hy:=Je (ops:=ops) hf ht hv
    refine first_in hi cla (selB_spec hsel) (fun c a w hh=>by simp at hh) h2 h6 fuel listed a w h5 h3 h4 h1 (fun w hs=>.inl ⟨by simp only[Region.wanted,hy,beq_self_eq_true],h a w hf hs⟩) hw.base ?_
    exact k fuel _ _ (hrep.set (Ja h1)) hds hp.2 hsel _ w (hf.put hd' v) hw Nw hq
theorem OpP.toK{op:Op}{ty:TypeId}{env:Env}{v:Value}(h:OpP P n op ty env v):OpK P H0 n op ty env v:=fun a w hf _=>h a w hf
theorem Dc{s:List (Nat×Nat)}{r:Plan}{env:Env}{L:Frags}{N:Post}(hnd:(s.map (·.1)).Nodup)(h:wpS P H0 n ops ds s env L (fun e=>wpD P H0 n ops ds r e L N)):wpD P H0 n ops ds (.seg s r) env L N:=by
  intro fuel listed l hrep hds hp hsel a w hf hw Nw hq
  simp only[Plan.ok,Bool.and_eq_true,decide_eq_true_eq]at hp
  obtain⟨⟨h1,h2⟩,h3⟩:=hp
  have:=wpRun_any (P:=P) (ops:=ops) (Q:=fun e a w=>e=.normal∧Nw a w) (C:=fun w=>H0.sits w.heap) (w:=w) hw.base (g:=fuel-s.length) (fun l a h=>h) s.length listed a
    (h listed l hrep hds hnd h2 hsel a w hf hw _ (fun env' a' listed' hM hf' hr'=>hM (fuel-s.length) _ _ hr' hds h3 hsel a' w hf' hw Nw hq))
  rw[show s.length+(fuel-s.length)=fuel by omega]at this
  exact this
theorem run_first'{w:World}{fin:Array Bool→Act→Prop}{i:Nat}{oi:Oper}{v:Value}(hi:ops[i]? =some oi)(cl:Array Bool)
    (hsel:∀(j:Nat) (o:Oper) cs b,ops[j]? =some o→o.op≠.select cs b)
    (hcl:closedB ops i cl=true)(hsz:cl.size=ops.size)(s:List (Nat×Nat))(listed:Array Bool)(a:Act)(hnd:(s.map (·.1)).Nodup)(h1:listed.size=ops.size)(h2:subB ops listed cl=true)
    (h3:apartB ops i listed cl (some (s.map (·.1)))=true)(h4:i∈Region.ready .any ops listed)(h5:YAt P ops oi v a w)(h6:wpRun P ops w fin s.length (listed.setIfInBounds i true) (a.put oi.dst v)):wpRun P ops w fin (s.length+1) listed a:=by
  have:=run_first (fin:=fin) hi cl hsel hcl hsz (s.map (·.1)) listed a hnd h1 h2 h3 h4 h5 (by simpa using h6)
  simpa using this
theorem Da{env:Env}{L:Frags}{M:Env→Prop}(h:M env):wpS P H0 n ops ds [] env L M:=
  fun _ _ hr _ _ _ _ _ _ hf _ _ k=>k env _ _ h hf hr
theorem Au{i d cl:Nat}{op:Op}{ty:TypeId}{pos:String}{af:Array Edge}{s:List (Nat×Nat)}{env:Env}{L:Frags}{M:Env→Prop}{v:Value}(hi:ops[i]? =some ⟨some d,op,ty,pos,af,none⟩)
    (h:OpS P H0 n op ty env L v)(hd:Nat.blt d n=true)(k:wpS P H0 n ops ds s ((d,v)::env) L M):wpS P H0 n ops ds ((i,cl)::s) env L M:=by
  intro listed l hrep hds hnd hp hsel a w hf hw fin hq
  simp only[segM,Bool.and_eq_true]at hp
  obtain⟨cla,h1,h2,h3,h4,h5,h6⟩:=Jk hds hrep hp.1
  have hd':d<n:=by rw[Nat.blt_eq]at hd;exact hd
  exact run_first' hi cla (selB_spec hsel) h2 h6 s listed a (List.nodup_cons.1 hnd).2 h5 h3 h4 h1 (.inl ⟨by simp[Region.wanted],h a w hf hw⟩)
    (k _ _ (hrep.set (Ja h1)) hds (List.nodup_cons.1 hnd).2 hp.2 hsel _ w (hf.put hd' v) hw fin hq)
theorem Ba{i d cl:Nat}{op:Op}{ty:TypeId}{pos:String}{af:Array Edge}{s:List (Nat×Nat)}{env:Env}{L:Frags}{M:Env→Prop}{v:Value}(hi:ops[i]? =some ⟨some d,op,ty,pos,af,none⟩)
    (h:OpP P n op ty env v)(hd:Nat.blt d n=true)(k:wpS P H0 n ops ds s ((d,v)::env) L M):wpS P H0 n ops ds ((i,cl)::s) env L M:=
  Au hi (fun a w hf _=>h a w hf) hd k
theorem Hz{i j cl:Nat}{b:Bool}{dst:Option Nat}{op:Op}{ty:TypeId}{pos:String}{af:Array Edge}{s:List (Nat×Nat)}{env:Env}{L:Frags}{M:Env→Prop}(t:Nat)(c:Bool)
    (hi:ops[i]? =some ⟨dst,op,ty,pos,af,some (j,b)⟩)(ht:(ops[j]?).bind (·.dst)=some t)(hv:get? env t=some (.bool c))(hc:c= !b)(hd:dstOk dst n=true)
    (k:wpS P H0 n ops ds s (ext dst undef env) L M):wpS P H0 n ops ds ((i,cl)::s) env L M:=by
  intro listed l hrep hds hnd hp hsel a w hf hw fin hq
  simp only[segM,Bool.and_eq_true]at hp
  obtain⟨cla,h1,h2,h3,h4,h5,h6⟩:=Jk hds hrep hp.1
  have hy:=Je (ops:=ops) hf ht hv
  have hne:(some c==some b)=false:=by subst hc;cases b<;>rfl
  exact run_first' hi cla (selB_spec hsel) h2 h6 s listed a (List.nodup_cons.1 hnd).2 h5 h3 h4 h1 (.inr ⟨by simp only[Region.wanted,hy,hne],rfl⟩)
    (k _ _ (hrep.set (Ja h1)) hds (List.nodup_cons.1 hnd).2 hp.2 hsel _ w (hf.ext hd undef) hw fin hq)
theorem W.yes{i j d cl:Nat}{b:Bool}{op:Op}{ty:TypeId}{pos:String}{af:Array Edge}{s:List (Nat×Nat)}{env:Env}{L:Frags}{M:Env→Prop}{v:Value}(t:Nat)
    (hi:ops[i]? =some ⟨some d,op,ty,pos,af,some (j,b)⟩)(ht:(ops[j]?).bind (·.dst)=some t)(hv:get? env t=some (.bool b))
    (h:OpS P H0 n op ty env L v)(hd:Nat.blt d n=true)(k:wpS P H0 n ops ds s ((d,v)::env) L M):wpS P H0 n ops ds ((i,cl)::s) env L M:=by
  intro listed l hrep hds hnd hp hsel a w hf hw fin hq
  simp only[segM,Bool.and_eq_true]at hp
  obtain⟨cla,h1,h2,h3,h4,h5,h6⟩:=Jk hds hrep hp.1
  have hd':d<n:=by rw[Nat.blt_eq]at hd;exact hd
  have hy:=Je (ops:=ops) hf ht hv
  exact run_first' hi cla (selB_spec hsel) h2 h6 s listed a (List.nodup_cons.1 hnd).2 h5 h3 h4 h1 (.inl ⟨by simp only[Region.wanted,hy,beq_self_eq_true],h a w hf hw⟩)
    (k _ _ (hrep.set (Ja h1)) hds (List.nodup_cons.1 hnd).2 hp.2 hsel _ w (hf.put hd' v) hw fin hq)
theorem O.loud{i:Nat}{dst:Option Nat}{op:Op}{ty:TypeId}{pos:String}{af:Array Edge}{r:Plan}{env:Env}{L:Frags}{N:Post}{R:Value→Frags→Prop}
    (hi:ops[i]? =some ⟨dst,op,ty,pos,af,none⟩)(h:OpX P H0 n op ty env L R)(hd:dstOk dst n=true)(k:∀v L',R v L'→wpD P H0 n ops ds r (ext dst v env) L' N):
    wpO P H0 n ops ds i r env L N:=by
  intro fuel listed l hrep hds hp hsel a w hf hw Nw hq
  unfold wpOp
  simp only[hi,Region.wanted,if_true]
  refine .inl ?_
  simp only[Oper.wp,execOp_exop]
  refine upon_of_out hf hd (fun v L' w' hr t=>⟨t.st.base,?_⟩) (h a w hf hw)
  exact k v L' hr fuel _ _ hrep hds hp hsel _ w' (hf.ext hd v) t.st Nw fun e l a2 w2 h f t2=>hq e l a2 w2 h f (t.trans t2)
theorem Di{i:Nat}{op:Op}{ty:TypeId}{pos:String}{af:Array Edge}{r:Plan}{env:Env}{L:Frags}{N:Post}{R:Value→Frags→Prop}
    (hi:ops[i]? =some ⟨none,op,ty,pos,af,none⟩)(h:OpX P H0 n op ty env L R)(k:∀v L',R v L'→wpD P H0 n ops ds r env L' N):
    wpO P H0 n ops ds i r env L N:=O.loud hi h rfl k
theorem Bo{i d:Nat}{op:Op}{ty:TypeId}{pos:String}{af:Array Edge}{r:Plan}{env:Env}{L:Frags}{N:Post}{R:Value→Frags→Prop}
    (hi:ops[i]? =some ⟨some d,op,ty,pos,af,none⟩)(h:OpX P H0 n op ty env L R)(hd:Nat.blt d n=true)(k:∀v L',R v L'→wpD P H0 n ops ds r ((d,v)::env) L' N):
    wpO P H0 n ops ds i r env L N:=O.loud hi h hd k
theorem O.yes{i j d:Nat}{b:Bool}{op:Op}{ty:TypeId}{pos:String}{af:Array Edge}{r:Plan}{env:Env}{L:Frags}{N:Post}{R:Value→Frags→Prop}(t:Nat)
    (hi:ops[i]? =some ⟨some d,op,ty,pos,af,some (j,b)⟩)(ht:(ops[j]?).bind (·.dst)=some t)(hv:get? env t=some (.bool b))
    (h:OpX P H0 n op ty env L R)(hd:Nat.blt d n=true)(k:∀v L',R v L'→wpD P H0 n ops ds r ((d,v)::env) L' N):
    wpO P H0 n ops ds i r env L N:=by
  intro fuel listed l hrep hds hp hsel a w hf hw Nw hq
  have hy:=Je (ops:=ops) hf ht hv
  unfold wpOp
  simp only[hi,Region.wanted,hy,beq_self_eq_true,if_true]
  refine .inl ?_
  simp only[Oper.wp,execOp_exop]
  refine upon_of_out (o:=⟨some d,op,ty,pos,af,some (j,b)⟩) hf (show dstOk (some d) n=true from hd) (fun v L' w' hr t=>⟨t.st.base,?_⟩) (h a w hf hw)
  exact k v L' hr fuel _ _ hrep hds hp hsel _ w' (hf.ext (dst:=some d) hd v) t.st Nw fun e l a2 w2 h f t2=>hq e l a2 w2 h f (t.trans t2)
theorem El{i d:Nat}{op:Op}{ty:TypeId}{pos:String}{af:Array Edge}{r:Plan}{env:Env}{L:Frags}{N:Post}{v:Value}
    (hi:ops[i]? =some ⟨some d,op,ty,pos,af,none⟩)(h:OpS P H0 n op ty env L v)(hd:Nat.blt d n=true)(k:wpD P H0 n ops ds r ((d,v)::env) L N):
    wpO P H0 n ops ds i r env L N:=
  O.loud hi (R:=fun u L'=>u=v∧L'=L) (fun a w hf hw=>by rw[h a w hf hw];exact⟨L,⟨rfl,rfl⟩,To.refl hw⟩) hd (by rintro u L'⟨rfl,rfl⟩;exact k)
theorem wpM_at{fuel:Nat}{listed:Array Bool}{l:Nat}(hrep:Rep ops listed l)(hds:depsB ops ds=true)(hsel:selB ops=true){a:Act}{w:World}{env:Env}{L:Frags}{N:Post}(hf:Fits n env a)(hw:Agree H0 L w.heap){Nw:Act→World→Prop}
    (hq:∀env' L' a' w',N env' L'→Fits n env' a'→To H0 w L w' L'→Nw a' w'):∀(p:Plan),p.ok ops ds (fuel+1) false l=true→wpM P H0 n ops ds p env L N→∀i∈p.alts,
    wpOp P ops (fun e a w=>e=.normal∧Nw a w) i (fun a' w'=>H0.sits w'.heap∧wpAnyC P (fun w=>H0.sits w.heap) ops (fun e a w=>e=.normal∧Nw a w) fuel (listed.setIfInBounds i true) a' w') a w
  |.alt i p m,hok,hm,j,hj=>by
    simp only[Plan.ok,Bool.not_false,Bool.true_or,Bool.true_and,Bool.and_eq_true,decide_eq_true_eq]at hok
    simp only[Plan.alts,List.mem_cons]at hj
    rcases hj with rfl|hj
    · exact hm.1 fuel listed _ (hrep.set hok.1.1) hds hok.1.2 hsel a w hf hw Nw hq
    · exact wpM_at hrep hds hsel hf hw hq m hok.2 hm.2 j hj
  |.done,_,_,j,hj=>by simp[Plan.alts]at hj
  |.pure _ _ _,_,_,j,hj=>by simp[Plan.alts]at hj
  |.seg _ _,_,_,j,hj=>by simp[Plan.alts]at hj
  |.stop,_,_,j,hj=>by simp[Plan.alts]at hj
theorem Hc{i:Nat}{p m:Plan}{env:Env}{L:Frags}{N:Post}(h1:wpO P H0 n ops ds i p env L N)(h2:wpM P H0 n ops ds m env L N):wpD P H0 n ops ds (.alt i p m) env L N:=by
  intro fuel listed l hrep hds hp hsel a w hf hw Nw hq
  cases fuel with
  |zero=>simp[Plan.ok]at hp
  |succ fuel=>
    simp only[Plan.ok,Bool.not_true,Bool.false_or,Bool.and_eq_true,decide_eq_true_eq,List.all_eq_true,List.mem_range,Bool.or_eq_true,Bool.not_eq_true',beq_iff_eq,List.contains_eq_mem]at hp
    obtain⟨⟨⟨⟨hri,hall⟩,hil⟩,hpo⟩,hmo⟩:=hp
    refine⟨fun h0=>?_,fun k hk=>?_⟩
    · have:=(ready_rep hds hrep hil).2 hri
      rw[h0]at this
      cases this
    · have hk2:=(ready_rep hds hrep (Ja hk)).1 hk
      rcases hall k (Ja hk)with(h3|h3)|h3
      · rw[hk2]at h3;cases h3
      · subst h3
        exact h1 fuel listed _ (hrep.set hil) hds hpo hsel a w hf hw Nw hq
      · exact wpM_at hrep hds hsel hf hw hq m hmo h2 k h3
theorem By{i:Nat}{r:Plan}{env:Env}{L:Frags}{N:Post}(h:wpO P H0 n ops ds i r env L N):wpD P H0 n ops ds (.alt i r .stop) env L N:=Hc h trivial
theorem Jh{x:Operand}{t ty:TypeId}{env:Env}{b o:Nat}{v:Value}(h:ev? env x=some (.pointer (some ⟨b,o,none⟩)))
    (hv:cellAt H0 b o=some v)(hag:∀w,(isAgg t).run P w=.ok false w):OpK P H0 n (.load t x) ty env v:=by
  intro a w hf hw
  simp only[exop,execOp,hf.eval h]
  have:=run_load1 (P:=P) hag (cell_of_known hw hv)
  simp[this]
end
theorem Em{P:Program}{H0:Known}{n:Nat}{ops:Array Oper}{d:Nat}{ty:TypeId}{pos:String}{af:Array Edge}{rest:List Oper}{env:Env}{L:Frags}{N:Post}{v:Value}{x:Operand}(h:ev? env x=some v)(hd:Nat.blt d n=true)(k:wpE P H0 n ops rest ((d,v)::env) L N):wpE P H0 n ops (⟨some d,.move x,ty,pos,af,none⟩::rest) env L N:=Aa (Fp h) hd k
theorem Ea{P:Program}{H0:Known}{n:Nat}{ops:Array Oper}{d:Nat}{ty:TypeId}{pos:String}{af:Array Edge}{rest:List Oper}{env:Env}{L:Frags}{N:Post}{v:Value}{x:Operand}(h:ev? env x=some v)(hd:Nat.blt d n=true)(k:wpE P H0 n ops rest ((d,v)::env) L N):wpE P H0 n ops (⟨some d,.assign x,ty,pos,af,none⟩::rest) env L N:=Aa (Az h) hd k
theorem Dm{P:Program}{H0:Known}{n:Nat}{ops:Array Oper}{ds:List Nat}{i d cl:Nat}{x:Operand}{ty:TypeId}{pos:String}{af:Array Edge}{r:Plan}{env:Env}{L:Frags}{N:Post}{v:Value}(hi:ops[i]? =some ⟨some d,.move x,ty,pos,af,none⟩)(h:ev? env x=some v)(hd:Nat.blt d n=true)(k:wpD P H0 n ops ds r ((d,v)::env) L N):wpD P H0 n ops ds (.pure i cl r) env L N:=Ah hi (Fp h) hd k
theorem Cr{P:Program}{H0:Known}{n:Nat}{id:Nat}{l:List Oper}{y:Code}{env:Env}{L:Frags}{N X R}(h:wpE P H0 n l.toArray l env L (fun e l=>wpC P H0 n y e l N X R)):wpC P H0 n (.seq (.region id l.toArray false) y) env L N X R:=Am (Al h)
theorem Dk1{P:Program}{H0:Known}{n:Nat}{ops:Array Oper}{ds:List Nat}{env:Env}{L:Frags}{N:Post}(a0:Nat){v0:Value}(hk:keeps env [a0]=some [(a0,v0)])(h:N [(a0,v0)] L):wpD P H0 n ops ds .done env L N:=D.keep _ hk h
theorem Dk2{P:Program}{H0:Known}{n:Nat}{ops:Array Oper}{ds:List Nat}{env:Env}{L:Frags}{N:Post}(a0 a1:Nat){v0 v1:Value}(hk:keeps env [a0,a1]=some [(a0,v0),(a1,v1)])(h:N [(a0,v0),(a1,v1)] L):wpD P H0 n ops ds .done env L N:=D.keep _ hk h
theorem Dk3{P:Program}{H0:Known}{n:Nat}{ops:Array Oper}{ds:List Nat}{env:Env}{L:Frags}{N:Post}(a0 a1 a2:Nat){v0 v1 v2:Value}(hk:keeps env [a0,a1,a2]=some [(a0,v0),(a1,v1),(a2,v2)])(h:N [(a0,v0),(a1,v1),(a2,v2)] L):wpD P H0 n ops ds .done env L N:=D.keep _ hk h
theorem Dk4{P:Program}{H0:Known}{n:Nat}{ops:Array Oper}{ds:List Nat}{env:Env}{L:Frags}{N:Post}(a0 a1 a2 a3:Nat){v0 v1 v2 v3:Value}(hk:keeps env [a0,a1,a2,a3]=some [(a0,v0),(a1,v1),(a2,v2),(a3,v3)])(h:N [(a0,v0),(a1,v1),(a2,v2),(a3,v3)] L):wpD P H0 n ops ds .done env L N:=D.keep _ hk h
theorem Dk5{P:Program}{H0:Known}{n:Nat}{ops:Array Oper}{ds:List Nat}{env:Env}{L:Frags}{N:Post}(a0 a1 a2 a3 a4:Nat){v0 v1 v2 v3 v4:Value}(hk:keeps env [a0,a1,a2,a3,a4]=some [(a0,v0),(a1,v1),(a2,v2),(a3,v3),(a4,v4)])(h:N [(a0,v0),(a1,v1),(a2,v2),(a3,v3),(a4,v4)] L):wpD P H0 n ops ds .done env L N:=D.keep _ hk h
theorem Dk6{P:Program}{H0:Known}{n:Nat}{ops:Array Oper}{ds:List Nat}{env:Env}{L:Frags}{N:Post}(a0 a1 a2 a3 a4 a5:Nat){v0 v1 v2 v3 v4 v5:Value}(hk:keeps env [a0,a1,a2,a3,a4,a5]=some [(a0,v0),(a1,v1),(a2,v2),(a3,v3),(a4,v4),(a5,v5)])(h:N [(a0,v0),(a1,v1),(a2,v2),(a3,v3),(a4,v4),(a5,v5)] L):wpD P H0 n ops ds .done env L N:=D.keep _ hk h
theorem Dk7{P:Program}{H0:Known}{n:Nat}{ops:Array Oper}{ds:List Nat}{env:Env}{L:Frags}{N:Post}(a0 a1 a2 a3 a4 a5 a6:Nat){v0 v1 v2 v3 v4 v5 v6:Value}(hk:keeps env [a0,a1,a2,a3,a4,a5,a6]=some [(a0,v0),(a1,v1),(a2,v2),(a3,v3),(a4,v4),(a5,v5),(a6,v6)])(h:N [(a0,v0),(a1,v1),(a2,v2),(a3,v3),(a4,v4),(a5,v5),(a6,v6)] L):wpD P H0 n ops ds .done env L N:=D.keep _ hk h
theorem Dk8{P:Program}{H0:Known}{n:Nat}{ops:Array Oper}{ds:List Nat}{env:Env}{L:Frags}{N:Post}(a0 a1 a2 a3 a4 a5 a6 a7:Nat){v0 v1 v2 v3 v4 v5 v6 v7:Value}(hk:keeps env [a0,a1,a2,a3,a4,a5,a6,a7]=some [(a0,v0),(a1,v1),(a2,v2),(a3,v3),(a4,v4),(a5,v5),(a6,v6),(a7,v7)])(h:N [(a0,v0),(a1,v1),(a2,v2),(a3,v3),(a4,v4),(a5,v5),(a6,v6),(a7,v7)] L):wpD P H0 n ops ds .done env L N:=D.keep _ hk h
theorem Dk9{P:Program}{H0:Known}{n:Nat}{ops:Array Oper}{ds:List Nat}{env:Env}{L:Frags}{N:Post}(a0 a1 a2 a3 a4 a5 a6 a7 a8:Nat){v0 v1 v2 v3 v4 v5 v6 v7 v8:Value}(hk:keeps env [a0,a1,a2,a3,a4,a5,a6,a7,a8]=some [(a0,v0),(a1,v1),(a2,v2),(a3,v3),(a4,v4),(a5,v5),(a6,v6),(a7,v7),(a8,v8)])(h:N [(a0,v0),(a1,v1),(a2,v2),(a3,v3),(a4,v4),(a5,v5),(a6,v6),(a7,v7),(a8,v8)] L):wpD P H0 n ops ds .done env L N:=D.keep _ hk h
theorem Dk10{P:Program}{H0:Known}{n:Nat}{ops:Array Oper}{ds:List Nat}{env:Env}{L:Frags}{N:Post}(a0 a1 a2 a3 a4 a5 a6 a7 a8 a9:Nat){v0 v1 v2 v3 v4 v5 v6 v7 v8 v9:Value}(hk:keeps env [a0,a1,a2,a3,a4,a5,a6,a7,a8,a9]=some [(a0,v0),(a1,v1),(a2,v2),(a3,v3),(a4,v4),(a5,v5),(a6,v6),(a7,v7),(a8,v8),(a9,v9)])(h:N [(a0,v0),(a1,v1),(a2,v2),(a3,v3),(a4,v4),(a5,v5),(a6,v6),(a7,v7),(a8,v8),(a9,v9)] L):wpD P H0 n ops ds .done env L N:=D.keep _ hk h
theorem Dk11{P:Program}{H0:Known}{n:Nat}{ops:Array Oper}{ds:List Nat}{env:Env}{L:Frags}{N:Post}(a0 a1 a2 a3 a4 a5 a6 a7 a8 a9 a10:Nat){v0 v1 v2 v3 v4 v5 v6 v7 v8 v9 v10:Value}(hk:keeps env [a0,a1,a2,a3,a4,a5,a6,a7,a8,a9,a10]=some [(a0,v0),(a1,v1),(a2,v2),(a3,v3),(a4,v4),(a5,v5),(a6,v6),(a7,v7),(a8,v8),(a9,v9),(a10,v10)])(h:N [(a0,v0),(a1,v1),(a2,v2),(a3,v3),(a4,v4),(a5,v5),(a6,v6),(a7,v7),(a8,v8),(a9,v9),(a10,v10)] L):wpD P H0 n ops ds .done env L N:=D.keep _ hk h
theorem Dk12{P:Program}{H0:Known}{n:Nat}{ops:Array Oper}{ds:List Nat}{env:Env}{L:Frags}{N:Post}(a0 a1 a2 a3 a4 a5 a6 a7 a8 a9 a10 a11:Nat){v0 v1 v2 v3 v4 v5 v6 v7 v8 v9 v10 v11:Value}(hk:keeps env [a0,a1,a2,a3,a4,a5,a6,a7,a8,a9,a10,a11]=some [(a0,v0),(a1,v1),(a2,v2),(a3,v3),(a4,v4),(a5,v5),(a6,v6),(a7,v7),(a8,v8),(a9,v9),(a10,v10),(a11,v11)])(h:N [(a0,v0),(a1,v1),(a2,v2),(a3,v3),(a4,v4),(a5,v5),(a6,v6),(a7,v7),(a8,v8),(a9,v9),(a10,v10),(a11,v11)] L):wpD P H0 n ops ds .done env L N:=D.keep _ hk h
theorem Dk13{P:Program}{H0:Known}{n:Nat}{ops:Array Oper}{ds:List Nat}{env:Env}{L:Frags}{N:Post}(a0 a1 a2 a3 a4 a5 a6 a7 a8 a9 a10 a11 a12:Nat){v0 v1 v2 v3 v4 v5 v6 v7 v8 v9 v10 v11 v12:Value}(hk:keeps env [a0,a1,a2,a3,a4,a5,a6,a7,a8,a9,a10,a11,a12]=some [(a0,v0),(a1,v1),(a2,v2),(a3,v3),(a4,v4),(a5,v5),(a6,v6),(a7,v7),(a8,v8),(a9,v9),(a10,v10),(a11,v11),(a12,v12)])(h:N [(a0,v0),(a1,v1),(a2,v2),(a3,v3),(a4,v4),(a5,v5),(a6,v6),(a7,v7),(a8,v8),(a9,v9),(a10,v10),(a11,v11),(a12,v12)] L):wpD P H0 n ops ds .done env L N:=D.keep _ hk h
theorem Ek1{P:Program}{H0:Known}{n:Nat}{ops:Array Oper}{env:Env}{L:Frags}{N:Post}(a0:Nat){v0:Value}(hk:keeps env [a0]=some [(a0,v0)])(h:N [(a0,v0)] L):wpE P H0 n ops [] env L N:=Fz _ hk h
theorem Ek2{P:Program}{H0:Known}{n:Nat}{ops:Array Oper}{env:Env}{L:Frags}{N:Post}(a0 a1:Nat){v0 v1:Value}(hk:keeps env [a0,a1]=some [(a0,v0),(a1,v1)])(h:N [(a0,v0),(a1,v1)] L):wpE P H0 n ops [] env L N:=Fz _ hk h
theorem Ek3{P:Program}{H0:Known}{n:Nat}{ops:Array Oper}{env:Env}{L:Frags}{N:Post}(a0 a1 a2:Nat){v0 v1 v2:Value}(hk:keeps env [a0,a1,a2]=some [(a0,v0),(a1,v1),(a2,v2)])(h:N [(a0,v0),(a1,v1),(a2,v2)] L):wpE P H0 n ops [] env L N:=Fz _ hk h
theorem Ek4{P:Program}{H0:Known}{n:Nat}{ops:Array Oper}{env:Env}{L:Frags}{N:Post}(a0 a1 a2 a3:Nat){v0 v1 v2 v3:Value}(hk:keeps env [a0,a1,a2,a3]=some [(a0,v0),(a1,v1),(a2,v2),(a3,v3)])(h:N [(a0,v0),(a1,v1),(a2,v2),(a3,v3)] L):wpE P H0 n ops [] env L N:=Fz _ hk h
theorem Ek5{P:Program}{H0:Known}{n:Nat}{ops:Array Oper}{env:Env}{L:Frags}{N:Post}(a0 a1 a2 a3 a4:Nat){v0 v1 v2 v3 v4:Value}(hk:keeps env [a0,a1,a2,a3,a4]=some [(a0,v0),(a1,v1),(a2,v2),(a3,v3),(a4,v4)])(h:N [(a0,v0),(a1,v1),(a2,v2),(a3,v3),(a4,v4)] L):wpE P H0 n ops [] env L N:=Fz _ hk h
theorem Ek6{P:Program}{H0:Known}{n:Nat}{ops:Array Oper}{env:Env}{L:Frags}{N:Post}(a0 a1 a2 a3 a4 a5:Nat){v0 v1 v2 v3 v4 v5:Value}(hk:keeps env [a0,a1,a2,a3,a4,a5]=some [(a0,v0),(a1,v1),(a2,v2),(a3,v3),(a4,v4),(a5,v5)])(h:N [(a0,v0),(a1,v1),(a2,v2),(a3,v3),(a4,v4),(a5,v5)] L):wpE P H0 n ops [] env L N:=Fz _ hk h
theorem Ek7{P:Program}{H0:Known}{n:Nat}{ops:Array Oper}{env:Env}{L:Frags}{N:Post}(a0 a1 a2 a3 a4 a5 a6:Nat){v0 v1 v2 v3 v4 v5 v6:Value}(hk:keeps env [a0,a1,a2,a3,a4,a5,a6]=some [(a0,v0),(a1,v1),(a2,v2),(a3,v3),(a4,v4),(a5,v5),(a6,v6)])(h:N [(a0,v0),(a1,v1),(a2,v2),(a3,v3),(a4,v4),(a5,v5),(a6,v6)] L):wpE P H0 n ops [] env L N:=Fz _ hk h
theorem Ek8{P:Program}{H0:Known}{n:Nat}{ops:Array Oper}{env:Env}{L:Frags}{N:Post}(a0 a1 a2 a3 a4 a5 a6 a7:Nat){v0 v1 v2 v3 v4 v5 v6 v7:Value}(hk:keeps env [a0,a1,a2,a3,a4,a5,a6,a7]=some [(a0,v0),(a1,v1),(a2,v2),(a3,v3),(a4,v4),(a5,v5),(a6,v6),(a7,v7)])(h:N [(a0,v0),(a1,v1),(a2,v2),(a3,v3),(a4,v4),(a5,v5),(a6,v6),(a7,v7)] L):wpE P H0 n ops [] env L N:=Fz _ hk h
theorem Ek9{P:Program}{H0:Known}{n:Nat}{ops:Array Oper}{env:Env}{L:Frags}{N:Post}(a0 a1 a2 a3 a4 a5 a6 a7 a8:Nat){v0 v1 v2 v3 v4 v5 v6 v7 v8:Value}(hk:keeps env [a0,a1,a2,a3,a4,a5,a6,a7,a8]=some [(a0,v0),(a1,v1),(a2,v2),(a3,v3),(a4,v4),(a5,v5),(a6,v6),(a7,v7),(a8,v8)])(h:N [(a0,v0),(a1,v1),(a2,v2),(a3,v3),(a4,v4),(a5,v5),(a6,v6),(a7,v7),(a8,v8)] L):wpE P H0 n ops [] env L N:=Fz _ hk h
theorem Ek10{P:Program}{H0:Known}{n:Nat}{ops:Array Oper}{env:Env}{L:Frags}{N:Post}(a0 a1 a2 a3 a4 a5 a6 a7 a8 a9:Nat){v0 v1 v2 v3 v4 v5 v6 v7 v8 v9:Value}(hk:keeps env [a0,a1,a2,a3,a4,a5,a6,a7,a8,a9]=some [(a0,v0),(a1,v1),(a2,v2),(a3,v3),(a4,v4),(a5,v5),(a6,v6),(a7,v7),(a8,v8),(a9,v9)])(h:N [(a0,v0),(a1,v1),(a2,v2),(a3,v3),(a4,v4),(a5,v5),(a6,v6),(a7,v7),(a8,v8),(a9,v9)] L):wpE P H0 n ops [] env L N:=Fz _ hk h
theorem Ek11{P:Program}{H0:Known}{n:Nat}{ops:Array Oper}{env:Env}{L:Frags}{N:Post}(a0 a1 a2 a3 a4 a5 a6 a7 a8 a9 a10:Nat){v0 v1 v2 v3 v4 v5 v6 v7 v8 v9 v10:Value}(hk:keeps env [a0,a1,a2,a3,a4,a5,a6,a7,a8,a9,a10]=some [(a0,v0),(a1,v1),(a2,v2),(a3,v3),(a4,v4),(a5,v5),(a6,v6),(a7,v7),(a8,v8),(a9,v9),(a10,v10)])(h:N [(a0,v0),(a1,v1),(a2,v2),(a3,v3),(a4,v4),(a5,v5),(a6,v6),(a7,v7),(a8,v8),(a9,v9),(a10,v10)] L):wpE P H0 n ops [] env L N:=Fz _ hk h
theorem Ek12{P:Program}{H0:Known}{n:Nat}{ops:Array Oper}{env:Env}{L:Frags}{N:Post}(a0 a1 a2 a3 a4 a5 a6 a7 a8 a9 a10 a11:Nat){v0 v1 v2 v3 v4 v5 v6 v7 v8 v9 v10 v11:Value}(hk:keeps env [a0,a1,a2,a3,a4,a5,a6,a7,a8,a9,a10,a11]=some [(a0,v0),(a1,v1),(a2,v2),(a3,v3),(a4,v4),(a5,v5),(a6,v6),(a7,v7),(a8,v8),(a9,v9),(a10,v10),(a11,v11)])(h:N [(a0,v0),(a1,v1),(a2,v2),(a3,v3),(a4,v4),(a5,v5),(a6,v6),(a7,v7),(a8,v8),(a9,v9),(a10,v10),(a11,v11)] L):wpE P H0 n ops [] env L N:=Fz _ hk h
theorem Ek13{P:Program}{H0:Known}{n:Nat}{ops:Array Oper}{env:Env}{L:Frags}{N:Post}(a0 a1 a2 a3 a4 a5 a6 a7 a8 a9 a10 a11 a12:Nat){v0 v1 v2 v3 v4 v5 v6 v7 v8 v9 v10 v11 v12:Value}(hk:keeps env [a0,a1,a2,a3,a4,a5,a6,a7,a8,a9,a10,a11,a12]=some [(a0,v0),(a1,v1),(a2,v2),(a3,v3),(a4,v4),(a5,v5),(a6,v6),(a7,v7),(a8,v8),(a9,v9),(a10,v10),(a11,v11),(a12,v12)])(h:N [(a0,v0),(a1,v1),(a2,v2),(a3,v3),(a4,v4),(a5,v5),(a6,v6),(a7,v7),(a8,v8),(a9,v9),(a10,v10),(a11,v11),(a12,v12)] L):wpE P H0 n ops [] env L N:=Fz _ hk h
theorem Ek14{P:Program}{H0:Known}{n:Nat}{ops:Array Oper}{env:Env}{L:Frags}{N:Post}(a0 a1 a2 a3 a4 a5 a6 a7 a8 a9 a10 a11 a12 a13:Nat){v0 v1 v2 v3 v4 v5 v6 v7 v8 v9 v10 v11 v12 v13:Value}(hk:keeps env [a0,a1,a2,a3,a4,a5,a6,a7,a8,a9,a10,a11,a12,a13]=some [(a0,v0),(a1,v1),(a2,v2),(a3,v3),(a4,v4),(a5,v5),(a6,v6),(a7,v7),(a8,v8),(a9,v9),(a10,v10),(a11,v11),(a12,v12),(a13,v13)])(h:N [(a0,v0),(a1,v1),(a2,v2),(a3,v3),(a4,v4),(a5,v5),(a6,v6),(a7,v7),(a8,v8),(a9,v9),(a10,v10),(a11,v11),(a12,v12),(a13,v13)] L):wpE P H0 n ops [] env L N:=Fz _ hk h
theorem Ek15{P:Program}{H0:Known}{n:Nat}{ops:Array Oper}{env:Env}{L:Frags}{N:Post}(a0 a1 a2 a3 a4 a5 a6 a7 a8 a9 a10 a11 a12 a13 a14:Nat){v0 v1 v2 v3 v4 v5 v6 v7 v8 v9 v10 v11 v12 v13 v14:Value}(hk:keeps env [a0,a1,a2,a3,a4,a5,a6,a7,a8,a9,a10,a11,a12,a13,a14]=some [(a0,v0),(a1,v1),(a2,v2),(a3,v3),(a4,v4),(a5,v5),(a6,v6),(a7,v7),(a8,v8),(a9,v9),(a10,v10),(a11,v11),(a12,v12),(a13,v13),(a14,v14)])(h:N [(a0,v0),(a1,v1),(a2,v2),(a3,v3),(a4,v4),(a5,v5),(a6,v6),(a7,v7),(a8,v8),(a9,v9),(a10,v10),(a11,v11),(a12,v12),(a13,v13),(a14,v14)] L):wpE P H0 n ops [] env L N:=Fz _ hk h
theorem Ek16{P:Program}{H0:Known}{n:Nat}{ops:Array Oper}{env:Env}{L:Frags}{N:Post}(a0 a1 a2 a3 a4 a5 a6 a7 a8 a9 a10 a11 a12 a13 a14 a15:Nat){v0 v1 v2 v3 v4 v5 v6 v7 v8 v9 v10 v11 v12 v13 v14 v15:Value}(hk:keeps env [a0,a1,a2,a3,a4,a5,a6,a7,a8,a9,a10,a11,a12,a13,a14,a15]=some [(a0,v0),(a1,v1),(a2,v2),(a3,v3),(a4,v4),(a5,v5),(a6,v6),(a7,v7),(a8,v8),(a9,v9),(a10,v10),(a11,v11),(a12,v12),(a13,v13),(a14,v14),(a15,v15)])(h:N [(a0,v0),(a1,v1),(a2,v2),(a3,v3),(a4,v4),(a5,v5),(a6,v6),(a7,v7),(a8,v8),(a9,v9),(a10,v10),(a11,v11),(a12,v12),(a13,v13),(a14,v14),(a15,v15)] L):wpE P H0 n ops [] env L N:=Fz _ hk h
theorem Ek17{P:Program}{H0:Known}{n:Nat}{ops:Array Oper}{env:Env}{L:Frags}{N:Post}(a0 a1 a2 a3 a4 a5 a6 a7 a8 a9 a10 a11 a12 a13 a14 a15 a16:Nat){v0 v1 v2 v3 v4 v5 v6 v7 v8 v9 v10 v11 v12 v13 v14 v15 v16:Value}(hk:keeps env [a0,a1,a2,a3,a4,a5,a6,a7,a8,a9,a10,a11,a12,a13,a14,a15,a16]=some [(a0,v0),(a1,v1),(a2,v2),(a3,v3),(a4,v4),(a5,v5),(a6,v6),(a7,v7),(a8,v8),(a9,v9),(a10,v10),(a11,v11),(a12,v12),(a13,v13),(a14,v14),(a15,v15),(a16,v16)])(h:N [(a0,v0),(a1,v1),(a2,v2),(a3,v3),(a4,v4),(a5,v5),(a6,v6),(a7,v7),(a8,v8),(a9,v9),(a10,v10),(a11,v11),(a12,v12),(a13,v13),(a14,v14),(a15,v15),(a16,v16)] L):wpE P H0 n ops [] env L N:=Fz _ hk h
theorem Ek18{P:Program}{H0:Known}{n:Nat}{ops:Array Oper}{env:Env}{L:Frags}{N:Post}(a0 a1 a2 a3 a4 a5 a6 a7 a8 a9 a10 a11 a12 a13 a14 a15 a16 a17:Nat){v0 v1 v2 v3 v4 v5 v6 v7 v8 v9 v10 v11 v12 v13 v14 v15 v16 v17:Value}(hk:keeps env [a0,a1,a2,a3,a4,a5,a6,a7,a8,a9,a10,a11,a12,a13,a14,a15,a16,a17]=some [(a0,v0),(a1,v1),(a2,v2),(a3,v3),(a4,v4),(a5,v5),(a6,v6),(a7,v7),(a8,v8),(a9,v9),(a10,v10),(a11,v11),(a12,v12),(a13,v13),(a14,v14),(a15,v15),(a16,v16),(a17,v17)])(h:N [(a0,v0),(a1,v1),(a2,v2),(a3,v3),(a4,v4),(a5,v5),(a6,v6),(a7,v7),(a8,v8),(a9,v9),(a10,v10),(a11,v11),(a12,v12),(a13,v13),(a14,v14),(a15,v15),(a16,v16),(a17,v17)] L):wpE P H0 n ops [] env L N:=Fz _ hk h
theorem Ek19{P:Program}{H0:Known}{n:Nat}{ops:Array Oper}{env:Env}{L:Frags}{N:Post}(a0 a1 a2 a3 a4 a5 a6 a7 a8 a9 a10 a11 a12 a13 a14 a15 a16 a17 a18:Nat){v0 v1 v2 v3 v4 v5 v6 v7 v8 v9 v10 v11 v12 v13 v14 v15 v16 v17 v18:Value}(hk:keeps env [a0,a1,a2,a3,a4,a5,a6,a7,a8,a9,a10,a11,a12,a13,a14,a15,a16,a17,a18]=some [(a0,v0),(a1,v1),(a2,v2),(a3,v3),(a4,v4),(a5,v5),(a6,v6),(a7,v7),(a8,v8),(a9,v9),(a10,v10),(a11,v11),(a12,v12),(a13,v13),(a14,v14),(a15,v15),(a16,v16),(a17,v17),(a18,v18)])(h:N [(a0,v0),(a1,v1),(a2,v2),(a3,v3),(a4,v4),(a5,v5),(a6,v6),(a7,v7),(a8,v8),(a9,v9),(a10,v10),(a11,v11),(a12,v12),(a13,v13),(a14,v14),(a15,v15),(a16,v16),(a17,v17),(a18,v18)] L):wpE P H0 n ops [] env L N:=Fz _ hk h
theorem Ek20{P:Program}{H0:Known}{n:Nat}{ops:Array Oper}{env:Env}{L:Frags}{N:Post}(a0 a1 a2 a3 a4 a5 a6 a7 a8 a9 a10 a11 a12 a13 a14 a15 a16 a17 a18 a19:Nat){v0 v1 v2 v3 v4 v5 v6 v7 v8 v9 v10 v11 v12 v13 v14 v15 v16 v17 v18 v19:Value}(hk:keeps env [a0,a1,a2,a3,a4,a5,a6,a7,a8,a9,a10,a11,a12,a13,a14,a15,a16,a17,a18,a19]=some [(a0,v0),(a1,v1),(a2,v2),(a3,v3),(a4,v4),(a5,v5),(a6,v6),(a7,v7),(a8,v8),(a9,v9),(a10,v10),(a11,v11),(a12,v12),(a13,v13),(a14,v14),(a15,v15),(a16,v16),(a17,v17),(a18,v18),(a19,v19)])(h:N [(a0,v0),(a1,v1),(a2,v2),(a3,v3),(a4,v4),(a5,v5),(a6,v6),(a7,v7),(a8,v8),(a9,v9),(a10,v10),(a11,v11),(a12,v12),(a13,v13),(a14,v14),(a15,v15),(a16,v16),(a17,v17),(a18,v18),(a19,v19)] L):wpE P H0 n ops [] env L N:=Fz _ hk h
theorem Ek21{P:Program}{H0:Known}{n:Nat}{ops:Array Oper}{env:Env}{L:Frags}{N:Post}(a0 a1 a2 a3 a4 a5 a6 a7 a8 a9 a10 a11 a12 a13 a14 a15 a16 a17 a18 a19 a20:Nat){v0 v1 v2 v3 v4 v5 v6 v7 v8 v9 v10 v11 v12 v13 v14 v15 v16 v17 v18 v19 v20:Value}(hk:keeps env [a0,a1,a2,a3,a4,a5,a6,a7,a8,a9,a10,a11,a12,a13,a14,a15,a16,a17,a18,a19,a20]=some [(a0,v0),(a1,v1),(a2,v2),(a3,v3),(a4,v4),(a5,v5),(a6,v6),(a7,v7),(a8,v8),(a9,v9),(a10,v10),(a11,v11),(a12,v12),(a13,v13),(a14,v14),(a15,v15),(a16,v16),(a17,v17),(a18,v18),(a19,v19),(a20,v20)])(h:N [(a0,v0),(a1,v1),(a2,v2),(a3,v3),(a4,v4),(a5,v5),(a6,v6),(a7,v7),(a8,v8),(a9,v9),(a10,v10),(a11,v11),(a12,v12),(a13,v13),(a14,v14),(a15,v15),(a16,v16),(a17,v17),(a18,v18),(a19,v19),(a20,v20)] L):wpE P H0 n ops [] env L N:=Fz _ hk h
theorem Dt5{P:Program}{H0:Known}{n:Nat}{ops:Array Oper}{ds:List Nat}{r:Plan}{env:Env}{L:Frags}{N:Post}{a0 a1 a2 a3:Frag}{T:Frags}(p:L=a0::a1::a2::a3::T)(h:wpD P H0 n ops ds r env (a0::a1::a2::a3::T) N):wpD P H0 n ops ds r env L N:=Dz p h
theorem Dt7{P:Program}{H0:Known}{n:Nat}{ops:Array Oper}{ds:List Nat}{r:Plan}{env:Env}{L:Frags}{N:Post}{a0 a1 a2 a3 a4 a5:Frag}{T:Frags}(p:L=a0::a1::a2::a3::a4::a5::T)(h:wpD P H0 n ops ds r env (a0::a1::a2::a3::a4::a5::T) N):wpD P H0 n ops ds r env L N:=Dz p h
theorem Dt8{P:Program}{H0:Known}{n:Nat}{ops:Array Oper}{ds:List Nat}{r:Plan}{env:Env}{L:Frags}{N:Post}{a0 a1 a2 a3 a4 a5 a6:Frag}{T:Frags}(p:L=a0::a1::a2::a3::a4::a5::a6::T)(h:wpD P H0 n ops ds r env (a0::a1::a2::a3::a4::a5::a6::T) N):wpD P H0 n ops ds r env L N:=Dz p h
theorem Dt9{P:Program}{H0:Known}{n:Nat}{ops:Array Oper}{ds:List Nat}{r:Plan}{env:Env}{L:Frags}{N:Post}{a0 a1 a2 a3 a4 a5 a6 a7:Frag}{T:Frags}(p:L=a0::a1::a2::a3::a4::a5::a6::a7::T)(h:wpD P H0 n ops ds r env (a0::a1::a2::a3::a4::a5::a6::a7::T) N):wpD P H0 n ops ds r env L N:=Dz p h
theorem Dt10{P:Program}{H0:Known}{n:Nat}{ops:Array Oper}{ds:List Nat}{r:Plan}{env:Env}{L:Frags}{N:Post}{a0 a1 a2 a3 a4 a5 a6 a7 a8:Frag}{T:Frags}(p:L=a0::a1::a2::a3::a4::a5::a6::a7::a8::T)(h:wpD P H0 n ops ds r env (a0::a1::a2::a3::a4::a5::a6::a7::a8::T) N):wpD P H0 n ops ds r env L N:=Dz p h
theorem Dt11{P:Program}{H0:Known}{n:Nat}{ops:Array Oper}{ds:List Nat}{r:Plan}{env:Env}{L:Frags}{N:Post}{a0 a1 a2 a3 a4 a5 a6 a7 a8 a9:Frag}{T:Frags}(p:L=a0::a1::a2::a3::a4::a5::a6::a7::a8::a9::T)(h:wpD P H0 n ops ds r env (a0::a1::a2::a3::a4::a5::a6::a7::a8::a9::T) N):wpD P H0 n ops ds r env L N:=Dz p h
theorem Dr1{P:Program}{H0:Known}{n:Nat}{ops:Array Oper}{ds:List Nat}{r:Plan}{env:Env}{L:Frags}{N:Post}{a0:Frag}(p:L=[a0])(h:wpD P H0 n ops ds r env ([a0]) N):wpD P H0 n ops ds r env L N:=Dz p h
theorem Dr2{P:Program}{H0:Known}{n:Nat}{ops:Array Oper}{ds:List Nat}{r:Plan}{env:Env}{L:Frags}{N:Post}{a0 a1:Frag}(p:L=[a0,a1])(h:wpD P H0 n ops ds r env ([a0,a1]) N):wpD P H0 n ops ds r env L N:=Dz p h
theorem Dr3{P:Program}{H0:Known}{n:Nat}{ops:Array Oper}{ds:List Nat}{r:Plan}{env:Env}{L:Frags}{N:Post}{a0 a1 a2:Frag}(p:L=[a0,a1,a2])(h:wpD P H0 n ops ds r env ([a0,a1,a2]) N):wpD P H0 n ops ds r env L N:=Dz p h
theorem Dr4{P:Program}{H0:Known}{n:Nat}{ops:Array Oper}{ds:List Nat}{r:Plan}{env:Env}{L:Frags}{N:Post}{a0 a1 a2 a3:Frag}(p:L=[a0,a1,a2,a3])(h:wpD P H0 n ops ds r env ([a0,a1,a2,a3]) N):wpD P H0 n ops ds r env L N:=Dz p h
theorem Dr5{P:Program}{H0:Known}{n:Nat}{ops:Array Oper}{ds:List Nat}{r:Plan}{env:Env}{L:Frags}{N:Post}{a0 a1 a2 a3 a4:Frag}(p:L=[a0,a1,a2,a3,a4])(h:wpD P H0 n ops ds r env ([a0,a1,a2,a3,a4]) N):wpD P H0 n ops ds r env L N:=Dz p h
theorem Dr6{P:Program}{H0:Known}{n:Nat}{ops:Array Oper}{ds:List Nat}{r:Plan}{env:Env}{L:Frags}{N:Post}{a0 a1 a2 a3 a4 a5:Frag}(p:L=[a0,a1,a2,a3,a4,a5])(h:wpD P H0 n ops ds r env ([a0,a1,a2,a3,a4,a5]) N):wpD P H0 n ops ds r env L N:=Dz p h
theorem Dr7{P:Program}{H0:Known}{n:Nat}{ops:Array Oper}{ds:List Nat}{r:Plan}{env:Env}{L:Frags}{N:Post}{a0 a1 a2 a3 a4 a5 a6:Frag}(p:L=[a0,a1,a2,a3,a4,a5,a6])(h:wpD P H0 n ops ds r env ([a0,a1,a2,a3,a4,a5,a6]) N):wpD P H0 n ops ds r env L N:=Dz p h
theorem Dr8{P:Program}{H0:Known}{n:Nat}{ops:Array Oper}{ds:List Nat}{r:Plan}{env:Env}{L:Frags}{N:Post}{a0 a1 a2 a3 a4 a5 a6 a7:Frag}(p:L=[a0,a1,a2,a3,a4,a5,a6,a7])(h:wpD P H0 n ops ds r env ([a0,a1,a2,a3,a4,a5,a6,a7]) N):wpD P H0 n ops ds r env L N:=Dz p h
theorem Dr10{P:Program}{H0:Known}{n:Nat}{ops:Array Oper}{ds:List Nat}{r:Plan}{env:Env}{L:Frags}{N:Post}{a0 a1 a2 a3 a4 a5 a6 a7 a8 a9:Frag}(p:L=[a0,a1,a2,a3,a4,a5,a6,a7,a8,a9])(h:wpD P H0 n ops ds r env ([a0,a1,a2,a3,a4,a5,a6,a7,a8,a9]) N):wpD P H0 n ops ds r env L N:=Dz p h
theorem Et2{P:Program}{H0:Known}{n:Nat}{ops:Array Oper}{l:List Oper}{env:Env}{L:Frags}{N:Post}{a0:Frag}{T:Frags}(p:L=a0::T)(h:wpE P H0 n ops l env (a0::T) N):wpE P H0 n ops l env L N:=Ax p h
theorem Et3{P:Program}{H0:Known}{n:Nat}{ops:Array Oper}{l:List Oper}{env:Env}{L:Frags}{N:Post}{a0 a1:Frag}{T:Frags}(p:L=a0::a1::T)(h:wpE P H0 n ops l env (a0::a1::T) N):wpE P H0 n ops l env L N:=Ax p h
theorem Et4{P:Program}{H0:Known}{n:Nat}{ops:Array Oper}{l:List Oper}{env:Env}{L:Frags}{N:Post}{a0 a1 a2:Frag}{T:Frags}(p:L=a0::a1::a2::T)(h:wpE P H0 n ops l env (a0::a1::a2::T) N):wpE P H0 n ops l env L N:=Ax p h
theorem Et5{P:Program}{H0:Known}{n:Nat}{ops:Array Oper}{l:List Oper}{env:Env}{L:Frags}{N:Post}{a0 a1 a2 a3:Frag}{T:Frags}(p:L=a0::a1::a2::a3::T)(h:wpE P H0 n ops l env (a0::a1::a2::a3::T) N):wpE P H0 n ops l env L N:=Ax p h
theorem Et7{P:Program}{H0:Known}{n:Nat}{ops:Array Oper}{l:List Oper}{env:Env}{L:Frags}{N:Post}{a0 a1 a2 a3 a4 a5:Frag}{T:Frags}(p:L=a0::a1::a2::a3::a4::a5::T)(h:wpE P H0 n ops l env (a0::a1::a2::a3::a4::a5::T) N):wpE P H0 n ops l env L N:=Ax p h
theorem Et8{P:Program}{H0:Known}{n:Nat}{ops:Array Oper}{l:List Oper}{env:Env}{L:Frags}{N:Post}{a0 a1 a2 a3 a4 a5 a6:Frag}{T:Frags}(p:L=a0::a1::a2::a3::a4::a5::a6::T)(h:wpE P H0 n ops l env (a0::a1::a2::a3::a4::a5::a6::T) N):wpE P H0 n ops l env L N:=Ax p h
theorem Et9{P:Program}{H0:Known}{n:Nat}{ops:Array Oper}{l:List Oper}{env:Env}{L:Frags}{N:Post}{a0 a1 a2 a3 a4 a5 a6 a7:Frag}{T:Frags}(p:L=a0::a1::a2::a3::a4::a5::a6::a7::T)(h:wpE P H0 n ops l env (a0::a1::a2::a3::a4::a5::a6::a7::T) N):wpE P H0 n ops l env L N:=Ax p h
theorem Et10{P:Program}{H0:Known}{n:Nat}{ops:Array Oper}{l:List Oper}{env:Env}{L:Frags}{N:Post}{a0 a1 a2 a3 a4 a5 a6 a7 a8:Frag}{T:Frags}(p:L=a0::a1::a2::a3::a4::a5::a6::a7::a8::T)(h:wpE P H0 n ops l env (a0::a1::a2::a3::a4::a5::a6::a7::a8::T) N):wpE P H0 n ops l env L N:=Ax p h
theorem Et12{P:Program}{H0:Known}{n:Nat}{ops:Array Oper}{l:List Oper}{env:Env}{L:Frags}{N:Post}{a0 a1 a2 a3 a4 a5 a6 a7 a8 a9 a10:Frag}{T:Frags}(p:L=a0::a1::a2::a3::a4::a5::a6::a7::a8::a9::a10::T)(h:wpE P H0 n ops l env (a0::a1::a2::a3::a4::a5::a6::a7::a8::a9::a10::T) N):wpE P H0 n ops l env L N:=Ax p h
theorem Et14{P:Program}{H0:Known}{n:Nat}{ops:Array Oper}{l:List Oper}{env:Env}{L:Frags}{N:Post}{a0 a1 a2 a3 a4 a5 a6 a7 a8 a9 a10 a11 a12:Frag}{T:Frags}(p:L=a0::a1::a2::a3::a4::a5::a6::a7::a8::a9::a10::a11::a12::T)(h:wpE P H0 n ops l env (a0::a1::a2::a3::a4::a5::a6::a7::a8::a9::a10::a11::a12::T) N):wpE P H0 n ops l env L N:=Ax p h
theorem Er1{P:Program}{H0:Known}{n:Nat}{ops:Array Oper}{l:List Oper}{env:Env}{L:Frags}{N:Post}{a0:Frag}(p:L=[a0])(h:wpE P H0 n ops l env ([a0]) N):wpE P H0 n ops l env L N:=Ax p h
theorem Er2{P:Program}{H0:Known}{n:Nat}{ops:Array Oper}{l:List Oper}{env:Env}{L:Frags}{N:Post}{a0 a1:Frag}(p:L=[a0,a1])(h:wpE P H0 n ops l env ([a0,a1]) N):wpE P H0 n ops l env L N:=Ax p h
theorem Er3{P:Program}{H0:Known}{n:Nat}{ops:Array Oper}{l:List Oper}{env:Env}{L:Frags}{N:Post}{a0 a1 a2:Frag}(p:L=[a0,a1,a2])(h:wpE P H0 n ops l env ([a0,a1,a2]) N):wpE P H0 n ops l env L N:=Ax p h
theorem Er4{P:Program}{H0:Known}{n:Nat}{ops:Array Oper}{l:List Oper}{env:Env}{L:Frags}{N:Post}{a0 a1 a2 a3:Frag}(p:L=[a0,a1,a2,a3])(h:wpE P H0 n ops l env ([a0,a1,a2,a3]) N):wpE P H0 n ops l env L N:=Ax p h
theorem Er5{P:Program}{H0:Known}{n:Nat}{ops:Array Oper}{l:List Oper}{env:Env}{L:Frags}{N:Post}{a0 a1 a2 a3 a4:Frag}(p:L=[a0,a1,a2,a3,a4])(h:wpE P H0 n ops l env ([a0,a1,a2,a3,a4]) N):wpE P H0 n ops l env L N:=Ax p h
theorem Er6{P:Program}{H0:Known}{n:Nat}{ops:Array Oper}{l:List Oper}{env:Env}{L:Frags}{N:Post}{a0 a1 a2 a3 a4 a5:Frag}(p:L=[a0,a1,a2,a3,a4,a5])(h:wpE P H0 n ops l env ([a0,a1,a2,a3,a4,a5]) N):wpE P H0 n ops l env L N:=Ax p h
theorem Er7{P:Program}{H0:Known}{n:Nat}{ops:Array Oper}{l:List Oper}{env:Env}{L:Frags}{N:Post}{a0 a1 a2 a3 a4 a5 a6:Frag}(p:L=[a0,a1,a2,a3,a4,a5,a6])(h:wpE P H0 n ops l env ([a0,a1,a2,a3,a4,a5,a6]) N):wpE P H0 n ops l env L N:=Ax p h
theorem Er8{P:Program}{H0:Known}{n:Nat}{ops:Array Oper}{l:List Oper}{env:Env}{L:Frags}{N:Post}{a0 a1 a2 a3 a4 a5 a6 a7:Frag}(p:L=[a0,a1,a2,a3,a4,a5,a6,a7])(h:wpE P H0 n ops l env ([a0,a1,a2,a3,a4,a5,a6,a7]) N):wpE P H0 n ops l env L N:=Ax p h
theorem Er9{P:Program}{H0:Known}{n:Nat}{ops:Array Oper}{l:List Oper}{env:Env}{L:Frags}{N:Post}{a0 a1 a2 a3 a4 a5 a6 a7 a8:Frag}(p:L=[a0,a1,a2,a3,a4,a5,a6,a7,a8])(h:wpE P H0 n ops l env ([a0,a1,a2,a3,a4,a5,a6,a7,a8]) N):wpE P H0 n ops l env L N:=Ax p h
theorem Er10{P:Program}{H0:Known}{n:Nat}{ops:Array Oper}{l:List Oper}{env:Env}{L:Frags}{N:Post}{a0 a1 a2 a3 a4 a5 a6 a7 a8 a9:Frag}(p:L=[a0,a1,a2,a3,a4,a5,a6,a7,a8,a9])(h:wpE P H0 n ops l env ([a0,a1,a2,a3,a4,a5,a6,a7,a8,a9]) N):wpE P H0 n ops l env L N:=Ax p h
theorem Er11{P:Program}{H0:Known}{n:Nat}{ops:Array Oper}{l:List Oper}{env:Env}{L:Frags}{N:Post}{a0 a1 a2 a3 a4 a5 a6 a7 a8 a9 a10:Frag}(p:L=[a0,a1,a2,a3,a4,a5,a6,a7,a8,a9,a10])(h:wpE P H0 n ops l env ([a0,a1,a2,a3,a4,a5,a6,a7,a8,a9,a10]) N):wpE P H0 n ops l env L N:=Ax p h
theorem Er12{P:Program}{H0:Known}{n:Nat}{ops:Array Oper}{l:List Oper}{env:Env}{L:Frags}{N:Post}{a0 a1 a2 a3 a4 a5 a6 a7 a8 a9 a10 a11:Frag}(p:L=[a0,a1,a2,a3,a4,a5,a6,a7,a8,a9,a10,a11])(h:wpE P H0 n ops l env ([a0,a1,a2,a3,a4,a5,a6,a7,a8,a9,a10,a11]) N):wpE P H0 n ops l env L N:=Ax p h
theorem Er13{P:Program}{H0:Known}{n:Nat}{ops:Array Oper}{l:List Oper}{env:Env}{L:Frags}{N:Post}{a0 a1 a2 a3 a4 a5 a6 a7 a8 a9 a10 a11 a12:Frag}(p:L=[a0,a1,a2,a3,a4,a5,a6,a7,a8,a9,a10,a11,a12])(h:wpE P H0 n ops l env ([a0,a1,a2,a3,a4,a5,a6,a7,a8,a9,a10,a11,a12]) N):wpE P H0 n ops l env L N:=Ax p h
theorem Er14{P:Program}{H0:Known}{n:Nat}{ops:Array Oper}{l:List Oper}{env:Env}{L:Frags}{N:Post}{a0 a1 a2 a3 a4 a5 a6 a7 a8 a9 a10 a11 a12 a13:Frag}(p:L=[a0,a1,a2,a3,a4,a5,a6,a7,a8,a9,a10,a11,a12,a13])(h:wpE P H0 n ops l env ([a0,a1,a2,a3,a4,a5,a6,a7,a8,a9,a10,a11,a12,a13]) N):wpE P H0 n ops l env L N:=Ax p h
theorem U{α:Sort _}{a:α}:a=a:=rfl
section
variable {P:Program}{H0:Known}{n:Nat}{env:Env}{L:Frags}{ty:TypeId}
theorem An{ops:Array Oper}{l:List Oper}{d:Nat}{u v:Value}{N:Post}(h:u=v)(k:wpE P H0 n ops l ((d,v)::env) L N):wpE P H0 n ops l ((d,u)::env) L N:=h▸k
theorem Fi{ops:Array Oper}{ds:List Nat}{p:Plan}{d:Nat}{u v:Value}{N:Post}(h:u=v)(k:wpD P H0 n ops ds p ((d,v)::env) L N):wpD P H0 n ops ds p ((d,u)::env) L N:=h▸k
theorem Dy{ops:Array Oper}{ds:List Nat}{s:List (Nat×Nat)}{d:Nat}{u v:Value}{M:Env→Prop}(h:u=v)(k:wpS P H0 n ops ds s ((d,v)::env) L M):wpS P H0 n ops ds s ((d,u)::env) L M:=h▸k
def Reads(H0:Known)(L:Frags)(b o:Nat)(vs:List Value):Prop:=∀w:World,Agree H0 L w.heap→∀(j:Nat) (u:Value),vs[j]? =some u→w.cell? ⟨b,o+j,none⟩=some u
theorem Reads.frag{i:Nat}{b o k:Nat}{cs vs:List Value}(hL:L[i]? =some ⟨b,o,cs⟩)(h:(cs.drop k).take vs.length=vs):Reads H0 L b (o+k) vs:=by
  intro w hw j u hj
  rw[←h,List.getElem?_take]at hj
  split at hj
  · rw[List.getElem?_drop]at hj
    have:=Gu (hw.at hL) hj
    rw[Nat.add_assoc];exact this
  · cases hj
theorem Reads.known{b o:Nat}{vs:List Value}(h:∀j u,vs[j]? =some u→cellAt H0 b (o+j)=some u):Reads H0 L b o vs:=
  fun _ hw j u hj=>cell_of_base hw (h j u hj)
theorem Reads.sub{b o:Nat}{vs:List Value}(h:Reads H0 L b o vs)(k m:Nat):Reads H0 L b (o+k) ((vs.drop k).take m):=by
  intro w hw j u hj
  rw[List.getElem?_take]at hj
  split at hj
  · rw[List.getElem?_drop]at hj
    have:=h w hw (k+j) u hj
    rw[Nat.add_assoc];exact this
  · cases hj
theorem Reads.take{b o:Nat}{vs:List Value}(h:Reads H0 L b o vs)(m:Nat):Reads H0 L b o (vs.take m):=by
  have:=h.sub 0 m
  simpa using this
def Sl(s:Nat)(v:Value)(m:Nat)(xs:List Value)(Lf:Frags):Prop:=
  xs.length=m*s∧((v=.slice none 0 0∧m=0∧Lf=[])∨
    ∃b o c cs,v=.slice (some ⟨b,o,none⟩) m c∧Lf=[⟨b,o,cs⟩]∧cs.length=c*s∧m≤c∧c≤9223372036854775807∧cs.take (m*s)=xs)
theorem Sl.nil(s:Nat):Sl s (.slice none 0 0) 0 [] []:=⟨by simp,.inl ⟨rfl,rfl,rfl⟩⟩
theorem firstCells_of{w:World}(size m:Nat){yb yo c:Nat}{ys:List Value}(hl:ys.length=m*size)(h:∀(j:Nat) (u:Value),ys[j]? =some u→w.cell? ⟨yb,yo+j,none⟩=some u)(len:Nat):
    (Builtin.firstCells size m (.slice (some ⟨yb,yo,none⟩) len c)).run P w=.ok ys.toArray w:=
  run_firstCells_some (P:=P) w size m ⟨yb,yo,none⟩ len c ys hl (fun j u hj=>by rw[Gx];exact h j u hj)
theorem invoke_builtin(b:Builtin)(ats:Array TypeId)(ty:TypeId)(cs:Array Bool)(args:Array Value):Go.invoke (.builtin b ats ty cs) args=builtin b ats ty cs args:=rfl
theorem Hm{t e s bytes:Nat}{i:TypeInfo}{z:Value}{x y:Operand}{v:Value}{m k yc:Nat}{ya:Option Addr}{xs ys:List Value}{Lf L:Frags}
    (ht:P.underlying t=some (.slice e))(hi:P.info? e=some i)(hz:i.zero=some z)(hzs:z.cells.size=i.size)(hs:i.size=s)(hby:i.bytes=bytes)(hs0:0<s)
    (hx:ev? env x=some v)(hy:ev? env y=some (.slice ya k yc))(hsl:Sl s v m xs Lf)(hys:ys.length=k*s)
    (hread:k=0∨∃yb yo,ya=some ⟨yb,yo,none⟩∧Reads H0 (Lf++L) yb yo ys)(hone:ys.all one=true)(hb:(m+k)*bytes≤140737488355328)(hbm:m+k≤140737488355328):
    OpX P H0 n (.call {callee:=.builtin .append,args:=#[x,y],argTypes:=#[t,t]}) ty env (Lf++L) fun v' L'=>∃Lf',Sl s v' (m+k) (xs++ys) Lf'∧L'=Lf'++L:=by
  intro ac w hf hw
  subst hs hby
  have hexop:∀{u w'},(Builtin.append_ #[t,t] ty #[v,.slice ya k yc]).run P w=.ok u w'→
      (exop ac.eval (.call {callee:=.builtin .append,args:=#[x,y],argTypes:=#[t,t]}) ty).run P w=.ok (.value u) w':=by
    intro u w' h
    simp only[exop,execOp,resolve]
    simp[hf.eval hx,hf.eval hy,invoke_builtin,Hk .append _ _ _ _ _ rfl h]
  by_cases hk:k=0
  · subst hk
    have hys0:ys=[]:=List.eq_nil_of_length_eq_zero (by simpa using hys)
    subst hys0
    have hrun:(Builtin.append_ #[t,t] ty #[v,.slice ya 0 yc]).run P w=.ok v w:=by
      rcases hsl.2 with⟨rfl,rfl,rfl⟩|⟨b,o,c,cs,rfl,rfl,hcs,hmc,hcm,htk⟩
      · cases ya<;>simp[Builtin.append_,run_underlying ht,sizeOf,typeInfo,hi,Builtin.lenOf,Builtin.firstCells,loadCells,loadCellsFrom]
      · cases ya<;>simp[Builtin.append_,run_underlying ht,sizeOf,typeInfo,hi,Builtin.lenOf,Builtin.firstCells,loadCells,loadCellsFrom,storeCells,hmc]
    rw[hexop hrun]
    exact⟨_,⟨Lf,by simpa using hsl,rfl⟩,To.refl hw⟩
  · obtain⟨yb,yo,rfl,hr⟩:=hread.resolve_left hk
    have hr':=hr w hw
    have hr2:∀(j:Nat) (u:Value),ys[j]? =some u→w.cell? ((⟨yb,yo,none⟩:Addr).add j)=some u:=fun j u hj=>by rw[Gx];exact hr' j u hj
    have newSt:∀(old:Nat),old<m+k→∃cs:List Value,cs=xs++ys++(Builtin.zeroCells z.cells (grownCap w (m+k) old e-(m+k))).toList∧cs.length=grownCap w (m+k) old e*i.size∧cs.take ((m+k)*i.size)=xs++ys∧
        m+k≤grownCap w (m+k) old e∧grownCap w (m+k) old e≤9223372036854775807:=by
      intro old ho
      have hge:=grownCap_ge w (m+k) old e
      have hle:=grownCap_le_maxLen w (m+k) old e (by simp only[maxLen];omega)
      have hlen:(xs++ys).length=(m+k)*i.size:=by rw[List.length_append,hsl.1,hys,Nat.add_mul]
      refine⟨_,rfl,?_,?_,hge,by simpa[maxLen]using hle⟩
      · rw[List.length_append,hlen,Array.length_toList,size_zeroCells,hzs,←Nat.add_mul]
        congr 1;omega
      · rw[←hlen];exact List.take_left
    have hw2:Agree H0 L w.heap:=⟨hw.base,fun f hf=>hw.up f (List.mem_append_right _ hf),fun f hf=>hw.ok f (List.mem_append_right _ hf),(List.pairwise_append.1 hw.dis).2.1⟩
    have wd:∀cs:List Value,To H0 w (Lf++L) (w.drew.alloc (.cells cs.toArray e)) ([⟨w.heap.size,0,cs⟩]++L):=by
      intro cs
      have t:=To.new (w:=w.drew) (L:=Lf++L) (H0:=H0) hw cs e
      have t2:To H0 w (Lf++L) (w.drew.alloc (.cells cs.toArray e)) (⟨w.heap.size,0,cs⟩::(Lf++L)):=⟨t.st,t.size,t.old,t.cells,t.foot,t.os,t.tape,t.output⟩
      have p:(⟨w.heap.size,0,cs⟩::(Lf++L):Frags).Perm (([⟨w.heap.size,0,cs⟩]++L)++Lf):=by
        simp only[List.cons_append,List.nil_append]
        exact(List.perm_append_comm).cons _
      exact(t2.permR p).drop
    rcases hsl.2 with⟨rfl,rfl,rfl⟩|⟨b,o,c,cs,rfl,rfl,hcs,hmc,hcm,htk⟩
    · have hx0:xs=[]:=List.eq_nil_of_length_eq_zero (by simpa using hsl.1)
      subst hx0
      have hrun:=run_append_nil (P:=P) w t ty e i z ht hi hz ⟨yb,yo,none⟩ k yc ys hys hr2 (by omega) (by omega) (by have:=hb;simp only[Nat.zero_add]at this;omega)
      obtain⟨cs,hcs,hl,htake,hge,hle⟩:=newSt 0 (by omega)
      simp only[Nat.zero_add,List.nil_append]at hcs hl htake hge hle⊢
      rw[hexop hrun]
      refine⟨_,⟨[⟨w.heap.size,0,cs⟩],⟨hys,.inr ⟨_,_,_,_,rfl,rfl,hl,hge,hle,htake⟩⟩,rfl⟩,?_⟩
      have:=wd cs
      have e1:cs.toArray=ys.toArray++Builtin.zeroCells z.cells (grownCap w k 0 e-k):=by rw[hcs];simp
      rw[e1]at this
      simpa using this
    · by_cases hroom:m+k≤c
      ·
        have hfc:=firstCells_of (P:=P) (w:=w) i.size k (c:=yc) hys hr' k
        have hmem:(⟨b,o,cs⟩:Frag)∈([⟨b,o,cs⟩]++L:Frags):=by simp
        have hok:=hw.ok _ hmem
        have hfit:m*i.size+ys.length≤cs.length:=by rw[hys,hcs,←Nat.add_mul];exact Nat.mul_le_mul_right _ hroom
        have hst:=run_storeCells_cells (P:=P) b (o+m*i.size) ys 0 w (fun j hj=>by
            have:=Gu hok (j:=m*i.size+j) (List.getElem?_eq_getElem (by simp only;omega))
            simp only at this
            rw[Nat.add_zero,Nat.add_assoc,this];rfl)
          (fun j hj=>by
            have:=frozen_of_ok hok (j:=m*i.size+j) (by simp only;omega)
            simp only at this
            rw[Nat.add_zero,Nat.add_assoc,this]) (fun v hv=>one_oneCell (List.all_eq_true.1 hone v hv))
        simp only[Nat.add_zero]at hst
        have hrun:(Builtin.append_ #[t,t] ty #[.slice (some ⟨b,o,none⟩) m c,.slice (some ⟨yb,yo,none⟩) k yc]).run P w=.ok (.slice (some ⟨b,o,none⟩) (m+k) c) (w.setCells b (o+m*i.size) ys):=by
          simp[Builtin.append_,run_underlying ht,sizeOf,typeInfo,hi,Builtin.lenOf,hroom,hfc,Gx,hst]
        rw[hexop hrun]
        have hto:=To.write hw (i:=0) (k:=m*i.size) (vs:=ys) (cs':=cs.take (m*i.size)++ys++cs.drop (m*i.size+ys.length)) rfl (wrote_cells b ys (o+m*i.size) w) hfit rfl
        have hput:putF ([⟨b,o,cs⟩]++L) 0 (cs.take (m*i.size)++ys++cs.drop (m*i.size+ys.length))=[⟨b,o,cs.take (m*i.size)++ys++cs.drop (m*i.size+ys.length)⟩]++L:=rfl
        rw[hput]at hto
        refine⟨_,⟨_,⟨by rw[List.length_append,hsl.1,hys,Nat.add_mul],.inr ⟨_,_,_,_,rfl,rfl,?_,hroom,hcm,?_⟩⟩,rfl⟩,hto⟩
        · simp only[List.length_append,List.length_take,List.length_drop];omega
        · rw[htk]
          have:(xs++ys).length=(m+k)*i.size:=by rw[List.length_append,hsl.1,hys,Nat.add_mul]
          rw[←this];exact List.take_left
      ·
        have hmem:(⟨b,o,cs⟩:Frag)∈([⟨b,o,cs⟩]++L:Frags):=by simp
        have hok:=hw.ok _ hmem
        have holds:∀(j:Nat) (u:Value),xs[j]? =some u→w.cell? ((⟨b,o,none⟩:Addr).add j)=some u:=fun j u hj=>by
          rw[Gx]
          rw[←htk,List.getElem?_take]at hj
          split at hj
          · exact Gu hok hj
          · cases hj
        have hrun:=run_append_grow (P:=P) w t ty e i z ht hi hz ⟨b,o,none⟩ m c xs hsl.1 holds ⟨yb,yo,none⟩ k yc ys hys hr2 (by omega) (by omega) (growslice_fits (by omega) hb)
        obtain⟨cs',hcs',hl,htake,hge,hle⟩:=newSt c (by omega)
        rw[hexop hrun]
        refine⟨_,⟨[⟨w.heap.size,0,cs'⟩],⟨by rw[List.length_append,hsl.1,hys,Nat.add_mul],.inr ⟨_,_,_,_,rfl,rfl,hl,hge,hle,htake⟩⟩,rfl⟩,?_⟩
        have:=wd cs'
        have e1:cs'.toArray=xs.toArray++ys.toArray++Builtin.zeroCells z.cells (grownCap w (m+k) c e-(m+k)):=by rw[hcs'];simp
        rw[e1]at this
        exact this
theorem X.copy(i:Nat){t t2 e s:Nat}{x y:Operand}{b o k dl dc sl sc:Nat}{sa:Option Addr}{cs vs:List Value}{xT:TypeInfo}
    (ht:P.underlying t=some (.slice e))(hs:∀w,(sizeOf e).run P w=.ok s w)
    (hL:L[i]? =some ⟨b,o,cs⟩)(hx:ev? env x=some (.slice (some ⟨b,o+k,none⟩) dl dc))(hy:ev? env y=some (.slice sa sl sc))(hlen:vs.length=Nat.min sl dl*s)
    (hread:vs=[]∨∃yb yo,sa=some ⟨yb,yo,none⟩∧Reads H0 L yb yo vs)(hsa:sa=none→sl=0)(hone:vs.all one=true)(hk:k+vs.length≤cs.length):
    OpX P H0 n (.call {callee:=.builtin .copy,args:=#[x,y],argTypes:=#[t,t2]}) ty env L fun v L'=>v=.int .i64 ((Nat.min sl dl:Nat):Int)∧L'=L.set i ⟨b,o,cs.take k++vs++cs.drop (k+vs.length)⟩:=by
  intro ac w hf hw
  have hexop:∀{u w'},(Builtin.copy_ #[t,t2] ty #[.slice (some ⟨b,o+k,none⟩) dl dc,.slice sa sl sc]).run P w=.ok u w'→
      (exop ac.eval (.call {callee:=.builtin .copy,args:=#[x,y],argTypes:=#[t,t2]}) ty).run P w=.ok (.value u) w':=by
    intro u w' h
    simp only[exop,execOp,resolve]
    simp[hf.eval hx,hf.eval hy,invoke_builtin,Hk .copy _ _ _ _ _ rfl h]
  have hok:=hw.at hL
  have hfc:(Builtin.firstCells s (Nat.min sl dl) (.slice sa sl sc)).run P w=.ok vs.toArray w:=by
    cases sa with
    |none=>
      have:sl=0:=hsa rfl
      subst this
      have:vs=[]:=List.eq_nil_of_length_eq_zero (by simpa using hlen)
      subst this
      simp[Builtin.firstCells]
    |some a=>
      rcases hread with rfl|⟨yb,yo,h,hr⟩
      · have h0:Nat.min sl dl*s=0:=by simpa using hlen.symm
        simp[Builtin.firstCells,loadCells,h0,loadCellsFrom]
      · cases h
        exact firstCells_of s _ hlen (hr w hw) sl
  have hst:=run_storeCells_cells (P:=P) b (o+k) vs 0 w (fun j hj=>by
      have:=Gu hok (j:=k+j) (List.getElem?_eq_getElem (by simp only;omega))
      simp only at this
      rw[Nat.add_zero,Nat.add_assoc,this];rfl)
    (fun j hj=>by
      have:=frozen_of_ok hok (j:=k+j) (by simp only;omega)
      simp only at this
      rw[Nat.add_zero,Nat.add_assoc,this]) (fun v hv=>one_oneCell (List.all_eq_true.1 hone v hv))
  simp only[Nat.add_zero]at hst
  have hrun:(Builtin.copy_ #[t,t2] ty #[.slice (some ⟨b,o+k,none⟩) dl dc,.slice sa sl sc]).run P w=.ok (.int .i64 ((Nat.min sl dl:Nat):Int)) (w.setCells b (o+k) vs):=by
    simp[Builtin.copy_,run_underlying ht,Builtin.lenOf,hs,hfc,hst,goInt]
  rw[hexop hrun]
  refine⟨_,⟨rfl,rfl⟩,?_⟩
  rw[←putF_eq hL]
  exact To.write hw hL (wrote_cells b vs (o+k) w) hk U
theorem Hx{t e bytes:Nat}{i:TypeInfo}{z:Value}{x y:Operand}{l c:Nat}{kx ky:IntKind}
    (ht:P.underlying t=some (.slice e))(hi:P.info? e=some i)(hz:i.zero=some z)(hs:i.size=1)(hby:i.bytes=bytes)(h1:one z=true)
    (hx:ev? env x=some (.int kx (l:Int)))(hy:ev? env y=some (.int ky (c:Int)))(hlc:l≤c)(hm:c≤9223372036854775807)(hb:bytes*c≤281474976710656):
    OpX P H0 n (.makeSlice t x y) ty env L fun v L'=>∃b,v=.slice (some ⟨b,0,none⟩) l c∧L'=⟨b,0,List.replicate c z⟩::L:=by
  intro ac w hf hw
  subst hby
  have hzc:=one_cells h1
  have hb':(i.bytes:Int)*(c:Int)≤281474976710656:=by
    have h:((i.bytes*c:Nat):Int)≤281474976710656:=by omega
    rwa [Int.natCast_mul]at h
  have hr:=run_make (P:=P) w t e i z ht hi hz kx ky (l:Int) (c:Int) (by omega) (by omega) hb' (by omega)
  have hcells:madeCells z.cells ((c:Int).toNat*i.size)=(List.replicate c z).toArray:=by
    apply Array.ext'
    simp only[madeCells,hs,hzc,Int.toNat_natCast,Nat.mul_one,Array.toList_map,Array.toList_range]
    rw[List.eq_replicate_iff]
    refine⟨by simp,fun b hb=>?_⟩
    obtain⟨j,_,rfl⟩:=List.mem_map.1 hb
    simp[Nat.mod_one]
  rw[hcells]at hr
  have hrun:(exop ac.eval (.makeSlice t x y) ty).run P w=.ok (.value (.slice (some ⟨w.heap.size,0,none⟩) l c)) (w.alloc (.cells (List.replicate c z).toArray e)):=by
    simp only[exop,execOp,hf.eval hx,hf.eval hy,Sem.run_bind,hr,Result.andThen_ok,Sem.run_pure,Int.toNat_natCast]
  rw[hrun]
  exact⟨_,⟨_,rfl,rfl⟩,To.new hw _ _⟩
theorem X.buildSlice{t e:Nat}{i:TypeInfo}{z:Value}{parts:Array (Nat×Operand)}{m:Nat}{vs:List Value}
    (hrun:∀w,(Instr.buildSlice t m (parts.map fun p=>(p.1,(ev? env p.2).getD undef))).run P w=.ok (.slice (some ⟨w.heap.size,0,none⟩) m m) (w.alloc (.cells vs.toArray e)))
    (hev:parts.toList.all (fun p=>(ev? env p.2).isSome)=true):
    OpX P H0 n (.buildSlice t m parts) ty env L fun v L'=>∃b,v=.slice (some ⟨b,0,none⟩) m m∧L'=⟨b,0,vs⟩::L:=by
  intro ac w hf hw
  have hp:(parts.map fun(p:Nat×Operand)=>(p.1,ac.eval p.2))=parts.map fun p=>(p.1,(ev? env p.2).getD undef):=by
    apply Array.map_congr_left
    intro p hp
    have:=List.all_eq_true.1 hev p (by simpa using hp)
    obtain⟨v,hv⟩:=Option.isSome_iff_exists.1 this
    rw[hf.eval hv,hv];rfl
  have hr:(exop ac.eval (.buildSlice t m parts) ty).run P w=.ok (.value (.slice (some ⟨w.heap.size,0,none⟩) m m)) (w.alloc (.cells vs.toArray e)):=by
    simp only[exop,execOp]
    have:(Array.map (fun(x:Nat×Operand)=>match x with|(i,x)=>(i,ac.eval x)) parts)=parts.map fun p=>(p.1,(ev? env p.2).getD undef):=hp
    rw[this]
    simp[hrun]
  rw[hr]
  exact⟨_,⟨_,rfl,rfl⟩,To.new hw _ _⟩
theorem S.build{t:Nat}{parts:Array (Nat×Operand)}{v:Value}
    (hev:parts.toList.all (fun p=>(ev? env p.2).isSome)=true)
    (hrun:∀w,(Instr.build t (parts.map fun p=>(p.1,(ev? env p.2).getD undef))).run P w=.ok v w):OpP P n (.build t parts) ty env v:=by
  intro ac w hf
  have hp:(Array.map (fun(x:Nat×Operand)=>match x with|(i,x)=>(i,ac.eval x)) parts)=parts.map fun p=>(p.1,(ev? env p.2).getD undef):=by
    apply Array.map_congr_left
    intro p hp
    have:=List.all_eq_true.1 hev p (by simpa using hp)
    obtain⟨v,hv⟩:=Option.isSome_iff_exists.1 this
    show(p.1,ac.eval p.2)=_
    rw[hf.eval hv,hv];rfl
  simp only[exop,execOp]
  rw[hp]
  simp[hrun]
def bytesV(l:List UInt8):List Value:=l.map fun b=>.int .u8 (b.toNat:Int)
theorem Jg{l:List UInt8}{j:Nat}(h:j<l.length):(bytesV l)[j]? =some (.int .u8 (l[j].toNat:Int)):=by simp[bytesV,h]
theorem S.bytesStr{src dst e:Nat}{x:Operand}{a:Option Addr}{c:Nat}{l:List UInt8}(hs:P.underlying src=some (.slice e))(he:P.underlying e=some (.int .u8))(hd:P.underlying dst=some .string)
    (hx:ev? env x=some (.slice a l.length c))(hr:l=[]∨∃b o,a=some ⟨b,o,none⟩∧Reads H0 L b o (bytesV l)):OpS P H0 n (.convert src dst x) ty env L (.string ⟨l.toArray⟩):=by
  intro ac w hf hw
  simp only[exop,execOp,hf.eval hx]
  have key:(convert src dst (.slice a l.length c)).run P w=.ok (.string ⟨l.toArray⟩) w:=by
    cases a with
    |none=>
      have:l=[]:=by
        rcases hr with h|⟨b,o,h,_⟩
        · exact h
        · cases h
      subst this
      rw[run_convert_bytes_string w src dst e none _ c hs he hd]
      simp[Conv.bytesToString];rfl
    |some ad=>
      refine run_convert_bytes_back w src dst e ad c l hs he hd fun j hj=>?_
      rcases hr with rfl|⟨b,o,h,h2⟩
      · simp at hj
      · cases h
        rw[Gx]
        exact h2 w hw j _ (Jg hj)
  simp[key]
theorem eq_run{op:BinOp}(hop:op=.eql∨op=.neq){xT yT:TypeId}{x y:Operand}{u v r:Value}(hx:ev? env x=some u)(hy:ev? env y=some v)
    (hg:∀w,(eqGuard op xT x y u v).run P w=.ok () w)(h:∀w,(∃L,Agree H0 L w.heap)→(binOp op xT u v).run P w=.ok r w):OpS P H0 n (.binOp op xT x y yT) ty env L r:=by
  intro ac w hf hw
  simp only[exop,execOp,hf.eval hx,hf.eval hy]
  simp[hg,h w ⟨L,hw⟩]
theorem guard_iface{op:BinOp}{xT:TypeId}{x y:Operand}{t:TypeId}{u v:Value}(w:World):(eqGuard op xT x y (.iface t u) v).run P w=.ok () w:=by
  rw[eqGuard_at_iface];rfl
theorem guard_nilR{op:BinOp}{xT:TypeId}{x:Operand}{c u:Value}(w:World):(eqGuard op xT x (.const c) .nilIface u).run P w=.ok () w:=by
  cases u<;>first
    |(rw[eqGuard_nil_constR];rfl)
    |(cases op<;>rfl)
theorem guard_nilOther{op:BinOp}{xT:TypeId}{x y:Operand}{t:TypeId}{v:Value}(w:World):(eqGuard op xT x y .nilIface (.iface t v)).run P w=.ok () w:=by
  rw[eqGuard_nil_iface];rfl
theorem S.eqNilN{xT yT:TypeId}{x:Operand}{ms:Array (String×TypeId)}(hx:ev? env x=some .nilIface)(ht:P.underlying xT=some (.interface ms)):
    OpS P H0 n (.binOp .eql xT x (.const .nilIface) yT) ty env L (.bool true):=
  eq_run (.inl rfl) hx rfl guard_nilR fun w _=>run_eql_nil_nil (P:=P) w xT (by simp[Program.methodsAt,ht])
theorem S.eqNilI{xT yT:TypeId}{x:Operand}{ms:Array (String×TypeId)}{t:TypeId}{v:Value}(hx:ev? env x=some (.iface t v))(ht:P.underlying xT=some (.interface ms)):
    OpS P H0 n (.binOp .eql xT x (.const .nilIface) yT) ty env L (.bool false):=
  eq_run (.inl rfl) hx rfl guard_iface fun w _=>run_eql_held_nil (P:=P) w xT t v (by simp[Program.methodsAt,ht])
theorem S.neNilN{xT yT:TypeId}{x:Operand}{ms:Array (String×TypeId)}(hx:ev? env x=some .nilIface)(ht:P.underlying xT=some (.interface ms)):
    OpS P H0 n (.binOp .neq xT x (.const .nilIface) yT) ty env L (.bool false):=
  eq_run (.inr rfl) hx rfl guard_nilR fun w _=>run_neq_nil_nil (P:=P) w xT (by simp[Program.methodsAt,ht])
theorem S.neNilI{xT yT:TypeId}{x:Operand}{ms:Array (String×TypeId)}{t:TypeId}{v:Value}(hx:ev? env x=some (.iface t v))(ht:P.underlying xT=some (.interface ms)):
    OpS P H0 n (.binOp .neq xT x (.const .nilIface) yT) ty env L (.bool true):=
  eq_run (.inr rfl) hx rfl guard_iface fun w _=>run_neq_held_nil (P:=P) w xT t v (by simp[Program.methodsAt,ht])
def KnownPtr(H0:Known)(a:Addr):Prop:=∃c t,H0 a.block=some (.cells c t (0,0))
theorem run_neq_of_eql{xT:TypeId}{w:World}{t t':TypeId}{u v:Value}{b:Bool}(h:(binOp .eql xT (.iface t u) (.iface t' v)).run P w=.ok (.bool b) w):
    (binOp .neq xT (.iface t u) (.iface t' v)).run P w=.ok (.bool (!b)) w:=by
  simp only[binOp]at h⊢
  rw[Sem.run_bind]at h⊢
  cases hq:(Op.equal xT (.iface t u) (.iface t' v)).run P w with
  |ok c w1=>
    rw[hq]at h
    simp only[Result.andThen_ok,Sem.run_pure,Result.ok.injEq,Value.bool.injEq]at h⊢
    exact⟨by rw[h.1],h.2⟩
  |halt c w1=>rw[hq]at h;simp at h
theorem Hw{ti:TypeId}{ms:Array (String×TypeId)}{w:World}{t t':TypeId}{u v:Value}(hi:P.underlying ti=some (.interface ms))(hne:t≠t'):
    (binOp .eql ti (.iface t u) (.iface t' v)).run P w=.ok (.bool false) w:=by
  have key:∀d,(Op.equalIn (d+1) ti (.iface t u) (.iface t' v)).run P w=.ok false w:=fun d=>by simp[Op.equalIn,run_underlying hi,hne]
  simp only[binOp]
  simp[Op.equal,Op.maxDepth,key 9999]
theorem S.eqTypes{xT yT:TypeId}{x y:Operand}{ms:Array (String×TypeId)}{t t':TypeId}{u v:Value}(hx:ev? env x=some (.iface t u))(hy:ev? env y=some (.iface t' v))
    (ht:P.underlying xT=some (.interface ms))(hne:Nat.beq t t'=false):OpS P H0 n (.binOp .eql xT x y yT) ty env L (.bool false):=
  eq_run (.inl rfl) hx hy guard_iface fun _ _=>Hw ht (Nat.ne_of_beq_eq_false hne)
theorem run_eql_nil_iface{ti:TypeId}{ms:Array (String×TypeId)}{w:World}{t:TypeId}{v:Value}(hi:P.underlying ti=some (.interface ms)):
    (binOp .eql ti .nilIface (.iface t v)).run P w=.ok (.bool false) w:=by
  have key:∀d,(Op.equalIn (d+1) ti .nilIface (.iface t v)).run P w=.ok false w:=fun d=>by simp[Op.equalIn,run_underlying hi]
  simp only[binOp]
  simp[Op.equal,Op.maxDepth,key 9999]
theorem S.eqNil2{xT yT:TypeId}{x y:Operand}{ms:Array (String×TypeId)}{t:TypeId}{v:Value}(hx:ev? env x=some .nilIface)(hy:ev? env y=some (.iface t v))
    (ht:P.underlying xT=some (.interface ms)):OpS P H0 n (.binOp .eql xT x y yT) ty env L (.bool false):=
  eq_run (.inl rfl) hx hy guard_nilOther fun _ _=>run_eql_nil_iface ht
theorem run_eql_ptrs{ti tp te:TypeId}{ms:Array (String×TypeId)}{i j:TypeInfo}{w:World}{a b:Addr}(hi:P.underlying ti=some (.interface ms))(hp:P.underlying tp=some (.pointer te))
    (hinfo:P.info? tp=some i)(hcomp:i.comparable=true)(hte:P.info? te=some j)(hsz:j.size≠0)(ha:KnownPtr H0 a)(hb:KnownPtr H0 b)(hw:∃L,Agree H0 L w.heap):
    (binOp .eql ti (.iface tp (.pointer (some a))) (.iface tp (.pointer (some b)))).run P w=.ok (.bool (decide (a=b))) w:=by
  obtain⟨L,hw⟩:=hw
  by_cases hab:a=b
  · subst hab
    rw[decide_eq_true rfl]
    exact run_eql_iface_ptr_same (P:=P) w a hi hp hinfo hcomp hte
  · rw[decide_eq_false hab]
    obtain⟨ca,ta,ha⟩:=ha
    obtain⟨cb,tb,hb⟩:=hb
    exact run_eql_iface_ptr_other (P:=P) w hi hp hinfo hcomp hte hsz hab (hw.base _ _ ha) (hw.base _ _ hb)
end
structure Same(L L':Frags):Prop where
  agree:∀(K:Known) (H:Array Obj),Agree K L H↔Agree K L' H
  cov:∀b j,Gb L b j↔Gb L' b j
  blk:∀b,(∃f∈L,f.b=b)↔(∃f∈L',f.b=b)
theorem Same.refl(L:Frags):Same L L:=⟨fun _ _=>Iff.rfl,fun _ _=>Iff.rfl,fun _=>Iff.rfl⟩
theorem Same.symm{L L':Frags}(h:Same L L'):Same L' L:=⟨fun K H=>(h.agree K H).symm,fun b j=>(h.cov b j).symm,fun b=>(h.blk b).symm⟩
theorem Same.trans{L1 L2 L3:Frags}(h:Same L1 L2)(k:Same L2 L3):Same L1 L3:=
  ⟨fun K H=>(h.agree K H).trans (k.agree K H),fun b j=>(h.cov b j).trans (k.cov b j),fun b=>(h.blk b).trans (k.blk b)⟩
theorem Same.perm{L L':Frags}(p:L.Perm L'):Same L L':=
  ⟨fun _ _=>⟨fun h=>h.perm p,fun h=>h.perm p.symm⟩,fun _ _=>⟨fun h=>h.perm p,fun h=>h.perm p.symm⟩,fun b=>
    ⟨fun⟨f,hf,e⟩=>⟨f,p.mem_iff.1 hf,e⟩,fun⟨f,hf,e⟩=>⟨f,p.mem_iff.2 hf,e⟩⟩⟩
theorem To.sameL{K:Known}{w w':World}{L L2 L':Frags}(s:Same L L2)(k:To K w L2 w' L'):To K w L w' L':=by
  refine⟨k.st,k.size,fun b hb hn=>k.old b hb fun f hf he=>?_,fun b c t fr hb=>?_,fun f hf=>?_,k.os,k.tape,k.output⟩
  · obtain⟨g,hg,hgb⟩:=(s.blk b).2 ⟨f,hf,he⟩
    exact hn g hg hgb
  · obtain⟨c',hc',hs,hj⟩:=k.cells b c t fr hb
    exact⟨c',hc',hs,fun j hn=>hj j fun hc=>hn ((s.cov b j).2 hc)⟩
  · rcases k.foot f hf with h2|⟨h1,h3⟩
    · exact .inl h2
    · exact .inr ⟨(s.blk f.b).2 h1,fun j hj=>(s.cov f.b j).2 (h3 j hj)⟩
theorem To.sameR{K:Known}{w w':World}{L L2 L':Frags}(s:Same L' L2)(k:To K w L w' L'):To K w L w' L2:=by
  refine⟨(s.agree K _).1 k.st,k.size,k.old,k.cells,fun f hf=>?_,k.os,k.tape,k.output⟩
  by_cases hb:w.heap.size≤f.b
  · exact .inl hb
  · obtain⟨g,hg,hgb⟩:=(s.blk f.b).2 ⟨f,hf,rfl⟩
    refine .inr ⟨?_,fun j hj=>?_⟩
    · rcases k.foot g hg with h2|⟨⟨x,hx,hxb⟩,_⟩
      · omega
      · exact⟨x,hx,by omega⟩
    · obtain⟨y,hy,hyh⟩:=(s.cov f.b j).2 ⟨f,hf,hj⟩
      have hyb:=hyh.1
      rcases k.foot y hy with h2|⟨_,h3⟩
      · omega
      · have:=h3 j ⟨rfl,hyh.2⟩
        rw[hyb]at this;exact this
theorem has_append{b o:Nat}{xs ys:List Value}{x j:Nat}:(⟨b,o,xs++ys⟩:Frag).has x j↔(⟨b,o,xs⟩:Frag).has x j∨(⟨b,o+xs.length,ys⟩:Frag).has x j:=by
  simp only[Frag.has,List.length_append]
  constructor
  · rintro⟨h1,h2,h3⟩
    rcases Nat.lt_or_ge j (o+xs.length)with h|h
    · exact .inl ⟨h1,h2,h⟩
    · exact .inr ⟨h1,h,by omega⟩
  · rintro(⟨h1,h2,h3⟩|⟨h1,h2,h3⟩)
    · exact⟨h1,h2,by omega⟩
    · exact⟨h1,by omega,by omega⟩
theorem ok_append{b o:Nat}{xs ys:List Value}{H:Array Obj}:(⟨b,o,xs++ys⟩:Frag).ok H↔(⟨b,o,xs⟩:Frag).ok H∧(⟨b,o+xs.length,ys⟩:Frag).ok H:=by
  constructor
  · rintro⟨c,t,fr,hb,hv,hz⟩
    simp only at hb hv hz
    refine⟨⟨c,t,fr,hb,fun j hj=>?_,fun j hj=>hz j (by rw[List.length_append];simp only at hj;omega)⟩,⟨c,t,fr,hb,fun j hj=>?_,fun j hj=>?_⟩⟩
    · simp only at hj⊢
      have:=hv j (by rw[List.length_append];omega)
      rw[this,List.getElem_append_left hj]
    · simp only at hj⊢
      have:=hv (xs.length+j) (by rw[List.length_append];omega)
      rw[Nat.add_assoc,this,List.getElem_append_right (by omega)]
      simp
    · simp only at hj⊢
      have:=hz (xs.length+j) (by rw[List.length_append];omega)
      rw[Nat.add_assoc];exact this
  · rintro⟨⟨c,t,fr,hb,hv,hz⟩,⟨c2,t2,fr2,hb2,hv2,hz2⟩⟩
    simp only at hb hv hz hb2 hv2 hz2
    rw[hb]at hb2
    simp only[Option.some.injEq,Obj.cells.injEq]at hb2
    obtain⟨rfl,rfl,rfl⟩:=hb2
    refine⟨c,t,fr,hb,fun j hj=>?_,fun j hj=>?_⟩
    · simp only at hj⊢
      rw[List.length_append]at hj
      rcases Nat.lt_or_ge j xs.length with h|h
      · rw[hv j h,List.getElem_append_left h]
      · have:=hv2 (j-xs.length) (by omega)
        rw[show o+xs.length+(j-xs.length)=o+j by omega]at this
        rw[this,List.getElem_append_right h]
    · simp only at hj⊢
      rw[List.length_append]at hj
      rcases Nat.lt_or_ge j xs.length with h|h
      · exact hz j h
      · have:=hz2 (j-xs.length) (by omega)
        rwa [show o+xs.length+(j-xs.length)=o+j by omega]at this
theorem Same.split(b o:Nat)(xs ys:List Value)(F:Frags):Same (⟨b,o,xs++ys⟩::F) (⟨b,o,xs⟩::⟨b,o+xs.length,ys⟩::F):=by
  have hd:∀g,Disj ⟨b,o,xs++ys⟩ g↔Disj ⟨b,o,xs⟩ g∧Disj ⟨b,o+xs.length,ys⟩ g:=fun g=>
    ⟨fun h=>⟨fun x j h1 h2=>h x j (has_append.2 (.inl h1)) h2,fun x j h1 h2=>h x j (has_append.2 (.inr h1)) h2⟩,fun h x j h1 h2=>(has_append.1 h1).elim (fun h3=>h.1 x j h3 h2) fun h3=>h.2 x j h3 h2⟩
  have own:Disj ⟨b,o,xs⟩ ⟨b,o+xs.length,ys⟩:=fun x j h1 h2=>by
    have e1:=h1.2.2
    have e2:=h2.2.1
    simp only at e1 e2
    omega
  refine⟨fun K H=>⟨fun h=>?_,fun h=>?_⟩,fun x j=>?_,fun x=>?_⟩
  · have p:=List.pairwise_cons.1 h.dis
    have hok:=ok_append.1 (h.ok _ (List.mem_cons_self ..))
    have hup:=h.up _ (List.mem_cons_self ..)
    refine⟨h.base,fun f hf=>?_,fun f hf=>?_,?_⟩
    · rcases List.mem_cons.1 hf with rfl|hf
      · exact hup
      · rcases List.mem_cons.1 hf with rfl|hf
        · exact hup
        · exact h.up f (List.mem_cons_of_mem _ hf)
    · rcases List.mem_cons.1 hf with rfl|hf
      · exact hok.1
      · rcases List.mem_cons.1 hf with rfl|hf
        · exact hok.2
        · exact h.ok f (List.mem_cons_of_mem _ hf)
    · refine List.pairwise_cons.2 ⟨fun g hg=>?_,List.pairwise_cons.2 ⟨fun g hg=>((hd g).1 (p.1 g hg)).2,p.2⟩⟩
      rcases List.mem_cons.1 hg with rfl|hg
      · exact own
      · exact((hd g).1 (p.1 g hg)).1
  · have p:=List.pairwise_cons.1 h.dis
    have p2:=List.pairwise_cons.1 p.2
    refine⟨h.base,fun f hf=>?_,fun f hf=>?_,List.pairwise_cons.2 ⟨fun g hg=>(hd g).2 ⟨p.1 g (List.mem_cons_of_mem _ hg),p2.1 g hg⟩,p2.2⟩⟩
    · rcases List.mem_cons.1 hf with rfl|hf
      · exact h.up ⟨b,o,xs⟩ (List.mem_cons_self ..)
      · exact h.up f (List.mem_cons_of_mem _ (List.mem_cons_of_mem _ hf))
    · rcases List.mem_cons.1 hf with rfl|hf
      · exact ok_append.2 ⟨h.ok _ (List.mem_cons_self ..),h.ok _ (List.mem_cons_of_mem _ (List.mem_cons_self ..))⟩
      · exact h.ok f (List.mem_cons_of_mem _ (List.mem_cons_of_mem _ hf))
  · constructor
    · rintro⟨f,hf,hh⟩
      rcases List.mem_cons.1 hf with rfl|hf
      · rcases has_append.1 hh with h|h
        · exact⟨_,List.mem_cons_self ..,h⟩
        · exact⟨_,List.mem_cons_of_mem _ (List.mem_cons_self ..),h⟩
      · exact⟨f,List.mem_cons_of_mem _ (List.mem_cons_of_mem _ hf),hh⟩
    · rintro⟨f,hf,hh⟩
      rcases List.mem_cons.1 hf with rfl|hf
      · exact⟨_,List.mem_cons_self ..,has_append.2 (.inl hh)⟩
      · rcases List.mem_cons.1 hf with rfl|hf
        · exact⟨_,List.mem_cons_self ..,has_append.2 (.inr hh)⟩
        · exact⟨f,List.mem_cons_of_mem _ hf,hh⟩
  · constructor
    · rintro⟨f,hf,hh⟩
      rcases List.mem_cons.1 hf with rfl|hf
      · exact⟨⟨b,o,xs⟩,List.mem_cons_self ..,hh⟩
      · exact⟨f,List.mem_cons_of_mem _ (List.mem_cons_of_mem _ hf),hh⟩
    · rintro⟨f,hf,hh⟩
      rcases List.mem_cons.1 hf with rfl|hf
      · exact⟨⟨b,o,xs++ys⟩,List.mem_cons_self ..,hh⟩
      · rcases List.mem_cons.1 hf with rfl|hf
        · exact⟨⟨b,o,xs++ys⟩,List.mem_cons_self ..,hh⟩
        · exact⟨f,List.mem_cons_of_mem _ hf,hh⟩
theorem Same.empty(b o o':Nat)(xs:List Value)(F:Frags):Same (⟨b,o,xs⟩::F) (⟨b,o,xs⟩::⟨b,o',[]⟩::F):=by
  have none:∀x j,¬(⟨b,o',[]⟩:Frag).has x j:=fun x j h=>by
    have h1:=h.2.1;have h2:=h.2.2;simp at h1 h2;omega
  refine⟨fun K H=>⟨fun h=>?_,fun h=>?_⟩,fun x j=>?_,fun x=>?_⟩
  · have p:=List.pairwise_cons.1 h.dis
    refine⟨h.base,fun f hf=>?_,fun f hf=>?_,List.pairwise_cons.2 ⟨fun g hg=>?_,List.pairwise_cons.2 ⟨fun g hg x j h1 _=>none x j h1,p.2⟩⟩⟩
    · rcases List.mem_cons.1 hf with rfl|hf
      · exact h.up _ (List.mem_cons_self ..)
      · rcases List.mem_cons.1 hf with rfl|hf
        · exact h.up ⟨b,o,xs⟩ (List.mem_cons_self ..)
        · exact h.up f (List.mem_cons_of_mem _ hf)
    · rcases List.mem_cons.1 hf with rfl|hf
      · exact h.ok _ (List.mem_cons_self ..)
      · rcases List.mem_cons.1 hf with rfl|hf
        · obtain⟨c,t,fr,hb,_,_⟩:=h.ok _ (List.mem_cons_self ..)
          exact⟨c,t,fr,hb,fun j hj=>absurd hj (by simp),fun j hj=>absurd hj (by simp)⟩
        · exact h.ok f (List.mem_cons_of_mem _ hf)
    · rcases List.mem_cons.1 hg with rfl|hg
      · exact fun x j _ h2=>none x j h2
      · exact p.1 g hg
  · have p:=List.pairwise_cons.1 h.dis
    have p2:=List.pairwise_cons.1 p.2
    refine⟨h.base,fun f hf=>?_,fun f hf=>?_,List.pairwise_cons.2 ⟨fun g hg=>p.1 g (List.mem_cons_of_mem _ hg),p2.2⟩⟩
    · rcases List.mem_cons.1 hf with rfl|hf
      · exact h.up _ (List.mem_cons_self ..)
      · exact h.up f (List.mem_cons_of_mem _ (List.mem_cons_of_mem _ hf))
    · rcases List.mem_cons.1 hf with rfl|hf
      · exact h.ok _ (List.mem_cons_self ..)
      · exact h.ok f (List.mem_cons_of_mem _ (List.mem_cons_of_mem _ hf))
  · constructor
    · rintro⟨f,hf,hh⟩
      rcases List.mem_cons.1 hf with rfl|hf
      · exact⟨_,List.mem_cons_self ..,hh⟩
      · exact⟨f,List.mem_cons_of_mem _ (List.mem_cons_of_mem _ hf),hh⟩
    · rintro⟨f,hf,hh⟩
      rcases List.mem_cons.1 hf with rfl|hf
      · exact⟨_,List.mem_cons_self ..,hh⟩
      · rcases List.mem_cons.1 hf with rfl|hf
        · exact absurd hh (none x j)
        · exact⟨f,List.mem_cons_of_mem _ hf,hh⟩
  · constructor
    · rintro⟨f,hf,hh⟩
      rcases List.mem_cons.1 hf with rfl|hf
      · exact⟨⟨b,o,xs⟩,List.mem_cons_self ..,hh⟩
      · exact⟨f,List.mem_cons_of_mem _ (List.mem_cons_of_mem _ hf),hh⟩
    · rintro⟨f,hf,hh⟩
      rcases List.mem_cons.1 hf with rfl|hf
      · exact⟨⟨b,o,xs⟩,List.mem_cons_self ..,hh⟩
      · rcases List.mem_cons.1 hf with rfl|hf
        · exact⟨⟨b,o,xs⟩,List.mem_cons_self ..,hh⟩
        · exact⟨f,List.mem_cons_of_mem _ hf,hh⟩
theorem pairwise_app{L1 L2:Frags}:(L1++L2).Pairwise Disj↔L1.Pairwise Disj∧L2.Pairwise Disj∧∀b j,Gb L1 b j→Gb L2 b j→False:=by
  rw[List.pairwise_append]
  constructor
  · rintro⟨h1,h2,h3⟩
    refine⟨h1,h2,?_⟩
    rintro b j⟨f,hf,hh⟩⟨g,hg,hgh⟩
    exact h3 f hf g hg b j hh hgh
  · rintro⟨h1,h2,h3⟩
    exact⟨h1,h2,fun f hf g hg b j hh hgh=>h3 b j ⟨f,hf,hh⟩ ⟨g,hg,hgh⟩⟩
theorem agree_app{K:Known}{L1 L2:Frags}{H:Array Obj}:Agree K (L1++L2) H↔Agree K L1 H∧Agree K L2 H∧∀b j,Gb L1 b j→Gb L2 b j→False:=by
  constructor
  · intro h
    obtain⟨h1,h2,h3⟩:=pairwise_app.1 h.dis
    exact⟨⟨h.base,fun f hf=>h.up f (List.mem_append_left _ hf),fun f hf=>h.ok f (List.mem_append_left _ hf),h1⟩,⟨h.base,fun f hf=>h.up f (List.mem_append_right _ hf),fun f hf=>h.ok f (List.mem_append_right _ hf),h2⟩,h3⟩
  · rintro⟨h1,h2,h3⟩
    exact⟨h1.base,fun f hf=>(List.mem_append.1 hf).elim (h1.up f) (h2.up f),fun f hf=>(List.mem_append.1 hf).elim (h1.ok f) (h2.ok f),pairwise_app.2 ⟨h1.dis,h2.dis,h3⟩⟩
theorem covered_app{L1 L2:Frags}{b j:Nat}:Gb (L1++L2) b j↔Gb L1 b j∨Gb L2 b j:=by
  constructor
  · rintro⟨f,hf,hh⟩
    exact(List.mem_append.1 hf).imp (fun h=>⟨f,h,hh⟩) fun h=>⟨f,h,hh⟩
  · rintro(⟨f,hf,hh⟩|⟨f,hf,hh⟩)
    · exact⟨f,List.mem_append_left _ hf,hh⟩
    · exact⟨f,List.mem_append_right _ hf,hh⟩
theorem Same.appendL{L L':Frags}(A:Frags)(s:Same L L'):Same (A++L) (A++L'):=by
  refine⟨fun K H=>?_,fun b j=>?_,fun b=>?_⟩
  · rw[agree_app,agree_app,s.agree K H]
    simp only[s.cov]
  · rw[covered_app,covered_app,s.cov]
  · constructor
    · rintro⟨f,hf,e⟩
      rcases List.mem_append.1 hf with h|h
      · exact⟨f,List.mem_append_left _ h,e⟩
      · obtain⟨g,hg,e2⟩:=(s.blk b).1 ⟨f,h,e⟩
        exact⟨g,List.mem_append_right _ hg,e2⟩
    · rintro⟨f,hf,e⟩
      rcases List.mem_append.1 hf with h|h
      · exact⟨f,List.mem_append_left _ h,e⟩
      · obtain⟨g,hg,e2⟩:=(s.blk b).2 ⟨f,h,e⟩
        exact⟨g,List.mem_append_right _ hg,e2⟩
theorem Same.of_eq{L L':Frags}(e:L=L'):Same L L':=e▸Same.refl L
theorem Same.splitAt{L A F:Frags}{b o o' k:Nat}{cs xs ys:List Value}(i:Nat)(hp:picks [i] L=some (A,F))(hA:A=[⟨b,o,cs⟩])(hcs:cs=xs++ys)(hk:xs.length=k)(ho:o'=o+k):
    Same L (⟨b,o,xs⟩::⟨b,o',ys⟩::F):=by
  subst hA hcs hk ho
  exact(Same.perm (Br hp)).trans (Same.split b o xs ys F)
theorem Same.joinAt{L A F:Frags}{b o o':Nat}{xs ys:List Value}(i j:Nat)(hp:picks [i,j] L=some (A,F))(hA:A=[⟨b,o,xs⟩,⟨b,o',ys⟩])(ho:o'=o+xs.length):
    Same L (⟨b,o,xs++ys⟩::F):=by
  subst hA ho
  exact(Same.perm (Br hp)).trans (Same.split b o xs ys F).symm
section
variable {P:Program}{K:Known}{n:Nat}{env:Env}{L:Frags}{ty:TypeId}
theorem Ga{c:Code}{L2:Frags}{N X R}(s:Same L L2)(h:wpC P K n c env L2 N X R):wpC P K n c env L N X R:=by
  intro a w hf hw Q t
  exact h a w hf ((s.agree K _).1 hw) Q ⟨fun e l a w h f k=>t.normal e l a w h f (k.sameL s),fun id M hk e l a w h f k=>t.exit id M hk e l a w h f (k.sameL s),
    fun id M hk e l a w h f k=>t.goto id M hk e l a w h f (k.sameL s),fun e l a w h f k=>t.ret e l a w h f (k.sameL s)⟩
theorem Ev{ops:Array Oper}{l:List Oper}{L2:Frags}{N:Post}(s:Same L L2)(h:wpE P K n ops l env L2 N):wpE P K n ops l env L N:=
  fun a w hf hw Q k=>h a w hf ((s.agree K _).1 hw) Q fun e l a w h f t=>k e l a w h f (t.sameL s)
theorem Fn.sameL{f:FuncId}{args:Array Value}{L2:Frags}{R:Value→Frags→Prop}(s:Same L L2)(h:Fn P K f args L2 R):Fn P K f args L R:=
  fun w hw=>Calls.mono (h w ((s.agree K _).1 hw)) fun _ _ ⟨v,L',e,r,t⟩=>⟨v,L',e,r,t.sameL s⟩
theorem Fn.sameR{f:FuncId}{args:Array Value}{R R':Value→Frags→Prop}(h:Fn P K f args L R)(s:∀v L',R v L'→∃L2,Same L' L2∧R' v L2):Fn P K f args L R':=
  fun w hw=>Calls.mono (h w hw) fun _ _ ⟨v,L',e,r,t⟩=>by
    obtain⟨L2,h1,h2⟩:=s v L' r
    exact⟨v,L2,e,h2,t.sameR h1⟩
theorem OpX.mono{op:Op}{R R':Value→Frags→Prop}(h:OpX P K n op ty env L R)(hr:∀v L',R v L'→R' v L'):OpX P K n op ty env L R':=by
  intro a w hf hw
  have:=h a w hf hw
  revert this
  generalize (exop a.eval op ty).run P w=r
  intro h
  cases r with
  |halt c w1=>exact h
  |ok x w1=>
    cases x with
    |value v=>obtain⟨L',h1,h2⟩:=h;exact⟨L',hr _ _ h1,h2⟩
    |skip=>obtain⟨L',h1,h2⟩:=h;exact⟨L',hr _ _ h1,h2⟩
    |enter f args=>exact Calls.mono h fun e w'' ⟨v,L',e1,h1,h2⟩=>⟨v,L',e1,hr _ _ h1,h2⟩
    |_=>exact h
theorem run_equal{xT:TypeId}{u v:Value}{b:Bool}{w:World}(h:∀d,(Op.equalIn (d+1) xT u v).run P w=.ok b w):(Op.equal xT u v).run P w=.ok b w:=by
  simp only[Op.equal,Op.maxDepth];exact h 9999
theorem eq_of_equal{op:BinOp}{xT yT:TypeId}{x y:Operand}{u v:Value}{b:Bool}(hop:op=.eql∨op=.neq)(hx:ev? env x=some u)(hy:ev? env y=some v)
    (hg:∀w,(eqGuard op xT x y u v).run P w=.ok () w)(hb:∀w,(binOp op xT u v).run P w=((Op.equal xT u v).run P w).andThen fun c w=>.ok (.bool (if op=.eql then c else !c)) w)
    (h:∀w,(Op.equal xT u v).run P w=.ok b w):OpP P n (.binOp op xT x y yT) ty env (.bool (if op=.eql then b else !b)):=by
  intro ac w hf
  simp only[exop,execOp,hf.eval hx,hf.eval hy]
  simp[hg,hb,h]
theorem guard_ptr{op:BinOp}{xT:TypeId}{x y:Operand}{a:Option Addr}{v:Value}(w:World):(eqGuard op xT x y (.pointer a) v).run P w=.ok () w:=by
  unfold eqGuard
  cases op<;>rfl
theorem guard_slice{op:BinOp}{xT:TypeId}{x y:Operand}{a:Option Addr}{l c:Nat}{v:Value}(w:World):(eqGuard op xT x y (.slice a l c) v).run P w=.ok () w:=by
  unfold eqGuard
  cases op<;>rfl
theorem guard_string{op:BinOp}{xT:TypeId}{x y:Operand}{s:ByteArray}{v:Value}(w:World):(eqGuard op xT x y (.string s) v).run P w=.ok () w:=by
  unfold eqGuard
  cases op<;>rfl
theorem S.eqPtrNil{xT e yT:TypeId}{x:Operand}{a:Option Addr}(hx:ev? env x=some (.pointer a))(ht:P.underlying xT=some (.pointer e)):OpP P n (.binOp .eql xT x (.const (.pointer none)) yT) ty env (.bool a.isNone):=by
  refine eq_of_equal (op:=.eql) (.inl U) hx U guard_ptr (fun w=>?_) fun w=>run_equal fun d=>?_
  · simp only[binOp,Sem.run_bind];rfl
  · cases a<;>simp[Op.equalIn,run_underlying ht]
theorem S.eqSlNil{xT e yT:TypeId}{x:Operand}{a:Option Addr}{l c:Nat}(hx:ev? env x=some (.slice a l c))(ht:P.underlying xT=some (.slice e)):OpP P n (.binOp .eql xT x (.const (.slice none 0 0)) yT) ty env (.bool a.isNone):=by
  refine eq_of_equal (op:=.eql) (.inl U) hx U guard_slice (fun w=>?_) fun w=>run_equal fun d=>?_
  · simp only[binOp,Sem.run_bind];rfl
  · cases a<;>simp[Op.equalIn,run_underlying ht]
theorem S.eqStr{xT yT:TypeId}{x y:Operand}{s u:ByteArray}(hx:ev? env x=some (.string s))(hy:ev? env y=some (.string u)):OpP P n (.binOp .eql xT x y yT) ty env (.bool (s.toList==u.toList)):=by
  intro ac w hf
  simp only[exop,execOp,hf.eval hx,hf.eval hy]
  simp[guard_string,binOp,Op.stringOp]
theorem S.assertHas{xT asserted t:TypeId}{x:Operand}{v:Value}{want:Array (String×TypeId)}(hx:ev? env x=some (.iface t v))(hu:P.underlying asserted=some (.interface want))
    (h:(P.info? t).map (fun i=>(lacking want i.methods).isEmpty)=some true):OpP P n (.typeAssert x xT asserted true) ty env (.tuple #[.iface t v,.bool true]):=by
  intro ac w hf
  simp only[exop,execOp,hf.eval hx]
  have:=run_typeAssert_hasB (P:=P) hu h v xT w
  simp[this]
theorem S.assertHas1{xT asserted t:TypeId}{x:Operand}{v:Value}{want:Array (String×TypeId)}(hx:ev? env x=some (.iface t v))(hu:P.underlying asserted=some (.interface want))
    (h:(P.info? t).map (fun i=>(lacking want i.methods).isEmpty)=some true):OpP P n (.typeAssert x xT asserted false) ty env (.iface t v):=by
  intro ac w hf
  simp only[exop,execOp,hf.eval hx]
  obtain⟨i,hi,hl⟩:=Option.map_eq_some_iff.1 h
  have hl':=missingMethod_none (List.isEmpty_iff.1 hl)
  have:(Instr.typeAssert (.iface t v) xT asserted false).run P w=.ok (.iface t v) w:=by
    simp[Instr.typeAssert,run_underlying hu,typeInfo,hi,hl']
  simp[this]
theorem S.mkMethod{m:String}{x:Operand}{t:TypeId}{v:Value}(hx:ev? env x=some (.iface t v)):OpP P n (.makeFunc (.method m) #[x] #[]) ty env (.func (.method m) #[.iface t v] #[]):=by
  intro ac w hf
  simp only[exop,execOp]
  simp[Instr.makeFunc,hf.eval hx]
theorem S.nilMethod{m:String}{x:Operand}{t:TypeId}{v:Value}(hx:ev? env x=some (.func (.method m) #[.iface t v] #[]))(hn:∀w,(nilAhead (P.types.size+Made.depth) t v m).run P w=.ok (some false) w):
    OpP P n (.nilCheck x) ty env (.func (.method m) #[.iface t v] #[]):=by
  intro ac w hf
  simp only[exop,execOp,hf.eval hx]
  simp[hn]
theorem S.runesStr{src dst e:Nat}{x:Operand}{b o l c:Nat}{zs:List Int}(hs:P.underlying src=some (.slice e))(he:P.underlying e=some (.int .i32))(hd:P.underlying dst=some .string)
    (hx:ev? env x=some (.slice (some ⟨b,o,none⟩) l c))(hl:l=zs.length)(hr:Reads K L b o (zs.map (Value.int .i32))):OpS P K n (.convert src dst x) ty env L (.string (runesBytes zs)):=by
  intro ac w hf hw
  simp only[exop,execOp,hf.eval hx]
  have key:=run_convert_runes (P:=P) w src dst e ⟨b,o,none⟩ l c zs (by omega) hs he hd fun j hj=>by
    rw[Gx]
    have:=hr w hw j (.int .i32 zs[j]) (by simp[hj])
    simpa[List.getD,hj]using this
  rw[hl,List.take_length]at key
  subst hl
  simp[key]
end
section
variable {P:Program}{K:Known}{n:Nat}
def CellAt(env:Env)(L:Frags)(p m:Nat)(vs:List Value):Prop:=∃(b o i:Nat),get? env p=some (.pointer (some ⟨b,o,none⟩))∧L[i]? =some (⟨b,o,vs⟩:Frag)∧vs.length=m
def RetC(p m:Nat)(R:Value→Frags→Prop):Post:=fun env L=>∃vs,CellAt env L p m vs∧R (.agg vs.toArray) L
def RetC1(p m t:Nat)(R:Value→Frags→Prop):Post:=fun env L=>∃vs u,CellAt env L p m vs∧get? env t=some u∧R (.tuple #[.agg vs.toArray,u]) L
theorem run_cell{env:Env}{L:Frags}{p m:Nat}{vs:List Value}{a:Act}{w:World}{ty:TypeId}(h:CellAt env L p m vs)(hf:Fits n env a)(hw:Agree K L w.heap)
    (hag:∀w,(isAgg ty).run P w=.ok true w)(hsz:∀w,(sizeOf ty).run P w=.ok m w):
    ∃ad,(asAddr (a.tmps[p]?.getD undef)).run P w=.ok ad w∧(loadVar ty ad).run P w=.ok (.agg vs.toArray) w:=by
  obtain⟨b,o,i,h1,h2,h3⟩:=h
  have e:=hf.val p _ h1
  rw[Array.getD_eq_getD_getElem?]at e
  have:=run_loadAgg (P:=P) (w:=w) (b:=b) (o:=o) hag hsz h3 (fun j v hj=>Gu (hw.at h2) hj)
  refine⟨⟨b,o,none⟩,by rw[e];rfl,?_⟩
  simpa[Instr.loadAt,Instr.sureAddr]using this
theorem resC{fn:Func}{R:Value→Frags→Prop}{p ty m:Nat}(hres:fn.results=#[.cell p ty])(hag:∀w,(isAgg ty).run P w=.ok true w)(hsz:∀w,(sizeOf ty).run P w=.ok m w):
    ∀env' L' a w,RetC p m R env' L'→Fits n env' a→Agree K L' w.heap→∃v,(results fn a.tmps).run P w=.ok v w∧R v L':=by
  rintro env' L' a w⟨vs,h1,h2⟩f hw
  obtain⟨ad,e1,e2⟩:=run_cell (P:=P) h1 f hw hag hsz
  refine⟨_,?_,h2⟩
  simp only[results,hres]
  simp[Sem.run_bind,e1,e2]
theorem resC1{fn:Func}{R:Value→Frags→Prop}{p ty m t:Nat}(hres:fn.results=#[.cell p ty,.tmp t])(hag:∀w,(isAgg ty).run P w=.ok true w)(hsz:∀w,(sizeOf ty).run P w=.ok m w):
    ∀env' L' a w,RetC1 p m t R env' L'→Fits n env' a→Agree K L' w.heap→∃v,(results fn a.tmps).run P w=.ok v w∧R v L':=by
  rintro env' L' a w⟨vs,u,h1,ht,h2⟩f hw
  obtain⟨ad,e1,e2⟩:=run_cell (P:=P) h1 f hw hag hsz
  refine⟨_,?_,h2⟩
  have ft:=f.val t u ht
  rw[Array.getD_eq_getD_getElem?]at ft
  simp only[results,hres]
  simp[Sem.run_bind,e1,e2,ft]
def Gw:Nat→List (Nat×List Value)→Prop
  |_,[]=>False
  |o,[p]=>p.1=o
  |o,p::q::r=>p.1=o∧Gw (o+p.2.length) (q::r)
theorem Same.chunks(b:Nat)(F:Frags):∀(l:List (Nat×List Value)) (o:Nat),Gw o l→Same (⟨b,o,(l.map (·.2)).flatten⟩::F) (l.map (fun p=>(⟨b,p.1,p.2⟩:Frag))++F)
  | [],_,h=>h.elim
  | [p],o,h=>by
    have h':p.1=o:=h
    subst h'
    simp only[List.map_cons,List.map_nil,List.flatten_cons,List.flatten_nil,List.append_nil]
    exact Same.refl _
  |p::q::r,o,h=>by
    obtain⟨o',cs⟩:=p
    have h1:o'=o:=h.1
    subst h1
    have ih:=Same.chunks b F (q::r) (o'+cs.length) h.2
    have s1:=Same.split b o' cs (((q::r).map (·.2)).flatten) F
    have s2:Same ([⟨b,o',cs⟩]++(⟨b,o'+cs.length,((q::r).map (·.2)).flatten⟩::F)) ([⟨b,o',cs⟩]++((q::r).map (fun p=>(⟨b,p.1,p.2⟩:Frag))++F)):=Same.appendL _ ih
    exact s1.trans s2
def evParts(env:Env):List (Nat×Operand)→Option (List (Nat×Value))
  | []=>some []
  |p::r=>match ev? env p.2,evParts env r with
    |some v,some l=>some ((p.1,v)::l)
    |_,_=>none
theorem evParts_eval{env:Env}{a:Act}(hf:Fits n env a):∀{l:List (Nat×Operand)} {ps:List (Nat×Value)},evParts env l=some ps→l.map (fun p=>(p.1,a.eval p.2))=ps
  | [],_,h=>by simp only[evParts,Option.some.injEq]at h;exact h
  |p::r,ps,h=>by
    simp only[evParts]at h
    split at h
    · rename_i v l hv hl
      simp only[Option.some.injEq]at h
      subst h
      rw[List.map_cons,hf.eval hv,evParts_eval hf hl]
    · cases h
theorem Et{env:Env}{ty t:Nat}{l:List (Nat×Operand)}{v:Value}(ps:List (Nat×Value))(hps:evParts env l=some ps)
    (hrun:∀w,(Instr.build t ps.toArray).run P w=.ok v w):OpP P n (.build t l.toArray) ty env v:=by
  intro ac w hf
  have e:=evParts_eval hf hps
  have e2:(Array.map (fun(x:Nat×Operand)=>match x with|(i,x)=>(i,ac.eval x)) l.toArray)=ps.toArray:=by
    rw[←e];simp
  simp only[exop,execOp,e2]
  simp[hrun]
theorem Bn{env:Env}{L:Frags}{ty t e m:Nat}{l:List (Nat×Operand)}{vs:List Value}(ps:List (Nat×Value))(hps:evParts env l=some ps)
    (hrun:∀w,(Instr.buildSlice t m ps.toArray).run P w=.ok (.slice (some ⟨w.heap.size,0,none⟩) m m) (w.alloc (.cells vs.toArray e))):
    OpX P K n (.buildSlice t m l.toArray) ty env L fun v L'=>∃b,v=.slice (some ⟨b,0,none⟩) m m∧L'=⟨b,0,vs⟩::L:=by
  intro ac w hf hw
  have e1:=evParts_eval hf hps
  have e2:(Array.map (fun(x:Nat×Operand)=>match x with|(i,x)=>(i,ac.eval x)) l.toArray)=ps.toArray:=by
    rw[←e1];simp
  have hr:(exop ac.eval (.buildSlice t m l.toArray) ty).run P w=.ok (.value (.slice (some ⟨w.heap.size,0,none⟩) m m)) (w.alloc (.cells vs.toArray e)):=by
    simp only[exop,execOp,e2]
    simp[hrun]
  rw[hr]
  exact⟨_,⟨_,rfl,rfl⟩,To.new hw _ _⟩
theorem fill_one{place:Nat→Option (Nat×Nat)}{cells:Array Value}{i off:Nat}{v:Value}{rest:List (Nat×Value)}(h1:place i=some (off,1))(hv:one v=true)(ho:off<cells.size):
    Instr.fill place cells ((i,v)::rest)=Instr.fill place (cells.setIfInBounds off v) rest:=by
  rw[Instr.fill,h1]
  simp only[one_cells hv]
  rw[if_neg (by simp;omega)]
  simp
theorem fill_nil{place:Nat→Option (Nat×Nat)}{cells:Array Value}:Instr.fill place cells []=some cells:=rfl
end
def revB:Nat→Nat→Nat
  |0,_=>0
  |n+1,c=>(c%2)*2^n+revB n (c/2)
theorem Eh:∀n c,revB n c<2^n
  |0,_=>by simp[revB]
  |n+1,c=>by
    have h:=Eh n (c/2)
    have h2:c%2≤1:=by omega
    have h3:(c%2)*2^n≤1*2^n:=Nat.mul_le_mul_right _ h2
    rw[revB,Nat.pow_succ];omega
theorem revB_succ:∀n S,revB (n+1) S=2*revB n S+(S/2^n)%2
  |0,S=>by simp[revB]
  |n+1,S=>by
    rw[revB,revB_succ n (S/2)]
    rw[show revB (n+1) S=(S%2)*2^n+revB n (S/2)from rfl,Nat.div_div_eq_div_mul,Nat.pow_succ,Nat.mul_comm 2 (2^n),Nat.mul_add,←Nat.mul_assoc,Nat.add_assoc]
    congr 1
    exact Nat.mul_comm _ _
theorem Gn:∀n S,revB n (S%2^n)=revB n S
  |0,S=>rfl
  |n+1,S=>by
    have h1:S%2^(n+1)%2=S%2:=Nat.mod_mod_of_dvd _ ⟨2^n,by rw[Nat.pow_succ,Nat.mul_comm]⟩
    have h2:S%2^(n+1)/2=(S/2)%2^n:=by
      rw[Nat.pow_succ,Nat.mul_comm];exact Nat.mod_mul_right_div_self S 2 (2^n)
    rw[revB,revB,h1,h2,Gn n (S/2)]
theorem revB_rev:∀n c,c<2^n→revB n (revB n c)=c
  |0,c,h=>by simp at h;subst h;rfl
  |n+1,c,h=>by
    have e:=revB_succ n c
    have hb:(c/2^n)%2=c/2^n:=Nat.mod_eq_of_lt (by
      rw[Nat.div_lt_iff_lt_mul (Nat.pow_pos (by omega))];rw[Nat.pow_succ]at h;omega)
    have h1:revB (n+1) c%2=c/2^n:=by rw[e];omega
    have h2:revB (n+1) c/2=revB n c:=by rw[e];omega
    have h3:=revB_rev n (c%2^n) (Nat.mod_lt _ (Nat.pow_pos (by omega)))
    rw[revB,h1,h2,←Gn n c,h3,Nat.mul_comm]
    exact Nat.div_add_mod c (2^n)
theorem revB_add:∀j m S,revB (m+j) S/2^j=revB m S
  |0,m,S=>by simp
  |j+1,m,S=>by
    rw[←Nat.add_assoc,revB_succ,Nat.pow_succ,Nat.mul_comm (2^j) 2,←Nat.div_div_eq_div_mul,show(2*revB (m+j) S+S/2^(m+j)%2)/2=revB (m+j) S by omega,revB_add j m S]
theorem Gr{m n:Nat}(h:m≤n)(S:Nat):revB n S/2^(n-m)=revB m S:=by
  obtain⟨j,rfl⟩:=Nat.exists_eq_add_of_le h
  rw[Nat.add_sub_cancel_left];exact revB_add j m S
theorem revB_agree{m n S T:Nat}(h:S%2^n=T%2^n)(hm:m≤n):revB m S=revB m T:=by
  rw[←Gr hm S,←Gr hm T,←Gn n S,←Gn n T,h]
theorem revB_eq_iff{n S c:Nat}(hc:c<2^n):revB n S=c↔S%2^n=revB n c:=by
  constructor
  · intro h
    rw[←h,←Gn n S,revB_rev n _ (Nat.mod_lt _ (Nat.pow_pos (by omega)))]
  · intro h
    rw[←Gn,h,revB_rev n c hc]
def cntL(lens:List Nat)(l:Nat):Nat:=if l=0 then 0 else lens.count l
def firstC(lens:List Nat):Nat→Nat
  |0=>0
  |l+1=>2*(firstC lens l+cntL lens l)
def lenOf(lens:List Nat)(i:Nat):Nat:=lens.getD i 0
def codeOf(lens:List Nat)(i:Nat):Nat:=firstC lens (lenOf lens i)+(lens.take i).count (lenOf lens i)
def Mat(lens:List Nat)(i S:Nat):Prop:=0<lenOf lens i∧revB (lenOf lens i) S=codeOf lens i
instance (lens:List Nat)(i S:Nat):Decidable (Mat lens i S):=inferInstanceAs (Decidable (_∧_))
theorem Dx{lens:List Nat}{i:Nat}(h:0<lenOf lens i):i<lens.length:=by
  rcases Nat.lt_or_ge i lens.length with h1|h1
  · exact h1
  · rw[lenOf,List.getD_eq_getElem?_getD,List.getElem?_eq_none h1]at h;simp at h
theorem Bp{lens:List Nat}{i:Nat}(h:i<lens.length):lenOf lens i=lens[i]:=by
  rw[lenOf,List.getD_eq_getElem?_getD,List.getElem?_eq_getElem h];rfl
theorem firstC_mono(lens:List Nat){m:Nat}:∀j,(firstC lens m+cntL lens m)*2^(j+1)≤firstC lens (m+j+1)
  |0=>by rw[show firstC lens (m+0+1)=2*(firstC lens m+cntL lens m)from rfl];omega
  |j+1=>by
    have h:=firstC_mono lens (m:=m) j
    rw[show firstC lens (m+(j+1)+1)=2*(firstC lens (m+j+1)+cntL lens (m+j+1))from rfl,Nat.pow_succ,←Nat.mul_assoc]
    omega
theorem firstC_lt(lens:List Nat){m n:Nat}(h:m<n):(firstC lens m+cntL lens m)*2^(n-m)≤firstC lens n:=by
  obtain⟨j,rfl⟩:=Nat.exists_eq_add_of_lt h
  have:=firstC_mono lens (m:=m) j
  rw[show m+j+1-m=j+1 by omega];exact this
structure FitL(lens:List Nat)(M:Nat):Prop where
  top:∀i,lenOf lens i≤M
  room:firstC lens M+cntL lens M≤2^M
theorem FitL.at{lens:List Nat}{M:Nat}(h:FitL lens M){l:Nat}(hl:l≤M):firstC lens l+cntL lens l≤2^l:=by
  rcases Nat.lt_or_ge l M with h1|h1
  · have h2:=firstC_lt lens h1
    have h3:(firstC lens l+cntL lens l)*2^(M-l)≤2^l*2^(M-l):=by
      rw[←Nat.pow_add,show l+(M-l)=M by omega]
      have:=h.room
      omega
    exact Nat.le_of_mul_le_mul_right h3 (Nat.pow_pos (by omega))
  · rw[show l=M by omega];exact h.room
theorem count_take_lt{lens:List Nat}{i:Nat}(h:i<lens.length):∀{j:Nat},i<j→(lens.take i).count lens[i]<(lens.take j).count lens[i]:=by
  intro j hj
  have h1:(lens.take (i+1)).count lens[i]=(lens.take i).count lens[i]+1:=by
    rw[List.take_add_one,List.getElem?_eq_getElem h,List.count_append];simp
  have h2:(lens.take (i+1)).count lens[i]≤(lens.take j).count lens[i]:=by
    refine List.Sublist.count_le _ ?_
    rw[show lens.take (i+1)=(lens.take j).take (i+1) by rw[List.take_take,Nat.min_eq_left hj]]
    exact List.take_sublist _ _
  omega
theorem count_take_of(n:Nat):∀{lens:List Nat} {q:Nat},q<lens.count n→∃i,∃h:i<lens.length,lens[i]=n∧(lens.take i).count n=q
  | [],q,h=>by simp at h
  |x::r,q,h=>by
    by_cases hx:x=n
    · subst hx
      cases q with
      |zero=>exact⟨0,by simp,rfl,rfl⟩
      |succ q=>
        rw[List.count_cons_self]at h
        obtain⟨i,hi,h1,h2⟩:=count_take_of x (lens:=r) (q:=q) (by omega)
        exact⟨i+1,by simpa using hi,by simpa using h1,by rw[List.take_succ_cons,List.count_cons_self,h2]⟩
    · rw[List.count_cons_of_ne hx]at h
      obtain⟨i,hi,h1,h2⟩:=count_take_of n (lens:=r) (q:=q) h
      exact⟨i+1,by simpa using hi,by simpa using h1,by rw[List.take_succ_cons,List.count_cons_of_ne hx,h2]⟩
theorem codeOf_lt{lens:List Nat}{i:Nat}(hi:0<lenOf lens i):codeOf lens i<firstC lens (lenOf lens i)+cntL lens (lenOf lens i):=by
  have h:=Dx hi
  have e:=Bp h
  have h1:=count_take_lt h h
  rw[List.take_length]at h1
  rw[codeOf,cntL,if_neg (by omega),e]
  omega
theorem Gf{lens:List Nat}{M i:Nat}(hf:FitL lens M)(hi:0<lenOf lens i):codeOf lens i<2^lenOf lens i:=
  Nat.lt_of_lt_of_le (codeOf_lt hi) (hf.at (hf.top i))
theorem code_order{lens:List Nat}{i j:Nat}(hj:0<lenOf lens j)(h:lenOf lens j<lenOf lens i):(codeOf lens j+1)*2^(lenOf lens i-lenOf lens j)≤codeOf lens i:=by
  have h1:=codeOf_lt hj
  have h2:=firstC_lt lens h
  have h3:(codeOf lens j+1)*2^(lenOf lens i-lenOf lens j)≤(firstC lens (lenOf lens j)+cntL lens (lenOf lens j))*2^(lenOf lens i-lenOf lens j):=Nat.mul_le_mul_right _ h1
  have h4:firstC lens (lenOf lens i)≤codeOf lens i:=by rw[codeOf];omega
  omega
theorem mat_len{lens:List Nat}{i j S T n:Nat}(hi:Mat lens i S)(hj:Mat lens j T)(ha:S%2^n=T%2^n)(hn:lenOf lens j≤n):lenOf lens i≤lenOf lens j∨n<lenOf lens i:=by
  rcases Nat.lt_or_ge (lenOf lens j) (lenOf lens i)with h|h
  · rcases Nat.lt_or_ge n (lenOf lens i)with h2|h2
    · exact .inr h2
    · exfalso
      have h1:=code_order hj.1 h
      have e1:=Gr (Nat.le_of_lt h) S
      have e2:=revB_agree ha hn
      rw[hi.2,e2,hj.2]at e1
      have h3:codeOf lens i<(codeOf lens j+1)*2^(lenOf lens i-lenOf lens j):=by
        rw[←Nat.div_lt_iff_lt_mul (Nat.pow_pos (by omega)),e1];omega
      omega
  · exact .inl h
theorem mat_same{lens:List Nat}{i j S T:Nat}(hi:Mat lens i S)(hj:Mat lens j T)(hl:lenOf lens i=lenOf lens j)(he:revB (lenOf lens i) S=revB (lenOf lens i) T):i=j:=by
  have e:codeOf lens i=codeOf lens j:=by rw[←hi.2,←hj.2,he,hl]
  have h1:=Dx hi.1
  have h2:=Dx hj.1
  have e1:=Bp h1
  have e2:=Bp h2
  rw[codeOf,codeOf,hl]at e
  have e3:(lens.take i).count (lenOf lens j)=(lens.take j).count (lenOf lens j):=by omega
  rcases Nat.lt_trichotomy i j with h|h|h
  · have:=count_take_lt h1 h
    rw[←e1,hl]at this;omega
  · exact h
  · have:=count_take_lt h2 h
    rw[←e2]at this;omega
theorem mat_unique{lens:List Nat}{i j S:Nat}(hi:Mat lens i S)(hj:Mat lens j S):i=j:=by
  have hl:lenOf lens i=lenOf lens j:=by
    have a:=mat_len hi hj (n:=max (lenOf lens i) (lenOf lens j)) rfl (Nat.le_max_right _ _)
    have b:=mat_len hj hi (n:=max (lenOf lens i) (lenOf lens j)) rfl (Nat.le_max_left _ _)
    omega
  exact mat_same hi hj hl U
theorem mat_zero{lens:List Nat}{i j b S nb:Nat}(hb:b<2^nb)(hi:Mat lens i b)(hj:Mat lens j S)(ha:S%2^nb=b):lenOf lens i≤lenOf lens j:=by
  rcases Nat.lt_or_ge (lenOf lens j) (lenOf lens i)with h|h
  · exfalso
    rcases Nat.lt_or_ge nb (lenOf lens j)with h2|h2
    · have h1:=code_order hj.1 h
      have e1:revB nb b=revB nb S:=by rw[←ha,Gn]
      have e2:=Gr (Nat.le_of_lt h2) S
      rw[hj.2]at e2
      have z:∀d,revB (nb+d) b=revB nb b*2^d:=by
        intro d
        induction d with
        |zero=>simp
        |succ d ih=>
          rw[←Nat.add_assoc,revB_succ,ih,Nat.div_eq_of_lt (Nat.lt_of_lt_of_le hb (Nat.pow_le_pow_right (by omega) (by omega))),Nat.pow_succ]
          have:(0:Nat)%2=0:=rfl
          rw[this,Nat.add_zero,Nat.mul_comm 2,Nat.mul_assoc]
      have e3:=z (lenOf lens i-nb)
      rw[show nb+(lenOf lens i-nb)=lenOf lens i by omega,hi.2,e1,←e2]at e3
      have h4:codeOf lens j/2^(lenOf lens j-nb)*2^(lenOf lens i-nb)≤codeOf lens j*2^(lenOf lens i-lenOf lens j):=by
        rw[show lenOf lens i-nb=(lenOf lens j-nb)+(lenOf lens i-lenOf lens j) by omega,Nat.pow_add,←Nat.mul_assoc]
        exact Nat.mul_le_mul_right _ (Nat.div_mul_le_self _ _)
      have h5:0<2^(lenOf lens i-lenOf lens j):=Nat.pow_pos (by omega)
      rw[Nat.add_mul]at h1
      omega
    · have hj':Mat lens j b:=⟨hj.1,by rw[←hj.2];exact(revB_agree (n:=nb) (by rw[Nat.mod_eq_of_lt hb,ha]) h2)⟩
      have:=mat_unique hi hj'
      subst this
      omega
  · exact h
theorem mat_some{lens:List Nat}{M:Nat}(h:firstC lens M+cntL lens M=2^M)(S:Nat):∃i,Mat lens i S∧lenOf lens i≤M:=by
  have key:∀l,(∃i,Mat lens i S∧lenOf lens i≤l)∨firstC lens l+cntL lens l≤revB l S:=by
    intro l
    induction l with
    |zero=>right;simp[firstC,cntL]
    |succ l ih=>
      rcases ih with⟨i,h1,h2⟩|ih
      · exact .inl ⟨i,h1,by omega⟩
      · have e:=revB_succ l S
        have f:firstC lens (l+1)=2*(firstC lens l+cntL lens l):=rfl
        rcases Nat.lt_or_ge (revB (l+1) S) (firstC lens (l+1)+cntL lens (l+1))with h1|h1
        · left
          have h2:revB (l+1) S-firstC lens (l+1)<lens.count (l+1):=by
            rw[cntL,if_neg (by omega)]at h1;omega
          obtain⟨i,hi,e1,e2⟩:=count_take_of (l+1) h2
          have e3:lenOf lens i=l+1:=by rw[Bp hi,e1]
          exact⟨i,⟨by omega,by rw[codeOf,e3,e2];omega⟩,by omega⟩
        · exact .inr h1
  rcases key M with h1|h1
  · exact h1
  · have:=Eh M S
    omega
def findS(lens:List Nat)(S k:Nat):Option Nat:=(List.range lens.length).find? fun i=>decide (lenOf lens i≤k∧Mat lens i S)
theorem findS_some{lens:List Nat}{S k i:Nat}:findS lens S k=some i↔Mat lens i S∧lenOf lens i≤k:=by
  constructor
  · intro h
    have:=List.find?_some h
    have:=of_decide_eq_true this
    exact⟨this.2,this.1⟩
  · rintro⟨h1,h2⟩
    cases hf:findS lens S k with
    |none=>
      have:=List.find?_eq_none.1 hf i (List.mem_range.2 (Dx h1.1))
      exact absurd (decide_eq_true ⟨h2,h1⟩) this
    |some j=>
      unfold findS at hf
      have hd:=List.find?_some hf
      have hj:lenOf lens j≤k∧Mat lens j S:=of_decide_eq_true hd
      rw[mat_unique h1 hj.2]
theorem findS_none{lens:List Nat}{S k:Nat}(h:∀i,Mat lens i S→k<lenOf lens i):findS lens S k=none:=by
  cases hf:findS lens S k with
  |none=>rfl
  |some j=>
    have:=findS_some.1 hf
    have:=h j this.1
    omega
end Go.Eng
