/-
  Texts of this proof, merged: Inf, HTab, Sym, Run, Gnd, Err, Crc, Bytes, WBytes, Src, WIo, WCrc, WGz1, WFl0, WRev, Dyn, Rf, Enc, Str.
-/
import Derived.Test.YtbjbmpcgiokdaaaGreatDoorGo1
import Derived.Test.YtbjbmpcgiokdaaaGreatDoorProg
set_option linter.unusedVariables false
set_option linter.unusedSimpArgs false
namespace Go.Eng
set_option maxRecDepth 100000
def leN:List UInt8→Nat
  | []=>0
  |c::r=>c.toNat+256*leN r
def left(D:List UInt8)(p:Nat):Nat:=8*D.length-p
def bitsAt(D:List UInt8)(p:Nat):Nat:=leN D/2^p
def takeB(D:List UInt8)(p n:Nat):Nat:=bitsAt D p%2^n
def maxL(lens:List Nat):Nat:=lens.foldl max 0
def minL(lens:List Nat):Nat:=lens.foldl (fun m n=>if n=0 then m else if m=0∨n<m then n else m) 0
def okLens(lens:List Nat):Prop:=maxL lens=0∨firstC lens (maxL lens)+cntL lens (maxL lens)=2^maxL lens∨(maxL lens=1∧firstC lens 1+cntL lens 1=1)
instance (lens:List Nat):Decidable (okLens lens):=inferInstanceAs (Decidable (_∨_∨_))
def symR(lens:List Nat)(mn:Nat)(D:List UInt8)(p:Nat):Option Nat:=if left D p<mn then none else findS lens (bitsAt D p) (left D p)
structure Tabs where
  lit:List Nat
  mn:Nat
  dist:List Nat
def fixLit:List Nat:=List.replicate 144 8++List.replicate 112 9++List.replicate 24 7++List.replicate 8 8
def Ex:List Nat:=List.replicate 32 5
def fixT:Tabs:=⟨fixLit,7,Ex⟩
def ordL:List Nat:=[16,17,18,0,8,7,9,6,10,5,11,4,12,3,13,2,14,1,15]
def sizesL:List Nat:=[3,4,5,6,7,8,9,10,11,13,15,17,19,23,27,31,35,43,51,59,67,83,99,115,131,163,195,227,258]
def moreL:List Nat:=[0,0,0,0,0,0,0,0,1,1,1,1,2,2,2,2,3,3,3,3,4,4,4,4,5,5,5,5,0]
def farL:List Nat:=[1,2,3,4,5,7,9,13,17,25,33,49,65,97,129,193,257,385,513,769,1025,1537,2049,3073,4097,6145,8193,12289,16385,24577]
def furL:List Nat:=[0,0,0,0,1,1,2,2,3,3,4,4,5,5,6,6,7,7,8,8,9,9,10,10,11,11,12,12,13,13]
def clL(D:List UInt8)(p k:Nat):List Nat:=(List.range 19).map fun s=>if ordL.idxOf s<k then takeB D (p+3*ordL.idxOf s) 3 else 0
def repB(x:Nat):Nat:=if x=18 then 11 else 3
def repN(x:Nat):Nat:=if x=16 then 2 else if x=17 then 3 else 7
def lensGo(D:List UInt8)(cl:List Nat)(n:Nat)(acc:List Nat)(p:Nat):Option (List Nat×Nat):=
  if _h:acc.length<n then
    match symR cl (minL cl) D p with
    |none=>none
    |some x=>
      if x<16 then lensGo D cl n (acc++[x]) (p+lenOf cl x)
      else if x=16∧acc=[]then none
      else if left D (p+lenOf cl x)<repN x then none
      else if _h2:n<acc.length+(repB x+takeB D (p+lenOf cl x) (repN x))then none
      else lensGo D cl n (acc++List.replicate (repB x+takeB D (p+lenOf cl x) (repN x)) (if x=16 then acc.getLastD 0 else 0)) (p+lenOf cl x+repN x)
  else some (acc,p)
termination_by n-acc.length
decreasing_by
  · simp only[List.length_append,List.length_cons,List.length_nil];omega
  · simp only[List.length_append,List.length_replicate]
    have:0<repB x:=by unfold repB;split<;>omega
    omega
def dynR(D:List UInt8)(p:Nat):Option (Tabs×Nat):=
  if left D p<14 then none
  else if 286<takeB D p 5+257 then none
  else if 30<takeB D (p+5) 5+1 then none
  else if left D (p+14)<3*(takeB D (p+10) 4+4)then none
  else if ¬okLens (clL D (p+14) (takeB D (p+10) 4+4))then none
  else match lensGo D (clL D (p+14) (takeB D (p+10) 4+4)) (takeB D p 5+257+(takeB D (p+5) 5+1)) [] (p+14+3*(takeB D (p+10) 4+4))with
    |none=>none
    |some (all,p2)=>
      if okLens (all.take (takeB D p 5+257))∧okLens (all.drop (takeB D p 5+257))then some (⟨all.take (takeB D p 5+257),max (minL (all.take (takeB D p 5+257))) (all.getD 256 0),all.drop (takeB D p 5+257)⟩,p2)
      else none
def copyN(out:List UInt8)(d:Nat):Nat→List UInt8
  |0=>out
  |n+1=>copyN out d n++[(copyN out d n).getD ((copyN out d n).length-d) 0]
inductive EndR where
  |bad
  |done (q:Nat)
inductive Ph where
  |next
  |sym (last:Bool)(t:Tabs)
abbrev ResR:=List UInt8×EndR
def copyR(t:Tabs)(D:List UInt8)(v p:Nat):Option (Nat×Nat×Nat):=
  if left D p<moreL.getD (v-257) 0 then none
  else match symR t.dist 0 D (p+moreL.getD (v-257) 0)with
    |none=>none
    |some d=>
      if 30≤d then none
      else if left D (p+moreL.getD (v-257) 0+lenOf t.dist d)<furL.getD d 0 then none
      else some (sizesL.getD (v-257) 0+takeB D p (moreL.getD (v-257) 0),farL.getD d 0+takeB D (p+moreL.getD (v-257) 0+lenOf t.dist d) (furL.getD d 0),p+moreL.getD (v-257) 0+lenOf t.dist d+furL.getD d 0)
def Gz(D:List UInt8)(q:Nat):Option Nat:=
  if D.length<q+4 then none
  else if(D.getD q 0).toNat+256*(D.getD (q+1) 0).toNat+((D.getD (q+2) 0).toNat+256*(D.getD (q+3) 0).toNat)=65535 then some ((D.getD q 0).toNat+256*(D.getD (q+1) 0).toNat)
  else none
def run(D:List UInt8)(ph:Ph)(out:List UInt8)(p:Nat):ResR:=
  match ph with
  |.next=>
    if left D p<3 then(out,.bad)
    else if takeB D (p+1) 2=0 then
      match Gz D ((p+3+7)/8)with
      |none=>(out,.bad)
      |some n=>
        if D.length<(p+3+7)/8+4+n then(out++D.drop ((p+3+7)/8+4),.bad)
        else if takeB D p 1=1 then(out++(D.drop ((p+3+7)/8+4)).take n,.done ((p+3+7)/8+4+n))
        else if _h:p<8*((p+3+7)/8+4+n)∧8*((p+3+7)/8+4+n)≤8*D.length then run D .next (out++(D.drop ((p+3+7)/8+4)).take n) (8*((p+3+7)/8+4+n))
        else(out,.bad)
    else if takeB D (p+1) 2=1 then
      if _h:p<p+3∧p+3≤8*D.length then run D (.sym (decide (takeB D p 1=1)) fixT) out (p+3)else(out,.bad)
    else if takeB D (p+1) 2=2 then
      match dynR D (p+3)with
      |none=>(out,.bad)
      |some (t,p2)=>if _h:p<p2∧p2≤8*D.length then run D (.sym (decide (takeB D p 1=1)) t) out p2 else(out,.bad)
    else(out,.bad)
  |.sym last t=>
    match symR t.lit t.mn D p with
    |none=>(out,.bad)
    |some v=>
      if v<256 then
        if _h:p<p+lenOf t.lit v∧p+lenOf t.lit v≤8*D.length then run D (.sym last t) (out++[UInt8.ofNat v]) (p+lenOf t.lit v)else(out,.bad)
      else if v=256 then
        if last then(out,.done ((p+lenOf t.lit v+7)/8))
        else if _h:p<p+lenOf t.lit v∧p+lenOf t.lit v≤8*D.length then run D .next out (p+lenOf t.lit v)else(out,.bad)
      else if 286≤v then(out,.bad)
      else match copyR t D v (p+lenOf t.lit v)with
        |none=>(out,.bad)
        |some (n,d,p2)=>
          if out.length<d then(out,.bad)
          else if _h:p<p2∧p2≤8*D.length then run D (.sym last t) (copyN out d n) p2
          else(out,.bad)
termination_by 8*D.length-p
decreasing_by all_goals omega
theorem leN_lt:∀D:List UInt8,leN D<2^(8*D.length)
  | []=>by simp[leN]
  |c::r=>by
    have h:=leN_lt r
    have hc:=c.toNat_lt
    rw[leN,List.length_cons,show 8*(r.length+1)=8+8*r.length by omega,Nat.pow_add]
    omega
theorem leN_drop:∀(D:List UInt8) (q:Nat),leN D/2^(8*q)=leN (D.drop q)
  |D,0=>by simp
  | [],q+1=>by simp[leN]
  |c::r,q+1=>by
    have hc:=c.toNat_lt
    rw[leN,show 8*(q+1)=8+8*q by omega,Nat.pow_add,←Nat.div_div_eq_div_mul,show(2:Nat)^8=256 from rfl,show(c.toNat+256*leN r)/256=leN r by omega,leN_drop r q]
    rfl
theorem leN_get{D:List UInt8}{q:Nat}(h:q<D.length):leN D/2^(8*q)%256=D[q].toNat:=by
  rw[leN_drop,List.drop_eq_getElem_cons h,leN]
  have:=D[q].toNat_lt
  omega
theorem bitsAt_lt(D:List UInt8)(p:Nat):bitsAt D p<2^left D p:=by
  unfold bitsAt left
  rw[Nat.div_lt_iff_lt_mul (Nat.pow_pos (by omega))]
  rcases Nat.lt_or_ge p (8*D.length)with h|h
  · rw[←Nat.pow_add,show 8*D.length-p+p=8*D.length by omega];exact leN_lt D
  · rw[show 8*D.length-p=0 by omega,Nat.pow_zero,Nat.one_mul]
    exact Nat.lt_of_lt_of_le (leN_lt D) (Nat.pow_le_pow_right (by omega) h)
theorem bitsAt_add(D:List UInt8)(p n:Nat):bitsAt D (p+n)=bitsAt D p/2^n:=by
  unfold bitsAt;rw[Nat.pow_add,Nat.div_div_eq_div_mul]
theorem Fw(D:List UInt8)(p n:Nat):takeB D p n<2^n:=Nat.mod_lt _ (Nat.pow_pos (by omega))
structure BitsIn(D:List UInt8)(p q b nb:Nat):Prop where
  at8:p+nb=8*q
  le:q≤D.length
  val:b=takeB D p nb
theorem BitsIn.lt{D:List UInt8}{p q b nb:Nat}(h:BitsIn D p q b nb):b<2^nb:=by rw[h.val];exact Fw _ _ _
theorem BitsIn.left_eq{D:List UInt8}{p q b nb:Nat}(h:BitsIn D p q b nb):left D p=nb+8*(D.length-q):=by
  have h1:=h.at8
  have h2:=h.le
  unfold left;omega
theorem Hg(x m n:Nat):x%2^(m+n)=x%2^m+2^m*(x/2^m%2^n):=by
  rw[Nat.pow_add,Nat.mod_mul]
theorem BitsIn.more{D:List UInt8}{p q b nb:Nat}(h:BitsIn D p q b nb)(hq:q<D.length):BitsIn D p (q+1) (b+2^nb*D[q].toNat) (nb+8):=by
  refine⟨by have:=h.at8;omega,hq,?_⟩
  unfold takeB
  rw[Hg,←bitsAt_add,h.at8,h.val,takeB]
  congr 2
  exact(leN_get hq).symm
theorem BitsIn.take{D:List UInt8}{p q b nb n:Nat}(h:BitsIn D p q b nb)(hn:n≤nb):b%2^n=takeB D p n∧BitsIn D (p+n) q (b/2^n) (nb-n):=by
  have e:nb=n+(nb-n):=by omega
  have hv:=h.val
  unfold takeB at hv
  rw[e,Hg]at hv
  have h1:bitsAt D p%2^n<2^n:=Nat.mod_lt _ (Nat.pow_pos (by omega))
  refine⟨?_,by have:=h.at8;omega,h.le,?_⟩
  · rw[hv,Nat.add_mul_mod_self_left,Nat.mod_eq_of_lt h1];rfl
  · rw[hv,Nat.add_mul_div_left _ _ (Nat.pow_pos (by omega)),Nat.div_eq_of_lt h1,Nat.zero_add,takeB,bitsAt_add]
theorem BitsIn.start(D:List UInt8){q:Nat}(h:q≤D.length):BitsIn D (8*q) q 0 0:=⟨by omega,h,by simp[takeB,Nat.mod_one]⟩
theorem revB_split:∀m n S,revB (m+n) S=revB m S*2^n+revB n (S/2^m)
  |0,n,S=>by simp[revB]
  |m+1,n,S=>by
    rw[show m+1+n=(m+n)+1 by omega,revB,revB_split m n (S/2),revB,Nat.pow_add,Nat.add_mul,Nat.div_div_eq_div_mul,Nat.pow_succ,Nat.mul_comm (2^m) 2,Nat.mul_assoc,Nat.add_assoc]
theorem revB16{x:Nat}:revB 16 x=revB 8 (x%256)*256+revB 8 (x/256):=by
  have h:=revB_split 8 8 x
  have h2:=Gn 8 x
  rw[show(2:Nat)^8=256 from rfl]at h h2
  rw[h,h2]
theorem foldl_max_le(l:List Nat)(m:Nat):m≤l.foldl max m∧∀x∈l,x≤l.foldl max m:=by
  induction l generalizing m with
  |nil=>exact⟨Nat.le_refl _,fun x h=>by cases h⟩
  |cons a r ih=>
    obtain⟨h1,h2⟩:=ih (max m a)
    rw[List.foldl_cons]
    refine⟨by omega,fun x hx=>?_⟩
    rcases List.mem_cons.1 hx with rfl|hx
    · omega
    · exact h2 x hx
theorem maxL_snoc(l:List Nat)(n:Nat):maxL (l++[n])=max (maxL l) n:=by unfold maxL;rw[List.foldl_append];rfl
theorem minL_snoc(l:List Nat)(n:Nat):minL (l++[n])=if n=0 then minL l else if minL l=0∨n<minL l then n else minL l:=by unfold minL;rw[List.foldl_append];rfl
theorem cntL_snoc(l:List Nat)(n k:Nat):cntL (l++[n]) k=cntL l k+(if k≠0∧n=k then 1 else 0):=by
  unfold cntL
  by_cases hk:k=0
  · simp[hk]
  · rw[if_neg hk,if_neg hk,List.count_append]
    by_cases hn:n=k
    · subst hn;simp[hk]
    · rw[if_neg (fun h=>hn h.2),List.count_cons_of_ne hn];simp
theorem le_maxL{l:List Nat}{x:Nat}(h:x∈l):x≤maxL l:=(foldl_max_le l 0).2 x h
theorem Gt(l:List Nat)(i:Nat):lenOf l i≤maxL l:=by
  by_cases h:i<l.length
  · rw[Bp h];exact le_maxL (List.getElem_mem h)
  · rw[lenOf,List.getD_eq_getElem?_getD,List.getElem?_eq_none (by omega)];exact Nat.zero_le _
theorem Fs(l:List Nat):(minL l=0→∀x∈l,x=0)∧(∀x∈l,x≠0→minL l≤x)∧(minL l≠0→minL l∈l):=by
  have key:∀(r:List Nat),(minL r=0→∀x∈r,x=0)∧(∀x∈r,x≠0→minL r≤x)∧(minL r≠0→minL r∈r):=by
    intro r
    have:∀(s:List Nat) (a:List Nat),((minL a=0→∀x∈a,x=0)∧(∀x∈a,x≠0→minL a≤x)∧(minL a≠0→minL a∈a))→((minL (a++s)=0→∀x∈a++s,x=0)∧(∀x∈a++s,x≠0→minL (a++s)≤x)∧(minL (a++s)≠0→minL (a++s)∈a++s)):=by
      intro s
      induction s with
      |nil=>intro a h;simpa using h
      |cons n s ih=>
        intro a h
        have e:a++n::s=(a++[n])++s:=by simp
        rw[e]
        refine ih (a++[n]) ?_
        obtain⟨h1,h2,h3⟩:=h
        rw[minL_snoc]
        refine⟨fun h0 x hx=>?_,fun x hx hx0=>?_,fun h0=>?_⟩
        · split at h0
          · rcases List.mem_append.1 hx with hx|hx
            · exact h1 h0 x hx
            · rw[List.mem_singleton.1 hx];assumption
          · split at h0<;>omega
        · rcases List.mem_append.1 hx with hx|hx
          · have:=h2 x hx hx0
            split
            · exact this
            · split
              · rename_i h4 h5
                rcases h5 with h5|h5
                · exact absurd (h1 h5 x hx) hx0
                · omega
              · exact this
          · rw[List.mem_singleton.1 hx]at hx0⊢
            rw[if_neg hx0]
            split<;>omega
        · split
          · rename_i hn
            rw[if_pos hn]at h0
            exact List.mem_append_left _ (h3 h0)
          · rename_i hn
            rw[if_neg hn]at h0
            split
            · simp
            · rename_i h5
              rw[if_neg h5]at h0
              exact List.mem_append_left _ (h3 h0)
    have:=this r [] ⟨(fun _ x h=>by cases h),(fun x h=>by cases h),fun h=>absurd rfl h⟩
    simpa using this
  exact key l
theorem max_zero{l:List Nat}(h:maxL l=0)(i:Nat):lenOf l i=0:=by have:=Gt l i;omega
theorem min_pos{l:List Nat}(h:maxL l≠0):0<minL l∧minL l≤maxL l:=by
  have h1:=Fs l
  have h2:minL l≠0:=by
    intro h0
    have:∀(r:List Nat) (m:Nat),m=0→(∀x∈r,x=0)→r.foldl max m=0:=by
      intro r
      induction r with
      |nil=>intro m hm _;exact hm
      |cons a r ih=>
        intro m hm hr
        rw[List.foldl_cons]
        refine ih _ ?_ fun x hx=>hr x (List.mem_cons_of_mem _ hx)
        have:=hr a (List.mem_cons_self ..)
        omega
    exact h (this l 0 U (h1.1 h0))
  exact⟨by omega,le_maxL (h1.2.2 h2)⟩
theorem cnt_below{l:List Nat}{k:Nat}(h:k<minL l):cntL l k=0:=by
  unfold cntL
  split
  · rfl
  · rename_i hk
    rw[List.count_eq_zero]
    intro hm
    have:=(Fs l).2.1 k hm hk
    omega
theorem first_min(l:List Nat):∀k,k≤minL l→firstC l k=0
  |0,_=>rfl
  |k+1,h=>by rw[firstC,first_min l k (by omega),cnt_below (by omega)]
theorem first_bound(l:List Nat):∀k,firstC l k+cntL l k+l.length≤l.length*2^(k+1)
  |0=>by simp[firstC,cntL];omega
  |k+1=>by
    have h:=first_bound l k
    have h2:cntL l (k+1)≤l.length:=by unfold cntL;split;omega;exact List.count_le_length
    rw[firstC,Nat.pow_succ,←Nat.mul_assoc];omega
def lookT(f:Nat→Nat)(g:Nat→Nat→Nat)(nk b:Nat):Nat:=if 9<f (b%512)%16 then g (f (b%512)/16) (b/512%nk)else f (b%512)
def link0(mx lk o:Nat):Nat:=if 9<mx∧lk≤revB 9 o then(revB 9 o-lk)*16+10 else 0
structure TabP(lens:List Nat)(mx lk nk k:Nat)(f:Nat→Nat)(g:Nat→Nat→Nat):Prop where
  short:∀o s,o<512→s<k→0<lenOf lens s→lenOf lens s≤9→o%2^lenOf lens s=revB (lenOf lens s) (codeOf lens s)→f o=s*16+lenOf lens s
  rest:∀o,o<512→(∀s,s<k→¬(0<lenOf lens s∧lenOf lens s≤9∧o%2^lenOf lens s=revB (lenOf lens s) (codeOf lens s)))→f o=link0 mx lk o
  long:∀s q,q<nk→s<k→9<lenOf lens s→q%2^(lenOf lens s-9)=revB (lenOf lens s) (codeOf lens s)/512→g (codeOf lens s/2^(lenOf lens s-9)-lk) q=s*16+lenOf lens s
section
variable {lens:List Nat}{mx lk nk k:Nat}{f:Nat→Nat}{g:Nat→Nat→Nat}
theorem TabP.zero:TabP lens mx lk nk 0 (link0 mx lk) g:=⟨fun o s _ h=>by omega,fun o _ _=>rfl,fun s q _ h=>by omega⟩
theorem TabP.skip(h:TabP lens mx lk nk k f g)(h0:lenOf lens k=0):TabP lens mx lk nk (k+1) f g:=by
  refine⟨fun o s ho hs h1 h2 h3=>?_,fun o ho hn=>?_,fun s q hq hs h1 h2=>?_⟩
  · rcases Nat.lt_or_ge s k with h4|h4
    · exact h.short o s ho h4 h1 h2 h3
    · have:s=k:=by omega
      subst this;omega
  · exact h.rest o ho fun s hs=>hn s (by omega)
  · rcases Nat.lt_or_ge s k with h4|h4
    · exact h.long s q hq h4 h1 h2
    · have:s=k:=by omega
      subst this;omega
theorem mat_of_mod(hf:FitL lens mx){s o:Nat}(h1:0<lenOf lens s)(h3:o%2^lenOf lens s=revB (lenOf lens s) (codeOf lens s)):Mat lens s o:=
  ⟨h1,(revB_eq_iff (Gf hf h1)).2 h3⟩
theorem mod_of_mat(hf:FitL lens mx){s o:Nat}(h:Mat lens s o):o%2^lenOf lens s=revB (lenOf lens s) (codeOf lens s):=(revB_eq_iff (Gf hf h.1)).1 h.2
theorem TabP.addShort(hf:FitL lens mx)(h:TabP lens mx lk nk k f g)(h0:0<lenOf lens k)(h9:lenOf lens k≤9){f':Nat→Nat}
    (hy:∀o,o<512→o%2^lenOf lens k=revB (lenOf lens k) (codeOf lens k)→f' o=k*16+lenOf lens k)(hn:∀o,o<512→o%2^lenOf lens k≠revB (lenOf lens k) (codeOf lens k)→f' o=f o):TabP lens mx lk nk (k+1) f' g:=by
  refine⟨fun o s ho hs h1 h2 h3=>?_,fun o ho hno=>?_,fun s q hq hs h1 h2=>?_⟩
  · rcases Nat.lt_or_ge s k with h4|h4
    · have hne:o%2^lenOf lens k≠revB (lenOf lens k) (codeOf lens k):=fun e=>by
        have:=mat_unique (mat_of_mod hf h1 h3) (mat_of_mod hf h0 e)
        omega
      rw[hn o ho hne];exact h.short o s ho h4 h1 h2 h3
    · have:s=k:=by omega
      subst this;exact hy o ho h3
  · rw[hn o ho fun e=>hno k (by omega) ⟨h0,h9,e⟩]
    exact h.rest o ho fun s hs=>hno s (by omega)
  · rcases Nat.lt_or_ge s k with h4|h4
    · exact h.long s q hq h4 h1 h2
    · have:s=k:=by omega
      subst this;omega
theorem rev_parts{n c:Nat}(hn:9≤n)(hc:c<2^n):revB n c%512=revB 9 (c/2^(n-9)):=by
  have h1:=Gr hn (revB n c)
  rw[revB_rev n c hc]at h1
  have h2:=Gn 9 (revB n c)
  have h3:revB 9 (revB 9 (revB n c%2^9))=revB n c%2^9:=revB_rev 9 _ (Nat.mod_lt _ (by decide))
  rw[h2,←h1]at h3
  rw[show(512:Nat)=2^9 from rfl,←h3]
theorem mat_long(hf:FitL lens mx){s q:Nat}(h1:9<lenOf lens s)(h2:q%2^(lenOf lens s-9)=revB (lenOf lens s) (codeOf lens s)/512):Mat lens s (revB 9 (codeOf lens s/2^(lenOf lens s-9))+512*q):=by
  have hc:=Gf hf (i:=s) (by omega)
  refine mat_of_mod hf (by omega) ?_
  have e:=rev_parts (by omega:9≤lenOf lens s) hc
  have hb:=Eh 9 (codeOf lens s/2^(lenOf lens s-9))
  have h5:(2:Nat)^9=512:=rfl
  rw[show lenOf lens s=9+(lenOf lens s-9) by omega,Hg,h5,show 9+(lenOf lens s-9)=lenOf lens s by omega]
  have e1:(revB 9 (codeOf lens s/2^(lenOf lens s-9))+512*q)%512=revB 9 (codeOf lens s/2^(lenOf lens s-9)):=by omega
  have e2:(revB 9 (codeOf lens s/2^(lenOf lens s-9))+512*q)/512=q:=by omega
  rw[e1,e2,h2,←e]
  omega
theorem hi_ge(hk:lk=firstC lens 9+cntL lens 9){s:Nat}(h1:9<lenOf lens s):lk≤codeOf lens s/2^(lenOf lens s-9):=by
  rw[Nat.le_div_iff_mul_le (Nat.pow_pos (by omega)),hk]
  have:=firstC_lt lens h1
  rw[codeOf];omega
theorem TabP.addLong(hf:FitL lens mx)(hk:lk=firstC lens 9+cntL lens 9)(h:TabP lens mx lk nk k f g)(h9:9<lenOf lens k){g':Nat→Nat→Nat}
    (hy:∀q,q<nk→q%2^(lenOf lens k-9)=revB (lenOf lens k) (codeOf lens k)/512→g' (codeOf lens k/2^(lenOf lens k-9)-lk) q=k*16+lenOf lens k)
    (hn:∀a q,a≠codeOf lens k/2^(lenOf lens k-9)-lk∨q%2^(lenOf lens k-9)≠revB (lenOf lens k) (codeOf lens k)/512→g' a q=g a q):TabP lens mx lk nk (k+1) f g':=by
  refine⟨fun o s ho hs h1 h2 h3=>?_,fun o ho hno=>?_,fun s q hq hs h1 h2=>?_⟩
  · rcases Nat.lt_or_ge s k with h4|h4
    · exact h.short o s ho h4 h1 h2 h3
    · have:s=k:=by omega
      subst this;omega
  · exact h.rest o ho fun s hs=>hno s (by omega)
  · rcases Nat.lt_or_ge s k with h4|h4
    · rw[hn]
      · exact h.long s q hq h4 h1 h2
      · by_cases ha:codeOf lens s/2^(lenOf lens s-9)-lk=codeOf lens k/2^(lenOf lens k-9)-lk
        · right
          intro hq2
          have g1:=hi_ge hk h1
          have g2:=hi_ge hk h9
          have e:codeOf lens s/2^(lenOf lens s-9)=codeOf lens k/2^(lenOf lens k-9):=by omega
          have m1:=mat_long hf h1 h2
          have m2:=mat_long hf h9 hq2
          rw[e]at m1
          have:=mat_unique m1 m2
          omega
        · exact .inl ha
    · have:s=k:=by omega
      subst this;exact hy q hq h2
structure TabOK(lens:List Nat)(f:Nat→Nat)(g:Nat→Nat→Nat)(nt nk:Nat):Prop where
  yes:∀s b,Mat lens s b→lookT f g nk b=s*16+lenOf lens s
  no:∀b,(∀s,¬Mat lens s b)→lookT f g nk b%16=0
  lt:∀o,o<512→9<f o%16→f o/16<nt
theorem tab_ok(hf:FitL lens mx)(hm:mx=maxL lens)(hk:lk=firstC lens 9+cntL lens 9)(hfull:firstC lens mx+cntL lens mx=2^mx∨mx=1)(h16:mx≤15)(hnk:nk=2^(mx-9))(h:TabP lens mx lk nk lens.length f g):TabOK lens f g (512-lk) nk:=by
  subst hnk
  have hlt:∀{s b},Mat lens s b→s<lens.length:=fun h=>Dx h.1
  have hlm:∀s,lenOf lens s≤mx:=fun s=>by rw[hm];exact Gt lens s
  have m512:∀{n b:Nat},n≤9→b%512%2^n=b%2^n:=fun {n b} hn=>Nat.mod_mod_of_dvd _ (by
    rw[show(512:Nat)=2^9 from rfl];exact Nat.pow_dvd_pow 2 hn)
  refine⟨fun s b hb=>?_,fun b hno=>?_,fun o ho h9=>?_⟩
  · rcases Nat.lt_or_ge 9 (lenOf lens s)with hl|hl
    · have e1:f (b%512)=link0 mx lk (b%512):=by
        refine h.rest _ (Nat.mod_lt _ (by decide)) fun t ht hh=>?_
        obtain⟨h1,h2,h3⟩:=hh
        rw[m512 h2]at h3
        have:=mat_unique (mat_of_mod hf h1 h3) hb
        subst this;omega
      have e2:revB 9 (b%512)=codeOf lens s/2^(lenOf lens s-9):=by
        rw[show(512:Nat)=2^9 from rfl,Gn,←Gr (by omega:9≤lenOf lens s) b,hb.2]
      have e3:=hi_ge hk hl
      have e4:link0 mx lk (b%512)=(codeOf lens s/2^(lenOf lens s-9)-lk)*16+10:=by
        rw[link0,e2,if_pos ⟨by have:=hlm s;omega,e3⟩]
      unfold lookT
      rw[e1,e4,if_pos (by omega),show((codeOf lens s/2^(lenOf lens s-9)-lk)*16+10)/16=codeOf lens s/2^(lenOf lens s-9)-lk by omega]
      refine h.long s _ (Nat.mod_lt _ (Nat.pow_pos (by omega))) (hlt hb) hl ?_
      have h5:=mod_of_mat hf hb
      have h6:=hlm s
      rw[Nat.mod_mod_of_dvd _ (Nat.pow_dvd_pow 2 (by omega)),←h5]
      rw[show(2:Nat)^lenOf lens s=512*2^(lenOf lens s-9) by rw[show(512:Nat)=2^9 from rfl,←Nat.pow_add];congr 1;omega]
      exact(Nat.mod_mul_right_div_self b 512 _).symm
    · have e1:=h.short (b%512) s (Nat.mod_lt _ (by decide)) (hlt hb) hb.1 hl (by rw[m512 hl];exact mod_of_mat hf hb)
      unfold lookT
      rw[e1,if_neg (by omega)]
  · have e1:f (b%512)=link0 mx lk (b%512):=by
      refine h.rest _ (Nat.mod_lt _ (by decide)) fun t ht hh=>?_
      obtain⟨h1,h2,h3⟩:=hh
      rw[m512 h2]at h3
      exact hno t (mat_of_mod hf h1 h3)
    rcases hfull with h1|h1
    · obtain⟨i,hi,_⟩:=mat_some h1 b
      exact absurd hi (hno i)
    · have e2:link0 mx lk (b%512)=0:=by rw[link0,if_neg (by omega)]
      unfold lookT
      rw[e1,e2];simp
  · by_cases hs:∃s,s<lens.length∧0<lenOf lens s∧lenOf lens s≤9∧o%2^lenOf lens s=revB (lenOf lens s) (codeOf lens s)
    · obtain⟨s,h1,h2,h3,h4⟩:=hs
      rw[h.short o s ho h1 h2 h3 h4]at h9
      omega
    · have e1:=h.rest o ho fun s hs' hh=>hs ⟨s,hs',hh⟩
      have hr:=Eh 9 o
      rw[show(2:Nat)^9=512 from rfl]at hr
      rw[e1]at h9⊢
      unfold link0 at h9⊢
      split at h9
      · rename_i hc
        rw[if_pos hc];omega
      · simp at h9
theorem tab_empty(hm:maxL lens=0):TabOK lens (fun _=>0) (fun _ _=>0) 0 1:=by
  refine⟨fun s b hb=>?_,fun b _=>by simp[lookT],fun o _ h=>by simp at h⟩
  have:=max_zero hm s
  have:=hb.1
  omega
end
section
variable {lens:List Nat}{mx lk nk k:Nat}{f:Nat→Nat}{g:Nat→Nat→Nat}
theorem tab_small(hf:FitL lens mx)(hm:mx=maxL lens)(hfull:firstC lens mx+cntL lens mx=2^mx∨mx=1)(h9:mx≤9)(h:TabP lens mx lk nk lens.length f g):TabOK lens f g 0 1:=by
  have hlm:∀s,lenOf lens s≤mx:=fun s=>by rw[hm];exact Gt lens s
  have h2:TabP lens mx (firstC lens 9+cntL lens 9) 1 lens.length f g:=by
    refine⟨h.short,fun o ho hn=>?_,fun s q _ _ hl=>?_⟩
    · rw[h.rest o ho hn,link0,link0,if_neg (by omega),if_neg (by omega)]
    · have:=hlm s;omega
  have h3:=tab_ok hf hm rfl hfull (by omega) (by rw[show mx-9=0 by omega]) h2
  refine⟨h3.yes,h3.no,fun o ho hlt=>?_⟩
  exfalso
  by_cases hs:∃s,s<lens.length∧0<lenOf lens s∧lenOf lens s≤9∧o%2^lenOf lens s=revB (lenOf lens s) (codeOf lens s)
  · obtain⟨s,h1,h4,h5,h6⟩:=hs
    rw[h.short o s ho h1 h4 h5 h6]at hlt
    omega
  · rw[h.rest o ho fun s hs' hh=>hs ⟨s,hs',hh⟩,link0,if_neg (by omega)]at hlt
    simp at hlt
theorem TabP.at_link(hf:FitL lens mx)(hk:lk=firstC lens 9+cntL lens 9)(h:TabP lens mx lk nk k f g)(h9:9<lenOf lens k):
    f (revB 9 (codeOf lens k/2^(lenOf lens k-9)))=(codeOf lens k/2^(lenOf lens k-9)-lk)*16+10∧codeOf lens k/2^(lenOf lens k-9)<512∧revB (lenOf lens k) (codeOf lens k)/512<2^(lenOf lens k-9):=by
  have hc:=Gf hf (i:=k) (by omega)
  have hp:(2:Nat)^lenOf lens k=512*2^(lenOf lens k-9):=by rw[show(512:Nat)=2^9 from rfl,←Nat.pow_add];congr 1;omega
  have hhi:codeOf lens k/2^(lenOf lens k-9)<512:=by rw[Nat.div_lt_iff_lt_mul (Nat.pow_pos (by omega)),←hp];exact hc
  have hq:revB (lenOf lens k) (codeOf lens k)/512<2^(lenOf lens k-9):=by
    rw[Nat.div_lt_iff_lt_mul (by omega),Nat.mul_comm,←hp];exact Eh _ _
  refine⟨?_,hhi,hq⟩
  have hr:=Eh 9 (codeOf lens k/2^(lenOf lens k-9))
  rw[show(2:Nat)^9=512 from rfl]at hr
  have hm:=mat_long hf h9 (q:=revB (lenOf lens k) (codeOf lens k)/512) (Nat.mod_eq_of_lt hq)
  rw[h.rest _ hr fun s hs hh=>?_]
  · have:=hf.top k
    rw[link0,revB_rev 9 _ (by rw[show(2:Nat)^9=512 from rfl];exact hhi),if_pos ⟨by omega,hi_ge hk h9⟩]
  · obtain⟨h1,h2,h3⟩:=hh
    have m1:=mat_of_mod hf h1 h3
    have m2:Mat lens s (revB 9 (codeOf lens k/2^(lenOf lens k-9))+512*(revB (lenOf lens k) (codeOf lens k)/512)):=by
      refine⟨h1,?_⟩
      rw[←m1.2]
      refine revB_agree (n:=9) ?_ h2
      rw[show(2:Nat)^9=512 from rfl];omega
    have:=mat_unique m2 hm
    omega
end
theorem maxL_le{l:List Nat}{m:Nat}(h:∀x∈l,x≤m):maxL l≤m:=by
  have key:∀(r:List Nat) (a:Nat),a≤m→(∀x∈r,x≤m)→r.foldl max a≤m:=by
    intro r
    induction r with
    |nil=>intro a ha _;exact ha
    |cons x r ih=>
      intro a ha hr
      rw[List.foldl_cons]
      have:=hr x (List.mem_cons_self ..)
      exact ih _ (by omega) fun y hy=>hr y (List.mem_cons_of_mem _ hy)
  exact key l 0 (Nat.zero_le _) h
theorem or16(x y:Nat)(h:y<16):x*16|||y=x*16+y:=by
  have:=Nat.shiftLeft_add_eq_or_of_lt (b:=y) (i:=4) (by omega) x
  rw[Nat.shiftLeft_eq]at this
  exact this.symm
theorem Jj{lens:List Nat}(h:okLens lens):FitL lens (maxL lens):=by
  refine⟨Gt lens,?_⟩
  rcases h with h|h|h
  · rw[h];simp[firstC,cntL]
  · omega
  · rw[h.1];omega
theorem mat_mod{lens:List Nat}{s b S nb:Nat}(hb:b=S%2^nb)(hl:lenOf lens s≤nb):Mat lens s b↔Mat lens s S:=by
  unfold Mat
  rw[revB_agree (n:=nb) (S:=b) (T:=S) (by rw[hb,Nat.mod_mod]) hl]
theorem no_mat{lens:List Nat}{b S nb:Nat}(ok:okLens lens)(hb:b=S%2^nb)(hmn:minL lens≤nb)(hno:∀s,¬Mat lens s b):∀s,¬Mat lens s S:=by
  intro s hs
  rcases ok with h|h|⟨h,h2⟩
  · have:=max_zero h s
    have:=hs.1
    omega
  · obtain⟨i,hi,_⟩:=mat_some h b
    exact hno i hi
  · have h1:lenOf lens s≤1:=by rw[←h];exact Gt lens s
    have h0:=hs.1
    have hp:=min_pos (l:=lens) (by omega)
    exact hno s ((mat_mod hb (by omega)).2 hs)
def AtLeast(lens:List Nat)(S mn n:Nat):Prop:=n=mn∨∀s,Mat lens s S→n≤lenOf lens s
section
variable {lens:List Nat}{f:Nat→Nat}{g:Nat→Nat→Nat}{nt nk mn p q b nb n:Nat}{dt:List UInt8}
theorem bitsIn_val(hB:BitsIn dt p q b nb):b=bitsAt dt p%2^nb:=hB.val
theorem sym_end(hB:BitsIn dt p q b nb)(hq:q=dt.length)(hn:nb<n)(hN:AtLeast lens (bitsAt dt p) mn n):symR lens mn dt p=none:=by
  have hl:=hB.left_eq
  rw[hq,Nat.sub_self,Nat.mul_zero,Nat.add_zero]at hl
  unfold symR
  split
  · rfl
  · rename_i h
    rcases hN with rfl|hN
    · omega
    · exact findS_none fun i hi=>by have:=hN i hi;omega
theorem look_some(hT:TabOK lens f g nt nk)(h0:lookT f g nk b%16≠0)(h15:∀s,lenOf lens s≤15):∃s,Mat lens s b∧lookT f g nk b=s*16+lenOf lens s∧lookT f g nk b%16=lenOf lens s∧lookT f g nk b/16=s:=by
  by_cases h:∃s,Mat lens s b
  · obtain⟨s,hs⟩:=h
    have e:=hT.yes s b hs
    have:=h15 s
    exact⟨s,hs,e,by omega,by omega⟩
  · exact absurd (hT.no b fun s hs=>h ⟨s,hs⟩) h0
theorem sym_more(hT:TabOK lens f g nt nk)(h15:∀s,lenOf lens s≤15)(hB:BitsIn dt p q b nb)(h:nb<lookT f g nk b%16):AtLeast lens (bitsAt dt p) mn (lookT f g nk b%16):=by
  obtain⟨s,hs,_,e,_⟩:=look_some hT (b:=b) (by omega) h15
  refine .inr fun t ht=>?_
  rw[e]
  exact mat_zero hB.lt hs ht (bitsIn_val hB).symm
theorem sym_none(hT:TabOK lens f g nt nk)(h15:∀s,lenOf lens s≤15)(ok:okLens lens)(hB:BitsIn dt p q b nb)(hmn:minL lens≤nb)(h:lookT f g nk b%16=0):symR lens mn dt p=none:=by
  have:=no_mat ok (bitsIn_val hB) hmn fun s hs=>by
    have e:=hT.yes s b hs
    have:=h15 s
    have:=hs.1
    omega
  unfold symR
  split
  · rfl
  · exact findS_none fun i hi=>absurd hi (this i)
theorem sym_found(hT:TabOK lens f g nt nk)(h15:∀s,lenOf lens s≤15)(hB:BitsIn dt p q b nb)(hmn:mn≤nb)(h0:lookT f g nk b%16≠0)(h:lookT f g nk b%16≤nb):
    ∃v,symR lens mn dt p=some v∧lookT f g nk b/16=v∧lookT f g nk b%16=lenOf lens v∧Mat lens v (bitsAt dt p)∧v<lens.length:=by
  obtain⟨s,hs,_,e1,e2⟩:=look_some hT h0 h15
  have hm:=(mat_mod (bitsIn_val hB) (by omega:lenOf lens s≤nb)).1 hs
  have hl:=hB.left_eq
  refine⟨s,?_,e2,e1,hm,Dx hm.1⟩
  unfold symR
  rw[if_neg (by omega)]
  exact findS_some.2 ⟨hm,by omega⟩
theorem sym_bound{m v:Nat}(hm:AtLeast lens (bitsAt dt p) mn m)(hv:Mat lens v (bitsAt dt p)):m≤max mn (lenOf lens v):=by
  rcases hm with rfl|hm
  · omega
  · have:=hm v hv
    omega
end
theorem symR_some{lens:List Nat}{mn:Nat}{D:List UInt8}{p v:Nat}(h:symR lens mn D p=some v):Mat lens v (bitsAt D p)∧p+lenOf lens v≤8*D.length:=by
  unfold symR at h
  split at h
  · cases h
  · obtain⟨h1,h2⟩:=findS_some.1 h
    have:=h1.1
    unfold left at h2
    exact⟨h1,by omega⟩
section
variable {D:List UInt8}{last:Bool}{t:Tabs}{out:List UInt8}{p v:Nat}
theorem run_none(h:symR t.lit t.mn D p=none):run D (.sym last t) out p=(out,.bad):=by rw[run];simp only[h]
theorem run_lit(h:symR t.lit t.mn D p=some v)(hv:v<256):run D (.sym last t) out p=run D (.sym last t) (out++[UInt8.ofNat v]) (p+lenOf t.lit v):=by
  obtain⟨h1,h2⟩:=symR_some h
  have h3:=h1.1
  rw[run]
  simp only[h]
  rw[if_pos hv,dif_pos ⟨by omega,h2⟩]
theorem run_eob(h:symR t.lit t.mn D p=some 256):(last=true→run D (.sym last t) out p=(out,.done ((p+lenOf t.lit 256+7)/8)))∧(last=false→run D (.sym last t) out p=run D .next out (p+lenOf t.lit 256)):=by
  obtain⟨h1,h2⟩:=symR_some h
  have h3:=h1.1
  refine⟨fun e=>?_,fun e=>?_⟩
  · subst e
    rw[run];simp only[h]
    rw[if_neg (by decide),if_pos trivial,if_pos trivial]
  · subst e
    obtain⟨r,hr⟩:∃r,r=run D .next out (p+lenOf t.lit 256):=⟨_,rfl⟩
    rw[←hr,run];simp only[h]
    rw[if_neg (by decide),if_pos trivial,if_neg (by decide),hr]
    exact dif_pos ⟨by omega,h2⟩
theorem run_big(h:symR t.lit t.mn D p=some v)(hv:286≤v):run D (.sym last t) out p=(out,.bad):=by
  rw[run]
  simp only[h]
  rw[if_neg (by omega),if_neg (by omega),if_pos hv]
theorem run_copyR(h:symR t.lit t.mn D p=some v)(h1:257≤v)(h2:v<286):run D (.sym last t) out p=match copyR t D v (p+lenOf t.lit v)with
    |none=>(out,.bad)
    |some (n,d,p2)=>if out.length<d then(out,.bad)else if p<p2∧p2≤8*D.length then run D (.sym last t) (copyN out d n) p2 else(out,.bad):=by
  rw[run]
  simp only[h]
  rw[if_neg (by omega),if_neg (by omega),if_neg (by omega)]
  split
  · rename_i heq;first|rfl|rw[heq]
  · rename_i heq;try rw[heq]
    try simp only
    split
    · rfl
    · split
      · rfl
      · rfl
theorem run_bad(h:symR t.lit t.mn D p=some v)(h1:257≤v)(h2:v<286)(hc:copyR t D v (p+lenOf t.lit v)=none):run D (.sym last t) out p=(out,.bad):=by rw[run_copyR h h1 h2,hc]
theorem run_far{n d p2:Nat}(h:symR t.lit t.mn D p=some v)(h1:257≤v)(h2:v<286)(hc:copyR t D v (p+lenOf t.lit v)=some (n,d,p2))(hd:out.length<d):run D (.sym last t) out p=(out,.bad):=by
  rw[run_copyR h h1 h2,hc];simp only;rw[if_pos hd]
theorem run_copy{n d p2:Nat}(h:symR t.lit t.mn D p=some v)(h1:257≤v)(h2:v<286)(hc:copyR t D v (p+lenOf t.lit v)=some (n,d,p2))(hd:d≤out.length)(hp:p<p2)(hl:p2≤8*D.length):run D (.sym last t) out p=run D (.sym last t) (copyN out d n) p2:=by
  rw[run_copyR h h1 h2,hc];simp only;rw[if_neg (by omega),if_pos ⟨hp,hl⟩]
theorem copyR_more(h:left D p<moreL.getD (v-257) 0):copyR t D v p=none:=by unfold copyR;rw[if_pos h]
theorem copyR_nodist(h:¬left D p<moreL.getD (v-257) 0)(hd:symR t.dist 0 D (p+moreL.getD (v-257) 0)=none):copyR t D v p=none:=by
  unfold copyR;rw[if_neg h];simp only[hd]
variable {d:Nat}
theorem copyR_30(h:¬left D p<moreL.getD (v-257) 0)(hd:symR t.dist 0 D (p+moreL.getD (v-257) 0)=some d)(h30:30≤d):copyR t D v p=none:=by
  unfold copyR;rw[if_neg h];simp only[hd];rw[if_pos h30]
theorem copyR_fur(h:¬left D p<moreL.getD (v-257) 0)(hd:symR t.dist 0 D (p+moreL.getD (v-257) 0)=some d)(h30:d<30)(hf:left D (p+moreL.getD (v-257) 0+lenOf t.dist d)<furL.getD d 0):copyR t D v p=none:=by
  unfold copyR;rw[if_neg h];simp only[hd];rw[if_neg (by omega),if_pos hf]
theorem copyR_some(h:¬left D p<moreL.getD (v-257) 0)(hd:symR t.dist 0 D (p+moreL.getD (v-257) 0)=some d)(h30:d<30)(hf:¬left D (p+moreL.getD (v-257) 0+lenOf t.dist d)<furL.getD d 0):
    copyR t D v p=some (sizesL.getD (v-257) 0+takeB D p (moreL.getD (v-257) 0),farL.getD d 0+takeB D (p+moreL.getD (v-257) 0+lenOf t.dist d) (furL.getD d 0),p+moreL.getD (v-257) 0+lenOf t.dist d+furL.getD d 0):=by
  unfold copyR;rw[if_neg h];simp only[hd];rw[if_neg (by omega),if_neg hf]
end
theorem size_tab0{v:Nat}(h1:257≤v)(h2:v<265):moreL.getD (v-257) 0=0∧sizesL.getD (v-257) 0=1*v-254:=by
  have key:∀k,k<8→0≤k→moreL.getD k 0=0∧sizesL.getD k 0=1*(k+257)-254:=by decide
  have:=key (v-257) (by omega) (by omega)
  rw[show v-257+257=v by omega]at this
  exact this
theorem size_tab1{v:Nat}(h1:265≤v)(h2:v<269):moreL.getD (v-257) 0=1∧sizesL.getD (v-257) 0=2*v-519:=by
  have key:∀k,k<12→8≤k→moreL.getD k 0=1∧sizesL.getD k 0=2*(k+257)-519:=by decide
  have:=key (v-257) (by omega) (by omega)
  rw[show v-257+257=v by omega]at this
  exact this
theorem size_tab2{v:Nat}(h1:269≤v)(h2:v<273):moreL.getD (v-257) 0=2∧sizesL.getD (v-257) 0=4*v-1057:=by
  have key:∀k,k<16→12≤k→moreL.getD k 0=2∧sizesL.getD k 0=4*(k+257)-1057:=by decide
  have:=key (v-257) (by omega) (by omega)
  rw[show v-257+257=v by omega]at this
  exact this
theorem size_tab3{v:Nat}(h1:273≤v)(h2:v<277):moreL.getD (v-257) 0=3∧sizesL.getD (v-257) 0=8*v-2149:=by
  have key:∀k,k<20→16≤k→moreL.getD k 0=3∧sizesL.getD k 0=8*(k+257)-2149:=by decide
  have:=key (v-257) (by omega) (by omega)
  rw[show v-257+257=v by omega]at this
  exact this
theorem size_tab4{v:Nat}(h1:277≤v)(h2:v<281):moreL.getD (v-257) 0=4∧sizesL.getD (v-257) 0=16*v-4365:=by
  have key:∀k,k<24→20≤k→moreL.getD k 0=4∧sizesL.getD k 0=16*(k+257)-4365:=by decide
  have:=key (v-257) (by omega) (by omega)
  rw[show v-257+257=v by omega]at this
  exact this
theorem size_tab5{v:Nat}(h1:281≤v)(h2:v<285):moreL.getD (v-257) 0=5∧sizesL.getD (v-257) 0=32*v-8861:=by
  have key:∀k,k<28→24≤k→moreL.getD k 0=5∧sizesL.getD k 0=32*(k+257)-8861:=by decide
  have:=key (v-257) (by omega) (by omega)
  rw[show v-257+257=v by omega]at this
  exact this
theorem size_tab6{v:Nat}(h1:285≤v)(h2:v<286):moreL.getD (v-257) 0=0∧sizesL.getD (v-257) 0=258:=by
  have:v=285:=by omega
  subst this;decide
theorem size_bound{D:List UInt8}{v p:Nat}(h1:v<286)(h2:257≤v):sizesL.getD (v-257) 0+takeB D p (moreL.getD (v-257) 0)≤258∧moreL.getD (v-257) 0≤5:=by
  have h:=Fw D p (moreL.getD (v-257) 0)
  have key:∀k,k<29→sizesL.getD k 0+2^moreL.getD k 0≤259∧moreL.getD k 0≤5:=by decide
  have:=key (v-257) (by omega)
  omega
theorem far_tab:∀d,d<30→(d<4→furL.getD d 0=0∧farL.getD d 0=d+1)∧(4≤d→furL.getD d 0=(d-2)/2∧farL.getD d 0=2^((d-2)/2+1)+1+d%2*2^((d-2)/2)∧(d-2)/2≤13):=by decide
theorem far_bound{D:List UInt8}{d p:Nat}(h1:d<30):1≤farL.getD d 0+takeB D p (furL.getD d 0)∧farL.getD d 0+takeB D p (furL.getD d 0)≤32768:=by
  have h:=Fw D p (furL.getD d 0)
  have key:∀k,k<30→1≤farL.getD k 0∧farL.getD k 0+2^furL.getD k 0≤32769:=by decide
  have:=key d h1
  omega
theorem fix_first:firstC Ex 5=0:=by decide
theorem fix_len{i:Nat}(h:i<32):lenOf Ex i=5:=by
  rw[lenOf,Ex,List.getD_eq_getElem?_getD,List.getElem?_replicate,if_pos h];rfl
theorem fix_code{i:Nat}(h:i<32):codeOf Ex i=i:=by
  rw[codeOf,fix_len h,fix_first,Ex,List.take_replicate,List.count_replicate]
  simp;omega
theorem sym_fix{D:List UInt8}{p:Nat}(h:¬left D p<5):symR Ex 0 D p=some (revB 5 (takeB D p 5))∧revB 5 (takeB D p 5)<32:=by
  have hlt:revB 5 (takeB D p 5)<32:=Eh 5 _
  refine⟨?_,hlt⟩
  unfold symR
  rw[if_neg (by omega)]
  refine findS_some.2 ⟨⟨by rw[fix_len hlt];decide,?_⟩,by rw[fix_len hlt];omega⟩
  rw[fix_len hlt,fix_code hlt,takeB,Gn]
theorem sym_fix_none{D:List UInt8}{p:Nat}(h:left D p<5):symR Ex 0 D p=none:=by
  unfold symR
  rw[if_neg (by omega)]
  refine findS_none fun i hi=>?_
  have h1:=Dx hi.1
  rw[Ex,List.length_replicate]at h1
  rw[fix_len h1];exact h
abbrev Ta137:=@Go.Proofs.Tryz.isAgg137
abbrev Ta178:=@Go.Proofs.Tryz.isAgg178
abbrev Ta2:=@Go.Proofs.Tryz.isAgg2
abbrev Ta23:=@Go.Proofs.Tryz.isAgg23
abbrev Ta25:=@Go.Proofs.Tryz.isAgg25
abbrev Ta27:=@Go.Proofs.Tryz.isAgg27
abbrev Ta3:=@Go.Proofs.Tryz.isAgg3
abbrev Ta33:=@Go.Proofs.Tryz.isAgg33
abbrev Ta4:=@Go.Proofs.Tryz.isAgg4
abbrev Ta5:=@Go.Proofs.Tryz.isAgg5
abbrev Ta58:=@Go.Proofs.Tryz.isAgg58
abbrev Ta69:=@Go.Proofs.Tryz.isAgg69
abbrev Ta9:=@Go.Proofs.Tryz.isAgg9
abbrev Ta90:=@Go.Proofs.Tryz.isAgg90
abbrev Ta92:=@Go.Proofs.Tryz.isAgg92
abbrev Ta94:=@Go.Proofs.Tryz.isAgg94
abbrev Tz137:=@Go.Proofs.Tryz.sizeOf137
abbrev Tz183:=@Go.Proofs.Tryz.sizeOf183
abbrev Tz194:=@Go.Proofs.Tryz.sizeOf194
abbrev Tz2:=@Go.Proofs.Tryz.sizeOf2
abbrev Tz25:=@Go.Proofs.Tryz.sizeOf25
abbrev Tz27:=@Go.Proofs.Tryz.sizeOf27
abbrev Tz29:=@Go.Proofs.Tryz.sizeOf29
abbrev Tz3:=@Go.Proofs.Tryz.sizeOf3
abbrev Tz35:=@Go.Proofs.Tryz.sizeOf35
abbrev Tz4:=@Go.Proofs.Tryz.sizeOf4
abbrev Tz5:=@Go.Proofs.Tryz.sizeOf5
abbrev Tz58:=@Go.Proofs.Tryz.sizeOf58
abbrev Tz69:=@Go.Proofs.Tryz.sizeOf69
abbrev Tz73:=@Go.Proofs.Tryz.sizeOf73
abbrev Tz75:=@Go.Proofs.Tryz.sizeOf75
abbrev Tz9:=@Go.Proofs.Tryz.sizeOf9
abbrev Tz90:=@Go.Proofs.Tryz.sizeOf90
abbrev Tz92:=@Go.Proofs.Tryz.sizeOf92
abbrev Tu108:=@Go.Proofs.Tryz.underlying108
abbrev Tu137:=@Go.Proofs.Tryz.underlying137
abbrev Tu146:=@Go.Proofs.Tryz.underlying146
abbrev Tu147:=@Go.Proofs.Tryz.underlying147
abbrev Tu153:=@Go.Proofs.Tryz.underlying153
abbrev Tu165:=@Go.Proofs.Tryz.underlying165
abbrev Tu174:=@Go.Proofs.Tryz.underlying174
abbrev Tu175:=@Go.Proofs.Tryz.underlying175
abbrev Tu182:=@Go.Proofs.Tryz.underlying182
abbrev Tu188:=@Go.Proofs.Tryz.underlying188
abbrev Tu189:=@Go.Proofs.Tryz.underlying189
abbrev Tu194:=@Go.Proofs.Tryz.underlying194
abbrev Tu198:=@Go.Proofs.Tryz.underlying198
abbrev Tu2:=@Go.Proofs.Tryz.underlying2
abbrev Tu205:=@Go.Proofs.Tryz.underlying205
abbrev Tu212:=@Go.Proofs.Tryz.underlying212
abbrev Tu214:=@Go.Proofs.Tryz.underlying214
abbrev Tu22:=@Go.Proofs.Tryz.underlying22
abbrev Tu23:=@Go.Proofs.Tryz.underlying23
abbrev Tu25:=@Go.Proofs.Tryz.underlying25
abbrev Tu3:=@Go.Proofs.Tryz.underlying3
abbrev Tu33:=@Go.Proofs.Tryz.underlying33
abbrev Tu4:=@Go.Proofs.Tryz.underlying4
abbrev Tu49:=@Go.Proofs.Tryz.underlying49
abbrev Tu5:=@Go.Proofs.Tryz.underlying5
abbrev Tu58:=@Go.Proofs.Tryz.underlying58
abbrev Tu69:=@Go.Proofs.Tryz.underlying69
abbrev Tu71:=@Go.Proofs.Tryz.underlying71
abbrev Tu9:=@Go.Proofs.Tryz.underlying9
abbrev Tu94:=@Go.Proofs.Tryz.underlying94
abbrev Tu97:=@Go.Proofs.Tryz.underlying97
open Go Go.Proofs
theorem mixed:Tryz.prog.follows .mixedOrders=true:=by kernel_rfl
theorem fa27_0(a:Addr)(w:World):(Instr.fieldAt 27 (.pointer (some a)) 0).run Tryz.prog w=.ok (.pointer (some (a.add 0))) w:=by
  simp[Instr.fieldAt,Instr.sureAddr,fieldPlace,Tryz.runUnderlying27,Tz9]
theorem fa27_1(a:Addr)(w:World):(Instr.fieldAt 27 (.pointer (some a)) 1).run Tryz.prog w=.ok (.pointer (some (a.add 1))) w:=by
  simp[Instr.fieldAt,Instr.sureAddr,fieldPlace,Tryz.runUnderlying27,Tz9]
theorem fa27_2(a:Addr)(w:World):(Instr.fieldAt 27 (.pointer (some a)) 2).run Tryz.prog w=.ok (.pointer (some (a.add 2))) w:=by
  simp[Instr.fieldAt,Instr.sureAddr,fieldPlace,Tryz.runUnderlying27,Tz25]
theorem fa27_3(a:Addr)(w:World):(Instr.fieldAt 27 (.pointer (some a)) 3).run Tryz.prog w=.ok (.pointer (some (a.add 3))) w:=by
  simp[Instr.fieldAt,Instr.sureAddr,fieldPlace,Tryz.runUnderlying27,Tz2]
theorem fa27_4(a:Addr)(w:World):(Instr.fieldAt 27 (.pointer (some a)) 4).run Tryz.prog w=.ok (.pointer (some (a.add 4))) w:=by
  simp[Instr.fieldAt,Instr.sureAddr,fieldPlace,Tryz.runUnderlying27,Tz5]
theorem fa29_0(a:Addr)(w:World):(Instr.fieldAt 29 (.pointer (some a)) 0).run Tryz.prog w=.ok (.pointer (some (a.add 0))) w:=by
  simp[Instr.fieldAt,Instr.sureAddr,fieldPlace,Tryz.runUnderlying29,Tz3]
theorem fa29_1(a:Addr)(w:World):(Instr.fieldAt 29 (.pointer (some a)) 1).run Tryz.prog w=.ok (.pointer (some (a.add 1))) w:=by
  simp[Instr.fieldAt,Instr.sureAddr,fieldPlace,Tryz.runUnderlying29,Tz27]
theorem fa29_2(a:Addr)(w:World):(Instr.fieldAt 29 (.pointer (some a)) 2).run Tryz.prog w=.ok (.pointer (some (a.add 6))) w:=by
  simp[Instr.fieldAt,Instr.sureAddr,fieldPlace,Tryz.runUnderlying29,Tz25]
theorem fa29_3(a:Addr)(w:World):(Instr.fieldAt 29 (.pointer (some a)) 3).run Tryz.prog w=.ok (.pointer (some (a.add 7))) w:=by
  simp[Instr.fieldAt,Instr.sureAddr,fieldPlace,Tryz.runUnderlying29,Tz3]
theorem fa32_0(a:Addr)(w:World):(Instr.fieldAt 32 (.pointer (some a)) 0).run Tryz.prog w=.ok (.pointer (some (a.add 0))) w:=by
  simp[Instr.fieldAt,Instr.sureAddr,fieldPlace,Tryz.runUnderlying32,Tz9]
theorem fa32_1(a:Addr)(w:World):(Instr.fieldAt 32 (.pointer (some a)) 1).run Tryz.prog w=.ok (.pointer (some (a.add 1))) w:=by
  simp[Instr.fieldAt,Instr.sureAddr,fieldPlace,Tryz.runUnderlying32,Tz9]
theorem fa32_2(a:Addr)(w:World):(Instr.fieldAt 32 (.pointer (some a)) 2).run Tryz.prog w=.ok (.pointer (some (a.add 2))) w:=by
  simp[Instr.fieldAt,Instr.sureAddr,fieldPlace,Tryz.runUnderlying32,Tz25]
theorem fa32_3(a:Addr)(w:World):(Instr.fieldAt 32 (.pointer (some a)) 3).run Tryz.prog w=.ok (.pointer (some (a.add 3))) w:=by
  simp[Instr.fieldAt,Instr.sureAddr,fieldPlace,Tryz.runUnderlying32,Tz2]
theorem fa32_4(a:Addr)(w:World):(Instr.fieldAt 32 (.pointer (some a)) 4).run Tryz.prog w=.ok (.pointer (some (a.add 4))) w:=by
  simp[Instr.fieldAt,Instr.sureAddr,fieldPlace,Tryz.runUnderlying32,Tz5]
theorem fa35_0(a:Addr)(w:World):(Instr.fieldAt 35 (.pointer (some a)) 0).run Tryz.prog w=.ok (.pointer (some (a.add 0))) w:=by
  simp[Instr.fieldAt,Instr.sureAddr,fieldPlace,Tryz.runUnderlying35,Tryz.sizeOf32]
theorem fa35_1(a:Addr)(w:World):(Instr.fieldAt 35 (.pointer (some a)) 1).run Tryz.prog w=.ok (.pointer (some (a.add 5))) w:=by
  simp[Instr.fieldAt,Instr.sureAddr,fieldPlace,Tryz.runUnderlying35,Tz4]
theorem fa35_2(a:Addr)(w:World):(Instr.fieldAt 35 (.pointer (some a)) 2).run Tryz.prog w=.ok (.pointer (some (a.add 6))) w:=by
  simp[Instr.fieldAt,Instr.sureAddr,fieldPlace,Tryz.runUnderlying35,Tz4]
theorem fa35_3(a:Addr)(w:World):(Instr.fieldAt 35 (.pointer (some a)) 3).run Tryz.prog w=.ok (.pointer (some (a.add 7))) w:=by
  simp[Instr.fieldAt,Instr.sureAddr,fieldPlace,Tryz.runUnderlying35,Tz4]
theorem fa35_4(a:Addr)(w:World):(Instr.fieldAt 35 (.pointer (some a)) 4).run Tryz.prog w=.ok (.pointer (some (a.add 8))) w:=by
  simp[Instr.fieldAt,Instr.sureAddr,fieldPlace,Tryz.runUnderlying35,Tz4]
theorem fa35_5(a:Addr)(w:World):(Instr.fieldAt 35 (.pointer (some a)) 5).run Tryz.prog w=.ok (.pointer (some (a.add 9))) w:=by
  simp[Instr.fieldAt,Instr.sureAddr,fieldPlace,Tryz.runUnderlying35,Tz4]
theorem fa35_6(a:Addr)(w:World):(Instr.fieldAt 35 (.pointer (some a)) 6).run Tryz.prog w=.ok (.pointer (some (a.add 10))) w:=by
  simp[Instr.fieldAt,Instr.sureAddr,fieldPlace,Tryz.runUnderlying35,Tz5]
theorem fa35_7(a:Addr)(w:World):(Instr.fieldAt 35 (.pointer (some a)) 7).run Tryz.prog w=.ok (.pointer (some (a.add 11))) w:=by
  simp[Instr.fieldAt,Instr.sureAddr,fieldPlace,Tryz.runUnderlying35,Tryz.sizeOf33]
theorem fa73_0(a:Addr)(w:World):(Instr.fieldAt 73 (.pointer (some a)) 0).run Tryz.prog w=.ok (.pointer (some (a.add 0))) w:=by
  simp[Instr.fieldAt,Instr.sureAddr,fieldPlace,Tryz.runUnderlying73,Tz3]
theorem fa73_1(a:Addr)(w:World):(Instr.fieldAt 73 (.pointer (some a)) 1).run Tryz.prog w=.ok (.pointer (some (a.add 1))) w:=by
  simp[Instr.fieldAt,Instr.sureAddr,fieldPlace,Tryz.runUnderlying73,Tz25]
theorem fa73_2(a:Addr)(w:World):(Instr.fieldAt 73 (.pointer (some a)) 2).run Tryz.prog w=.ok (.pointer (some (a.add 2))) w:=by
  simp[Instr.fieldAt,Instr.sureAddr,fieldPlace,Tryz.runUnderlying73,Tryz.sizeOf71]
theorem fa73_3(a:Addr)(w:World):(Instr.fieldAt 73 (.pointer (some a)) 3).run Tryz.prog w=.ok (.pointer (some (a.add 3))) w:=by
  simp[Instr.fieldAt,Instr.sureAddr,fieldPlace,Tryz.runUnderlying73,Tryz.sizeOf23]
theorem fa75_0(a:Addr)(w:World):(Instr.fieldAt 75 (.pointer (some a)) 0).run Tryz.prog w=.ok (.pointer (some (a.add 0))) w:=by
  simp[Instr.fieldAt,Instr.sureAddr,fieldPlace,Tryz.runUnderlying75,Tz5]
theorem fa75_1(a:Addr)(w:World):(Instr.fieldAt 75 (.pointer (some a)) 1).run Tryz.prog w=.ok (.pointer (some (a.add 1))) w:=by
  simp[Instr.fieldAt,Instr.sureAddr,fieldPlace,Tryz.runUnderlying75,Tz3]
theorem fa75_2(a:Addr)(w:World):(Instr.fieldAt 75 (.pointer (some a)) 2).run Tryz.prog w=.ok (.pointer (some (a.add 2))) w:=by
  simp[Instr.fieldAt,Instr.sureAddr,fieldPlace,Tryz.runUnderlying75,Tz3]
theorem fa90_0(a:Addr)(w:World):(Instr.fieldAt 90 (.pointer (some a)) 0).run Tryz.prog w=.ok (.pointer (some (a.add 0))) w:=by
  simp[Instr.fieldAt,Instr.sureAddr,fieldPlace,Tryz.runUnderlying90,Tryz.sizeOf88]
theorem fa90_1(a:Addr)(w:World):(Instr.fieldAt 90 (.pointer (some a)) 1).run Tryz.prog w=.ok (.pointer (some (a.add 1))) w:=by
  simp[Instr.fieldAt,Instr.sureAddr,fieldPlace,Tryz.runUnderlying90,Tz2]
theorem fa92_0(a:Addr)(w:World):(Instr.fieldAt 92 (.pointer (some a)) 0).run Tryz.prog w=.ok (.pointer (some (a.add 0))) w:=by
  simp[Instr.fieldAt,Instr.sureAddr,fieldPlace,Tryz.runUnderlying92,Tz9]
theorem fa92_1(a:Addr)(w:World):(Instr.fieldAt 92 (.pointer (some a)) 1).run Tryz.prog w=.ok (.pointer (some (a.add 1))) w:=by
  simp[Instr.fieldAt,Instr.sureAddr,fieldPlace,Tryz.runUnderlying92,Tz25]
theorem fa92_2(a:Addr)(w:World):(Instr.fieldAt 92 (.pointer (some a)) 2).run Tryz.prog w=.ok (.pointer (some (a.add 2))) w:=by
  simp[Instr.fieldAt,Instr.sureAddr,fieldPlace,Tryz.runUnderlying92,Tz90]
theorem fa92_3(a:Addr)(w:World):(Instr.fieldAt 92 (.pointer (some a)) 3).run Tryz.prog w=.ok (.pointer (some (a.add 4))) w:=by
  simp[Instr.fieldAt,Instr.sureAddr,fieldPlace,Tryz.runUnderlying92,Tz9]
theorem fa92_4(a:Addr)(w:World):(Instr.fieldAt 92 (.pointer (some a)) 4).run Tryz.prog w=.ok (.pointer (some (a.add 5))) w:=by
  simp[Instr.fieldAt,Instr.sureAddr,fieldPlace,Tryz.runUnderlying92,Tz5]
theorem fa99_0(a:Addr)(w:World):(Instr.fieldAt 99 (.pointer (some a)) 0).run Tryz.prog w=.ok (.pointer (some (a.add 0))) w:=by
  simp[Instr.fieldAt,Instr.sureAddr,fieldPlace,Tryz.runUnderlying99,Tz92]
theorem fa99_1(a:Addr)(w:World):(Instr.fieldAt 99 (.pointer (some a)) 1).run Tryz.prog w=.ok (.pointer (some (a.add 6))) w:=by
  simp[Instr.fieldAt,Instr.sureAddr,fieldPlace,Tryz.runUnderlying99,Tryz.sizeOf94]
theorem fa99_2(a:Addr)(w:World):(Instr.fieldAt 99 (.pointer (some a)) 2).run Tryz.prog w=.ok (.pointer (some (a.add 7))) w:=by
  simp[Instr.fieldAt,Instr.sureAddr,fieldPlace,Tryz.runUnderlying99,Tryz.sizeOf96]
theorem fa99_3(a:Addr)(w:World):(Instr.fieldAt 99 (.pointer (some a)) 3).run Tryz.prog w=.ok (.pointer (some (a.add 8))) w:=by
  simp[Instr.fieldAt,Instr.sureAddr,fieldPlace,Tryz.runUnderlying99,Tz69]
theorem fa99_4(a:Addr)(w:World):(Instr.fieldAt 99 (.pointer (some a)) 4).run Tryz.prog w=.ok (.pointer (some (a.add 9))) w:=by
  simp[Instr.fieldAt,Instr.sureAddr,fieldPlace,Tryz.runUnderlying99,Tz69]
theorem fa99_5(a:Addr)(w:World):(Instr.fieldAt 99 (.pointer (some a)) 5).run Tryz.prog w=.ok (.pointer (some (a.add 10))) w:=by
  simp[Instr.fieldAt,Instr.sureAddr,fieldPlace,Tryz.runUnderlying99,Tryz.sizeOf97]
theorem fa99_6(a:Addr)(w:World):(Instr.fieldAt 99 (.pointer (some a)) 6).run Tryz.prog w=.ok (.pointer (some (a.add 522))) w:=by
  simp[Instr.fieldAt,Instr.sureAddr,fieldPlace,Tryz.runUnderlying99,Tz58]
theorem fa99_7(a:Addr)(w:World):(Instr.fieldAt 99 (.pointer (some a)) 7).run Tryz.prog w=.ok (.pointer (some (a.add 523))) w:=by
  simp[Instr.fieldAt,Instr.sureAddr,fieldPlace,Tryz.runUnderlying99,Tz4]
theorem fa101_0(a:Addr)(w:World):(Instr.fieldAt 101 (.pointer (some a)) 0).run Tryz.prog w=.ok (.pointer (some (a.add 0))) w:=by
  simp[Instr.fieldAt,Instr.sureAddr,fieldPlace,Tryz.runUnderlying101,Tz25]
theorem Jd(a:Addr)(w:World):(Instr.fieldAt 101 (.pointer (some a)) 1).run Tryz.prog w=.ok (.pointer (some (a.add 1))) w:=by
  simp[Instr.fieldAt,Instr.sureAddr,fieldPlace,Tryz.runUnderlying101,Tz2]
theorem fa101_2(a:Addr)(w:World):(Instr.fieldAt 101 (.pointer (some a)) 2).run Tryz.prog w=.ok (.pointer (some (a.add 2))) w:=by
  simp[Instr.fieldAt,Instr.sureAddr,fieldPlace,Tryz.runUnderlying101,Tz3]
theorem fa111_0(a:Addr)(w:World):(Instr.fieldAt 111 (.pointer (some a)) 0).run Tryz.prog w=.ok (.pointer (some (a.add 0))) w:=by
  simp[Instr.fieldAt,Instr.sureAddr,fieldPlace,Tryz.runUnderlying111,Tz25]
theorem fa111_1(a:Addr)(w:World):(Instr.fieldAt 111 (.pointer (some a)) 1).run Tryz.prog w=.ok (.pointer (some (a.add 1))) w:=by
  simp[Instr.fieldAt,Instr.sureAddr,fieldPlace,Tryz.runUnderlying111,Tz3]
theorem fa119_0(a:Addr)(w:World):(Instr.fieldAt 119 (.pointer (some a)) 0).run Tryz.prog w=.ok (.pointer (some (a.add 0))) w:=by
  simp[Instr.fieldAt,Instr.sureAddr,fieldPlace,Tryz.runUnderlying119,Tryz.sizeOf23]
theorem fa119_1(a:Addr)(w:World):(Instr.fieldAt 119 (.pointer (some a)) 1).run Tryz.prog w=.ok (.pointer (some (a.add 1))) w:=by
  simp[Instr.fieldAt,Instr.sureAddr,fieldPlace,Tryz.runUnderlying119,Tz3]
theorem fa177_0(a:Addr)(w:World):(Instr.fieldAt 177 (.pointer (some a)) 0).run Tryz.prog w=.ok (.pointer (some (a.add 0))) w:=by
  simp[Instr.fieldAt,Instr.sureAddr,fieldPlace,Tryz.runUnderlying177,Tz3]
theorem fa177_1(a:Addr)(w:World):(Instr.fieldAt 177 (.pointer (some a)) 1).run Tryz.prog w=.ok (.pointer (some (a.add 1))) w:=by
  simp[Instr.fieldAt,Instr.sureAddr,fieldPlace,Tryz.runUnderlying177,Tryz.sizeOf174]
theorem fa177_2(a:Addr)(w:World):(Instr.fieldAt 177 (.pointer (some a)) 2).run Tryz.prog w=.ok (.pointer (some (a.add 513))) w:=by
  simp[Instr.fieldAt,Instr.sureAddr,fieldPlace,Tryz.runUnderlying177,Tryz.sizeOf175]
theorem fa177_3(a:Addr)(w:World):(Instr.fieldAt 177 (.pointer (some a)) 3).run Tryz.prog w=.ok (.pointer (some (a.add 514))) w:=by
  simp[Instr.fieldAt,Instr.sureAddr,fieldPlace,Tryz.runUnderlying177,Tz69]
theorem Eb(a:Addr)(w:World):(Instr.fieldAt 181 (.pointer (some a)) 0).run Tryz.prog w=.ok (.pointer (some (a.add 0))) w:=by
  simp[Instr.fieldAt,Instr.sureAddr,fieldPlace,Tryz.runUnderlying181,Tz25]
theorem Ez(a:Addr)(w:World):(Instr.fieldAt 181 (.pointer (some a)) 1).run Tryz.prog w=.ok (.pointer (some (a.add 1))) w:=by
  simp[Instr.fieldAt,Instr.sureAddr,fieldPlace,Tryz.runUnderlying181,Tz3]
theorem fa181_2(a:Addr)(w:World):(Instr.fieldAt 181 (.pointer (some a)) 2).run Tryz.prog w=.ok (.pointer (some (a.add 2))) w:=by
  simp[Instr.fieldAt,Instr.sureAddr,fieldPlace,Tryz.runUnderlying181,Tz3]
theorem fa181_3(a:Addr)(w:World):(Instr.fieldAt 181 (.pointer (some a)) 3).run Tryz.prog w=.ok (.pointer (some (a.add 3))) w:=by
  simp[Instr.fieldAt,Instr.sureAddr,fieldPlace,Tryz.runUnderlying181,Tz4]
theorem fa186_0(a:Addr)(w:World):(Instr.fieldAt 186 (.pointer (some a)) 0).run Tryz.prog w=.ok (.pointer (some (a.add 0))) w:=by
  simp[Instr.fieldAt,Instr.sureAddr,fieldPlace,Tryz.runUnderlying186,Tryz.sizeOf94]
theorem fa186_1(a:Addr)(w:World):(Instr.fieldAt 186 (.pointer (some a)) 1).run Tryz.prog w=.ok (.pointer (some (a.add 1))) w:=by
  simp[Instr.fieldAt,Instr.sureAddr,fieldPlace,Tryz.runUnderlying186,Tryz.sizeOf132]
theorem Ff(a:Addr)(w:World):(Instr.fieldAt 186 (.pointer (some a)) 2).run Tryz.prog w=.ok (.pointer (some (a.add 2))) w:=by
  simp[Instr.fieldAt,Instr.sureAddr,fieldPlace,Tryz.runUnderlying186,Tz2]
theorem Dp(a:Addr)(w:World):(Instr.fieldAt 186 (.pointer (some a)) 3).run Tryz.prog w=.ok (.pointer (some (a.add 3))) w:=by
  simp[Instr.fieldAt,Instr.sureAddr,fieldPlace,Tryz.runUnderlying186,Tz69]
theorem Ed(a:Addr)(w:World):(Instr.fieldAt 186 (.pointer (some a)) 4).run Tryz.prog w=.ok (.pointer (some (a.add 4))) w:=by
  simp[Instr.fieldAt,Instr.sureAddr,fieldPlace,Tryz.runUnderlying186,Tz137]
theorem fa186_5(a:Addr)(w:World):(Instr.fieldAt 186 (.pointer (some a)) 5).run Tryz.prog w=.ok (.pointer (some (a.add 5))) w:=by
  simp[Instr.fieldAt,Instr.sureAddr,fieldPlace,Tryz.runUnderlying186,Tryz.sizeOf177]
theorem fa186_6(a:Addr)(w:World):(Instr.fieldAt 186 (.pointer (some a)) 6).run Tryz.prog w=.ok (.pointer (some (a.add 520))) w:=by
  simp[Instr.fieldAt,Instr.sureAddr,fieldPlace,Tryz.runUnderlying186,Tryz.sizeOf177]
theorem fa186_7(a:Addr)(w:World):(Instr.fieldAt 186 (.pointer (some a)) 7).run Tryz.prog w=.ok (.pointer (some (a.add 1035))) w:=by
  simp[Instr.fieldAt,Instr.sureAddr,fieldPlace,Tryz.runUnderlying186,Tryz.sizeOf178]
theorem fa186_8(a:Addr)(w:World):(Instr.fieldAt 186 (.pointer (some a)) 8).run Tryz.prog w=.ok (.pointer (some (a.add 1036))) w:=by
  simp[Instr.fieldAt,Instr.sureAddr,fieldPlace,Tryz.runUnderlying186,Tryz.sizeOf179]
theorem Fe(a:Addr)(w:World):(Instr.fieldAt 186 (.pointer (some a)) 9).run Tryz.prog w=.ok (.pointer (some (a.add 1037))) w:=by
  simp[Instr.fieldAt,Instr.sureAddr,fieldPlace,Tryz.runUnderlying186,Tryz.sizeOf181]
theorem fa186_10(a:Addr)(w:World):(Instr.fieldAt 186 (.pointer (some a)) 10).run Tryz.prog w=.ok (.pointer (some (a.add 1041))) w:=by
  simp[Instr.fieldAt,Instr.sureAddr,fieldPlace,Tryz.runUnderlying186,Tryz.sizeOf182]
theorem Jb(a:Addr)(w:World):(Instr.fieldAt 186 (.pointer (some a)) 11).run Tryz.prog w=.ok (.pointer (some (a.add 1045))) w:=by
  simp[Instr.fieldAt,Instr.sureAddr,fieldPlace,Tryz.runUnderlying186,Tz183]
theorem fa186_12(a:Addr)(w:World):(Instr.fieldAt 186 (.pointer (some a)) 12).run Tryz.prog w=.ok (.pointer (some (a.add 1046))) w:=by
  simp[Instr.fieldAt,Instr.sureAddr,fieldPlace,Tryz.runUnderlying186,Tz3]
theorem fa186_13(a:Addr)(w:World):(Instr.fieldAt 186 (.pointer (some a)) 13).run Tryz.prog w=.ok (.pointer (some (a.add 1047))) w:=by
  simp[Instr.fieldAt,Instr.sureAddr,fieldPlace,Tryz.runUnderlying186,Tz4]
theorem Ee(a:Addr)(w:World):(Instr.fieldAt 186 (.pointer (some a)) 14).run Tryz.prog w=.ok (.pointer (some (a.add 1048))) w:=by
  simp[Instr.fieldAt,Instr.sureAddr,fieldPlace,Tryz.runUnderlying186,Tz58]
theorem Ge(a:Addr)(w:World):(Instr.fieldAt 186 (.pointer (some a)) 15).run Tryz.prog w=.ok (.pointer (some (a.add 1049))) w:=by
  simp[Instr.fieldAt,Instr.sureAddr,fieldPlace,Tryz.runUnderlying186,Tz25]
theorem fa186_16(a:Addr)(w:World):(Instr.fieldAt 186 (.pointer (some a)) 16).run Tryz.prog w=.ok (.pointer (some (a.add 1050))) w:=by
  simp[Instr.fieldAt,Instr.sureAddr,fieldPlace,Tryz.runUnderlying186,Tryz.sizeOf184]
theorem fa186_17(a:Addr)(w:World):(Instr.fieldAt 186 (.pointer (some a)) 17).run Tryz.prog w=.ok (.pointer (some (a.add 1051))) w:=by
  simp[Instr.fieldAt,Instr.sureAddr,fieldPlace,Tryz.runUnderlying186,Tryz.sizeOf184]
theorem Gv(a:Addr)(w:World):(Instr.fieldAt 186 (.pointer (some a)) 18).run Tryz.prog w=.ok (.pointer (some (a.add 1052))) w:=by
  simp[Instr.fieldAt,Instr.sureAddr,fieldPlace,Tryz.runUnderlying186,Tz3]
theorem fa186_19(a:Addr)(w:World):(Instr.fieldAt 186 (.pointer (some a)) 19).run Tryz.prog w=.ok (.pointer (some (a.add 1053))) w:=by
  simp[Instr.fieldAt,Instr.sureAddr,fieldPlace,Tryz.runUnderlying186,Tz3]
theorem conc61:Tryz.prog.concrete 61=true:=by simp[Program.concrete,Tryz.underlying61]
theorem conc103:Tryz.prog.concrete 103=true:=by simp[Program.concrete,Tryz.underlying103]
theorem conc190:Tryz.prog.concrete 190=true:=by simp[Program.concrete,Tryz.underlying190]
theorem Hr:Tryz.prog.concrete 202=true:=by simp[Program.concrete,Tryz.underlying202]
theorem infoErrP:Tryz.prog.info? 215=some Tryz.t215:=by kernel_rfl
theorem infoErrS:Tryz.prog.info? 234=some Tryz.t234:=by kernel_rfl
inductive Er where
  |none
  |se (k:Fin 5)
  |corrupt (off:Int)
  |internal (s:ByteArray)
abbrev Er.eof:Er:=.se 0
abbrev Er.header:Er:=.se 1
abbrev Er.unexp:Er:=.se 3
def Er.val(a:Fin 5→Addr):Er→Value
  |.none=>.nilIface
  |.se k=>.iface 215 (.pointer (some (a k)))
  |.corrupt off=>.iface 202 (.int .i64 off)
  |.internal s=>.iface 210 (.string s)
theorem one_er{a:Fin 5→Addr}(e:Er):one (e.val a)=true:=by cases e<;>rfl
def Er.isSe(e:Er)(k:Fin 5):Bool:=match e with
  |.se j=>decide (j=k)
  |_=>false
def Er.isNone(e:Er):Bool:=match e with
  |.none=>true
  |_=>false
theorem Er.isSe_iff{e:Er}{k:Fin 5}:e.isSe k=true↔e=.se k:=by
  cases e<;>simp[Er.isSe]
theorem Er.isNone_iff{e:Er}:e.isNone=true↔e=.none:=by
  cases e<;>simp[Er.isNone]
theorem Er.isSe_not{e:Er}{k:Fin 5}:e.isSe k=false↔e≠.se k:=by
  rw[←Bool.not_eq_true,Er.isSe_iff]
theorem Er.isNone_not{e:Er}:e.isNone=false↔e≠.none:=by
  rw[←Bool.not_eq_true,Er.isNone_iff]
structure Sents(K:Known)(a:Fin 5→Addr):Prop where
  ptr:∀k,KnownPtr K (a k)
  inj:∀j k,a j=a k→j=k
  g0:cellAt K 0 0=some (Er.val a (.se 0))
  g1:cellAt K 1 0=some (Er.val a (.se 1))
  g2:cellAt K 2 0=some (Er.val a (.se 2))
  g3:cellAt K 8 0=some (Er.val a (.se 3))
  g4:cellAt K 9 0=some (Er.val a (.se 4))
theorem Jl{K K':Known}(h:∀b o,K b=some o→K' b=some o){b o:Nat}{v:Value}(hv:cellAt K b o=some v):cellAt K' b o=some v:=by
  unfold cellAt at hv⊢
  split at hv
  · rename_i c t fr hb
    rw[h b _ hb];exact hv
  · cases hv
theorem Sents.mono{K K':Known}(h:∀b o,K b=some o→K' b=some o){a:Fin 5→Addr}(s:Sents K a):Sents K' a:=
  ⟨fun k=>by obtain⟨c,t,hk⟩:=s.ptr k;exact⟨c,t,h _ _ hk⟩,s.inj,Jl h s.g0,Jl h s.g1,Jl h s.g2,Jl h s.g3,Jl h s.g4⟩
theorem neq_of_eql_nil{P:Program}{xT:TypeId}{w:World}{t':TypeId}{v:Value}{b:Bool}(h:(binOp .eql xT .nilIface (.iface t' v)).run P w=.ok (.bool b) w):
    (binOp .neq xT .nilIface (.iface t' v)).run P w=.ok (.bool (!b)) w:=by
  simp only[binOp]at h⊢
  rw[Sem.run_bind]at h⊢
  cases hq:(Op.equal xT .nilIface (.iface t' v)).run P w with
  |ok c w1=>
    rw[hq]at h
    simp only[Result.andThen_ok,Sem.run_pure,Result.ok.injEq,Value.bool.injEq]at h⊢
    exact⟨by rw[h.1],h.2⟩
  |halt c w1=>rw[hq]at h;simp at h
section
variable {K:Known}{n:Nat}{env:Env}{L:Frags}{ty:TypeId}{a:Fin 5→Addr}
theorem eql_se(hs:Sents K a){e:Er}{k:Fin 5}{w:World}(hw:∃L,Agree K L w.heap):(binOp .eql 58 (e.val a) (Er.val a (.se k))).run Tryz.prog w=.ok (.bool (e.isSe k)) w:=by
  have hi:=Tu58
  cases e with
  |none=>exact run_eql_nil_iface hi
  |se j=>
    have:=run_eql_ptrs (P:=Tryz.prog) (H0:=K) (w:=w) (a:=a j) (b:=a k) (i:=Tryz.t215) (j:=Tryz.t234) hi Tryz.underlying215 infoErrP (by rfl) infoErrS (by decide) (hs.ptr j) (hs.ptr k) hw
    show(binOp .eql _ (.iface _ (.pointer (some (a j)))) (.iface _ (.pointer (some (a k))))).run Tryz.prog w=_
    rw[this]
    have:decide (a j=a k)=decide (j=k):=by
      by_cases h:j=k
      · subst h;simp
      · rw[decide_eq_false h,decide_eq_false fun h'=>h (hs.inj j k h')]
    rw[this];rfl
  |corrupt off=>exact Hw hi (by decide)
  |internal s=>exact Hw hi (by decide)
theorem guard_er{e:Er}{k:Fin 5}{op:BinOp}{xT:TypeId}{x y:Operand}(w:World):(eqGuard op xT x y (e.val a) (Er.val a (.se k))).run Tryz.prog w=.ok () w:=by
  cases e with
  |none=>exact guard_nilOther w
  |_=>exact guard_iface w
theorem S.eqEr(hs:Sents K a){e:Er}{k:Fin 5}{x y:Operand}{yT:TypeId}(hx:ev? env x=some (e.val a))(hy:ev? env y=some (Er.val a (.se k))):
    OpS Tryz.prog K n (.binOp .eql 58 x y yT) ty env L (.bool (e.isSe k)):=
  eq_run (.inl rfl) hx hy guard_er fun _ hw=>eql_se hs hw
theorem S.neEr(hs:Sents K a){e:Er}{k:Fin 5}{x y:Operand}{yT:TypeId}(hx:ev? env x=some (e.val a))(hy:ev? env y=some (Er.val a (.se k))):
    OpS Tryz.prog K n (.binOp .neq 58 x y yT) ty env L (.bool (!e.isSe k)):=
  eq_run (.inr rfl) hx hy guard_er fun w hw=>by
    have h:=eql_se hs (e:=e) (k:=k) hw
    cases e with
    |none=>exact neq_of_eql_nil h
    |se j=>exact run_neq_of_eql h
    |corrupt off=>exact run_neq_of_eql h
    |internal s=>exact run_neq_of_eql h
theorem S.eqErNil{e:Er}{x:Operand}{yT:TypeId}(hx:ev? env x=some (e.val a)):OpS Tryz.prog K n (.binOp .eql 58 x (.const .nilIface) yT) ty env L (.bool e.isNone):=by
  cases e with
  |none=>exact S.eqNilN hx Tu58
  |se k=>exact S.eqNilI hx Tu58
  |corrupt off=>exact S.eqNilI hx Tu58
  |internal s=>exact S.eqNilI hx Tu58
theorem Df{e:Er}{x:Operand}{yT:TypeId}(hx:ev? env x=some (e.val a)):OpS Tryz.prog K n (.binOp .neq 58 x (.const .nilIface) yT) ty env L (.bool (!e.isNone)):=by
  cases e with
  |none=>exact S.neNilN hx Tu58
  |se k=>exact S.neNilI hx Tu58
  |corrupt off=>exact S.neNilI hx Tu58
  |internal s=>exact S.neNilI hx Tu58
theorem S.eqErOther{e:Er}{x y:Operand}{yT t:TypeId}{v:Value}(hx:ev? env x=some (e.val a))(hy:ev? env y=some (.iface t v))(h1:Nat.beq 215 t=false)(h2:Nat.beq 202 t=false)
    (h3:Nat.beq 210 t=false):OpS Tryz.prog K n (.binOp .eql 58 x y yT) ty env L (.bool false):=by
  cases e with
  |none=>exact S.eqNil2 hx hy Tu58
  |se k=>exact S.eqTypes hx hy Tu58 h1
  |corrupt off=>exact S.eqTypes hx hy Tu58 h2
  |internal s=>exact S.eqTypes hx hy Tu58 h3
theorem C.ifNone{P:Program}{c:Operand}{x y:Code}{N X R}{e:Er}(hc:ev? env c=some (.bool e.isNone))
    (ht:e=.none→wpC P K n x env L N X R)(he:e≠.none→wpC P K n y env L N X R):wpC P K n (.cond c x y) env L N X R:=
  Eg hc (fun h=>ht (Er.isNone_iff.1 h)) (fun h=>he (Er.isNone_not.1 h))
theorem Dn{P:Program}{c:Operand}{x y:Code}{N X R}{e:Er}(hc:ev? env c=some (.bool (!e.isNone)))
    (ht:e≠.none→wpC P K n x env L N X R)(he:e=.none→wpC P K n y env L N X R):wpC P K n (.cond c x y) env L N X R:=
  Eg hc (fun h=>ht (Er.isNone_not.1 (by simpa using h))) (fun h=>he (Er.isNone_iff.1 (by simpa using h)))
theorem C.ifSe{P:Program}{c:Operand}{x y:Code}{N X R}{e:Er}{k:Fin 5}(hc:ev? env c=some (.bool (e.isSe k)))
    (ht:e=.se k→wpC P K n x env L N X R)(he:e≠.se k→wpC P K n y env L N X R):wpC P K n (.cond c x y) env L N X R:=
  Eg hc (fun h=>ht (Er.isSe_iff.1 h)) (fun h=>he (Er.isSe_not.1 h))
theorem C.ifNotSe{P:Program}{c:Operand}{x y:Code}{N X R}{e:Er}{k:Fin 5}(hc:ev? env c=some (.bool (!e.isSe k)))
    (ht:e≠.se k→wpC P K n x env L N X R)(he:e=.se k→wpC P K n y env L N X R):wpC P K n (.cond c x y) env L N X R:=
  Eg hc (fun h=>ht (Er.isSe_not.1 (by simpa using h))) (fun h=>he (Er.isSe_iff.1 (by simpa using h)))
end
section
variable {P:Program}{K:Known}{n:Nat}{env:Env}{L:Frags}
theorem Ha{ops:Array Oper}{l:List Oper}{d:Nat}{b:Bool}{N:Post}(h1:b=true→wpE P K n ops l ((d,.bool true)::env) L N)(h2:b=false→wpE P K n ops l ((d,.bool false)::env) L N):
    wpE P K n ops l ((d,.bool b)::env) L N:=by cases b;exact h2 U;exact h1 U
theorem Ek{ops:Array Oper}{l:List Oper}{d:Nat}{p:Prop}{_:Decidable p}{N:Post}(h1:p→wpE P K n ops l ((d,.bool true)::env) L N)(h2:¬p→wpE P K n ops l ((d,.bool false)::env) L N):
    wpE P K n ops l ((d,.bool (decide p))::env) L N:=Ha (fun h=>h1 (of_decide_eq_true h)) fun h=>h2 (of_decide_eq_false h)
theorem W.forkB{ops:Array Oper}{ds:List Nat}{s:List (Nat×Nat)}{d:Nat}{b:Bool}{M:Env→Prop}(h1:b=true→wpS P K n ops ds s ((d,.bool true)::env) L M)(h2:b=false→wpS P K n ops ds s ((d,.bool false)::env) L M):
    wpS P K n ops ds s ((d,.bool b)::env) L M:=by cases b;exact h2 U;exact h1 U
theorem W.fork{ops:Array Oper}{ds:List Nat}{s:List (Nat×Nat)}{d:Nat}{p:Prop}{_:Decidable p}{M:Env→Prop}(h1:p→wpS P K n ops ds s ((d,.bool true)::env) L M)(h2:¬p→wpS P K n ops ds s ((d,.bool false)::env) L M):
    wpS P K n ops ds s ((d,.bool (decide p))::env) L M:=W.forkB (fun h=>h1 (of_decide_eq_true h)) fun h=>h2 (of_decide_eq_false h)
theorem D.forkB{ops:Array Oper}{ds:List Nat}{q:Plan}{d:Nat}{b:Bool}{N:Post}(h1:b=true→wpD P K n ops ds q ((d,.bool true)::env) L N)(h2:b=false→wpD P K n ops ds q ((d,.bool false)::env) L N):
    wpD P K n ops ds q ((d,.bool b)::env) L N:=by cases b;exact h2 U;exact h1 U
theorem D.fork{ops:Array Oper}{ds:List Nat}{q:Plan}{d:Nat}{p:Prop}{_:Decidable p}{N:Post}(h1:p→wpD P K n ops ds q ((d,.bool true)::env) L N)(h2:¬p→wpD P K n ops ds q ((d,.bool false)::env) L N):
    wpD P K n ops ds q ((d,.bool (decide p))::env) L N:=D.forkB (fun h=>h1 (of_decide_eq_true h)) fun h=>h2 (of_decide_eq_false h)
theorem Ak{ops:Array Oper}{dst:Option Nat}{op:Op}{ty:TypeId}{pos:String}{af:Array Edge}{j:Nat}{b:Bool}{rest:List Oper}{N:Post}
    (t:Nat)(ht:(ops[j]?).bind (·.dst)=some t)(hv:get? env t=some (.bool b))(k:wpE P K n ops (⟨dst,op,ty,pos,af,none⟩::rest) env L N):
    wpE P K n ops (⟨dst,op,ty,pos,af,some (j,b)⟩::rest) env L N:=by
  intro a w hf hw Q hq
  have h1:=k a w hf hw Q hq
  have hy:yielded ops a.tmps j=some b:=Je hf ht hv
  simp only[wpList,Region.wanted,hy,beq_self_eq_true,if_true]at h1⊢
  exact h1
end
def kindOf(e:Er):Nat:=match e with
  |.none=>0
  |.se k=>if k=0 then 1 else if k=1 then 2 else if k=2 then 3 else 5
  |_=>5
theorem kindOf_other{e:Er}(h0:e≠.none)(h1:e≠.se 0)(h2:e≠.se 1)(h3:e≠.se 2):kindOf e=5:=by
  cases e with
  |none=>exact absurd rfl h0
  |se k=>
    have e1:k≠0:=fun h=>h1 (by rw[h])
    have e2:k≠1:=fun h=>h2 (by rw[h])
    have e3:k≠2:=fun h=>h3 (by rw[h])
    simp[kindOf,e1,e2,e3]
  |corrupt off=>rfl
  |internal s=>rfl
open Go
abbrev u32(x:Nat):Value:=.int .u32 (x:Int)
def div1(poly c:Nat):Nat:=if c&&&1=1 then c>>>1^^^poly else c>>>1
def divN(poly:Nat):Nat→Nat→Nat
  |0,c=>c
  |n+1,c=>div1 poly (divN poly n c)
theorem xor32{a b:Nat}(ha:a<4294967296)(hb:b<4294967296):a^^^b<4294967296:=Nat.xor_lt_two_pow (n:=32) ha hb
theorem xor8{a b:Nat}(ha:a<256)(hb:b<256):a^^^b<256:=Nat.xor_lt_two_pow (n:=8) ha hb
theorem div1_lt{poly c:Nat}(hp:poly<4294967296)(hc:c<4294967296):div1 poly c<4294967296:=by
  unfold div1
  split
  · exact xor32 (by omega) hp
  · omega
theorem divN_lt{poly:Nat}(hp:poly<4294967296):∀n c,c<4294967296→divN poly n c<4294967296
  |0,_,h=>h
  |n+1,c,h=>div1_lt hp (divN_lt hp n c h)
theorem divN_odd{poly j i c:Nat}(h:c=divN poly j i)(ho:((c&&&1:Nat):Int)=1):c>>>1^^^poly=divN poly (j+1) i:=by
  have ho':c&&&1=1:=by exact_mod_cast ho
  rw[divN,←h,div1,if_pos ho']
theorem divN_even{poly j i c:Nat}(h:c=divN poly j i)(ho:¬((c&&&1:Nat):Int)=1):c>>>1=divN poly (j+1) i:=by
  have ho':¬(c&&&1=1):=fun h=>ho (by exact_mod_cast h)
  rw[divN,←h,div1,if_neg ho']
def fillT(poly:Nat):Nat→List Value→List Value
  |0,cs=>cs
  |i+1,cs=>(fillT poly i cs).set i (u32 (divN poly 8 i))
theorem fillT_length(poly:Nat):∀i cs,(fillT poly i cs).length=cs.length
  |0,_=>rfl
  |i+1,cs=>by rw[fillT,List.length_set];exact fillT_length poly i cs
theorem and1_xor(a b:Nat):(a^^^b)&&&1=if(a&&&1)=(b&&&1)then 0 else 1:=by
  have h:=Nat.xor_mod_two_pow (a:=a) (b:=b) (n:=1)
  simp only[Nat.and_one_is_mod]
  rw[show(2:Nat)^1=2 from rfl]at h
  rw[h]
  have ha:a%2=0∨a%2=1:=by omega
  have hb:b%2=0∨b%2=1:=by omega
  rcases ha with ha|ha<;>rcases hb with hb|hb<;>rw[ha,hb]<;>rfl
theorem shr_xor(a b n:Nat):(a^^^b)>>>n=(a>>>n)^^^(b>>>n):=by
  apply Nat.eq_of_testBit_eq
  intro i
  simp[Nat.testBit_xor,Nat.testBit_shiftRight]
theorem xor_right_comm(a b c:Nat):a^^^b^^^c=a^^^c^^^b:=by rw[Nat.xor_assoc,Nat.xor_comm b c,←Nat.xor_assoc]
theorem div1_xor(poly a b:Nat):div1 poly (a^^^b)=div1 poly a^^^div1 poly b:=by
  have ha:a&&&1=0∨a&&&1=1:=by rw[Nat.and_one_is_mod];omega
  have hb:b&&&1=0∨b&&&1=1:=by rw[Nat.and_one_is_mod];omega
  unfold div1
  rw[and1_xor,shr_xor]
  rcases ha with ha|ha<;>rcases hb with hb|hb<;>simp only[ha,hb]<;>simp only[if_true,if_false,Nat.zero_ne_one,Nat.one_ne_zero]
  · rw[Nat.xor_assoc]
  · exact xor_right_comm _ _ _
  · rw[Nat.xor_assoc,Nat.xor_comm (b>>>1) poly,←Nat.xor_assoc,←Nat.xor_assoc,Nat.xor_assoc (a>>>1),Nat.xor_self,Nat.xor_zero]
theorem divN_xor(poly:Nat):∀n a b,divN poly n (a^^^b)=divN poly n a^^^divN poly n b
  |0,_,_=>rfl
  |n+1,a,b=>by rw[divN,divN_xor poly n,div1_xor];rfl
theorem divN_add(poly m:Nat):∀n x,divN poly (n+m) x=divN poly n (divN poly m x)
  |0,x=>by rw[Nat.zero_add];rfl
  |n+1,x=>by rw[show n+1+m=(n+m)+1 by omega,divN,divN_add poly m n];rfl
theorem div1_even(poly y:Nat):div1 poly (2*y)=y:=by
  have h:¬(2*y&&&1=1):=by rw[Nat.and_one_is_mod];omega
  rw[div1,if_neg h];omega
theorem divN_shl(poly y:Nat):∀n,divN poly n (y*2^n)=y
  |0=>by simp[divN]
  |n+1=>by
    rw[divN_add poly 1 n,show y*2^(n+1)=2*(y*2^n) by rw[Nat.pow_succ,Nat.mul_comm (2^n) 2,Nat.mul_left_comm]]
    show divN poly n (div1 poly (2*(y*2^n)))=y
    rw[div1_even];exact divN_shl poly y n
theorem split8(x:Nat):x=(x&&&255)^^^((x>>>8)*2^8):=by
  apply Nat.eq_of_testBit_eq
  intro i
  rw[show(255:Nat)=2^8-1 from rfl,Nat.and_two_pow_sub_one_eq_mod,←Nat.shiftLeft_eq]
  simp only[Nat.testBit_xor,Nat.testBit_mod_two_pow,Nat.testBit_shiftLeft,Nat.testBit_shiftRight]
  by_cases h:i<8
  · simp[h,Nat.not_le.2 h]
  · simp[h,Nat.not_lt.1 h,show 8+(i-8)=i by omega]
theorem div8_table(poly x:Nat):divN poly 8 x=divN poly 8 (x&&&255)^^^(x>>>8):=by
  conv=>lhs;rw[split8 x]
  rw[divN_xor,divN_shl]
theorem mod256(x:Nat):x%256=x&&&255:=by rw[show(255:Nat)=2^8-1 from rfl,Nat.and_two_pow_sub_one_eq_mod]
theorem shr8_small{v:Nat}(h:v<256):v>>>8=0:=by omega
def step(poly c v:Nat):Nat:=divN poly 8 (c^^^v)
theorem step_table(poly:Nat){c v:Nat}(hv:v<256):divN poly 8 (c%256^^^v)^^^(c>>>8)=step poly c v:=by
  unfold step
  rw[div8_table poly (c^^^v),shr_xor,shr8_small hv,Nat.xor_zero,mod256]
  congr 2
  rw[←mod256,←mod256,show(256:Nat)=2^8 from rfl,Nat.xor_mod_two_pow,Nat.mod_eq_of_lt (a:=v) hv]
theorem step_lt{poly c v:Nat}(hp:poly<4294967296)(hc:c<4294967296)(hv:v<256):step poly c v<4294967296:=
  divN_lt hp 8 _ (xor32 hc (by omega))
def TT(poly j k:Nat):Nat:=divN poly (8*(j+1)) k
theorem TT_succ(poly j k:Nat):TT poly 0 (TT poly j k&&&255)^^^(TT poly j k>>>8)=TT poly (j+1) k:=by
  unfold TT
  rw[←div8_table,←divN_add]
  congr 1
  omega
theorem TT_lt{poly j k:Nat}(hp:poly<4294967296)(hk:k<256):TT poly j k<4294967296:=divN_lt hp _ _ (by omega)
def le32(a b c d:Nat):Nat:=a|||((b<<<8)%4294967296)|||((c<<<16)%4294967296)|||((d<<<24)%4294967296)
theorem or_xor8{a b k:Nat}(h:a<2^k):a|||(b<<<k)=a^^^(b*2^k):=by
  rw[←Nat.shiftLeft_eq]
  apply Nat.eq_of_testBit_eq
  intro i
  simp only[Nat.testBit_or,Nat.testBit_xor,Nat.testBit_shiftLeft]
  by_cases hi:k≤i
  · have:a.testBit i=false:=Nat.testBit_lt_two_pow (Nat.lt_of_lt_of_le h (Nat.pow_le_pow_right (by decide) hi))
    simp[this]
  · simp[hi]
theorem or_lt{a b k:Nat}(ha:a<2^k)(hb:b<2^k):a|||b<2^k:=Nat.or_lt_two_pow ha hb
theorem le32_xor{a b c d:Nat}(ha:a<256)(hb:b<256)(hc:c<256)(hd:d<256):le32 a b c d=a^^^(b*2^8)^^^(c*2^16)^^^(d*2^24):=by
  unfold le32
  rw[show(b<<<8)%4294967296=b<<<8 by rw[Nat.shiftLeft_eq];omega,show(c<<<16)%4294967296=c<<<16 by rw[Nat.shiftLeft_eq];omega,
    show(d<<<24)%4294967296=d<<<24 by rw[Nat.shiftLeft_eq];omega]
  have h1:a|||b<<<8<2^16:=or_lt (by omega) (by rw[Nat.shiftLeft_eq];omega)
  have h2:a|||b<<<8|||c<<<16<2^24:=or_lt (by omega) (by rw[Nat.shiftLeft_eq];omega)
  rw[or_xor8 h2,or_xor8 h1,or_xor8 (k:=8) (by omega)]
theorem le32_lt{a b c d:Nat}(ha:a<256)(hb:b<256)(hc:c<256)(hd:d<256):le32 a b c d<4294967296:=
  or_lt (k:=32) (or_lt (or_lt (by omega) (by omega)) (by omega)) (by omega)
theorem divN_shl8(poly n y:Nat)(k:Nat):divN poly (n+k) (y*2^k)=divN poly n y:=by rw[divN_add,divN_shl]
theorem div_bytes(poly n x:Nat)(hx:x<4294967296):divN poly (n+32) x=
    divN poly (n+8) (x>>>24)^^^divN poly (n+16) ((x>>>16)&&&255)^^^divN poly (n+24) ((x>>>8)&&&255)^^^divN poly (n+32) (x&&&255):=by
  conv=>lhs;rw[split8 x,divN_xor]
  rw[show n+32=(n+24)+8 by omega,divN_shl8]
  conv=>lhs;rhs;rw[split8 (x>>>8),divN_xor,←Nat.shiftRight_add]
  rw[show n+24=(n+16)+8 by omega,divN_shl8]
  conv=>lhs;rhs;rhs;rw[split8 (x>>>(8+8)),divN_xor,←Nat.shiftRight_add]
  rw[show n+16=(n+8)+8 by omega,divN_shl8]
  rw[Nat.xor_comm]
  congr 1
  rw[Nat.xor_comm]
  congr 1
  rw[Nat.xor_comm]
theorem swap_about(p7 p6 p5 p4 q4 q5 q6 q7:Nat):p7^^^p6^^^p5^^^p4^^^q4^^^q5^^^q6^^^q7=q4^^^q5^^^q6^^^q7^^^p4^^^p5^^^p6^^^p7:=by
  have lc:∀a b c:Nat,a^^^(b^^^c)=b^^^(a^^^c):=fun a b c=>by rw[←Nat.xor_assoc,Nat.xor_comm a b,Nat.xor_assoc]
  simp only[Nat.xor_assoc,Nat.xor_comm,lc]
theorem fold8(poly c v0 v1 v2 v3 v4 v5 v6 v7:Nat):[v0,v1,v2,v3,v4,v5,v6,v7].foldl (step poly) c=
    divN poly 64 (c^^^v0^^^(v1*2^8)^^^(v2*2^16)^^^(v3*2^24))^^^divN poly 32 v4^^^divN poly 24 v5^^^divN poly 16 v6^^^divN poly 8 v7:=by
  have e1:=divN_shl8 poly 56 v1 8
  have e2:=divN_shl8 poly 48 v2 16
  have e3:=divN_shl8 poly 40 v3 24
  simp only[Nat.reduceAdd]at e1 e2 e3
  simp only[divN_xor]
  rw[e1,e2,e3]
  simp only[List.foldl,step,divN_xor,←divN_add,Nat.reduceAdd]
theorem slice8(poly:Nat){c v0 v1 v2 v3 v4 v5 v6 v7:Nat}(hc:c<4294967296)(h0:v0<256)(h1:v1<256)(h2:v2<256)(h3:v3<256):
    TT poly 0 v7^^^TT poly 1 v6^^^TT poly 2 v5^^^TT poly 3 v4^^^TT poly 4 ((c^^^le32 v0 v1 v2 v3)>>>24)^^^TT poly 5 (((c^^^le32 v0 v1 v2 v3)>>>16)&&&255)^^^
      TT poly 6 (((c^^^le32 v0 v1 v2 v3)>>>8)&&&255)^^^TT poly 7 ((c^^^le32 v0 v1 v2 v3)&&&255)=
    [v0,v1,v2,v3,v4,v5,v6,v7].foldl (step poly) c:=by
  have hle:=le32_lt h0 h1 h2 h3
  have hb:=div_bytes poly 32 (c^^^le32 v0 v1 v2 v3) (xor32 hc hle)
  have hx:c^^^v0^^^(v1*2^8)^^^(v2*2^16)^^^(v3*2^24)=c^^^le32 v0 v1 v2 v3:=by
    rw[le32_xor h0 h1 h2 h3];simp only[Nat.xor_assoc]
  rw[fold8,hx,show(64:Nat)=32+32 from rfl,hb]
  exact swap_about _ _ _ _ _ _ _ _
theorem xor_twice(a x:Nat):a^^^(a^^^x)=x:=by rw[←Nat.xor_assoc,Nat.xor_self,Nat.zero_xor]
def notK(k x:Nat):Nat:=k^^^x
theorem notK_notK(k x:Nat):notK k (notK k x)=x:=xor_twice k x
abbrev not32(x:Nat):Nat:=notK 4294967295 x
theorem not32_lt{x:Nat}(h:x<4294967296):not32 x<4294967296:=xor32 (by decide) h
theorem not32_not32(x:Nat):not32 (not32 x)=x:=notK_notK 4294967295 x
def nats(l:List UInt8):List Nat:=l.map (·.toNat)
theorem nats_lt{l:List UInt8}{v:Nat}(h:v∈nats l):v<256:=by
  obtain⟨x,_,rfl⟩:=List.mem_map.1 h
  exact x.toNat_lt
def crcOn(poly crc:Nat)(l:List UInt8):Nat:=not32 ((nats l).foldl (step poly) (not32 crc))
theorem fold_lt{poly:Nat}(hp:poly<4294967296):∀(l:List Nat) (c:Nat),(∀v∈l,v<256)→c<4294967296→l.foldl (step poly) c<4294967296
  | [],_,_,h=>h
  |v::r,c,hl,hc=>fold_lt hp r _ (fun x hx=>hl x (List.mem_cons_of_mem _ hx)) (step_lt hp hc (hl v (List.mem_cons_self ..)))
theorem Hi{poly crc:Nat}(hp:poly<4294967296)(hc:crc<4294967296)(l:List UInt8):crcOn poly crc l<4294967296:=
  not32_lt (fold_lt hp _ _ (fun _ h=>nats_lt h) (not32_lt hc))
theorem crcOn_append(poly crc:Nat)(a b:List UInt8):crcOn poly (crcOn poly crc a) b=crcOn poly crc (a++b):=by
  simp[crcOn,not32_not32,nats,List.foldl_append]
abbrev u8(x:UInt8):Value:=.int .u8 ((x.toNat:Nat):Int)
def KB(K:Known)(b o:Nat)(l:List UInt8):Prop:=∀j (h:j<l.length),cellAt K b (o+j)=some (u8 l[j])
theorem KB.at{K:Known}{b o:Nat}{l:List UInt8}(h:KB K b o l){j:Nat}(hj:j<l.length):cellAt K b (o+j*1)=some (u8 l[j]):=by rw[Nat.mul_one];exact h j hj
theorem Reads.kb{H0:Known}{L:Frags}{b o:Nat}{l:List UInt8}(h:Reads H0 L b o (bytesV l)){w:World}(hw:Agree H0 L w.heap):KB (fun b=>w.heap[b]?) b o l:=by
  intro j hj
  have:=h w hw j _ (Jg hj)
  unfold World.cell? at this
  unfold cellAt
  simp only at this⊢
  split at this
  · rename_i c t fr hb
    rw[hb]
    simpa using this
  · cases this
theorem KB.reads{K:Known}{b o:Nat}{l:List UInt8}{L:Frags}(h:KB K b o l):Reads K L b o (bytesV l):=by
  refine Reads.known fun j u hj=>?_
  have hl:j<l.length:=by
    have:=(List.getElem?_eq_some_iff.1 hj).1
    simpa[bytesV]using this
  rw[Jg hl]at hj
  cases hj
  exact h j hl
theorem ptr_to{b o o':Nat}(h:o=o'):Value.pointer (some ⟨b,o,none⟩)=.pointer (some ⟨b,o',none⟩):=by rw[h]
theorem Dj{b o o' l l' c c':Nat}(ho:o=o')(hl:l=l')(hc:c=c'):Value.slice (some ⟨b,o,none⟩) l c=.slice (some ⟨b,o',none⟩) l' c':=by rw[ho,hl,hc]
theorem eight{l:List UInt8}{k:Nat}(h:8<l.length-k):∃v0 v1 v2 v3 v4 v5 v6 v7 r,l.drop k=v0::v1::v2::v3::v4::v5::v6::v7::r∧l.drop (k+8)=r:=by
  have hl:8<(l.drop k).length:=by rw[List.length_drop];exact h
  have e:l.drop (k+8)=(l.drop k).drop 8:=by rw[List.drop_drop]
  match hd:l.drop k,hl with
  |a0::a1::a2::a3::a4::a5::a6::a7::r,_=>exact⟨a0,a1,a2,a3,a4,a5,a6,a7,r,rfl,by rw[e,hd];rfl⟩
def KT(K:Known)(b:Nat)(poly:Nat):Prop:=∀j k,j<8→k<256→cellAt K b (j*256+k)=some (u32 (TT poly j k))
theorem KT.at{K:Known}{b poly j k:Nat}(h:KT K b poly)(hj:j<8)(hk:k<256):cellAt K b (0+j*256+k*1)=some (u32 (TT poly j k)):=by
  rw[Nat.mul_one,Nat.zero_add];exact h j k hj hk
theorem fold_take{poly:Nat}{l:List UInt8}{c0 i:Nat}(h:i<l.length):(nats (l.take (i+1))).foldl (step poly) c0=step poly ((nats (l.take i)).foldl (step poly) c0) l[i].toNat:=by
  unfold nats
  rw[List.take_add_one,List.getElem?_eq_getElem h,Option.toList,List.map_append,List.foldl_append]
  rfl
theorem fold_take_all{poly:Nat}{l:List UInt8}{c0:Nat}:(nats (l.take l.length)).foldl (step poly) c0=(nats l).foldl (step poly) c0:=by rw[List.take_length]
theorem KB.drop{K:Known}{b o:Nat}{l:List UInt8}(h:KB K b o l)(k:Nat):KB K b (o+k) (l.drop k):=by
  intro j hj
  have:=h (k+j) (by simp at hj;omega)
  rw[Nat.add_assoc,this]
  simp
theorem and255_lt(x:Nat):x&&&255<256:=by rw[←mod256];omega
structure TabAt(poly:Nat)(cs:List Value)(i j:Nat):Prop where
  len:cs.length=2048
  first:∀k,k<256→cs[k]? =some (u32 (TT poly 0 k))
  cols:∀j' k,j'<8→k<i→cs[j'*256+k]? =some (u32 (TT poly j' k))
  col:i<256→∀j',j'<j→cs[j'*256+i]? =some (u32 (TT poly j' i))
theorem fillT_get(poly:Nat):∀(i:Nat) (cs:List Value),i≤cs.length→∀k,k<i→(fillT poly i cs)[k]? =some (u32 (divN poly 8 k))
  |0,_,_,k,hk=>by omega
  |i+1,cs,h,k,hk=>by
    rw[fillT,List.getElem?_set,fillT_length]
    by_cases hik:i=k
    · subst hik;simp[show i<cs.length by omega]
    · rw[if_neg hik];exact fillT_get poly i cs (by omega) k (by omega)
theorem TabAt.init{poly:Nat}{cs:List Value}(h:cs.length=2048):TabAt poly (fillT poly 256 cs) 0 1:=
  ⟨by rw[fillT_length];exact h,fun k hk=>fillT_get poly 256 cs (by omega) k hk,fun _ _ _ h=>by omega,fun _ j hj=>by
    have:j=0:=by omega
    subst this
    exact fillT_get poly 256 cs (by omega) 0 (by omega)⟩
theorem TabAt.set{poly:Nat}{cs:List Value}{i j:Nat}(h:TabAt poly cs i j)(hj:j<8)(hj1:1≤j)(hi:i<256):TabAt poly (cs.set (j*256+i) (u32 (TT poly j i))) i (j+1):=by
  refine⟨by rw[List.length_set];exact h.len,fun k hk=>?_,fun j' k hj' hk=>?_,fun hi j' hj'=>?_⟩
  · rw[List.getElem?_set,if_neg (by omega)];exact h.first k hk
  · rw[List.getElem?_set,if_neg (by omega)];exact h.cols j' k hj' hk
  · rw[List.getElem?_set]
    by_cases e:j=j'
    · subst e;rw[if_pos rfl,if_pos (by rw[h.len];omega)]
    · rw[if_neg (by omega)];exact h.col hi j' (by omega)
theorem TabAt.next{poly:Nat}{cs:List Value}{i:Nat}(h:TabAt poly cs i 8)(hi:i<256):TabAt poly cs (i+1) 1:=by
  refine⟨h.len,h.first,fun j' k hj' hk=>?_,fun hi' j' hj'=>?_⟩
  · by_cases e:k=i
    · subst e;exact h.col hi j' hj'
    · exact h.cols j' k hj' (by omega)
  · have:j'=0:=by omega
    subst this
    rw[Nat.zero_mul,Nat.zero_add];exact h.first _ hi'
theorem Sl.one{s m:Nat}{v:Value}{xs:List Value}{Lf:Frags}(h:Sl s v m xs Lf)(hm:0<m):∃b o c cs,v=.slice (some ⟨b,o,none⟩) m c∧Lf=[⟨b,o,cs⟩]∧cs.length=c*s∧m≤c∧c≤9223372036854775807∧cs.take (m*s)=xs:=by
  rcases h.2 with⟨_,h1,_⟩|h1
  · omega
  · exact h1
theorem infoB:Tryz.prog.info? 5=some Tryz.t5:=by kernel_rfl
theorem one_bytesV(l:List UInt8):(bytesV l).all one=true:=by
  rw[List.all_eq_true]
  intro v hv
  obtain⟨b,_,rfl⟩:=List.mem_map.1 hv
  rfl
theorem Bh(l:List UInt8):(bytesV l).length=l.length:=by simp[bytesV]
theorem Ei(a b:List UInt8):bytesV (a++b)=bytesV a++bytesV b:=by simp[bytesV]
theorem bytesV_drop(a:List UInt8)(k:Nat):bytesV (a.drop k)=(bytesV a).drop k:=by simp[bytesV,List.map_drop]
theorem bytesV_take(a:List UInt8)(k:Nat):bytesV (a.take k)=(bytesV a).take k:=by simp[bytesV,List.map_take]
section
variable {K:Known}{n:Nat}{env:Env}{L:Frags}{ty:TypeId}
theorem Jm{x y:Operand}{v:Value}{k yc:Nat}{ya:Option Addr}{xs ys:List UInt8}{Lf:Frags}
    (hx:ev? env x=some v)(hy:ev? env y=some (.slice ya k yc))(hsl:Sl 1 v xs.length (bytesV xs) Lf)(hk:k=ys.length)
    (hread:ys=[]∨∃yb yo,ya=some ⟨yb,yo,none⟩∧Reads K (Lf++L) yb yo (bytesV ys))(hb:xs.length+ys.length≤140737488355328):
    OpX Tryz.prog K n (.call {callee:=.builtin .append,args:=#[x,y],argTypes:=#[25,25]}) ty env (Lf++L) fun v' L'=>
      ∃Lf',Sl 1 v' (xs++ys).length (bytesV (xs++ys)) Lf'∧L'=Lf'++L:=by
  subst hk
  have h:=Hm (P:=Tryz.prog) (n:=n) (ty:=ty) (L:=L) (s:=1) (bytes:=1) (t:=25) Tu25 infoB (z:=.int .u8 0) rfl rfl rfl rfl (by decide) hx hy hsl (by rw[Bh,Nat.mul_one])
    (hread.imp (fun e=>by rw[e];rfl) id) (one_bytesV ys) (by omega) hb
  refine OpX.mono h fun v' L'=>?_
  rintro⟨Lf',h1,h2⟩
  exact⟨Lf',by rw[List.length_append,Ei];exact h1,h2⟩
theorem X.appendNone{x y:Operand}{b o m c yc:Nat}{ya:Option Addr}(hx:ev? env x=some (.slice (some ⟨b,o,none⟩) m c))(hy:ev? env y=some (.slice ya 0 yc))(hmc:m≤c):
    OpX Tryz.prog K n (.call {callee:=.builtin .append,args:=#[x,y],argTypes:=#[25,25]}) ty env L fun v' L'=>v'=.slice (some ⟨b,o,none⟩) m c∧L'=L:=by
  intro ac w hf hw
  have hrun:(Builtin.append_ #[25,25] ty #[.slice (some ⟨b,o,none⟩) m c,.slice ya 0 yc]).run Tryz.prog w=.ok (.slice (some ⟨b,o,none⟩) m c) w:=by
    cases ya<;>simp[Builtin.append_,run_underlying Tu25,sizeOf,typeInfo,infoB,Tryz.t5,Builtin.lenOf,Builtin.firstCells,loadCells,loadCellsFrom,storeCells,hmc]
  have:(exop ac.eval (.call {callee:=.builtin .append,args:=#[x,y],argTypes:=#[25,25]}) ty).run Tryz.prog w=.ok (.value (.slice (some ⟨b,o,none⟩) m c)) w:=by
    simp only[exop,execOp,resolve]
    simp[hf.eval hx,hf.eval hy,invoke_builtin,Hk .append _ _ _ _ _ rfl hrun]
  rw[this]
  exact⟨_,⟨rfl,rfl⟩,To.refl hw⟩
theorem X.copyB(i:Nat){x y:Operand}{b o dl dc sl sc:Nat}{sa:Option Addr}{cs:List Value}{l:List UInt8}
    (hL:L[i]? =some ⟨b,o,cs⟩)(hx:ev? env x=some (.slice (some ⟨b,o,none⟩) dl dc))(hy:ev? env y=some (.slice sa sl sc))(hlen:sl=l.length)
    (hread:l=[]∨∃yb yo,sa=some ⟨yb,yo,none⟩∧Reads K L yb yo (bytesV l))(hdl:dl≤cs.length):
    OpX Tryz.prog K n (.call {callee:=.builtin .copy,args:=#[x,y],argTypes:=#[25,25]}) ty env L fun v L'=>
      v=.int .i64 ((Nat.min l.length dl:Nat):Int)∧L'=L.set i ⟨b,o,bytesV (l.take dl)++cs.drop (Nat.min l.length dl)⟩:=by
  subst hlen
  have hvl:(bytesV (l.take dl)).length=Nat.min l.length dl:=by rw[Bh,List.length_take];exact Nat.min_comm _ _
  have h:=X.copy (P:=Tryz.prog) (H0:=K) (n:=n) (ty:=ty) (xT:=Tryz.t5) i (s:=1) (k:=0) (t:=25) (t2:=25) (vs:=bytesV (l.take dl)) Tu25 Tz5 hL hx hy (by rw[hvl,Nat.mul_one])
    (by
      rcases hread with h|⟨yb,yo,h1,h2⟩
      · left;rw[h];simp[bytesV]
      · exact .inr ⟨yb,yo,h1,by rw[bytesV_take];exact h2.take _⟩)
    (fun h=>by
      rcases hread with h1|⟨yb,yo,h1,_⟩
      · rw[h1];rfl
      · rw[h1]at h;cases h) (one_bytesV _) (by rw[hvl,Nat.zero_add];exact Nat.le_trans (Nat.min_le_right _ _) hdl)
  refine OpX.mono h fun v L'=>?_
  rintro⟨rfl,rfl⟩
  refine⟨rfl,?_⟩
  rw[hvl,Nat.zero_add,List.take_zero,List.nil_append]
end
theorem bytes_get{l:List UInt8}{cs:List Value}{i:Nat}(h:i<l.length):(bytesV l++cs)[i]? =some (u8 l[i]):=by
  rw[List.getElem?_append_left (by rw[Bh];exact h)]
  exact Jg h
theorem bytes_part{l:List UInt8}{cs:List Value}(i:Nat):((bytesV l++cs).drop i).take (bytesV (l.drop i)).length=bytesV (l.drop i):=by
  rw[Bh,List.length_drop]
  by_cases h:i≤l.length
  · rw[List.drop_append_of_le_length (by rw[Bh];exact h),←bytesV_drop,List.take_append_of_le_length (by rw[Bh,List.length_drop];omega),List.take_of_length_le (by rw[Bh,List.length_drop];omega)]
  · rw[show l.drop i=[]from List.drop_eq_nil_of_le (by omega),show l.length-i=0 by omega];simp[bytesV]
theorem newReader_spec{K:Known}(a:Option Addr)(n c:Nat):Fn Tryz.prog K 21 #[.slice a n c] ([]) (fun r L=>∃b,r=.pointer (some ⟨b,0,none⟩)∧L=[⟨b,0,[.slice a n c,.int .i64 0,.int .i64 (-1)]⟩]):=by
 refine Fn.intro (args:=[.slice a n c]) (RR:=Ret1 2 _) Tryz.func21 rfl rfl Tryz.ntmps21 (res1 Tryz.results21) ?_
 refine Bi (env2:=[(0,.slice a n c)]) U<|Cr<|Ea U U<|Ek2 0 2 U<|Cr<|Em U U<|Aa (S.build (v:=.agg #[.slice a n c,.int .i64 0,.int .i64 (-1)]) U (fun w=>by simp[Instr.build,Instr.fill,Value.cells,Tryz.zeroValue101,ev?,get?])) U ?_
 refine Ai (X.box U) U ?_;rintro _ _⟨b5,rfl,rfl⟩;refine Er1 U ?_
 refine Ea U U<|Ek1 2 U<|Bb ?_
 exact⟨_,rfl,_,rfl,rfl⟩
theorem readerLen_spec{K:Known}(rb:Nat)(data:List UInt8)(i:Nat)(hd:data.length≤4611686018427387904)(a:Option Addr)(c:Nat)(hi:i≤data.length):Fn Tryz.prog K 32 #[.pointer (some ⟨rb,0,none⟩)] ([⟨rb,0,[.slice a data.length c,.int .i64 (i:Int),.int .i64 (-1)]⟩]) (fun r L=>r=.int .i64 ((data.length-i:Nat):Int)∧L=[⟨rb,0,[.slice a data.length c,.int .i64 (i:Int),.int .i64 (-1)]⟩]):=by
 refine Fn.intro (args:=[.pointer (some ⟨rb,0,none⟩)]) (RR:=Ret1 2 _) Tryz.func32 rfl rfl Tryz.ntmps32 (res1 Tryz.results32) ?_
 refine Bi (env2:=[(0,.pointer (some ⟨rb,0,none⟩))]) U<|Cr<|Ea U U<|Ek2 0 2 U<|Am<|Am<|Bt [0,1,2,4,0,16,32,64,128,264] (.pure 0 496 (.pure 1 497 (.pure 2 499 (.pure 4 15 (.pure 5 31 (.pure 6 63 (.seg [(3,503),(7,127),(8,255),(9,511)] .done))))))) mixed (by decide+kernel)<|Dm U U U<|Ah U (Ad U) U<|Ah U (Ab U Jd) U<|Dm U U U<|Ah U (Ad U) U ?_
 refine Ah U (Ab U fa101_0) U<|Dc (by decide)<|Au U (Aj 0 (k:=1) U U U Ta2) U<|Au U (Aj 0 (k:=0) U U U Ta25) U<|Ba U (Bc U Tu25) U<|Ba U (S.ge U U) U<|Da<|Dk3 0 2 12 U<|Bf U (fun h12=>?_) (fun h12=>?_)
 ·have hi2:i=data.length:=by omega
  subst hi2
  refine Cr<|Ea U U<|Ek3 0 2 12 U<|Bb ?_
  exact⟨_,rfl,by simp,rfl⟩
 refine Ap<|Am<|Bt [0,1,2,4,8,0,32,64,128,272,1023] (.pure 0 480 (.pure 1 481 (.pure 2 483 (.pure 5 31 (.pure 6 63 (.pure 7 127 (.seg [(3,487),(4,495),(8,255),(9,511),(10,1023)] .done))))))) mixed (by decide+kernel)<|Dm U U U<|Ah U (Ad U) U<|Ah U (Ab U fa101_0) U<|Dm U U U<|Ah U (Ad U) U<|Ah U (Ab U Jd) U<|Dc (by decide)<|Au U (Aj 0 (k:=0) U U U Ta25) U<|Ba U (Bc U Tu25) U ?_
 refine Au U (Aj 0 (k:=1) U U U Ta2) U<|Ba U (Dr U U (N.sub64 (by omega) (by omega))) U<|Ba U (Az U) U<|Da<|Dk3 0 2 12 U<|Bb ?_
 exact⟨_,rfl,rfl,rfl⟩
theorem readByte_end{K:Known}(rb:Nat)(data:List UInt8)(i:Nat)(hd:data.length≤4611686018427387904){p:Int}{ea:Fin 5→Addr}(hs:Sents K ea)(a:Option Addr)(c:Nat)(hi:i=data.length):Fn Tryz.prog K 126 #[.pointer (some ⟨rb,0,none⟩)] ([⟨rb,0,[.slice a data.length c,.int .i64 (i:Int),.int .i64 p]⟩]) (fun r L=>r=.tuple #[.int .u8 0,Er.val ea .eof]∧L=[⟨rb,0,[.slice a data.length c,.int .i64 (i:Int),.int .i64 (-1)]⟩]):=by
 refine Fn.intro (args:=[.pointer (some ⟨rb,0,none⟩)]) (RR:=Ret2 2 3 _) Tryz.func126 rfl rfl Tryz.ntmps126 (res2 Tryz.results126) ?_
 refine Bi (env2:=[(0,.pointer (some ⟨rb,0,none⟩))]) U<|Cr<|Ea U U<|Aa (Az (v:=Er.val ea .none) U) U<|Ek3 0 2 3 U<|Cr<|Em U U<|Aa (Ad U) U<|Aa (Ab U fa101_2) U ?_
 refine Ao (Aq 0 (k:=2) U U U U U Tz3) ?_;rintro _ _⟨rfl,rfl⟩;refine Er1 U ?_
 refine Ek3 0 2 3 U<|Am<|Am<|Bt [0,1,2,4,0,16,32,64,128,264] (.pure 0 496 (.pure 1 497 (.pure 2 499 (.pure 4 15 (.pure 5 31 (.pure 6 63 (.seg [(3,503),(7,127),(8,255),(9,511)] .done))))))) mixed (by decide+kernel)<|Dm U U U<|Ah U (Ad U) U<|Ah U (Ab U Jd) U<|Dm U U U<|Ah U (Ad U) U<|Ah U (Ab U fa101_0) U<|Dc (by decide)<|Au U (Aj 0 (k:=1) U U U Ta2) U ?_
 refine Au U (Aj 0 (k:=0) U U U Ta25) U<|Ba U (Bc U Tu25) U<|Ba U (S.ge U U) U<|Da<|Dk4 0 2 3 17 U<|Bf U (fun h17=>?_) (fun h17=>?_)
 ·refine Am<|Bt [0,0,3] (.pure 1 1 (.seg [(0,2),(2,3)] .done)) mixed (by decide+kernel)<|Ah U (Az U) U<|Dc (by decide)<|Au U (Be U hs.g0 Ta58) U<|Ba U (Az U) U<|Da<|Dk4 0 2 3 17 U<|Bb ?_
  exact⟨_,_,rfl,rfl,rfl,rfl⟩
 exact absurd hi (by omega)
theorem readByte_next{K:Known}(rb:Nat)(data:List UInt8)(i:Nat)(hd:data.length≤4611686018427387904){p:Int}{ea:Fin 5→Addr}(db o c:Nat)(cs:List Value)(hi:i<data.length):Fn Tryz.prog K 126 #[.pointer (some ⟨rb,0,none⟩)] ([⟨rb,0,[.slice (some ⟨db,o,none⟩) data.length c,.int .i64 (i:Int),.int .i64 p]⟩,⟨db,o,bytesV data++cs⟩]) (fun r L=>r=.tuple #[u8 data[i],Er.val ea .none]∧L=[⟨rb,0,[.slice (some ⟨db,o,none⟩) data.length c,.int .i64 ((i+1:Nat):Int),.int .i64 (-1)]⟩,⟨db,o,bytesV data++cs⟩]):=by
 refine Fn.intro (args:=[.pointer (some ⟨rb,0,none⟩)]) (RR:=Ret2 2 3 _) Tryz.func126 rfl rfl Tryz.ntmps126 (res2 Tryz.results126) ?_
 refine Bi (env2:=[(0,.pointer (some ⟨rb,0,none⟩))]) U<|Cr<|Ea U U<|Aa (Az (v:=Er.val ea .none) U) U<|Ek3 0 2 3 U<|Cr<|Em U U<|Aa (Ad U) U<|Aa (Ab U fa101_2) U ?_
 refine Ao (Aq 0 (k:=2) U U U U U Tz3) ?_;rintro _ _⟨rfl,rfl⟩;refine Er2 U ?_
 refine Ek3 0 2 3 U<|Am<|Am<|Bt [0,1,2,4,0,16,32,64,128,264] (.pure 0 496 (.pure 1 497 (.pure 2 499 (.pure 4 15 (.pure 5 31 (.pure 6 63 (.seg [(3,503),(7,127),(8,255),(9,511)] .done))))))) mixed (by decide+kernel)<|Dm U U U<|Ah U (Ad U) U<|Ah U (Ab U Jd) U<|Dm U U U<|Ah U (Ad U) U<|Ah U (Ab U fa101_0) U<|Dc (by decide)<|Au U (Aj 0 (k:=1) U U U Ta2) U ?_
 refine Au U (Aj 0 (k:=0) U U U Ta25) U<|Ba U (Bc U Tu25) U<|Ba U (S.ge U U) U<|Da<|Dk4 0 2 3 17 U<|Bf U (fun h17=>?_) (fun h17=>?_)
 ·exact absurd hi (by omega)
 refine Ap<|Am<|Bt [0,1,2,4,0,16,32,64,136,256,1023] (.pure 0 240 (.pure 1 241 (.pure 2 243 (.pure 4 15 (.pure 5 31 (.pure 6 63 (.seg [(3,247),(7,127),(8,255),(9,511),(10,1023)] .done))))))) mixed (by decide+kernel)<|Dm U U U<|Ah U (Ad U) U<|Ah U (Ab U fa101_0) U<|Dm U U U<|Ah U (Ad U) U<|Ah U (Ab U Jd) U<|Dc (by decide)<|Au U (Aj 0 (k:=0) U U U Ta25) U<|Au U (Aj 0 (k:=1) U U U Ta2) U ?_
 refine Ba U (Bm U U (by omega) Tu25 Tz5) U<|Dy (v:=.pointer (some ⟨db,o+i,none⟩)) (by simp)<|Au U (Aj 1 (k:=i) U U (bytes_get hi) Ta5) U<|Ba U (Az U) U<|Da<|Dk5 0 2 3 4 17 U<|Cr<|Em U U<|Aa (Ad U) U<|Aa (Ab U Jd) U<|Ag (Aj 0 (k:=1) U U U Ta2) U<|Aa (Bl (b:=((1:Nat):Int)) U U (N.add64 (by omega))) U ?_
 refine Aa (Ad U) U<|Aa (Ab U Jd) U ?_
 refine Ao (Aq 0 (k:=1) U U U U U Tz2) ?_;rintro _ _⟨rfl,rfl⟩;refine Er2 U ?_
 refine Ek5 0 2 3 4 17 U<|Cr<|Em U U<|Ea U U<|Aa (Az (v:=Er.val ea .none) U) U<|Ek5 0 2 3 4 17 U<|Bb ?_
 exact⟨_,_,rfl,rfl,rfl,rfl⟩
theorem readerRead_end{K:Known}(rb:Nat)(data:List UInt8)(i:Nat)(hd:data.length≤4611686018427387904){p:Int}{ea:Fin 5→Addr}(hs:Sents K ea)(a:Option Addr)(c:Nat)(hi:i=data.length)(dst:Value):Fn Tryz.prog K 125 #[.pointer (some ⟨rb,0,none⟩),dst] ([⟨rb,0,[.slice a data.length c,.int .i64 (i:Int),.int .i64 p]⟩]) (fun r L=>r=.tuple #[.int .i64 0,Er.val ea .eof]∧L=[⟨rb,0,[.slice a data.length c,.int .i64 (i:Int),.int .i64 p]⟩]):=by
 refine Fn.intro (args:=[.pointer (some ⟨rb,0,none⟩),dst]) (RR:=Ret2 4 5 _) Tryz.func125 rfl rfl Tryz.ntmps125 (res2 Tryz.results125) ?_
 refine Bi (env2:=[(0,.pointer (some ⟨rb,0,none⟩)),(1,dst)]) U<|Cr<|Ea U U<|Aa (Az (v:=Er.val ea .none) U) U<|Ek4 0 1 4 5 U<|Am<|Am<|Bt [0,1,2,4,0,16,32,64,128,264] (.pure 0 496 (.pure 1 497 (.pure 2 499 (.pure 4 15 (.pure 5 31 (.pure 6 63 (.seg [(3,503),(7,127),(8,255),(9,511)] .done))))))) mixed (by decide+kernel)<|Dm U U U<|Ah U (Ad U) U<|Ah U (Ab U Jd) U<|Dm U U U ?_
 refine Ah U (Ad U) U<|Ah U (Ab U fa101_0) U<|Dc (by decide)<|Au U (Aj 0 (k:=1) U U U Ta2) U<|Au U (Aj 0 (k:=0) U U U Ta25) U<|Ba U (Bc U Tu25) U<|Ba U (S.ge U U) U<|Da<|Dk5 0 1 4 5 15 U<|Bf U (fun h15=>?_) (fun h15=>?_)
 ·refine Am<|Bt [0,0,3] (.pure 1 1 (.seg [(0,2),(2,3)] .done)) mixed (by decide+kernel)<|Ah U (Az U) U<|Dc (by decide)<|Au U (Be U hs.g0 Ta58) U<|Ba U (Az U) U<|Da<|Dk5 0 1 4 5 15 U<|Bb ?_
  exact⟨_,_,rfl,rfl,rfl,rfl⟩
 exact absurd hi (by omega)
theorem readerRead_next{K:Known}(rb:Nat)(data:List UInt8)(i:Nat)(hd:data.length≤4611686018427387904){p:Int}{ea:Fin 5→Addr}(db o c:Nat)(ds:List Value)(hi:i<data.length)(hc:data.length≤c)(tb to m mc:Nat)(cs:List Value)(hm:m=cs.length)(hml:m≤4611686018427387904):Fn Tryz.prog K 125 #[.pointer (some ⟨rb,0,none⟩),.slice (some ⟨tb,to,none⟩) (m) (mc)] ([⟨rb,0,[.slice (some ⟨db,o,none⟩) data.length c,.int .i64 (i:Int),.int .i64 p]⟩,⟨db,o,bytesV data++ds⟩,⟨tb,to,cs⟩]) (fun r L=>r=.tuple #[.int .i64 ((Nat.min (data.drop i).length m:Nat):Int),Er.val ea .none]∧L=[⟨rb,0,[.slice (some ⟨db,o,none⟩) data.length c,.int .i64 ((i+Nat.min (data.drop i).length m:Nat):Int),.int .i64 (-1)]⟩,⟨db,o,bytesV data++ds⟩,⟨tb,to,bytesV ((data.drop i).take m)++cs.drop (Nat.min (data.drop i).length m)⟩]):=by
 refine Fn.intro (args:=[.pointer (some ⟨rb,0,none⟩),.slice (some ⟨tb,to,none⟩) (m) (mc)]) (RR:=Ret2 4 5 _) Tryz.func125 rfl rfl Tryz.ntmps125 (res2 Tryz.results125) ?_
 refine Bi (env2:=[(0,.pointer (some ⟨rb,0,none⟩)),(1,.slice (some ⟨tb,to,none⟩) (m) (mc))]) U<|Cr<|Ea U U<|Aa (Az (v:=Er.val ea .none) U) U<|Ek4 0 1 4 5 U<|Am<|Am<|Bt [0,1,2,4,0,16,32,64,128,264] (.pure 0 496 (.pure 1 497 (.pure 2 499 (.pure 4 15 (.pure 5 31 (.pure 6 63 (.seg [(3,503),(7,127),(8,255),(9,511)] .done))))))) mixed (by decide+kernel)<|Dm U U U<|Ah U (Ad U) U<|Ah U (Ab U Jd) U<|Dm U U U ?_
 refine Ah U (Ad U) U<|Ah U (Ab U fa101_0) U<|Dc (by decide)<|Au U (Aj 0 (k:=1) U U U Ta2) U<|Au U (Aj 0 (k:=0) U U U Ta25) U<|Ba U (Bc U Tu25) U<|Ba U (S.ge U U) U<|Da<|Dk5 0 1 4 5 15 U<|Bf U (fun h15=>?_) (fun h15=>?_)
 ·exact absurd hi (by omega)
 refine Ap<|Cr<|Em U U<|Aa (Ad U) U<|Aa (Ab U fa101_2) U ?_
 refine Ao (Aq 0 (k:=2) U U U U U Tz3) ?_;rintro _ _⟨rfl,rfl⟩;refine Er3 U ?_
 refine Ek5 0 1 4 5 15 U<|Am<|Bt [0,0,2,4,8,0,32,64,128,272,513,2047] (.pure 0 1022 (.pure 1 481 (.pure 2 483 (.pure 3 487 (.pure 5 31 (.pure 6 63 (.pure 7 127 (.seg [(4,495),(8,255),(9,511)] (.alt 10 (.pure 11 2047 .done) .stop))))))))) mixed (by decide+kernel)<|Dm U U U<|Dm U U U<|Ah U (Ad U) U<|Ah U (Ab U fa101_0) U<|Dm U U U<|Ah U (Ad U) U<|Ah U (Ab U Jd) U<|Dc (by decide)<|Au U (Aj 0 (k:=0) U U U Ta25) U ?_
 refine Au U (Aj 0 (k:=1) U U U Ta2) U<|Ba U (S.slL U U (by omega) Tu25 Tz5) U ?_
 refine Dy (v:=.slice (some ⟨db,o+i,none⟩) ((data.drop i).length) (c-i)) (Dj (by rw[part,if_neg (by omega)];omega) (by rw[List.length_drop]) U) ?_
 refine Da<|By ?_
 refine Bo U (X.copyB 2 U U U U (.inr ⟨_,_,rfl,Reads.frag (i:=1) U (bytes_part i)⟩) (Nat.le_of_eq hm)) U ?_;rintro _ _⟨rfl,rfl⟩;refine Dr3 U ?_
 refine Ah U (Az U) U<|Dk4 0 4 5 15 U<|Am ?_
 have hle:Nat.min (data.drop i).length m≤m:=Nat.min_le_right _ _
 refine Al<|Em U U<|Aa (Ad U) U<|Aa (Ab U Jd) U<|Ag (Aj 0 (k:=1) U U U Ta2) U<|Em U U<|Aa (Bl U U (N.add64 (by omega))) U<|Aa (Ad U) U<|Aa (Ab U Jd) U ?_
 refine Ao (Aq 0 (k:=1) U U U U U Tz2) ?_;rintro _ _⟨rfl,rfl⟩;refine Er3 U ?_
 refine Ek4 0 4 5 15 U<|Bb ?_
 exact⟨_,_,rfl,rfl,rfl,rfl⟩
theorem clone_nil{K:Known}:Fn Tryz.prog K 22 #[.slice none 0 0] ([]) (fun r L=>r=.slice none 0 0∧L=[]):=by
 refine Fn.intro (args:=[.slice none 0 0]) (RR:=Ret1 2 _) Tryz.func22 rfl rfl Tryz.ntmps22 (res1 Tryz.results22) ?_
 refine Bi (env2:=[(0,.slice none 0 0)]) U<|Cr<|Ea U U<|Ek2 0 2 U<|Am<|Cr<|Em U U<|Aa (S.eqSlNil U Tu25) U<|Ek3 0 2 4 U<|He U (rfl)<|Cr<|Ea U U ?_
 refine Ek3 0 2 4 U<|Bb ?_
 exact⟨_,rfl,rfl,rfl⟩
def Own(data:List UInt8)(v:Value)(g:Frag):Prop:=∃b o c cs,v=.slice (some ⟨b,o,none⟩) data.length c∧g=⟨b,o,bytesV data++cs⟩∧data.length≤c
theorem clone_empty{K:Known}(a:Addr)(c:Nat):Fn Tryz.prog K 22 #[.slice (some a) 0 c] ([]) (fun r L=>∃g,Own [] r g∧L=[g]):=by
 refine Fn.intro (args:=[.slice (some a) 0 c]) (RR:=Ret1 2 _) Tryz.func22 rfl rfl Tryz.ntmps22 (res1 Tryz.results22) ?_
 refine Bi (env2:=[(0,.slice (some a) 0 c)]) U<|Cr<|Ea U U<|Ek2 0 2 U<|Am<|Cr<|Em U U<|Aa (S.eqSlNil U Tu25) U<|Ek3 0 2 4 U<|C.no U (rfl)<|Ap<|Cr ?_
 refine Ai (X.buildSlice (vs:=[]) (e:=5) (i:=Tryz.t5) (z:=.int .u8 0) (fun w=>by simp[Instr.buildSlice,Instr.fill,newRow,Tryz.runUnderlying25,Tryz.typeInfo5];rw[show Array.map (fun _=>(default:Value)) (Array.range 0)=#[]from Array.eq_empty_of_size_eq_zero (by simp)]) U) U ?_;rintro _ _⟨nb,rfl,rfl⟩;refine Er1 U ?_
 refine Em U U ?_
 refine Ai (X.appendNone U U (Nat.le_refl 0)) U ?_;rintro _ _⟨rfl,rfl⟩;refine Er1 U ?_
 refine Ea U U<|Ek3 0 2 4 U<|Bb ?_
 exact⟨_,rfl,_,⟨_,_,_,[],rfl,rfl,Nat.le_refl 0⟩,rfl⟩
theorem clone_full{K:Known}(db o c:Nat)(data:List UInt8)(hp:KB K db o data)(hl:data.length≤140737488355328)(hne:0<data.length):Fn Tryz.prog K 22 #[.slice (some ⟨db,o,none⟩) (data.length) (c)] ([]) (fun r L=>∃g,Own data r g∧L=[g]):=by
 refine Fn.intro (args:=[.slice (some ⟨db,o,none⟩) (data.length) (c)]) (RR:=Ret1 2 _) Tryz.func22 rfl rfl Tryz.ntmps22 (res1 Tryz.results22) ?_
 refine Bi (env2:=[(0,.slice (some ⟨db,o,none⟩) (data.length) (c))]) U<|Cr<|Ea U U<|Ek2 0 2 U<|Am<|Cr<|Em U U<|Aa (S.eqSlNil U Tu25) U<|Ek3 0 2 4 U<|C.no U (rfl)<|Ap<|Cr ?_
 refine Ai (X.buildSlice (vs:=[]) (e:=5) (i:=Tryz.t5) (z:=.int .u8 0) (fun w=>by simp[Instr.buildSlice,Instr.fill,newRow,Tryz.runUnderlying25,Tryz.typeInfo5];rw[show Array.map (fun _=>(default:Value)) (Array.range 0)=#[]from Array.eq_empty_of_size_eq_zero (by simp)]) U) U ?_;rintro _ _⟨nb,rfl,rfl⟩;refine Er1 U ?_
 refine Em U U<|Ai (Jm (L:=[]) (xs:=[]) (ys:=data) (Lf:=[⟨nb,0,[]⟩]) U U ⟨rfl,.inr ⟨nb,0,0,[],rfl,rfl,rfl,Nat.le_refl 0,by decide,rfl⟩⟩ rfl (.inr ⟨_,_,rfl,hp.reads⟩) (by simpa using hl)) U ?_
 rintro r _⟨Lf,hsl,rfl⟩
 obtain⟨b5,o5,c5,cs5,rfl,rfl,hcl,hlc,_,htk⟩:=hsl.one (by simpa using hne)
 rw[List.nil_append]at hlc htk
 rw[Nat.mul_one]at htk
 refine Ax (L2:=[⟨b5,o5,cs5⟩]) U<|An (v:=.slice (some ⟨b5,o5,none⟩) data.length c5) U<|Ea U U<|Ek3 0 2 4 U<|Bb ?_
 exact⟨_,rfl,_,⟨b5,o5,c5,cs5.drop data.length,rfl,by rw[←htk];simp,hlc⟩,rfl⟩
theorem clone_spec{K:Known}{L:Frags}(db o c:Nat)(data:List UInt8)(hr:Reads K L db o (bytesV data))(hl:data.length≤140737488355328):
    Fn Tryz.prog K 22 #[.slice (some ⟨db,o,none⟩) (data.length) (c)] L (fun r L'=>∃g,Own data r g∧L'=g::L):=by
  refine Fn.mono (Fn.still (R:=fun r L=>∃g,Own data r g∧L=[g]) fun w hw=>?_) ?_
  · cases data with
    |nil=>exact clone_empty _ _
    |cons x t=>exact clone_full db o c (x::t) (hr.kb hw) hl (by simp)
  · rintro v L'⟨L1,⟨g,h1,rfl⟩,rfl⟩
    exact⟨g,h1,rfl⟩
def rdByte(l:List UInt8):Nat:=match l with
  | []=>0
  |c::_=>c.toNat
def rdErr(l:List UInt8):Er:=match l with
  | []=>.eof
  |_=>.none
structure Src(K:Known)(ea:Fin 5→Addr) where
  t:TypeId
  v:Value
  rd:FuncId
  rb:FuncId
  At:List UInt8→Frag→Frag→Frag→Prop
  mRead:∀w,(method (Tryz.prog.types.size+Made.depth) t v "Read").run Tryz.prog w=.ok (rd,v) w
  mByte:∀w,(method (Tryz.prog.types.size+Made.depth) t v "ReadByte").run Tryz.prog w=.ok (rb,v) w
  nRead:∀w,(nilAhead (Tryz.prog.types.size+Made.depth) t v "Read").run Tryz.prog w=.ok (some false) w
  nByte:∀w,(nilAhead (Tryz.prog.types.size+Made.depth) t v "ReadByte").run Tryz.prog w=.ok (some false) w
  both:∀want,Tryz.prog.underlying 94=some (.interface want)→(Tryz.prog.info? t).map (fun i=>(lacking want i.methods).isEmpty)=some true
  cRead:∀args w,(callFunc rd args).run Tryz.prog w=.ok (.enter rd args) w
  cByte:∀args w,(callFunc rb args).run Tryz.prog w=.ok (.enter rb args) w
  read:∀l g1 g2 g3 b o m mc cs,At l g1 g2 g3→0<m→m=cs.length→m≤4611686018427387904→Fn Tryz.prog K rd #[v,.slice (some ⟨b,o,none⟩) m mc] [g1,g2,g3,⟨b,o,cs⟩]
    fun r L=>∃k h1 h2 h3,At (l.drop k) h1 h2 h3∧k≤m∧k≤l.length∧(l≠[]→0<k)∧r=.tuple #[.int .i64 (k:Int),Er.val ea (rdErr l)]∧L=[h1,h2,h3,⟨b,o,bytesV (l.take k)++cs.drop k⟩]
  byte:∀l g1 g2 g3,At l g1 g2 g3→Fn Tryz.prog K rb #[v] [g1,g2,g3]
    fun r L=>∃h1 h2 h3,At (l.drop 1) h1 h2 h3∧r=.tuple #[.int .u8 ((rdByte l:Nat):Int),Er.val ea (rdErr l)]∧L=[h1,h2,h3]
theorem depthS:∃d,Tryz.prog.types.size+Made.depth=d+1:=by
  have:0<Made.depth:=by decide
  exact⟨Tryz.prog.types.size+Made.depth-1,by omega⟩
theorem bmRead(b:Nat)(w:World):(method (Tryz.prog.types.size+Made.depth) 61 (.pointer (some ⟨b,0,none⟩)) "Read").run Tryz.prog w=.ok (125,.pointer (some ⟨b,0,none⟩)) w:=by
  obtain⟨d,hd⟩:=depthS
  rw[hd]
  simp[method,Tryz.typeInfo61,Tryz.t61,Tryz.runUnderlying61,follow,receiverAt,Place.get]
theorem bmByte(b:Nat)(w:World):(method (Tryz.prog.types.size+Made.depth) 61 (.pointer (some ⟨b,0,none⟩)) "ReadByte").run Tryz.prog w=.ok (126,.pointer (some ⟨b,0,none⟩)) w:=by
  obtain⟨d,hd⟩:=depthS
  rw[hd]
  simp[method,Tryz.typeInfo61,Tryz.t61,Tryz.runUnderlying61,follow,receiverAt,Place.get]
theorem bnRead(b:Nat)(w:World):(nilAhead (Tryz.prog.types.size+Made.depth) 61 (.pointer (some ⟨b,0,none⟩)) "Read").run Tryz.prog w=.ok (some false) w:=by
  obtain⟨d,hd⟩:=depthS
  rw[hd]
  simp[nilAhead,Tryz.typeInfo61,Tryz.t61,followBlind]
theorem bnByte(b:Nat)(w:World):(nilAhead (Tryz.prog.types.size+Made.depth) 61 (.pointer (some ⟨b,0,none⟩)) "ReadByte").run Tryz.prog w=.ok (some false) w:=by
  obtain⟨d,hd⟩:=depthS
  rw[hd]
  simp[nilAhead,Tryz.typeInfo61,Tryz.t61,followBlind]
theorem bmBoth0:(Tryz.prog.info? 61).map (fun i=>(lacking #[("Read",107),("ReadByte",172)] i.methods).isEmpty)=some true:=by kernel_rfl
theorem bmBoth(want:Array (String×TypeId))(h:Tryz.prog.underlying 94=some (.interface want)):(Tryz.prog.info? 61).map (fun i=>(lacking want i.methods).isEmpty)=some true:=by
  have h2:=(Tu94).symm.trans h
  simp only[Option.some.injEq,TypeDesc.interface.injEq]at h2
  rw[←h2]
  exact bmBoth0
def ReaderAt(rb:Nat)(a:Option Addr)(c:Nat)(data:List UInt8)(i:Nat)(g1 g2 g3:Frag):Prop:=
  g1=⟨rb,0,[.slice a data.length c,.int .i64 (i:Int),.int .i64 (-1)]⟩∧i≤data.length∧data.length≤4611686018427387904∧data.length≤c∧
    (data=[]∨∃db o cs,a=some ⟨db,o,none⟩∧g2=⟨db,o,bytesV data++cs⟩)∧g3=⟨rb,0,[]⟩
def Hn(K:Known)(ea:Fin 5→Addr)(hs:Sents K ea)(rb:Nat)(a:Option Addr)(c:Nat)(data:List UInt8):Src K ea where
  t:=61
  v:=.pointer (some ⟨rb,0,none⟩)
  rd:=125
  rb:=126
  At l g1 g2 g3:=∃i,l=data.drop i∧ReaderAt rb a c data i g1 g2 g3
  mRead:=bmRead rb
  mByte:=bmByte rb
  nRead:=bnRead rb
  nByte:=bnByte rb
  both:=bmBoth
  cRead:=Tryz.call125
  cByte:=Tryz.call126
  read:=by
    rintro l g1 g2 g3 b o m mc cs⟨i,rfl,rfl,hi,hd,hc,hg,rfl⟩hm0 hm hml
    by_cases he:i=data.length
    · have hnil:data.drop i=[]:=by rw[he,List.drop_length]
      refine Fn.mono (Fn.pick [0] (A:=[_]) (F:=[_,_,_]) rfl (readerRead_end rb data i hd hs a c he _)) ?_
      rintro r _⟨_,⟨rfl,rfl⟩,rfl⟩
      refine⟨0,_,_,_,⟨i,by rw[hnil];rfl,rfl,hi,hd,hc,hg,rfl⟩,by omega,by omega,fun h=>absurd hnil h,by rw[hnil];rfl,by rw[hnil];rfl⟩
    · have hi':i<data.length:=by omega
      rcases hg with rfl|⟨db,o',ds,rfl,rfl⟩
      · simp at hi'
      · have hdl:(data.drop i).length=data.length-i:=List.length_drop
        refine Fn.sameR (Fn.pick [0,0,1] (A:=[_,_,_]) (F:=[_]) rfl (readerRead_next (ea:=ea) rb data i hd db o' c ds hi' hc b o m mc cs hm hml)) ?_
        rintro r _⟨_,⟨rfl,rfl⟩,rfl⟩
        have hmin:Nat.min (data.drop i).length m=min (data.drop i).length m:=rfl
        have hk:Nat.min (data.drop i).length m≤data.length-i:=by rw[←hdl];exact Nat.min_le_left _ _
        have hne:data.drop i≠[]:=fun h=>by rw[h]at hdl;simp at hdl;omega
        have htk:(data.drop i).take (Nat.min (data.drop i).length m)=(data.drop i).take m:=by
          rw[List.take_eq_take_iff,hmin];omega
        refine⟨_,Same.perm (((List.Perm.swap _ _ _).cons _).cons _),Nat.min (data.drop i).length m,_,_,_,⟨i+Nat.min (data.drop i).length m,List.drop_drop ..,rfl,by omega,hd,hc,.inr ⟨db,o',ds,rfl,rfl⟩,rfl⟩,
          Nat.min_le_right _ _,Nat.min_le_left _ _,fun _=>?_,?_,?_⟩
        · rw[hmin,hdl];omega
        · have:rdErr (data.drop i)=.none:=by
            unfold rdErr
            split
            · rename_i h;exact absurd h hne
            · rfl
          rw[this]
        · rw[htk]
  byte:=by
    rintro l g1 g2 g3⟨i,rfl,rfl,hi,hd,hc,hg,rfl⟩
    by_cases he:i=data.length
    · have hnil:data.drop i=[]:=by rw[he,List.drop_length]
      refine Fn.mono (Fn.pick [0] (A:=[_]) (F:=[_,_]) rfl (readByte_end rb data i hd hs a c he)) ?_
      rintro r _⟨_,⟨rfl,rfl⟩,rfl⟩
      exact⟨_,_,_,⟨i,by rw[hnil];rfl,rfl,hi,hd,hc,hg,rfl⟩,by rw[hnil];rfl,rfl⟩
    · have hi':i<data.length:=by omega
      rcases hg with rfl|⟨db,o',ds,rfl,rfl⟩
      · simp at hi'
      · have hcons:data.drop i=data[i]::data.drop (i+1):=List.drop_eq_getElem_cons hi'
        refine Fn.mono (Fn.pick [0,0] (A:=[_,_]) (F:=[_]) rfl (readByte_next (ea:=ea) rb data i hd db o' c ds hi')) ?_
        rintro r _⟨_,⟨rfl,rfl⟩,rfl⟩
        exact⟨_,_,_,⟨i+1,by rw[hcons];rfl,rfl,by omega,hd,hc,.inr ⟨db,o',ds,rfl,rfl⟩,rfl⟩,by rw[hcons];rfl,rfl⟩
def Dg(l:List UInt8)(m:Nat):Er:=if m≤l.length then .none else if l.length=0 then .eof else .unexp
theorem rdErr_nil{l:List UInt8}(h:l.length=0):rdErr l=.eof:=by
  rw[List.eq_nil_of_length_eq_zero h];rfl
theorem rdErr_cons{l:List UInt8}(h:l.length≠0):rdErr l=.none:=by
  cases l with
  |nil=>simp at h
  |cons c r=>rfl
theorem min_i{l:List UInt8}{m:Nat}:Nat.min m l.length=min m l.length:=rfl
theorem more_bytes{l:List UInt8}{cs:List Value}(k j:Nat)(hk:k≤l.length):bytesV (l.take k)++(bytesV ((l.drop k).take j)++(cs.drop k).drop j)=bytesV (l.take (k+j))++cs.drop (k+j):=by
  rw[←List.append_assoc,←Ei,←List.take_add,List.drop_drop]
theorem ra_step{l:List UInt8}{k j m:Nat}(hk:k≤l.length)(hj:j≤(l.drop k).length)(hkm:k<m):rdErr (l.drop k)=.none∨(rdErr (l.drop k)=.eof∧k+j=l.length∧k+j<m):=by
  by_cases hz:(l.drop k).length=0
  · rw[List.length_drop]at hz hj
    exact .inr ⟨rdErr_nil (by rw[List.length_drop];exact hz),by omega,by omega⟩
  · exact .inl (rdErr_cons hz)
theorem ra_lt{l:List UInt8}{k j m:Nat}(hj:l.drop k≠[]→0<j)(hkm:k<m):
    2*(m-(k+j))+(if(rdErr (l.drop k)).isNone then 1 else 0)<2*(m-k)+(if Er.none.isNone then 1 else 0):=by
  have h1:(if Er.none.isNone=true then 1 else 0)=1:=rfl
  rw[h1]
  by_cases hz:(l.drop k).length=0
  · rw[rdErr_nil hz]
    have:(if Er.eof.isNone=true then 1 else 0)=0:=rfl
    rw[this];omega
  · rw[rdErr_cons hz,h1]
    have:=hj (fun h=>hz (by rw[h];rfl))
    omega
theorem fullErr_all{l:List UInt8}{m:Nat}(h:m≤l.length):Dg l m=.none:=by rw[Dg,if_pos h]
theorem fullErr_eof{l:List UInt8}{m:Nat}(h:l.length<m)(h0:l.length=0):Dg l m=.eof:=by rw[Dg,if_neg (by omega),if_pos h0]
theorem fullErr_part{l:List UInt8}{m:Nat}(h:l.length<m)(h0:l.length≠0):Dg l m=.unexp:=by rw[Dg,if_neg (by omega),if_neg h0]
theorem full_end{l:List UInt8}{k m:Nat}(h:k=l.length)(hm:k<m):l.take k=l.take m∧l.drop k=l.drop m∧Nat.min m l.length=k:=by
  subst h
  rw[List.take_length,List.take_of_length_le (by omega),List.drop_length,List.drop_eq_nil_of_le (by omega)]
  exact⟨rfl,rfl,Nat.min_eq_right (by omega)⟩
theorem readAtLeast_spec{K:Known}{ea:Fin 5→Addr}(hs:Sents K ea)(src:Src K ea)(l:List UInt8)(x1 x2 x3:Frag)(b o m mc:Nat)(cs:List Value)(hA:src.At l x1 x2 x3)(hm:m=cs.length)(hmc:m≤mc)(hml:m≤4611686018427387904):Fn Tryz.prog K 78 #[.iface src.t src.v,.slice (some ⟨b,o,none⟩) (m) (mc),.int .i64 ((m:Nat):Int)] ([x1,x2,x3,⟨b,o,cs⟩]) (fun r L=>∃f1 f2 f3,src.At (l.drop m) f1 f2 f3∧r=.tuple #[.int .i64 ((Nat.min m l.length:Nat):Int),Er.val ea (Dg l m)]∧L=[f1,f2,f3,⟨b,o,bytesV (l.take m)++cs.drop (Nat.min m l.length)⟩]):=by
 refine Fn.intro (args:=[.iface src.t src.v,.slice (some ⟨b,o,none⟩) (m) (mc),.int .i64 ((m:Nat):Int)]) (RR:=Ret2 6 7 _) Tryz.func78 rfl rfl Tryz.ntmps78 (res2 Tryz.results78) ?_
 refine Bi (env2:=[(0,.iface src.t src.v),(1,.slice (some ⟨b,o,none⟩) (m) (mc)),(2,.int .i64 ((m:Nat):Int))]) U<|Cr<|Ea U U<|Aa (Az (v:=Er.val ea .none) U) U<|Ek5 0 1 2 6 7 U<|Am<|Cr<|Em U U<|Aa (Bc U Tu25) U<|Em U U<|Aa (Dl U U) U<|Ek6 0 1 2 6 7 12 U ?_
 refine Bf U (fun h12=>?_) (fun h12=>?_)
 ·exact absurd h12 (by omega)
 refine Ap<|Du (M:=fun ee ll=>∃(k:Nat),∃(e:Er),∃(g1:Frag),∃(g2:Frag),∃(g3:Frag),keeps ee [0,1,2,6,7]=some [(0,.iface src.t src.v),(1,.slice (some ⟨b,o,none⟩) (m) (mc)),(2,.int .i64 ((m:Nat):Int)),(6,.int .i64 ((k:Nat):Int)),(7,Er.val ea e)]∧ll=[g1,g2,g3,⟨b,o,bytesV (l.take k)++cs.drop k⟩]∧(src.At (l.drop k) g1 g2 g3)∧(k=m∧k≤l.length∨(e=.eof∧k=l.length∧k<m))) ?_ ?_
 ·refine As<|Bw (fun mm ee ll=>∃(k:Nat),∃(e:Er),∃(g1:Frag),∃(g2:Frag),∃(g3:Frag),keeps ee [0,1,2,6,7]=some [(0,.iface src.t src.v),(1,.slice (some ⟨b,o,none⟩) (m) (mc)),(2,.int .i64 ((m:Nat):Int)),(6,.int .i64 ((k:Nat):Int)),(7,Er.val ea e)]∧ll=[g1,g2,g3,⟨b,o,bytesV (l.take k)++cs.drop k⟩]∧(k≤l.length)∧(k≤m)∧(src.At (l.drop k) g1 g2 g3)∧(e=.none∨(e=.eof∧k=l.length∧k<m))∧mm=2*(m-k)+(if e.isNone then 1 else 0)) (_) ⟨0,.none,x1,x2,x3,rfl,rfl,by omega,by omega,hA,.inl U,rfl⟩ ?_
  rintro m0 _ _⟨k,e,g1,g2,g3,hk0,rfl,hk,hkm,hG,hE,hm0⟩
  refine Av _ hk0<|Am<|Cr<|Em U U<|Em U U<|Aa (Dl U U) U<|Em U U<|Ek (fun g17=>?_) (fun g17=>?_)
  ·refine Ak 17 U U<|Em U U<|Ak 17 U U<|Ag (S.eqErNil U) U<|Aa (Bz U U) U<|Ek6 0 1 2 6 7 20 U<|C.ifNone U (fun h20=>?_) (fun h20=>?_)
   ·subst h20
    refine Ap<|As<|Cr<|Ea U U<|Ek7 0 1 2 6 7 8 20 U<|Am ?_
    have hkm2:k<m:=by omega
    have hxs:(bytesV (l.take k)).length=k:=by rw[Bh,List.length_take];omega
    have hcs:cs.length-k=m-k:=by omega
    refine Ga (Same.splitAt (k:=k) 3 U U U hxs U)<|Bx (L2:=[⟨b,o,bytesV (l.take k)⟩,⟨b,o+k,cs.drop k⟩,g1,g2,g3]) U<|Bt [0,0,0,6,1,16,49,72,128,256,256,1023,4095] (.pure 0 14 (.pure 1 117 (.pure 2 115 (.pure 3 119 (.pure 4 15 (.pure 5 31 (.pure 6 63 (.alt 7 (.pure 8 255 (.pure 9 1535 (.pure 10 3071 (.pure 11 2047 (.pure 12 4095 .done))))) .stop)))))))) mixed (by decide+kernel)<|Dm U U U<|Dm U U U<|Dm U U U<|Ah U (S.slL U U (by omega) Tu25 Tz5) U ?_
    refine Fi (v:=.slice (some ⟨b,o+k,none⟩) (m-k) (mc-k)) (Dj (by rw[part,if_neg (by omega)];omega) U U) ?_
    refine Ah U (S.mkMethod U) U<|Ah U (S.nilMethod U src.nRead) U<|Dm U U U<|By ?_
    refine Bo U (OpX.pick [2,2,2,1] (F:=[_]) U (X.invoke U U src.mRead src.cRead (src.read _ _ _ _ b (o+k) (m-k) (mc-k) (cs.drop k) hG (by omega) (by rw[List.length_drop];omega) (by omega)))) U ?_;rintro _ _⟨_,⟨j,f1,f2,f3,hF,hj1,hj2,hj3,rfl,rfl⟩,rfl⟩;refine Dr5 U ?_
    refine Dm U U U<|Ah U (Bg U U) U<|Ah U (Bg U U) U<|Ah U (Az U) U<|Ah U (Az U) U<|Dk7 0 1 2 6 7 8 20 U<|Ga (Same.joinAt 4 3 U U (by rw[hxs]))<|Bx (L2:=[⟨b,o,bytesV (l.take k)++(bytesV ((l.drop k).take j)++(cs.drop k).drop j)⟩,f1,f2,f3]) U ?_
    rw[more_bytes k j hk]
    refine Hv [1,1,1,0] (A:=[_,_,_,_]) (F:=[]) U<|Bx (L2:=[f1,f2,f3,⟨b,o,bytesV (l.take (k+j))++cs.drop (k+j)⟩]) U<|Al<|Em U U<|Em U U<|Aa (Bl U U (N.add64 (by omega))) U<|Ea U U<|Ek7 0 1 2 6 7 8 20 U ?_
    refine⟨_,?_,k+j,_,f1,f2,f3,rfl,rfl,by rw[List.length_drop]at hj2;omega,by omega,by rw[←List.drop_drop];exact hF,ra_step hk hj2 hkm2,rfl⟩;(rw[hm0];exact ra_lt hj3 hkm2)
   refine Bu U ?_
   exact⟨_,_,_,_,_,rfl,rfl,hG,by first|exact .inl ⟨by omega,hk⟩|exact .inr (hE.resolve_left h20)⟩
  refine Ae 17 false U U U U<|Ae 17 false U U U U<|Aa (Bk U U) U<|Ek6 0 1 2 6 7 20 U<|C.no U (rfl)<|Bu U ?_
  exact⟨_,_,_,_,_,rfl,rfl,hG,by first|exact .inl ⟨by omega,hk⟩|exact .inr (hE.resolve_left h20)⟩
 rintro _ _⟨k,e,g1,g2,g3,hq7,rfl,hG,hkm⟩
 refine Av _ hq7<|Am<|Cr<|Em U U<|Em U U<|Aa (S.ge U U) U<|Ek6 0 1 2 6 7 37 U<|Bf U (fun h37=>?_) (fun h37=>?_)
 ·obtain⟨rfl,hkl⟩:k=m∧k≤l.length:=hkm.resolve_right (by omega)
  refine Al<|Aa (Az (v:=Er.val ea .none) U) U<|Ek6 0 1 2 6 7 37 U<|Bb ?_
  exact⟨_,_,rfl,rfl,g1,g2,g3,hG,by rw[fullErr_all hkl,min_i,Nat.min_eq_left hkl],by rw[min_i,Nat.min_eq_left hkl]⟩
 obtain⟨he,hkl,hkm3⟩:=hkm.resolve_left (by omega)
 obtain⟨q1,q2,q3⟩:=full_end hkl hkm3
 rw[q2]at hG
 refine Cr<|Em U U<|Aa (Fh (b:=((0:Nat):Int)) U U) U<|Em U U<|Ek (fun g40=>?_) (fun g40=>?_)
 ·refine Ak 40 U U<|Em U U<|Ak 40 U U<|Ag (Be U hs.g0 Ta58) U<|Ak 40 U U<|Ag (S.eqEr hs U U) U<|Aa (Bz U U) U<|Ek7 0 1 2 6 7 37 44 U<|C.ifSe U (fun h44=>?_) (fun h44=>?_)
  ·refine Al<|Ag (Be U hs.g3 Ta58) U<|Ea U U<|Ek7 0 1 2 6 7 37 44 U<|Bb ?_
   exact⟨_,_,rfl,rfl,g1,g2,g3,hG,by rw[fullErr_part (by omega) (by omega),q3],by rw[q1,q3]⟩
  exact absurd he h44
 refine Ae 40 false U U U U<|Ae 40 false U U U U<|Ae 40 false U U U U<|Aa (Bk U U) U<|Ek7 0 1 2 6 7 37 44 U<|C.no U (rfl)<|Ap<|Bb ?_
 exact⟨_,_,rfl,rfl,g1,g2,g3,hG,by rw[fullErr_eof (by omega) (by omega),q3,he],by rw[q1,q3]⟩
theorem Gh{K:Known}{ea:Fin 5→Addr}(hs:Sents K ea)(src:Src K ea)(l:List UInt8)(x1 x2 x3:Frag)(b o m mc:Nat)(cs:List Value)(hA:src.At l x1 x2 x3)(hm:m=cs.length)(hmc:m≤mc)(hml:m≤4611686018427387904):Fn Tryz.prog K 56 #[.iface src.t src.v,.slice (some ⟨b,o,none⟩) (m) (mc)] ([x1,x2,x3,⟨b,o,cs⟩]) (fun r L=>∃f1 f2 f3,src.At (l.drop m) f1 f2 f3∧r=.tuple #[.int .i64 ((Nat.min m l.length:Nat):Int),Er.val ea (Dg l m)]∧L=[f1,f2,f3,⟨b,o,bytesV (l.take m)++cs.drop (Nat.min m l.length)⟩]):=by
 refine Fn.intro (args:=[.iface src.t src.v,.slice (some ⟨b,o,none⟩) (m) (mc)]) (RR:=Ret2 4 5 _) Tryz.func56 rfl rfl Tryz.ntmps56 (res2 Tryz.results56) ?_
 refine Bi (env2:=[(0,.iface src.t src.v),(1,.slice (some ⟨b,o,none⟩) (m) (mc))]) U<|Cr<|Ea U U<|Aa (Az (v:=Er.val ea .none) U) U<|Ek4 0 1 4 5 U<|Cr<|Em U U<|Em U U<|Em U U<|Aa (Bc U Tu25) U ?_
 refine Ai (OpX.pick [0,0,0,0] (F:=[]) U (Ar U Tryz.call78 (readAtLeast_spec hs src l x1 x2 x3 b o m mc cs hA hm hmc hml))) U ?_;rintro _ _⟨_,⟨f1,f2,f3,hF,rfl,rfl⟩,rfl⟩;refine Er4 U ?_
 refine Aa (Bg U U) U<|Aa (Bg U U) U<|Ea U U<|Ea U U<|Ek2 4 5 U<|Bb ?_
 exact⟨_,_,rfl,rfl,f1,f2,f3,hF,rfl,rfl⟩
theorem simplePopulateTable_spec{K:Known}(b o poly:Nat)(hp:poly<4294967296)(cs:List Value)(hcs:256≤cs.length):Fn Tryz.prog K 87 #[.int .u32 ((poly:Nat):Int),.pointer (some ⟨b,o,none⟩)] ([⟨b,o,cs⟩]) (fun v L=>v=.tuple #[]∧L=[⟨b,o,fillT poly 256 cs⟩]):=by
 refine Fn.intro (args:=[.int .u32 ((poly:Nat):Int),.pointer (some ⟨b,o,none⟩)]) (RR:=Ret0 _) Tryz.func87 rfl rfl Tryz.ntmps87 (res0 Tryz.results87) ?_
 refine Bi (env2:=[(0,.int .u32 ((poly:Nat):Int)),(1,.pointer (some ⟨b,o,none⟩))]) U<|Cr<|Ea U U<|Ek3 0 1 4 U<|As<|Bw (fun mm ee ll=>∃(i:Nat),keeps ee [0,1,4]=some [(0,.int .u32 ((poly:Nat):Int)),(1,.pointer (some ⟨b,o,none⟩)),(4,.int .i64 ((i:Nat):Int))]∧ll=[⟨b,o,fillT poly i cs⟩]∧(i≤256)∧mm=256-i) (_) ⟨0,rfl,rfl,by omega,rfl⟩ ?_
 rintro m0 _ _⟨i,hk0,rfl,hi,hm0⟩
 refine Av _ hk0<|Am<|Cr<|Em U U<|Aa (Dl (b:=((256:Nat):Int)) U U) U<|Ek4 0 1 4 8 U<|Bf U (fun h8=>?_) (fun h8=>?_)
 ·refine Ap<|Am<|As<|Cr<|Em U U<|Aa (Bv U Tu3 Tu69 (N.in_u32 (by omega))) U<|Ea U U<|Ek5 0 1 4 5 8 U<|Am<|Cr<|Ea U U<|Ek6 0 1 4 5 6 8 U ?_
  refine As<|Bw (fun mm ee ll=>∃(j:Nat),∃(c:Nat),keeps ee [0,1,4,5,6]=some [(0,.int .u32 ((poly:Nat):Int)),(1,.pointer (some ⟨b,o,none⟩)),(4,.int .i64 ((i:Nat):Int)),(5,.int .u32 ((c:Nat):Int)),(6,.int .i64 ((j:Nat):Int))]∧ll=[⟨b,o,fillT poly i cs⟩]∧(j≤8)∧(c=divN poly j i)∧(c<4294967296)∧mm=8-j) (_) ⟨0,i,rfl,rfl,by omega,rfl,by omega,rfl⟩ ?_
  rintro m1 _ _⟨j,c,hk1,rfl,hj,hc,hb,hm1⟩
  refine Av _ hk1<|Am<|Cr<|Em U U<|Aa (Dl (b:=((8:Nat):Int)) U U) U<|Ek6 0 1 4 5 6 14 U<|Bf U (fun h14=>?_) (fun h14=>?_)
  ·refine Ap<|Am<|As<|Cr<|Em U U<|Aa (Fa (b:=((1:Nat):Int)) U U (N.and_u32 (by omega) (by omega))) U<|Aa (Ef (b:=((1:Nat):Int)) U U) U<|Ek7 0 1 4 5 6 14 19 U<|Bf U (fun h19=>?_) (fun h19=>?_)
   ·have q1:=divN_odd hc h19
    have q2:c>>>1^^^poly<4294967296:=xor32 (by omega) hp
    refine Al<|Em U U<|Aa (Fl (b:=((1:Nat):Int)) U U (by omega) (N.shr_u32 (by omega) _)) U<|Em U U<|Aa (S.xor U U (N.xor_u32 (by omega) (by omega))) U<|Ea U U<|Ek7 0 1 4 5 6 14 19 U<|Al<|Em U U<|Aa (Bl (b:=((1:Nat):Int)) U U (N.add64 (by omega))) U<|Ea U U<|Ek7 0 1 4 5 6 14 19 U ?_
    refine⟨_,?_,j+1,_,rfl,rfl,by omega,by assumption,by assumption,rfl⟩;omega
   have q1:=divN_even hc h19
   have q2:c>>>1<4294967296:=by omega
   refine Al<|Em U U<|Aa (Fl (b:=((1:Nat):Int)) U U (by omega) (N.shr_u32 (by omega) _)) U<|Ea U U<|Ek7 0 1 4 5 6 14 19 U<|Al<|Em U U<|Aa (Bl (b:=((1:Nat):Int)) U U (N.add64 (by omega))) U<|Ea U U<|Ek7 0 1 4 5 6 14 19 U ?_
   refine⟨_,?_,j+1,_,rfl,rfl,by omega,by assumption,by assumption,rfl⟩;omega
  have hj8:j=8:=by omega
  subst hj8
  subst hc
  have hlt:Nat.blt i (fillT poly i cs).length=true:=by rw[fillT_length,Nat.blt_eq];omega
  refine Bu U<|Al<|Em U U<|Em U U<|Em U U<|Aa (Ad U) U<|Aa (Bj (i:=i) (s:=1) (m:=256) U U (by omega) Tu194 Tz69) U ?_
  refine Ao (Aq 0 (k:=i*1) U U U U (by rw[Nat.mul_one];exact hlt) Tz69) ?_;rintro _ _⟨rfl,rfl⟩;refine Er1 U ?_
  refine Ek6 0 1 4 5 6 14 U<|Al<|Em U U<|Aa (Bl (b:=((1:Nat):Int)) U U (N.add64 (by omega))) U<|Ea U U<|Ek6 0 1 4 5 6 14 U ?_
  refine⟨_,?_,i+1,rfl,(by rw[fillT,Nat.mul_one]),by omega,rfl⟩;omega
 have hi8:i=256:=by omega
 subst hi8
 refine Bu U ?_
 exact⟨rfl,rfl⟩
theorem simpleUpdate_spec{K:Known}(crc poly tb pb po cap:Nat)(l:List UInt8)(hpoly:poly<4294967296)(hcrc:crc<4294967296)(hT:KT K tb poly)(hp:KB K pb po l)(hl:l.length≤9223372036854775807):Fn Tryz.prog K 86 #[.int .u32 ((crc:Nat):Int),.pointer (some ⟨tb,0+0*256,none⟩),.slice (some ⟨pb,po,none⟩) (l.length) (cap)] ([]) (fun v L=>v=u32 (crcOn poly crc l)∧L=[]):=by
 refine Fn.intro (args:=[.int .u32 ((crc:Nat):Int),.pointer (some ⟨tb,0+0*256,none⟩),.slice (some ⟨pb,po,none⟩) (l.length) (cap)]) (RR:=Ret1 6 _) Tryz.func86 rfl rfl Tryz.ntmps86 (res1 Tryz.results86) ?_
 refine Bi (env2:=[(0,.int .u32 ((crc:Nat):Int)),(1,.pointer (some ⟨tb,0+0*256,none⟩)),(2,.slice (some ⟨pb,po,none⟩) (l.length) (cap))]) U<|Cr<|Ea U U<|Ek4 0 1 2 6 U<|Cr<|Em U U<|Aa (S.not32 U (by omega)) U<|Ea U U<|Ek4 0 1 2 6 U<|Am<|Cr<|Em U U ?_
 refine Aa (Bc U Tu25) U<|Em U U<|Ek6 0 1 6 11 12 13 U<|As<|Bw (fun mm ee ll=>∃(i:Nat),∃(c:Nat),keeps ee [0,1,11,12,13]=some [(0,.int .u32 ((c:Nat):Int)),(1,.pointer (some ⟨tb,0+0*256,none⟩)),(11,.slice (some ⟨pb,po,none⟩) (l.length) (cap)),(12,.int .i64 ((l.length:Nat):Int)),(13,.int .i64 ((i:Nat):Int))]∧ll=[]∧(i≤l.length)∧(c=(nats (l.take i)).foldl (step poly) (not32 crc))∧(c<4294967296)∧mm=l.length-i) (_) ⟨0,_,rfl,rfl,by omega,rfl,not32_lt hcrc,rfl⟩ ?_
 rintro m0 _ _⟨i,c,hk0,rfl,hi,hc,hb,hm0⟩
 refine Av _ hk0<|Cr<|Aa (Dl U U) U<|Ek6 0 1 11 12 13 14 U<|Am<|Bf U (fun h14=>?_) (fun h14=>?_)
 ·have hi2:i<l.length:=by omega
  have hv:=l[i].toNat_lt
  have hx:=xor8 (Nat.mod_lt c (by decide:256>0)) hv
  have hx2:=TT_lt (poly:=poly) (j:=0) hpoly hx
  have hc2:=(fold_take (poly:=poly) (c0:=not32 crc) hi2).trans (by rw[←hc])
  have hst:=step_table poly (c:=c) hv
  refine Ap<|Am<|As<|Cr<|Aa (Bm U U (by omega) Tu25 Tz5) U<|Ag (Be U (hp.at hi2) Ta5) U<|Ea U U<|Ek7 0 1 8 11 12 13 14 U<|Al<|Em U U<|Em U U<|Aa (Bv U Tu69 Tu5 (N.mod_u8 _)) U ?_
  refine Em U U<|Aa (S.xor U U (N.xor_u8 (by omega) (by omega))) U<|Aa (Ad U) U<|Aa (Bj U U (by omega) Tu194 Tz69) U<|Ag (Be U (hT.at (by decide) hx) Ta69) U<|Em U U<|Aa (Fl (b:=((8:Nat):Int)) U U (by omega) (N.shr_u32 (by omega) _)) U<|Aa (S.xor U U (N.xor_u32 (by omega) (by omega))) U<|An (v:=u32 (step poly c l[i].toNat)) (congrArg u32 hst)<|Ea U U<|Ek7 0 1 8 11 12 13 14 U<|Al ?_
  refine Aa (Bl (b:=((1:Nat):Int)) U U (N.add64 (by omega))) U<|Em U U<|Ek7 0 1 8 11 12 13 14 U ?_
  refine⟨_,?_,i+1,_,rfl,rfl,by omega,hc2.symm,step_lt hpoly hb l[i].toNat_lt,rfl⟩;omega
 have hi2:i=l.length:=by omega
 subst hi2
 rw[fold_take_all]at hc
 refine Bu U<|Cr<|Em U U<|Aa (S.not32 U (by omega)) U<|Ea U U<|Ek7 0 1 6 11 12 13 14 U<|Bb ?_
 exact⟨_,rfl,by rw[hc];rfl,rfl⟩
theorem zc135:(Value.agg Tryz.zeroCells198).cells.toList.length=2048:=by kernel_rfl
theorem slicingMakeTable_spec{K:Known}(poly:Nat)(hpoly:poly<4294967296):Fn Tryz.prog K 77 #[.int .u32 ((poly:Nat):Int)] ([]) (fun v L=>∃b cs,v=.pointer (some ⟨b,0,none⟩)∧L=[⟨b,0,cs⟩]∧TabAt poly cs 256 1):=by
 refine Fn.intro (args:=[.int .u32 ((poly:Nat):Int)]) (RR:=Ret1 2 _) Tryz.func77 rfl rfl Tryz.ntmps77 (res1 Tryz.results77) ?_
 refine Bi (env2:=[(0,.int .u32 ((poly:Nat):Int))]) U<|Cr<|Ea U U<|Ek2 0 2 U<|Cr ?_
 refine Ai (Dq Tryz.zeroValue198) U ?_;rintro _ _⟨b7,rfl,rfl⟩;refine Er1 U ?_
 have hz:=zc135
 generalize (Value.agg Tryz.zeroCells198).cells.toList=cs0 at hz⊢
 refine Ea U U<|Ek3 0 2 3 U<|Cr<|Em U U<|Em U U<|Aa (Ad U) U<|Aa (Bj (i:=0) U U (by omega) Tu198 Tz194) U ?_
 refine Ai (OpX.pick [0] (F:=[]) U (Ar U Tryz.call87 (simplePopulateTable_spec b7 0 poly hpoly cs0 (by omega)))) U ?_;rintro _ _⟨_,⟨rfl,rfl⟩,rfl⟩;refine Er1 U ?_
 refine Ek2 2 3 U<|Am<|Cr<|Ea U U<|Ek3 2 3 4 U<|As<|Bw (fun mm ee ll=>∃(i:Nat),∃(cs:List Value),keeps ee [3,4]=some [(3,.pointer (some ⟨b7,0,none⟩)),(4,.int .i64 ((i:Nat):Int))]∧ll=[⟨b7,0,cs⟩]∧(i≤256)∧(TabAt poly cs i 1)∧mm=256-i) (_) ⟨0,_,rfl,rfl,by omega,TabAt.init hz,rfl⟩ ?_
 rintro m0 _ _⟨i,cs,hk0,rfl,hi,hT,hm0⟩
 refine Av _ hk0<|Am<|Cr<|Em U U<|Aa (Dl (b:=((256:Nat):Int)) U U) U<|Ek3 3 4 14 U<|Bf U (fun h14=>?_) (fun h14=>?_)
 ·have hi2:i<256:=by omega
  refine Ap<|Am<|As<|Cr<|Em U U<|Em U U<|Aa (Ad U) U<|Aa (Bj (i:=0) U U (by omega) Tu198 Tz194) U<|Aa (Bj U U (by omega) Tu194 Tz69) U<|An (v:=.pointer (some ⟨b7,0+i,none⟩)) (by simp)<|Ag (Aj 0 U U (hT.first i hi2) Ta69) U<|Ea U U ?_
  refine Ek4 3 4 5 14 U<|Cr<|Ea U U<|Ek5 3 4 5 6 14 U<|As<|Bw (fun mm ee ll=>∃(j:Nat),∃(c:Nat),∃(cs2:List Value),keeps ee [3,4,5,6]=some [(3,.pointer (some ⟨b7,0,none⟩)),(4,.int .i64 ((i:Nat):Int)),(5,.int .u32 ((c:Nat):Int)),(6,.int .i64 ((j:Nat):Int))]∧ll=[⟨b7,0,cs2⟩]∧(1≤j∧j≤8)∧(TabAt poly cs2 i j)∧(c=TT poly (j-1) i)∧mm=8-j) (_) ⟨1,TT poly 0 i,cs,rfl,rfl,by omega,hT,rfl,rfl⟩ ?_
  rintro m1 _ _⟨j,c,cs2,hk1,rfl,hj,hT2,hc,hm1⟩
  refine Av _ hk1<|Am<|Cr<|Em U U<|Aa (Dl (b:=((8:Nat):Int)) U U) U<|Ek5 3 4 5 6 24 U<|Bf U (fun h24=>?_) (fun h24=>?_)
  ·have hcl:c<4294967296:=by rw[hc];exact TT_lt hpoly hi2
   have hxl:=TT_lt (poly:=poly) (j:=0) hpoly (and255_lt c)
   have hst:u32 (TT poly 0 (c&&&255)^^^c>>>8)=u32 (TT poly j i):=by
     rw[hc,TT_succ,show j-1+1=j by omega]
   have hxi:=TT_lt (poly:=poly) (j:=j) hpoly hi2
   refine Ap<|Am<|As<|Cr<|Em U U<|Em U U<|Aa (Fa (b:=((255:Nat):Int)) U U (N.and_u32 (by omega) (by omega))) U<|Aa (Ad U) U<|Aa (Bj (i:=0) U U (by omega) Tu198 Tz194) U<|Aa (Bj U U (and255_lt c) Tu194 Tz69) U<|An (v:=.pointer (some ⟨b7,0+(c&&&255),none⟩)) (by simp)<|Ag (Aj 0 U U (hT2.first _ (and255_lt c)) Ta69) U ?_
   refine Em U U<|Aa (Fl (b:=((8:Nat):Int)) U U (by omega) (N.shr_u32 (by omega) _)) U<|Aa (S.xor U U (N.xor_u32 (by omega) (by omega))) U<|An (v:=u32 (TT poly j i)) hst<|Ea U U<|Ek5 3 4 5 6 24 U<|Al<|Em U U<|Em U U<|Em U U<|Em U U<|Aa (Ad U) U ?_
   refine Aa (Bj U U (by omega) Tu198 Tz194) U<|Aa (Bj U U (by omega) Tu194 Tz69) U<|An (v:=.pointer (some ⟨b7,0+(j*256+i),none⟩)) (by simp[Nat.add_assoc]) ?_
   refine Ao (Aq 0 (k:=j*256+i) U U U U (by rw[hT2.len,Nat.blt_eq];omega) Tz69) ?_;rintro _ _⟨rfl,rfl⟩;refine Er1 U ?_
   refine Ek5 3 4 5 6 24 U<|Al<|Em U U<|Aa (Bl (b:=((1:Nat):Int)) U U (N.add64 (by omega))) U<|Ea U U<|Ek5 3 4 5 6 24 U ?_
   refine⟨_,?_,j+1,TT poly j i,_,rfl,rfl,by omega,hT2.set (by omega) (by omega) hi2,rfl,rfl⟩;omega
  have hj8:j=8:=by omega
  subst hj8
  refine Bu U<|Al<|Em U U<|Aa (Bl (b:=((1:Nat):Int)) U U (N.add64 (by omega))) U<|Ea U U<|Ek5 3 4 5 6 24 U ?_
  refine⟨_,?_,i+1,_,rfl,rfl,by omega,hT2.next hi2,rfl⟩;omega
 have hi2:i=256:=by omega
 subst hi2
 refine Bu U<|Cr<|Em U U<|Ea U U<|Ek4 2 3 4 14 U<|Bb ?_
 exact⟨_,rfl,_,_,rfl,rfl,hT⟩
theorem crcLe32_spec{K:Known}(pb po n cap:Nat)(v0 v1 v2 v3:UInt8)(l:List UInt8)(hn:4≤n)(hp:KB K pb po (v0::v1::v2::v3::l)):Fn Tryz.prog K 85 #[.slice (some ⟨pb,po,none⟩) (n) (cap)] ([]) (fun v L=>v=u32 (le32 v0.toNat v1.toNat v2.toNat v3.toNat)∧L=[]):=by
 refine Fn.intro (args:=[.slice (some ⟨pb,po,none⟩) (n) (cap)]) (RR:=Ret1 2 _) Tryz.func85 rfl rfl Tryz.ntmps85 (res1 Tryz.results85) ?_
 refine Bi (env2:=[(0,.slice (some ⟨pb,po,none⟩) (n) (cap))]) U<|Cr ?_
 have g0:cellAt K pb (po+0*1)=some (u8 v0):=hp.at (j:=0) (by simp only[List.length_cons];omega)
 have g1:cellAt K pb (po+1*1)=some (u8 v1):=hp.at (j:=1) (by simp only[List.length_cons];omega)
 have g2:cellAt K pb (po+2*1)=some (u8 v2):=hp.at (j:=2) (by simp only[List.length_cons];omega)
 have g3:cellAt K pb (po+3*1)=some (u8 v3):=hp.at (j:=3) (by simp only[List.length_cons];omega)
 have e0:=v0.toNat_lt
 have e1:=v1.toNat_lt
 have e2:=v2.toNat_lt
 have e3:=v3.toNat_lt
 have f1:=or_lt (a:=v0.toNat) (b:=v1.toNat<<<8%4294967296) (k:=32) (by omega) (by omega)
 have f2:=or_lt (b:=v2.toNat<<<16%4294967296) (k:=32) f1 (by omega)
 rw[show(2:Nat)^32=4294967296 from rfl]at f1 f2
 refine Ea U U<|Ek2 0 2 U<|Cr<|Em U U<|Aa (Bm (i:=3) U U (by omega) Tu25 Tz5) U<|Ag (Be U (by assumption) Ta5) U<|Ek2 0 2 U<|Am<|Bt [0,1,2,4,0,16,32,64,128,264,0,1024,2048,4096,8192,16896,0,65536,131072,262144,524288,1081344,4194303] (.pure 0 2063856 (.pure 1 2063857 (.pure 4 2063375 (.pure 5 2063391 (.pure 10 2032639 (.pure 11 2033663 (.pure 16 65535 (.pure 17 131071 (.seg [(2,2063859),(3,2063863),(6,2063423),(7,2063487),(8,2063615),(9,2063871),(12,2035711),(13,2039807),(14,2047999),(15,2064383),(18,262143),(19,524287),(20,1048575),(21,2097151),(22,4194303)] .done))))))))) mixed (by decide+kernel)<|Dm U U U<|Ah U (Bm (i:=0) U U (by omega) Tu25 Tz5) U<|Dm U U U ?_
 refine Ah U (Bm (i:=1) U U (by omega) Tu25 Tz5) U<|Dm U U U<|Ah U (Bm (i:=2) U U (by omega) Tu25 Tz5) U<|Dm U U U<|Ah U (Bm (i:=3) U U (by omega) Tu25 Tz5) U<|Dc (by decide)<|Au U (Be U (by assumption) Ta5) U<|Ba U (Bv U Tu5 Tu69 (N.in_u32 (by omega))) U<|Au U (Be U (by assumption) Ta5) U<|Ba U (Bv U Tu5 Tu69 (N.in_u32 (by omega))) U<|Ba U (Fy (b:=((8:Nat):Int)) U U (by omega) (N.shl_u32 _ _)) U<|Ba U (S.or U U (N.or_u32 (by omega) (by omega))) U ?_
 refine Au U (Be U (by assumption) Ta5) U<|Ba U (Bv U Tu5 Tu69 (N.in_u32 (by omega))) U<|Ba U (Fy (b:=((16:Nat):Int)) U U (by omega) (N.shl_u32 _ _)) U<|Ba U (S.or U U (N.or_u32 (by omega) (by omega))) U<|Au U (Be U (by assumption) Ta5) U<|Ba U (Bv U Tu5 Tu69 (N.in_u32 (by omega))) U<|Ba U (Fy (b:=((24:Nat):Int)) U U (by omega) (N.shl_u32 _ _)) U<|Ba U (S.or U U (N.or_u32 (by omega) (by omega))) U<|Ba U (Az U) U<|Da<|Dk2 0 2 U<|Bb ?_
 exact⟨_,rfl,rfl,rfl⟩
theorem slicingUpdate_spec{K:Known}(crc poly tb pb po cap:Nat)(l:List UInt8)(hpoly:poly<4294967296)(hcrc:crc<4294967296)(hT:KT K tb poly)(hp:KB K pb po l)(hl:l.length≤9223372036854775807)(hcap:l.length≤cap):Fn Tryz.prog K 76 #[.int .u32 ((crc:Nat):Int),.pointer (some ⟨tb,0,none⟩),.slice (some ⟨pb,po,none⟩) (l.length) (cap)] ([]) (fun v L=>v=u32 (crcOn poly crc l)∧L=[]):=by
 refine Fn.intro (args:=[.int .u32 ((crc:Nat):Int),.pointer (some ⟨tb,0,none⟩),.slice (some ⟨pb,po,none⟩) (l.length) (cap)]) (RR:=Ret1 6 _) Tryz.func76 rfl rfl Tryz.ntmps76 (res1 Tryz.results76) ?_
 refine Bi (env2:=[(0,.int .u32 ((crc:Nat):Int)),(1,.pointer (some ⟨tb,0,none⟩)),(2,.slice (some ⟨pb,po,none⟩) (l.length) (cap))]) U<|Cr<|Ea U U<|Ek4 0 1 2 6 U<|Du (M:=fun ee ll=>∃(k:Nat),∃(c:Nat),keeps ee [0,1,2]=some [(0,.int .u32 ((c:Nat):Int)),(1,.pointer (some ⟨tb,0,none⟩)),(2,.slice (some ⟨pb,po+k,none⟩) (l.length-k) (cap-k))]∧ll=[]∧(k≤l.length)∧(c<4294967296)∧(crcOn poly c (l.drop k)=crcOn poly crc l)) ?_ ?_
 ·refine Cr<|Em U U<|Aa (Bc U Tu25) U<|Aa (S.ge (b:=((16:Nat):Int)) U U) U<|Ek5 0 1 2 6 9 U<|Bf U (fun h9=>?_) (fun h9=>?_)
  ·refine Cr<|Em U U<|Aa (S.not32 U (by omega)) U<|Ea U U<|Ek5 0 1 2 6 9 U<|Am<|As<|Bw (fun mm ee ll=>∃(k:Nat),∃(c:Nat),keeps ee [0,1,2]=some [(0,.int .u32 ((c:Nat):Int)),(1,.pointer (some ⟨tb,0,none⟩)),(2,.slice (some ⟨pb,po+k,none⟩) (l.length-k) (cap-k))]∧ll=[]∧(k≤l.length)∧(c<4294967296)∧(not32 ((nats (l.drop k)).foldl (step poly) c)=crcOn poly crc l)∧mm=l.length-k) (_) ⟨0,_,rfl,rfl,by omega,not32_lt hcrc,rfl,rfl⟩ ?_
   rintro m0 _ _⟨k,c,hk0,rfl,hk,hb,hc,hm0⟩
   refine Av _ hk0<|Am<|Cr<|Em U U<|Aa (Bc U Tu25) U<|Aa (Fh (b:=((8:Nat):Int)) U U) U<|Ek4 0 1 2 14 U<|Bf U (fun h14=>?_) (fun h14=>?_)
   ·have h8:8<l.length-k:=by omega
    obtain⟨v0,v1,v2,v3,v4,v5,v6,v7,r,hd,hd8⟩:=eight h8
    have hB:=hp.drop k
    rw[hd]at hB
    have hle:=le32_lt v0.toNat_lt v1.toNat_lt v2.toNat_lt v3.toNat_lt
    obtain⟨zz,hC⟩:∃zz,zz=c^^^le32 v0.toNat v1.toNat v2.toNat v3.toNat:=⟨_,rfl⟩
    have hCl:zz<4294967296:=by rw[hC];exact xor32 hb hle
    refine Ap<|As<|Cr<|Em U U<|Em U U ?_
    refine Ai (OpX.pick [] (F:=[]) U (Ar U Tryz.call85 (crcLe32_spec pb (po+k) (l.length-k) (cap-k) v0 v1 v2 v3 (v4::v5::v6::v7::r) (by omega) hB))) U ?_;rintro _ _⟨_,⟨rfl,rfl⟩,rfl⟩;refine Ax (L2:=[]) U ?_
    refine Aa (S.xor U U (N.xor_u32 (by omega) (by omega))) U<|An (v:=u32 zz) (congrArg u32 hC.symm)<|Ea U U<|Ek4 0 1 2 14 U<|Am ?_
    have g0:cellAt K pb (po+k+0*1)=some (u8 v0):=hB.at (j:=0) (by simp only[List.length_cons];omega)
    have g1:cellAt K pb (po+k+1*1)=some (u8 v1):=hB.at (j:=1) (by simp only[List.length_cons];omega)
    have g2:cellAt K pb (po+k+2*1)=some (u8 v2):=hB.at (j:=2) (by simp only[List.length_cons];omega)
    have g3:cellAt K pb (po+k+3*1)=some (u8 v3):=hB.at (j:=3) (by simp only[List.length_cons];omega)
    have g4:cellAt K pb (po+k+4*1)=some (u8 v4):=hB.at (j:=4) (by simp only[List.length_cons];omega)
    have g5:cellAt K pb (po+k+5*1)=some (u8 v5):=hB.at (j:=5) (by simp only[List.length_cons];omega)
    have g6:cellAt K pb (po+k+6*1)=some (u8 v6):=hB.at (j:=6) (by simp only[List.length_cons];omega)
    have g7:cellAt K pb (po+k+7*1)=some (u8 v7):=hB.at (j:=7) (by simp only[List.length_cons];omega)
    have e0:=v0.toNat_lt
    have e1:=v1.toNat_lt
    have e2:=v2.toNat_lt
    have e3:=v3.toNat_lt
    have e4:=v4.toNat_lt
    have e5:=v5.toNat_lt
    have e6:=v6.toNat_lt
    have e7:=v7.toNat_lt
    have i4:zz>>>24<256:=by omega
    have i5:=and255_lt (zz>>>16)
    have i6:=and255_lt (zz>>>8)
    have i7:=and255_lt zz
    have T0:=hT.at (j:=0) (k:=v7.toNat) (by decide) (by omega)
    have b0:=TT_lt (poly:=poly) (j:=0) (k:=v7.toNat) hpoly (by omega)
    have T1:=hT.at (j:=1) (k:=v6.toNat) (by decide) (by omega)
    have b1:=TT_lt (poly:=poly) (j:=1) (k:=v6.toNat) hpoly (by omega)
    have T2:=hT.at (j:=2) (k:=v5.toNat) (by decide) (by omega)
    have b2:=TT_lt (poly:=poly) (j:=2) (k:=v5.toNat) hpoly (by omega)
    have T3:=hT.at (j:=3) (k:=v4.toNat) (by decide) (by omega)
    have b3:=TT_lt (poly:=poly) (j:=3) (k:=v4.toNat) hpoly (by omega)
    have T4:=hT.at (j:=4) (k:=(zz>>>24)) (by decide) (by omega)
    have b4:=TT_lt (poly:=poly) (j:=4) (k:=(zz>>>24)) hpoly (by omega)
    have T5:=hT.at (j:=5) (k:=(zz>>>16&&&255)) (by decide) (by omega)
    have b5:=TT_lt (poly:=poly) (j:=5) (k:=(zz>>>16&&&255)) hpoly (by omega)
    have T6:=hT.at (j:=6) (k:=(zz>>>8&&&255)) (by decide) (by omega)
    have b6:=TT_lt (poly:=poly) (j:=6) (k:=(zz>>>8&&&255)) hpoly (by omega)
    have T7:=hT.at (j:=7) (k:=(zz&&&255)) (by decide) (by omega)
    have b7:=TT_lt (poly:=poly) (j:=7) (k:=(zz&&&255)) hpoly (by omega)
    have s1:=xor32 b0 b1
    have s2:=xor32 s1 b2
    have s3:=xor32 s2 b3
    have s4:=xor32 s3 b4
    have s5:=xor32 s4 b5
    have s6:=xor32 s5 b6
    have s7:=xor32 s6 b7
    have hS:TT poly 0 v7.toNat^^^TT poly 1 v6.toNat^^^TT poly 2 v5.toNat^^^TT poly 3 v4.toNat^^^TT poly 4 (zz>>>24)^^^TT poly 5 (zz>>>16&&&255)^^^TT poly 6 (zz>>>8&&&255)^^^TT poly 7 (zz&&&255)=[v0.toNat,v1.toNat,v2.toNat,v3.toNat,v4.toNat,v5.toNat,v6.toNat,v7.toNat].foldl (step poly) c:=by rw[hC];exact slice8 poly hb e0 e1 e2 e3
    refine Bt [0,0,2,4,1,16,40,64,0,0,512,1024,256,4096,10240,16384,32896,0,0,262144,524288,131072,2097152,5242880,8388608,16842752,0,0,134217728,268435456,67108864,1073741824,2684354560,4294967296,8623489024,0,0,68719476736,34359738368,274877906944,687194767360,1099511627776,2216203124736,0,0,17592186044416,35184372088832,8796093022208,140737488355328,351843720888320,562949953421312,1130297953353728,0,0,9007199254740992,18014398509481984,4503599627370496,72057594037927936,180143985094819840,288230376151711744,578712552117108736,0,0,4611686018427387904,2305843009213693952,18446744073709551616,46116860184273879040,73786976294838206464,148726874094283259904,590295810358705651711] (.pure 0 293992727459672293134 (.pure 1 293992727459672293169 (.pure 2 293992727459672293171 (.pure 4 293992727459672293135 (.pure 5 293992727459672293151 (.pure 8 293992727459672231679 (.pure 9 293992727459672240639 (.pure 10 293992727459672241151 (.pure 12 293992727459672231935 (.pure 13 293992727459672236031 (.pure 17 293992727459640770559 (.pure 18 293992727459645358079 (.pure 19 293992727459645620223 (.pure 21 293992727459640901631 (.pure 22 293992727459642998783 (.pure 26 293992727443532677119 (.pure 27 293992727445881487359 (.pure 28 293992727446015705087 (.pure 30 293992727443599785983 (.pure 31 293992727444673527807 (.pure 35 293992723319357439999 (.pure 36 293992723972192468991 (.pure 37 293992724040911945727 (.pure 38 293992723353717178367 (.pure 39 293992723628595085311 (.pure 40 293992724178350899199 (.pure 43 293990612016513941503 (.pure 44 293990919879769718783 (.pure 45 293990937471955763199 (.pure 46 293990972656327852031 (.pure 47 293990620812606963711 (.pure 48 293990761550095319039 (.pure 49 293991043025072029695 (.pure 52 292909616164549689343 (.pure 53 293067242151507656703 (.pure 54 293076249350762397695 (.pure 55 293094263749271879679 (.pure 56 292914119764177059839 (.pure 57 292986177358214987775 (.pure 58 293130292546290843647 (.pure 61 16140901064495857663 (.pure 62 59951918239556042751 (.pure 63 64563604257983430655 (.pure 64 18446744073709551615 (.pure 65 36893488147419103231 (.pure 66 73786976294838206463 (.seg [(3,293992727459672293175),(6,293992727459672293183),(7,293992727459672293247),(11,293992727459672242175),(14,293992727459672244223),(15,293992727459672260607),(16,293992727459672293375),(20,293992727459646144511),(23,293992727459647193087),(24,293992727459655581695),(25,293992727459672358911),(29,293992727446284140543),(32,293992727446821011455),(33,293992727451115978751),(34,293992727459705913343),(41,293992725277862526975),(42,293992727476885782527),(50,293991605975025451007),(51,293992731874932293631),(59,293418522922442555391),(60,293994983674745978879),(67,147573952589676412927),(68,295147905179352825855),(69,590295810358705651711)] .done))))))))))))))))))))))))))))))))))))))))))))))) mixed (by decide+kernel)<|Dm U U U<|Dm U U U<|Ah U (Bm (i:=7) U U (by omega) Tu25 Tz5) U<|Ah U (Ad U) U<|Ah U (Bj (i:=0) U U (by omega) Tu198 Tz194) U<|Dm U U U<|Dm U U U<|Ah U (Bm (i:=6) U U (by omega) Tu25 Tz5) U<|Ah U (Ad U) U<|Ah U (Bj (i:=1) U U (by omega) Tu198 Tz194) U<|Dm U U U ?_
    refine Dm U U U<|Ah U (Bm (i:=5) U U (by omega) Tu25 Tz5) U<|Ah U (Ad U) U<|Ah U (Bj (i:=2) U U (by omega) Tu198 Tz194) U<|Dm U U U<|Dm U U U<|Ah U (Bm (i:=4) U U (by omega) Tu25 Tz5) U<|Ah U (Ad U) U<|Ah U (Bj (i:=3) U U (by omega) Tu198 Tz194) U<|Dm U U U<|Dm U U U<|Ah U (Fl (b:=((24:Nat):Int)) U U (by omega) (N.shr_u32 (by omega) _)) U ?_
    refine Ah U (Ad U) U<|Ah U (Bj (i:=4) U U (by omega) Tu198 Tz194) U<|Ah U (Bj U U (by omega) Tu194 Tz69) U<|Dm U U U<|Dm U U U<|Ah U (Fl (b:=((16:Nat):Int)) U U (by omega) (N.shr_u32 (by omega) _)) U<|Ah U (Fa (b:=((255:Nat):Int)) U U (N.and_u32 (by omega) (by omega))) U<|Ah U (Ad U) U<|Ah U (Bj (i:=5) U U (by omega) Tu198 Tz194) U<|Ah U (Bj U U (by omega) Tu194 Tz69) U<|Dm U U U<|Dm U U U ?_
    refine Ah U (Fl (b:=((8:Nat):Int)) U U (by omega) (N.shr_u32 (by omega) _)) U<|Ah U (Fa (b:=((255:Nat):Int)) U U (N.and_u32 (by omega) (by omega))) U<|Ah U (Ad U) U<|Ah U (Bj (i:=6) U U (by omega) Tu198 Tz194) U<|Ah U (Bj U U (by omega) Tu194 Tz69) U<|Dm U U U<|Dm U U U<|Ah U (Fa (b:=((255:Nat):Int)) U U (N.and_u32 (by omega) (by omega))) U<|Ah U (Ad U) U<|Ah U (Bj (i:=7) U U (by omega) Tu198 Tz194) U<|Ah U (Bj U U (by omega) Tu194 Tz69) U<|Dc (by decide) ?_
    refine Au U (Be U (by assumption) Ta5) U<|Ba U (Bj U U (by omega) Tu194 Tz69) U<|Au U (Be U (by assumption) Ta69) U<|Au U (Be U (by assumption) Ta5) U<|Ba U (Bj U U (by omega) Tu194 Tz69) U<|Au U (Be U (by assumption) Ta69) U<|Ba U (S.xor U U (N.xor_u32 (by omega) (by omega))) U<|Au U (Be U (by assumption) Ta5) U<|Ba U (Bj U U (by omega) Tu194 Tz69) U<|Au U (Be U (by assumption) Ta69) U<|Ba U (S.xor U U (N.xor_u32 (by omega) (by omega))) U<|Au U (Be U (by assumption) Ta5) U ?_
    refine Ba U (Bj U U (by omega) Tu194 Tz69) U<|Au U (Be U (by assumption) Ta69) U<|Ba U (S.xor U U (N.xor_u32 (by omega) (by omega))) U<|Au U (Be U (by assumption) Ta69) U<|Ba U (S.xor U U (N.xor_u32 (by omega) (by omega))) U<|Au U (Be U (by assumption) Ta69) U<|Ba U (S.xor U U (N.xor_u32 (by omega) (by omega))) U<|Au U (Be U (by assumption) Ta69) U<|Ba U (S.xor U U (N.xor_u32 (by omega) (by omega))) U<|Au U (Be U (by assumption) Ta69) U<|Ba U (S.xor U U (N.xor_u32 (by omega) (by omega))) U<|Dy (congrArg u32 hS) ?_
    refine Ba U (Az U) U<|Da<|Dk4 0 1 2 14 U<|Al<|Em U U<|Aa (S.slL (lo:=8) U U (by omega) Tu25 Tz5) U ?_
    refine An (v:=.slice (some ⟨pb,po+(k+8),none⟩) (l.length-(k+8)) (cap-(k+8))) (Dj (by rw[part,if_neg (by omega)];omega) (by omega) (by omega)) ?_
    refine Ea U U<|Ek4 0 1 2 14 U ?_
    refine⟨_,?_,k+8,_,rfl,rfl,by omega,hS▸s7,by rw[←hc,hd,hd8];rfl,rfl⟩;omega
   refine Bu U<|Al<|Em U U<|Aa (S.not32 U (by omega)) U<|Ea U U<|Ek4 0 1 2 14 U ?_
   exact⟨_,not32 c,rfl,rfl,hk,not32_lt hb,by rw[←hc];unfold crcOn;rw[not32_not32]⟩
  refine Ap ?_
  exact⟨0,crc,rfl,rfl,by omega,hcrc,rfl⟩
 rintro _ _⟨k,c,hq8,rfl,hk,hb,hc⟩
 refine Av _ hq8<|Am<|Cr<|Em U U<|Aa (Bc U Tu25) U<|Aa (Ef (b:=((0:Nat):Int)) U U) U<|Ek4 0 1 2 94 U<|Bf U (fun h94=>?_) (fun h94=>?_)
 ·refine Cr<|Em U U<|Ea U U<|Ek5 0 1 2 6 94 U<|Bb ?_
  have hk2:l.drop k=[]:=List.drop_eq_nil_of_le (by omega);rw[hk2]at hc;exact⟨_,rfl,by rw[←hc];unfold crcOn;exact congrArg u32 (not32_not32 c).symm,rfl⟩
 refine Ap<|Cr<|Em U U<|Em U U<|Aa (Ad U) U<|Aa (Bj (i:=0) U U (by omega) Tu198 Tz194) U<|Em U U<|An (v:=.slice (some ⟨pb,po+k,none⟩) ((l.drop k).length) (cap-k)) (Dj U (by rw[List.length_drop]) U) ?_
 refine Ai (OpX.pick [] (F:=[]) U (Ar U Tryz.call86 (simpleUpdate_spec c poly tb pb (po+k) (cap-k) (l.drop k) hpoly hb hT (hp.drop k) (by rw[List.length_drop];omega)))) U ?_;rintro _ _⟨_,⟨rfl,rfl⟩,rfl⟩;refine Ax (L2:=[]) U ?_
 refine Ea U U<|Ek5 0 1 2 6 94 U<|Bb ?_
 exact⟨_,rfl,by rw[hc],rfl⟩
theorem slicingUpdate_any{K:Known}{L:Frags}(crc poly tb pb po cap:Nat)(l:List UInt8)(hpoly:poly<4294967296)(hcrc:crc<4294967296){cs:List Value}(hm:⟨tb,0,cs⟩∈L)(hT:TabAt poly cs 256 1)
    (hr:Reads K L pb po (bytesV l))(hl:l.length≤9223372036854775807)(hcap:l.length≤cap):
    Fn Tryz.prog K 76 #[.int .u32 ((crc:Nat):Int),.pointer (some ⟨tb,0,none⟩),.slice (some ⟨pb,po,none⟩) (l.length) (cap)] L (fun v L'=>v=u32 (crcOn poly crc l)∧L'=L):=
  Fn.stillR fun w hw=>Fn.mono (slicingUpdate_spec crc poly tb pb po cap l hpoly hcrc (fun j k hj hk=>by
    have:=hw.cellAt hm (hT.cols j k hj hk)
    rwa [Nat.zero_add]at this) (hr.kb hw) hl hcap) fun v L' h=>h.1
abbrev IEEE:Nat:=3988292384
theorem UpdateIEEE_known{K:Known}(crc pb po cap:Nat)(l:List UInt8)(hcrc:crc<4294967296)(hp:KB K pb po l)(hl:l.length≤9223372036854775807)(hcap:l.length≤cap):Fn Tryz.prog K 55 #[.int .u32 ((crc:Nat):Int),.slice (some ⟨pb,po,none⟩) (l.length) (cap)] ([]) (fun v _=>v=u32 (crcOn IEEE crc l)):=by
 refine Fn.intro (args:=[.int .u32 ((crc:Nat):Int),.slice (some ⟨pb,po,none⟩) (l.length) (cap)]) (RR:=Ret1 4 _) Tryz.func55 rfl rfl Tryz.ntmps55 (res1 Tryz.results55) ?_
 refine Bi (env2:=[(0,.int .u32 ((crc:Nat):Int)),(1,.slice (some ⟨pb,po,none⟩) (l.length) (cap))]) U<|Cr<|Ea U U<|Ek3 0 1 4 U<|Cr<|Em U U ?_
 refine Ai (OpX.pick [] (F:=[]) U (Ar U Tryz.call77 (slicingMakeTable_spec IEEE (by decide)))) U ?_;rintro _ _⟨_,⟨tb,cs,rfl,rfl,hT⟩,rfl⟩;refine Er1 U ?_
 refine Em U U ?_
 refine Ai (Ar U Tryz.call76 (slicingUpdate_any crc IEEE tb pb po cap l (by decide) hcrc (List.mem_singleton.2 U) hT hp.reads hl hcap)) U ?_;rintro _ _⟨rfl,rfl⟩;refine Er1 U ?_
 refine Ea U U<|Ek1 4 U<|Bb ?_
 exact⟨_,rfl,rfl⟩
theorem Gy{K:Known}{L:Frags}(crc pb po cap:Nat)(l:List UInt8)(hcrc:crc<4294967296)(hr:Reads K L pb po (bytesV l))(hl:l.length≤9223372036854775807)(hcap:l.length≤cap):
    Fn Tryz.prog K 55 #[.int .u32 ((crc:Nat):Int),.slice (some ⟨pb,po,none⟩) (l.length) (cap)] L (fun v L'=>v=u32 (crcOn IEEE crc l)∧L'=L):=
  Fn.stillR fun w hw=>UpdateIEEE_known crc pb po cap l hcrc (hr.kb hw) hl hcap
theorem ChecksumIEEE_known{K:Known}(pb po cap:Nat)(l:List UInt8)(hp:KB K pb po l)(hl:l.length≤9223372036854775807)(hcap:l.length≤cap):Fn Tryz.prog K 71 #[.slice (some ⟨pb,po,none⟩) (l.length) (cap)] ([]) (fun v _=>v=u32 (crcOn IEEE 0 l)):=by
 refine Fn.intro (args:=[.slice (some ⟨pb,po,none⟩) (l.length) (cap)]) (RR:=Ret1 2 _) Tryz.func71 rfl rfl Tryz.ntmps71 (res1 Tryz.results71) ?_
 refine Bi (env2:=[(0,.slice (some ⟨pb,po,none⟩) (l.length) (cap))]) U<|Cr<|Ea U U<|Ek2 0 2 U<|Cr<|Em U U ?_
 refine Ai (Ar U Tryz.call55 (Gy 0 pb po cap l (by decide) hp.reads hl hcap)) U ?_;rintro _ _⟨rfl,rfl⟩;refine Ax (L2:=[]) U ?_
 refine Ea U U<|Ek1 2 U<|Bb ?_
 exact⟨_,rfl,rfl⟩
theorem ChecksumIEEE_spec{K:Known}{L:Frags}(pb po cap:Nat)(l:List UInt8)(hr:Reads K L pb po (bytesV l))(hl:l.length≤9223372036854775807)(hcap:l.length≤cap):
    Fn Tryz.prog K 71 #[.slice (some ⟨pb,po,none⟩) (l.length) (cap)] L (fun v L'=>v=u32 (crcOn IEEE 0 l)∧L'=L):=
  Fn.stillR fun w hw=>ChecksumIEEE_known pb po cap l (hr.kb hw) hl hcap
def noEof(e:Er):Er:=bif e.isSe 0 then .unexp else e
theorem noEof_eof{e:Er}(h:e=.se 0):noEof e=.unexp:=by rw[h];rfl
theorem noEof_other{e:Er}(h:e≠.se 0):noEof e=e:=by rw[noEof,Er.isSe_not.2 h];rfl
def le16(a b:Nat):Nat:=a|||((b<<<8)%65536)
theorem le16_val{a b:Nat}(ha:a<256)(hb:b<256):le16 a b=a+256*b:=by
  unfold le16
  rw[show(b<<<8)%65536=b<<<8 by rw[Nat.shiftLeft_eq];omega]
  have:=Nat.shiftLeft_add_eq_or_of_lt (b:=a) (i:=8) (by omega) b
  rw[Nat.or_comm,←this,Nat.shiftLeft_eq];omega
theorem le16_lt{a b:Nat}(ha:a<256)(hb:b<256):le16 a b<65536:=by rw[le16_val ha hb];omega
theorem Ey{K:Known}{L:Frags}{ea:Fin 5→Addr}(hs:Sents K ea)(e:Er):Fn Tryz.prog K 57 #[Er.val ea e] ([]) (fun r L=>r=Er.val ea (noEof e)∧L=[]):=by
 refine Fn.intro (args:=[Er.val ea e]) (RR:=Ret1 2 _) Tryz.func57 rfl rfl Tryz.ntmps57 (res1 Tryz.results57) ?_
 refine Bi (env2:=[(0,Er.val ea e)]) U<|Cr<|Aa (Az (v:=Er.val ea .none) U) U<|Ek2 0 2 U<|Am<|Cr<|Em U U<|Ag (Be U hs.g0 Ta58) U<|Ag (S.eqEr hs U U) U<|Ek3 0 2 5 U<|C.ifSe U (fun h5=>?_) (fun h5=>?_)
 ·refine Cr<|Ag (Be U hs.g3 Ta58) U<|Ea U U<|Ek3 0 2 5 U<|Bb ?_
  exact⟨_,rfl,by rw[noEof_eof h5],rfl⟩
 refine Ap<|Cr<|Em U U<|Ea U U<|Ek3 0 2 5 U<|Bb ?_
 exact⟨_,rfl,by rw[noEof_other h5],rfl⟩
theorem flate_noEOF{K:Known}{L:Frags}{ea:Fin 5→Addr}(hs:Sents K ea)(e:Er):Fn Tryz.prog K 94 #[Er.val ea e] ([]) (fun r L=>r=Er.val ea (noEof e)∧L=[]):=by
 refine Fn.intro (args:=[Er.val ea e]) (RR:=Ret1 2 _) Tryz.func94 rfl rfl Tryz.ntmps94 (res1 Tryz.results94) ?_
 refine Bi (env2:=[(0,Er.val ea e)]) U<|Cr<|Aa (Az (v:=Er.val ea .none) U) U<|Ek2 0 2 U<|Am<|Cr<|Em U U<|Ag (Be U hs.g0 Ta58) U<|Ag (S.eqEr hs U U) U<|Ek3 0 2 5 U<|C.ifSe U (fun h5=>?_) (fun h5=>?_)
 ·refine Cr<|Ag (Be U hs.g3 Ta58) U<|Ea U U<|Ek3 0 2 5 U<|Bb ?_
  exact⟨_,rfl,by rw[noEof_eof h5],rfl⟩
 refine Ap<|Cr<|Em U U<|Ea U U<|Ek3 0 2 5 U<|Bb ?_
 exact⟨_,rfl,by rw[noEof_other h5],rfl⟩
theorem le16_known{K:Known}(pb po n cap:Nat)(v0 v1:UInt8)(l:List UInt8)(hn:2≤n)(hp:KB K pb po (v0::v1::l)):Fn Tryz.prog K 72 #[.slice (some ⟨pb,po,none⟩) (n) (cap)] ([]) (fun v _=>v=.int .u16 ((le16 v0.toNat v1.toNat:Nat):Int)):=by
 refine Fn.intro (args:=[.slice (some ⟨pb,po,none⟩) (n) (cap)]) (RR:=Ret1 2 _) Tryz.func72 rfl rfl Tryz.ntmps72 (res1 Tryz.results72) ?_
 refine Bi (env2:=[(0,.slice (some ⟨pb,po,none⟩) (n) (cap))]) U<|Cr ?_
 have g0:cellAt K pb (po+0*1)=some (u8 v0):=hp.at (j:=0) (by simp only[List.length_cons];omega)
 have g1:cellAt K pb (po+1*1)=some (u8 v1):=hp.at (j:=1) (by simp only[List.length_cons];omega)
 have e0:=v0.toNat_lt
 have e1:=v1.toNat_lt
 refine Ea U U<|Ek2 0 2 U<|Cr<|Em U U<|Aa (Bm (i:=1) U U (by omega) Tu25 Tz5) U<|Ag (Be U (by assumption) Ta5) U<|Ek2 0 2 U<|Am<|Bt [0,1,2,4,0,16,32,64,128,264,1023] (.pure 0 496 (.pure 1 497 (.pure 4 15 (.pure 5 31 (.seg [(2,499),(3,503),(6,63),(7,127),(8,255),(9,511),(10,1023)] .done))))) mixed (by decide+kernel)<|Dm U U U<|Ah U (Bm (i:=0) U U (by omega) Tu25 Tz5) U<|Dm U U U ?_
 refine Ah U (Bm (i:=1) U U (by omega) Tu25 Tz5) U<|Dc (by decide)<|Au U (Be U (by assumption) Ta5) U<|Ba U (Bv U Tu5 Tu153 (N.in_u16 (by omega))) U<|Au U (Be U (by assumption) Ta5) U<|Ba U (Bv U Tu5 Tu153 (N.in_u16 (by omega))) U<|Ba U (Fy (b:=((8:Nat):Int)) U U (by omega) (N.shl_u16 _ _)) U<|Ba U (S.or U U (N.or_u16 (by omega) (by omega))) U<|Ba U (Az U) U<|Da<|Dk2 0 2 U<|Bb ?_
 exact⟨_,rfl,rfl⟩
theorem le32_known{K:Known}(pb po n cap:Nat)(v0 v1 v2 v3:UInt8)(l:List UInt8)(hn:4≤n)(hp:KB K pb po (v0::v1::v2::v3::l)):Fn Tryz.prog K 58 #[.slice (some ⟨pb,po,none⟩) (n) (cap)] ([]) (fun v _=>v=u32 (le32 v0.toNat v1.toNat v2.toNat v3.toNat)):=by
 refine Fn.intro (args:=[.slice (some ⟨pb,po,none⟩) (n) (cap)]) (RR:=Ret1 2 _) Tryz.func58 rfl rfl Tryz.ntmps58 (res1 Tryz.results58) ?_
 refine Bi (env2:=[(0,.slice (some ⟨pb,po,none⟩) (n) (cap))]) U<|Cr ?_
 have g0:cellAt K pb (po+0*1)=some (u8 v0):=hp.at (j:=0) (by simp only[List.length_cons];omega)
 have g1:cellAt K pb (po+1*1)=some (u8 v1):=hp.at (j:=1) (by simp only[List.length_cons];omega)
 have g2:cellAt K pb (po+2*1)=some (u8 v2):=hp.at (j:=2) (by simp only[List.length_cons];omega)
 have g3:cellAt K pb (po+3*1)=some (u8 v3):=hp.at (j:=3) (by simp only[List.length_cons];omega)
 have e0:=v0.toNat_lt
 have e1:=v1.toNat_lt
 have e2:=v2.toNat_lt
 have e3:=v3.toNat_lt
 have f1:=or_lt (a:=v0.toNat) (b:=v1.toNat<<<8%4294967296) (k:=32) (by omega) (by omega)
 have f2:=or_lt (b:=v2.toNat<<<16%4294967296) (k:=32) f1 (by omega)
 rw[show(2:Nat)^32=4294967296 from rfl]at f1 f2
 refine Ea U U<|Ek2 0 2 U<|Cr<|Em U U<|Aa (Bm (i:=3) U U (by omega) Tu25 Tz5) U<|Ag (Be U (by assumption) Ta5) U<|Ek2 0 2 U<|Am<|Bt [0,1,2,4,0,16,32,64,128,264,0,1024,2048,4096,8192,16896,0,65536,131072,262144,524288,1081344,4194303] (.pure 0 2063856 (.pure 1 2063857 (.pure 4 2063375 (.pure 5 2063391 (.pure 10 2032639 (.pure 11 2033663 (.pure 16 65535 (.pure 17 131071 (.seg [(2,2063859),(3,2063863),(6,2063423),(7,2063487),(8,2063615),(9,2063871),(12,2035711),(13,2039807),(14,2047999),(15,2064383),(18,262143),(19,524287),(20,1048575),(21,2097151),(22,4194303)] .done))))))))) mixed (by decide+kernel)<|Dm U U U<|Ah U (Bm (i:=0) U U (by omega) Tu25 Tz5) U<|Dm U U U ?_
 refine Ah U (Bm (i:=1) U U (by omega) Tu25 Tz5) U<|Dm U U U<|Ah U (Bm (i:=2) U U (by omega) Tu25 Tz5) U<|Dm U U U<|Ah U (Bm (i:=3) U U (by omega) Tu25 Tz5) U<|Dc (by decide)<|Au U (Be U (by assumption) Ta5) U<|Ba U (Bv U Tu5 Tu69 (N.in_u32 (by omega))) U<|Au U (Be U (by assumption) Ta5) U<|Ba U (Bv U Tu5 Tu69 (N.in_u32 (by omega))) U<|Ba U (Fy (b:=((8:Nat):Int)) U U (by omega) (N.shl_u32 _ _)) U<|Ba U (S.or U U (N.or_u32 (by omega) (by omega))) U ?_
 refine Au U (Be U (by assumption) Ta5) U<|Ba U (Bv U Tu5 Tu69 (N.in_u32 (by omega))) U<|Ba U (Fy (b:=((16:Nat):Int)) U U (by omega) (N.shl_u32 _ _)) U<|Ba U (S.or U U (N.or_u32 (by omega) (by omega))) U<|Au U (Be U (by assumption) Ta5) U<|Ba U (Bv U Tu5 Tu69 (N.in_u32 (by omega))) U<|Ba U (Fy (b:=((24:Nat):Int)) U U (by omega) (N.shl_u32 _ _)) U<|Ba U (S.or U U (N.or_u32 (by omega) (by omega))) U<|Ba U (Az U) U<|Da<|Dk2 0 2 U<|Bb ?_
 exact⟨_,rfl,rfl⟩
theorem le16_spec{K:Known}{L:Frags}(pb po n cap:Nat)(v0 v1:UInt8)(l:List UInt8)(hn:2≤n)(hr:Reads K L pb po (bytesV (v0::v1::l))):
    Fn Tryz.prog K 72 #[.slice (some ⟨pb,po,none⟩) (n) (cap)] L (fun v L'=>v=.int .u16 ((le16 v0.toNat v1.toNat:Nat):Int)∧L'=L):=
  Fn.stillR fun w hw=>le16_known pb po n cap v0 v1 l hn (hr.kb hw)
theorem le32_spec{K:Known}{L:Frags}(pb po n cap:Nat)(v0 v1 v2 v3:UInt8)(l:List UInt8)(hn:4≤n)(hr:Reads K L pb po (bytesV (v0::v1::v2::v3::l))):
    Fn Tryz.prog K 58 #[.slice (some ⟨pb,po,none⟩) (n) (cap)] L (fun v L'=>v=u32 (le32 v0.toNat v1.toNat v2.toNat v3.toNat)∧L'=L):=
  Fn.stillR fun w hw=>le32_known pb po n cap v0 v1 v2 v3 l hn (hr.kb hw)
theorem unixTime_spec{K:Known}(t:Nat)(ht:t≤4611686018427387904):Fn Tryz.prog K 80 #[.int .i64 ((t:Nat):Int),.int .i32 0] ([]) (fun r L=>∃g,r=.agg #[.int .u64 0,.int .i64 ((t+62135596800:Nat):Int)]∧L=[g]):=by
 refine Fn.intro (args:=[.int .i64 ((t:Nat):Int),.int .i32 0]) (RR:=RetC 4 2 _) Tryz.func80 rfl rfl Tryz.ntmps80 (resC Tryz.results80 Ta90 Tz90) ?_
 refine Bi (env2:=[(0,.int .i64 ((t:Nat):Int)),(1,.int .i32 0)]) U<|Cr ?_
 refine Ai (Dq Tryz.zeroValue90) U ?_;rintro _ _⟨b4,rfl,rfl⟩;refine Er1 U ?_
 refine Ek3 0 1 4 U<|Cr<|Em U U<|Aa (Bv (r:=0) U Tryz.underlying21 Tryz.underlying88 (by decide)) U<|Em U U<|Aa (Bl (b:=((62135596800:Nat):Int)) U U (N.add64 (by omega))) U<|Aa (Et (v:=.agg #[.int .u64 0,.int .i64 ((t+62135596800:Nat):Int)]) [(0,.int .u64 0),(1,.int .i64 ((t+62135596800:Nat):Int))] U (fun w=>by simp[Instr.build,Instr.fill,Value.cells,Tryz.zeroValue90])) U ?_
 refine Ao (Bq 0 (k:=0) U U U U U U Tz90 U) ?_;rintro _ _⟨rfl,rfl⟩;refine Er1 U ?_
 refine Ek1 4 U<|Bb ?_
 exact⟨_,⟨_,_,0,rfl,rfl,rfl⟩,_,rfl,rfl⟩
theorem unix_spec{K:Known}(t:Nat)(ht:t≤4611686018427387904):Fn Tryz.prog K 70 #[.int .i64 ((t:Nat):Int),.int .i64 0] ([]) (fun r L=>∃g1 g2,r=.agg #[.int .u64 0,.int .i64 ((t+62135596800:Nat):Int)]∧L=[g1,g2]):=by
 refine Fn.intro (args:=[.int .i64 ((t:Nat):Int),.int .i64 0]) (RR:=RetC 4 2 _) Tryz.func70 rfl rfl Tryz.ntmps70 (resC Tryz.results70 Ta90 Tz90) ?_
 refine Bi (env2:=[(0,.int .i64 ((t:Nat):Int)),(1,.int .i64 0)]) U<|Cr ?_
 refine Ai (Dq Tryz.zeroValue90) U ?_;rintro _ _⟨b4,rfl,rfl⟩;refine Er1 U ?_
 refine Ek3 0 1 4 U<|Am<|Cr<|Em U U<|Aa (Dl (b:=((0:Nat):Int)) U U) U<|An (v:=.bool false) (congrArg Value.bool (by decide))<|Em U U<|Ak 8 U U<|Em U U<|Ak 8 U U<|Aa (S.ge (b:=((1000000000:Nat):Int)) U U) U<|An (v:=.bool false) (congrArg Value.bool (by decide)) ?_
 refine Aa (Bk U U) U<|Ek4 0 1 4 11 U<|C.no U (rfl)<|Ap<|Cr<|Em U U<|Em U U<|Aa (Bv (r:=0) U Tu2 Tryz.underlying21 (by decide)) U ?_
 refine Ai (OpX.pick [] (F:=[_]) U (Ar U Tryz.call80 (unixTime_spec t ht))) U ?_;rintro _ _⟨_,⟨g2,rfl,rfl⟩,rfl⟩;refine Er2 U ?_
 refine Ao (Bq 1 (k:=0) U U U U U U Tz90 U) ?_;rintro _ _⟨rfl,rfl⟩;refine Er2 U ?_
 refine Ek4 0 1 4 11 U<|Bb ?_
 exact⟨_,⟨_,_,1,rfl,rfl,rfl⟩,_,_,rfl,rfl⟩
theorem isZero_spec{K:Known}(s:Nat):Fn Tryz.prog K 53 #[.agg #[.int .u64 0,.int .i64 (s:Int)]] ([]) (fun r L=>∃g,r=.bool (decide (s=0))∧L=[g]):=by
 refine Fn.intro (args:=[.agg #[.int .u64 0,.int .i64 (s:Int)]]) (RR:=Ret1 2 _) Tryz.func53 rfl rfl Tryz.ntmps53 (res1 Tryz.results53) ?_
 refine Bi (env2:=[(0,.agg #[.int .u64 0,.int .i64 (s:Int)])]) U<|Cr ?_
 refine Ai (X.box U) U ?_;rintro _ _⟨b1,rfl,rfl⟩;refine Er1 U ?_
 refine Ea U U<|Ek2 1 2 U<|Cr<|Aa (Ab U fa90_0) U<|Ag (Aj 0 (k:=0) U U U Tryz.isAgg88) U<|Aa (Ef (b:=((0:Nat):Int)) U U) U<|An (v:=.bool true) (congrArg Value.bool (by decide))<|Em U U<|Ak 6 U U<|Aa (Ab U fa90_1) U<|Ak 6 U U<|Ag (Aj 0 (k:=1) U U U Ta2) U ?_
 refine Ak 6 U U<|Aa (Ef (b:=((0:Nat):Int)) U U) U<|Aa (Bz U U) U<|Ea U U<|Ek2 1 2 U<|Bb ?_
 exact⟨_,rfl,_,congrArg Value.bool (decide_eq_decide.2 (by constructor<;>intro h<;>omega)),rfl⟩
theorem timeSec_spec{K:Known}(b s:Nat):Fn Tryz.prog K 84 #[.pointer (some ⟨b,0,none⟩)] ([⟨b,0,[.int .u64 0,.int .i64 (s:Int)]⟩]) (fun r L=>r=.int .i64 (s:Int)∧L=[⟨b,0,[.int .u64 0,.int .i64 (s:Int)]⟩]):=by
 refine Fn.intro (args:=[.pointer (some ⟨b,0,none⟩)]) (RR:=Ret1 2 _) Tryz.func84 rfl rfl Tryz.ntmps84 (res1 Tryz.results84) ?_
 refine Bi (env2:=[(0,.pointer (some ⟨b,0,none⟩))]) U<|Cr<|Ea U U<|Ek2 0 2 U<|Am<|Cr<|Em U U<|Aa (Ad U) U<|Aa (Ab U fa90_0) U<|Ag (Aj 0 (k:=0) U U U Tryz.isAgg88) U<|Aa (Fa (r:=0) U U (by decide)) U<|Aa (S.ne (b:=((0:Nat):Int)) U U) U ?_
 refine An (v:=.bool false) (congrArg Value.bool (by decide))<|Ek3 0 2 8 U<|C.no U (rfl)<|Ap<|Cr<|Em U U<|Aa (Ad U) U<|Aa (Ab U fa90_1) U<|Ag (Aj 0 (k:=1) U U U Ta2) U<|Ea U U<|Ek3 0 2 8 U<|Bb ?_
 exact⟨_,rfl,rfl,rfl⟩
theorem unixSec_spec{K:Known}(b t:Nat)(ht:t≤4611686018427387904):Fn Tryz.prog K 75 #[.pointer (some ⟨b,0,none⟩)] ([⟨b,0,[.int .u64 0,.int .i64 ((t+62135596800:Nat):Int)]⟩]) (fun r L=>r=.int .i64 (t:Int)∧L=[⟨b,0,[.int .u64 0,.int .i64 ((t+62135596800:Nat):Int)]⟩]):=by
 refine Fn.intro (args:=[.pointer (some ⟨b,0,none⟩)]) (RR:=Ret1 2 _) Tryz.func75 rfl rfl Tryz.ntmps75 (res1 Tryz.results75) ?_
 refine Bi (env2:=[(0,.pointer (some ⟨b,0,none⟩))]) U<|Cr<|Ea U U<|Ek2 0 2 U<|Cr<|Em U U ?_
 refine Ai (OpX.pick [0] (F:=[]) U (Ar U Tryz.call84 (timeSec_spec b (t+62135596800)))) U ?_;rintro _ _⟨_,⟨rfl,rfl⟩,rfl⟩;refine Er1 U ?_
 refine Aa (Bl (r:=(t:Int)) U U (by rw[N.addZ (by omega)];omega)) U ?_
 refine Ea U U<|Ek1 2 U<|Bb ?_
 exact⟨_,rfl,rfl,rfl⟩
theorem timeUnix_spec{K:Known}(t:Nat)(ht:t≤4611686018427387904):Fn Tryz.prog K 54 #[.agg #[.int .u64 0,.int .i64 ((t+62135596800:Nat):Int)]] ([]) (fun r L=>∃g,r=.int .i64 (t:Int)∧L=[g]):=by
 refine Fn.intro (args:=[.agg #[.int .u64 0,.int .i64 ((t+62135596800:Nat):Int)]]) (RR:=Ret1 2 _) Tryz.func54 rfl rfl Tryz.ntmps54 (res1 Tryz.results54) ?_
 refine Bi (env2:=[(0,.agg #[.int .u64 0,.int .i64 ((t+62135596800:Nat):Int)])]) U<|Cr ?_
 refine Ai (X.box U) U ?_;rintro _ _⟨b1,rfl,rfl⟩;refine Er1 U ?_
 refine Ea U U<|Ek2 1 2 U<|Cr ?_
 refine Ai (OpX.pick [0] (F:=[]) U (Ar U Tryz.call75 (unixSec_spec b1 t ht))) U ?_;rintro _ _⟨_,⟨rfl,rfl⟩,rfl⟩;refine Er1 U ?_
 refine Ea U U<|Ek2 1 2 U<|Bb ?_
 exact⟨_,rfl,_,rfl,rfl⟩
theorem zcBits:(Value.agg Tryz.zeroCells188).cells.toList=List.replicate 316 (.int .i64 0):=by kernel_rfl
theorem zcDec:(Value.agg Tryz.zeroCells186).cells.toList=([[.nilIface,.pointer none,.int .i64 0,.int .u32 0,.int .u64 0],[.int .i64 0],List.replicate 512 (.int .u32 0),[.slice none 0 0,.int .u32 0],[.int .i64 0],List.replicate 512 (.int .u32 0),[.slice none 0 0,.int .u32 0],
  [.pointer none,.pointer none],[.slice none 0 0,.int .i64 0,.int .i64 0,.bool false],[.int .u8 0,.int .u8 0,.int .u8 0,.int .u8 0],[.nilFunc,.int .i64 0,.bool false,.nilIface,.slice none 0 0,.pointer none,.pointer none,.int .i64 0,.int .i64 0]]:List (List Value)).flatten:=by kernel_rfl
def decParts(b:Nat)(p0 p1 p2 p3 p4 p5 p6 p7 p8 p9 p10:List Value):Frags:=[⟨b,0,p0⟩,⟨b,5,p1⟩,⟨b,6,p2⟩,⟨b,518,p3⟩,⟨b,520,p4⟩,⟨b,521,p5⟩,⟨b,1033,p6⟩,⟨b,1035,p7⟩,⟨b,1037,p8⟩,⟨b,1041,p9⟩,⟨b,1045,p10⟩]
theorem decSame(b:Nat)(F:Frags)(p0 p1 p2 p3 p4 p5 p6 p7 p8 p9 p10:List Value)(h0:p0.length=5)(h1:p1.length=1)(h2:p2.length=512)(h3:p3.length=2)(h4:p4.length=1)(h5:p5.length=512)(h6:p6.length=2)(h7:p7.length=2)
    (h8:p8.length=4)(h9:p9.length=4):Same (⟨b,0,[p0,p1,p2,p3,p4,p5,p6,p7,p8,p9,p10].flatten⟩::F) (decParts b p0 p1 p2 p3 p4 p5 p6 p7 p8 p9 p10++F):=
  Same.chunks b F [(0,p0),(5,p1),(6,p2),(518,p3),(520,p4),(521,p5),(1033,p6),(1035,p7),(1037,p8),(1041,p9),(1045,p10)] 0 (by simp[Gw,h0,h1,h2,h3,h4,h5,h6,h7,h8,h9])
theorem makeReader_spec{K:Known}{ea:Fin 5→Addr}(src:Src K ea)(fb:Nat)(c0 c1 c2 c3 c4:Value):Fn Tryz.prog K 81 #[.pointer (some ⟨fb,0,none⟩),.iface src.t src.v] ([⟨fb,0,[c0,c1,c2,c3,c4]⟩]) (fun r L=>r=.tuple #[]∧L=[⟨fb,0,[.iface src.t src.v,.pointer none,c2,c3,c4]⟩]):=by
 refine Fn.intro (args:=[.pointer (some ⟨fb,0,none⟩),.iface src.t src.v]) (RR:=Ret0 _) Tryz.func81 rfl rfl Tryz.ntmps81 (res0 Tryz.results81) ?_
 refine Bi (env2:=[(0,.pointer (some ⟨fb,0,none⟩)),(1,.iface src.t src.v)]) U<|Am<|Cr<|Em U U<|Aa (S.assertHas U Tu94 (src.both _ Tu94)) U<|Em U U<|Aa (Bg U U) U<|Aa (Bg U U) U<|Ea U U<|Ea U U<|Ek4 0 1 4 5 U<|Cr ?_
 refine Em U U<|Ek5 0 1 4 5 11 U<|He U (rfl)<|Cr<|Em U U<|Aa (Ad U) U<|Aa (Ab U fa186_1) U ?_
 refine Ao (Aq 0 (k:=1) U U U U U Tryz.sizeOf132) ?_;rintro _ _⟨rfl,rfl⟩;refine Er1 U ?_
 refine Ek5 0 1 4 5 11 U<|Cr<|Em U U<|Em U U<|Aa (Ad U) U<|Aa (Ab U fa186_0) U ?_
 refine Ao (Aq 0 (k:=0) U U U U U Tryz.sizeOf94) ?_;rintro _ _⟨rfl,rfl⟩;refine Er1 U ?_
 refine Ek5 0 1 4 5 11 U<|Bb ?_
 exact⟨rfl,rfl⟩
theorem dictInit_new{K:Known}(fb o:Nat)(c1 c2 c3:Value):Fn Tryz.prog K 83 #[.pointer (some ⟨fb,o,none⟩),.int .i64 ((32768:Nat):Int),.slice none 0 0] ([⟨fb,o,[.slice none 0 0,c1,c2,c3]⟩]) (fun r L=>∃hb,r=.tuple #[]∧L=[⟨hb,0,List.replicate 32768 (.int .u8 0)⟩,⟨fb,o,[.slice (some ⟨hb,0,none⟩) 32768 32768,.int .i64 0,.int .i64 0,.bool false]⟩]):=by
 refine Fn.intro (args:=[.pointer (some ⟨fb,o,none⟩),.int .i64 ((32768:Nat):Int),.slice none 0 0]) (RR:=Ret0 _) Tryz.func83 rfl rfl Tryz.ntmps83 (res0 Tryz.results83) ?_
 refine Bi (env2:=[(0,.pointer (some ⟨fb,o,none⟩)),(1,.int .i64 ((32768:Nat):Int)),(2,.slice none 0 0)]) U<|Cr<|Em U U<|Em U U<|Aa (Ad U) U<|Aa (Ab U Eb) U<|Ag (Aj 0 (k:=0) U U U Ta25) U<|Aa (Et (v:=.agg #[.slice none 0 0,.int .i64 0,.int .i64 0,.bool false]) [(0,.slice none 0 0)] U (fun w=>by simp[Instr.build,Instr.fill,Value.cells,Tryz.zeroValue181])) U<|Aa (Ad U) U ?_
 refine Ao (Bq 0 (k:=0) U U U U U U Tryz.sizeOf181 U) ?_;rintro _ _⟨rfl,rfl⟩;refine Er1 U ?_
 refine Ek3 0 1 2 U<|Am<|Cr<|Em U U<|Aa (Ad U) U<|Aa (Ab U Eb) U<|Ag (Aj 0 (k:=0) U U U Ta25) U<|Aa (S.capSl U Tu25) U<|Em U U<|Aa (Dl U U) U<|An (v:=.bool true) (congrArg Value.bool (by decide))<|Ek4 0 1 2 19 U ?_
 refine He U (rfl)<|Al<|Em U U<|Em U U ?_
 refine Ai (Hx (l:=32768) (c:=32768) (bytes:=1) Tu25 infoB (z:=.int .u8 0) U U U U U U (Nat.le_refl _) (by decide) (by decide)) U ?_;rintro _ _⟨hb,rfl,rfl⟩;refine Er2 U ?_
 refine Aa (Ad U) U<|Aa (Ab U Eb) U ?_
 refine Ao (Aq 1 (k:=0) U U U U U Tz25) ?_;rintro _ _⟨rfl,rfl⟩;refine Er2 U ?_
 refine Ek4 0 1 2 19 U<|Cr<|Em U U<|Em U U<|Aa (Ad U) U<|Aa (Ab U Eb) U<|Ag (Aj 1 (k:=0) U U U Ta25) U<|Em U U<|Aa (S.slH U U (by omega) Tu25 Tz5) U<|Aa (Ad U) U<|Aa (Ab U Eb) U ?_
 refine Ao (Aq 1 (k:=0) U U U U U Tz25) ?_;rintro _ _⟨rfl,rfl⟩;refine Er2 U ?_
 refine Ek4 0 1 2 19 U<|Am<|Cr<|Em U U<|Aa (Bc U Tu25) U<|Em U U<|Aa (Ad U) U<|Aa (Ab U Eb) U<|Ag (Aj 1 (k:=0) U U U Ta25) U<|Aa (Bc U Tu25) U<|Aa (Fh U U) U<|An (v:=.bool false) (congrArg Value.bool (by decide)) ?_
 refine Ek5 0 1 2 19 41 U<|C.no U (rfl)<|Ap<|Cr<|Em U U<|Em U U<|Aa (Ad U) U<|Aa (Ab U Eb) U<|Ag (Aj 1 (k:=0) U U U Ta25) U<|Em U U ?_
 refine Ai (X.copyB 0 (l:=[]) U U U U (.inl U) (by rw[List.length_replicate];exact Nat.le_refl _)) U ?_;rintro _ _⟨rfl,rfl⟩;refine Er2 U ?_
 refine Aa (Ad U) U<|Aa (Ab U Ez) U ?_
 refine Ao (Aq 1 (k:=1) U U U U U Tz3) ?_;rintro _ _⟨rfl,rfl⟩;refine Er2 U ?_
 refine Ek5 0 1 2 19 41 U<|Am<|Am<|Bt [0,1,2,4,0,16,32,64,128,264] (.pure 0 496 (.pure 1 497 (.pure 2 499 (.pure 4 15 (.pure 5 31 (.pure 6 63 (.seg [(3,503),(7,127),(8,255),(9,511)] .done))))))) mixed (by decide+kernel)<|Dm U U U<|Ah U (Ad U) U<|Ah U (Ab U Ez) U<|Dm U U U<|Ah U (Ad U) U<|Ah U (Ab U Eb) U<|Dc (by decide)<|Au U (Aj 1 (k:=1) U U U Ta3) U ?_
 refine Au U (Aj 1 (k:=0) U U U Ta25) U<|Ba U (Bc U Tu25) U<|Ba U (Ef U U) U<|Dy (v:=.bool false) (congrArg Value.bool (by decide))<|Da<|Dk6 0 1 2 19 41 70 U<|C.no U (rfl)<|Ap<|Al<|Em U U<|Em U U<|Aa (Ad U) U ?_
 refine Aa (Ab U Ez) U<|Ag (Aj 1 (k:=1) U U U Ta3) U<|Aa (Ad U) U<|Aa (Ab U fa181_2) U ?_
 refine Ao (Aq 1 (k:=2) U U U U U Tz3) ?_;rintro _ _⟨rfl,rfl⟩;refine Er2 U ?_
 refine Ek6 0 1 2 19 41 70 U ?_
 exact⟨hb,rfl,rfl⟩
def newDec{K:Known}{ea:Fin 5→Addr}(src:Src K ea)(fb ab cb hb:Nat):Frags:=
  decParts fb [.iface src.t src.v,.pointer none,.int .i64 0,.int .u32 0,.int .u64 0] [.int .i64 0] (List.replicate 512 (.int .u32 0)) [.slice none 0 0,.int .u32 0] [.int .i64 0] (List.replicate 512 (.int .u32 0)) [.slice none 0 0,.int .u32 0]
    [.pointer (some ⟨ab,0,none⟩),.pointer (some ⟨cb,0,none⟩)] [.slice (some ⟨hb,0,none⟩) 32768 32768,.int .i64 0,.int .i64 0,.bool false] [.int .u8 0,.int .u8 0,.int .u8 0,.int .u8 0] [.func (.func 82) #[] #[],.int .i64 0,.bool false,.nilIface,.slice none 0 0,.pointer none,.pointer none,.int .i64 0,.int .i64 0]++
  [⟨ab,0,List.replicate 316 (.int .i64 0)⟩,⟨cb,0,List.replicate 19 (.int .i64 0)⟩,⟨hb,0,List.replicate 32768 (.int .u8 0)⟩]
theorem flateNewReader_spec{K:Known}{ea:Fin 5→Addr}(src:Src K ea):Fn Tryz.prog K 74 #[.iface src.t src.v] ([]) (fun r L=>∃fb ab cb hb,r=.iface 190 (.pointer (some ⟨fb,0,none⟩))∧Same L (newDec src fb ab cb hb)):=by
 refine Fn.intro (args:=[.iface src.t src.v]) (RR:=Ret1 2 _) Tryz.func74 rfl rfl Tryz.ntmps74 (res1 Tryz.results74) ?_
 refine Bi (env2:=[(0,.iface src.t src.v)]) U<|Cr<|Ea U U<|Ek2 0 2 U<|Cr ?_
 refine Ai (Dq Tryz.zeroValue186) U ?_;rintro _ _⟨b3,rfl,rfl⟩;refine Er1 U ?_
 refine Ax (congrArg (fun x=>[(⟨b3,0,x⟩:Frag)]) zcDec)<|Ev (decSame b3 [] _ _ _ _ _ _ _ _ _ _ _ U U List.length_replicate U U List.length_replicate U U U U)<|Ax (L2:=[⟨b3,0,_⟩,⟨b3,5,_⟩,⟨b3,6,_⟩,⟨b3,518,_⟩,⟨b3,520,_⟩,⟨b3,521,_⟩,⟨b3,1033,_⟩,⟨b3,1035,_⟩,⟨b3,1037,_⟩,⟨b3,1041,_⟩,⟨b3,1045,_⟩]) U<|Ek3 0 2 3 U<|Cr<|Em U U ?_
 refine Ai (OpX.pick [0] (F:=[_,_,_,_,_,_,_,_,_,_]) U (Ar U Tryz.call81 (makeReader_spec src b3 _ _ _ _ _))) U ?_;rintro _ _⟨_,⟨rfl,rfl⟩,rfl⟩;refine Er11 U ?_
 refine Ek2 2 3 U<|Cr ?_
 refine Ai (Dq Tryz.zeroValue188) U ?_;rintro _ _⟨b6,rfl,rfl⟩;refine Er12 U ?_
 refine Ax (L2:=[⟨b6,0,List.replicate 316 (.int .i64 0)⟩,⟨b3,0,_⟩,⟨b3,5,_⟩,⟨b3,6,_⟩,⟨b3,518,_⟩,⟨b3,520,_⟩,⟨b3,521,_⟩,⟨b3,1033,_⟩,⟨b3,1035,_⟩,⟨b3,1037,_⟩,⟨b3,1041,_⟩,⟨b3,1045,_⟩]) (by rw[zcBits])<|Aa (Ab U fa186_7) U ?_
 refine Ao (Aq 8 (k:=0) U U U U U Tryz.sizeOf178) ?_;rintro _ _⟨rfl,rfl⟩;refine Er12 U ?_
 refine Ek2 2 3 U<|Cr ?_
 refine Ai (Dq Tryz.zeroValue189) U ?_;rintro _ _⟨b8,rfl,rfl⟩;refine Er13 U ?_
 refine Aa (Ab U fa186_8) U ?_
 refine Ao (Aq 9 (k:=1) U U U U U Tryz.sizeOf179) ?_;rintro _ _⟨rfl,rfl⟩;refine Er13 U ?_
 refine Ek2 2 3 U<|Cr<|Aa (Ab U Jb) U ?_
 refine Ao (Aq 12 (k:=0) U U U U U Tz183) ?_;rintro _ _⟨rfl,rfl⟩;refine Er13 U ?_
 refine Ek2 2 3 U<|Cr<|Aa (Ab U Fe) U ?_
 refine Ai (OpX.pick [10] (F:=[_,_,_,_,_,_,_,_,_,_,_,_]) U (Ar U Tryz.call83 (dictInit_new b3 1037 _ _ _))) U ?_;rintro _ _⟨_,⟨hb,rfl,rfl⟩,rfl⟩;refine Er14 U ?_
 refine Ek2 2 3 U<|Cr<|Aa (Eo U conc190) U<|Ea U U<|Ek2 2 3 U<|Bb ?_
 exact⟨_,rfl,b3,b6,b8,hb,rfl,(Same.perm (Br (A:=newDec src b3 b6 b8 hb) (F:=[]) (is:=[4,4,4,4,4,4,4,4,1,3,3,2,1,0]) U)).trans (Same.of_eq (List.append_nil _))⟩
theorem flateNew_spec{K:Known}{ea:Fin 5→Addr}(src:Src K ea):Fn Tryz.prog K 74 #[.iface src.t src.v] [] (fun r L=>∃fb ab cb hb,r=.iface 190 (.pointer (some ⟨fb,0,none⟩))∧L=newDec src fb ab cb hb):=
  Fn.sameR (flateNewReader_spec src) fun v L' h=>by
    obtain⟨fb,ab,cb,hb,h1,h2⟩:=h
    exact⟨_,h2,fb,ab,cb,hb,h1,rfl⟩
section
variable {P:Program}{K:Known}{n:Nat}{env:Env}{L:Frags}
theorem Fq{ops:Array Oper}{dst:Option Nat}{op:Op}{ty:TypeId}{pos:String}{af:Array Edge}{j:Nat}{b:Bool}{rest:List Oper}{N:Post}
    (t:Nat)(ht:(ops[j]?).bind (·.dst)=some t)(hv:get? env t=some undef)(hd:dstOk dst n=true)(k:wpE P K n ops rest (ext dst undef env) L N):
    wpE P K n ops (⟨dst,op,ty,pos,af,some (j,b)⟩::rest) env L N:=by
  intro a w hf hw Q hq
  have hy:yielded ops a.tmps j=none:=by
    have:=hf.val t _ hv
    unfold yielded
    rw[ht]
    simp only[Option.bind_some]
    rw[Array.getD_eq_getD_getElem?]at this
    cases hx:a.tmps[t]? with
    |none=>rfl
    |some x=>rw[hx]at this;simp only[Option.getD_some]at this;subst this;rfl
  have hne:((none:Option Bool)==some b)=false:=by cases b<;>rfl
  simp only[wpList,Region.wanted,hy,hne,Bool.false_eq_true,if_false]
  exact k _ w (hf.ext hd undef) hw Q hq
end
def rev8tab:ByteArray:=⟨#[0,128,64,192,32,160,96,224,16,144,80,208,48,176,112,240,8,136,72,200,40,168,104,232,24,152,88,216,56,184,120,248,4,132,68,196,36,164,100,228,20,148,84,212,52,180,116,244,12,140,76,204,44,172,108,236,28,156,92,220,60,188,124,252,2,130,66,194,34,162,98,226,18,146,82,210,50,178,114,242,10,138,74,202,42,170,106,234,26,154,90,218,58,186,122,250,6,134,70,198,38,166,102,230,22,150,86,214,54,182,118,246,14,142,78,206,46,174,110,238,30,158,94,222,62,190,126,254,1,129,65,193,33,161,97,225,17,145,81,209,49,177,113,241,9,137,73,201,41,169,105,233,25,153,89,217,57,185,121,249,5,133,69,197,37,165,101,229,21,149,85,213,53,181,117,245,13,141,77,205,45,173,109,237,29,157,93,221,61,189,125,253,3,131,67,195,35,163,99,227,19,147,83,211,51,179,115,243,11,139,75,203,43,171,107,235,27,155,91,219,59,187,123,251,7,135,71,199,39,167,103,231,23,151,87,215,55,183,119,247,15,143,79,207,47,175,111,239,31,159,95,223,63,191,127,255]⟩
theorem rev8_all:∀i:Fin 256,rev8tab[i.val]? =some (UInt8.ofNat (revB 8 i.val)):=by decide+kernel
theorem rev8_get{i:Nat}(h:i<256):rev8tab[i]? =some (UInt8.ofNat (revB 8 i)):=rev8_all ⟨i,h⟩
theorem rev8_val(i:Nat):(UInt8.ofNat (revB 8 i)).toNat=revB 8 i:=by
  have:=Eh 8 i
  rw[UInt8.toNat_ofNat'];exact Nat.mod_eq_of_lt this
theorem rev16_or(x:Nat)(hx:x<65536):revB 8 (x>>>8)|||(revB 8 (x&&&255)<<<8)%65536=revB 16 x:=by
  have h1:=Eh 8 (x>>>8)
  have h2:=Eh 8 (x&&&255)
  have h3:(revB 8 (x&&&255)<<<8)%65536=revB 8 (x&&&255)<<<8:=by rw[Nat.shiftLeft_eq];omega
  rw[h3,Nat.or_comm,←Nat.shiftLeft_add_eq_or_of_lt h1,Nat.shiftLeft_eq,revB16,Nat.shiftRight_eq_div_pow,show x&&&255=x%256 from Nat.and_two_pow_sub_one_eq_mod x 8]
def cellsU(n:Nat)(f:Nat→Nat):List Value:=(List.range n).map fun o=>Value.int .u32 ((f o:Nat):Int)
def cellsI(n:Nat)(f:Nat→Nat):List Value:=(List.range n).map fun o=>Value.int .i64 ((f o:Nat):Int)
theorem Es(n:Nat)(f:Nat→Nat):(cellsU n f).length=n:=by simp[cellsU]
theorem Dk(n:Nat)(f:Nat→Nat):(cellsI n f).length=n:=by simp[cellsI]
theorem cellsU_get{n k:Nat}{f:Nat→Nat}(h:k<n):(cellsU n f)[k*1]? =some (.int .u32 ((f k:Nat):Int)):=by rw[Nat.mul_one,cellsU,List.getElem?_map,List.getElem?_range h];rfl
theorem Ec{n k:Nat}{f:Nat→Nat}(h:k<n):(cellsI n f)[k*1]? =some (.int .i64 ((f k:Nat):Int)):=by rw[Nat.mul_one,cellsI,List.getElem?_map,List.getElem?_range h];rfl
theorem map_set{n k:Nat}{F G:Nat→Value}{v:Value}(hk:G k=v)(hn:∀o,o<n→o≠k→G o=F o):((List.range n).map F).set (k*1) v=(List.range n).map G:=by
  rw[Nat.mul_one]
  apply List.ext_getElem?
  intro i
  rw[List.getElem?_set,List.getElem?_map,List.getElem?_map]
  by_cases hi:i<n
  · rw[List.getElem?_range hi]
    by_cases hik:k=i
    · subst hik
      rw[if_pos rfl,if_pos (by simpa using hi),←hk];rfl
    · rw[if_neg hik]
      simp only[Option.map_some]
      rw[hn i hi (fun e=>hik e.symm)]
  · rw[List.getElem?_eq_none (by simpa using hi)]
    simp only[Option.map_none]
    split
    · rw[if_neg (by rw[List.length_map,List.length_range];omega)]
    · rfl
theorem cellsU_set{n k v:Nat}{f g:Nat→Nat}(hk:g k=v)(hn:∀o,o<n→o≠k→g o=f o):(cellsU n f).set (k*1) (.int .u32 ((v:Nat):Int))=cellsU n g:=
  map_set (by rw[hk]) fun o h1 h2=>by rw[hn o h1 h2]
theorem Hj{n k v:Nat}{f g:Nat→Nat}(hk:g k=v)(hn:∀o,o<n→o≠k→g o=f o):(cellsI n f).set (k*1) (.int .i64 ((v:Nat):Int))=cellsI n g:=
  map_set (by rw[hk]) fun o h1 h2=>by rw[hn o h1 h2]
theorem Ht{n:Nat}{f g:Nat→Nat}(h:∀o,o<n→f o=g o):cellsI n f=cellsI n g:=by
  unfold cellsI
  exact List.map_congr_left fun o ho=>by rw[h o (List.mem_range.1 ho)]
theorem cellsU_congr{n:Nat}{f g:Nat→Nat}(h:∀o,o<n→f o=g o):cellsU n f=cellsU n g:=by
  unfold cellsU
  exact List.map_congr_left fun o ho=>by rw[h o (List.mem_range.1 ho)]
def intsV(l:List Nat):List Value:=l.map fun n=>Value.int .i64 ((n:Nat):Int)
theorem Db(l:List Nat):(intsV l).length=l.length:=by simp[intsV]
theorem Ej{l:List Nat}{vs:List Value}{i:Nat}(h:i<l.length):(intsV l++vs)[i*1]? =some (.int .i64 ((l[i]:Nat):Int)):=by
  rw[Nat.mul_one,List.getElem?_append_left (by rw[Db];exact h),intsV,List.getElem?_map,List.getElem?_eq_getElem h];rfl
theorem and15(x:Nat):x&&&15=x%16:=Nat.and_two_pow_sub_one_eq_mod x 4
theorem and511(x:Nat):x&&&511=x%512:=Nat.and_two_pow_sub_one_eq_mod x 9
theorem reverse8_spec{K:Known}(x:Nat)(hx:x<256):Fn Tryz.prog K 102 #[.int .u8 ((x:Nat):Int)] ([]) (fun r L=>r=.int .u8 ((revB 8 x:Nat):Int)∧L=[]):=by
 refine Fn.intro (args:=[.int .u8 ((x:Nat):Int)]) (RR:=Ret1 2 _) Tryz.func102 rfl rfl Tryz.ntmps102 (res1 Tryz.results102) ?_
 refine Bi (env2:=[(0,.int .u8 ((x:Nat):Int))]) U<|Cr<|Ea U U<|Ek2 0 2 U<|Cr<|Em U U<|Aa (S.ixStr U U (rev8_get hx) Tu9) U<|An (v:=.int .u8 ((revB 8 x:Nat):Int)) (by rw[rev8_val])<|Ea U U<|Ek1 2 U<|Bb ?_
 exact⟨_,rfl,rfl,rfl⟩
theorem reverse16_spec{K:Known}(x:Nat)(hx:x<65536):Fn Tryz.prog K 109 #[.int .u16 ((x:Nat):Int)] ([]) (fun r L=>r=.int .u16 ((revB 16 x:Nat):Int)∧L=[]):=by
 refine Fn.intro (args:=[.int .u16 ((x:Nat):Int)]) (RR:=Ret1 2 _) Tryz.func109 rfl rfl Tryz.ntmps109 (res1 Tryz.results109) ?_
 refine Bi (env2:=[(0,.int .u16 ((x:Nat):Int))]) U<|Cr<|Ea U U<|Ek2 0 2 U<|Am<|Bt [0,1,2,4,0,16,32,64,128,264,1023] (.pure 0 496 (.pure 1 497 (.pure 2 499 (.pure 3 503 (.pure 4 15 (.pure 5 31 (.pure 6 63 (.pure 7 127 (.pure 8 255 (.pure 9 511 (.pure 10 1023 .done))))))))))) mixed (by decide+kernel) ?_
 have hr1:=Eh 8 (x>>>8)
 have hr2:=Eh 8 (x&&&255)
 refine Dm U U U<|Ah U (Fl (b:=((8:Nat):Int)) U U (by omega) (N.shr_u16 (by omega) _)) U ?_
 refine Ah U (S.ixStr U U (rev8_get (by rw[Nat.shiftRight_eq_div_pow];omega)) Tu9) U ?_
 refine Fi (v:=.int .u8 ((revB 8 (x>>>8):Nat):Int)) (by rw[rev8_val])<|Ah U (Bv U Tu5 Tu153 (N.in_u16 (by omega))) U<|Dm U U U<|Ah U (Fa (b:=((255:Nat):Int)) U U (N.and_u16 (by omega) (by omega))) U ?_
 refine Ah U (S.ixStr U U (rev8_get (by have:=Nat.and_le_right (n:=x) (m:=255);omega)) Tu9) U ?_
 refine Fi (v:=.int .u8 ((revB 8 (x&&&255):Nat):Int)) (by rw[rev8_val])<|Ah U (Bv U Tu5 Tu153 (N.in_u16 (by omega))) U<|Ah U (Fy (b:=((8:Nat):Int)) U U (by omega) (N.shl_u16 _ _)) U<|Ah U (S.or U U (N.or_u16 (by omega) (Nat.mod_lt _ (by decide)))) U<|Fi (v:=.int .u16 ((revB 16 x:Nat):Int)) (by rw[rev16_or x hx])<|Ah U (Az U) U<|Dk1 2 U<|Bb ?_
 exact⟨_,rfl,rfl,rfl⟩
section
variable {D:List UInt8}{cl acc:List Nat}{n p x:Nat}
theorem lensGo_done(h:n≤acc.length):lensGo D cl n acc p=some (acc,p):=by rw[lensGo,dif_neg (by omega)]
theorem lensGo_none(h:acc.length<n)(hs:symR cl (minL cl) D p=none):lensGo D cl n acc p=none:=by rw[lensGo,dif_pos h];simp only[hs]
theorem lensGo_lit(h:acc.length<n)(hs:symR cl (minL cl) D p=some x)(hx:x<16):lensGo D cl n acc p=lensGo D cl n (acc++[x]) (p+lenOf cl x):=by
  rw[lensGo,dif_pos h];simp only[hs];rw[if_pos hx]
theorem lensGo_empty(h:acc.length<n)(hs:symR cl (minL cl) D p=some 16)(h0:acc=[]):lensGo D cl n acc p=none:=by
  rw[lensGo,dif_pos h];simp only[hs]
  rw[if_neg (by decide),if_pos ⟨trivial,h0⟩]
theorem lensGo_short(h:acc.length<n)(hs:symR cl (minL cl) D p=some x)(hx:16≤x)(h0:¬(x=16∧acc=[]))(hl:left D (p+lenOf cl x)<repN x):lensGo D cl n acc p=none:=by
  rw[lensGo,dif_pos h];simp only[hs]
  rw[if_neg (by omega),if_neg h0,if_pos hl]
theorem lensGo_over(h:acc.length<n)(hs:symR cl (minL cl) D p=some x)(hx:16≤x)(h0:¬(x=16∧acc=[]))(hl:¬left D (p+lenOf cl x)<repN x)(ho:n<acc.length+(repB x+takeB D (p+lenOf cl x) (repN x))):lensGo D cl n acc p=none:=by
  rw[lensGo,dif_pos h];simp only[hs]
  rw[if_neg (by omega),if_neg h0,if_neg hl,dif_pos ho]
theorem lensGo_rep(h:acc.length<n)(hs:symR cl (minL cl) D p=some x)(hx:16≤x)(h0:¬(x=16∧acc=[]))(hl:¬left D (p+lenOf cl x)<repN x)(ho:¬n<acc.length+(repB x+takeB D (p+lenOf cl x) (repN x))):
    lensGo D cl n acc p=lensGo D cl n (acc++List.replicate (repB x+takeB D (p+lenOf cl x) (repN x)) (if x=16 then acc.getLastD 0 else 0)) (p+lenOf cl x+repN x):=by
  rw[lensGo,dif_pos h];simp only[hs]
  rw[if_neg (by omega),if_neg h0,if_neg hl,dif_neg ho]
end
def clv(D:List UInt8)(p k s:Nat):Nat:=if ordL.idxOf s<k then takeB D (p+3*ordL.idxOf s) 3 else 0
structure CbOk(D:List UInt8)(p k i:Nat)(cs:List Value):Prop where
  len:cs.length=19
  at_:∀s,s<19→ordL.idxOf s<i→cs[s]? =some (.int .i64 ((clv D p k s:Nat):Int))
theorem ord_idx:∀i,i<19→ordL.idxOf (ordL.getD i 0)=i∧ordL.getD i 0<19:=by decide
theorem idx_ord:∀s,s<19→ordL.getD (ordL.idxOf s) 0=s∧ordL.idxOf s<19:=by decide
theorem CbOk.next{D:List UInt8}{p k i v:Nat}{cs:List Value}(h:CbOk D p k i cs)(hi:i<19)(hv:clv D p k (ordL.getD i 0)=v):CbOk D p k (i+1) (cs.set (ordL.getD i 0*1) (.int .i64 ((v:Nat):Int))):=by
  refine⟨by rw[List.length_set];exact h.len,fun s hs hsi=>?_⟩
  rw[Nat.mul_one,List.getElem?_set]
  have ho:=ord_idx i hi
  have hx:=idx_ord s hs
  split
  · rename_i e
    rw[if_pos (by rw[h.len];exact ho.2),←e,hv]
  · rename_i e
    refine h.at_ s hs ?_
    rcases Nat.lt_or_ge (ordL.idxOf s) i with h1|h1
    · exact h1
    · have:ordL.idxOf s=i:=by omega
      rw[this]at hx
      exact absurd hx.1 e
theorem CbOk.full{D:List UInt8}{p k:Nat}{cs:List Value}(h:CbOk D p k 19 cs):cs=intsV (clL D p k)++[]:=by
  rw[List.append_nil]
  apply List.ext_getElem?
  intro s
  rcases Nat.lt_or_ge s 19 with hs|hs
  · rw[h.at_ s hs (idx_ord s hs).2,intsV,clL,List.map_map,List.getElem?_map,List.getElem?_range hs];rfl
  · rw[List.getElem?_eq_none (by rw[h.len];exact hs),List.getElem?_eq_none (by rw[Db,clL,List.length_map,List.length_range];exact hs)]
theorem clL_len(D:List UInt8)(p k:Nat):(clL D p k).length=19:=by simp[clL]
theorem clL_le(D:List UInt8)(p k:Nat):∀x∈clL D p k,x≤15:=by
  intro x hx
  obtain⟨s,_,rfl⟩:=List.mem_map.1 hx
  split
  · have:=Fw D (p+3*ordL.idxOf s) 3
    omega
  · omega
section
variable {D:List UInt8}{p:Nat}
theorem dynR_14(h:left D p<14):dynR D p=none:=by unfold dynR;rw[if_pos h]
theorem dynR_286(h:¬left D p<14)(h1:286<takeB D p 5+257):dynR D p=none:=by unfold dynR;rw[if_neg h,if_pos h1]
theorem dynR_30(h:¬left D p<14)(h1:¬286<takeB D p 5+257)(h2:30<takeB D (p+5) 5+1):dynR D p=none:=by unfold dynR;rw[if_neg h,if_neg h1,if_pos h2]
theorem dynR_cl(h:¬left D p<14)(h1:¬286<takeB D p 5+257)(h2:¬30<takeB D (p+5) 5+1)(h3:left D (p+14)<3*(takeB D (p+10) 4+4)):dynR D p=none:=by unfold dynR;rw[if_neg h,if_neg h1,if_neg h2,if_pos h3]
theorem dynR_eq(h:¬left D p<14)(h1:¬286<takeB D p 5+257)(h2:¬30<takeB D (p+5) 5+1)(h3:¬left D (p+14)<3*(takeB D (p+10) 4+4)):dynR D p=
    if ¬okLens (clL D (p+14) (takeB D (p+10) 4+4))then none
    else match lensGo D (clL D (p+14) (takeB D (p+10) 4+4)) (takeB D p 5+257+(takeB D (p+5) 5+1)) [] (p+14+3*(takeB D (p+10) 4+4))with
      |none=>none
      |some (all,p2)=>if okLens (all.take (takeB D p 5+257))∧okLens (all.drop (takeB D p 5+257))then some (⟨all.take (takeB D p 5+257),max (minL (all.take (takeB D p 5+257))) (all.getD 256 0),all.drop (takeB D p 5+257)⟩,p2)else none:=by
  conv=>lhs;unfold dynR
  rw[if_neg h,if_neg h1,if_neg h2,if_neg h3]
  try rfl
end
def fullN(l:List Nat):Nat:=(l.map fun x=>if x=0 then 0 else 2^(15-x)).sum
theorem full_zero{l:List Nat}(h:fullN l=0):∀s,lenOf l s=0:=by
  intro s
  rcases Nat.eq_zero_or_pos (lenOf l s)with h1|h1
  · exact h1
  · exfalso
    have h2:=Dx h1
    have h3:=Bp h2
    have key:∀(l:List Nat) (x:Nat),x∈l→x≠0→0<fullN l:=by
      intro l x hx hn
      induction l with
      |nil=>cases hx
      |cons y r ih=>
        have e:fullN (y::r)=(if y=0 then 0 else 2^(15-y))+fullN r:=by simp[fullN]
        rcases List.mem_cons.1 hx with h|h
        · subst h
          rw[if_neg hn]at e
          have:=Nat.pow_pos (n:=15-x) (show 0<2 by omega)
          omega
        · have:=ih h;omega
    have:=key l _ (List.getElem_mem h2) (by omega)
    omega
theorem max_zero_of{l:List Nat}(h:∀s,lenOf l s=0):maxL l=0:=by
  have:maxL l≤0:=maxL_le fun x hx=>by
    obtain⟨i,hi,rfl⟩:=List.getElem_of_mem hx
    rw[←Bp hi,h i];exact Nat.le_refl _
  omega
def partN(l:List Nat)(m:Nat):Nat:=(l.map fun x=>if x=0∨m<x then 0 else 2^(15-x)).sum
theorem partN_succ(l:List Nat)(m:Nat):partN l (m+1)=partN l m+l.count (m+1)*2^(15-(m+1)):=by
  induction l with
  |nil=>simp[partN]
  |cons x r ih=>
    have e:∀q,partN (x::r) q=(if x=0∨q<x then 0 else 2^(15-x))+partN r q:=fun q=>by simp[partN]
    rw[e,e,ih,List.count_cons]
    by_cases hx:x=m+1
    · subst hx
      rw[if_neg (by omega),if_pos (by omega)]
      simp only[beq_self_eq_true,if_true,Nat.add_mul,Nat.one_mul];omega
    · rw[if_neg (show¬(x==m+1)=true by simpa using hx)]
      by_cases h2:x=0∨m<x
      · rw[if_pos h2,if_pos (by omega)];simp
      · rw[if_neg h2,if_neg (by omega)];simp only[Bool.false_eq_true,if_false,Nat.add_zero];omega
theorem partN_first(l:List Nat):∀m,m≤15→partN l m=(firstC l m+cntL l m)*2^(15-m)
  |0,_=>by
    have:partN l 0=0:=by
      unfold partN
      induction l with
      |nil=>rfl
      |cons x r ih=>rw[List.map_cons,List.sum_cons,ih,if_pos (by omega)]
    rw[this];simp[firstC,cntL]
  |m+1,h=>by
    rw[partN_succ,partN_first l m (by omega)]
    have e:(2:Nat)^(15-m)=2*2^(15-(m+1)):=by rw[show 15-m=(15-(m+1))+1 by omega,Nat.pow_succ];omega
    have h1:firstC l (m+1)=2*(firstC l m+cntL l m):=rfl
    have h2:cntL l (m+1)=l.count (m+1):=by unfold cntL;rw[if_neg (by omega)]
    rw[h1,h2,e,←Nat.mul_assoc,←Nat.add_mul,Nat.mul_comm (firstC l m+cntL l m) 2]
theorem full_part{l:List Nat}:fullN l=partN l (maxL l):=by
  unfold fullN partN
  congr 1
  refine List.map_congr_left fun x hx=>?_
  have:=le_maxL hx
  by_cases h0:x=0
  · rw[if_pos h0,if_pos (.inl h0)]
  · rw[if_neg h0,if_neg (by omega)]
theorem full_first{l:List Nat}(h:∀x∈l,x≤15):fullN l=(firstC l (maxL l)+cntL l (maxL l))*2^(15-maxL l):=by rw[full_part,partN_first l _ (maxL_le h)]
theorem ok_of_full{l:List Nat}(h:∀x∈l,x≤15)(hf:fullN l=32768):okLens l:=by
  rw[full_first h]at hf
  have hm:=maxL_le h
  refine .inr (.inl ?_)
  have e:(32768:Nat)=2^maxL l*2^(15-maxL l):=by rw[←Nat.pow_add,show maxL l+(15-maxL l)=15 by omega]
  rw[e]at hf
  exact Nat.eq_of_mul_eq_mul_right (Nat.pow_pos (by omega)) hf
theorem ok_of_zero{l:List Nat}(hf:fullN l=0):okLens l:=.inl (max_zero_of (full_zero hf))
def lone(l:List Nat):Prop:=(∀x∈l,x≤1)∧l.sum=1
theorem ok_of_lone{l:List Nat}(h:lone l):okLens l:=by
  have hc:∀r:List Nat,(∀x∈r,x≤1)→r.sum=r.count 1:=by
    intro r
    induction r with
    |nil=>intro _;rfl
    |cons x r ih=>
      intro hr
      rw[List.sum_cons,List.count_cons,ih fun y hy=>hr y (List.mem_cons_of_mem _ hy)]
      have:=hr x (List.mem_cons_self ..)
      rcases(show x=0∨x=1 by omega)with rfl|rfl
      · simp
      · simp;omega
  have h1:=hc l h.1
  rw[h.2]at h1
  have hmem:1∈l:=List.count_pos_iff.1 (by omega)
  have hm:maxL l=1:=by
    have:=maxL_le h.1
    have:=le_maxL hmem
    omega
  refine .inr (.inr ⟨hm,?_⟩)
  have:cntL l 1=l.count 1:=by unfold cntL;rw[if_neg (by omega)]
  rw[this,←h1]
  simp[firstC,cntL]
theorem symR_findS(lens:List Nat)(D:List UInt8)(p:Nat):symR lens (minL lens) D p=findS lens (bitsAt D p) (left D p):=by
  unfold symR
  split
  · rename_i h
    refine(findS_none fun s hs=>?_).symm
    have h1:=Dx hs.1
    have h2:=(Fs lens).2.1 _ (List.getElem_mem h1) (by have:=hs.1;rw[Bp h1]at this;omega)
    rw[←Bp h1]at h2
    omega
  · rfl
theorem findS_min{lens:List Nat}{D:List UInt8}{p v:Nat}(h:findS lens (bitsAt D p) (left D p)=some v):minL lens≤left D p∧0<lenOf lens v∧lenOf lens v≤left D p∧v<lens.length:=by
  obtain⟨h1,h2⟩:=findS_some.1 h
  have h3:=Dx h1.1
  have h4:=(Fs lens).2.1 _ (List.getElem_mem h3) (by have:=h1.1;rw[Bp h3]at this;omega)
  rw[←Bp h3]at h4
  exact⟨by omega,h1.1,h2,h3⟩
abbrev Wr:=Nat×Nat
def WrOk(s:Wr):Prop:=s.1<2^s.2
def wput(s:Wr)(x n:Nat):Wr:=(s.1+2^s.2*(x%2^n),s.2+n)
def Ext(D:List UInt8)(s:Wr):Prop:=leN D%2^s.2=s.1∧s.2≤8*D.length
theorem add_mul_lt{v y k n:Nat}(hv:v<2^k)(hy:y<2^n):v+2^k*y<2^(k+n):=by
  rw[Nat.pow_add]
  have h1:2^k*(y+1)≤2^k*2^n:=Nat.mul_le_mul_left _ hy
  rw[Nat.mul_add,Nat.mul_one]at h1
  omega
theorem Fc{s:Wr}(h:WrOk s)(x n:Nat):WrOk (wput s x n):=add_mul_lt h (Nat.mod_lt _ (Nat.pow_pos (by decide)))
theorem split_eq{M A B v y:Nat}(hA:A<M)(hv:v<M)(h:A+M*B=v+M*y):A=v∧B=y:=by
  have h1:(A+M*B)%M=A:=by rw[Nat.add_mul_mod_self_left,Nat.mod_eq_of_lt hA]
  have h2:(v+M*y)%M=v:=by rw[Nat.add_mul_mod_self_left,Nat.mod_eq_of_lt hv]
  have e:A=v:=by rw[←h1,h,h2]
  refine⟨e,?_⟩
  subst e
  exact Nat.eq_of_mul_eq_mul_left (by omega) (Nat.add_left_cancel h)
theorem Fk{D:List UInt8}{s:Wr}{x n:Nat}(hs:WrOk s)(h:Ext D (wput s x n)):Ext D s∧takeB D s.2 n=x%2^n∧n≤left D s.2:=by
  obtain⟨h1,h2⟩:=h
  simp only[wput]at h1 h2
  rw[Hg]at h1
  obtain⟨e1,e2⟩:=split_eq (Nat.mod_lt _ (Nat.pow_pos (by decide))) hs h1
  exact⟨⟨e1,by omega⟩,e2,by unfold left;omega⟩
def wcode(s:Wr)(lens:List Nat)(v:Nat):Wr:=wput s (revB (lenOf lens v) (codeOf lens v)) (lenOf lens v)
theorem Gm{s:Wr}(h:WrOk s)(lens:List Nat)(v:Nat):WrOk (wcode s lens v):=Fc h _ _
theorem ext_code{D:List UInt8}{s:Wr}{lens:List Nat}{M v:Nat}(hf:FitL lens M)(h0:0<lenOf lens v)(hs:WrOk s)(h:Ext D (wcode s lens v)):
    Ext D s∧findS lens (bitsAt D s.2) (left D s.2)=some v∧lenOf lens v≤left D s.2:=by
  obtain⟨h1,h2,h3⟩:=Fk hs h
  refine⟨h1,findS_some.2 ⟨⟨h0,?_⟩,h3⟩,h3⟩
  rw[←Gn]
  have e:bitsAt D s.2%2^lenOf lens v=takeB D s.2 (lenOf lens v):=rfl
  rw[e,h2,Nat.mod_eq_of_lt (Eh _ _),revB_rev _ _ (Gf hf h0)]
theorem sym_of{lens:List Nat}{mn:Nat}{D:List UInt8}{p v:Nat}(h:findS lens (bitsAt D p) (left D p)=some v)(hm:mn≤left D p):symR lens mn D p=some v:=by unfold symR;rw[if_neg (by omega)];exact h
inductive Tk where
  |lit (c:UInt8)
  |copy (n d:Nat)
def Gs(l:List Nat)(x:Nat):Nat→Nat
  |0=>0
  |i+1=>if x<l.getD (i+1) 0 then Gs l x i else i+1
def placeL(l:List Nat)(x:Nat):Nat:=Gs l x (l.length-1)
theorem placeGo_spec(l:List Nat)(x:Nat)(h0:l.getD 0 0≤x):∀i,Gs l x i≤i∧l.getD (Gs l x i) 0≤x∧(Gs l x i=i∨x<l.getD (Gs l x i+1) 0)
  |0=>⟨Nat.le_refl _,h0,.inl rfl⟩
  |i+1=>by
    rw[Gs]
    split
    · rename_i h
      obtain⟨a,b,c⟩:=placeGo_spec l x h0 i
      refine⟨by omega,b,?_⟩
      rcases c with c|c
      · rw[c];exact .inr h
      · exact .inr c
    · exact⟨Nat.le_refl _,by omega,.inl U⟩
theorem place_size{n:Nat}(h3:3≤n)(h4:n≤258):placeL sizesL n<29∧sizesL.getD (placeL sizesL n) 0≤n∧n-sizesL.getD (placeL sizesL n) 0<2^moreL.getD (placeL sizesL n) 0:=by
  obtain⟨a,b,c⟩:=placeGo_spec sizesL n (show(3:Nat)≤n from h3) 28
  have e:placeL sizesL n=Gs sizesL n 28:=rfl
  rw[e]
  generalize Gs sizesL n 28=i at a b c⊢
  refine⟨by omega,b,?_⟩
  have key:∀k,k<28→sizesL.getD (k+1) 0≤sizesL.getD k 0+2^moreL.getD k 0:=by decide
  rcases c with c|c
  · subst c
    have:sizesL.getD 28 0=258:=rfl
    have:moreL.getD 28 0=0:=rfl
    rw[this]
    omega
  · have hi:i<28:=by
      rcases Nat.lt_or_ge i 28 with h|h
      · exact h
      · have:i=28:=by omega
        subst this
        have:sizesL.getD (28+1) 0=0:=rfl
        omega
    have:=key i hi
    omega
theorem place_far{d:Nat}(h1:1≤d)(h2:d≤32768):placeL farL d<30∧farL.getD (placeL farL d) 0≤d∧d-farL.getD (placeL farL d) 0<2^furL.getD (placeL farL d) 0:=by
  obtain⟨a,b,c⟩:=placeGo_spec farL d (show(1:Nat)≤d from h1) 29
  have e:placeL farL d=Gs farL d 29:=rfl
  rw[e]
  generalize Gs farL d 29=i at a b c⊢
  refine⟨by omega,b,?_⟩
  have key:∀k,k<29→farL.getD (k+1) 0≤farL.getD k 0+2^furL.getD k 0:=by decide
  rcases c with c|c
  · subst c
    have:farL.getD 29 0=24577:=rfl
    have:furL.getD 29 0=13:=rfl
    have h13:furL.getD 29 0=13:=rfl
    rw[h13]
    omega
  · have hi:i<29:=by
      rcases Nat.lt_or_ge i 29 with h|h
      · exact h
      · have:i=29:=by omega
        subst this
        have:farL.getD (29+1) 0=0:=rfl
        omega
    have:=key i hi
    omega
def tkPut(lit dist:List Nat)(s:Wr):Tk→Wr
  |.lit c=>wcode s lit c.toNat
  |.copy n d=>wput (wcode (wput (wcode s lit (257+placeL sizesL n)) (n-sizesL.getD (placeL sizesL n) 0) (moreL.getD (placeL sizesL n) 0)) dist (placeL farL d)) (d-farL.getD (placeL farL d) 0) (furL.getD (placeL farL d) 0)
def tkOut(out:List UInt8):Tk→List UInt8
  |.lit c=>out++[c]
  |.copy n d=>copyN out d n
def tkOk(out:List UInt8):Tk→Prop
  |.lit _=>True
  |.copy n d=>3≤n∧n≤258∧1≤d∧d≤32768∧d≤out.length
def tkUse(lit dist:List Nat):Tk→Prop
  |.lit c=>0<lenOf lit c.toNat
  |.copy n d=>0<lenOf lit (257+placeL sizesL n)∧0<lenOf dist (placeL farL d)
def tksOk:List UInt8→List Tk→Prop
  |_,[]=>True
  |out,t::r=>tkOk out t∧tksOk (tkOut out t) r
def tksOut(out:List UInt8)(l:List Tk):List UInt8:=l.foldl tkOut out
def tksPut(lit dist:List Nat)(s:Wr)(l:List Tk):Wr:=l.foldl (tkPut lit dist) s
theorem tkPut_ok{lit dist:List Nat}{s:Wr}(hs:WrOk s)(k:Tk):WrOk (tkPut lit dist s k):=by
  cases k with
  |lit c=>exact Gm hs _ _
  |copy n d=>exact Fc (Gm (Fc (Gm hs _ _) _ _) _ _) _ _
theorem tkPut_le{lit dist:List Nat}{s:Wr}(k:Tk):s.2≤(tkPut lit dist s k).2:=by
  cases k with
  |lit c=>simp only[tkPut,wcode,wput];omega
  |copy n d=>simp only[tkPut,wcode,wput];omega
theorem tkPut_ext{D:List UInt8}{lit dist:List Nat}{s:Wr}(hs:WrOk s){k:Tk}(h:Ext D (tkPut lit dist s k)):Ext D s:=by
  cases k with
  |lit c=>exact(Fk hs h).1
  |copy n d=>
    have h1:=(Fk (Gm (Fc (Gm hs _ _) _ _) _ _) h).1
    have h2:=(Fk (Fc (Gm hs _ _) _ _) h1).1
    exact(Fk hs (Fk (Gm hs _ _) h2).1).1
theorem tksPut_ok{lit dist:List Nat}:∀{l:List Tk} {s:Wr},WrOk s→WrOk (tksPut lit dist s l)
  | [],_,hs=>hs
  |k::r,_,hs=>tksPut_ok (l:=r) (tkPut_ok hs k)
theorem tksPut_le{lit dist:List Nat}:∀{l:List Tk} {s:Wr},s.2≤(tksPut lit dist s l).2
  | [],_=>Nat.le_refl _
  |k::r,s=>Nat.le_trans (tkPut_le (lit:=lit) (dist:=dist) k) (tksPut_le (l:=r))
theorem tksPut_ext{D:List UInt8}{lit dist:List Nat}:∀{l:List Tk} {s:Wr},WrOk s→Ext D (tksPut lit dist s l)→Ext D s
  | [],_,_,h=>h
  |k::r,_,hs,h=>tkPut_ext hs (tksPut_ext (l:=r) (tkPut_ok hs k) h)
theorem run_tk{D:List UInt8}{t:Tabs}{M1 M2:Nat}{last:Bool}{out:List UInt8}{s:Wr}{k:Tk}(hf1:FitL t.lit M1)(hf2:FitL t.dist M2)(hok:tkOk out k)(hu:tkUse t.lit t.dist k)(hs:WrOk s)(h:Ext D (tkPut t.lit t.dist s k))
    (hmn:t.mn≤max (minL t.lit) (lenOf t.lit 256))(h256:lenOf t.lit 256≤left D s.2):run D (.sym last t) out s.2=run D (.sym last t) (tkOut out k) (tkPut t.lit t.dist s k).2:=by
  cases k with
  |lit c=>
    obtain⟨_,h2,h3⟩:=ext_code hf1 hu hs h
    have hm:=(findS_min h2).1
    rw[run_lit (sym_of h2 (by omega)) c.toNat_lt]
    rw[tkOut,UInt8.ofNat_toNat];rfl
  |copy n d=>
    obtain⟨o1,o2,o3,o4,o5⟩:=hok
    obtain⟨p1,p2,p3⟩:=place_size o1 o2
    obtain⟨q1,q2,q3⟩:=place_far o3 o4
    simp only[tkPut]at h⊢
    simp only[tkUse]at hu
    generalize placeL sizesL n=i at p1 p2 p3 hu h⊢
    generalize placeL farL d=j at q1 q2 q3 hu h⊢
    have k1:=Gm hs t.lit (257+i)
    have k2:=Fc k1 (n-sizesL.getD i 0) (moreL.getD i 0)
    have k3:=Gm k2 t.dist j
    obtain⟨e3,t3,l3⟩:=Fk k3 h
    obtain⟨e2,t2,l2⟩:=ext_code hf2 hu.2 k2 e3
    obtain⟨e1,t1,l1⟩:=Fk k1 e2
    obtain⟨e0,t0,l0⟩:=ext_code hf1 hu.1 hs e1
    have hm:=(findS_min t0).1
    rw[Nat.mod_eq_of_lt p3]at t1
    rw[Nat.mod_eq_of_lt q3]at t3
    have hsym:=sym_of (mn:=t.mn) t0 (by omega)
    have hle:=h.2
    simp only[wput,wcode]at t1 t2 t3 l1 l2 l3 hle⊢
    have e7:257+i-257=i:=by omega
    have hc:=copyR_some (t:=t) (D:=D) (v:=257+i) (p:=s.2+lenOf t.lit (257+i)) (d:=j) (by rw[e7];omega) (by rw[e7];exact sym_of t2 (Nat.zero_le _)) q1 (by rw[e7];omega)
    rw[e7]at hc
    rw[t1,t3,show sizesL.getD i 0+(n-sizesL.getD i 0)=n by omega,show farL.getD j 0+(d-farL.getD j 0)=d by omega]at hc
    have hp:=hu.1
    rw[run_copy hsym (by omega) (by omega) hc o5 (by omega) hle]
    rfl
theorem run_tks{D:List UInt8}{t:Tabs}{M1 M2:Nat}{last:Bool}(hf1:FitL t.lit M1)(hf2:FitL t.dist M2)(h0:0<lenOf t.lit 256)(hmn:t.mn≤max (minL t.lit) (lenOf t.lit 256)):
    ∀{l:List Tk} {out:List UInt8} {s:Wr},tksOk out l→(∀k∈l,tkUse t.lit t.dist k)→WrOk s→Ext D (wcode (tksPut t.lit t.dist s l) t.lit 256)→
      run D (.sym last t) out s.2=if last=true then(tksOut out l,.done (((wcode (tksPut t.lit t.dist s l) t.lit 256).2+7)/8))else run D .next (tksOut out l) (wcode (tksPut t.lit t.dist s l) t.lit 256).2
  | [],out,s,_,_,hs,h=>by
    obtain⟨_,h2,h3⟩:=ext_code hf1 h0 hs h
    have hm:=(findS_min h2).1
    obtain⟨r1,r2⟩:=run_eob (last:=last) (out:=out) (sym_of (mn:=t.mn) h2 (by omega))
    split
    · rename_i hl;exact r1 hl
    · rename_i hl;exact r2 (by simpa using hl)
  |k::r,out,s,hok,hu,hs,h=>by
    have hs2:=tkPut_ok (lit:=t.lit) (dist:=t.dist) hs k
    have h1:=(ext_code hf1 h0 (tksPut_ok (lit:=t.lit) (dist:=t.dist) (l:=r) hs2) h).1
    have h2:=tksPut_ext hs2 h1
    have hle:=h.2
    have hm:=tksPut_le (lit:=t.lit) (dist:=t.dist) (l:=r) (s:=tkPut t.lit t.dist s k)
    have hm2:=tkPut_le (lit:=t.lit) (dist:=t.dist) (s:=s) k
    rw[run_tk hf1 hf2 hok.1 (hu k (.head _)) hs h2 hmn (by
      simp only[wcode,wput,tksPut,List.foldl_cons]at hle hm
      unfold left;omega)]
    exact run_tks hf1 hf2 h0 hmn hok.2 (fun x hx=>hu x (.tail _ hx)) hs2 h
def strLen(l:List UInt8):Nat:=(l.takeWhile (fun c=>c != 0)).length
theorem strLen_found:∀{l:List UInt8} {i:Nat},(∀c∈l.take i,c≠0)→l[i]? =some 0→strLen l=i
  | [],i,_,h=>by simp at h
  |c::r,0,_,h=>by
    simp only[List.getElem?_cons_zero,Option.some.injEq]at h
    subst h
    rfl
  |c::r,i+1,hn,h=>by
    have hc:c≠0:=hn c (by simp)
    have:=strLen_found (l:=r) (i:=i) (fun x hx=>hn x (by simp[hx])) (by simpa using h)
    unfold strLen at this⊢
    rw[List.takeWhile_cons]
    simp[hc,this]
theorem strLen_end:∀{l:List UInt8},(∀c∈l,c≠0)→strLen l=l.length
  | [],_=>rfl
  |c::r,hn=>by
    have hc:c≠0:=hn c (by simp)
    have:=strLen_end (l:=r) (fun x hx=>hn x (by simp[hx]))
    unfold strLen at this⊢
    rw[List.takeWhile_cons]
    simp[hc,this]
theorem strLen_long:∀{l:List UInt8} {i:Nat},(∀c∈l.take i,c≠0)→i≤l.length→i≤strLen l
  |_,0,_,_=>Nat.zero_le _
  | [],i+1,_,h=>by simp at h
  |c::r,i+1,hn,h=>by
    have hc:c≠0:=hn c (by simp)
    have:=strLen_long (l:=r) (i:=i) (fun x hx=>hn x (by simp[hx])) (by simpa using h)
    unfold strLen at this⊢
    rw[List.takeWhile_cons]
    simp[hc,this]
def latin(l:List UInt8):ByteArray:=runesBytes (l.map fun c=>((c.toNat:Nat):Int))
def strOk(l:List UInt8):Bool:=decide (strLen l<512)&&decide (strLen l<l.length)
def strEr(l:List UInt8):Er:=if strLen l<512 then(if strLen l<l.length then .none else .eof)else .header
def Fd(l:List UInt8):Nat:=if strLen l<512 then min (strLen l+1) l.length else 512
def strTxt(l:List UInt8):ByteArray:=if strOk l then latin (l.take (strLen l))else ⟨#[]⟩
def strCrc(d:Nat)(l:List UInt8):Nat:=if strOk l then crcOn IEEE d (l.take (strLen l+1))else d
theorem str_header{l:List UInt8}(h:(∀c∈l.take 512,c≠0))(hl:512≤l.length)(d:Nat):strEr l=.header∧Fd l=512∧strTxt l=⟨#[]⟩∧strCrc d l=d:=by
  have h1:=strLen_long h hl
  have h2:¬strLen l<512:=by omega
  simp[strEr,Fd,strTxt,strCrc,strOk,h2]
theorem str_eof{l:List UInt8}(h:(∀c∈l,c≠0))(hl:l.length<512)(d:Nat):strEr l=.eof∧Fd l=l.length∧strTxt l=⟨#[]⟩∧strCrc d l=d:=by
  have h1:=strLen_end h
  simp[strEr,Fd,strTxt,strCrc,strOk,h1,hl]
theorem str_ok{l:List UInt8}{i:Nat}(h:(∀c∈l.take i,c≠0))(h0:l[i]? =some 0)(hi:i<512)(d:Nat):strEr l=.none∧Fd l=i+1∧strTxt l=latin (l.take i)∧strCrc d l=crcOn IEEE d (l.take (i+1)):=by
  have h1:=strLen_found h h0
  have h2:i<l.length:=(List.getElem?_eq_some_iff.1 h0).1
  have h3:min (i+1) l.length=i+1:=by omega
  simp[strEr,Fd,strTxt,strCrc,strOk,h1,hi,h2,h3]
theorem encode_byte(c:UInt8):Utf8.encode ((c.toNat:Nat):Int)=if c.toNat<128 then ⟨#[c]⟩else ⟨#[UInt8.ofNat (192+c.toNat/64),UInt8.ofNat (128+c.toNat%64)]⟩:=by
  have hc:=c.toNat_lt
  have hv:Utf8.valid ((c.toNat:Nat):Int)=true:=by
    unfold Utf8.valid
    simp;omega
  unfold Utf8.encode
  simp only[hv,if_true,Int.toNat_natCast]
  by_cases h:c.toNat<128
  · rw[if_pos h,if_pos h];simp
  · rw[if_neg h,if_neg h,if_pos (by omega)]
theorem encode_ascii(c:UInt8)(h:c.toNat≤127):Utf8.encode ((c.toNat:Nat):Int)=⟨#[c]⟩:=by
  rw[encode_byte,if_pos (by omega)]
theorem latin_ascii_go:∀(l:List UInt8) (s:ByteArray),(∀c∈l,c.toNat≤127)→(l.map fun c=>((c.toNat:Nat):Int)).foldl (fun r n=>r++Utf8.encode n) s=⟨s.data++l.toArray⟩
  | [],s,_=>by simp
  |c::r,s,h=>by
    rw[List.map_cons,List.foldl_cons,encode_ascii c (h c (by simp)),latin_ascii_go r _ (fun x hx=>h x (by simp[hx]))]
    simp
theorem latin_ascii{l:List UInt8}(h:∀c∈l,c.toNat≤127):latin l=⟨l.toArray⟩:=by
  unfold latin runesBytes
  rw[latin_ascii_go l _ h]
  simp
theorem En{α:Type}{l:List α}{i:Nat}(h:i<l.length):l.take (i+1)=l.take i++[l[i]]:=by
  rw[List.take_add_one,List.getElem?_eq_getElem h];rfl
def big(c:UInt8):Bool:=decide (127<c.toNat)
theorem any_snoc{l:List UInt8}{i:Nat}(h:i<l.length):(l.take (i+1)).any big=((l.take i).any big||big l[i]):=by
  rw[En h,List.any_append];simp only[List.any_cons,List.any_nil,Bool.or_false]
theorem any_true{l:List UInt8}{i:Nat}(h:i<l.length)(hb:((127:Nat):Int)<((l[i].toNat:Nat):Int)):true=(l.take (i+1)).any big:=by
  have:big l[i]=true:=decide_eq_true (by omega)
  rw[any_snoc h,this,Bool.or_true]
theorem any_keep{l:List UInt8}{i:Nat}{nc:Bool}(h:i<l.length)(hnc:nc=(l.take i).any big)(hb:¬((127:Nat):Int)<((l[i].toNat:Nat):Int)):nc=(l.take (i+1)).any big:=by
  have:big l[i]=false:=decide_eq_false (by omega)
  rw[any_snoc h,this,Bool.or_false];exact hnc
theorem none_big{l:List UInt8}(h:l.any big=false):∀c∈l,c.toNat≤127:=by
  intro c hc
  have:=List.any_eq_false.1 h c hc
  simpa[big]using this
theorem buf_set{l:List UInt8}{bs:List Value}{i:Nat}(h:i<l.length)(hb:i<bs.length)(hbl:bs.length=512):(bytesV (l.take i)++bs.drop i).set i (u8 l[i])=bytesV (l.take (i+1))++bs.drop (i+1):=by
  have hl:(bytesV (l.take i)).length=i:=by rw[Bh,List.length_take];omega
  rw[List.set_append_right _ _ (by omega),hl,Nat.sub_self,List.drop_eq_getElem_cons hb,List.set_cons_zero,En h,Ei,List.append_assoc]
  rfl
theorem buf_get{l:List UInt8}{bs:List Value}{i:Nat}(h:i<l.length):(bytesV (l.take (i+1))++bs.drop (i+1))[i]? =some (u8 l[i]):=by
  rw[List.getElem?_append_left (by rw[Bh,List.length_take];omega)]
  have:i<(l.take (i+1)).length:=by rw[List.length_take];omega
  rw[Jg this]
  simp
theorem buf_part{l:List UInt8}{bs:List Value}{i:Nat}:((bytesV (l.take (i+1))++bs.drop (i+1)).drop 0).take (bytesV (l.take (i+1))).length=bytesV (l.take (i+1)):=by
  rw[List.drop_zero];exact List.take_left
theorem buf_part1{l:List UInt8}{bs:List Value}{i:Nat}(h:i<l.length):((bytesV (l.take (i+1))++bs.drop (i+1)).drop 0).take (bytesV (l.take i)).length=bytesV (l.take i):=by
  rw[List.drop_zero,En h,Ei,List.append_assoc]
  exact List.take_left
def runesV(l:List UInt8):List Value:=l.map fun c=>.int .i32 ((c.toNat:Nat):Int)
theorem runesV_snoc{l:List UInt8}{i:Nat}(h:i<l.length):runesV (l.take (i+1))=runesV (l.take i)++[.int .i32 ((l[i].toNat:Nat):Int)]:=by
  unfold runesV;rw[En h,List.map_append];rfl
theorem arr1(f:Nat→Value)(v:Value):((Array.range 1).map f).setIfInBounds 0 v=#[v]:=by
  rw[show Array.range 1=#[0] by decide];simp
theorem infoI32:Tryz.prog.info? 21=some Tryz.t21:=by kernel_rfl
section
variable {K:Known}{n:Nat}{env:Env}{L:Frags}{ty:TypeId}
theorem X.appendRune{x y:Operand}{b o m c yb:Nat}{z:Int}{cs xs:List Value}{yc:Nat}
    (hx:ev? env x=some (.slice (some ⟨b,o,none⟩) m c))(hy:ev? env y=some (.slice (some ⟨yb,0,none⟩) 1 yc))(hxs:cs.take m=xs)(hl:cs.length=c)(hm:m≤c)(hc:c≤9223372036854775807)(hb:m≤100000):
    OpX Tryz.prog K n (.call {callee:=.builtin .append,args:=#[x,y],argTypes:=#[173,173]}) ty env (⟨b,o,cs⟩::⟨yb,0,[.int .i32 z]⟩::L) fun v' L'=>
      ∃b' o' c' cs',v'=.slice (some ⟨b',o',none⟩) (m+1) c'∧cs'.take (m+1)=xs++[.int .i32 z]∧cs'.length=c'∧m+1≤c'∧c'≤9223372036854775807∧L'=⟨b',o',cs'⟩::⟨yb,0,[.int .i32 z]⟩::L:=by
  have hxl:xs.length=m:=by rw[←hxs,List.length_take];omega
  have h:=Hm (P:=Tryz.prog) (H0:=K) (n:=n) (ty:=ty) (L:=⟨yb,0,[.int .i32 z]⟩::L) (Lf:=[⟨b,o,cs⟩]) (s:=1) (bytes:=4) (t:=173) (m:=m) (k:=1) (xs:=xs) (ys:=[.int .i32 z]) Tryz.underlying173 infoI32 (z:=.int .i32 0) rfl rfl rfl rfl (by decide) hx hy
    ⟨by rw[hxl,Nat.mul_one],.inr ⟨b,o,c,cs,rfl,rfl,by rw[hl,Nat.mul_one],hm,hc,by rw[Nat.mul_one];exact hxs⟩⟩ rfl
    (.inr ⟨yb,0,rfl,Reads.frag (i:=1) (k:=0) rfl rfl⟩) rfl (by omega) (by omega)
  refine OpX.mono h fun v' L'=>?_
  rintro⟨Lf',h1,h2⟩
  obtain⟨b',o',c',cs',e1,e2,e3,e4,e5,e6⟩:=h1.one (by omega)
  subst e2
  exact⟨b',o',c',cs',e1,by rw[Nat.mul_one]at e6;exact e6,by rw[Nat.mul_one]at e3;exact e3,e4,e5,h2⟩
end
end Go.Eng
