/-
  Texts of this proof, merged: WHf, WGz2, Head, WFl1, WFl2, Win, Cpy, WDic, Dec, WDict, WFl3.
-/
import Derived.Test.YtbjbmpcgiokdaaaGreatDoorGo2
set_option linter.unusedVariables false
set_option linter.unusedSimpArgs false
namespace Go.Eng
open Go Go.Proofs
set_option maxRecDepth 100000
set_option maxHeartbeats 1000000
def hufZ:List Value:=[.int .i64 0]++(cellsU 512 (fun _=>0)++[.slice none 0 0,.int .u32 0])
theorem zcHuf:(Value.agg Tryz.zeroCells177).cells=hufZ.toArray:=by kernel_rfl
theorem hufBuild(w:World):(Instr.build 177 [].toArray).run Tryz.prog w=.ok (.agg hufZ.toArray) w:=by
  simp[Instr.build,Tryz.zeroValue177]
  rw[fill_nil];simp[zcHuf]
theorem cellsU_one(n:Nat)(f:Nat→Nat):(cellsU n f).all one=true:=by
  rw[List.all_eq_true];intro v hv
  obtain⟨o,_,rfl⟩:=List.mem_map.1 hv;rfl
theorem hufZ_one:hufZ.all one=true:=by
  unfold hufZ
  rw[List.all_append,List.all_append,cellsU_one];rfl
theorem hufZ_len:hufZ.length=515:=by unfold hufZ;rw[List.length_append,List.length_append,Es];rfl
theorem infoU32:Tryz.prog.info? 69=some Tryz.t69:=by kernel_rfl
theorem infoSlU:Tryz.prog.info? 214=some Tryz.t214:=by kernel_rfl
theorem minL_take{l:List Nat}{i:Nat}(h:i<l.length):minL (l.take (i+1))=if l[i]=0 then minL (l.take i)else if minL (l.take i)=0∨l[i]<minL (l.take i)then l[i]else minL (l.take i):=by rw[En h,minL_snoc]
theorem maxL_take{l:List Nat}{i:Nat}(h:i<l.length):maxL (l.take (i+1))=max (maxL (l.take i)) l[i]:=by rw[En h,maxL_snoc]
theorem cntL_zero{l:List Nat}{i:Nat}(h:i<l.length)(h0:l[i]=0):cntL (l.take (i+1))=cntL (l.take i):=by
  funext k;rw[En h,cntL_snoc,h0,if_neg (by omega)];rfl
theorem cntL_more{l:List Nat}{i:Nat}(h:i<l.length)(h0:l[i]≠0):(cellsI 16 (cntL (l.take i))).set (l[i]*1) (.int .i64 ((cntL (l.take i) l[i]+1:Nat):Int))=cellsI 16 (cntL (l.take (i+1))):=
  Hj (by rw[En h,cntL_snoc,if_pos ⟨h0,rfl⟩]) fun o _ hne=>by rw[En h,cntL_snoc,if_neg (fun h=>hne h.2.symm)];rfl
theorem cntL_le(l:List Nat)(k:Nat):cntL l k≤l.length:=by unfold cntL;split;omega;exact List.count_le_length
theorem first_le{l:List Nat}{k:Nat}(hl:l.length≤320)(hk:k≤15):firstC l k+cntL l k≤20971520:=by
  have h1:=first_bound l k
  have h2:(2:Nat)^(k+1)≤2^16:=Nat.pow_le_pow_right (by omega) (by omega)
  have h3:l.length*2^(k+1)≤320*2^16:=Nat.mul_le_mul hl h2
  omega
def nextF(lens:List Nat)(mn i l:Nat):Nat:=if mn≤l∧l<i then firstC lens l else 0
def nextK(lens:List Nat)(mn mx k l:Nat):Nat:=if mn≤l∧l≤mx then firstC lens l+(lens.take k).count l else 0
theorem next_set{lens:List Nat}{mn i:Nat}(h:mn≤i):(cellsI 16 (nextF lens mn i)).set (i*1) (.int .i64 ((firstC lens i:Nat):Int))=cellsI 16 (nextF lens mn (i+1)):=
  Hj (by unfold nextF;rw[if_pos (by omega)]) fun o _ hne=>by
    unfold nextF
    by_cases h1:mn≤o∧o<i
    · rw[if_pos h1,if_pos (by omega)]
    · rw[if_neg h1,if_neg (by omega)]
theorem next_done(lens:List Nat)(mn mx:Nat):nextF lens mn (mx+1)=nextK lens mn mx 0:=by
  funext l
  unfold nextF nextK
  by_cases h1:mn≤l∧l≤mx
  · rw[if_pos (by omega),if_pos h1];simp
  · rw[if_neg (by omega),if_neg h1]
theorem nextK_zero{lens:List Nat}{mn mx k:Nat}(h:k<lens.length)(h0':lenOf lens k=0)(hm:0<mn):nextK lens mn mx (k+1)=nextK lens mn mx k:=by
  have h0:lens[k]=0:=by rw[←Bp h];exact h0'
  funext l
  unfold nextK
  split
  · rw[En h,h0,List.count_append,List.count_cons_of_ne (by omega)];simp
  · rfl
theorem nextK_more{lens:List Nat}{mn mx k:Nat}(h:k<lens.length)(h1:mn≤lenOf lens k)(h2:lenOf lens k≤mx):(cellsI 16 (nextK lens mn mx k)).set (lenOf lens k*1) (.int .i64 ((codeOf lens k+1:Nat):Int))=cellsI 16 (nextK lens mn mx (k+1)):=
  Hj (by unfold nextK;rw[if_pos ⟨h1,h2⟩,En h,List.count_append,codeOf,Bp h,List.count_cons_self];simp;omega) fun o _ hne=>by
    unfold nextK
    split
    · rw[En h,List.count_append,List.count_cons_of_ne (fun e=>hne (by rw[Bp h];exact e.symm))];simp
    · rfl
theorem nextK_at{lens:List Nat}{mn mx k:Nat}(h1:mn≤lenOf lens k)(h2:lenOf lens k≤mx):nextK lens mn mx k (lenOf lens k)=codeOf lens k:=by
  unfold nextK;rw[if_pos ⟨h1,h2⟩,codeOf]
def LkF(c:Nat)(lb:Nat→Nat)(g:Nat→Nat→Nat)(nk:Nat):Frags:=(List.range c).map fun a=>(⟨lb a,0,cellsU nk (g a)⟩:Frag)
def Fj(c:Nat)(lb:Nat→Nat)(nk:Nat):List Value:=(List.range c).map fun a=>Value.slice (some ⟨lb a,0,none⟩) nk nk
theorem LkF_get{c a nk:Nat}{lb:Nat→Nat}{g:Nat→Nat→Nat}(h:a<c):(LkF c lb g nk)[a]? =some ⟨lb a,0,cellsU nk (g a)⟩:=by rw[LkF,List.getElem?_map,List.getElem?_range h];rfl
theorem lk_get{c a nk:Nat}{lb:Nat→Nat}(h:a<c):(Fj c lb nk)[a*1]? =some (.slice (some ⟨lb a,0,none⟩) nk nk):=by rw[Nat.mul_one,Fj,List.getElem?_map,List.getElem?_range h];rfl
theorem LkF_set{c a nk:Nat}{lb:Nat→Nat}{g g':Nat→Nat→Nat}{cs:List Value}(ha:cellsU nk (g' a)=cs)(hn:∀x,x≠a→g' x=g x):(LkF c lb g nk).set a ⟨lb a,0,cs⟩=LkF c lb g' nk:=by
  apply List.ext_getElem?
  intro i
  rw[List.getElem?_set,LkF,LkF,List.getElem?_map,List.getElem?_map]
  by_cases hi:i<c
  · rw[List.getElem?_range hi]
    by_cases hik:a=i
    · subst hik
      rw[if_pos rfl,if_pos (by simpa using hi),←ha];rfl
    · rw[if_neg hik]
      simp only[Option.map_some]
      rw[hn i (fun e=>hik e.symm)]
  · rw[List.getElem?_eq_none (by simpa using hi)]
    simp only[Option.map_none]
    split
    · rw[if_neg (by rw[List.length_map,List.length_range];omega)]
    · rfl
def HufT(lens:List Nat)(mn hb o:Nat)(L:Frags):Prop:=
  ∃f g nt nk lv T,TabOK lens f g nt nk∧(∀x,x<512→f x<65536)∧(∀a q,g a q<65536)∧0<nk∧nk≤64∧(∃e,nk=2^e)∧(mn=0→(∀x,x<512→f x=0)∧lv=.slice none 0 0∧nk=1)∧L=[⟨hb,o,[.int .i64 ((mn:Nat):Int)]⟩,⟨hb,o+1,cellsU 512 f⟩,⟨hb,o+513,[lv,.int .u32 ((nk-1:Nat):Int)]⟩]++T∧
    ((nt=0∧T=[]∧lv=.slice none 0 0)∨∃kb lb,lv=.slice (some ⟨kb,0,none⟩) nt nt∧T=⟨kb,0,Fj nt lb nk⟩::LkF nt lb g nk)
theorem link_none{lens:List Nat}{lk nk:Nat}{g:Nat→Nat→Nat}(h:¬((9:Nat):Int)<((maxL lens:Nat):Int)):TabP lens (maxL lens) lk nk 0 (fun _=>0) g:=by
  have:(fun _=>0)=link0 (maxL lens) lk:=by funext x;rw[link0,if_neg (by omega)]
  rw[this];exact TabP.zero
theorem link_full{lens:List Nat}{lk nk:Nat}{g:Nat→Nat→Nat}(h512:lk≤512)(h:((9:Nat):Int)<((maxL lens:Nat):Int)):TabP lens (maxL lens) lk nk 0 (fun x=>if lk≤revB 9 x∧revB 9 x<512 then(revB 9 x-lk)*16+10 else 0) g:=by
  have:(fun x=>if lk≤revB 9 x∧revB 9 x<512 then(revB 9 x-lk)*16+10 else 0)=link0 (maxL lens) lk:=by
    funext x
    have:=Eh 9 x
    rw[link0]
    by_cases h1:lk≤revB 9 x
    · rw[if_pos ⟨h1,this⟩,if_pos ⟨by omega,h1⟩]
    · rw[if_neg (by omega),if_neg (by omega)]
  rw[this];exact TabP.zero
theorem link_lt{lk:Nat}(h512:lk≤512):∀x,x<512→(fun x=>if lk≤revB 9 x∧revB 9 x<512 then(revB 9 x-lk)*16+10 else 0) x<65536:=fun x _=>by
  have:=Eh 9 x
  rw[show(2:Nat)^9=512 from rfl]at this
  simp only
  split<;>omega
theorem fill_zero{k n c:Nat}{f:Nat→Nat}(r:Nat)(hr:r=revB n c):cellsU 512 (fun x=>if x<r∧x%2^n=revB n c then k*16+n else f x)=cellsU 512 f:=
  cellsU_congr fun x _=>by
    rw[if_neg]
    rintro⟨h1,h2⟩
    have h3:=Eh n c
    rw[Nat.mod_eq_of_lt (by omega)]at h2
    omega
theorem fill_next{n c off:Nat}{f:Nat→Nat}{v:Nat}(h:off%2^n=revB n c):(cellsU 512 (fun x=>if x<off∧x%2^n=revB n c then v else f x)).set (off*1) (.int .u32 ((v:Nat):Int))=cellsU 512 (fun x=>if x<off+2^n∧x%2^n=revB n c then v else f x):=
  cellsU_set (by rw[if_pos ⟨by have:=Nat.pow_pos (n:=n) (show 0<2 by omega);omega,h⟩]) fun x _ hne=>by
    by_cases h1:x<off+2^n∧x%2^n=revB n c
    · rw[if_pos h1,if_pos]
      refine⟨?_,h1.2⟩
      rcases Nat.lt_or_ge x off with h2|h2
      · exact h2
      · exfalso
        obtain⟨d,rfl⟩:=Nat.exists_eq_add_of_le h2
        have hd:d<2^n:=by omega
        have h3:(off+d)%2^n=off%2^n:=by rw[h1.2,h]
        have h4:d%2^n=0:=by
          have h5:=Nat.sub_mod_eq_zero_of_mod_eq h3
          rwa [Nat.add_sub_cancel_left]at h5
        rw[Nat.mod_eq_of_lt hd]at h4
        exact hne (by omega)
    · rw[if_neg h1,if_neg (fun h2=>h1 ⟨by omega,h2.2⟩)]
theorem next_start(lens:List Nat)(mn:Nat):cellsI 16 (nextF lens mn mn)=cellsI 16 (fun _=>0):=Ht fun o _=>by unfold nextF;rw[if_neg (by omega)]
theorem next_ten{lens:List Nat}{mx:Nat}(h:10≤mx):nextK lens (minL lens) mx 0 10=2*(firstC lens 9+cntL lens 9):=by
  unfold nextK
  by_cases h1:minL lens≤10
  · rw[if_pos ⟨h1,h⟩];rfl
  · rw[if_neg (by omega)]
    have h2:=first_min lens 10 (by omega)
    exact h2.symm
theorem lnk_start(lk:Nat):cellsU 512 (fun x=>if lk≤revB 9 x∧revB 9 x<lk then(revB 9 x-lk)*16+10 else 0)=cellsU 512 (fun _=>0):=cellsU_congr fun o _=>by rw[if_neg (by omega)]
theorem lnk_next{lk j:Nat}(h1:lk≤j)(h2:j<512):(cellsU 512 (fun x=>if lk≤revB 9 x∧revB 9 x<j then(revB 9 x-lk)*16+10 else 0)).set (revB 9 j*1) (.int .u32 (((j-lk)*16+10:Nat):Int))=cellsU 512 (fun x=>if lk≤revB 9 x∧revB 9 x<(j+1)then(revB 9 x-lk)*16+10 else 0):=by
  have hj:revB 9 (revB 9 j)=j:=revB_rev 9 j h2
  refine cellsU_set (by rw[hj,if_pos (by omega)]) fun o ho hne=>?_
  have:revB 9 o≠j:=fun e=>hne (by rw[←e,revB_rev 9 o ho])
  by_cases h3:lk≤revB 9 o∧revB 9 o<j
  · rw[if_pos (by omega),if_pos h3]
  · rw[if_neg (by omega),if_neg h3]
theorem kb_start(lk nk:Nat)(lb:Nat→Nat):((List.range (512-lk)).map fun a=>if a<lk-lk then Value.slice (some ⟨lb a,0,none⟩) nk nk else .slice none 0 0)=List.replicate (512-lk) (.slice none 0 0):=by
  rw[List.eq_replicate_iff]
  refine⟨by simp,fun v hv=>?_⟩
  obtain⟨a,_,rfl⟩:=List.mem_map.1 hv
  rw[if_neg (by omega)]
def lbNext(lb:Nat→Nat)(a nb:Nat):Nat→Nat:=fun x=>if x=a then nb else lb x
theorem kb_next{lk j nk nb:Nat}{lb:Nat→Nat}(h1:lk≤j):(((List.range (512-lk)).map fun a=>if a<j-lk then Value.slice (some ⟨lb a,0,none⟩) nk nk else .slice none 0 0)).set ((j-lk)*1) (.slice (some ⟨nb,0,none⟩) nk nk)=((List.range (512-lk)).map fun a=>if a<(j+1)-lk then Value.slice (some ⟨(lbNext lb (j-lk) nb) a,0,none⟩) nk nk else .slice none 0 0):=by
  refine map_set (by rw[if_pos (by omega),lbNext,if_pos U]) fun o ho hne=>?_
  rw[lbNext,if_neg hne]
  by_cases h3:o<j-lk
  · rw[if_pos (by omega),if_pos h3]
  · rw[if_neg (by omega),if_neg h3]
theorem kb_end{lk nk:Nat}(lb:Nat→Nat):((List.range (512-lk)).map fun a=>if a<512-lk then Value.slice (some ⟨lb a,0,none⟩) nk nk else .slice none 0 0)=Fj (512-lk) lb nk:=by
  unfold Fj
  exact List.map_congr_left fun a ha=>by rw[if_pos (List.mem_range.1 ha)]
theorem LkF_more{c nb nk:Nat}{lb:Nat→Nat}:LkF (c+1) (lbNext lb c nb) (fun _ _=>0) nk=LkF c lb (fun _ _=>0) nk++[⟨nb,0,cellsU nk (fun _=>0)⟩]:=by
  unfold LkF
  rw[List.range_succ,List.map_append]
  congr 1
  · exact List.map_congr_left fun a ha=>by rw[lbNext,if_neg (by have:=List.mem_range.1 ha;omega)]
  · simp[lbNext]
theorem cellsU_zero(n:Nat):List.replicate n (Value.int .u32 0)=cellsU n (fun _=>0):=by
  symm;unfold cellsU
  rw[List.eq_replicate_iff]
  refine⟨by simp,fun v hv=>?_⟩
  obtain⟨a,_,rfl⟩:=List.mem_map.1 hv
  rfl
theorem revB_sh7(j:Nat):revB 16 j>>>7=revB 9 j:=by rw[Nat.shiftRight_eq_div_pow];exact Gr (by decide:9≤16) j
theorem revB_sh{n:Nat}(c:Nat)(h:n≤16):revB 16 c>>>(16-n)=revB n c:=by rw[Nat.shiftRight_eq_div_pow];exact Gr h c
theorem filll_zero{c lk nk n r v h:Nat}{lb:Nat→Nat}{g:Nat→Nat→Nat}(hr:r<2^n):LkF c lb (fun a q=>if a=h∧q<r∧q%2^n=r then v else g a q) nk=LkF c lb g nk:=by
  unfold LkF
  refine List.map_congr_left fun a _=>?_
  rw[cellsU_congr fun x _=>if_neg ?_]
  rintro⟨_,h1,h2⟩
  rw[Nat.mod_eq_of_lt (by omega)]at h2
  omega
theorem filll_next{c nk n off r v h:Nat}{lb:Nat→Nat}{g:Nat→Nat→Nat}(ho:off%2^n=r):(LkF c lb (fun a q=>if a=h∧q<off∧q%2^n=r then v else g a q) nk).set h ⟨lb h,0,(cellsU nk ((fun a q=>if a=h∧q<off∧q%2^n=r then v else g a q) h)).set (off*1) (.int .u32 ((v:Nat):Int))⟩=
    LkF c lb (fun a q=>if a=h∧q<off+2^n∧q%2^n=r then v else g a q) nk:=by
  refine LkF_set (cellsU_set ?_ fun x _ hne=>?_).symm fun x hx=>?_
  · rw[if_pos ⟨rfl,by have:=Nat.pow_pos (n:=n) (show 0<2 by omega);omega,ho⟩]
  · dsimp only
    by_cases h1:x<off+2^n∧x%2^n=r
    · rw[if_pos ⟨rfl,h1⟩,if_pos]
      refine⟨rfl,?_,h1.2⟩
      rcases Nat.lt_or_ge x off with h2|h2
      · exact h2
      · exfalso
        obtain⟨d,rfl⟩:=Nat.exists_eq_add_of_le h2
        have h3:(off+d)%2^n=off%2^n:=by rw[h1.2,ho]
        have h4:d%2^n=0:=by
          have h5:=Nat.sub_mod_eq_zero_of_mod_eq h3
          rwa [Nat.add_sub_cancel_left]at h5
        rw[Nat.mod_eq_of_lt (by omega)]at h4
        exact hne (by omega)
    · rw[if_neg (fun h2=>h1 h2.2),if_neg (fun h2=>h1 ⟨by omega,h2.2.2⟩)]
  · funext q
    rw[if_neg (fun h2=>hx h2.1),if_neg (fun h2=>hx h2.1)]
def InitEnd(lens:List Nat)(hb o:Nat)(Fv:Frag)(r:Value)(L:Frags):Prop:=
  (okLens lens∧r=.bool true∧∃L1 J,HufT lens (minL lens) hb o L1∧Same L (Fv::L1++J))∨(¬okLens lens∧r=.bool false∧∃hz J,hz.length=515∧Same L (Fv::[⟨hb,o,hz⟩]++J))
theorem huf_join(hb o:Nat)(F:Frags):Same (⟨hb,o,[.int .i64 0]⟩::⟨hb,o+1,cellsU 512 (fun _=>0)⟩::⟨hb,o+513,[.slice none 0 0,.int .u32 0]⟩::F) (⟨hb,o,hufZ⟩::F):=
  (Same.chunks hb F [(o,[.int .i64 0]),(o+1,cellsU 512 (fun _=>0)),(o+513,[.slice none 0 0,.int .u32 0])] o (by simp[Gw,Es])).symm
theorem empty_res{lens:List Nat}{hb o:Nat}(h:maxL lens=0):HufT lens (minL lens) hb o [⟨hb,o,[.int .i64 ((0:Nat):Int)]⟩,⟨hb,o+1,cellsU 512 (fun _=>0)⟩,⟨hb,o+513,[.slice none 0 0,.int .u32 0]⟩]:=by
  have hm:minL lens=0:=by
    by_cases h0:minL lens=0
    · exact h0
    · have:=(Fs lens).2.2 h0
      have:=le_maxL this
      omega
  refine⟨fun _=>0,fun _ _=>0,0,1,_,[],tab_empty h,fun _ _=>(by decide:0<65536),fun _ _=>(by decide:0<65536),by decide,by decide,⟨0,rfl⟩,fun _=>⟨fun _ _=>rfl,rfl,rfl⟩,?_,.inl ⟨rfl,rfl,rfl⟩⟩
  rw[hm];rfl
theorem small_res{lens:List Nat}{hb o:Nat}{f:Nat→Nat}(h:TabOK lens f (fun _ _=>0) 0 1)(hf:∀x,x<512→f x<65536)(hp:0<minL lens):HufT lens (minL lens) hb o [⟨hb,o,[.int .i64 ((minL lens:Nat):Int)]⟩,⟨hb,o+1,cellsU 512 f⟩,⟨hb,o+513,[.slice none 0 0,.int .u32 0]⟩]:=
  ⟨f,fun _ _=>0,0,1,_,[],h,hf,fun _ _=>(by decide:0<65536),by decide,by decide,⟨0,rfl⟩,fun h=>by omega,rfl,.inl ⟨rfl,rfl,rfl⟩⟩
theorem big_res{lens:List Nat}{hb o lk nk kb:Nat}{lb:Nat→Nat}{f:Nat→Nat}{g:Nat→Nat→Nat}(h:TabOK lens f g (512-lk) nk)(hf:∀x,x<512→f x<65536)(hg:∀a q,g a q<65536)(h0:0<nk)(h64:nk≤64)(h2:∃e,nk=2^e)(hp:0<minL lens):
    HufT lens (minL lens) hb o ([⟨hb,o,[.int .i64 ((minL lens:Nat):Int)]⟩,⟨hb,o+1,cellsU 512 f⟩,⟨hb,o+513,[.slice (some ⟨kb,0,none⟩) ((512-lk)) (512-lk),.int .u32 ((nk-1:Nat):Int)]⟩]++(⟨kb,0,Fj (512-lk) lb nk⟩::LkF (512-lk) lb g nk)):=
  ⟨f,g,512-lk,nk,_,_,h,hf,hg,h0,h64,h2,fun h=>by omega,rfl,.inr ⟨kb,lb,rfl,rfl⟩⟩
theorem init_walk{K:Known}(hb o vb vo vc mn0:Nat)(rest vs:List Value)(lens:List Nat)(hrl:rest.length=514)(hz:mn0=0→rest=cellsU 512 (fun _=>0)++[.slice none 0 0,.int .u32 0])(h15:∀x∈lens,x≤15)(hll:lens.length≤320):Fn Tryz.prog K 98 #[.pointer (some ⟨hb,o,none⟩),.slice (some ⟨vb,vo,none⟩) lens.length vc] ([⟨hb,o,.int .i64 ((mn0:Nat):Int)::rest⟩,⟨vb,vo,intsV lens++vs⟩]) (InitEnd lens hb o ⟨vb,vo,intsV lens++vs⟩):=by
 refine Fn.intro (args:=[.pointer (some ⟨hb,o,none⟩),.slice (some ⟨vb,vo,none⟩) lens.length vc]) (RR:=Ret1 4 _) Tryz.func98 rfl rfl Tryz.ntmps98 (res1 Tryz.results98) ?_
 refine Bi (env2:=[(0,.pointer (some ⟨hb,o,none⟩)),(1,.slice (some ⟨vb,vo,none⟩) lens.length vc)]) U<|Cr<|Ea U U<|Ek3 0 1 4 U<|Du (M:=fun ee ll=>keeps ee [0,1]=some [(0,.pointer (some ⟨hb,o,none⟩)),(1,.slice (some ⟨vb,vo,none⟩) lens.length vc)]∧ll=[⟨hb,o,hufZ⟩,⟨vb,vo,intsV lens++vs⟩]) ?_ ?_
 ·refine Cr<|Em U U<|Aa (Ad U) U<|Aa (Ab U fa177_0) U<|Ag (Aj 0 (k:=0) U U U Ta3) U<|Aa (S.ne (b:=((0:Nat):Int)) U U) U<|Ek4 0 1 4 38 U<|Bf U (fun h38=>?_) (fun h38=>?_)
  ·refine Al<|Em U U<|Aa (Et (v:=.agg hufZ.toArray) [] U hufBuild) U<|Aa (Ad U) U ?_
   refine Ao (Bq 0 (k:=0) U U U hufZ_one hufZ_len (by rw[List.length_cons,hrl];rfl) Tryz.sizeOf177 U) ?_
   rintro _ _⟨rfl,rfl⟩
   refine Ax (L2:=[⟨hb,o,hufZ⟩,⟨vb,vo,intsV lens++vs⟩]) (by rw[List.take_zero,List.nil_append,List.drop_eq_nil_of_le (by rw[List.length_cons,hrl];decide),List.append_nil];rfl) ?_
   refine Ek4 0 1 4 38 U ?_
   exact⟨rfl,rfl⟩
  have hm0:mn0=0:=by omega
  subst hm0
  have hr0:=hz rfl
  subst hr0
  refine Ap ?_
  exact⟨rfl,rfl⟩
 rintro _ _⟨hq3,rfl⟩
 refine Av _ hq3<|Am<|Ga (Same.chunks hb [⟨vb,vo,intsV lens++vs⟩] [(o,[.int .i64 0]),(o+1,cellsU 512 (fun _=>0)),(o+513,[.slice none 0 0,.int .u32 0])] o (by simp[Gw,Es]))<|Bx (L2:=[⟨hb,o,[.int .i64 ((0:Nat):Int)]⟩,⟨hb,o+1,cellsU 512 (fun _=>0)⟩,⟨hb,o+513,[.slice none 0 0,.int .u32 0]⟩,⟨vb,vo,intsV lens++vs⟩]) U<|Al ?_
 refine Ai (Dq Tryz.zeroValue212) U ?_;rintro _ _⟨b5,rfl,rfl⟩;refine Er5 U ?_
 refine Ax (L2:=[⟨b5,0,cellsI 16 (cntL (lens.take 0))⟩,⟨hb,o,[.int .i64 ((0:Nat):Int)]⟩,⟨hb,o+1,cellsU 512 (fun _=>0)⟩,⟨hb,o+513,[.slice none 0 0,.int .u32 0]⟩,⟨vb,vo,intsV lens++vs⟩]) U<|Ek3 0 1 5 U<|Cr<|Ea U U<|Ea U U<|Ek5 0 1 5 6 7 U<|Am<|Cr<|Em U U<|Aa (Bc U Tu23) U<|Em U U<|Ek8 0 1 5 6 7 42 43 44 U ?_
 refine As<|Bw (fun mm ee ll=>∃(i:Nat),∃(mn:Nat),∃(mx:Nat),keeps ee [0,1,5,6,7,42,43,44]=some [(0,.pointer (some ⟨hb,o,none⟩)),(1,.slice (some ⟨vb,vo,none⟩) lens.length vc),(5,.pointer (some ⟨b5,0,none⟩)),(6,.int .i64 ((mn:Nat):Int)),(7,.int .i64 ((mx:Nat):Int)),(42,.slice (some ⟨vb,vo,none⟩) lens.length vc),(43,.int .i64 ((lens.length:Nat):Int)),(44,.int .i64 ((i:Nat):Int))]∧ll=[⟨b5,0,cellsI 16 (cntL (lens.take i))⟩,⟨hb,o,[.int .i64 ((0:Nat):Int)]⟩,⟨hb,o+1,cellsU 512 (fun _=>0)⟩,⟨hb,o+513,[.slice none 0 0,.int .u32 0]⟩,⟨vb,vo,intsV lens++vs⟩]∧(i≤lens.length)∧(mn=minL (lens.take i))∧(mx=maxL (lens.take i))∧mm=lens.length-i) (_) ⟨0,0,0,rfl,rfl,by omega,rfl,rfl,rfl⟩ ?_
 rintro m0 _ _⟨i,mn,mx,hk0,rfl,hi,hmn,hmx,hm0⟩
 refine Av _ hk0<|Cr<|Aa (Dl U U) U<|Ek9 0 1 5 6 7 42 43 44 45 U<|Am<|Bf U (fun h45=>?_) (fun h45=>?_)
 ·have hi2:i<lens.length:=by omega
  have hn15:lens[i]≤15:=h15 _ (List.getElem_mem hi2)
  have hcl:=cntL_le (lens.take i) lens[i]
  rw[List.length_take]at hcl
  refine Ap<|Du (M:=fun ee ll=>∃(mn2:Nat),∃(mx2:Nat),keeps ee [0,1,5,6,7,42,43,44]=some [(0,.pointer (some ⟨hb,o,none⟩)),(1,.slice (some ⟨vb,vo,none⟩) lens.length vc),(5,.pointer (some ⟨b5,0,none⟩)),(6,.int .i64 ((mn2:Nat):Int)),(7,.int .i64 ((mx2:Nat):Int)),(42,.slice (some ⟨vb,vo,none⟩) lens.length vc),(43,.int .i64 ((lens.length:Nat):Int)),(44,.int .i64 ((i:Nat):Int))]∧ll=[⟨b5,0,cellsI 16 (cntL (lens.take (i+1)))⟩,⟨hb,o,[.int .i64 ((0:Nat):Int)]⟩,⟨hb,o+1,cellsU 512 (fun _=>0)⟩,⟨hb,o+513,[.slice none 0 0,.int .u32 0]⟩,⟨vb,vo,intsV lens++vs⟩]∧(mn2=minL (lens.take (i+1)))∧(mx2=maxL (lens.take (i+1)))) ?_ ?_
  ·refine As<|Cr<|Aa (Bm U U (by omega) Tu23 Tz3) U<|Ag (Aj 4 (k:=i*1) U U (Ej hi2) Ta3) U<|Ea U U<|Ek10 0 1 5 6 7 9 42 43 44 45 U<|Am<|Cr<|Em U U<|Aa (Ef (b:=((0:Nat):Int)) U U) U<|Ek11 0 1 5 6 7 9 42 43 44 45 49 U<|Bf U (fun h49=>?_) (fun h49=>?_)
   ·refine Bu U ?_
    exact⟨mn,mx,rfl,by rw[cntL_zero hi2 (by omega)],by rw[minL_take hi2,if_pos (by omega)];exact hmn,by rw[maxL_take hi2];omega⟩
   refine Ap<|Am<|Cr<|Em U U<|Aa (Ef (b:=((0:Nat):Int)) U U) U<|Em U U<|Ek (fun g52=>?_) (fun g52=>?_)
   ·refine Ae 52 true U U U U<|Ae 52 true U U U U<|Ae 52 true U U U U<|Aa (Bz U U) U<|Ek12 0 1 5 6 7 9 42 43 44 45 49 56 U<|He U (rfl)<|Al<|Em U U<|Ea U U<|Ek12 0 1 5 6 7 9 42 43 44 45 49 56 U<|Am<|Cr ?_
    refine Em U U<|Em U U<|Aa (Fh U U) U<|Ek13 0 1 5 6 7 9 42 43 44 45 49 56 60 U<|Bf U (fun h60=>?_) (fun h60=>?_)
    ·refine Al<|Em U U<|Ea U U<|Ek13 0 1 5 6 7 9 42 43 44 45 49 56 60 U<|Al<|Em U U<|Aa (Bj U U (by omega) Tu212 Tz3) U<|Ag (Aj 0 (k:=lens[i]*1) U U (Ec (by omega)) Ta3) U<|Aa (Bl (b:=((1:Nat):Int)) U U (N.add64 (by omega))) U<|Aa (Bj U U (by omega) Tu212 Tz3) U ?_
     refine Ao (Aq 0 (k:=lens[i]*1) U U U U (by rw[Nat.blt_eq,Dk];omega) Tz3) ?_
     rintro _ _⟨rfl,rfl⟩
     refine Ax (L2:=[⟨b5,0,cellsI 16 (cntL (lens.take (i+1)))⟩,⟨hb,o,[.int .i64 ((0:Nat):Int)]⟩,⟨hb,o+1,cellsU 512 (fun _=>0)⟩,⟨hb,o+513,[.slice none 0 0,.int .u32 0]⟩,⟨vb,vo,intsV lens++vs⟩]) (congrArg (fun q=>([(⟨b5,0,q⟩:Frag),⟨hb,o,[.int .i64 ((0:Nat):Int)]⟩,⟨hb,o+1,cellsU 512 (fun _=>0)⟩,⟨hb,o+513,[.slice none 0 0,.int .u32 0]⟩,⟨vb,vo,intsV lens++vs⟩]:Frags)) (cntL_more hi2 (by omega)))<|Ek13 0 1 5 6 7 9 42 43 44 45 49 56 60 U ?_
     exact⟨_,_,rfl,rfl,by rw[minL_take hi2,if_neg (by omega),←hmn];split<;>omega,by rw[maxL_take hi2,←hmx];omega⟩
    refine Ap<|Al<|Em U U<|Aa (Bj U U (by omega) Tu212 Tz3) U<|Ag (Aj 0 (k:=lens[i]*1) U U (Ec (by omega)) Ta3) U<|Aa (Bl (b:=((1:Nat):Int)) U U (N.add64 (by omega))) U<|Aa (Bj U U (by omega) Tu212 Tz3) U ?_
    refine Ao (Aq 0 (k:=lens[i]*1) U U U U (by rw[Nat.blt_eq,Dk];omega) Tz3) ?_
    rintro _ _⟨rfl,rfl⟩
    refine Ax (L2:=[⟨b5,0,cellsI 16 (cntL (lens.take (i+1)))⟩,⟨hb,o,[.int .i64 ((0:Nat):Int)]⟩,⟨hb,o+1,cellsU 512 (fun _=>0)⟩,⟨hb,o+513,[.slice none 0 0,.int .u32 0]⟩,⟨vb,vo,intsV lens++vs⟩]) (congrArg (fun q=>([(⟨b5,0,q⟩:Frag),⟨hb,o,[.int .i64 ((0:Nat):Int)]⟩,⟨hb,o+1,cellsU 512 (fun _=>0)⟩,⟨hb,o+513,[.slice none 0 0,.int .u32 0]⟩,⟨vb,vo,intsV lens++vs⟩]:Frags)) (cntL_more hi2 (by omega)))<|Ek13 0 1 5 6 7 9 42 43 44 45 49 56 60 U ?_
    exact⟨_,_,rfl,rfl,by rw[minL_take hi2,if_neg (by omega),←hmn];split<;>omega,by rw[maxL_take hi2,←hmx];omega⟩
   refine Ak 52 U U<|Em U U<|Ak 52 U U<|Em U U<|Ak 52 U U<|Aa (Dl U U) U<|Aa (Bk U U) U<|Ek12 0 1 5 6 7 9 42 43 44 45 49 56 U<|Bf U (fun h56=>?_) (fun h56=>?_)
   ·refine Al<|Em U U<|Ea U U<|Ek12 0 1 5 6 7 9 42 43 44 45 49 56 U<|Am<|Cr<|Em U U<|Em U U<|Aa (Fh U U) U<|Ek13 0 1 5 6 7 9 42 43 44 45 49 56 60 U<|Bf U (fun h60=>?_) (fun h60=>?_)
    ·refine Al<|Em U U<|Ea U U<|Ek13 0 1 5 6 7 9 42 43 44 45 49 56 60 U<|Al<|Em U U<|Aa (Bj U U (by omega) Tu212 Tz3) U<|Ag (Aj 0 (k:=lens[i]*1) U U (Ec (by omega)) Ta3) U<|Aa (Bl (b:=((1:Nat):Int)) U U (N.add64 (by omega))) U<|Aa (Bj U U (by omega) Tu212 Tz3) U ?_
     refine Ao (Aq 0 (k:=lens[i]*1) U U U U (by rw[Nat.blt_eq,Dk];omega) Tz3) ?_
     rintro _ _⟨rfl,rfl⟩
     refine Ax (L2:=[⟨b5,0,cellsI 16 (cntL (lens.take (i+1)))⟩,⟨hb,o,[.int .i64 ((0:Nat):Int)]⟩,⟨hb,o+1,cellsU 512 (fun _=>0)⟩,⟨hb,o+513,[.slice none 0 0,.int .u32 0]⟩,⟨vb,vo,intsV lens++vs⟩]) (congrArg (fun q=>([(⟨b5,0,q⟩:Frag),⟨hb,o,[.int .i64 ((0:Nat):Int)]⟩,⟨hb,o+1,cellsU 512 (fun _=>0)⟩,⟨hb,o+513,[.slice none 0 0,.int .u32 0]⟩,⟨vb,vo,intsV lens++vs⟩]:Frags)) (cntL_more hi2 (by omega)))<|Ek13 0 1 5 6 7 9 42 43 44 45 49 56 60 U ?_
     exact⟨_,_,rfl,rfl,by rw[minL_take hi2,if_neg (by omega),←hmn];split<;>omega,by rw[maxL_take hi2,←hmx];omega⟩
    refine Ap<|Al<|Em U U<|Aa (Bj U U (by omega) Tu212 Tz3) U<|Ag (Aj 0 (k:=lens[i]*1) U U (Ec (by omega)) Ta3) U<|Aa (Bl (b:=((1:Nat):Int)) U U (N.add64 (by omega))) U<|Aa (Bj U U (by omega) Tu212 Tz3) U ?_
    refine Ao (Aq 0 (k:=lens[i]*1) U U U U (by rw[Nat.blt_eq,Dk];omega) Tz3) ?_
    rintro _ _⟨rfl,rfl⟩
    refine Ax (L2:=[⟨b5,0,cellsI 16 (cntL (lens.take (i+1)))⟩,⟨hb,o,[.int .i64 ((0:Nat):Int)]⟩,⟨hb,o+1,cellsU 512 (fun _=>0)⟩,⟨hb,o+513,[.slice none 0 0,.int .u32 0]⟩,⟨vb,vo,intsV lens++vs⟩]) (congrArg (fun q=>([(⟨b5,0,q⟩:Frag),⟨hb,o,[.int .i64 ((0:Nat):Int)]⟩,⟨hb,o+1,cellsU 512 (fun _=>0)⟩,⟨hb,o+513,[.slice none 0 0,.int .u32 0]⟩,⟨vb,vo,intsV lens++vs⟩]:Frags)) (cntL_more hi2 (by omega)))<|Ek13 0 1 5 6 7 9 42 43 44 45 49 56 60 U ?_
    exact⟨_,_,rfl,rfl,by rw[minL_take hi2,if_neg (by omega),←hmn];split<;>omega,by rw[maxL_take hi2,←hmx];omega⟩
   refine Ap<|Am<|Cr<|Em U U<|Em U U<|Aa (Fh U U) U<|Ek13 0 1 5 6 7 9 42 43 44 45 49 56 60 U<|Bf U (fun h60=>?_) (fun h60=>?_)
   ·refine Al<|Em U U<|Ea U U<|Ek13 0 1 5 6 7 9 42 43 44 45 49 56 60 U<|Al<|Em U U<|Aa (Bj U U (by omega) Tu212 Tz3) U<|Ag (Aj 0 (k:=lens[i]*1) U U (Ec (by omega)) Ta3) U<|Aa (Bl (b:=((1:Nat):Int)) U U (N.add64 (by omega))) U<|Aa (Bj U U (by omega) Tu212 Tz3) U ?_
    refine Ao (Aq 0 (k:=lens[i]*1) U U U U (by rw[Nat.blt_eq,Dk];omega) Tz3) ?_
    rintro _ _⟨rfl,rfl⟩
    refine Ax (L2:=[⟨b5,0,cellsI 16 (cntL (lens.take (i+1)))⟩,⟨hb,o,[.int .i64 ((0:Nat):Int)]⟩,⟨hb,o+1,cellsU 512 (fun _=>0)⟩,⟨hb,o+513,[.slice none 0 0,.int .u32 0]⟩,⟨vb,vo,intsV lens++vs⟩]) (congrArg (fun q=>([(⟨b5,0,q⟩:Frag),⟨hb,o,[.int .i64 ((0:Nat):Int)]⟩,⟨hb,o+1,cellsU 512 (fun _=>0)⟩,⟨hb,o+513,[.slice none 0 0,.int .u32 0]⟩,⟨vb,vo,intsV lens++vs⟩]:Frags)) (cntL_more hi2 (by omega)))<|Ek13 0 1 5 6 7 9 42 43 44 45 49 56 60 U ?_
    exact⟨_,_,rfl,rfl,by rw[minL_take hi2,if_neg (by omega),←hmn];split<;>omega,by rw[maxL_take hi2,←hmx];omega⟩
   refine Ap<|Al<|Em U U<|Aa (Bj U U (by omega) Tu212 Tz3) U<|Ag (Aj 0 (k:=lens[i]*1) U U (Ec (by omega)) Ta3) U<|Aa (Bl (b:=((1:Nat):Int)) U U (N.add64 (by omega))) U<|Aa (Bj U U (by omega) Tu212 Tz3) U ?_
   refine Ao (Aq 0 (k:=lens[i]*1) U U U U (by rw[Nat.blt_eq,Dk];omega) Tz3) ?_
   rintro _ _⟨rfl,rfl⟩
   refine Ax (L2:=[⟨b5,0,cellsI 16 (cntL (lens.take (i+1)))⟩,⟨hb,o,[.int .i64 ((0:Nat):Int)]⟩,⟨hb,o+1,cellsU 512 (fun _=>0)⟩,⟨hb,o+513,[.slice none 0 0,.int .u32 0]⟩,⟨vb,vo,intsV lens++vs⟩]) (congrArg (fun q=>([(⟨b5,0,q⟩:Frag),⟨hb,o,[.int .i64 ((0:Nat):Int)]⟩,⟨hb,o+1,cellsU 512 (fun _=>0)⟩,⟨hb,o+513,[.slice none 0 0,.int .u32 0]⟩,⟨vb,vo,intsV lens++vs⟩]:Frags)) (cntL_more hi2 (by omega)))<|Ek13 0 1 5 6 7 9 42 43 44 45 49 56 60 U ?_
   exact⟨_,_,rfl,rfl,by rw[minL_take hi2,if_neg (by omega),←hmn];split<;>omega,by rw[maxL_take hi2,←hmx];omega⟩
  rintro _ _⟨mn2,mx2,hq14,rfl,hmn2,hmx2⟩
  refine Av _ hq14<|Al<|Aa (Bl (b:=((1:Nat):Int)) U U (N.add64 (by omega))) U<|Em U U<|Ek8 0 1 5 6 7 42 43 44 U ?_
  refine⟨_,?_,i+1,mn2,mx2,rfl,rfl,by omega,hmn2,hmx2,rfl⟩;omega
 have hi2:i=lens.length:=by omega
 subst hi2
 rw[List.take_length]at hmn hmx
 subst hmn hmx
 refine Bx (L2:=[⟨b5,0,cellsI 16 (cntL lens)⟩,⟨hb,o,[.int .i64 ((0:Nat):Int)]⟩,⟨hb,o+1,cellsU 512 (fun _=>0)⟩,⟨hb,o+513,[.slice none 0 0,.int .u32 0]⟩,⟨vb,vo,intsV lens++vs⟩]) (by rw[List.take_length])<|Bu U<|Am<|Cr<|Em U U<|Aa (Ef (b:=((0:Nat):Int)) U U) U<|Ek10 0 1 5 6 7 42 43 44 45 69 U<|Bf U (fun h69=>?_) (fun h69=>?_)
 ·have hm0:maxL lens=0:=by omega
  have hok:okLens lens:=.inl hm0
  refine Cr<|Ea U U<|Ek11 0 1 4 5 6 7 42 43 44 45 69 U<|Bb ?_
  exact⟨_,rfl,.inl ⟨hok,rfl,_,[_],empty_res hm0,Same.perm (Br (A:=[_,_,_,_]) (F:=[_]) (is:=[4,1,1,1]) U)⟩⟩
 have hmp:=min_pos (l:=lens) (by omega)
 have hm15:maxL lens≤15:=maxL_le h15
 have h2m:2^maxL lens≤2^15:=Nat.pow_le_pow_right (by omega) hm15
 refine Ap<|Cr<|Ea U U<|Ek11 0 1 5 6 7 10 42 43 44 45 69 U<|Cr ?_
 refine Ai (Dq Tryz.zeroValue212) U ?_;rintro _ _⟨b11,rfl,rfl⟩;refine Er6 U ?_
 refine Ax (L2:=[⟨b11,0,cellsI 16 (nextF lens (minL lens) (minL lens))⟩,⟨b5,0,cellsI 16 (cntL lens)⟩,⟨hb,o,[.int .i64 ((0:Nat):Int)]⟩,⟨hb,o+1,cellsU 512 (fun _=>0)⟩,⟨hb,o+513,[.slice none 0 0,.int .u32 0]⟩,⟨vb,vo,intsV lens++vs⟩]) (by rw[next_start];rfl) ?_
 refine Ek12 0 1 5 6 7 10 11 42 43 44 45 69 U<|Am<|Cr<|Em U U<|Ea U U<|Ek13 0 1 5 6 7 10 11 12 42 43 44 45 69 U<|As<|Bw (fun mm ee ll=>∃(code:Nat),∃(i:Nat),keeps ee [0,1,5,6,7,11,10,12]=some [(0,.pointer (some ⟨hb,o,none⟩)),(1,.slice (some ⟨vb,vo,none⟩) lens.length vc),(5,.pointer (some ⟨b5,0,none⟩)),(6,.int .i64 ((minL lens:Nat):Int)),(7,.int .i64 ((maxL lens:Nat):Int)),(11,.pointer (some ⟨b11,0,none⟩)),(10,.int .i64 ((code:Nat):Int)),(12,.int .i64 ((i:Nat):Int))]∧ll=[⟨b11,0,cellsI 16 (nextF lens (minL lens) i)⟩,⟨b5,0,cellsI 16 (cntL lens)⟩,⟨hb,o,[.int .i64 ((0:Nat):Int)]⟩,⟨hb,o+1,cellsU 512 (fun _=>0)⟩,⟨hb,o+513,[.slice none 0 0,.int .u32 0]⟩,⟨vb,vo,intsV lens++vs⟩]∧(minL lens≤i)∧(i≤maxL lens+1)∧(2*code=firstC lens i)∧mm=maxL lens+1-i) (_) ⟨0,minL lens,rfl,rfl,Nat.le_refl _,by omega,by rw[first_min lens _ (Nat.le_refl _)],rfl⟩ ?_
 rintro m1 _ _⟨code,i,hk1,rfl,hi1,hi2,hc,hm1⟩
 refine Av _ hk1<|Am<|Cr<|Em U U<|Em U U<|Aa (S.le U U) U<|Ek9 0 1 5 6 7 10 11 12 73 U<|Bf U (fun h73=>?_) (fun h73=>?_)
 ·have hfl:=first_le (l:=lens) (k:=i) hll (by omega)
  have hcl:=cntL_le lens i
  refine Ap<|Am<|As<|Cr<|Em U U ?_
  refine Aa (Fy (b:=((1:Nat):Int)) U U (by omega) (N.shl64 (by rw[Nat.shiftLeft_eq];omega))) U ?_
  refine An (v:=.int .i64 ((firstC lens i:Nat):Int)) (congrArg (fun q:Nat=>Value.int .i64 (q:Int)) (by rw[Nat.shiftLeft_eq];omega)) ?_
  refine Ea U U<|Ek9 0 1 5 6 7 10 11 12 73 U<|Cr<|Em U U<|Em U U<|Aa (Bj U U (by omega) Tu212 Tz3) U ?_
  refine Ao (Aq 0 (k:=i*1) U U U U (by rw[Nat.blt_eq,Dk];omega) Tz3) ?_
  rintro _ _⟨rfl,rfl⟩
  refine Ax (L2:=[⟨b11,0,cellsI 16 (nextF lens (minL lens) (i+1))⟩,⟨b5,0,cellsI 16 (cntL lens)⟩,⟨hb,o,[.int .i64 ((0:Nat):Int)]⟩,⟨hb,o+1,cellsU 512 (fun _=>0)⟩,⟨hb,o+513,[.slice none 0 0,.int .u32 0]⟩,⟨vb,vo,intsV lens++vs⟩]) (congrArg (fun q=>([(⟨b11,0,q⟩:Frag),⟨b5,0,cellsI 16 (cntL lens)⟩,⟨hb,o,[.int .i64 ((0:Nat):Int)]⟩,⟨hb,o+1,cellsU 512 (fun _=>0)⟩,⟨hb,o+513,[.slice none 0 0,.int .u32 0]⟩,⟨vb,vo,intsV lens++vs⟩]:Frags)) (next_set hi1))<|Ek9 0 1 5 6 7 10 11 12 73 U<|Al<|Em U U<|Em U U<|Aa (Bj U U (by omega) Tu212 Tz3) U<|Ag (Aj 1 (k:=i*1) U U (Ec (by omega)) Ta3) U<|Aa (Bl U U (N.add64 (by omega))) U<|Ea U U<|Ek9 0 1 5 6 7 10 11 12 73 U<|Al<|Em U U ?_
  refine Aa (Bl (b:=((1:Nat):Int)) U U (N.add64 (by omega))) U<|Ea U U<|Ek9 0 1 5 6 7 10 11 12 73 U ?_
  refine⟨_,?_,firstC lens i+cntL lens i,i+1,rfl,rfl,by omega,by omega,rfl,rfl⟩;omega
 have hi3:i=maxL lens+1:=by omega
 subst hi3
 have hcode:code=firstC lens (maxL lens)+cntL lens (maxL lens):=by
   have h:2*code=2*(firstC lens (maxL lens)+cntL lens (maxL lens)):=hc
   omega
 subst hcode
 have hfl:=first_le (l:=lens) (k:=maxL lens) hll hm15
 refine Bx (L2:=[⟨b11,0,cellsI 16 (nextK lens (minL lens) (maxL lens) 0)⟩,⟨b5,0,cellsI 16 (cntL lens)⟩,⟨hb,o,[.int .i64 ((0:Nat):Int)]⟩,⟨hb,o+1,cellsU 512 (fun _=>0)⟩,⟨hb,o+513,[.slice none 0 0,.int .u32 0]⟩,⟨vb,vo,intsV lens++vs⟩]) (by rw[next_done])<|Bu U<|Du (M:=fun ee ll=>keeps ee [0,1,5,6,7,11]=some [(0,.pointer (some ⟨hb,o,none⟩)),(1,.slice (some ⟨vb,vo,none⟩) lens.length vc),(5,.pointer (some ⟨b5,0,none⟩)),(6,.int .i64 ((minL lens:Nat):Int)),(7,.int .i64 ((maxL lens:Nat):Int)),(11,.pointer (some ⟨b11,0,none⟩))]∧ll=[⟨b11,0,cellsI 16 (nextK lens (minL lens) (maxL lens) 0)⟩,⟨b5,0,cellsI 16 (cntL lens)⟩,⟨hb,o,[.int .i64 ((0:Nat):Int)]⟩,⟨hb,o+1,cellsU 512 (fun _=>0)⟩,⟨hb,o+513,[.slice none 0 0,.int .u32 0]⟩,⟨vb,vo,intsV lens++vs⟩]∧(firstC lens (maxL lens)+cntL lens (maxL lens)=2^maxL lens∨(maxL lens=1∧firstC lens 1+cntL lens 1=1))) ?_ ?_
 ·refine Cr<|Em U U<|Em U U<|Aa (Bv U Tu3 Tu137 (N.in_u64 (by omega))) U ?_
  refine Aa (Fy (a:=((1:Nat):Int)) U U (by omega) (N.shl64 (by rw[Nat.one_shiftLeft];omega))) U ?_
  refine An (v:=.int .i64 ((2^maxL lens:Nat):Int)) (congrArg (fun q:Nat=>Value.int .i64 (q:Int)) (by rw[Nat.one_shiftLeft]))<|Aa (S.ne U U) U<|Em U U<|Ek (fun g91=>?_) (fun g91=>?_)
  ·refine Ak 91 U U<|Em U U<|Ak 91 U U<|Aa (Ef (b:=((1:Nat):Int)) U U) U<|Ak 91 U U<|Em U U<|Ek (fun g94=>?_) (fun g94=>?_)
   ·refine Ak 94 U U<|Em U U<|Ak 94 U U<|Aa (Ef (b:=((1:Nat):Int)) U U) U<|Ak 91 U U<|Aa (Bz U U) U<|Ak 91 U U<|Aa (Gc U) U<|Aa (Bz U U) U<|Ek10 0 1 5 6 7 10 11 12 73 99 U<|Eg U (fun h99=>?_) (fun h99=>?_)
    ·refine Am ?_
     have hno:¬okLens lens:=by
       rintro(h|h|⟨h,h2⟩)
       · omega
       · omega
       · have h3:firstC lens (maxL lens)+cntL lens (maxL lens)=1:=by rw[h];exact h2
         simp at h99;omega
     refine Al<|Ea U U<|Ek11 0 1 4 5 6 7 10 11 12 73 99 U<|Bb ?_
     refine⟨_,rfl,.inr ⟨hno,rfl,hufZ,[⟨b11,0,cellsI 16 (nextK lens (minL lens) (maxL lens) 0)⟩,⟨b5,0,cellsI 16 (cntL lens)⟩],hufZ_len,?_⟩⟩
     refine(Same.perm (Br (A:=[_,_,_,_,_,_]) (F:=[]) (is:=[2,2,2,2,0,0]) U)).trans ?_
     refine(huf_join hb o [_,_,_]).trans ?_
     exact Same.perm (List.Perm.swap _ _ _)
    refine Ap ?_
    exact⟨rfl,rfl,by first|exact .inl (by omega)|(have h1:maxL lens=1:=(by simp at h99;omega);exact .inr ⟨h1,by rw[h1]at g94;omega⟩)⟩
   refine Ae 94 false U U U U<|Ae 94 false U U U U<|Ak 91 U U<|Aa (Bk U U) U<|Ak 91 U U<|Aa (Gc U) U<|Aa (Bz U U) U<|Ek10 0 1 5 6 7 10 11 12 73 99 U<|He U (rfl)<|Am ?_
   have hno:¬okLens lens:=by
     rintro(h|h|⟨h,h2⟩)
     · omega
     · omega
     · have h3:firstC lens (maxL lens)+cntL lens (maxL lens)=1:=by rw[h];exact h2
       omega
   refine Al<|Ea U U<|Ek11 0 1 4 5 6 7 10 11 12 73 99 U<|Bb ?_
   refine⟨_,rfl,.inr ⟨hno,rfl,hufZ,[⟨b11,0,cellsI 16 (nextK lens (minL lens) (maxL lens) 0)⟩,⟨b5,0,cellsI 16 (cntL lens)⟩],hufZ_len,?_⟩⟩
   refine(Same.perm (Br (A:=[_,_,_,_,_,_]) (F:=[]) (is:=[2,2,2,2,0,0]) U)).trans ?_
   refine(huf_join hb o [_,_,_]).trans ?_
   exact Same.perm (List.Perm.swap _ _ _)
  refine Ae 91 false U U U U<|Ae 91 false U U U U<|Ae 91 false U U U U<|Fq 94 U U U<|Fq 94 U U U<|Ae 91 false U U U U<|Ae 91 false U U U U<|Aa (Bk U U) U<|Ek10 0 1 5 6 7 10 11 12 73 99 U<|C.no U (rfl)<|Ap ?_
  exact⟨rfl,rfl,by first|exact .inl (by omega)|(have h1:maxL lens=1:=(by simp at h99;omega);exact .inr ⟨h1,by rw[h1]at g94;omega⟩)⟩
 rintro _ _⟨hq27,rfl,hfull⟩
 refine Av _ hq27 ?_
 have hok:okLens lens:=.inr hfull
 have hfit:=Jj hok
 obtain⟨lk,hlk⟩:∃lk,lk=firstC lens 9+cntL lens 9:=⟨_,rfl⟩
 refine Cr<|Em U U<|Em U U<|Aa (Ad U) U<|Aa (Ab U fa177_0) U ?_
 refine Ao (Aq 2 (k:=0) U U U U U Tz3) ?_;rintro _ _⟨rfl,rfl⟩;refine Er6 U ?_
 refine Ek6 0 1 5 6 7 11 U<|Am<|Cr<|Em U U<|Aa (Fh (b:=((9:Nat):Int)) U U) U<|Ek7 0 1 5 6 7 11 105 U<|Bf U (fun h105=>?_) (fun h105=>?_)
 ·have hlk9:lk≤512:=by rw[hlk];exact hfit.at (l:=9) (by omega)
  have hnk:2^(maxL lens-9)≤64:=Nat.pow_le_pow_right (by omega) (by omega:maxL lens-9≤6)
  have hnk0:0<2^(maxL lens-9):=Nat.pow_pos (by omega)
  refine Cr<|Em U U<|Aa (Bv U Tu3 Tu137 (N.in_u64 (by omega))) U<|Aa (Dr (b:=((9:Nat):Int)) U U (N.sub_u64 (by omega) (by omega))) U ?_
  refine Aa (Fy (a:=((1:Nat):Int)) U U (by omega) (N.shl64 (by rw[Nat.one_shiftLeft];omega))) U ?_
  refine An (v:=.int .i64 ((2^(maxL lens-9):Nat):Int)) (congrArg (fun q:Nat=>Value.int .i64 (q:Int)) (by rw[Nat.one_shiftLeft]))<|Ea U U<|Ek8 0 1 5 6 7 11 13 105 U<|Cr<|Em U U<|Em U U<|Aa (Dr (b:=((1:Nat):Int)) U U (N.sub64 (by omega) (by omega))) U<|Aa (Bv U Tu3 Tu69 (N.in_u32 (by omega))) U<|Aa (Ad U) U<|Aa (Ab U fa177_3) U ?_
  refine Ao (Aq 4 (k:=1) U U U U U Tz69) ?_;rintro _ _⟨rfl,rfl⟩;refine Er6 U ?_
  refine Ek8 0 1 5 6 7 11 13 105 U<|Cr<|Aa (Bj (i:=10) U U (by omega) Tu212 Tz3) U<|Ag (Aj 0 (k:=10*1) U U (Ec (by omega)) Ta3) U ?_
  refine Aa (Fl (b:=((1:Nat):Int)) U U (by omega) (N.shr64 (by rw[next_ten (by omega)];omega) _)) U ?_
  refine An (v:=.int .i64 ((lk:Nat):Int)) (congrArg (fun q:Nat=>Value.int .i64 (q:Int)) (by rw[next_ten (by omega),Nat.shiftRight_eq_div_pow];omega)) ?_
  refine Ea U U<|Ek9 0 1 5 6 7 11 13 14 105 U<|Cr<|Em U U<|Em U U<|Aa (Dr (a:=((512:Nat):Int)) U U (N.sub64 (by omega) (by omega))) U ?_
  refine Ai (Hx (l:=512-lk) (c:=512-lk) (bytes:=24) Tu175 infoSlU (z:=.slice none 0 0) U U U U U U (Nat.le_refl _) (by omega) (by omega)) U ?_;rintro _ _⟨kb,rfl,rfl⟩;refine Er7 U ?_
  refine Aa (Ad U) U<|Aa (Ab U fa177_2) U ?_
  refine Ao (Aq 5 (k:=0) U U U U U Tryz.sizeOf175) ?_;rintro _ _⟨rfl,rfl⟩;refine Er7 U ?_
  refine Ek9 0 1 5 6 7 11 13 14 105 U<|Cr<|Em U U<|Aa (Bv U Tu3 Tu137 (N.in_u64 (by omega))) U<|Ea U U<|Ek10 0 1 5 6 7 11 13 14 15 105 U<|As ?_
  refine Bw (fun mm ee ll=>∃(j:Nat),∃(lb:Nat→Nat),keeps ee [0,1,6,7,11,13,14,15]=some [(0,.pointer (some ⟨hb,o,none⟩)),(1,.slice (some ⟨vb,vo,none⟩) lens.length vc),(6,.int .i64 ((minL lens:Nat):Int)),(7,.int .i64 ((maxL lens:Nat):Int)),(11,.pointer (some ⟨b11,0,none⟩)),(13,.int .i64 ((2^(maxL lens-9):Nat):Int)),(14,.int .i64 ((lk:Nat):Int)),(15,.int .u64 ((j:Nat):Int))]∧ll=[⟨kb,0,((List.range (512-lk)).map fun a=>if a<j-lk then Value.slice (some ⟨lb a,0,none⟩) (2^(maxL lens-9)) (2^(maxL lens-9))else .slice none 0 0)⟩,⟨b11,0,cellsI 16 (nextK lens (minL lens) (maxL lens) 0)⟩,⟨b5,0,cellsI 16 (cntL lens)⟩,⟨hb,o,[.int .i64 ((minL lens:Nat):Int)]⟩,⟨hb,o+1,cellsU 512 (fun x=>if lk≤revB 9 x∧revB 9 x<j then(revB 9 x-lk)*16+10 else 0)⟩,⟨hb,o+513,[.slice (some ⟨kb,0,none⟩) ((512-lk)) (512-lk),.int .u32 ((2^(maxL lens-9)-1:Nat):Int)]⟩,⟨vb,vo,intsV lens++vs⟩]++LkF (j-lk) lb (fun _ _=>0) (2^(maxL lens-9))∧(lk≤j)∧(j≤512)∧mm=512-j) (_) ⟨lk,fun _=>0,rfl,(by rw[kb_start,lnk_start];simp[LkF]),by omega,by omega,rfl⟩ ?_
  rintro m2 _ _⟨j,lb,hk2,rfl,hj1,hj2,hm2⟩
  refine Av _ hk2<|Am<|Cr<|Em U U<|Aa (Dl (b:=((512:Nat):Int)) U U) U<|Ek9 0 1 6 7 11 13 14 15 128 U<|Bf U (fun h128=>?_) (fun h128=>?_)
  ·have hj9:j<512:=by omega
   have hr16:=Eh 16 j
   have hr9:=Eh 9 j
   rw[show(2:Nat)^9=512 from rfl]at hr9
   refine Ap<|Am<|As<|Cr<|Em U U<|Aa (Bv U Tu137 Tu153 (N.in_u16 (by omega))) U ?_
   refine Ai (OpX.pick [] (F:=(_::_::_::_::_::_::_::_)) U (Ar U Tryz.call109 (reverse16_spec _ (by omega)))) U ?_;rintro _ _⟨_,⟨rfl,rfl⟩,rfl⟩;refine Et8 U ?_
   refine Aa (Bv U Tu153 Tu3 (N.i64n (by omega))) U<|Ea U U<|Ek10 0 1 6 7 11 13 14 15 16 128 U<|Cr<|Em U U<|Aa (Fl (b:=((7:Nat):Int)) U U (by omega) (N.shr64 (by omega) _)) U<|An (v:=.int .i64 ((revB 9 j:Nat):Int)) (congrArg (fun q:Nat=>Value.int .i64 (q:Int)) (by exact revB_sh7 j))<|Ea U U<|Ek10 0 1 6 7 11 13 14 15 16 128 U<|Cr<|Em U U<|Em U U ?_
   refine Aa (Bv U Tu3 Tu137 (N.in_u64 (by omega))) U<|Aa (Dr U U (N.sub_u64 (by omega) (by omega))) U<|Ea U U<|Ek11 0 1 6 7 11 13 14 15 16 17 128 U<|Am<|Cr<|Em U U<|Ae 141 false U U U U<|Ae 141 false U U U U<|Ae 141 false U U U U<|Ae 141 false U U U U<|Ae 141 false U U U U ?_
   refine Ae 141 false U U U U<|Ae 141 false U U U U<|Aa (Bk U U) U<|Ek12 0 1 6 7 11 13 14 15 16 17 128 149 U<|C.no U (rfl)<|Ap<|Cr<|Em U U<|Em U U<|Em U U<|Aa (Fy (b:=((4:Nat):Int)) U U (by omega) (N.shl_u64 _ _)) U ?_
   refine An (v:=.int .u64 (((j-lk)*16:Nat):Int)) (congrArg (fun q:Nat=>Value.int .u64 (q:Int)) (by rw[Nat.shiftLeft_eq];omega)) ?_
   refine Aa (S.or (b:=((10:Nat):Int)) U U (N.or_u64 (by omega) (by omega))) U<|An (v:=.int .u64 (((j-lk)*16+10:Nat):Int)) (congrArg (fun q:Nat=>Value.int .u64 (q:Int)) (by exact or16 _ _ (by omega)))<|Aa (Bv U Tu137 Tu69 (N.in_u32 (by omega))) U<|Aa (Ad U) U<|Aa (Ab U fa177_1) U<|Aa (Bj U U (by omega) Tu174 Tz69) U ?_
   refine Ao (Aq 4 (k:=revB 9 j*1) U U U U (by rw[Nat.blt_eq,Es];omega) Tz69) ?_
   rintro _ _⟨rfl,rfl⟩
   refine Ax (L2:=(⟨kb,0,((List.range (512-lk)).map fun a=>if a<j-lk then Value.slice (some ⟨lb a,0,none⟩) (2^(maxL lens-9)) (2^(maxL lens-9))else .slice none 0 0)⟩::⟨b11,0,cellsI 16 (nextK lens (minL lens) (maxL lens) 0)⟩::⟨b5,0,cellsI 16 (cntL lens)⟩::⟨hb,o,[.int .i64 ((minL lens:Nat):Int)]⟩::⟨hb,o+1,cellsU 512 (fun x=>if lk≤revB 9 x∧revB 9 x<(j+1)then(revB 9 x-lk)*16+10 else 0)⟩::⟨hb,o+513,[.slice (some ⟨kb,0,none⟩) ((512-lk)) (512-lk),.int .u32 ((2^(maxL lens-9)-1:Nat):Int)]⟩::⟨vb,vo,intsV lens++vs⟩::LkF (j-lk) lb (fun _ _=>0) (2^(maxL lens-9)))) (congrArg (fun q=>((⟨kb,0,((List.range (512-lk)).map fun a=>if a<j-lk then Value.slice (some ⟨lb a,0,none⟩) (2^(maxL lens-9)) (2^(maxL lens-9))else .slice none 0 0)⟩::⟨b11,0,cellsI 16 (nextK lens (minL lens) (maxL lens) 0)⟩::⟨b5,0,cellsI 16 (cntL lens)⟩::⟨hb,o,[.int .i64 ((minL lens:Nat):Int)]⟩::(⟨hb,o+1,q⟩:Frag)::⟨hb,o+513,[.slice (some ⟨kb,0,none⟩) ((512-lk)) (512-lk),.int .u32 ((2^(maxL lens-9)-1:Nat):Int)]⟩::⟨vb,vo,intsV lens++vs⟩::LkF (j-lk) lb (fun _ _=>0) (2^(maxL lens-9))):Frags)) (lnk_next hj1 hj9))<|Ek12 0 1 6 7 11 13 14 15 16 17 128 149 U<|Bt [0,1,2,4,0,0,32,127,255] (.pure 0 112 (.pure 1 113 (.pure 2 115 (.pure 4 111 (.pure 5 31 (.alt 3 (.alt 6 (.pure 7 127 (.alt 8 .done .stop)) .stop) (.alt 6 (.seg [(3,119),(7,127)] (.alt 8 .done .stop)) .stop))))))) mixed (by decide+kernel)<|Dm U U U<|Ah U (Ad U) U<|Ah U (Ab U fa177_2) U<|Dm U U U<|Dm U U U<|Hc ?_ ⟨?_,trivial⟩
   ·refine El U (Aj 5 (k:=0) U U U Tryz.isAgg175) U<|By ?_
    refine Bo U (Hx (l:=2^(maxL lens-9)) (c:=2^(maxL lens-9)) (bytes:=4) Tu214 infoU32 (z:=.int .u32 0) U U U U U U (Nat.le_refl _) (by omega) (by omega)) U ?_;rintro _ _⟨nb,rfl,rfl⟩;refine Dt9 U ?_
    refine Ah U (Bm U U (by omega) Tu175 Tryz.sizeOf214) U<|By ?_
    refine Di U (Aq 1 (k:=(j-lk)*1) U U U U (by rw[Nat.blt_eq,List.length_map,List.length_range];omega) Tryz.sizeOf214) ?_
    rintro _ _⟨rfl,rfl⟩
    refine Dz (L2:=(⟨nb,0,List.replicate (2^(maxL lens-9)) (.int .u32 0)⟩::⟨kb,0,((List.range (512-lk)).map fun a=>if a<(j+1)-lk then Value.slice (some ⟨(lbNext lb (j-lk) nb) a,0,none⟩) (2^(maxL lens-9)) (2^(maxL lens-9))else .slice none 0 0)⟩::⟨b11,0,cellsI 16 (nextK lens (minL lens) (maxL lens) 0)⟩::⟨b5,0,cellsI 16 (cntL lens)⟩::⟨hb,o,[.int .i64 ((minL lens:Nat):Int)]⟩::⟨hb,o+1,cellsU 512 (fun x=>if lk≤revB 9 x∧revB 9 x<(j+1)then(revB 9 x-lk)*16+10 else 0)⟩::⟨hb,o+513,[.slice (some ⟨kb,0,none⟩) ((512-lk)) (512-lk),.int .u32 ((2^(maxL lens-9)-1:Nat):Int)]⟩::⟨vb,vo,intsV lens++vs⟩::LkF (j-lk) lb (fun _ _=>0) (2^(maxL lens-9)))) (congrArg (fun q=>((⟨nb,0,List.replicate (2^(maxL lens-9)) (.int .u32 0)⟩::(⟨kb,0,q⟩:Frag)::⟨b11,0,cellsI 16 (nextK lens (minL lens) (maxL lens) 0)⟩::⟨b5,0,cellsI 16 (cntL lens)⟩::⟨hb,o,[.int .i64 ((minL lens:Nat):Int)]⟩::⟨hb,o+1,cellsU 512 (fun x=>if lk≤revB 9 x∧revB 9 x<(j+1)then(revB 9 x-lk)*16+10 else 0)⟩::⟨hb,o+513,[.slice (some ⟨kb,0,none⟩) ((512-lk)) (512-lk),.int .u32 ((2^(maxL lens-9)-1:Nat):Int)]⟩::⟨vb,vo,intsV lens++vs⟩::LkF (j-lk) lb (fun _ _=>0) (2^(maxL lens-9))):Frags)) (kb_next hj1))<|Dk12 0 1 6 7 11 13 14 15 16 17 128 149 U<|Ga (L2:=(⟨kb,0,((List.range (512-lk)).map fun a=>if a<(j+1)-lk then Value.slice (some ⟨(lbNext lb (j-lk) nb) a,0,none⟩) (2^(maxL lens-9)) (2^(maxL lens-9))else .slice none 0 0)⟩::⟨b11,0,cellsI 16 (nextK lens (minL lens) (maxL lens) 0)⟩::⟨b5,0,cellsI 16 (cntL lens)⟩::⟨hb,o,[.int .i64 ((minL lens:Nat):Int)]⟩::⟨hb,o+1,cellsU 512 (fun x=>if lk≤revB 9 x∧revB 9 x<(j+1)then(revB 9 x-lk)*16+10 else 0)⟩::⟨hb,o+513,[.slice (some ⟨kb,0,none⟩) ((512-lk)) (512-lk),.int .u32 ((2^(maxL lens-9)-1:Nat):Int)]⟩::⟨vb,vo,intsV lens++vs⟩::LkF ((j+1)-lk) (lbNext lb (j-lk) nb) (fun _ _=>0) (2^(maxL lens-9)))) ?_ ?_
    · have e:LkF (j+1-lk) (lbNext lb (j-lk) nb) (fun _ _=>0) (2^(maxL lens-9))=LkF (j-lk) lb (fun _ _=>0) (2^(maxL lens-9))++[⟨nb,0,List.replicate (2^(maxL lens-9)) (.int .u32 0)⟩]:=by
        rw[show j+1-lk=(j-lk)+1 by omega,LkF_more,cellsU_zero]
      rw[e]
      exact Same.perm (List.perm_append_singleton _ _).symm
    refine Al<|Em U U<|Aa (Bl (b:=((1:Nat):Int)) U U (N.add_u64 (by omega))) U<|Ea U U<|Ek12 0 1 6 7 11 13 14 15 16 17 128 149 U ?_
    refine⟨_,?_,j+1,_,rfl,rfl,by omega,by omega,rfl⟩;omega
   refine Bo U (Hx (l:=2^(maxL lens-9)) (c:=2^(maxL lens-9)) (bytes:=4) Tu214 infoU32 (z:=.int .u32 0) U U U U U U (Nat.le_refl _) (by omega) (by omega)) U ?_;rintro _ _⟨nb,rfl,rfl⟩;refine Dt9 U ?_
   refine Dc (by decide)<|Au U (Aj 6 (k:=0) U U U Tryz.isAgg175) U<|Ba U (Bm U U (by omega) Tu175 Tryz.sizeOf214) U<|Da<|By ?_
   refine Di U (Aq 1 (k:=(j-lk)*1) U U U U (by rw[Nat.blt_eq,List.length_map,List.length_range];omega) Tryz.sizeOf214) ?_
   rintro _ _⟨rfl,rfl⟩
   refine Dz (L2:=(⟨nb,0,List.replicate (2^(maxL lens-9)) (.int .u32 0)⟩::⟨kb,0,((List.range (512-lk)).map fun a=>if a<(j+1)-lk then Value.slice (some ⟨(lbNext lb (j-lk) nb) a,0,none⟩) (2^(maxL lens-9)) (2^(maxL lens-9))else .slice none 0 0)⟩::⟨b11,0,cellsI 16 (nextK lens (minL lens) (maxL lens) 0)⟩::⟨b5,0,cellsI 16 (cntL lens)⟩::⟨hb,o,[.int .i64 ((minL lens:Nat):Int)]⟩::⟨hb,o+1,cellsU 512 (fun x=>if lk≤revB 9 x∧revB 9 x<(j+1)then(revB 9 x-lk)*16+10 else 0)⟩::⟨hb,o+513,[.slice (some ⟨kb,0,none⟩) ((512-lk)) (512-lk),.int .u32 ((2^(maxL lens-9)-1:Nat):Int)]⟩::⟨vb,vo,intsV lens++vs⟩::LkF (j-lk) lb (fun _ _=>0) (2^(maxL lens-9)))) (congrArg (fun q=>((⟨nb,0,List.replicate (2^(maxL lens-9)) (.int .u32 0)⟩::(⟨kb,0,q⟩:Frag)::⟨b11,0,cellsI 16 (nextK lens (minL lens) (maxL lens) 0)⟩::⟨b5,0,cellsI 16 (cntL lens)⟩::⟨hb,o,[.int .i64 ((minL lens:Nat):Int)]⟩::⟨hb,o+1,cellsU 512 (fun x=>if lk≤revB 9 x∧revB 9 x<(j+1)then(revB 9 x-lk)*16+10 else 0)⟩::⟨hb,o+513,[.slice (some ⟨kb,0,none⟩) ((512-lk)) (512-lk),.int .u32 ((2^(maxL lens-9)-1:Nat):Int)]⟩::⟨vb,vo,intsV lens++vs⟩::LkF (j-lk) lb (fun _ _=>0) (2^(maxL lens-9))):Frags)) (kb_next hj1))<|Dk12 0 1 6 7 11 13 14 15 16 17 128 149 U<|Ga (L2:=(⟨kb,0,((List.range (512-lk)).map fun a=>if a<(j+1)-lk then Value.slice (some ⟨(lbNext lb (j-lk) nb) a,0,none⟩) (2^(maxL lens-9)) (2^(maxL lens-9))else .slice none 0 0)⟩::⟨b11,0,cellsI 16 (nextK lens (minL lens) (maxL lens) 0)⟩::⟨b5,0,cellsI 16 (cntL lens)⟩::⟨hb,o,[.int .i64 ((minL lens:Nat):Int)]⟩::⟨hb,o+1,cellsU 512 (fun x=>if lk≤revB 9 x∧revB 9 x<(j+1)then(revB 9 x-lk)*16+10 else 0)⟩::⟨hb,o+513,[.slice (some ⟨kb,0,none⟩) ((512-lk)) (512-lk),.int .u32 ((2^(maxL lens-9)-1:Nat):Int)]⟩::⟨vb,vo,intsV lens++vs⟩::LkF ((j+1)-lk) (lbNext lb (j-lk) nb) (fun _ _=>0) (2^(maxL lens-9)))) ?_ ?_
   · have e:LkF (j+1-lk) (lbNext lb (j-lk) nb) (fun _ _=>0) (2^(maxL lens-9))=LkF (j-lk) lb (fun _ _=>0) (2^(maxL lens-9))++[⟨nb,0,List.replicate (2^(maxL lens-9)) (.int .u32 0)⟩]:=by
       rw[show j+1-lk=(j-lk)+1 by omega,LkF_more,cellsU_zero]
     rw[e]
     exact Same.perm (List.perm_append_singleton _ _).symm
   refine Al<|Em U U<|Aa (Bl (b:=((1:Nat):Int)) U U (N.add_u64 (by omega))) U<|Ea U U<|Ek12 0 1 6 7 11 13 14 15 16 17 128 149 U ?_
   refine⟨_,?_,j+1,_,rfl,rfl,by omega,by omega,rfl⟩;omega
  have hj9:j=512:=by omega
  subst hj9
  refine Bx (L2:=(⟨kb,0,Fj (512-lk) lb (2^(maxL lens-9))⟩::⟨b11,0,cellsI 16 (nextK lens (minL lens) (maxL lens) 0)⟩::⟨b5,0,cellsI 16 (cntL lens)⟩::⟨hb,o,[.int .i64 ((minL lens:Nat):Int)]⟩::⟨hb,o+1,cellsU 512 (fun x=>if lk≤revB 9 x∧revB 9 x<512 then(revB 9 x-lk)*16+10 else 0)⟩::⟨hb,o+513,[.slice (some ⟨kb,0,none⟩) ((512-lk)) (512-lk),.int .u32 ((2^(maxL lens-9)-1:Nat):Int)]⟩::⟨vb,vo,intsV lens++vs⟩::LkF (512-lk) lb (fun _ _=>0) (2^(maxL lens-9)))) (by rw[kb_end];rfl) ?_
  refine Bu U<|Am<|Cr<|Em U U<|Aa (Bc U Tu23) U<|Em U U<|Ek12 0 1 6 7 11 13 14 15 128 168 169 170 U<|As<|Bw (fun mm ee ll=>∃(k:Nat),∃(f:Nat→Nat),∃(g:Nat→Nat→Nat),keeps ee [0,1,6,7,11,168,169,170]=some [(0,.pointer (some ⟨hb,o,none⟩)),(1,.slice (some ⟨vb,vo,none⟩) lens.length vc),(6,.int .i64 ((minL lens:Nat):Int)),(7,.int .i64 ((maxL lens:Nat):Int)),(11,.pointer (some ⟨b11,0,none⟩)),(168,.slice (some ⟨vb,vo,none⟩) lens.length vc),(169,.int .i64 ((lens.length:Nat):Int)),(170,.int .i64 ((k:Nat):Int))]∧ll=[⟨kb,0,Fj (512-lk) lb (2^(maxL lens-9))⟩,⟨b11,0,cellsI 16 (nextK lens (minL lens) (maxL lens) k)⟩,⟨b5,0,cellsI 16 (cntL lens)⟩,⟨hb,o,[.int .i64 ((minL lens:Nat):Int)]⟩,⟨hb,o+1,cellsU 512 f⟩,⟨hb,o+513,[.slice (some ⟨kb,0,none⟩) ((512-lk)) (512-lk),.int .u32 ((2^(maxL lens-9)-1:Nat):Int)]⟩,⟨vb,vo,intsV lens++vs⟩]++LkF (512-lk) lb g (2^(maxL lens-9))∧(k≤lens.length)∧(TabP lens (maxL lens) lk (2^(maxL lens-9)) k f g)∧(∀x,x<512→f x<65536)∧(∀a q,g a q<65536)∧mm=lens.length-k) (_) ⟨0,_,fun _ _=>0,rfl,rfl,by omega,link_full hlk9 h105,link_lt hlk9,fun _ _=>(by decide:0<65536),rfl⟩ ?_
  rintro m3 _ _⟨k,f,g,hk3,rfl,hk,hT,hfb,hgb,hm3⟩
  refine Av _ hk3<|Cr<|Aa (Dl U U) U<|Ek9 0 1 6 7 11 168 169 170 171 U<|Am<|Bf U (fun h171=>?_) (fun h171=>?_)
  ·have hk2:k<lens.length:=by omega
   have hel:=Bp hk2
   have hn15:lenOf lens k≤15:=by rw[hel];exact h15 _ (List.getElem_mem hk2)
   refine Ap<|Am<|As<|Cr<|Em U U<|Aa (Bm U U (by omega) Tu23 Tz3) U<|Ag (Aj 6 (k:=k*1) U U (Ej hk2) Ta3) U<|An (v:=.int .i64 ((lenOf lens k:Nat):Int)) (by rw[hel])<|Ea U U<|Ea U U<|Ek11 0 1 6 7 11 18 19 168 169 170 171 U<|Am ?_
   refine Cr<|Em U U<|Aa (Ef (b:=((0:Nat):Int)) U U) U<|Ek12 0 1 6 7 11 18 19 168 169 170 171 176 U<|Bf U (fun h176=>?_) (fun h176=>?_)
   ·have hT2:=hT.skip (by omega)
    have hfb2:=hfb
    have hgb2:=hgb
    refine Bx (L2:=(⟨kb,0,Fj (512-lk) lb (2^(maxL lens-9))⟩::⟨b11,0,cellsI 16 (nextK lens (minL lens) (maxL lens) (k+1))⟩::⟨b5,0,cellsI 16 (cntL lens)⟩::⟨hb,o,[.int .i64 ((minL lens:Nat):Int)]⟩::⟨hb,o+1,cellsU 512 f⟩::⟨hb,o+513,[.slice (some ⟨kb,0,none⟩) ((512-lk)) (512-lk),.int .u32 ((2^(maxL lens-9)-1:Nat):Int)]⟩::⟨vb,vo,intsV lens++vs⟩::LkF (512-lk) lb g (2^(maxL lens-9)))) (by rw[nextK_zero (k:=k) hk2 (by omega) hmp.1];try rfl) ?_
    refine Bu U<|Al<|Aa (Bl (b:=((1:Nat):Int)) U U (N.add64 (by omega))) U<|Em U U<|Ek12 0 1 6 7 11 18 19 168 169 170 171 176 U ?_
    refine⟨_,?_,k+1,_,_,rfl,rfl,by omega,hT2,hfb2,hgb2,rfl⟩;omega
   have hmn1:minL lens≤(lenOf lens k):=by rw[hel];exact(Fs lens).2.1 _ (List.getElem_mem hk2) (by omega)
   have hmx1:(lenOf lens k)≤maxL lens:=Gt lens k
   have hcb:codeOf lens k<2^(lenOf lens k):=Gf hfit (by omega)
   have hp15:2^(lenOf lens k)≤2^15:=Nat.pow_le_pow_right (by omega) hn15
   have hrn:=Eh (lenOf lens k) (codeOf lens k)
   have hr16:=Eh 16 (codeOf lens k)
   refine Ap<|Cr<|Em U U<|Aa (Bj U U (by omega) Tu212 Tz3) U<|Ag (Aj 1 (k:=(lenOf lens k)*1) U U (Ec (by omega)) Ta3) U<|An (v:=.int .i64 ((codeOf lens k:Nat):Int)) (congrArg (fun q:Nat=>Value.int .i64 (q:Int)) (by exact nextK_at hmn1 hmx1))<|Ea U U<|Ek13 0 1 6 7 11 18 19 20 168 169 170 171 176 U<|Cr<|Em U U<|Aa (Bj U U (by omega) Tu212 Tz3) U<|Ag (Aj 1 (k:=(lenOf lens k)*1) U U (Ec (by omega)) Ta3) U ?_
   refine An (v:=.int .i64 ((codeOf lens k:Nat):Int)) (congrArg (fun q:Nat=>Value.int .i64 (q:Int)) (by exact nextK_at hmn1 hmx1))<|Aa (Bl (b:=((1:Nat):Int)) U U (N.add64 (by omega))) U<|Aa (Bj U U (by omega) Tu212 Tz3) U ?_
   refine Ao (Aq 1 (k:=(lenOf lens k)*1) U U U U (by rw[Nat.blt_eq,Dk];omega) Tz3) ?_
   rintro _ _⟨rfl,rfl⟩
   refine Ax (L2:=(⟨kb,0,Fj (512-lk) lb (2^(maxL lens-9))⟩::⟨b11,0,cellsI 16 (nextK lens (minL lens) (maxL lens) (k+1))⟩::⟨b5,0,cellsI 16 (cntL lens)⟩::⟨hb,o,[.int .i64 ((minL lens:Nat):Int)]⟩::⟨hb,o+1,cellsU 512 f⟩::⟨hb,o+513,[.slice (some ⟨kb,0,none⟩) ((512-lk)) (512-lk),.int .u32 ((2^(maxL lens-9)-1:Nat):Int)]⟩::⟨vb,vo,intsV lens++vs⟩::LkF (512-lk) lb g (2^(maxL lens-9)))) (congrArg (fun q=>((⟨kb,0,Fj (512-lk) lb (2^(maxL lens-9))⟩::(⟨b11,0,q⟩:Frag)::⟨b5,0,cellsI 16 (cntL lens)⟩::⟨hb,o,[.int .i64 ((minL lens:Nat):Int)]⟩::⟨hb,o+1,cellsU 512 f⟩::⟨hb,o+513,[.slice (some ⟨kb,0,none⟩) ((512-lk)) (512-lk),.int .u32 ((2^(maxL lens-9)-1:Nat):Int)]⟩::⟨vb,vo,intsV lens++vs⟩::LkF (512-lk) lb g (2^(maxL lens-9))):Frags)) (nextK_more hk2 hmn1 hmx1))<|Ek13 0 1 6 7 11 18 19 20 168 169 170 171 176 U<|Cr<|Em U U ?_
   refine Aa (Fy (b:=((4:Nat):Int)) U U (by omega) (N.shl64 (by rw[Nat.shiftLeft_eq];omega))) U ?_
   refine An (v:=.int .i64 ((k*16:Nat):Int)) (congrArg (fun q:Nat=>Value.int .i64 (q:Int)) (by rw[Nat.shiftLeft_eq]))<|Em U U<|Aa (S.or U U (N.or64 (by omega) (by omega))) U<|An (v:=.int .i64 ((k*16+(lenOf lens k):Nat):Int)) (congrArg (fun q:Nat=>Value.int .i64 (q:Int)) (by exact or16 _ _ (by omega)))<|Aa (Bv U Tu3 Tu69 (N.in_u32 (by omega))) U<|Ea U U<|Ek14 0 1 6 7 11 18 19 20 21 168 169 170 171 176 U<|Cr<|Em U U<|Aa (Bv U Tu3 Tu153 (N.in_u16 (by omega))) U ?_
   refine Ai (OpX.pick [] (F:=(_::_::_::_::_::_::_::_)) U (Ar U Tryz.call109 (reverse16_spec _ (by omega)))) U ?_;rintro _ _⟨_,⟨rfl,rfl⟩,rfl⟩;refine Et8 U ?_
   refine Aa (Bv U Tu153 Tu3 (N.i64n (by omega))) U<|Ea U U<|Ek15 0 1 6 7 11 18 19 20 21 22 168 169 170 171 176 U<|Cr<|Em U U<|Em U U<|Aa (Dr (a:=((16:Nat):Int)) U U (N.sub64 (by omega) (by omega))) U<|Aa (Bv U Tu3 Tu137 (N.in_u64 (by omega))) U<|Aa (Fl U U (by omega) (N.shr64 (by omega) _)) U<|An (v:=.int .i64 ((revB (lenOf lens k) (codeOf lens k):Nat):Int)) (congrArg (fun q:Nat=>Value.int .i64 (q:Int)) (by exact revB_sh _ (by omega)))<|Ea U U<|Ek15 0 1 6 7 11 18 19 20 21 22 168 169 170 171 176 U ?_
   refine Cr<|Em U U<|Aa (S.le (b:=((9:Nat):Int)) U U) U<|Ek16 0 1 6 7 11 18 19 20 21 22 168 169 170 171 176 200 U<|Bf U (fun h200=>?_) (fun h200=>?_)
   ·have hp9:2^(lenOf lens k)≤2^9:=Nat.pow_le_pow_right (by omega) (by omega)
    have hp0:0<2^(lenOf lens k):=Nat.pow_pos (by omega)
    refine Cr<|Em U U<|Ea U U<|Ek17 0 1 6 7 11 18 19 20 21 22 23 168 169 170 171 176 200 U<|As ?_
    refine Bx (L2:=(⟨kb,0,Fj (512-lk) lb (2^(maxL lens-9))⟩::⟨b11,0,cellsI 16 (nextK lens (minL lens) (maxL lens) (k+1))⟩::⟨b5,0,cellsI 16 (cntL lens)⟩::⟨hb,o,[.int .i64 ((minL lens:Nat):Int)]⟩::⟨hb,o+1,cellsU 512 (fun x=>if x<revB (lenOf lens k) (codeOf lens k)∧x%2^(lenOf lens k)=revB (lenOf lens k) (codeOf lens k)then k*16+(lenOf lens k)else f x)⟩::⟨hb,o+513,[.slice (some ⟨kb,0,none⟩) ((512-lk)) (512-lk),.int .u32 ((2^(maxL lens-9)-1:Nat):Int)]⟩::⟨vb,vo,intsV lens++vs⟩::LkF (512-lk) lb g (2^(maxL lens-9)))) (by rw[fill_zero (k:=k) (n:=(lenOf lens k)) (c:=codeOf lens k) (f:=f) _ U];try rfl) ?_
    refine Bw (fun mm ee ll=>∃(off:Nat),keeps ee [0,1,6,7,11,168,169,170,19,21,23]=some [(0,.pointer (some ⟨hb,o,none⟩)),(1,.slice (some ⟨vb,vo,none⟩) lens.length vc),(6,.int .i64 ((minL lens:Nat):Int)),(7,.int .i64 ((maxL lens:Nat):Int)),(11,.pointer (some ⟨b11,0,none⟩)),(168,.slice (some ⟨vb,vo,none⟩) lens.length vc),(169,.int .i64 ((lens.length:Nat):Int)),(170,.int .i64 ((k:Nat):Int)),(19,.int .i64 (((lenOf lens k):Nat):Int)),(21,.int .u32 ((k*16+(lenOf lens k):Nat):Int)),(23,.int .i64 ((off:Nat):Int))]∧ll=[⟨kb,0,Fj (512-lk) lb (2^(maxL lens-9))⟩,⟨b11,0,cellsI 16 (nextK lens (minL lens) (maxL lens) (k+1))⟩,⟨b5,0,cellsI 16 (cntL lens)⟩,⟨hb,o,[.int .i64 ((minL lens:Nat):Int)]⟩,⟨hb,o+1,cellsU 512 (fun x=>if x<off∧x%2^(lenOf lens k)=revB (lenOf lens k) (codeOf lens k)then k*16+(lenOf lens k)else f x)⟩,⟨hb,o+513,[.slice (some ⟨kb,0,none⟩) ((512-lk)) (512-lk),.int .u32 ((2^(maxL lens-9)-1:Nat):Int)]⟩,⟨vb,vo,intsV lens++vs⟩]++LkF (512-lk) lb g (2^(maxL lens-9))∧(off%2^(lenOf lens k)=revB (lenOf lens k) (codeOf lens k))∧(off<1024)∧mm=1024-off) (_) ⟨revB (lenOf lens k) (codeOf lens k),rfl,rfl,Nat.mod_eq_of_lt (Eh _ _),by omega,rfl⟩ ?_
    rintro m4 _ _⟨off,hk4,rfl,hoff,ho9,hm4⟩
    refine Av _ hk4<|Am<|Cr<|Em U U<|Aa (Dl (b:=((512:Nat):Int)) U U) U<|Ek12 0 1 6 7 11 19 21 23 168 169 170 203 U<|Bf U (fun h203=>?_) (fun h203=>?_)
    ·refine Ap<|Am<|As<|Am<|Cr<|Em U U<|Ae 209 false U U U U<|Ae 209 false U U U U<|Ae 209 false U U U U<|Ae 209 false U U U U<|Ae 209 false U U U U<|Ae 209 false U U U U ?_
     refine Ae 209 false U U U U<|Aa (Bk U U) U<|Ek13 0 1 6 7 11 19 21 23 168 169 170 203 217 U<|C.no U (rfl)<|Ap<|Al<|Em U U<|Em U U<|Em U U<|Aa (Ad U) U<|Aa (Ab U fa177_1) U<|Aa (Bj U U (by omega) Tu174 Tz69) U ?_
     refine Ao (Aq 4 (k:=off*1) U U U U (by rw[Nat.blt_eq,Es];omega) Tz69) ?_
     rintro _ _⟨rfl,rfl⟩
     refine Ax (L2:=(⟨kb,0,Fj (512-lk) lb (2^(maxL lens-9))⟩::⟨b11,0,cellsI 16 (nextK lens (minL lens) (maxL lens) (k+1))⟩::⟨b5,0,cellsI 16 (cntL lens)⟩::⟨hb,o,[.int .i64 ((minL lens:Nat):Int)]⟩::⟨hb,o+1,cellsU 512 (fun x=>if x<off+2^(lenOf lens k)∧x%2^(lenOf lens k)=revB (lenOf lens k) (codeOf lens k)then k*16+(lenOf lens k)else f x)⟩::⟨hb,o+513,[.slice (some ⟨kb,0,none⟩) ((512-lk)) (512-lk),.int .u32 ((2^(maxL lens-9)-1:Nat):Int)]⟩::⟨vb,vo,intsV lens++vs⟩::LkF (512-lk) lb g (2^(maxL lens-9)))) (congrArg (fun q=>((⟨kb,0,Fj (512-lk) lb (2^(maxL lens-9))⟩::⟨b11,0,cellsI 16 (nextK lens (minL lens) (maxL lens) (k+1))⟩::⟨b5,0,cellsI 16 (cntL lens)⟩::⟨hb,o,[.int .i64 ((minL lens:Nat):Int)]⟩::(⟨hb,o+1,q⟩:Frag)::⟨hb,o+513,[.slice (some ⟨kb,0,none⟩) ((512-lk)) (512-lk),.int .u32 ((2^(maxL lens-9)-1:Nat):Int)]⟩::⟨vb,vo,intsV lens++vs⟩::LkF (512-lk) lb g (2^(maxL lens-9))):Frags)) (fill_next hoff))<|Ek13 0 1 6 7 11 19 21 23 168 169 170 203 217 U<|Al<|Em U U<|Em U U<|Aa (Bv U Tu3 Tu137 (N.in_u64 (by omega))) U ?_
     refine Aa (Fy (a:=((1:Nat):Int)) U U (by omega) (N.shl64 (by rw[Nat.one_shiftLeft];omega))) U ?_
     refine An (v:=.int .i64 ((2^(lenOf lens k):Nat):Int)) (congrArg (fun q:Nat=>Value.int .i64 (q:Int)) (by rw[Nat.one_shiftLeft]))<|Aa (Bl U U (N.add64 (by omega))) U<|Ea U U<|Ek13 0 1 6 7 11 19 21 23 168 169 170 203 217 U ?_
     refine⟨_,?_,off+2^(lenOf lens k),rfl,rfl,by rw[Nat.add_mod_right];exact hoff,by omega,rfl⟩;omega
    have hT2:=hT.addShort hfit (by omega) (by omega) (f':=(fun x=>if x<off∧x%2^(lenOf lens k)=revB (lenOf lens k) (codeOf lens k)then k*16+(lenOf lens k)else f x)) (fun x hx he=>if_pos ⟨by omega,he⟩) (fun x hx he=>if_neg (fun h=>he h.2))
    have hfb2:∀x,x<512→(fun x=>if x<off∧x%2^(lenOf lens k)=revB (lenOf lens k) (codeOf lens k)then k*16+(lenOf lens k)else f x) x<65536:=fun x hx=>by
      simp only
      split
      · omega
      · exact hfb x hx
    have hgb2:=hgb
    refine Bu U<|Al<|Aa (Bl (b:=((1:Nat):Int)) U U (N.add64 (by omega))) U<|Em U U<|Ek12 0 1 6 7 11 19 21 23 168 169 170 203 U ?_
    refine⟨_,?_,k+1,_,_,rfl,rfl,by omega,hT2,hfb2,hgb2,rfl⟩;omega
   obtain⟨hal,hhi,hrl⟩:=hT.at_link hfit hlk (by omega)
   have hge:=hi_ge hlk (lens:=lens) (s:=k) (by omega)
   have hr9:=Eh 9 (codeOf lens k/2^((lenOf lens k)-9))
   rw[show(2:Nat)^9=512 from rfl]at hr9
   have hpl:2^((lenOf lens k)-9)≤2^6:=Nat.pow_le_pow_right (by omega) (by omega)
   have hpl0:0<2^((lenOf lens k)-9):=Nat.pow_pos (by omega)
   have hpn:2^((lenOf lens k)-9)≤2^(maxL lens-9):=Nat.pow_le_pow_right (by omega) (by omega)
   refine Cr<|Em U U<|Aa (Fa (b:=((511:Nat):Int)) U U (N.and64 (by omega) (by omega))) U ?_
   refine An (v:=.int .i64 ((revB 9 (codeOf lens k/2^((lenOf lens k)-9)):Nat):Int)) (congrArg (fun q:Nat=>Value.int .i64 (q:Int)) (by rw[and511];exact rev_parts (by omega) hcb)) ?_
   refine Ea U U<|Ek17 0 1 6 7 11 18 19 20 21 22 24 168 169 170 171 176 200 U<|Am<|Cr<|Em U U<|Ae 227 false U U U U<|Ae 227 false U U U U<|Ae 227 false U U U U<|Ae 227 false U U U U<|Ae 227 false U U U U<|Ae 227 false U U U U<|Ae 227 false U U U U ?_
   refine Ae 227 false U U U U<|Aa (Bk U U) U<|Ek18 0 1 6 7 11 18 19 20 21 22 24 168 169 170 171 176 200 236 U<|C.no U (rfl)<|Ap<|Cr<|Em U U<|Em U U<|Aa (Ad U) U<|Aa (Ab U fa177_1) U<|Aa (Bj U U (by omega) Tu174 Tz69) U<|Ag (Aj 4 (k:=revB 9 (codeOf lens k/2^((lenOf lens k)-9))*1) U U (cellsU_get hr9) Ta69) U ?_
   refine Aa (Fl (b:=((4:Nat):Int)) U U (by omega) (N.shr_u32 (by omega) _)) U ?_
   refine An (v:=.int .u32 (((codeOf lens k/2^((lenOf lens k)-9))-lk:Nat):Int)) (congrArg (fun q:Nat=>Value.int .u32 (q:Int)) (by rw[hal,Nat.shiftRight_eq_div_pow];omega)) ?_
   refine Ea U U<|Ek19 0 1 6 7 11 18 19 20 21 22 24 25 168 169 170 171 176 200 236 U<|Cr<|Em U U<|Aa (Ad U) U<|Aa (Ab U fa177_2) U<|Ag (Aj 5 (k:=0) U U U Tryz.isAgg175) U<|Em U U<|Aa (Bm U U (by omega) Tu175 Tryz.sizeOf214) U<|Ag (Aj 0 (k:=((codeOf lens k/2^((lenOf lens k)-9))-lk)*1) U U (lk_get (by omega)) Tryz.isAgg214) U<|Ea U U<|Ek20 0 1 6 7 11 18 19 20 21 22 24 25 26 168 169 170 171 176 200 236 U ?_
   refine Cr<|Em U U<|Aa (Fl (b:=((9:Nat):Int)) U U (by omega) (N.shr64 (by omega) _)) U<|An (v:=.int .i64 ((revB (lenOf lens k) (codeOf lens k)/512:Nat):Int)) (congrArg (fun q:Nat=>Value.int .i64 (q:Int)) (by rw[Nat.shiftRight_eq_div_pow]))<|Ea U U<|Ek20 0 1 6 7 11 18 19 20 21 22 24 25 26 168 169 170 171 176 200 236 U<|Cr<|Em U U<|Ea U U<|Ek21 0 1 6 7 11 18 19 20 21 22 24 25 26 27 168 169 170 171 176 200 236 U<|As ?_
   refine Bx (L2:=(⟨kb,0,Fj (512-lk) lb (2^(maxL lens-9))⟩::⟨b11,0,cellsI 16 (nextK lens (minL lens) (maxL lens) (k+1))⟩::⟨b5,0,cellsI 16 (cntL lens)⟩::⟨hb,o,[.int .i64 ((minL lens:Nat):Int)]⟩::⟨hb,o+1,cellsU 512 f⟩::⟨hb,o+513,[.slice (some ⟨kb,0,none⟩) ((512-lk)) (512-lk),.int .u32 ((2^(maxL lens-9)-1:Nat):Int)]⟩::⟨vb,vo,intsV lens++vs⟩::LkF (512-lk) lb (fun a q=>if a=(codeOf lens k/2^((lenOf lens k)-9))-lk∧q<revB (lenOf lens k) (codeOf lens k)/512∧q%2^((lenOf lens k)-9)=revB (lenOf lens k) (codeOf lens k)/512 then k*16+(lenOf lens k)else g a q) (2^(maxL lens-9)))) (by rw[filll_zero (lk:=lk) (h:=(codeOf lens k/2^((lenOf lens k)-9))-lk) (v:=k*16+(lenOf lens k)) (g:=g) hrl];try rfl) ?_
   refine Bw (fun mm ee ll=>∃(off:Nat),keeps ee [0,1,6,7,11,168,169,170,19,21,26,27]=some [(0,.pointer (some ⟨hb,o,none⟩)),(1,.slice (some ⟨vb,vo,none⟩) lens.length vc),(6,.int .i64 ((minL lens:Nat):Int)),(7,.int .i64 ((maxL lens:Nat):Int)),(11,.pointer (some ⟨b11,0,none⟩)),(168,.slice (some ⟨vb,vo,none⟩) lens.length vc),(169,.int .i64 ((lens.length:Nat):Int)),(170,.int .i64 ((k:Nat):Int)),(19,.int .i64 (((lenOf lens k):Nat):Int)),(21,.int .u32 ((k*16+(lenOf lens k):Nat):Int)),(26,.slice (some ⟨lb ((codeOf lens k/2^((lenOf lens k)-9))-lk),0,none⟩) (2^(maxL lens-9)) (2^(maxL lens-9))),(27,.int .i64 ((off:Nat):Int))]∧ll=[⟨kb,0,Fj (512-lk) lb (2^(maxL lens-9))⟩,⟨b11,0,cellsI 16 (nextK lens (minL lens) (maxL lens) (k+1))⟩,⟨b5,0,cellsI 16 (cntL lens)⟩,⟨hb,o,[.int .i64 ((minL lens:Nat):Int)]⟩,⟨hb,o+1,cellsU 512 f⟩,⟨hb,o+513,[.slice (some ⟨kb,0,none⟩) ((512-lk)) (512-lk),.int .u32 ((2^(maxL lens-9)-1:Nat):Int)]⟩,⟨vb,vo,intsV lens++vs⟩]++LkF (512-lk) lb (fun a q=>if a=(codeOf lens k/2^((lenOf lens k)-9))-lk∧q<off∧q%2^((lenOf lens k)-9)=revB (lenOf lens k) (codeOf lens k)/512 then k*16+(lenOf lens k)else g a q) (2^(maxL lens-9))∧(off%2^((lenOf lens k)-9)=revB (lenOf lens k) (codeOf lens k)/512)∧(off<128)∧mm=128-off) (_) ⟨revB (lenOf lens k) (codeOf lens k)/512,rfl,rfl,Nat.mod_eq_of_lt hrl,by omega,rfl⟩ ?_
   rintro m5 _ _⟨off,hk5,rfl,hoff,ho9,hm5⟩
   refine Av _ hk5<|Am<|Cr<|Em U U<|Em U U<|Aa (Bc U Tu214) U<|Aa (Dl U U) U<|Ek13 0 1 6 7 11 19 21 26 27 168 169 170 258 U<|Bf U (fun h258=>?_) (fun h258=>?_)
   ·refine Ap<|Am<|As<|Am<|Cr<|Em U U<|Ae 265 false U U U U<|Ae 265 false U U U U<|Ae 265 false U U U U<|Ae 265 false U U U U<|Ae 265 false U U U U<|Aa (Bk U U) U ?_
    refine Ek14 0 1 6 7 11 19 21 26 27 168 169 170 258 271 U<|C.no U (rfl)<|Ap<|Al<|Em U U<|Em U U<|Em U U<|Aa (Bm U U (by omega) Tu214 Tz69) U ?_
    refine Ao (Aq (((codeOf lens k/2^((lenOf lens k)-9))-lk)+7) (k:=off*1) (LkF_get (by omega)) U U U (by rw[Nat.blt_eq,Es];omega) Tz69) ?_
    rintro _ _⟨rfl,rfl⟩
    refine Ax (L2:=(⟨kb,0,Fj (512-lk) lb (2^(maxL lens-9))⟩::⟨b11,0,cellsI 16 (nextK lens (minL lens) (maxL lens) (k+1))⟩::⟨b5,0,cellsI 16 (cntL lens)⟩::⟨hb,o,[.int .i64 ((minL lens:Nat):Int)]⟩::⟨hb,o+1,cellsU 512 f⟩::⟨hb,o+513,[.slice (some ⟨kb,0,none⟩) ((512-lk)) (512-lk),.int .u32 ((2^(maxL lens-9)-1:Nat):Int)]⟩::⟨vb,vo,intsV lens++vs⟩::LkF (512-lk) lb (fun a q=>if a=(codeOf lens k/2^((lenOf lens k)-9))-lk∧q<off+2^((lenOf lens k)-9)∧q%2^((lenOf lens k)-9)=revB (lenOf lens k) (codeOf lens k)/512 then k*16+(lenOf lens k)else g a q) (2^(maxL lens-9)))) (congrArg (fun q=>((⟨kb,0,Fj (512-lk) lb (2^(maxL lens-9))⟩::⟨b11,0,cellsI 16 (nextK lens (minL lens) (maxL lens) (k+1))⟩::⟨b5,0,cellsI 16 (cntL lens)⟩::⟨hb,o,[.int .i64 ((minL lens:Nat):Int)]⟩::⟨hb,o+1,cellsU 512 f⟩::⟨hb,o+513,[.slice (some ⟨kb,0,none⟩) ((512-lk)) (512-lk),.int .u32 ((2^(maxL lens-9)-1:Nat):Int)]⟩::⟨vb,vo,intsV lens++vs⟩::q):Frags)) (filll_next hoff))<|Ek14 0 1 6 7 11 19 21 26 27 168 169 170 258 271 U<|Al<|Em U U<|Em U U<|Aa (Dr (b:=((9:Nat):Int)) U U (N.sub64 (by omega) (by omega))) U<|Aa (Bv U Tu3 Tu137 (N.in_u64 (by omega))) U ?_
    refine Aa (Fy (a:=((1:Nat):Int)) U U (by omega) (N.shl64 (by rw[Nat.one_shiftLeft];omega))) U ?_
    refine An (v:=.int .i64 ((2^((lenOf lens k)-9):Nat):Int)) (congrArg (fun q:Nat=>Value.int .i64 (q:Int)) (by rw[Nat.one_shiftLeft]))<|Aa (Bl U U (N.add64 (by omega))) U<|Ea U U<|Ek14 0 1 6 7 11 19 21 26 27 168 169 170 258 271 U ?_
    refine⟨_,?_,off+2^((lenOf lens k)-9),rfl,rfl,by rw[Nat.add_mod_right];exact hoff,by omega,rfl⟩;omega
   have hT2:=hT.addLong hfit hlk (by omega) (g':=(fun a q=>if a=(codeOf lens k/2^((lenOf lens k)-9))-lk∧q<off∧q%2^((lenOf lens k)-9)=revB (lenOf lens k) (codeOf lens k)/512 then k*16+(lenOf lens k)else g a q)) (fun q hq he=>if_pos ⟨rfl,by omega,he⟩) (fun a q h=>if_neg (fun h2=>h.elim (fun h3=>h3 h2.1) (fun h3=>h3 h2.2.2)))
   have hfb2:=hfb
   have hgb2:∀a q,(fun a q=>if a=(codeOf lens k/2^((lenOf lens k)-9))-lk∧q<off∧q%2^((lenOf lens k)-9)=revB (lenOf lens k) (codeOf lens k)/512 then k*16+(lenOf lens k)else g a q) a q<65536:=fun a q=>by
     simp only
     split
     · omega
     · exact hgb a q
   refine Bu U<|Al<|Aa (Bl (b:=((1:Nat):Int)) U U (N.add64 (by omega))) U<|Em U U<|Ek13 0 1 6 7 11 19 21 26 27 168 169 170 258 U ?_
   refine⟨_,?_,k+1,_,_,rfl,rfl,by omega,hT2,hfb2,hgb2,rfl⟩;omega
  have hk2:k=lens.length:=by omega
  subst hk2
  refine Bu U<|Am<|C.no U (rfl)<|Ap<|Cr<|Ea U U<|Ek10 0 1 4 6 7 11 168 169 170 171 U<|Bb ?_
  refine⟨_,rfl,.inl ⟨hok,rfl,_,[⟨b11,0,cellsI 16 (nextK lens (minL lens) (maxL lens) lens.length)⟩,⟨b5,0,cellsI 16 (cntL lens)⟩],big_res (lb:=lb) (kb:=kb) (tab_ok hfit U hlk (hfull.imp id (fun h=>h.1)) hm15 U hT) hfb hgb hnk0 hnk ⟨_,rfl⟩ hmp.1,?_⟩⟩
  refine(Same.perm (Br (A:=[_,_,_,_,_]) (F:=_::_::_) (is:=[6,3,3,3,0]) U)).trans ?_
  exact Same.perm (List.Perm.append_left [_,_,_,_,_] (List.perm_append_comm (l₁:=[_,_])))
 refine Ap<|Am<|Cr<|Em U U<|Aa (Bc U Tu23) U<|Em U U<|Ek10 0 1 5 6 7 11 105 168 169 170 U<|As<|Bw (fun mm ee ll=>∃(k:Nat),∃(f:Nat→Nat),keeps ee [0,1,6,7,11,168,169,170]=some [(0,.pointer (some ⟨hb,o,none⟩)),(1,.slice (some ⟨vb,vo,none⟩) lens.length vc),(6,.int .i64 ((minL lens:Nat):Int)),(7,.int .i64 ((maxL lens:Nat):Int)),(11,.pointer (some ⟨b11,0,none⟩)),(168,.slice (some ⟨vb,vo,none⟩) lens.length vc),(169,.int .i64 ((lens.length:Nat):Int)),(170,.int .i64 ((k:Nat):Int))]∧ll=[⟨b11,0,cellsI 16 (nextK lens (minL lens) (maxL lens) k)⟩,⟨b5,0,cellsI 16 (cntL lens)⟩,⟨hb,o,[.int .i64 ((minL lens:Nat):Int)]⟩,⟨hb,o+1,cellsU 512 f⟩,⟨hb,o+513,[.slice none 0 0,.int .u32 0]⟩,⟨vb,vo,intsV lens++vs⟩]∧(k≤lens.length)∧(TabP lens (maxL lens) lk (2^(maxL lens-9)) k f (fun _ _=>0))∧(∀x,x<512→f x<65536)∧mm=lens.length-k) (_) ⟨0,_,rfl,rfl,by omega,link_none h105,fun _ _=>(by decide:0<65536),rfl⟩ ?_
 rintro m6 _ _⟨k,f,hk6,rfl,hk,hT,hfb,hm6⟩
 refine Av _ hk6<|Cr<|Aa (Dl U U) U<|Ek9 0 1 6 7 11 168 169 170 171 U<|Am<|Bf U (fun h171=>?_) (fun h171=>?_)
 ·have hk2:k<lens.length:=by omega
  have hel:=Bp hk2
  have hn15:lenOf lens k≤15:=by rw[hel];exact h15 _ (List.getElem_mem hk2)
  refine Ap<|Am<|As<|Cr<|Em U U<|Aa (Bm U U (by omega) Tu23 Tz3) U<|Ag (Aj 5 (k:=k*1) U U (Ej hk2) Ta3) U<|An (v:=.int .i64 ((lenOf lens k:Nat):Int)) (by rw[hel])<|Ea U U<|Ea U U<|Ek11 0 1 6 7 11 18 19 168 169 170 171 U<|Am ?_
  refine Cr<|Em U U<|Aa (Ef (b:=((0:Nat):Int)) U U) U<|Ek12 0 1 6 7 11 18 19 168 169 170 171 176 U<|Bf U (fun h176=>?_) (fun h176=>?_)
  ·have hT2:=hT.skip (by omega)
   have hfb2:=hfb
   refine Bx (L2:=[⟨b11,0,cellsI 16 (nextK lens (minL lens) (maxL lens) (k+1))⟩,⟨b5,0,cellsI 16 (cntL lens)⟩,⟨hb,o,[.int .i64 ((minL lens:Nat):Int)]⟩,⟨hb,o+1,cellsU 512 f⟩,⟨hb,o+513,[.slice none 0 0,.int .u32 0]⟩,⟨vb,vo,intsV lens++vs⟩]) (by rw[nextK_zero (k:=k) hk2 (by omega) hmp.1];try rfl) ?_
   refine Bu U<|Al<|Aa (Bl (b:=((1:Nat):Int)) U U (N.add64 (by omega))) U<|Em U U<|Ek12 0 1 6 7 11 18 19 168 169 170 171 176 U ?_
   refine⟨_,?_,k+1,_,rfl,rfl,by omega,hT2,hfb2,rfl⟩;omega
  have hmn1:minL lens≤(lenOf lens k):=by rw[hel];exact(Fs lens).2.1 _ (List.getElem_mem hk2) (by omega)
  have hmx1:(lenOf lens k)≤maxL lens:=Gt lens k
  have hcb:codeOf lens k<2^(lenOf lens k):=Gf hfit (by omega)
  have hp15:2^(lenOf lens k)≤2^15:=Nat.pow_le_pow_right (by omega) hn15
  have hrn:=Eh (lenOf lens k) (codeOf lens k)
  have hr16:=Eh 16 (codeOf lens k)
  refine Ap<|Cr<|Em U U<|Aa (Bj U U (by omega) Tu212 Tz3) U<|Ag (Aj 0 (k:=(lenOf lens k)*1) U U (Ec (by omega)) Ta3) U<|An (v:=.int .i64 ((codeOf lens k:Nat):Int)) (congrArg (fun q:Nat=>Value.int .i64 (q:Int)) (by exact nextK_at hmn1 hmx1))<|Ea U U<|Ek13 0 1 6 7 11 18 19 20 168 169 170 171 176 U<|Cr<|Em U U<|Aa (Bj U U (by omega) Tu212 Tz3) U<|Ag (Aj 0 (k:=(lenOf lens k)*1) U U (Ec (by omega)) Ta3) U ?_
  refine An (v:=.int .i64 ((codeOf lens k:Nat):Int)) (congrArg (fun q:Nat=>Value.int .i64 (q:Int)) (by exact nextK_at hmn1 hmx1))<|Aa (Bl (b:=((1:Nat):Int)) U U (N.add64 (by omega))) U<|Aa (Bj U U (by omega) Tu212 Tz3) U ?_
  refine Ao (Aq 0 (k:=(lenOf lens k)*1) U U U U (by rw[Nat.blt_eq,Dk];omega) Tz3) ?_
  rintro _ _⟨rfl,rfl⟩
  refine Ax (L2:=[⟨b11,0,cellsI 16 (nextK lens (minL lens) (maxL lens) (k+1))⟩,⟨b5,0,cellsI 16 (cntL lens)⟩,⟨hb,o,[.int .i64 ((minL lens:Nat):Int)]⟩,⟨hb,o+1,cellsU 512 f⟩,⟨hb,o+513,[.slice none 0 0,.int .u32 0]⟩,⟨vb,vo,intsV lens++vs⟩]) (congrArg (fun q=>([(⟨b11,0,q⟩:Frag),⟨b5,0,cellsI 16 (cntL lens)⟩,⟨hb,o,[.int .i64 ((minL lens:Nat):Int)]⟩,⟨hb,o+1,cellsU 512 f⟩,⟨hb,o+513,[.slice none 0 0,.int .u32 0]⟩,⟨vb,vo,intsV lens++vs⟩]:Frags)) (nextK_more hk2 hmn1 hmx1))<|Ek13 0 1 6 7 11 18 19 20 168 169 170 171 176 U<|Cr<|Em U U ?_
  refine Aa (Fy (b:=((4:Nat):Int)) U U (by omega) (N.shl64 (by rw[Nat.shiftLeft_eq];omega))) U ?_
  refine An (v:=.int .i64 ((k*16:Nat):Int)) (congrArg (fun q:Nat=>Value.int .i64 (q:Int)) (by rw[Nat.shiftLeft_eq]))<|Em U U<|Aa (S.or U U (N.or64 (by omega) (by omega))) U<|An (v:=.int .i64 ((k*16+(lenOf lens k):Nat):Int)) (congrArg (fun q:Nat=>Value.int .i64 (q:Int)) (by exact or16 _ _ (by omega)))<|Aa (Bv U Tu3 Tu69 (N.in_u32 (by omega))) U<|Ea U U<|Ek14 0 1 6 7 11 18 19 20 21 168 169 170 171 176 U<|Cr<|Em U U<|Aa (Bv U Tu3 Tu153 (N.in_u16 (by omega))) U ?_
  refine Ai (OpX.pick [] (F:=[_,_,_,_,_,_]) U (Ar U Tryz.call109 (reverse16_spec _ (by omega)))) U ?_;rintro _ _⟨_,⟨rfl,rfl⟩,rfl⟩;refine Er6 U ?_
  refine Aa (Bv U Tu153 Tu3 (N.i64n (by omega))) U<|Ea U U<|Ek15 0 1 6 7 11 18 19 20 21 22 168 169 170 171 176 U<|Cr<|Em U U<|Em U U<|Aa (Dr (a:=((16:Nat):Int)) U U (N.sub64 (by omega) (by omega))) U<|Aa (Bv U Tu3 Tu137 (N.in_u64 (by omega))) U<|Aa (Fl U U (by omega) (N.shr64 (by omega) _)) U<|An (v:=.int .i64 ((revB (lenOf lens k) (codeOf lens k):Nat):Int)) (congrArg (fun q:Nat=>Value.int .i64 (q:Int)) (by exact revB_sh _ (by omega)))<|Ea U U<|Ek15 0 1 6 7 11 18 19 20 21 22 168 169 170 171 176 U ?_
  refine Cr<|Em U U<|Aa (S.le (b:=((9:Nat):Int)) U U) U<|Ek16 0 1 6 7 11 18 19 20 21 22 168 169 170 171 176 200 U<|Bf U (fun h200=>?_) (fun h200=>?_)
  ·have hp9:2^(lenOf lens k)≤2^9:=Nat.pow_le_pow_right (by omega) (by omega)
   have hp0:0<2^(lenOf lens k):=Nat.pow_pos (by omega)
   refine Cr<|Em U U<|Ea U U<|Ek17 0 1 6 7 11 18 19 20 21 22 23 168 169 170 171 176 200 U<|As ?_
   refine Bx (L2:=[⟨b11,0,cellsI 16 (nextK lens (minL lens) (maxL lens) (k+1))⟩,⟨b5,0,cellsI 16 (cntL lens)⟩,⟨hb,o,[.int .i64 ((minL lens:Nat):Int)]⟩,⟨hb,o+1,cellsU 512 (fun x=>if x<revB (lenOf lens k) (codeOf lens k)∧x%2^(lenOf lens k)=revB (lenOf lens k) (codeOf lens k)then k*16+(lenOf lens k)else f x)⟩,⟨hb,o+513,[.slice none 0 0,.int .u32 0]⟩,⟨vb,vo,intsV lens++vs⟩]) (by rw[fill_zero (k:=k) (n:=(lenOf lens k)) (c:=codeOf lens k) (f:=f) _ U];try rfl) ?_
   refine Bw (fun mm ee ll=>∃(off:Nat),keeps ee [0,1,6,7,11,168,169,170,19,21,23]=some [(0,.pointer (some ⟨hb,o,none⟩)),(1,.slice (some ⟨vb,vo,none⟩) lens.length vc),(6,.int .i64 ((minL lens:Nat):Int)),(7,.int .i64 ((maxL lens:Nat):Int)),(11,.pointer (some ⟨b11,0,none⟩)),(168,.slice (some ⟨vb,vo,none⟩) lens.length vc),(169,.int .i64 ((lens.length:Nat):Int)),(170,.int .i64 ((k:Nat):Int)),(19,.int .i64 (((lenOf lens k):Nat):Int)),(21,.int .u32 ((k*16+(lenOf lens k):Nat):Int)),(23,.int .i64 ((off:Nat):Int))]∧ll=[⟨b11,0,cellsI 16 (nextK lens (minL lens) (maxL lens) (k+1))⟩,⟨b5,0,cellsI 16 (cntL lens)⟩,⟨hb,o,[.int .i64 ((minL lens:Nat):Int)]⟩,⟨hb,o+1,cellsU 512 (fun x=>if x<off∧x%2^(lenOf lens k)=revB (lenOf lens k) (codeOf lens k)then k*16+(lenOf lens k)else f x)⟩,⟨hb,o+513,[.slice none 0 0,.int .u32 0]⟩,⟨vb,vo,intsV lens++vs⟩]∧(off%2^(lenOf lens k)=revB (lenOf lens k) (codeOf lens k))∧(off<1024)∧mm=1024-off) (_) ⟨revB (lenOf lens k) (codeOf lens k),rfl,rfl,Nat.mod_eq_of_lt (Eh _ _),by omega,rfl⟩ ?_
   rintro m7 _ _⟨off,hk7,rfl,hoff,ho9,hm7⟩
   refine Av _ hk7<|Am<|Cr<|Em U U<|Aa (Dl (b:=((512:Nat):Int)) U U) U<|Ek12 0 1 6 7 11 19 21 23 168 169 170 203 U<|Bf U (fun h203=>?_) (fun h203=>?_)
   ·refine Ap<|Am<|As<|Am<|Cr<|Em U U<|Ae 209 false U U U U<|Ae 209 false U U U U<|Ae 209 false U U U U<|Ae 209 false U U U U<|Ae 209 false U U U U<|Ae 209 false U U U U ?_
    refine Ae 209 false U U U U<|Aa (Bk U U) U<|Ek13 0 1 6 7 11 19 21 23 168 169 170 203 217 U<|C.no U (rfl)<|Ap<|Al<|Em U U<|Em U U<|Em U U<|Aa (Ad U) U<|Aa (Ab U fa177_1) U<|Aa (Bj U U (by omega) Tu174 Tz69) U ?_
    refine Ao (Aq 3 (k:=off*1) U U U U (by rw[Nat.blt_eq,Es];omega) Tz69) ?_
    rintro _ _⟨rfl,rfl⟩
    refine Ax (L2:=[⟨b11,0,cellsI 16 (nextK lens (minL lens) (maxL lens) (k+1))⟩,⟨b5,0,cellsI 16 (cntL lens)⟩,⟨hb,o,[.int .i64 ((minL lens:Nat):Int)]⟩,⟨hb,o+1,cellsU 512 (fun x=>if x<off+2^(lenOf lens k)∧x%2^(lenOf lens k)=revB (lenOf lens k) (codeOf lens k)then k*16+(lenOf lens k)else f x)⟩,⟨hb,o+513,[.slice none 0 0,.int .u32 0]⟩,⟨vb,vo,intsV lens++vs⟩]) (congrArg (fun q=>([⟨b11,0,cellsI 16 (nextK lens (minL lens) (maxL lens) (k+1))⟩,⟨b5,0,cellsI 16 (cntL lens)⟩,⟨hb,o,[.int .i64 ((minL lens:Nat):Int)]⟩,(⟨hb,o+1,q⟩:Frag),⟨hb,o+513,[.slice none 0 0,.int .u32 0]⟩,⟨vb,vo,intsV lens++vs⟩]:Frags)) (fill_next hoff))<|Ek13 0 1 6 7 11 19 21 23 168 169 170 203 217 U<|Al<|Em U U<|Em U U<|Aa (Bv U Tu3 Tu137 (N.in_u64 (by omega))) U ?_
    refine Aa (Fy (a:=((1:Nat):Int)) U U (by omega) (N.shl64 (by rw[Nat.one_shiftLeft];omega))) U ?_
    refine An (v:=.int .i64 ((2^(lenOf lens k):Nat):Int)) (congrArg (fun q:Nat=>Value.int .i64 (q:Int)) (by rw[Nat.one_shiftLeft]))<|Aa (Bl U U (N.add64 (by omega))) U<|Ea U U<|Ek13 0 1 6 7 11 19 21 23 168 169 170 203 217 U ?_
    refine⟨_,?_,off+2^(lenOf lens k),rfl,rfl,by rw[Nat.add_mod_right];exact hoff,by omega,rfl⟩;omega
   have hT2:=hT.addShort hfit (by omega) (by omega) (f':=(fun x=>if x<off∧x%2^(lenOf lens k)=revB (lenOf lens k) (codeOf lens k)then k*16+(lenOf lens k)else f x)) (fun x hx he=>if_pos ⟨by omega,he⟩) (fun x hx he=>if_neg (fun h=>he h.2))
   have hfb2:∀x,x<512→(fun x=>if x<off∧x%2^(lenOf lens k)=revB (lenOf lens k) (codeOf lens k)then k*16+(lenOf lens k)else f x) x<65536:=fun x hx=>by
     simp only
     split
     · omega
     · exact hfb x hx
   refine Bu U<|Al<|Aa (Bl (b:=((1:Nat):Int)) U U (N.add64 (by omega))) U<|Em U U<|Ek12 0 1 6 7 11 19 21 23 168 169 170 203 U ?_
   refine⟨_,?_,k+1,_,rfl,rfl,by omega,hT2,hfb2,rfl⟩;omega
  exact absurd h200 (by omega)
 have hk2:k=lens.length:=by omega
 subst hk2
 refine Bu U<|Am<|C.no U (rfl)<|Ap<|Cr<|Ea U U<|Ek10 0 1 4 6 7 11 168 169 170 171 U<|Bb ?_
 refine⟨_,rfl,.inl ⟨hok,rfl,_,[_,_],small_res (tab_small hfit U (hfull.imp id (fun h=>h.1)) (by omega) hT) hfb hmp.1,Same.perm (Br (A:=[_,_,_,_]) (F:=[_,_]) (is:=[5,2,2,2]) U)⟩⟩
def RawH(cs:List Value):Prop:=∃mn0 rest,cs=.int .i64 ((mn0:Nat):Int)::rest∧rest.length=514∧(mn0=0→rest=cellsU 512 (fun _=>0)++[.slice none 0 0,.int .u32 0])
theorem rawZ:RawH hufZ:=⟨0,_,rfl,by simp[Es],fun _=>rfl⟩
theorem huf_raw{lens:List Nat}{mn hb o:Nat}{L:Frags}(h:HufT lens mn hb o L):∃cs J,RawH cs∧∀F,Same (L++F) (⟨hb,o,cs⟩::(J++F)):=by
  obtain⟨f,g,nt,nk,lv,T,_,_,_,_,_,_,h0,rfl,hT⟩:=h
  refine⟨.int .i64 ((mn:Nat):Int)::(cellsU 512 f++[lv,.int .u32 ((nk-1:Nat):Int)]),T,⟨mn,_,rfl,by simp[Es],fun e=>?_⟩,fun F=>?_⟩
  · obtain⟨h1,h2,h3⟩:=h0 e
    rw[cellsU_congr h1,h2,h3];rfl
  · exact(Same.chunks hb (T++F) [(o,[.int .i64 ((mn:Nat):Int)]),(o+1,cellsU 512 f),(o+513,[lv,.int .u32 ((nk-1:Nat):Int)])] o (by simp[Gw,Es])).symm
theorem readString_spec{K:Known}{ea:Fin 5→Addr}(hs:Sents K ea)(src:Src K ea)(l:List UInt8)(x1 x2 x3:Frag)(zb d:Nat)(c0 c1 c2 c3 c4 c5 c7 c9:Value)(bs:List Value)(hA:src.At l x1 x2 x3)(hbs:bs.length=512)(hd:d<4294967296):Fn Tryz.prog K 73 #[.pointer (some ⟨zb,0,none⟩)] ([x1,x2,x3,⟨zb,0,[c0,c1,c2,c3,c4,c5,.iface src.t src.v,c7,.int .u32 ((d:Nat):Int),c9]⟩,⟨zb,10,bs⟩]) (fun r L=>∃f1 f2 f3 bs2,src.At (l.drop (Fd l)) f1 f2 f3∧bs2.length=512∧r=.tuple #[.string (strTxt l),Er.val ea (strEr l)]∧L=[f1,f2,f3,⟨zb,0,[c0,c1,c2,c3,c4,c5,.iface src.t src.v,c7,.int .u32 ((strCrc d l:Nat):Int),c9]⟩,⟨zb,10,bs2⟩]):=by
 refine Fn.intro (args:=[.pointer (some ⟨zb,0,none⟩)]) (RR:=Ret2 2 3 _) Tryz.func73 rfl rfl Tryz.ntmps73 (res2 Tryz.results73) ?_
 refine Bi (env2:=[(0,.pointer (some ⟨zb,0,none⟩))]) U<|Cr<|Ea U U<|Aa (Az (v:=Er.val ea .none) U) U<|Ek3 0 2 3 U<|Cr<|Aa (Az (v:=Er.val ea .none) U) U<|Ek4 0 2 3 4 U<|Cr<|Ea U U<|Ek5 0 2 3 4 5 U<|Cr ?_
 refine Ea U U<|Ek6 0 2 3 4 5 6 U<|As<|Bw (fun mm ee ll=>∃(i:Nat),∃(nc:Bool),∃(g1:Frag),∃(g2:Frag),∃(g3:Frag),keeps ee [0,5,6]=some [(0,.pointer (some ⟨zb,0,none⟩)),(5,.bool nc),(6,.int .i64 ((i:Nat):Int))]∧ll=[g1,g2,g3,⟨zb,0,[c0,c1,c2,c3,c4,c5,.iface src.t src.v,c7,.int .u32 ((d:Nat):Int),c9]⟩,⟨zb,10,bytesV (l.take (i))++bs.drop (i)⟩]∧(i≤512)∧(i≤l.length)∧(∀c∈l.take i,c≠0)∧(nc=(l.take i).any big)∧(src.At (l.drop i) g1 g2 g3)∧mm=512-i) (_) ⟨0,false,x1,x2,x3,rfl,rfl,by omega,by omega,by simp,rfl,hA,rfl⟩ ?_
 rintro m0 _ _⟨i,nc,g1,g2,g3,hk0,rfl,hi,hil,hnz,hnc,hG,hm0⟩
 refine Av _ hk0<|Am<|As<|Am<|Cr<|Em U U<|Aa (S.ge (b:=((512:Nat):Int)) U U) U<|Ek4 0 5 6 13 U<|Bf U (fun h13=>?_) (fun h13=>?_)
 ·obtain⟨q1,q2,q3,q4⟩:=str_header (l:=l) (by rw[show i=512 by omega]at hnz;exact hnz) (by omega) d
  rw[show i=512 by omega,←q2]at hG
  refine Am<|Bt [0,0,3] (.pure 1 1 (.seg [(0,2),(2,3)] .done)) mixed (by decide+kernel)<|Ah U (Az U) U<|Dc (by decide)<|Au U (Be U hs.g1 Ta58) U<|Ba U (Az U) U<|Da<|Dk6 0 2 3 5 6 13 U<|Bb ?_
  exact⟨_,_,rfl,rfl,g1,g2,g3,(bytesV (l.take i)++bs.drop i),hG,by rw[List.length_append,Bh,List.length_take,List.length_drop];omega,by first|(rw[q3,q1];rfl)|rw[q3,q1],by first|(rw[q4];rfl)|rw[q4]⟩
 refine Ap<|Am<|Bt [0,0,0,4,8,16,32,64,128,128,1,1024,2559,4607,16383] (.pure 0 1022 (.pure 1 4093 (.pure 2 3075 (.pure 3 3079 (.pure 4 3087 (.pure 10 1023 (.pure 11 2047 (.seg [(5,3103)] (.alt 6 (.pure 7 3199 (.pure 8 3839 (.pure 9 15871 (.pure 12 4095 (.alt 13 (.pure 14 16383 .done) .stop))))) .stop))))))))) mixed (by decide+kernel)<|Dm U U U<|Dm U U U<|Dm U U U<|Ah U (Ad U) U<|Ah U (Ab U fa99_1) U<|Ah U (Ad U) U<|Ah U (Ab U fa99_5) U<|Dc (by decide)<|Au U (Aj 3 (k:=6) U U U Ta94) U ?_
 refine Da<|By ?_
 refine Bo U (OpX.pick [0,0,0] (F:=[_,_]) U (X.invoke U U src.mByte src.cByte (src.byte _ _ _ _ hG))) U ?_;rintro _ _⟨_,⟨f1,f2,f3,hF,rfl,rfl⟩,rfl⟩;refine Dr5 U ?_
 refine Dm U U U<|Ah U (Bg U U) U<|Ah U (Bg U U) U<|Ah U (Bj U U (by omega) Tu97 Tz5) U<|Fi (v:=.pointer (some ⟨zb,10+i,none⟩)) (ptr_to (by omega))<|By ?_
 refine Di U (Aq 4 (k:=i) U U U U (by rw[Nat.blt_eq,List.length_append,Bh,List.length_take,List.length_drop];omega) Tz5) ?_;rintro _ _⟨rfl,rfl⟩;refine Dr5 U ?_
 refine Ah U (Az U) U<|Dk5 0 4 5 6 13 U<|Am<|Cr<|Em U U<|Ag (Df U) U<|Ek6 0 4 5 6 13 29 U<|Dn U (fun h29=>?_) (fun h29=>?_)
 ·have hz:l.drop i=[]:=by
    cases hq:l.drop i with
    |nil=>rfl
    |cons c r=>rw[hq]at h29;exact absurd U h29
  have hz2:=List.drop_eq_nil_iff.1 hz
  have hlen:(bytesV (l.take i)).length=i:=by rw[Bh,List.length_take];omega
  obtain⟨q1,q2,q3,q4⟩:=str_eof (l:=l) (by rw[List.take_of_length_le hz2]at hnz;exact hnz) (by omega) d
  rw[hz,show [].drop 1=l.drop (Fd l) by rw[q2,List.drop_length];rfl]at hF
  have q5:rdErr (l.drop i)=.eof:=by rw[hz];rfl
  refine Cr<|Em U U<|Ea U U<|Ea U U<|Ek8 0 2 3 4 5 6 13 29 U<|Bb ?_
  exact⟨_,_,rfl,rfl,f1,f2,f3,((bytesV (l.take i)++bs.drop i).set i (.int .u8 ((rdByte (l.drop i):Nat):Int))),hF,by rw[List.length_set,List.length_append,Bh,List.length_take,List.length_drop];omega,by first|(rw[q3,q1,q5];rfl)|rw[q3,q1,q5],by first|(rw[q4];rfl)|rw[q4]⟩
 have hi3:i<l.length:=by
   rcases Nat.lt_or_ge i l.length with h|h
   · exact h
   · rw[List.drop_eq_nil_of_le h]at h29;cases h29
 have hcons:l.drop i=l[i]::l.drop (i+1):=List.drop_eq_getElem_cons hi3
 have hrb:rdByte (l.drop i)=l[i].toNat:=by rw[hcons];rfl
 rw[hcons,List.drop_succ_cons,List.drop_zero]at hF
 refine Bx (L2:=[f1,f2,f3,⟨zb,0,[c0,c1,c2,c3,c4,c5,.iface src.t src.v,c7,.int .u32 ((d:Nat):Int),c9]⟩,⟨zb,10,bytesV (l.take (i+1))++bs.drop (i+1)⟩]) (by rw[hrb];exact congrArg (fun x=>[f1,f2,f3,⟨zb,0,[c0,c1,c2,c3,c4,c5,.iface src.t src.v,c7,.int .u32 ((d:Nat):Int),c9]⟩,(⟨zb,10,x⟩:Frag)]) (buf_set hi3 (by omega) hbs)) ?_
 have hget:=buf_get (bs:=bs) hi3
 have hc8:=l[i].toNat_lt
 refine Ap<|Du (M:=fun ee ll=>∃(nc2:Bool),keeps ee [0,5,6]=some [(0,.pointer (some ⟨zb,0,none⟩)),(5,.bool nc2),(6,.int .i64 ((i:Nat):Int))]∧ll=[f1,f2,f3,⟨zb,0,[c0,c1,c2,c3,c4,c5,.iface src.t src.v,c7,.int .u32 ((d:Nat):Int),c9]⟩,⟨zb,10,bytesV (l.take (i+1))++bs.drop (i+1)⟩]∧(nc2=(l.take (i+1)).any big)) ?_ ?_
 ·refine Cr<|Em U U<|Em U U<|Aa (Ad U) U<|Aa (Ab U fa99_5) U<|Aa (Bj U U (by omega) Tu97 Tz5) U<|An (v:=.pointer (some ⟨zb,10+i,none⟩)) (ptr_to (by omega))<|Ag (Aj 4 (k:=i) U U hget Ta5) U<|Aa (Fh (b:=((127:Nat):Int)) U U) U<|Ek7 0 4 5 6 13 29 37 U<|Bf U (fun h37=>?_) (fun h37=>?_)
  ·refine Al<|Ea U U<|Ek7 0 4 5 6 13 29 37 U ?_
   exact⟨true,rfl,rfl,any_true hi3 h37⟩
  refine Ap ?_
  exact⟨nc,rfl,rfl,any_keep hi3 hnc h37⟩
 rintro _ _⟨nc2,hq12,rfl,hnc2⟩
 refine Av _ hq12<|Cr<|Em U U<|Em U U<|Aa (Ad U) U<|Aa (Ab U fa99_5) U<|Aa (Bj U U (by omega) Tu97 Tz5) U<|An (v:=.pointer (some ⟨zb,10+i,none⟩)) (ptr_to (by omega))<|Ag (Aj 4 (k:=i) U U hget Ta5) U<|Aa (Ef (b:=((0:Nat):Int)) U U) U<|Ek4 0 5 6 44 U<|Bf U (fun h44=>?_) (fun h44=>?_)
 ·have h0:l[i]? =some 0:=by rw[List.getElem?_eq_getElem hi3,Option.some.injEq];exact UInt8.toNat_inj.1 (by simpa using h44)
  obtain⟨q1,q2,q3,q4⟩:=str_ok hnz h0 (by omega) d
  rw[←q2]at hF
  have hlt1:(l.take (i+1)).length=i+1:=by rw[List.length_take];omega
  have hlt0:(l.take i).length=i:=by rw[List.length_take];omega
  refine Am<|Bt [0,0,2,4,8,0,32,64,0,256,640,1040,4095,8191,12287] (.pure 0 4094 (.pure 1 2017 (.pure 2 2019 (.pure 3 2023 (.pure 5 799 (.pure 6 831 (.pure 7 895 (.pure 8 255 (.pure 9 511 (.pure 10 1023 (.seg [(4,2031)] (.alt 11 (.pure 12 4095 (.pure 13 8191 (.alt 14 .done .stop))) .stop)))))))))))) mixed (by decide+kernel)<|Dm U U U<|Dm U U U<|Ah U (Ad U) U<|Ah U (Ab U fa99_3) U<|Dm U U U<|Ah U (Ad U) U<|Ah U (Ab U fa99_5) U<|Dm U U U<|Ah U (Bl (b:=((1:Nat):Int)) U U (N.add64 (by omega))) U<|Ah U (Fo (l:=0) (k:=.i64) U U U (by omega) (by omega) Tu97 Tz5) U ?_
  refine Fi (v:=.slice (some ⟨zb,10,none⟩) ((l.take (i+1)).length) (512)) (Dj (by simp[part]) (by rw[hlt1];rfl) U) ?_
  refine Dc (by decide)<|Au U (Aj 3 (k:=8) U U U Ta69) U<|Da<|By ?_
  refine Bo U (Ar U Tryz.call55 (Gy d zb 10 512 (l.take (i+1)) hd (Reads.frag (i:=4) (k:=0) U buf_part) (by omega) (by omega))) U ?_;rintro _ _⟨rfl,rfl⟩;refine Dr5 U ?_
  refine Ah U (Ad U) U<|Ah U (Ab U fa99_3) U<|By ?_
  refine Di U (Aq 3 (k:=8) U U U U U Tz69) ?_;rintro _ _⟨rfl,rfl⟩;refine Dr5 U ?_
  refine Dk4 0 5 6 44 U<|Am<|Cr<|Em U U<|Ek5 0 5 6 44 59 U<|Eg U (fun h59=>?_) (fun h59=>?_)
  ·refine Cr<|Em U U ?_
   refine Ai (Hx (l:=0) (c:=i) (bytes:=4) Tryz.underlying173 infoI32 (z:=.int .i32 0) U U U U U U (by omega) (by omega) (by omega)) U ?_;rintro _ _⟨b,rfl,rfl⟩;refine Er6 U ?_
   refine Ea U U<|Ek6 0 5 6 7 44 59 U<|Am<|Cr<|Em U U<|Aa (Ad U) U<|Aa (Ab U fa99_5) U<|Em U U<|Aa (Fo (l:=0) (k:=.i64) U U U (by omega) (by omega) Tu97 Tz5) U ?_
   refine An (v:=.slice (some ⟨zb,10,none⟩) ((l.take i).length) (512)) (Dj (by simp[part]) (by rw[hlt0];rfl) U) ?_
   refine Aa (Bc U Tu25) U<|An (v:=.int .i64 ((i:Nat):Int)) (by rw[hlt0])<|Em U U<|Ek9 0 5 6 7 44 59 66 67 68 U<|As<|Bw (fun mm ee ll=>∃(j:Nat),∃(b:Nat),∃(o:Nat),∃(c:Nat),∃(cs:List Value),keeps ee [0,7,66,67,68]=some [(0,.pointer (some ⟨zb,0,none⟩)),(7,.slice (some ⟨b,o,none⟩) (j) (c)),(66,.slice (some ⟨zb,10,none⟩) ((l.take i).length) (512)),(67,.int .i64 ((i:Nat):Int)),(68,.int .i64 ((j:Nat):Int))]∧ll=[⟨b,o,cs⟩,f1,f2,f3,⟨zb,0,[c0,c1,c2,c3,c4,c5,.iface src.t src.v,c7,.int .u32 ((crcOn IEEE d (l.take (i+1)):Nat):Int),c9]⟩,⟨zb,10,bytesV (l.take (i+1))++bs.drop (i+1)⟩]∧(j≤i)∧(cs.take j=runesV (l.take j))∧(cs.length=c)∧(j≤c)∧(c≤9223372036854775807)∧mm=i-j) (_) ⟨0,_,_,_,_,rfl,rfl,by omega,by simp[runesV],List.length_replicate,by omega,by omega,rfl⟩ ?_
   rintro m1 _ _⟨j,b,o,c,cs,hk1,rfl,hj,hcs,hcl,hjc,hcm,hm1⟩
   refine Av _ hk1<|Cr<|Aa (Dl U U) U<|Ek6 0 7 66 67 68 69 U<|Am<|Bf U (fun h69=>?_) (fun h69=>?_)
   ·have hj3:j<l.length:=by omega
    have hj4:(l.take i)[j]? =some l[j]:=by rw[List.getElem?_take,if_pos (by omega),List.getElem?_eq_getElem hj3]
    have hgj:(bytesV (l.take (i+1))++bs.drop (i+1))[j]? =some (u8 l[j]):=by
      rw[List.getElem?_append_left (by rw[Bh,hlt1];omega),Jg (by rw[hlt1];omega)]
      simp
    have hc9:=l[j].toNat_lt
    refine Ap<|Am<|As<|Cr<|Aa (Bm U U (by omega) Tu25 Tz5) U<|An (v:=.pointer (some ⟨zb,10+j,none⟩)) (ptr_to (by omega))<|Ag (Aj 5 (k:=j) U U hgj Ta5) U<|Ea U U<|Ek7 0 7 9 66 67 68 69 U<|Al<|Em U U<|Em U U ?_
    refine Aa (Bv (r:=((l[j].toNat:Nat):Int)) U Tu5 Tryz.underlying21 (IntWalk.i32_in _ (by omega))) U ?_
    refine Ai (X.buildSlice (vs:=[.int .i32 ((l[j].toNat:Nat):Int)]) (e:=21) (i:=Tryz.t21) (z:=.int .i32 0) (fun w=>by simp[Instr.buildSlice,Instr.fill,Value.cells,newRow,ev?,get?,Tryz.runUnderlying173,Tryz.typeInfo21];rw[arr1]) U) U ?_;rintro _ _⟨yb,rfl,rfl⟩;refine Er7 U ?_
    refine Dd [1,0,0,0,0,0,0] (A:=[_,_,_,_,_,_,_]) (F:=[]) U ?_
    refine Ai (X.appendRune U U hcs hcl hjc hcm (by omega)) U ?_;rintro _ _⟨b2,o2,k2,cs2,rfl,hcs2,hcl2,hjc2,hcm2,rfl⟩;refine Er7 U ?_
    rw[←runesV_snoc hj3]at hcs2
    refine Ea U U<|Ds [0,1,1,1,1,1] (A:=[_,_,_,_,_,_]) U<|Ek7 0 7 9 66 67 68 69 U<|Al<|Aa (Bl (b:=((1:Nat):Int)) U U (N.add64 (by omega))) U<|Em U U<|Ek7 0 7 9 66 67 68 69 U ?_
    refine⟨_,?_,j+1,_,_,_,_,rfl,rfl,by omega,hcs2,hcl2,by omega,hcm2,rfl⟩;omega
   have hji:j=i:=by omega
   subst hji
   refine Bu U<|Cr<|Em U U ?_
   refine Ag (S.runesStr (zs:=(l.take j).map fun c=>((c.toNat:Nat):Int)) Tryz.underlying173 Tryz.underlying21 Tu9 U (by simp;omega) (by rw[List.map_map];exact Reads.frag (i:=0) (k:=0) U (by rw[List.length_map,List.length_take,Nat.min_eq_left (by omega),List.drop_zero,hcs];rfl))) U ?_
   refine An (v:=.string (latin (l.take j))) (by unfold latin;rfl) ?_
   refine Ds [1,1,1,1,1] (A:=[_,_,_,_,_]) U<|Ea U U<|Aa (Az (v:=Er.val ea .none) U) U<|Ek8 0 2 3 7 66 67 68 69 U<|Bb ?_
   exact⟨_,_,rfl,rfl,f1,f2,f3,(bytesV (l.take (j+1))++bs.drop (j+1)),hF,by rw[List.length_append,Bh,List.length_take,List.length_drop];omega,by first|(rw[q3,q1];rfl)|rw[q3,q1],by first|(rw[q4];rfl)|rw[q4]⟩
  have hasc:∀c∈l.take i,c.toNat≤127:=by
    rw[any_snoc hi3]at hnc2
    rw[hnc2]at h59
    exact none_big (Bool.or_eq_false_iff.1 h59).1
  refine Ap<|Cr<|Em U U<|Aa (Ad U) U<|Aa (Ab U fa99_5) U<|Em U U<|Aa (Fo (l:=0) (k:=.i64) U U U (by omega) (by omega) Tu97 Tz5) U ?_
  refine An (v:=.slice (some ⟨zb,10,none⟩) ((l.take i).length) (512)) (Dj (by simp[part]) (by rw[hlt0];rfl) U) ?_
  refine Ag (S.bytesStr (l:=l.take i) Tu25 Tu5 Tu9 U (.inr ⟨_,_,rfl,Reads.frag (i:=4) (k:=0) U (buf_part1 hi3)⟩)) U<|An (v:=.string (latin (l.take i))) (by rw[latin_ascii hasc])<|Ea U U<|Aa (Az (v:=Er.val ea .none) U) U<|Ek7 0 2 3 5 6 44 59 U<|Bb ?_
  exact⟨_,_,rfl,rfl,f1,f2,f3,(bytesV (l.take (i+1))++bs.drop (i+1)),hF,by rw[List.length_append,Bh,List.length_take,List.length_drop];omega,by first|(rw[q3,q1];rfl)|rw[q3,q1],by first|(rw[q4];rfl)|rw[q4]⟩
 have hnz2:∀c∈l.take (i+1),c≠0:=by
   rw[En hi3]
   intro c hc
   rcases List.mem_append.1 hc with h|h
   · exact hnz c h
   · rw[List.mem_singleton.1 h];intro hz;rw[hz]at h44;exact h44 U
 refine Ap<|Al<|Em U U<|Aa (Bl (b:=((1:Nat):Int)) U U (N.add64 (by omega))) U<|Ea U U<|Ek4 0 5 6 44 U ?_
 refine⟨_,?_,i+1,nc2,f1,f2,f3,rfl,rfl,by omega,by omega,hnz2,hnc2,hF,rfl⟩;omega
instance (e:Er):Decidable (e=.none):=decidable_of_iff (e.isNone=true) Er.isNone_iff
structure Hd where
  name:ByteArray
  comment:ByteArray
  extra:Option (List UInt8)
  mod:Nat
  os:Nat
def noHd:Hd:=⟨⟨#[]⟩,⟨#[]⟩,none,0,0⟩
def le16of(l:List UInt8):Nat:=le16 (l.getD 0 0).toNat (l.getD 1 0).toNat
def rd4(l:List UInt8)(flg d:Nat)(h:Hd):Er×List UInt8×Hd:=
  if flg&&&2=0 then(.none,l,h)
  else if Dg l 2≠.none then(noEof (Dg l 2),l.drop 2,h)
  else if le16of l≠d%65536 then(.header,l.drop 2,h)
  else(.none,l.drop 2,h)
def rd3(l:List UInt8)(flg d:Nat)(h:Hd):Er×List UInt8×Hd:=
  if flg&&&16=0 then rd4 l flg d h
  else if strEr l≠.none then(noEof (strEr l),l.drop (Fd l),h)
  else rd4 (l.drop (Fd l)) flg (strCrc d l) {h with comment:=strTxt l}
def rd2(l:List UInt8)(flg d:Nat)(h:Hd):Er×List UInt8×Hd:=
  if flg&&&8=0 then rd3 l flg d h
  else if strEr l≠.none then(noEof (strEr l),l.drop (Fd l),h)
  else rd3 (l.drop (Fd l)) flg (strCrc d l) {h with name:=strTxt l}
def rd1(l:List UInt8)(flg d:Nat)(h:Hd):Er×List UInt8×Hd:=
  if flg&&&4=0 then rd2 l flg d h
  else if Dg l 2≠.none then(noEof (Dg l 2),l.drop 2,h)
  else if Dg (l.drop 2) (le16of l)≠.none then(noEof (Dg (l.drop 2) (le16of l)),(l.drop 2).drop (le16of l),h)
  else rd2 ((l.drop 2).drop (le16of l)) flg (crcOn IEEE (crcOn IEEE d (l.take 2)) ((l.drop 2).take (le16of l))) {h with extra:=some ((l.drop 2).take (le16of l))}
def Ac(l:List UInt8):Er×List UInt8×Hd:=
  if Dg l 10≠.none then(Dg l 10,l.drop 10,noHd)
  else if(l.getD 0 0).toNat=31∧(l.getD 1 0).toNat=139∧(l.getD 2 0).toNat=8 then
    rd1 (l.drop 10) (l.getD 3 0).toNat (crcOn IEEE 0 (l.take 10)) {noHd with mod:=le32 (l.getD 4 0).toNat (l.getD 5 0).toNat (l.getD 6 0).toNat (l.getD 7 0).toNat,os:=(l.getD 9 0).toNat}
  else(.header,l.drop 10,noHd)
theorem Gi{l:List UInt8}{m:Nat}:Dg l m≠.none↔l.length<m:=by
  unfold Dg
  split
  · simp;omega
  · split<;>simp<;>omega
theorem ten{l:List UInt8}(h:Dg l 10=.none):∃v0 v1 v2 v3 v4 v5 v6 v7 v8 v9 r,l=v0::v1::v2::v3::v4::v5::v6::v7::v8::v9::r:=by
  have hl:10≤l.length:=by
    rcases Nat.lt_or_ge l.length 10 with h1|h1
    · exact absurd h (Gi.2 h1)
    · exact h1
  match l,hl with
  |a0::a1::a2::a3::a4::a5::a6::a7::a8::a9::r,_=>exact⟨_,_,_,_,_,_,_,_,_,_,_,rfl⟩
theorem two{l:List UInt8}(h:Dg l 2=.none):∃v0 v1 r,l=v0::v1::r:=by
  have hl:2≤l.length:=by
    rcases Nat.lt_or_ge l.length 2 with h1|h1
    · exact absurd h (Gi.2 h1)
    · exact h1
  match l,hl with
  |a0::a1::r,_=>exact⟨_,_,_,rfl⟩
theorem full_len{l:List UInt8}{m:Nat}(h:Dg l m=.none):m≤l.length:=by
  rcases Nat.lt_or_ge l.length m with h1|h1
  · exact absurd h (Gi.2 h1)
  · exact h1
theorem Ep(v0 v1 v2 v3 v4 v5 v6 v7 v8 v9:UInt8)(r:List UInt8):Ac (v0::v1::v2::v3::v4::v5::v6::v7::v8::v9::r)=
    if v0.toNat=31∧v1.toNat=139∧v2.toNat=8 then rd1 r v3.toNat (crcOn IEEE 0 [v0,v1,v2,v3,v4,v5,v6,v7,v8,v9]) {noHd with mod:=le32 v4.toNat v5.toNat v6.toNat v7.toNat,os:=v9.toNat}else(.header,r,noHd):=by
  have:¬Dg (v0::v1::v2::v3::v4::v5::v6::v7::v8::v9::r) 10≠.none:=by rw[Gi];simp only[List.length_cons];omega
  rw[Ac,if_neg this]
  rfl
theorem readHead_bad{l:List UInt8}(h:Dg l 10≠.none):Ac l=(Dg l 10,l.drop 10,noHd):=by rw[Ac,if_pos h]
def ExAt(ex:Option (List UInt8))(xa:Option Addr)(xn:Nat)(g:Frag):Prop:=match ex with
  |none=>xa=none∧xn=0∧g.cs=[]
  |some data=>∃b,xa=some ⟨b,0,none⟩∧xn=data.length∧g=⟨b,0,bytesV data⟩∧data.length<65536
def timeN(t:Nat):Nat:=if t=0 then 0 else t+62135596800
def timeV(t:Nat):Int:=((timeN t:Nat):Int)
theorem timeV_pos{t:Nat}(h:((0:Nat):Int)<((t:Nat):Int)):((t+62135596800:Nat):Int)=timeV t:=by rw[timeV,timeN,if_neg (by omega)]
theorem timeV_zero{t:Nat}(h:¬((0:Nat):Int)<((t:Nat):Int)):(0:Int)=timeV t:=by rw[timeV,timeN,if_pos (by omega)];rfl
def headV(h:Hd)(xa:Option Addr)(xn:Nat):List Value:=[.string h.comment,.slice xa xn xn,.int .u64 0,.int .i64 (timeV h.mod),.string h.name,.int .u8 ((h.os:Nat):Int)]
theorem Same.addEmpty{L:Frags}{f:Frag}(hm:f∈L)(o':Nat):Same L (⟨f.b,o',[]⟩::L):=by
  obtain⟨A,B,rfl⟩:=List.append_of_mem hm
  have s1:Same (A++f::B) (f::(A++B)):=Same.perm List.perm_middle
  have s2:Same (f::(A++B)) (f::⟨f.b,o',[]⟩::(A++B)):=Same.empty f.b f.o o' f.cs (A++B)
  have s3:Same (f::⟨f.b,o',[]⟩::(A++B)) (⟨f.b,o',[]⟩::(A++f::B)):=Same.perm ((List.Perm.swap _ _ _).trans (List.perm_middle.symm.cons _))
  exact(s1.trans s2).trans s3
section
variable {P:Program}{K:Known}
theorem Fn.lose{f:FuncId}{args:Array Value}{L:Frags}{R R':Value→Frags→Prop}(h:Fn P K f args L R)(s:∀v L',R v L'→∃A F,Same L' (A++F)∧R' v A):Fn P K f args L R':=
  fun w hw=>Calls.mono (h w hw) fun _ _ ⟨v,L',e,r,t⟩=>by
    obtain⟨A,F,h1,h2⟩:=s v L' r
    exact⟨v,A,e,h2,(t.sameR h1).drop⟩
end
theorem Dw{e:Er}(h:e≠.none):noEof e≠.none:=by
  by_cases h2:e=.se 0
  · rw[noEof_eof h2];simp
  · rw[noEof_other h2];exact h
theorem strCrc_lt{d:Nat}(h:d<4294967296)(l:List UInt8):strCrc d l<4294967296:=by
  unfold strCrc
  split
  · exact Hi (by decide) h _
  · exact h
theorem buf_full{bs:List Value}{l:List UInt8}{m:Nat}(hm:m≤l.length):bytesV (l.take m)++(bs.take m).drop (Nat.min m l.length)=bytesV (l.take m):=by
  have:Nat.min m l.length=m:=Nat.min_eq_left hm
  rw[this,List.drop_eq_nil_of_le (by rw[List.length_take];omega),List.append_nil]
theorem full_all{cs:List Value}{l:List UInt8}{m:Nat}(hm:m≤l.length)(hc:cs.length=m):bytesV (l.take m)++cs.drop (Nat.min m l.length)=bytesV (l.take m):=by
  have:Nat.min m l.length=m:=Nat.min_eq_left hm
  rw[this,List.drop_eq_nil_of_le (by omega),List.append_nil]
theorem part_all{l:List UInt8}:((bytesV l).drop 0).take (bytesV l).length=bytesV l:=by rw[List.drop_zero,List.take_length]
theorem buf_join{bs:List Value}{l:List UInt8}{m:Nat}(hm:m≤bs.length):(bytesV (l.take m)++(bs.take m).drop (Nat.min m l.length)++bs.drop m).length=bs.length:=by
  have:Nat.min m l.length=min m l.length:=rfl
  simp only[List.length_append,Bh,List.length_take,List.length_drop,this]
  omega
def Bad5(e:Er):Prop:=kindOf e=5∧e≠.none
theorem Ew(x:Int):Bad5 (.corrupt x):=⟨rfl,by simp⟩
theorem bad_eof{l:List UInt8}(h:rdErr l≠.none):Bad5 (noEof (rdErr l)):=by
  unfold rdErr at h⊢
  cases l with
  |nil=>exact⟨rfl,Dw (by simp)⟩
  |cons c r=>exact absurd rfl h
theorem drop_cases(D:List UInt8){q:Nat}(hq:q≤D.length):(rdErr (D.drop q)=.none∧∃h:q<D.length,rdByte (D.drop q)=D[q].toNat∧(D.drop q).drop 1=D.drop (q+1))∨(rdErr (D.drop q)≠.none∧q=D.length):=by
  rcases Nat.lt_or_ge q D.length with h|h
  · left
    have e:=List.drop_eq_getElem_cons h
    refine⟨by rw[e];rfl,h,by rw[e];rfl,by rw[List.drop_drop]⟩
  · right
    have e:q=D.length:=by omega
    refine⟨?_,e⟩
    rw[e,List.drop_length];simp[rdErr]
theorem or_byte{b c nb:Nat}(hb:b<2^nb)(hc:c<256)(hn:nb≤24):b|||(c<<<nb)%4294967296=b+2^nb*c:=by
  have h2:(2:Nat)^nb≤2^24:=Nat.pow_le_pow_right (by omega) hn
  have h3:c<<<nb<4294967296:=by
    rw[Nat.shiftLeft_eq]
    have:c*2^nb≤255*2^24:=Nat.mul_le_mul (by omega) h2
    omega
  rw[Nat.mod_eq_of_lt h3,Nat.or_comm,←Nat.shiftLeft_add_eq_or_of_lt hb,Nat.shiftLeft_eq,Nat.mul_comm]
  omega
theorem and31{x:Nat}(h:x<32):x&&&31=x:=by
  have:=Nat.and_two_pow_sub_one_eq_mod x 5
  rw[show x&&&31=x%32 from this,Nat.mod_eq_of_lt h]
theorem BitsIn.lt32{D:List UInt8}{p q b nb:Nat}(h:BitsIn D p q b nb)(hn:nb≤32):b<4294967296:=by
  have h1:=h.lt
  have h2:(2:Nat)^nb≤2^32:=Nat.pow_le_pow_right (by omega) hn
  omega
theorem moreBits_spec{K:Known}{ea:Fin 5→Addr}(hs:Sents K ea)(src:Src K ea)(x1 x2 x3:Frag)(fb:Nat)(rbv:Value)(ro:Int)(dt:List UInt8)(p q b nb:Nat)(hA:src.At (dt.drop q) x1 x2 x3)(hB:BitsIn dt p q b nb)(hn:nb≤24):Fn Tryz.prog K 89 #[.pointer (some ⟨fb,0,none⟩)] ([x1,x2,x3,⟨fb,0,[.iface src.t src.v,rbv,.int .i64 (ro),.int .u32 (((b):Nat):Int),.int .u64 (((nb):Nat):Int)]⟩]) (fun r L=>∃f1 f2 f3,(∃(hq:q<dt.length) (ro2:Int),r=Er.val ea .none∧src.At (dt.drop (q+1)) f1 f2 f3∧BitsIn dt p (q+1) (b+2^nb*dt[q].toNat) (nb+8)∧L=[f1,f2,f3,⟨fb,0,[.iface src.t src.v,rbv,.int .i64 (ro2),.int .u32 (((b+2^nb*dt[q].toNat):Nat):Int),.int .u64 (((nb+8):Nat):Int)]⟩])∨(q=dt.length∧(∃e,Bad5 e∧r=Er.val ea e)∧src.At ((dt.drop q).drop 1) f1 f2 f3∧L=[f1,f2,f3,⟨fb,0,[.iface src.t src.v,rbv,.int .i64 (ro),.int .u32 (((b):Nat):Int),.int .u64 (((nb):Nat):Int)]⟩])):=by
 refine Fn.intro (args:=[.pointer (some ⟨fb,0,none⟩)]) (RR:=Ret1 2 _) Tryz.func89 rfl rfl Tryz.ntmps89 (res1 Tryz.results89) ?_
 refine Bi (env2:=[(0,.pointer (some ⟨fb,0,none⟩))]) U<|Cr<|Aa (Az (v:=Er.val ea .none) U) U<|Ek2 0 2 U<|Cr<|Em U U<|Aa (Ad U) U<|Aa (Ab U fa186_0) U<|Ag (Aj 3 (k:=0) U U U Ta94) U ?_
 refine Ai (OpX.pick [0,0,0] (F:=[_]) U (X.invoke U U src.mByte src.cByte (src.byte _ _ _ _ hA))) U ?_;rintro _ _⟨_,⟨f1,f2,f3,hF,rfl,rfl⟩,rfl⟩;refine Er4 U ?_
 refine Em U U<|Aa (Bg U U) U<|Aa (Bg U U) U<|Ea U U<|Ea U U<|Ek4 0 2 3 4 U<|Am<|Cr<|Em U U<|Ag (Df U) U<|Ek5 0 2 3 4 14 U<|Dn U (fun h14=>?_) (fun h14=>?_)
 ·have hq2:=((drop_cases dt hB.le).resolve_left fun h=>h14 h.1).2
  refine Cr<|Em U U ?_
  refine Ai (OpX.pick [] (F:=[_,_,_,_]) U (Ar U Tryz.call94 (flate_noEOF (L:=[]) hs _))) U ?_;rintro _ _⟨_,⟨rfl,rfl⟩,rfl⟩;refine Er4 U ?_
  refine Ea U U<|Ek5 0 2 3 4 14 U<|Bb ?_
  exact⟨_,rfl,f1,f2,f3,.inr ⟨hq2,⟨_,bad_eof h14,rfl⟩,hF,rfl⟩⟩
 obtain⟨hq,hrb,hdd⟩:=((drop_cases dt hB.le).resolve_right fun h=>h.1 h14).2
 rw[hdd]at hF
 have hc8:=dt[q].toNat_lt
 have hm:=hB.more hq
 refine Ap<|Cr<|Em U U<|Aa (Ad U) U<|Aa (Ab U Ff) U<|Ag (Aj 3 (k:=2) U U U Ta2) U<|Aa (Bl (b:=((1:Nat):Int)) U U U) U<|Aa (Ad U) U<|Aa (Ab U Ff) U ?_
 refine Ao (Aq 3 (k:=2) U U U U U Tz2) ?_;rintro _ _⟨rfl,rfl⟩;refine Er4 U ?_
 refine Ek5 0 2 3 4 14 U<|Am<|Bt [0,1,2,4,0,16,0,64,128,256,544,1032,4095,8191,12287] (.pure 0 2032 (.pure 1 2033 (.pure 2 2035 (.pure 4 975 (.pure 5 991 (.pure 6 63 (.pure 7 127 (.pure 8 255 (.seg [(3,2039),(9,511),(10,1023),(11,2047),(12,4095),(13,8191)] (.alt 14 .done .stop)))))))))) mixed (by decide+kernel) ?_
 have hb1:=hB.lt
 have hb2:=hB.lt32 (by omega)
 refine Dm U U U<|Ah U (Ad U) U<|Ah U (Ab U Dp) U<|Dm U U U<|Ah U (Bv U Tu5 Tu69 (N.in_u32 (by omega))) U<|Dm U U U<|Ah U (Ad U) U<|Ah U (Ab U Ed) U<|Dc (by decide)<|Au U (Aj 3 (k:=3) U U U Ta69) U<|Au U (Aj 3 (k:=4) U U U Ta137) U<|Ba U (Fy U U (by omega) (N.shl_u32 _ _)) U ?_
 refine Ba U (S.or U U (N.or_u32 (by omega) (by omega))) U ?_
 refine Dy (v:=.int .u32 ((b+2^nb*dt[q].toNat:Nat):Int)) (congrArg (fun y:Nat=>Value.int .u32 (y:Int)) (by rw[hrb];exact or_byte hb1 hc8 hn)) ?_
 refine Ba U (Ad U) U<|Ba U (Ab U Dp) U<|Da<|By ?_
 refine Di U (Aq 3 (k:=3) U U U U U Tz69) ?_;rintro _ _⟨rfl,rfl⟩;refine Dr4 U ?_
 refine Dk5 0 2 3 4 14 U<|Cr<|Em U U<|Aa (Ad U) U<|Aa (Ab U Ed) U<|Ag (Aj 3 (k:=4) U U U Ta137) U<|Aa (Bl (b:=((8:Nat):Int)) U U (N.add_u64 (by omega))) U<|Aa (Ad U) U<|Aa (Ab U Ed) U ?_
 refine Ao (Aq 3 (k:=4) U U U U U Tz137) ?_;rintro _ _⟨rfl,rfl⟩;refine Er4 U ?_
 refine Ek5 0 2 3 4 14 U<|Cr<|Aa (Az (v:=Er.val ea .none) U) U<|Ek5 0 2 3 4 14 U<|Bb ?_
 exact⟨_,rfl,f1,f2,f3,.inl ⟨hq,_,rfl,hF,hm,rfl⟩⟩
set_option maxHeartbeats 1000000
def SymEnd{K:Known}{ea:Fin 5→Addr}(src:Src K ea)(fb:Nat)(rbv s0 s1 s2 s4 s5 s6 s7 s8:Value)(dt:List UInt8)(p q nb:Nat)(lens:List Nat)(mn:Nat)(ev:Value)(r:Value)(x1 x2 x3 A B:Frag):Prop:=
  (∃v,symR lens mn dt p=some v∧v<lens.length∧lenOf lens v≤15∧r=.tuple #[.int .i64 ((v:Nat):Int),Er.val ea .none]∧∃q2 b2 nb2 ro2,src.At (dt.drop q2) x1 x2 x3∧BitsIn dt (p+lenOf lens v) q2 b2 nb2∧nb2≤31∧((q2=q∧nb2+lenOf lens v=nb)∨nb2+lenOf lens v<max mn (lenOf lens v)+8)∧
      A=⟨fb,0,[.iface src.t src.v,rbv,.int .i64 ro2,.int .u32 ((b2:Nat):Int),.int .u64 ((nb2:Nat):Int)]⟩∧B=⟨fb,1045,[s0,s1,s2,ev,s4,s5,s6,s7,s8]⟩)∨
  (symR lens mn dt p=none∧(∃e v,Bad5 e∧r=.tuple #[.int .i64 v,Er.val ea e])∧∃l a b c ev2,src.At l x1 x2 x3∧A=⟨fb,0,[.iface src.t src.v,rbv,a,b,c]⟩∧B=⟨fb,1045,[s0,s1,s2,ev2,s4,s5,s6,s7,s8]⟩)
def TailOf(nt nk:Nat)(g:Nat→Nat→Nat)(lv:Value)(T:Frags):Prop:=(nt=0∧T=[]∧lv=.slice none 0 0)∨∃kb lb,lv=.slice (some ⟨kb,0,none⟩) nt nt∧T=⟨kb,0,Fj nt lb nk⟩::LkF nt lb g nk
def ReadH(lens:List Nat)(S mn q nb q0 nb0:Nat):Prop:=(q=q0∧nb=nb0)∨∃m,nb<m+8∧AtLeast lens S mn m
theorem and_mask{e nk x:Nat}(h:nk=2^e):x&&&(nk-1)=x%nk:=by rw[h];exact Nat.and_two_pow_sub_one_eq_mod x e
theorem huffSym_walk{K:Known}{ea:Fin 5→Addr}(hs:Sents K ea)(src:Src K ea)(x1 x2 x3:Frag)(fb:Nat)(rbv:Value)(ro:Int)(s0 s1 s2 ev s4 s5 s6 s7 s8:Value)(hb o:Nat)(dt:List UInt8)(p q0 b0 nb0:Nat)(hA:src.At (dt.drop q0) x1 x2 x3)(hB:BitsIn dt p q0 b0 nb0)(hn:nb0≤31)(lens:List Nat)(mn:Nat)(hok:okLens lens)(h15:∀s,lenOf lens s≤15)(hmn:minL lens≤mn)(hm15:mn≤15)(f:Nat→Nat)(g:Nat→Nat→Nat)(nt nk:Nat)(lv:Value)(T:Frags)(hTab:TabOK lens f g nt nk)(hfb:∀x,x<512→f x<65536)(hgb:∀a q,g a q<65536)(hnk0:0<nk)(hk64:nk≤64)(ke:Nat)(hke:nk=2^ke)(hT:TailOf nt nk g lv T):Fn Tryz.prog K 99 #[.pointer (some ⟨fb,0,none⟩),.pointer (some ⟨hb,o,none⟩)] ([x1,x2,x3,⟨fb,0,[.iface src.t src.v,rbv,.int .i64 (ro),.int .u32 (((b0):Nat):Int),.int .u64 (((nb0):Nat):Int)]⟩,⟨fb,1045,[s0,s1,s2,ev,s4,s5,s6,s7,s8]⟩,⟨hb,o,[.int .i64 ((mn:Nat):Int)]⟩,⟨hb,o+1,cellsU 512 f⟩,⟨hb,o+513,[lv,.int .u32 ((nk-1:Nat):Int)]⟩]++T) (fun r L=>∃y1 y2 y3 A B,SymEnd src fb rbv s0 s1 s2 s4 s5 s6 s7 s8 dt p q0 nb0 lens mn ev r y1 y2 y3 A B∧L=y1::y2::y3::A::B::⟨hb,o,[.int .i64 ((mn:Nat):Int)]⟩::⟨hb,o+1,cellsU 512 f⟩::⟨hb,o+513,[lv,.int .u32 ((nk-1:Nat):Int)]⟩::T):=by
 refine Fn.intro (args:=[.pointer (some ⟨fb,0,none⟩),.pointer (some ⟨hb,o,none⟩)]) (RR:=Ret2 4 5 _) Tryz.func99 rfl rfl Tryz.ntmps99 (res2 Tryz.results99) ?_
 refine Bi (env2:=[(0,.pointer (some ⟨fb,0,none⟩)),(1,.pointer (some ⟨hb,o,none⟩))]) U<|Cr<|Ea U U<|Aa (Az (v:=Er.val ea .none) U) U<|Ek4 0 1 4 5 U<|Cr<|Em U U<|Aa (Ad U) U<|Aa (Ab U fa177_0) U<|Ag (Aj 5 (k:=0) U U U Ta3) U<|Aa (Bv U Tu3 Tu137 (N.in_u64 (by omega))) U<|Ea U U ?_
 refine Ek5 0 1 4 5 6 U<|Am<|Bt [0,1,2,4,0,16,32,64,15,511] (.pure 0 240 (.pure 1 241 (.pure 2 243 (.pure 4 271 (.pure 5 287 (.pure 6 319 (.seg [(3,247),(7,383),(8,255),(9,511)] .done))))))) mixed (by decide+kernel)<|Dm U U U<|Ah U (Ad U) U<|Ah U (Ab U Ed) U<|Dm U U U<|Ah U (Ad U) U<|Ah U (Ab U Dp) U<|Dc (by decide)<|Au U (Aj 3 (k:=4) U U U Ta137) U<|Au U (Aj 3 (k:=3) U U U Ta69) U ?_
 refine Ba U (Az U) U<|Ba U (Az U) U<|Da<|Dk7 0 1 4 5 6 7 8 U<|As<|Bw (fun mm ee ll=>∃(q:Nat),∃(b:Nat),∃(nb:Nat),∃(n:Nat),∃(ro:Int),∃(f1:Frag),∃(f2:Frag),∃(f3:Frag),keeps ee [0,1,6,7,8]=some [(0,.pointer (some ⟨fb,0,none⟩)),(1,.pointer (some ⟨hb,o,none⟩)),(6,.int .u64 ((n:Nat):Int)),(7,.int .u64 ((nb:Nat):Int)),(8,.int .u32 ((b:Nat):Int))]∧ll=[f1,f2,f3,⟨fb,0,[.iface src.t src.v,rbv,.int .i64 (ro),.int .u32 (((b0):Nat):Int),.int .u64 (((nb0):Nat):Int)]⟩,⟨fb,1045,[s0,s1,s2,ev,s4,s5,s6,s7,s8]⟩,⟨hb,o,[.int .i64 ((mn:Nat):Int)]⟩,⟨hb,o+1,cellsU 512 f⟩,⟨hb,o+513,[lv,.int .u32 ((nk-1:Nat):Int)]⟩]++T∧(src.At (dt.drop q) f1 f2 f3)∧(BitsIn dt p q b nb)∧(nb≤31)∧(n≤15)∧(AtLeast lens (bitsAt dt p) mn n)∧(n=mn∨mn≤nb)∧(ReadH lens (bitsAt dt p) mn q nb q0 nb0)∧mm=16-n) (_) ⟨q0,b0,nb0,mn,ro,x1,x2,x3,rfl,rfl,hA,hB,hn,hm15,.inl U,.inl U,.inl ⟨rfl,rfl⟩,rfl⟩ ?_
 rintro m0 _ _⟨q,b,nb,n,ro,f1,f2,f3,hk0,rfl,hA,hB,hn,hn15,hN,hM,hH,hm0⟩
 refine Av _ hk0<|As<|Am<|As<|Bw (fun mm ee ll=>∃(q:Nat),∃(b:Nat),∃(nb:Nat),∃(ro:Int),∃(f1:Frag),∃(f2:Frag),∃(f3:Frag),keeps ee [0,1,6,7,8]=some [(0,.pointer (some ⟨fb,0,none⟩)),(1,.pointer (some ⟨hb,o,none⟩)),(6,.int .u64 ((n:Nat):Int)),(7,.int .u64 ((nb:Nat):Int)),(8,.int .u32 ((b:Nat):Int))]∧ll=[f1,f2,f3,⟨fb,0,[.iface src.t src.v,rbv,.int .i64 (ro),.int .u32 (((b0):Nat):Int),.int .u64 (((nb0):Nat):Int)]⟩,⟨fb,1045,[s0,s1,s2,ev,s4,s5,s6,s7,s8]⟩,⟨hb,o,[.int .i64 ((mn:Nat):Int)]⟩,⟨hb,o+1,cellsU 512 f⟩,⟨hb,o+513,[lv,.int .u32 ((nk-1:Nat):Int)]⟩]++T∧(src.At (dt.drop q) f1 f2 f3)∧(BitsIn dt p q b nb)∧(nb≤31)∧(n=mn∨mn≤nb)∧(ReadH lens (bitsAt dt p) mn q nb q0 nb0)∧mm=n-nb) (_) ⟨q,b,nb,ro,f1,f2,f3,rfl,rfl,hA,hB,hn,hM,hH,rfl⟩ ?_
 rintro m1 _ _⟨q,b,nb,ro,f1,f2,f3,hk1,rfl,hA,hB,hn,hM,hH,hm1⟩
 refine Av _ hk1<|Am<|Cr<|Em U U<|Em U U<|Aa (Dl U U) U<|Ek6 0 1 6 7 8 27 U<|Bf U (fun h27=>?_) (fun h27=>?_)
 ·have hb1:=hB.lt
  have hb2:=hB.lt32 (by omega)
  refine Ap<|As<|Cr<|Em U U<|Aa (Ad U) U<|Aa (Ab U fa186_0) U<|Ag (Aj 3 (k:=0) U U U Ta94) U ?_
  refine Ai (OpX.pick [0,0,0] (F:=(_::_::_::_::_::_)) U (X.invoke U U src.mByte src.cByte (src.byte _ _ _ _ hA))) U ?_;rintro _ _⟨_,⟨g1,g2,g3,hF,rfl,rfl⟩,rfl⟩;refine Et9 U ?_
  refine Em U U<|Aa (Bg U U) U<|Aa (Bg U U) U<|Ea U U<|Ea U U<|Ek8 0 1 6 7 8 9 10 27 U<|Am<|Cr<|Em U U<|Ag (Df U) U<|Ek9 0 1 6 7 8 9 10 27 37 U<|Dn U (fun h37=>?_) (fun h37=>?_)
  ·have hq2:=((drop_cases dt hB.le).resolve_left fun h=>h37 h.1).2
   refine Cr<|Em U U<|Em U U<|Aa (Ad U) U<|Aa (Ab U Dp) U ?_
   refine Ao (Aq 3 (k:=3) U U U U U Tz69) ?_;rintro _ _⟨rfl,rfl⟩;refine Et9 U ?_
   refine Ek9 0 1 6 7 8 9 10 27 37 U<|Cr<|Em U U<|Em U U<|Aa (Ad U) U<|Aa (Ab U Ed) U ?_
   refine Ao (Aq 3 (k:=4) U U U U U Tz137) ?_;rintro _ _⟨rfl,rfl⟩;refine Et9 U ?_
   refine Ek9 0 1 6 7 8 9 10 27 37 U<|Cr<|Em U U ?_
   refine Ai (OpX.pick [] (F:=(_::_::_::_::_::_::_::_::_)) U (Ar U Tryz.call94 (flate_noEOF (L:=[]) hs _))) U ?_;rintro _ _⟨_,⟨rfl,rfl⟩,rfl⟩;refine Et9 U ?_
   refine Ea U U<|Ea U U<|Ek11 0 1 4 5 6 7 8 9 10 27 37 U<|Bb ?_
   exact⟨_,_,rfl,rfl,_,_,_,_,_,.inr ⟨sym_end hB hq2 (by omega) hN,⟨_,0,bad_eof h37,rfl⟩,_,_,_,_,ev,hF,rfl,rfl⟩,rfl⟩
  obtain⟨hq,hrb,hdd⟩:=((drop_cases dt hB.le).resolve_right fun h=>h.1 h37).2
  rw[hdd]at hF
  have hc8:=dt[q].toNat_lt
  have hm:=hB.more hq
  refine Ap<|Cr<|Em U U<|Aa (Ad U) U<|Aa (Ab U Ff) U<|Ag (Aj 3 (k:=2) U U U Ta2) U<|Aa (Bl (b:=((1:Nat):Int)) U U U) U<|Aa (Ad U) U<|Aa (Ab U Ff) U ?_
  refine Ao (Aq 3 (k:=2) U U U U U Tz2) ?_;rintro _ _⟨rfl,rfl⟩;refine Et9 U ?_
  refine Ek9 0 1 6 7 8 9 10 27 37 U<|Cr<|Em U U<|Em U U<|Aa (Bv U Tu5 Tu69 (N.in_u32 (by omega))) U<|Em U U<|Aa (Fa (b:=((31:Nat):Int)) U U (N.and_u64 (by omega) (by omega))) U<|An (v:=.int .u64 ((nb:Nat):Int)) (congrArg (fun y:Nat=>Value.int .u64 (y:Int)) (by exact and31 (by omega)))<|Aa (Fy U U (by omega) (N.shl_u32 _ _)) U<|Aa (S.or U U (N.or_u32 (by omega) (by omega))) U ?_
  refine An (v:=.int .u32 ((b+2^nb*dt[q].toNat:Nat):Int)) (congrArg (fun y:Nat=>Value.int .u32 (y:Int)) (by rw[hrb];exact or_byte hb1 hc8 (by omega))) ?_
  refine Ea U U<|Ek9 0 1 6 7 8 9 10 27 37 U<|Al<|Em U U<|Aa (Bl (b:=((8:Nat):Int)) U U (N.add_u64 (by omega))) U<|Ea U U<|Ek9 0 1 6 7 8 9 10 27 37 U ?_
  refine⟨_,?_,_,_,_,_,_,_,_,rfl,rfl,hF,hm,by omega,hM.imp id fun h=>by omega,.inr ⟨n,by omega,hN⟩,rfl⟩;omega
 have hb2:=hB.lt32 (by omega)
 have hf1:=hfb (b%512) (Nat.mod_lt _ (by decide))
 have hle:n≤nb:=by omega
 have hmq:mn≤nb:=by omega
 refine Bu U<|Cr<|Em U U<|Em U U<|Aa (Fa (b:=((511:Nat):Int)) U U (N.and_u32 (by omega) (by omega))) U<|An (v:=.int .u32 ((b%512:Nat):Int)) (congrArg (fun y:Nat=>Value.int .u32 (y:Int)) (by exact and511 b))<|Aa (Ad U) U<|Aa (Ab U fa177_1) U<|Aa (Bj U U (by omega) Tu174 Tz69) U<|Ag (Aj 6 (k:=(b%512)*1) U U (cellsU_get (by omega)) Ta69) U<|Ea U U<|Ek7 0 1 6 7 8 11 27 U ?_
 refine Cr<|Em U U<|Aa (Fa (b:=((15:Nat):Int)) U U (N.and_u32 (by omega) (by omega))) U<|An (v:=.int .u32 ((f (b%512)%16:Nat):Int)) (congrArg (fun y:Nat=>Value.int .u32 (y:Int)) (by exact and15 _))<|Aa (Bv U Tu69 Tu137 (N.in_u64 (by omega))) U<|Ea U U<|Ek7 0 1 6 7 8 11 27 U<|Du (M:=fun ee ll=>keeps ee [0,1,7,8,11,6]=some [(0,.pointer (some ⟨fb,0,none⟩)),(1,.pointer (some ⟨hb,o,none⟩)),(7,.int .u64 ((nb:Nat):Int)),(8,.int .u32 ((b:Nat):Int)),(11,.int .u32 ((lookT f g nk b:Nat):Int)),(6,.int .u64 ((lookT f g nk b%16:Nat):Int))]∧ll=[f1,f2,f3,⟨fb,0,[.iface src.t src.v,rbv,.int .i64 (ro),.int .u32 (((b0):Nat):Int),.int .u64 (((nb0):Nat):Int)]⟩,⟨fb,1045,[s0,s1,s2,ev,s4,s5,s6,s7,s8]⟩,⟨hb,o,[.int .i64 ((mn:Nat):Int)]⟩,⟨hb,o+1,cellsU 512 f⟩,⟨hb,o+513,[lv,.int .u32 ((nk-1:Nat):Int)]⟩]++T∧(lookT f g nk b<65536)) ?_ ?_
 ·refine Cr<|Em U U<|Aa (Fh (b:=((9:Nat):Int)) U U) U<|Ek8 0 1 6 7 8 11 27 75 U<|Bf U (fun h75=>?_) (fun h75=>?_)
  ·have ha:f (b%512)/16<nt:=hTab.lt _ (Nat.mod_lt _ (by decide)) (by omega)
   have hmn2:b/512%nk<nk:=Nat.mod_lt _ hnk0
   have hlk:lookT f g nk b=g (f (b%512)/16) (b/512%nk):=if_pos (by omega)
   have hlb:lookT f g nk b<65536:=by rw[hlk];exact hgb _ _
   rcases hT with hT|⟨kb,lb,hT1,hT2⟩
   · omega
   subst hT1 hT2
   refine Am<|Bt [0,1,2,4,0,16,40,64,0,256,0,1024,2048,4096,8704,16512,32768,131071] (.pure 0 32560 (.pure 1 32561 (.pure 2 32563 (.pure 4 32527 (.pure 5 32543 (.pure 8 15615 (.pure 9 15871 (.pure 10 1023 (.pure 11 2047 (.pure 12 4095 (.seg [(3,32567),(6,32575),(7,32639),(13,8191),(14,16383),(15,32767),(16,65535),(17,131071)] .done))))))))))) mixed (by decide+kernel)<|Dm U U U<|Ah U (Ad U) U<|Ah U (Ab U fa177_2) U<|Dm U U U<|Ah U (Fl (b:=((4:Nat):Int)) U U (by omega) (N.shr_u32 (by omega) _)) U<|Fi (v:=.int .u32 ((f (b%512)/16:Nat):Int)) (congrArg (fun y:Nat=>Value.int .u32 (y:Int)) (by rw[Nat.shiftRight_eq_div_pow]))<|Dm U U U<|Ah U (Fl (b:=((9:Nat):Int)) U U (by omega) (N.shr_u32 (by omega) _)) U<|Fi (v:=.int .u32 ((b/512:Nat):Int)) (congrArg (fun y:Nat=>Value.int .u32 (y:Int)) (by rw[Nat.shiftRight_eq_div_pow]))<|Dm U U U ?_
   refine Ah U (Ad U) U<|Ah U (Ab U fa177_3) U<|Dc (by decide)<|Au U (Aj 7 (k:=0) U U U Tryz.isAgg175) U<|Ba U (Bm U U (by omega) Tu175 Tryz.sizeOf214) U<|Au U (Aj 8 (k:=(f (b%512)/16)*1) U U (lk_get ha) Tryz.isAgg214) U<|Au U (Aj 7 (k:=1) U U U Ta69) U<|Ba U (Fa U U (N.and_u32 (by omega) (by omega))) U<|Dy (v:=.int .u32 ((b/512%nk:Nat):Int)) (congrArg (fun y:Nat=>Value.int .u32 (y:Int)) (by exact and_mask hke))<|Ba U (Bm U U (by omega) Tu214 Tz69) U<|Au U (Aj (f (b%512)/16+9) (k:=(b/512%nk)*1) (LkF_get ha) U (cellsU_get hmn2) Ta69) U<|Dy (v:=.int .u32 ((lookT f g nk b:Nat):Int)) (congrArg (fun y:Nat=>Value.int .u32 (y:Int)) (by exact hlk.symm)) ?_
   refine Ba U (Az U) U<|Da<|Dk8 0 1 6 7 8 11 27 75 U<|Al<|Em U U<|Aa (Fa (b:=((15:Nat):Int)) U U (N.and_u32 (by omega) (by omega))) U<|An (v:=.int .u32 ((lookT f g nk b%16:Nat):Int)) (congrArg (fun y:Nat=>Value.int .u32 (y:Int)) (by exact and15 _))<|Aa (Bv U Tu69 Tu137 (N.in_u64 (by omega))) U<|Ea U U<|Ek8 0 1 6 7 8 11 27 75 U ?_
   exact⟨rfl,rfl,hlb⟩
  have hlk:lookT f g nk b=f (b%512):=if_neg (by omega)
  have hlb:lookT f g nk b<65536:=by rw[hlk];exact hf1
  rw[←hlk]
  refine Ap ?_
  exact⟨rfl,rfl,hlb⟩
 rintro _ _⟨hq17,rfl,hlb⟩
 refine Av _ hq17<|Cr<|Em U U<|Em U U<|Aa (S.le U U) U<|Ek7 0 1 6 7 8 11 98 U<|Bf U (fun h98=>?_) (fun h98=>?_)
 ·refine Am<|Cr<|Em U U<|Aa (Ef (b:=((0:Nat):Int)) U U) U<|Ek8 0 1 6 7 8 11 98 100 U<|Bf U (fun h100=>?_) (fun h100=>?_)
  ·refine Cr<|Em U U<|Em U U<|Aa (Ad U) U<|Aa (Ab U Dp) U ?_
   refine Ao (Aq 3 (k:=3) U U U U U Tz69) ?_;rintro _ _⟨rfl,rfl⟩;refine Et9 U ?_
   refine Ek8 0 1 6 7 8 11 98 100 U<|Cr<|Em U U<|Em U U<|Aa (Ad U) U<|Aa (Ab U Ed) U ?_
   refine Ao (Aq 3 (k:=4) U U U U U Tz137) ?_;rintro _ _⟨rfl,rfl⟩;refine Et9 U ?_
   refine Ek8 0 1 6 7 8 11 98 100 U<|Cr<|Em U U<|Em U U<|Aa (Ad U) U<|Aa (Ab U Ff) U<|Ag (Aj 3 (k:=2) U U U Ta2) U<|Aa (Eo U Hr) U<|An (v:=Er.val ea (.corrupt ro)) (rfl)<|Aa (Ad U) U<|Aa (Ab U Ee) U ?_
   refine Ao (Aq 4 (k:=3) U U U U U Tz58) ?_;rintro _ _⟨rfl,rfl⟩;refine Et9 U ?_
   refine Ek8 0 1 6 7 8 11 98 100 U<|Am<|Bt [0,1,2,4,0,31] (.pure 0 16 (.pure 1 17 (.pure 2 19 (.pure 4 15 (.seg [(3,23),(5,31)] .done))))) mixed (by decide+kernel)<|Dm U U U<|Ah U (Ad U) U<|Ah U (Ab U Ee) U<|Ah U (Az U) U<|Dc (by decide)<|Au U (Aj 4 (k:=3) U U U Ta58) U<|Ba U (Az U) U<|Da<|Dk10 0 1 4 5 6 7 8 11 98 100 U ?_
   refine Bb ?_
   exact⟨_,_,rfl,rfl,_,_,_,_,_,.inr ⟨sym_none hTab h15 hok hB (by omega) (by omega),⟨_,0,Ew ro,rfl⟩,_,_,_,_,_,hA,rfl,rfl⟩,rfl⟩
  obtain⟨v,hsy,hv4,hvl,hvm,hvlt⟩:=sym_found hTab h15 hB hmq (by omega) (by omega)
  have hv15:=h15 v
  refine Ap<|Cr<|Em U U<|Em U U<|Em U U<|Aa (Fa (b:=((31:Nat):Int)) U U (N.and_u64 (by omega) (by omega))) U ?_
  refine An (v:=.int .u64 ((lenOf lens v:Nat):Int)) (congrArg (fun y:Nat=>Value.int .u64 (y:Int)) (by rw[hvl];exact and31 (by omega))) ?_
  refine Aa (Fl U U (by omega) (N.shr_u32 (by omega) _)) U<|An (v:=.int .u32 ((b/2^lenOf lens v:Nat):Int)) (congrArg (fun y:Nat=>Value.int .u32 (y:Int)) (by rw[Nat.shiftRight_eq_div_pow]))<|Aa (Ad U) U<|Aa (Ab U Dp) U ?_
  refine Ao (Aq 3 (k:=3) U U U U U Tz69) ?_;rintro _ _⟨rfl,rfl⟩;refine Et9 U ?_
  refine Ek8 0 1 6 7 8 11 98 100 U<|Cr<|Em U U<|Em U U<|Em U U<|Aa (Dr U U (N.sub_u64 (by omega) (by omega))) U<|An (v:=.int .u64 ((nb-lenOf lens v:Nat):Int)) (congrArg (fun y:Nat=>Value.int .u64 (y:Int)) (by rw[hvl]))<|Aa (Ad U) U<|Aa (Ab U Ed) U ?_
  refine Ao (Aq 3 (k:=4) U U U U U Tz137) ?_;rintro _ _⟨rfl,rfl⟩;refine Et9 U ?_
  refine Ek8 0 1 6 7 8 11 98 100 U<|Cr<|Em U U<|Aa (Fl (b:=((4:Nat):Int)) U U (by omega) (N.shr_u32 (by omega) _)) U<|Aa (Bv U Tu69 Tu3 (N.i64n (by omega))) U ?_
  refine An (v:=.int .i64 ((v:Nat):Int)) (congrArg (fun y:Nat=>Value.int .i64 (y:Int)) (by rw[Nat.shiftRight_eq_div_pow];exact hv4)) ?_
  refine Ea U U<|Aa (Az (v:=Er.val ea .none) U) U<|Ek10 0 1 4 5 6 7 8 11 98 100 U<|Bb ?_
  have hB2:=(hB.take (n:=lenOf lens v) (by omega)).2
  refine⟨_,_,rfl,rfl,_,_,_,_,_,.inl ⟨v,hsy,hvlt,hv15,rfl,q,_,_,ro,hA,hB2,by omega,?_,rfl,rfl⟩,rfl⟩
  rcases hH with⟨h1,h2⟩|⟨m,h1,h2⟩
  · exact .inl ⟨h1,by omega⟩
  · have:=sym_bound h2 hvm
    exact .inr (by omega)
 have hl16:=Nat.mod_lt (lookT f g nk b) (show 0<16 by decide)
 refine Ap ?_
 refine⟨_,?_,q,b,nb,lookT f g nk b%16,ro,f1,f2,f3,rfl,rfl,hA,hB,hn,by omega,sym_more hTab h15 hB (by omega),.inr (by omega),hH,rfl⟩;omega
theorem huffSym_spec{K:Known}{ea:Fin 5→Addr}(hs:Sents K ea)(src:Src K ea)(x1 x2 x3:Frag)(fb:Nat)(rbv:Value)(ro:Int)(s0 s1 s2 ev s4 s5 s6 s7 s8:Value)(hb o:Nat)(dt:List UInt8)(p q b nb:Nat)(hA:src.At (dt.drop q) x1 x2 x3)(hB:BitsIn dt p q b nb)(hn:nb≤31)(lens:List Nat)(mn:Nat)(hok:okLens lens)(h15:∀s,lenOf lens s≤15)(hmn:minL lens≤mn)(hm15:mn≤15)(LH:Frags)(hH:HufT lens mn hb o LH):
    Fn Tryz.prog K 99 #[.pointer (some ⟨fb,0,none⟩),.pointer (some ⟨hb,o,none⟩)] (x1::x2::x3::⟨fb,0,[.iface src.t src.v,rbv,.int .i64 (ro),.int .u32 (((b):Nat):Int),.int .u64 (((nb):Nat):Int)]⟩::⟨fb,1045,[s0,s1,s2,ev,s4,s5,s6,s7,s8]⟩::LH)
      fun r L=>∃y1 y2 y3 A B,SymEnd src fb rbv s0 s1 s2 s4 s5 s6 s7 s8 dt p q nb lens mn ev r y1 y2 y3 A B∧L=y1::y2::y3::A::B::LH:=by
  obtain⟨f,g,nt,nk,lv,T,hTab,hfb,hgb,h0,h64,⟨ke,hke⟩,_,rfl,hT⟩:=hH
  exact huffSym_walk hs src x1 x2 x3 fb rbv ro s0 s1 s2 ev s4 s5 s6 s7 s8 hb o dt p q b nb hA hB hn lens mn hok h15 hmn hm15 f g nt nk lv T hTab hfb hgb h0 h64 ke hke hT
structure Hist(h:List UInt8)(wr:Nat)(full:Bool)(out:List UInt8):Prop where
  len:h.length=32768
  wrLe:wr≤32768
  young:full=false→wr=out.length
  old:full=true→32768≤out.length
  val:∀d,1≤d→d≤(if full then 32768 else wr)→h[(wr+32768-d)%32768]? =out[out.length-d]?
def hsize(wr:Nat)(full:Bool):Nat:=if full then 32768 else wr
theorem Hist.size_le{h:List UInt8}{wr:Nat}{full:Bool}{out:List UInt8}(H:Hist h wr full out):hsize wr full≤out.length∧hsize wr full≤32768∧(hsize wr full=out.length∨hsize wr full=32768)∧wr≤out.length:=by
  unfold hsize
  cases full with
  |false=>have:=H.young rfl;have:=H.wrLe;simp;omega
  |true=>have:=H.old rfl;have:=H.wrLe;simp;omega
theorem Hist.start(h:List UInt8)(hl:h.length=32768):Hist h 0 false []:=⟨hl,by omega,fun _=>rfl,(fun h=>by cases h),fun d h1 h2=>absurd h2 (by simp;omega)⟩
theorem Hist.write{h:List UInt8}{wr:Nat}{full:Bool}{out:List UInt8}(H:Hist h wr full out)(xs:List UInt8)(hx:wr+xs.length≤32768):
    Hist (h.take wr++xs++h.drop (wr+xs.length)) (wr+xs.length) full (out++xs):=by
  have hl:=H.len
  have h1:(h.take wr).length=wr:=by rw[List.length_take];omega
  refine⟨?_,hx,fun e=>?_,fun e=>?_,fun d hd1 hd2=>?_⟩
  · simp only[List.length_append,List.length_take,List.length_drop];omega
  · rw[List.length_append,H.young e]
  · have:=H.old e
    rw[List.length_append];omega
  · have hsz:=H.size_le
    unfold hsize at hsz
    rw[List.length_append]
    rcases Nat.lt_or_ge xs.length d with hlt|hge
    ·
      have hd3:d-xs.length≤(if full then 32768 else wr):=by
        cases full<;>simp at hd2⊢<;>omega
      have hv:=H.val (d-xs.length) (by omega) hd3
      have hd4:d≤32768:=by cases full<;>simp at hd2<;>omega
      have hd5:d-xs.length≤out.length:=by omega
      rw[show out.length+xs.length-d=out.length-(d-xs.length) by omega,List.getElem?_append_left (l₁:=out) (by omega),←hv]
      rw[show wr+xs.length+32768-d=wr+32768-(d-xs.length) by omega]
      rcases Nat.lt_or_ge wr (d-xs.length)with h2|h2
      · rw[Nat.mod_eq_of_lt (by omega),List.getElem?_append_right (by rw[List.length_append,h1];omega),List.length_append,h1,List.getElem?_drop]
        congr 1;omega
      · rw[show wr+32768-(d-xs.length)=wr-(d-xs.length)+32768 by omega,Nat.add_mod_right,Nat.mod_eq_of_lt (by omega),List.append_assoc,List.getElem?_append_left (by omega),List.getElem?_take,if_pos (by omega)]
    ·
      rw[show wr+xs.length+32768-d=wr+xs.length-d+32768 by omega,Nat.add_mod_right,Nat.mod_eq_of_lt (by omega),List.append_assoc,List.getElem?_append_right (l₁:=h.take wr) (by omega),h1,
        List.getElem?_append_left (l₁:=xs) (by omega),List.getElem?_append_right (l₁:=out) (by omega)]
      congr 1;omega
theorem Hist.wrap{h:List UInt8}{full:Bool}{out:List UInt8}(H:Hist h 32768 full out):Hist h 0 true out:=by
  have hs:=H.size_le
  refine⟨H.len,by omega,(fun h=>by cases h),fun _=>?_,fun d h1 h2=>?_⟩
  · cases full<;>simp[hsize]at hs<;>omega
  · have h3:d≤32768:=by simpa using h2
    have:=H.val d h1 (by cases full<;>simp<;>omega)
    rw[←this,show 32768+32768-d=0+32768-d+32768 by omega,Nat.add_mod_right]
theorem Hist.seg{h:List UInt8}{wr:Nat}{full:Bool}{out:List UInt8}(H:Hist h wr full out){src n:Nat}(h1:src+n≤wr):(h.drop src).take n=(out.drop (out.length-(wr-src))).take n:=by
  have hs:=H.size_le
  have hl:=H.len
  have hw:=H.wrLe
  apply List.ext_getElem?
  intro i
  rw[List.getElem?_take,List.getElem?_take]
  split
  · rename_i hi
    rw[List.getElem?_drop,List.getElem?_drop]
    have:=H.val (wr-src-i) (by omega) (by cases full<;>simp<;>omega)
    rw[show out.length-(wr-src)+i=out.length-(wr-src-i) by omega,←this,show wr+32768-(wr-src-i)=src+i+32768 by omega,Nat.add_mod_right,Nat.mod_eq_of_lt (by omega)]
  · rfl
theorem Hist.segBack{h:List UInt8}{wr:Nat}{out:List UInt8}(H:Hist h wr true out){d n:Nat}(h1:wr<d)(h2:d≤32768)(hn:n≤d-wr):(h.drop (wr+32768-d)).take n=(out.drop (out.length-d)).take n:=by
  have hs:=H.size_le
  have hl:=H.len
  apply List.ext_getElem?
  intro i
  rw[List.getElem?_take,List.getElem?_take]
  split
  · rename_i hi
    rw[List.getElem?_drop,List.getElem?_drop]
    have:=H.val (d-i) (by omega) (by simp;omega)
    simp[hsize]at hs
    rw[show out.length-d+i=out.length-(d-i) by omega,←this,Nat.mod_eq_of_lt (by omega)]
    congr 1;omega
  · rfl
theorem Eu(out:List UInt8)(d:Nat):∀n,(copyN out d n).length=out.length+n
  |0=>rfl
  |n+1=>by rw[copyN,List.length_append,Eu out d n];rfl
theorem copyN_add(out:List UInt8)(d a:Nat):∀b,copyN (copyN out d a) d b=copyN out d (a+b)
  |0=>rfl
  |b+1=>by rw[copyN,copyN_add out d a b];rfl
def Per(d m:Nat)(o:List UInt8):Prop:=∀i,d≤i→i<m→o[o.length-m+i]? =o[o.length-m+i-d]?
theorem copyN_take(o:List UInt8)(d m:Nat)(hd:1≤d)(hm:m≤o.length)(hdm:d∣m)(hp:Per d m o):∀n,n≤m→1≤m→copyN o d n=o++(o.drop (o.length-m)).take n∧Per d (m+n) (copyN o d n)
  |0,_,_=>⟨by simp[copyN],hp⟩
  |n+1,hn,h1=>by
    obtain⟨ih,ip⟩:=copyN_take o d m hd hm hdm hp n (by omega) h1
    have hdm2:d≤m:=Nat.le_of_dvd (by omega) hdm
    have hlen:=Eu o d n
    have key:∀j,j*d≤m→1≤j→(copyN o d n)[o.length+n-d]? =(copyN o d n)[o.length+n-j*d]? :=by
      intro j
      induction j with
      |zero=>intro _ h;omega
      |succ j ij=>
        intro h2 h3
        rcases Nat.eq_zero_or_pos j with rfl|hj
        · rw[Nat.zero_add,Nat.one_mul]
        · have e:(j+1)*d=j*d+d:=by rw[Nat.add_mul,Nat.one_mul]
          rw[ij (by omega) hj]
          have hq:=ip (m+n-j*d) (by omega) (by have:1≤j*d:=Nat.mul_pos hj hd;omega)
          rw[hlen,show o.length+n-(m+n)+(m+n-j*d)=o.length+n-j*d by omega]at hq
          rw[hq];congr 1;omega
    obtain⟨c,hc⟩:=hdm
    have hc1:1≤c:=by
      rcases Nat.eq_zero_or_pos c with rfl|h
      · simp at hc;omega
      · exact h
    have k1:=key c (by rw[Nat.mul_comm,←hc];exact Nat.le_refl _) hc1
    rw[Nat.mul_comm c d,←hc]at k1
    have hin:o.length+n-m<o.length:=by omega
    have k2:(copyN o d n)[o.length+n-m]? =o[o.length+n-m]? :=by rw[ih,List.getElem?_append_left hin]
    have e1:copyN o d (n+1)=copyN o d n++[o.getD (o.length+n-m) 0]:=by
      rw[copyN,hlen,List.getD_eq_getElem?_getD,k1,k2,←List.getD_eq_getElem?_getD]
    refine⟨?_,?_⟩
    · rw[e1,ih,List.append_assoc]
      congr 1
      rw[List.take_add_one,List.getElem?_drop,show o.length-m+n=o.length+n-m by omega,List.getElem?_eq_getElem hin,List.getD_eq_getElem?_getD,List.getElem?_eq_getElem hin]
      rfl
    · intro i hi1 hi2
      rw[Eu,show o.length+(n+1)-(m+(n+1))=o.length-m by omega]
      rcases Nat.lt_or_ge i (m+n)with h2|h2
      · have:=ip i hi1 h2
        rw[hlen,show o.length+n-(m+n)=o.length-m by omega]at this
        rw[copyN,List.getElem?_append_left (by omega),List.getElem?_append_left (by omega),this]
      · have hi3:i=m+n:=by omega
        subst hi3
        rw[copyN,List.getElem?_append_right (by omega),List.getElem?_append_left (by omega),hlen,show o.length-m+(m+n)-(o.length+n)=0 by omega,show o.length-m+(m+n)-d=o.length+n-d by omega]
        rw[List.getElem?_cons_zero,List.getD_eq_getElem?_getD]
        have:o.length+n-d<(copyN o d n).length:=by omega
        rw[List.getElem?_eq_getElem this];rfl
theorem per_self(d:Nat)(o:List UInt8):Per d d o:=fun i h1 h2=>by omega
theorem Hist.copyStep{h:List UInt8}{dst:Nat}{full:Bool}{o:List UInt8}(H:Hist h dst full o){d m n:Nat}(hd:1≤d)(hm1:1≤m)(hm:m≤dst)(hdm:d∣m)(hp:Per d m o)(hn:n≤m)(hx:dst+n≤32768):
    Hist (h.take dst++(h.drop (dst-m)).take n++h.drop (dst+n)) (dst+n) full (copyN o d n)∧Per d (m+n) (copyN o d n):=by
  have hs:=H.size_le
  have hl:=H.len
  obtain⟨e,hp2⟩:=copyN_take o d m hd (by omega) hdm hp n hn hm1
  have hseg:=H.seg (src:=dst-m) (n:=n) (by omega)
  rw[show dst-(dst-m)=m by omega]at hseg
  refine⟨?_,hp2⟩
  have hlen:((h.drop (dst-m)).take n).length=n:=by rw[List.length_take,List.length_drop];omega
  have hw:=H.write ((h.drop (dst-m)).take n) (by rw[hlen];exact hx)
  rw[hlen]at hw
  rw[e,←hseg]
  exact hw
theorem Hist.copyBack{h:List UInt8}{wr:Nat}{o:List UInt8}(H:Hist h wr true o){d n:Nat}(h1:wr<d)(h2:d≤32768)(hn:n≤d-wr)(hx:wr+n≤32768):
    Hist (h.take wr++(h.drop (wr+32768-d)).take n++h.drop (wr+n)) (wr+n) true (copyN o d n)∧Per d (d+n) (copyN o d n):=by
  have hs:=H.size_le
  have hl:=H.len
  simp[hsize]at hs
  obtain⟨e,hp2⟩:=copyN_take o d d (by omega) (by omega) (Nat.dvd_refl d) (per_self d o) n (by omega) (by omega)
  have hseg:=H.segBack (d:=d) (n:=n) h1 h2 hn
  refine⟨?_,hp2⟩
  have hlen:((h.drop (wr+32768-d)).take n).length=n:=by rw[List.length_take,List.length_drop];omega
  have hw:=H.write ((h.drop (wr+32768-d)).take n) (by rw[hlen];exact hx)
  rw[hlen]at hw
  rw[e,←hseg]
  exact hw
theorem Per.less{d m k:Nat}{o:List UInt8}(h:Per d (m+k) o)(hm:m+k≤o.length):Per d m o:=by
  intro i h1 h2
  have:=h (k+i) (by omega) (by omega)
  rw[show o.length-(m+k)+(k+i)=o.length-m+i by omega]at this
  exact this
theorem X.copyW{K:Known}{n:Nat}{env:Env}{L:Frags}{ty:TypeId}(i:Nat){x y:Operand}{hb dst src dl dc sl sc:Nat}{h:List UInt8}
    (hL:L[i]? =some ⟨hb,0,bytesV h⟩)(hx:ev? env x=some (.slice (some ⟨hb,dst,none⟩) dl dc))(hy:ev? env y=some (.slice (some ⟨hb,src,none⟩) sl sc))(hs:src+sl≤h.length)(hd:dst+dl≤h.length):
    OpX Tryz.prog K n (.call {callee:=.builtin .copy,args:=#[x,y],argTypes:=#[25,25]}) ty env L fun v L'=>
      v=.int .i64 ((Nat.min sl dl:Nat):Int)∧L'=L.set i ⟨hb,0,bytesV (h.take dst++(h.drop src).take (Nat.min sl dl)++h.drop (dst+Nat.min sl dl))⟩:=by
  have h1:Nat.min sl dl≤sl:=Nat.min_le_left _ _
  have h2:Nat.min sl dl≤dl:=Nat.min_le_right _ _
  have hvl:(bytesV ((h.drop src).take (Nat.min sl dl))).length=Nat.min sl dl:=by rw[Bh,List.length_take,List.length_drop];omega
  have hc:=X.copy (P:=Tryz.prog) (H0:=K) (n:=n) (ty:=ty) (xT:=Tryz.t5) i (s:=1) (o:=0) (k:=dst) (t:=25) (t2:=25) (vs:=bytesV ((h.drop src).take (Nat.min sl dl))) Tu25 Tz5 hL (by rw[Nat.zero_add];exact hx) hy (by rw[hvl,Nat.mul_one])
    (.inr ⟨hb,0+src,by rw[Nat.zero_add],Reads.frag hL (by rw[hvl,←bytesV_drop,←bytesV_take])⟩) (fun h=>by cases h) (one_bytesV _) (by rw[hvl,Bh];omega)
  rw[hvl,←bytesV_take,←bytesV_drop,←Ei,←Ei]at hc
  exact hc
theorem bytesV_set(h:List UInt8)(i c:Nat)(hc:c<256)(hi:i<h.length):(bytesV h).set (i*1) (.int .u8 ((c:Nat):Int))=bytesV (h.take i++[UInt8.ofNat c]++h.drop (i+1)):=by
  have e:(UInt8.ofNat c).toNat=c:=by rw[UInt8.toNat_ofNat'];exact Nat.mod_eq_of_lt hc
  have e1:h.take i++[UInt8.ofNat c]++h.drop (i+1)=h.set i (UInt8.ofNat c):=by rw[List.set_eq_take_append_cons_drop,if_pos hi];simp
  rw[e1,Nat.mul_one,bytesV,bytesV,List.map_set,e]
theorem writeByte_spec{K:Known}(b o hb wr rd:Nat)(full:Bool)(h:List UInt8)(hl:h.length=32768)(hw:wr<32768)(c:Nat)(hc:c<256):Fn Tryz.prog K 100 #[.pointer (some ⟨b,o,none⟩),.int .u8 ((c:Nat):Int)] ([⟨b,o,[.slice (some ⟨hb,0,none⟩) 32768 32768,.int .i64 (((wr):Nat):Int),.int .i64 (((rd):Nat):Int),.bool full]⟩,⟨hb,0,bytesV (h)⟩]) (fun v L=>v=.tuple #[]∧L=[⟨b,o,[.slice (some ⟨hb,0,none⟩) 32768 32768,.int .i64 (((wr+1):Nat):Int),.int .i64 (((rd):Nat):Int),.bool full]⟩,⟨hb,0,bytesV (h.take wr++[UInt8.ofNat c]++h.drop (wr+1))⟩]):=by
 refine Fn.intro (args:=[.pointer (some ⟨b,o,none⟩),.int .u8 ((c:Nat):Int)]) (RR:=Ret0 _) Tryz.func100 rfl rfl Tryz.ntmps100 (res0 Tryz.results100) ?_
 refine Bi (env2:=[(0,.pointer (some ⟨b,o,none⟩)),(1,.int .u8 ((c:Nat):Int))]) U<|Am<|Bt [0,1,2,4,0,16,32,64,0,511,1023] (.pure 0 496 (.pure 1 497 (.pure 2 499 (.pure 4 271 (.pure 5 287 (.pure 6 319 (.pure 8 255 (.seg [(3,503),(7,383),(9,511)] (.alt 10 .done .stop))))))))) mixed (by decide+kernel)<|Dm U U U<|Ah U (Ad U) U<|Ah U (Ab U Eb) U<|Dm U U U<|Ah U (Ad U) U<|Ah U (Ab U Ez) U<|Dm U U U<|Dc (by decide)<|Au U (Aj 0 (k:=0) U U U Ta25) U ?_
 refine Au U (Aj 0 (k:=1) U U U Ta3) U<|Ba U (Bm U U (by omega) Tu25 Tz5) U<|Da<|By ?_
 refine Di U (Aq 1 (k:=wr*1) U U U U (by rw[Nat.blt_eq,Bh,hl];omega) Tz5) ?_
 rintro _ _⟨rfl,rfl⟩
 refine Dz (L2:=[⟨b,o,[.slice (some ⟨hb,0,none⟩) 32768 32768,.int .i64 (((wr):Nat):Int),.int .i64 (((rd):Nat):Int),.bool full]⟩,⟨hb,0,bytesV (h.take wr++[UInt8.ofNat c]++h.drop (wr+1))⟩]) (congrArg (fun x=>([⟨b,o,[.slice (some ⟨hb,0,none⟩) 32768 32768,.int .i64 (((wr):Nat):Int),.int .i64 (((rd):Nat):Int),.bool full]⟩,⟨hb,0,x⟩]:Frags)) (bytesV_set h wr c hc (by omega)))<|Dk1 0 U<|Al<|Em U U<|Aa (Ad U) U<|Aa (Ab U Ez) U<|Ag (Aj 0 (k:=1) U U U Ta3) U<|Aa (Bl (b:=((1:Nat):Int)) U U (N.add64 (by omega))) U<|Aa (Ad U) U<|Aa (Ab U Ez) U ?_
 refine Ao (Aq 0 (k:=1) U U U U U Tz3) ?_;rintro _ _⟨rfl,rfl⟩;refine Er2 U ?_
 refine Ek1 0 U ?_
 exact⟨rfl,rfl⟩
theorem writeSlice_spec{K:Known}(b o hb wr rd:Nat)(full:Bool)(hw:wr<32768):Fn Tryz.prog K 107 #[.pointer (some ⟨b,o,none⟩)] ([⟨b,o,[.slice (some ⟨hb,0,none⟩) 32768 32768,.int .i64 (((wr):Nat):Int),.int .i64 (((rd):Nat):Int),.bool full]⟩]) (fun v L=>v=.slice (some ⟨hb,wr,none⟩) (32768-wr) (32768-wr)∧L=[⟨b,o,[.slice (some ⟨hb,0,none⟩) 32768 32768,.int .i64 (((wr):Nat):Int),.int .i64 (((rd):Nat):Int),.bool full]⟩]):=by
 refine Fn.intro (args:=[.pointer (some ⟨b,o,none⟩)]) (RR:=Ret1 2 _) Tryz.func107 rfl rfl Tryz.ntmps107 (res1 Tryz.results107) ?_
 refine Bi (env2:=[(0,.pointer (some ⟨b,o,none⟩))]) U<|Cr<|Ea U U<|Ek2 0 2 U<|Am<|Bt [0,1,2,4,0,16,32,64,136,511] (.pure 0 240 (.pure 1 241 (.pure 2 243 (.pure 4 15 (.pure 5 31 (.pure 6 63 (.seg [(3,247),(7,127),(8,255),(9,511)] .done))))))) mixed (by decide+kernel)<|Dm U U U<|Ah U (Ad U) U<|Ah U (Ab U Eb) U<|Dm U U U<|Ah U (Ad U) U<|Ah U (Ab U Ez) U ?_
 refine Dc (by decide)<|Au U (Aj 0 (k:=0) U U U Ta25) U<|Au U (Aj 0 (k:=1) U U U Ta3) U<|Ba U (S.slL U U (by omega) Tu25 Tz5) U ?_
 refine Dy (v:=.slice (some ⟨hb,wr,none⟩) (32768-wr) (32768-wr)) (Dj (by rw[part,if_neg (by omega)];omega) U U) ?_
 refine Ba U (Az U) U<|Da<|Dk1 2 U<|Bb ?_
 exact⟨_,rfl,rfl,rfl⟩
theorem writeMark_spec{K:Known}(b o hb wr rd:Nat)(full:Bool)(hw:wr≤32768)(k:Nat)(hk:wr+k≤32768):Fn Tryz.prog K 108 #[.pointer (some ⟨b,o,none⟩),.int .i64 ((k:Nat):Int)] ([⟨b,o,[.slice (some ⟨hb,0,none⟩) 32768 32768,.int .i64 (((wr):Nat):Int),.int .i64 (((rd):Nat):Int),.bool full]⟩]) (fun v L=>v=.tuple #[]∧L=[⟨b,o,[.slice (some ⟨hb,0,none⟩) 32768 32768,.int .i64 (((wr+k):Nat):Int),.int .i64 (((rd):Nat):Int),.bool full]⟩]):=by
 refine Fn.intro (args:=[.pointer (some ⟨b,o,none⟩),.int .i64 ((k:Nat):Int)]) (RR:=Ret0 _) Tryz.func108 rfl rfl Tryz.ntmps108 (res0 Tryz.results108) ?_
 refine Bi (env2:=[(0,.pointer (some ⟨b,o,none⟩)),(1,.int .i64 ((k:Nat):Int))]) U<|Al<|Em U U<|Aa (Ad U) U<|Aa (Ab U Ez) U<|Ag (Aj 0 (k:=1) U U U Ta3) U<|Em U U<|Aa (Bl U U (N.add64 (by omega))) U<|Aa (Ad U) U<|Aa (Ab U Ez) U ?_
 refine Ao (Aq 0 (k:=1) U U U U U Tz3) ?_;rintro _ _⟨rfl,rfl⟩;refine Er1 U ?_
 refine Fz [] (env1:=[]) U ?_
 exact⟨rfl,rfl⟩
def FlushEnd(b o hb wr rd:Nat)(full:Bool)(v:Value)(A:Frag):Prop:=
  (∃a c,v=.slice (some a) (wr-rd) c∧(rd<wr→a=⟨hb,rd,none⟩∧wr-rd≤c))∧wr-rd≤32768∧((wr<32768∧A=⟨b,o,[.slice (some ⟨hb,0,none⟩) 32768 32768,.int .i64 (((wr):Nat):Int),.int .i64 (((wr):Nat):Int),.bool full]⟩)∨(wr=32768∧A=⟨b,o,[.slice (some ⟨hb,0,none⟩) 32768 32768,.int .i64 (((0):Nat):Int),.int .i64 (((0):Nat):Int),.bool true]⟩))
theorem flush_sl{hb wr rd:Nat}(h1:rd≤wr)(h2:wr≤32768):∃a c,Value.slice (some ⟨hb,part 0 rd 32768 1,none⟩) (wr-rd) (32768-rd)=.slice (some a) (wr-rd) c∧(rd<wr→a=⟨hb,rd,none⟩∧wr-rd≤c):=
  ⟨_,_,rfl,fun h=>⟨by rw[part,if_neg (by omega)];simp,by omega⟩⟩
theorem Fg{K:Known}(b o hb wr rd:Nat)(full:Bool)(h1:rd≤wr)(h2:wr≤32768):Fn Tryz.prog K 95 #[.pointer (some ⟨b,o,none⟩)] ([⟨b,o,[.slice (some ⟨hb,0,none⟩) 32768 32768,.int .i64 (((wr):Nat):Int),.int .i64 (((rd):Nat):Int),.bool full]⟩]) (fun v L=>∃A,FlushEnd b o hb wr rd full v A∧L=[A]):=by
 refine Fn.intro (args:=[.pointer (some ⟨b,o,none⟩)]) (RR:=Ret1 2 _) Tryz.func95 rfl rfl Tryz.ntmps95 (res1 Tryz.results95) ?_
 refine Bi (env2:=[(0,.pointer (some ⟨b,o,none⟩))]) U<|Cr<|Ea U U<|Ek2 0 2 U<|Am<|Bt [0,1,2,4,0,16,32,64,0,256,512,1024,2184,8191] (.pure 0 4080 (.pure 1 4081 (.pure 2 4083 (.pure 4 3855 (.pure 5 3871 (.pure 6 3903 (.pure 8 255 (.pure 9 511 (.pure 10 1023 (.seg [(3,4087),(7,3967),(11,2047),(12,4095),(13,8191)] .done)))))))))) mixed (by decide+kernel)<|Dm U U U<|Ah U (Ad U) U<|Ah U (Ab U Eb) U<|Dm U U U<|Ah U (Ad U) U<|Ah U (Ab U fa181_2) U ?_
 refine Dm U U U<|Ah U (Ad U) U<|Ah U (Ab U Ez) U<|Dc (by decide)<|Au U (Aj 0 (k:=0) U U U Ta25) U<|Au U (Aj 0 (k:=2) U U U Ta3) U<|Au U (Aj 0 (k:=1) U U U Ta3) U<|Ba U (S.slLH U U U (by omega) (by omega) Tu25 Tz5) U<|Ba U (Az U) U<|Da<|Dk3 0 2 3 U<|Cr ?_
 refine Em U U<|Em U U<|Aa (Ad U) U<|Aa (Ab U Ez) U<|Ag (Aj 0 (k:=1) U U U Ta3) U<|Aa (Ad U) U<|Aa (Ab U fa181_2) U ?_
 refine Ao (Aq 0 (k:=2) U U U U U Tz3) ?_;rintro _ _⟨rfl,rfl⟩;refine Er1 U ?_
 refine Ek3 0 2 3 U<|Am<|Am<|Bt [0,1,2,4,0,16,32,64,128,264] (.pure 0 496 (.pure 1 497 (.pure 2 499 (.pure 4 15 (.pure 5 31 (.pure 6 63 (.seg [(3,503),(7,127),(8,255),(9,511)] .done))))))) mixed (by decide+kernel)<|Dm U U U<|Ah U (Ad U) U<|Ah U (Ab U Ez) U<|Dm U U U<|Ah U (Ad U) U<|Ah U (Ab U Eb) U<|Dc (by decide)<|Au U (Aj 0 (k:=1) U U U Ta3) U ?_
 refine Au U (Aj 0 (k:=0) U U U Ta25) U<|Ba U (Bc U Tu25) U<|Ba U (Ef U U) U<|Da<|Dk4 0 2 3 33 U<|Bf U (fun h33=>?_) (fun h33=>?_)
 ·refine Cr<|Em U U<|Em U U<|Aa (Ad U) U<|Aa (Ab U Ez) U ?_
  refine Ao (Aq 0 (k:=1) U U U U U Tz3) ?_;rintro _ _⟨rfl,rfl⟩;refine Er1 U ?_
  refine Aa (Ad U) U<|Aa (Ab U fa181_2) U ?_
  refine Ao (Aq 0 (k:=2) U U U U U Tz3) ?_;rintro _ _⟨rfl,rfl⟩;refine Er1 U ?_
  refine Ek4 0 2 3 33 U<|Al<|Em U U<|Aa (Ad U) U<|Aa (Ab U fa181_3) U ?_
  refine Ao (Aq 0 (k:=3) U U U U U Tz4) ?_;rintro _ _⟨rfl,rfl⟩;refine Er1 U ?_
  refine Ek4 0 2 3 33 U<|Cr<|Em U U<|Ea U U<|Ek4 0 2 3 33 U<|Bb ?_
  exact⟨_,rfl,_,⟨flush_sl h1 h2,by omega,.inr ⟨by omega,rfl⟩⟩,rfl⟩
 refine Ap<|Cr<|Em U U<|Ea U U<|Ek4 0 2 3 33 U<|Bb ?_
 exact⟨_,rfl,_,⟨flush_sl h1 h2,by omega,.inl ⟨by omega,rfl⟩⟩,rfl⟩
theorem tryWriteCopy_spec{K:Known}(b o hb wr rd:Nat)(full:Bool)(h0:List UInt8)(out:List UInt8)(H:Hist h0 wr full out)(hw:wr<32768)(d len:Nat)(hd1:1≤d)(hd2:d≤hsize wr full)(hlen:len≤32768):Fn Tryz.prog K 104 #[.pointer (some ⟨b,o,none⟩),.int .i64 ((d:Nat):Int),.int .i64 ((len:Nat):Int)] ([⟨b,o,[.slice (some ⟨hb,0,none⟩) 32768 32768,.int .i64 (((wr):Nat):Int),.int .i64 (((rd):Nat):Int),.bool full]⟩,⟨hb,0,bytesV (h0)⟩]) (fun v L=>∃n h,v=.int .i64 ((n:Nat):Int)∧n≤len∧(n=0∨n=len)∧Hist h (wr+n) full (copyN out d n)∧L=[⟨b,o,[.slice (some ⟨hb,0,none⟩) 32768 32768,.int .i64 (((wr+n):Nat):Int),.int .i64 (((rd):Nat):Int),.bool full]⟩,⟨hb,0,bytesV (h)⟩]):=by
 refine Fn.intro (args:=[.pointer (some ⟨b,o,none⟩),.int .i64 ((d:Nat):Int),.int .i64 ((len:Nat):Int)]) (RR:=Ret1 6 _) Tryz.func104 rfl rfl Tryz.ntmps104 (res1 Tryz.results104) ?_
 refine Bi (env2:=[(0,.pointer (some ⟨b,o,none⟩)),(1,.int .i64 ((d:Nat):Int)),(2,.int .i64 ((len:Nat):Int))]) U<|Cr<|Ea U U<|Ek4 0 1 2 6 U<|Cr<|Em U U<|Aa (Ad U) U<|Aa (Ab U Ez) U<|Ag (Aj 0 (k:=1) U U U Ta3) U<|Ea U U<|Ek5 0 1 2 6 7 U<|Cr ?_
 refine Em U U<|Em U U<|Aa (Bl U U (N.add64 (by omega))) U<|Ea U U<|Ek5 0 1 6 7 8 U<|Am<|Cr<|Em U U<|Em U U<|Aa (Dl U U) U<|Em U U<|Ek (fun g21=>?_) (fun g21=>?_)
 ·refine Ae 21 true U U U U<|Ae 21 true U U U U<|Ae 21 true U U U U<|Ae 21 true U U U U<|Ae 21 true U U U U<|Ae 21 true U U U U<|Ae 21 true U U U U<|Aa (Bz U U) U<|Ek6 0 1 6 7 8 29 U<|He U (rfl)<|Cr<|Ea U U ?_
  refine Ek6 0 1 6 7 8 29 U<|Bb ?_
  exact⟨_,rfl,0,h0,rfl,Nat.zero_le _,.inl U,H,rfl⟩
 refine Ak 21 U U<|Em U U<|Ak 21 U U<|Em U U<|Ak 21 U U<|Aa (Ad U) U<|Ak 21 U U<|Aa (Ab U Eb) U<|Ak 21 U U<|Ag (Aj 0 (k:=0) U U U Ta25) U<|Ak 21 U U<|Aa (Bc U Tu25) U ?_
 refine Ak 21 U U<|Aa (Fh U U) U<|Aa (Bk U U) U<|Ek6 0 1 6 7 8 29 U<|Bf U (fun h29=>?_) (fun h29=>?_)
 ·refine Cr<|Ea U U<|Ek6 0 1 6 7 8 29 U<|Bb ?_
  exact⟨_,rfl,0,h0,rfl,Nat.zero_le _,.inl U,H,rfl⟩
 refine Ap<|Cr<|Em U U<|Ea U U<|Ek7 0 1 6 7 8 9 29 U<|Cr<|Em U U<|Em U U<|Aa (Dr U U (N.sub64 (by omega) (by omega))) U<|Ea U U<|Ek8 0 1 6 7 8 9 10 29 U<|Am ?_
 refine As ?_
 refine Bw (fun mm ee ll=>∃(h:List UInt8),∃(dst:Nat),∃(m:Nat),keeps ee [0,7,10,8,9]=some [(0,.pointer (some ⟨b,o,none⟩)),(7,.int .i64 ((dst:Nat):Int)),(10,.int .i64 ((wr-d:Nat):Int)),(8,.int .i64 ((wr+len:Nat):Int)),(9,.int .i64 ((wr:Nat):Int))]∧ll=[⟨b,o,[.slice (some ⟨hb,0,none⟩) 32768 32768,.int .i64 (((wr):Nat):Int),.int .i64 (((rd):Nat):Int),.bool full]⟩,⟨hb,0,bytesV (h)⟩]∧(Hist h dst full (copyN out d (dst-wr)))∧(Per d m (copyN out d (dst-wr)))∧(1≤m∨dst=wr+len)∧(m≤dst)∧(wr-d=dst-m)∧(wr≤dst)∧(dst≤wr+len)∧(d∣m∨dst=wr+len)∧mm=wr+len-dst) (_) ⟨h0,wr,d,rfl,rfl,by rw[Nat.sub_self];exact H,by rw[Nat.sub_self];exact per_self _ _,.inl hd1,by omega,by omega,Nat.le_refl _,by omega,.inl (Nat.dvd_refl d),rfl⟩ ?_
 rintro m0 _ _⟨h,dst,m,hk0,rfl,H,hp,hm1,hm2,hms,hw1,he,hdv,hm0⟩
 refine Av _ hk0<|Am<|Cr<|Em U U<|Em U U<|Aa (Dl U U) U<|Ek6 0 7 8 9 10 36 U<|Bf U (fun h36=>?_) (fun h36=>?_)
 ·refine Ap<|As<|Bt [0,0,2,4,8,0,0,112,0,256,512,1024,0,0,14336,16512,32769,131071] (.pure 0 65534 (.pure 1 32609 (.pure 2 32611 (.pure 3 32615 (.pure 5 32607 (.pure 6 32575 (.pure 8 12543 (.pure 9 12799 (.pure 10 13311 (.pure 12 12287 (.pure 13 8191 (.seg [(4,32623),(7,32639),(11,14335),(14,16383)] (.alt 15 (.pure 16 65535 (.pure 17 131071 .done)) .stop))))))))))))) mixed (by decide+kernel) ?_
  have hdd:d∣m:=hdv.resolve_right (by omega)
  have hln:=H.len
  have hsz:=H.size_le
  have hmn1:Nat.min m (wr+len-dst)≤m:=Nat.min_le_left _ _
  have hmn2:Nat.min m (wr+len-dst)≤wr+len-dst:=Nat.min_le_right _ _
  have hmn3:Nat.min m (wr+len-dst)=m∨Nat.min m (wr+len-dst)=wr+len-dst:=by
    rcases Nat.le_total m (wr+len-dst)with q|q
    · exact .inl (Nat.min_eq_left q)
    · exact .inr (Nat.min_eq_right q)
  obtain⟨H2,hp2⟩:=H.copyStep (n:=Nat.min m (wr+len-dst)) hd1 (hm1.resolve_right (by omega)) hm2 hdd hp hmn1 (by omega)
  rw[copyN_add,show dst-wr+Nat.min m (wr+len-dst)=dst+Nat.min m (wr+len-dst)-wr by omega]at H2 hp2
  refine Dm U U U<|Dm U U U<|Ah U (Ad U) U<|Ah U (Ab U Eb) U<|Dm U U U<|Dm U U U<|Dm U U U<|Ah U (Ad U) U<|Ah U (Ab U Eb) U<|Dm U U U<|Dm U U U<|Dc (by decide) ?_
  refine Au U (Aj 0 (k:=0) U U U Ta25) U<|Ba U (S.slLH U U U (by omega) (by omega) Tu25 Tz5) U ?_
  refine Dy (v:=.slice (some ⟨hb,dst,none⟩) (wr+len-dst) (32768-dst)) (Dj (by rw[part,if_neg (by omega)];omega) (by omega) (by omega)) ?_
  refine Au U (Aj 0 (k:=0) U U U Ta25) U<|Ba U (S.slLH U U U (by omega) (by omega) Tu25 Tz5) U ?_
  refine Dy (v:=.slice (some ⟨hb,dst-m,none⟩) m (32768-(dst-m))) (Dj (by rw[part,if_neg (by omega)];omega) (by omega) (by omega)) ?_
  refine Da<|By ?_
  refine Bo U (X.copyW 1 (hb:=hb) (dst:=dst) (src:=dst-m) U U U (by omega) (by omega)) U ?_;rintro _ _⟨rfl,rfl⟩;refine Dr2 U ?_
  refine Ah U (Bl U U (N.add64 (by omega))) U<|Ah U (Az U) U<|Dk6 0 7 8 9 10 36 U ?_
  refine⟨_,?_,h.take dst++(h.drop (dst-m)).take (Nat.min m (wr+len-dst))++h.drop (dst+Nat.min m (wr+len-dst)),dst+Nat.min m (wr+len-dst),m+Nat.min m (wr+len-dst),rfl,rfl,H2,hp2,by omega,by omega,by omega,by omega,by omega,(hmn3.imp (fun q=>by rw[q];exact Nat.dvd_add hdd hdd) (fun q=>by omega)),rfl⟩;omega
 refine Bu U<|Cr<|Em U U<|Em U U<|Aa (Ad U) U<|Aa (Ab U Ez) U ?_
 refine Ao (Aq 0 (k:=1) U U U U U Tz3) ?_;rintro _ _⟨rfl,rfl⟩;refine Er2 U ?_
 refine Ek6 0 7 8 9 10 36 U<|Cr<|Em U U<|Em U U<|Aa (Dr U U (N.sub64 (by omega) (by omega))) U<|Ea U U<|Ek7 0 6 7 8 9 10 36 U<|Bb ?_
 have hde:dst=wr+len:=by omega
 subst hde
 refine⟨_,rfl,len,h,?_,Nat.le_refl _,.inr U,?_,rfl⟩
 · exact congrArg (fun y:Nat=>Value.int .i64 (y:Int)) (by omega)
 · rw[Nat.add_sub_cancel_left]at H;exact H
theorem writeCopy_spec{K:Known}(b o hb wr rd:Nat)(full:Bool)(h0:List UInt8)(out:List UInt8)(H:Hist h0 wr full out)(hw:wr<32768)(d len:Nat)(hd1:1≤d)(hd2:d≤hsize wr full)(hlen:len≤32768):Fn Tryz.prog K 105 #[.pointer (some ⟨b,o,none⟩),.int .i64 ((d:Nat):Int),.int .i64 ((len:Nat):Int)] ([⟨b,o,[.slice (some ⟨hb,0,none⟩) 32768 32768,.int .i64 (((wr):Nat):Int),.int .i64 (((rd):Nat):Int),.bool full]⟩,⟨hb,0,bytesV (h0)⟩]) (fun v L=>∃n h,v=.int .i64 ((n:Nat):Int)∧n≤len∧(n=min len (32768-wr))∧Hist h (wr+n) full (copyN out d n)∧L=[⟨b,o,[.slice (some ⟨hb,0,none⟩) 32768 32768,.int .i64 (((wr+n):Nat):Int),.int .i64 (((rd):Nat):Int),.bool full]⟩,⟨hb,0,bytesV (h)⟩]):=by
 refine Fn.intro (args:=[.pointer (some ⟨b,o,none⟩),.int .i64 ((d:Nat):Int),.int .i64 ((len:Nat):Int)]) (RR:=Ret1 6 _) Tryz.func105 rfl rfl Tryz.ntmps105 (res1 Tryz.results105) ?_
 refine Bi (env2:=[(0,.pointer (some ⟨b,o,none⟩)),(1,.int .i64 ((d:Nat):Int)),(2,.int .i64 ((len:Nat):Int))]) U<|Cr<|Ea U U<|Ek4 0 1 2 6 U<|Am ?_
 have hd3:d≤32768:=by have:=H.size_le;omega
 refine Al<|Em U U<|Aa (Ad U) U<|Aa (Ab U Ez) U<|Ag (Aj 0 (k:=1) U U U Ta3) U<|Ea U U<|Ek5 0 1 2 6 7 U<|Cr<|Em U U<|Ea U U<|Ek6 0 1 2 6 7 8 U<|Cr ?_
 refine Em U U<|Em U U<|Aa (Dr U U (N.subZ (by omega))) U<|Ea U U<|Ek6 0 2 6 7 8 9 U<|Cr<|Em U U<|Em U U<|Aa (Bl U U (N.add64 (by omega))) U<|Em U U<|Aa (Ad U) U<|Aa (Ab U Eb) U ?_
 refine Ag (Aj 0 (k:=0) U U U Ta25) U<|Aa (Bc U Tu25) U<|Aa (S.min2 U U) U<|An (v:=.int .i64 ((min (wr+len) 32768:Nat):Int)) (congrArg (fun y:Int=>Value.int .i64 y) (by omega))<|Ea U U<|Ek6 0 6 7 8 9 10 U<|Du (M:=fun ee ll=>∃(h1:List UInt8),∃(k:Nat),∃(src:Nat),keeps ee [0,7,10,8,9]=some [(0,.pointer (some ⟨b,o,none⟩)),(7,.int .i64 ((wr:Nat):Int)),(10,.int .i64 ((min (wr+len) 32768:Nat):Int)),(8,.int .i64 ((wr+k:Nat):Int)),(9,.int .i64 ((src:Nat):Int))]∧ll=[⟨b,o,[.slice (some ⟨hb,0,none⟩) 32768 32768,.int .i64 (((wr):Nat):Int),.int .i64 (((rd):Nat):Int),.bool full]⟩,⟨hb,0,bytesV (h1)⟩]∧(Hist h1 (wr+k) full (copyN out d k))∧(Per d (wr+k-src) (copyN out d k))∧(src<wr+k∨(src=wr+k∧wr+k=min (wr+len) 32768))∧(wr+k≤min (wr+len) 32768)∧(d∣wr+k-src∨wr+k=min (wr+len) 32768)) ?_ ?_
 ·refine Cr<|Em U U<|Aa (Dl (b:=((0:Nat):Int)) U U) U<|Ek7 0 6 7 8 9 10 29 U<|Bf U (fun h29=>?_) (fun h29=>?_)
  ·have hwd:wr<d:=by omega
   have hfull:full=true:=by
     cases full with
     |true=>rfl
     |false=>exact absurd hd2 (by simp[hsize];omega)
   have hd32:d≤32768:=by rw[hfull]at hd2;exact hd2
   have hln:=H.len
   subst hfull
   have hk1:Nat.min (d-wr) (min (wr+len) 32768-wr)≤d-wr:=Nat.min_le_left _ _
   have hk2:Nat.min (d-wr) (min (wr+len) 32768-wr)≤min (wr+len) 32768-wr:=Nat.min_le_right _ _
   have hk3:Nat.min (d-wr) (min (wr+len) 32768-wr)=d-wr∨Nat.min (d-wr) (min (wr+len) 32768-wr)=min (wr+len) 32768-wr:=by
     rcases Nat.le_total (d-wr) (min (wr+len) 32768-wr)with q|q
     · exact .inl (Nat.min_eq_left q)
     · exact .inr (Nat.min_eq_right q)
   obtain⟨H1,hp1⟩:=H.copyBack (n:=Nat.min (d-wr) (min (wr+len) 32768-wr)) (by omega) hd32 hk1 (by omega)
   have hcl:=Eu out d (Nat.min (d-wr) (min (wr+len) 32768-wr))
   have hsz:=H.size_le
   simp only[hsize,if_true]at hsz
   have hp2:Per d (wr+Nat.min (d-wr) (min (wr+len) 32768-wr)-0) (copyN out d (Nat.min (d-wr) (min (wr+len) 32768-wr))):=Per.less (k:=d-wr) (by rw[show wr+Nat.min (d-wr) (min (wr+len) 32768-wr)-0+(d-wr)=d+Nat.min (d-wr) (min (wr+len) 32768-wr) by omega];exact hp1) (by omega)
   have hdv:d∣wr+Nat.min (d-wr) (min (wr+len) 32768-wr)-0∨wr+Nat.min (d-wr) (min (wr+len) 32768-wr)=min (wr+len) 32768:=hk3.imp (fun q=>by rw[q,show wr+(d-wr)-0=d by omega];exact Nat.dvd_refl d) (fun q=>by omega)
   refine Cr<|Em U U<|Em U U<|Aa (Ad U) U<|Aa (Ab U Eb) U<|Ag (Aj 0 (k:=0) U U U Ta25) U<|Aa (Bc U Tu25) U<|Aa (Bl U U (N.addZ (by omega))) U<|An (v:=.int .i64 ((wr+32768-d:Nat):Int)) (congrArg (fun y:Int=>Value.int .i64 y) (by omega))<|Ea U U<|Ek7 0 6 7 8 9 10 29 U<|Am ?_
   refine Bt [0,0,2,4,8,0,0,112,0,256,512,1024,0,6144,8320,16385,65535] (.pure 0 32766 (.pure 1 16225 (.pure 2 16227 (.pure 3 16231 (.pure 5 16223 (.pure 6 16191 (.pure 8 4351 (.pure 9 4607 (.pure 10 5119 (.pure 12 4095 (.seg [(4,16239),(7,16255),(11,6143),(13,8191)] (.alt 14 (.pure 15 32767 (.pure 16 65535 .done)) .stop)))))))))))) mixed (by decide+kernel)<|Dm U U U<|Dm U U U<|Ah U (Ad U) U<|Ah U (Ab U Eb) U<|Dm U U U<|Dm U U U<|Dm U U U<|Ah U (Ad U) U<|Ah U (Ab U Eb) U<|Dm U U U<|Dc (by decide) ?_
   refine Au U (Aj 0 (k:=0) U U U Ta25) U<|Ba U (S.slLH U U U (by omega) (by omega) Tu25 Tz5) U ?_
   refine Dy (v:=.slice (some ⟨hb,wr,none⟩) (min (wr+len) 32768-wr) (32768-wr)) (Dj (by rw[part,if_neg (by omega)];omega) (by omega) (by omega)) ?_
   refine Au U (Aj 0 (k:=0) U U U Ta25) U<|Ba U (S.slL U U (by omega) Tu25 Tz5) U ?_
   refine Dy (v:=.slice (some ⟨hb,wr+32768-d,none⟩) (d-wr) (d-wr)) (Dj (by rw[part,if_neg (by omega)];omega) (by omega) (by omega)) ?_
   refine Da<|By ?_
   refine Bo U (X.copyW 1 (hb:=hb) (dst:=wr) (src:=wr+32768-d) U U U (by omega) (by omega)) U ?_;rintro _ _⟨rfl,rfl⟩;refine Dr2 U ?_
   refine Ah U (Bl U U (N.add64 (by omega))) U<|Ah U (Az U) U<|Dk7 0 6 7 8 9 10 29 U<|Al<|Ea U U<|Ek7 0 6 7 8 9 10 29 U ?_
   exact⟨_,Nat.min (d-wr) (min (wr+len) 32768-wr),0,rfl,rfl,H1,hp2,by omega,by omega,hdv⟩
  have hwd:d≤wr:=by omega
  have H1:Hist h0 (wr+0) full (copyN out d 0):=H
  have hp2:Per d (wr+0-(wr-d)) (copyN out d 0):=by rw[show wr+0-(wr-d)=d by omega];exact per_self _ _
  have hdv:d∣wr+0-(wr-d)∨wr+0=min (wr+len) 32768:=.inl (by rw[show wr+0-(wr-d)=d by omega];exact Nat.dvd_refl d)
  rw[show(wr:Int)-(d:Int)=((wr-d:Nat):Int) by omega]
  refine Ap ?_
  exact⟨h0,0,wr-d,rfl,rfl,H1,hp2,by omega,by omega,hdv⟩
 rintro _ _⟨h1,k,src,hq9,rfl,H1,hp1,hs1,hk9,hdv1⟩
 refine Av _ hq9<|Am<|As ?_
 refine Bw (fun mm ee ll=>∃(h:List UInt8),∃(dst:Nat),∃(m:Nat),keeps ee [0,8,9,10,7]=some [(0,.pointer (some ⟨b,o,none⟩)),(8,.int .i64 ((dst:Nat):Int)),(9,.int .i64 ((src:Nat):Int)),(10,.int .i64 ((min (wr+len) 32768:Nat):Int)),(7,.int .i64 ((wr:Nat):Int))]∧ll=[⟨b,o,[.slice (some ⟨hb,0,none⟩) 32768 32768,.int .i64 (((wr):Nat):Int),.int .i64 (((rd):Nat):Int),.bool full]⟩,⟨hb,0,bytesV (h)⟩]∧(Hist h dst full (copyN out d (dst-wr)))∧(Per d m (copyN out d (dst-wr)))∧(1≤m∨dst=min (wr+len) 32768)∧(m≤dst)∧(src=dst-m)∧(wr≤dst)∧(dst≤min (wr+len) 32768)∧(d∣m∨dst=min (wr+len) 32768)∧mm=min (wr+len) 32768-dst) (_) ⟨h1,wr+k,wr+k-src,rfl,rfl,by rw[Nat.add_sub_cancel_left];exact H1,by rw[Nat.add_sub_cancel_left];exact hp1,by omega,by omega,by omega,by omega,by omega,hdv1,rfl⟩ ?_
 rintro m0 _ _⟨h,dst,m,hk0,rfl,H,hp,hm1,hm2,hms,hw1,he,hdv,hm0⟩
 refine Av _ hk0<|Am<|Cr<|Em U U<|Em U U<|Aa (Dl U U) U<|Ek6 0 7 8 9 10 55 U<|Bf U (fun h55=>?_) (fun h55=>?_)
 ·refine Ap<|As<|Bt [0,0,2,4,8,0,0,112,0,256,512,1024,0,0,14336,16512,32769,131071] (.pure 0 65534 (.pure 1 32609 (.pure 2 32611 (.pure 3 32615 (.pure 5 32607 (.pure 6 32575 (.pure 8 12543 (.pure 9 12799 (.pure 10 13311 (.pure 12 12287 (.pure 13 8191 (.seg [(4,32623),(7,32639),(11,14335),(14,16383)] (.alt 15 (.pure 16 65535 (.pure 17 131071 .done)) .stop))))))))))))) mixed (by decide+kernel) ?_
  have hdd:d∣m:=hdv.resolve_right (by omega)
  have hln:=H.len
  have hsz:=H.size_le
  have hmn1:Nat.min m (min (wr+len) 32768-dst)≤m:=Nat.min_le_left _ _
  have hmn2:Nat.min m (min (wr+len) 32768-dst)≤min (wr+len) 32768-dst:=Nat.min_le_right _ _
  have hmn3:Nat.min m (min (wr+len) 32768-dst)=m∨Nat.min m (min (wr+len) 32768-dst)=min (wr+len) 32768-dst:=by
    rcases Nat.le_total m (min (wr+len) 32768-dst)with q|q
    · exact .inl (Nat.min_eq_left q)
    · exact .inr (Nat.min_eq_right q)
  obtain⟨H2,hp2⟩:=H.copyStep (n:=Nat.min m (min (wr+len) 32768-dst)) hd1 (hm1.resolve_right (by omega)) hm2 hdd hp hmn1 (by omega)
  rw[copyN_add,show dst-wr+Nat.min m (min (wr+len) 32768-dst)=dst+Nat.min m (min (wr+len) 32768-dst)-wr by omega]at H2 hp2
  refine Dm U U U<|Dm U U U<|Ah U (Ad U) U<|Ah U (Ab U Eb) U<|Dm U U U<|Dm U U U<|Dm U U U<|Ah U (Ad U) U<|Ah U (Ab U Eb) U<|Dm U U U<|Dm U U U<|Dc (by decide) ?_
  refine Au U (Aj 0 (k:=0) U U U Ta25) U<|Ba U (S.slLH U U U (by omega) (by omega) Tu25 Tz5) U ?_
  refine Dy (v:=.slice (some ⟨hb,dst,none⟩) (min (wr+len) 32768-dst) (32768-dst)) (Dj (by rw[part,if_neg (by omega)];omega) (by omega) (by omega)) ?_
  refine Au U (Aj 0 (k:=0) U U U Ta25) U<|Ba U (S.slLH U U U (by omega) (by omega) Tu25 Tz5) U ?_
  refine Dy (v:=.slice (some ⟨hb,dst-m,none⟩) m (32768-(dst-m))) (Dj (by rw[part,if_neg (by omega)];omega) (by omega) (by omega)) ?_
  refine Da<|By ?_
  refine Bo U (X.copyW 1 (hb:=hb) (dst:=dst) (src:=dst-m) U U U (by omega) (by omega)) U ?_;rintro _ _⟨rfl,rfl⟩;refine Dr2 U ?_
  refine Ah U (Bl U U (N.add64 (by omega))) U<|Ah U (Az U) U<|Dk6 0 7 8 9 10 55 U ?_
  refine⟨_,?_,h.take dst++(h.drop (dst-m)).take (Nat.min m (min (wr+len) 32768-dst))++h.drop (dst+Nat.min m (min (wr+len) 32768-dst)),dst+Nat.min m (min (wr+len) 32768-dst),m+Nat.min m (min (wr+len) 32768-dst),rfl,rfl,H2,hp2,by omega,by omega,by omega,by omega,by omega,(hmn3.imp (fun q=>by rw[q];exact Nat.dvd_add hdd hdd) (fun q=>by omega)),rfl⟩;omega
 refine Bu U<|Cr<|Em U U<|Em U U<|Aa (Ad U) U<|Aa (Ab U Ez) U ?_
 refine Ao (Aq 0 (k:=1) U U U U U Tz3) ?_;rintro _ _⟨rfl,rfl⟩;refine Er2 U ?_
 refine Ek6 0 7 8 9 10 55 U<|Cr<|Em U U<|Em U U<|Aa (Dr U U (N.sub64 (by omega) (by omega))) U<|Ea U U<|Ek7 0 6 7 8 9 10 55 U<|Bb ?_
 have hde:dst=min (wr+len) 32768:=by omega
 refine⟨_,rfl,dst-wr,h,rfl,by omega,by omega,?_,?_⟩
 · rw[show wr+(dst-wr)=dst by omega];exact H
 · rw[show wr+(dst-wr)=dst by omega];rfl
def TR(hb:Nat)(h pend:List UInt8)(v:Value):Prop:=∃a c,v=.slice a pend.length c∧pend.length≤32768∧(pend=[]∨∃off,a=some ⟨hb,off,none⟩∧(h.drop off).take pend.length=pend∧pend.length≤c)
structure WinSt(fb hb gv:Nat)(out pend:List UInt8)(trv:Value)(h:List UInt8)(wr rd:Nat)(full:Bool)(A B:Frag):Prop where
  hist:Hist h wr full out
  rdLe:rd≤wr
  wrLt:wr<32768
  sum:gv+pend.length+(wr-rd)=out.length
  pendIs:pend=(out.drop gv).take pend.length
  tr:TR hb h pend trv
  isA:A=⟨fb,1037,[.slice (some ⟨hb,0,none⟩) 32768 32768,.int .i64 ((wr:Nat):Int),.int .i64 ((rd:Nat):Int),.bool full]⟩
  isB:B=⟨hb,0,bytesV h⟩
def ptF(fb:Nat)(step:Nat)(ss:Nat)(fin:Bool)(err trv hl hd:Value)(cl cd:Nat):Frag:=
  ⟨fb,1045,[.func (.func step) #[] #[],.int .i64 ((ss:Nat):Int),.bool fin,err,trv,hl,hd,.int .i64 ((cl:Nat):Int),.int .i64 ((cd:Nat):Int)]⟩
structure HeadSt{K:Known}{ea:Fin 5→Addr}(src:Src K ea)(dt:List UInt8)(fb p q nb:Nat)(x1 x2 x3 A:Frag):Prop where
  at_:src.At (dt.drop q) x1 x2 x3
  is:∃b ro,BitsIn dt p q b nb∧A=⟨fb,0,[.iface src.t src.v,.pointer none,.int .i64 ro,.int .u32 ((b:Nat):Int),.int .u64 ((nb:Nat):Int)]⟩
def SsOk(ss cl cd hs:Nat):Prop:=ss=0∨(ss=1∧cl=0∧1≤cd∧cd≤hs)
def SymSt{K:Known}{ea:Fin 5→Addr}(src:Src K ea)(dt:List UInt8)(fb hb:Nat)(R:ResR)(gv:Nat)(pend:List UInt8)(t:Tabs)(last:Bool)(hl hd:Value)(step:Nat)(x1 x2 x3 A T W H:Frag):Prop:=
  ∃p q nb out trv h wr rd full ss cl cd,HeadSt src dt fb p q nb x1 x2 x3 A∧nb<t.mn+8∧WinSt fb hb gv out pend trv h wr rd full W H∧T=ptF fb step ss last .nilIface trv hl hd cl cd∧
    ((SsOk ss cl cd (hsize wr full)∧R=run dt (.sym last t) out p)∨(ss=1∧cl≤258∧1≤cd∧cd≤hsize wr full∧R=run dt (.sym last t) (copyN out cd cl) p))
def NextSt{K:Known}{ea:Fin 5→Addr}(src:Src K ea)(dt:List UInt8)(fb hb:Nat)(R:ResR)(gv:Nat)(pend:List UInt8)(p:Nat)(x1 x2 x3 A T W H:Frag):Prop:=
  ∃q nb out trv h wr rd full ss fin hl hd cl cd,HeadSt src dt fb p q nb x1 x2 x3 A∧nb<8∧WinSt fb hb gv out pend trv h wr rd full W H∧T=ptF fb 82 ss fin .nilIface trv hl hd cl cd∧SsOk ss cl cd (hsize wr full)∧R=run dt .next out p
def EndOk{K:Known}{ea:Fin 5→Addr}(src:Src K ea)(dt:List UInt8)(e:EndR)(er:Er)(x1 x2 x3:Frag):Prop:=
  (∃q,e=.done q∧er=.eof∧q≤dt.length∧src.At (dt.drop q) x1 x2 x3)∨(e=.bad∧Bad5 er∧∃l,src.At l x1 x2 x3)
def EndSt{K:Known}{ea:Fin 5→Addr}(src:Src K ea)(dt:List UInt8)(fb hb:Nat)(R:ResR)(gv:Nat)(pend:List UInt8)(x1 x2 x3 A T W H:Frag):Prop:=
  ∃out e er trv h wr rd full,EndOk src dt e er x1 x2 x3∧(∃a b c,A=⟨fb,0,[.iface src.t src.v,.pointer none,a,b,c]⟩)∧WinSt fb hb gv out pend trv h wr rd full W H∧(∃a b c d f g i,T=⟨fb,1045,[a,b,c,Er.val ea er,trv,d,f,g,i]⟩)∧R=(out,e)∧(pend=[]∨rd=wr)
theorem TR.nil(hb:Nat)(h:List UInt8)(a:Option Addr)(c:Nat):TR hb h [] (.slice a 0 c):=⟨a,c,rfl,by decide,.inl rfl⟩
theorem WinSt.flush{fb hb gv:Nat}{out:List UInt8}{h:List UInt8}{wr rd:Nat}{full:Bool}{v:Value}{A:Frag}(H:Hist h wr full out)(hrd:rd≤wr)(hsum:gv+(wr-rd)=out.length)(hf:FlushEnd fb 1037 hb wr rd full v A):
    ∃wr2 full2,WinSt fb hb gv out (out.drop gv) v h wr2 wr2 full2 A ⟨hb,0,bytesV h⟩∧(out.drop gv).length=wr-rd∧hsize wr full≤hsize wr2 full2:=by
  have hs:=H.size_le
  have hw:=H.wrLe
  obtain⟨⟨a,c,rfl,ha⟩,hlt,hA⟩:=hf
  have hlen:(out.drop gv).length=wr-rd:=by rw[List.length_drop];omega
  have htr:TR hb h (out.drop gv) (.slice (some a) (wr-rd) c):=by
    refine⟨some a,c,by rw[hlen],by omega,?_⟩
    rcases Nat.lt_or_ge rd wr with h1|h1
    · right
      refine⟨rd,by rw[(ha h1).1],?_,by rw[hlen];exact(ha h1).2⟩
      rw[hlen,H.seg (src:=rd) (n:=wr-rd) (by omega),show out.length-(wr-rd)=gv by omega,List.take_of_length_le (by omega)]
    · left
      exact List.eq_nil_of_length_eq_zero (by omega)
  have hp:out.drop gv=(out.drop gv).take (out.drop gv).length:=by rw[List.take_length]
  rcases hA with⟨h1,rfl⟩|⟨h1,rfl⟩
  · exact⟨wr,full,⟨H,Nat.le_refl _,h1,by omega,hp,htr,rfl,rfl⟩,hlen,Nat.le_refl _⟩
  · subst h1
    exact⟨0,true,⟨H.wrap,Nat.le_refl _,by decide,by omega,hp,htr,rfl,rfl⟩,hlen,by simp[hsize]⟩
theorem histSize_spec{K:Known}(b o hb wr rd:Nat)(full:Bool)(h1:rd≤wr)(h2:wr≤32768):Fn Tryz.prog K 103 #[.pointer (some ⟨b,o,none⟩)] ([⟨b,o,[.slice (some ⟨hb,0,none⟩) 32768 32768,.int .i64 (wr:Int),.int .i64 (rd:Int),.bool full]⟩]) (fun v L=>v=.int .i64 ((if full then 32768 else wr:Nat):Int)∧L=[⟨b,o,[.slice (some ⟨hb,0,none⟩) 32768 32768,.int .i64 (wr:Int),.int .i64 (rd:Int),.bool full]⟩]):=by
 refine Fn.intro (args:=[.pointer (some ⟨b,o,none⟩)]) (RR:=Ret1 2 _) Tryz.func103 rfl rfl Tryz.ntmps103 (res1 Tryz.results103) ?_
 refine Bi (env2:=[(0,.pointer (some ⟨b,o,none⟩))]) U<|Cr<|Ea U U<|Ek2 0 2 U<|Am<|Cr<|Em U U<|Aa (Ad U) U<|Aa (Ab U fa181_3) U<|Ag (Aj 0 (k:=3) U U U Ta4) U<|Ek3 0 2 6 U<|Eg U (fun h6=>?_) (fun h6=>?_)
 ·refine Cr<|Em U U<|Aa (Ad U) U<|Aa (Ab U Eb) U<|Ag (Aj 0 (k:=0) U U U Ta25) U<|Aa (Bc U Tu25) U<|Ea U U<|Ek3 0 2 6 U<|Bb ?_
  first|exact⟨_,rfl,by simp_all,rfl⟩
 refine Ap<|Cr<|Em U U<|Aa (Ad U) U<|Aa (Ab U Ez) U<|Ag (Aj 0 (k:=1) U U U Ta3) U<|Ea U U<|Ek3 0 2 6 U<|Bb ?_
 first|exact⟨_,rfl,by simp_all,rfl⟩
theorem availRead_spec{K:Known}(b o hb wr rd:Nat)(full:Bool)(h1:rd≤wr)(h2:wr≤32768):Fn Tryz.prog K 106 #[.pointer (some ⟨b,o,none⟩)] ([⟨b,o,[.slice (some ⟨hb,0,none⟩) 32768 32768,.int .i64 (wr:Int),.int .i64 (rd:Int),.bool full]⟩]) (fun v L=>v=.int .i64 ((wr-rd:Nat):Int)∧L=[⟨b,o,[.slice (some ⟨hb,0,none⟩) 32768 32768,.int .i64 (wr:Int),.int .i64 (rd:Int),.bool full]⟩]):=by
 refine Fn.intro (args:=[.pointer (some ⟨b,o,none⟩)]) (RR:=Ret1 2 _) Tryz.func106 rfl rfl Tryz.ntmps106 (res1 Tryz.results106) ?_
 refine Bi (env2:=[(0,.pointer (some ⟨b,o,none⟩))]) U<|Cr<|Ea U U<|Ek2 0 2 U<|Am<|Bt [0,1,2,4,0,16,32,64,136,511] (.pure 0 240 (.pure 1 241 (.pure 2 243 (.pure 4 15 (.pure 5 31 (.pure 6 63 (.seg [(3,247),(7,127),(8,255),(9,511)] .done))))))) mixed (by decide+kernel)<|Dm U U U<|Ah U (Ad U) U<|Ah U (Ab U Ez) U<|Dm U U U<|Ah U (Ad U) U<|Ah U (Ab U fa181_2) U ?_
 refine Dc (by decide)<|Au U (Aj 0 (k:=1) U U U Ta3) U<|Au U (Aj 0 (k:=2) U U U Ta3) U<|Ba U (Dr U U (N.sub64 (by omega) (by omega))) U<|Ba U (Az U) U<|Da<|Dk1 2 U<|Bb ?_
 exact⟨_,rfl,rfl,rfl⟩
theorem availWrite_spec{K:Known}(b o hb wr rd:Nat)(full:Bool)(h1:rd≤wr)(h2:wr≤32768):Fn Tryz.prog K 101 #[.pointer (some ⟨b,o,none⟩)] ([⟨b,o,[.slice (some ⟨hb,0,none⟩) 32768 32768,.int .i64 (wr:Int),.int .i64 (rd:Int),.bool full]⟩]) (fun v L=>v=.int .i64 ((32768-wr:Nat):Int)∧L=[⟨b,o,[.slice (some ⟨hb,0,none⟩) 32768 32768,.int .i64 (wr:Int),.int .i64 (rd:Int),.bool full]⟩]):=by
 refine Fn.intro (args:=[.pointer (some ⟨b,o,none⟩)]) (RR:=Ret1 2 _) Tryz.func101 rfl rfl Tryz.ntmps101 (res1 Tryz.results101) ?_
 refine Bi (env2:=[(0,.pointer (some ⟨b,o,none⟩))]) U<|Cr<|Ea U U<|Ek2 0 2 U<|Am<|Bt [0,1,2,4,8,0,32,64,128,272,1023] (.pure 0 480 (.pure 1 481 (.pure 2 483 (.pure 5 31 (.pure 6 63 (.pure 7 127 (.seg [(3,487),(4,495),(8,255),(9,511),(10,1023)] .done))))))) mixed (by decide+kernel)<|Dm U U U<|Ah U (Ad U) U<|Ah U (Ab U Eb) U<|Dm U U U<|Ah U (Ad U) U<|Ah U (Ab U Ez) U ?_
 refine Dc (by decide)<|Au U (Aj 0 (k:=0) U U U Ta25) U<|Ba U (Bc U Tu25) U<|Au U (Aj 0 (k:=1) U U U Ta3) U<|Ba U (Dr U U (N.sub64 (by omega) (by omega))) U<|Ba U (Az U) U<|Da<|Dk1 2 U<|Bb ?_
 exact⟨_,rfl,rfl,rfl⟩
theorem Ji{b o hb wr rd:Nat}{full:Bool}{v:Value}{A:Frag}(h:FlushEnd b o hb wr rd full v A):one v=true:=by
  obtain⟨⟨a,c,rfl,_⟩,_⟩:=h;rfl
theorem finishBlock_spec{K:Known}{ea:Fin 5→Addr}(hs:Sents K ea)(fb hb wr rd:Nat)(full last:Bool)(h1:rd≤wr)(h2:wr<32768)(sv ss ev trv hl hd cl cd:Value):Fn Tryz.prog K 96 #[.pointer (some ⟨fb,0,none⟩)] ([⟨fb,1037,[.slice (some ⟨hb,0,none⟩) 32768 32768,.int .i64 (((wr):Nat):Int),.int .i64 (((rd):Nat):Int),.bool full]⟩,⟨fb,1045,[sv,ss,.bool last,ev,trv,hl,hd,cl,cd]⟩]) (fun r L=>r=.tuple #[]∧∃ev2 tr2 A,L=[A,⟨fb,1045,[.func (.func 82) #[] #[],ss,.bool last,ev2,tr2,hl,hd,cl,cd]⟩]∧((last=false∧ev2=ev∧tr2=trv∧A=⟨fb,1037,[.slice (some ⟨hb,0,none⟩) 32768 32768,.int .i64 (((wr):Nat):Int),.int .i64 (((rd):Nat):Int),.bool full]⟩)∨(last=true∧ev2=Er.val ea .eof∧((rd=wr∧tr2=trv∧A=⟨fb,1037,[.slice (some ⟨hb,0,none⟩) 32768 32768,.int .i64 (((wr):Nat):Int),.int .i64 (((rd):Nat):Int),.bool full]⟩)∨(rd<wr∧FlushEnd fb 1037 hb wr rd full tr2 A))))):=by
 refine Fn.intro (args:=[.pointer (some ⟨fb,0,none⟩)]) (RR:=Ret0 _) Tryz.func96 rfl rfl Tryz.ntmps96 (res0 Tryz.results96) ?_
 refine Bi (env2:=[(0,.pointer (some ⟨fb,0,none⟩))]) U<|Am<|Cr<|Em U U<|Aa (Ad U) U<|Aa (Ab U fa186_13) U<|Ag (Aj 1 (k:=2) U U U Ta4) U<|Ek2 0 5 U<|Eg U (fun h5=>?_) (fun h5=>?_)
 ·have hl5:last=true:=by assumption
  refine Am<|Cr<|Em U U<|Aa (Ad U) U<|Aa (Ab U Fe) U ?_
  refine Ai (OpX.pick [0] (F:=[_]) U (Ar U Tryz.call106 (availRead_spec fb 1037 hb wr rd full h1 (by omega)))) U ?_;rintro _ _⟨_,⟨rfl,rfl⟩,rfl⟩;refine Er2 U ?_
  refine Aa (Fh (b:=((0:Nat):Int)) U U) U<|Ek3 0 5 10 U<|Bf U (fun h10=>?_) (fun h10=>?_)
  ·refine Al<|Em U U<|Em U U<|Aa (Ad U) U<|Aa (Ab U Fe) U ?_
   refine Ai (OpX.pick [0] (F:=[_]) U (Ar U Tryz.call95 (Fg fb 1037 hb wr rd full h1 (by omega)))) U ?_;rintro _ _⟨_,⟨A,hfl,rfl⟩,rfl⟩;refine Er2 U ?_
   refine Aa (Ad U) U<|Aa (Ab U Ge) U ?_
   refine Ao (Aq 1 (k:=4) U U U (Ji hfl) U Tz25) ?_;rintro _ _⟨rfl,rfl⟩;refine Er2 U ?_
   refine Ek3 0 5 10 U<|Al<|Em U U<|Ag (Be U hs.g0 Ta58) U<|Aa (Ad U) U<|Aa (Ab U Ee) U ?_
   refine Ao (Aq 1 (k:=3) U U U (one_er (a:=ea) .eof) U Tz58) ?_;rintro _ _⟨rfl,rfl⟩;refine Er2 U ?_
   refine Ek3 0 5 10 U<|Al<|Em U U<|Aa (Ad U) U<|Aa (Ab U Jb) U ?_
   refine Ao (Aq 1 (k:=0) U U U U U Tz183) ?_;rintro _ _⟨rfl,rfl⟩;refine Er2 U ?_
   refine Ek3 0 5 10 U ?_
   exact⟨rfl,_,_,_,rfl,.inr ⟨hl5,rfl,.inr ⟨by omega,hfl⟩⟩⟩
  refine Ap<|Al<|Em U U<|Ag (Be U hs.g0 Ta58) U<|Aa (Ad U) U<|Aa (Ab U Ee) U ?_
  refine Ao (Aq 1 (k:=3) U U U (one_er (a:=ea) .eof) U Tz58) ?_;rintro _ _⟨rfl,rfl⟩;refine Er2 U ?_
  refine Ek3 0 5 10 U<|Al<|Em U U<|Aa (Ad U) U<|Aa (Ab U Jb) U ?_
  refine Ao (Aq 1 (k:=0) U U U U U Tz183) ?_;rintro _ _⟨rfl,rfl⟩;refine Er2 U ?_
  refine Ek3 0 5 10 U ?_
  exact⟨rfl,_,_,_,rfl,.inr ⟨hl5,rfl,.inl ⟨by omega,rfl,rfl⟩⟩⟩
 have hl5:last=false:=by simpa using h5
 refine Ap<|Al<|Em U U<|Aa (Ad U) U<|Aa (Ab U Jb) U ?_
 refine Ao (Aq 1 (k:=0) U U U U U Tz183) ?_;rintro _ _⟨rfl,rfl⟩;refine Er2 U ?_
 refine Ek2 0 5 U ?_
 exact⟨rfl,_,_,_,rfl,.inl ⟨hl5,rfl,rfl,rfl⟩⟩
end Go.Eng
