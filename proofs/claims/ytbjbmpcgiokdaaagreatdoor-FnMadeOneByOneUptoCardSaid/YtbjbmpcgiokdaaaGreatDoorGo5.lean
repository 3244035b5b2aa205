/-
  Texts of this proof, merged: ReadA, Made, WMk1, WMk2, Gz, Step, WFlA, WFlD, WGh, WGi, WGj.
-/
import Derived.Test.YtbjbmpcgiokdaaaGreatDoorGo4
import Derived.Deep.Slices
import Derived.Test.YtbjbmpcgiokdaaaGreatDoorGo3
import Derived.Test.YtbjbmpcgiokdaaaGreatDoorGo2
set_option linter.unusedVariables false
set_option linter.unusedSimpArgs false
namespace Go.Eng
open Go Go.Proofs Go.ChangeShapes Go.WideShapes Go.RowKit
set_option maxRecDepth 100000
def BytesA(K:Known)(v:Value)(l:List UInt8):Prop:=(v=.slice none 0 0∧l=[])∨(∃a c,v=.slice (some a) 0 c∧l=[])∨∃pb po cap,v=.slice (some ⟨pb,po,none⟩) l.length cap∧l.length≤cap∧KB K pb po l
section
variable {H:Type}{enc:TypeId×Value→H}{W:World}{fuel:Nat}{cs:List Value}{x:DataW H×List MemPlace}
theorem trod_bytes(h:DataW.trod enc Tryz.prog W 0 (fun _=>true) true fuel 25 cs=some x):∃v l,cs=[v]∧BytesA (fun b=>W.heap[b]?) v l:=by
  rcases open_ints Tu25 Tu5 cellsU8 h with⟨hcs,hx⟩|⟨a,len,cap,zs,hcs,_,hl,hm,hz,hx,hcell,hwz⟩
  · exact⟨_,[],hcs,.inl ⟨rfl,rfl⟩⟩
  · subst hcs
    simp only[if_true]at hz
    by_cases h0:len=0
    · subst h0;exact⟨_,[],rfl,.inr (.inl ⟨_,_,rfl,rfl⟩)⟩
    · obtain⟨ab,ao,spot⟩:=a
      have hspot:spot=none:=by simpa[Addr.add]using World.cell?_spot (hcell 0 (by omega))
      subst hspot
      have hlen:((zs.take len).map fun n=>UInt8.ofNat n.toNat).length=len:=by simp;omega
      refine⟨_,(zs.take len).map fun n=>UInt8.ofNat n.toNat,rfl,.inr (.inr ⟨ab,ao,cap,by rw[hlen],by rw[hlen];exact hl,fun j hj=>?_⟩)⟩
      rw[hlen]at hj
      have hcj:=hcell j (by omega)
      rw[Addr.add_lit]at hcj
      have hb:=range_u8 hwz j
      have e:zs.getD j 0=zs[j]'(by omega):=by simp[List.getD,List.getElem?_eq_getElem (show j<zs.length by omega)]
      rw[e]at hcj
      rw[←List.getD_eq_getElem?_getD,e]at hb
      have hv:(u8 (((zs.take len).map fun n=>UInt8.ofNat n.toNat)[j]'(by rw[hlen];exact hj)))=.int .u8 zs[j]:=by
        have e3:((zs.take len).map fun n=>UInt8.ofNat n.toNat)[j]'(by rw[hlen];exact hj)=UInt8.ofNat (zs[j]'(by omega)).toNat:=by simp
        have e4:((UInt8.ofNat (zs[j]'(by omega)).toNat).toNat:Int)=zs[j]'(by omega):=by rw[UInt8.toNat_ofNat'];omega
        show Value.int .u8 _=_
        rw[e3,e4]
      rw[hv]
      exact Hu hcj
variable {P:Program}{base:Nat}{sp:Nat→Bool}{hd:Bool}{t:TypeId}
theorem trod_str(ht:P.underlying t=some .string)(h:DataW.trod enc P W base sp hd fuel t cs=some x):∃s,cs=[.string s]∧s.size≤maxLen:=by
  cases fuel with
  |zero=>simp[DataW.trod]at h
  |succ n=>
    unfold DataW.trod at h
    rw[ht]at h
    split at h<;>simp_all
theorem trod_bool(ht:P.underlying t=some .bool)(h:DataW.trod enc P W base sp hd fuel t cs=some x):∃b,cs=[.bool b]:=by
  cases fuel with
  |zero=>simp[DataW.trod]at h
  |succ n=>
    unfold DataW.trod at h
    rw[ht]at h
    split at h<;>simp_all
theorem trod_int{k:IntKind}(ht:P.underlying t=some (.int k))(h:DataW.trod enc P W base sp hd fuel t cs=some x):∃n,cs=[.int k n]∧(Lit.int k n).wf=true:=by
  cases fuel with
  |zero=>simp[DataW.trod]at h
  |succ n=>
    unfold DataW.trod at h
    rw[ht]at h
    split at h<;>simp_all
theorem u8_of_wf{n:Int}(h:(Lit.int .u8 n).wf=true):∃c:UInt8,n=(c.toNat:Int):=by
  have:0≤n∧n≤255:=by simpa[Lit.wf,IntKind.min,IntKind.max,IntKind.signed,IntKind.bits]using h
  exact⟨UInt8.ofNat n.toNat,by rw[UInt8.toNat_ofNat'];omega⟩
structure Md where
  name:ByteArray
  comment:ByteArray
  extra:List UInt8
  mod:Int
  os:UInt8
  text:Bool
  checked:Bool
  ex:Bool
  nm:Bool
  cm:Bool
  flags:UInt8
def BlocksA(K:Known)(v:Value):Prop:=∃a n c,v=.slice a n c∧∀i,i<n→∃b o,a=some ⟨b,o,none⟩∧∃wh a1 n1 c1 a2 n2 c2 a3 n3 c3,∀j u,([.int .i64 wh,.slice a1 n1 c1,.slice a2 n2 c2,.slice a3 n3 c3]:List Value)[j]? =some u→cellAt K b (o+i*4+j)=some u
def headCells(m:Md)(ve:Value):List Value:=[.string m.name,.string m.comment,ve,.int .i64 m.mod,u8 m.os]
def madeCells(m:Md)(ve vb:Value):List Value:=headCells m ve++[.bool m.text,.bool m.checked,.bool m.ex,.bool m.nm,.bool m.cm,u8 m.flags,vb]
theorem cellsHead:Tryz.prog.cellsOf 32=5:=by kernel_rfl
theorem cellsBlock:Tryz.prog.cellsOf 73=4:=by kernel_rfl
theorem cellsMade:Tryz.prog.cellsOf 35=12:=by kernel_rfl
theorem Hs(t:TypeId)(h:Tryz.prog.cellsOf t=1:=by kernel_rfl):Tryz.prog.cellsOf t=1:=h
theorem struct_fields{P:Program}{base:Nat}{sp:Nat→Bool}{hd:Bool}{t:TypeId}{fs:Array Field}(ht:P.underlying t=some (.struct fs))(h:DataW.trod enc P W base sp hd fuel t cs=some x):
    cs.length=P.cellsOf t∧∃n,∀(i:Nat) (f:Field),fs[i]? =some f→∃y,DataW.trod enc P W base sp hd n f.type ((cs.drop f.offset).take (P.cellsOf f.type))=some y:=by
  obtain⟨xs,n,_,rfl,hl,hlen,hf⟩:=DataW.trod_struct ht h
  refine⟨hl,n,fun i f hi=>?_⟩
  have:i<xs.length:=by rw[hlen];exact(Array.getElem?_eq_some_iff.1 hi).1
  exact⟨xs[i],by rw[hf i f hi,List.getElem?_eq_getElem this]⟩
theorem trod_head(h:DataW.trod enc Tryz.prog W 0 (fun _=>true) true fuel 32 cs=some x):
    ∃(n c:ByteArray) (ve:Value) (e:List UInt8) (mod:Int) (os:UInt8),cs=[.string n,.string c,ve,.int .i64 mod,u8 os]∧BytesA (fun b=>W.heap[b]?) ve e∧n.size≤maxLen∧c.size≤maxLen∧(Lit.int .i64 mod).wf=true:=by
  obtain⟨hl,n,hf⟩:=struct_fields Tryz.underlying32 h
  rw[cellsHead]at hl
  match cs,hl with
  | [c0,c1,c2,c3,c4],_=>
    obtain⟨y0,f0⟩:=hf 0 _ rfl
    obtain⟨y1,f1⟩:=hf 1 _ rfl
    obtain⟨y2,f2⟩:=hf 2 _ rfl
    obtain⟨y3,f3⟩:=hf 3 _ rfl
    obtain⟨y4,f4⟩:=hf 4 _ rfl
    simp only[List.getElem_toArray,List.getElem_cons_zero,List.getElem_cons_succ,Hs 9,Hs 25,Hs 2,Hs 5,List.drop_zero,List.drop_succ_cons,List.take_succ_cons,List.take_zero]at f0 f1 f2 f3 f4
    obtain⟨s0,e0,z0⟩:=trod_str Tu9 f0
    obtain⟨s1,e1,z1⟩:=trod_str Tu9 f1
    obtain⟨v2,l2,e2,b2⟩:=trod_bytes f2
    obtain⟨m3,e3,w3⟩:=trod_int Tu2 f3
    obtain⟨m4,e4,w4⟩:=trod_int Tu5 f4
    obtain⟨o4,rfl⟩:=u8_of_wf w4
    simp only[List.cons.injEq,and_true]at e0 e1 e2 e3 e4
    subst e0 e1 e2 e3 e4
    exact⟨s0,s1,_,l2,m3,o4,rfl,b2,z0,z1,w3⟩
theorem cells?_cell{w:World}{base:Nat}{a:Addr}{n:Nat}{cs:List Value}(h:w.cells? base a n=some cs):cs.length=n∧∀j u,cs[j]? =some u→w.cell? (a.add j)=some u:=by
  unfold World.cells? at h
  split at h
  · have hl:=mapM_some_length h
    rw[List.length_range]at hl
    refine⟨hl,fun j u hj=>?_⟩
    have hjl:j<n:=by rw[←hl];exact(List.getElem?_eq_some_iff.1 hj).1
    have:=mapM_some_get h (i:=j) (x:=j) (by simp[hjl])
    rw[this];exact hj
  · cases h
end
open Go Go.Proofs
def textB:List UInt8→Option (List UInt8)
  | []=>some []
  | [c]=>if c.toNat<128∧c.toNat≠0 then some [c]else none
  |c::d::r=>
    if c.toNat<128 then(if c.toNat=0 then none else(textB (d::r)).map (c::·))
    else if c.toNat&&&254=194∧d.toNat&&&192=128 then
      (if(c.toNat<<<6)%256|||(d.toNat&&&63)=0 then none else(textB r).map (UInt8.ofNat ((c.toNat<<<6)%256|||(d.toNat&&&63))::·))
    else none
theorem textB_small{s:List UInt8}{i:Nat}(h:i<s.length)(hc:s[i].toNat<128):textB (s.drop i)=if s[i].toNat=0 then none else(textB (s.drop (i+1))).map (s[i]::·):=by
  rw[List.drop_eq_getElem_cons h]
  cases hr:s.drop (i+1)with
  |nil=>
    rw[show textB [s[i]]=if s[i].toNat<128∧s[i].toNat≠0 then some [s[i]]else none from rfl]
    by_cases h0:s[i].toNat=0
    · rw[if_neg (fun h=>h.2 h0),if_pos h0]
    · rw[if_pos ⟨hc,h0⟩,if_neg h0];rfl
  |cons d r=>rw[textB,if_pos hc]
theorem textB_big{s:List UInt8}{i:Nat}(h:i+1<s.length)(hc:¬s[i].toNat<128)(h1:s[i].toNat&&&254=194)(h2:s[i+1].toNat&&&192=128):
    textB (s.drop i)=if(s[i].toNat<<<6)%256|||(s[i+1].toNat&&&63)=0 then none else(textB (s.drop (i+1+1))).map (UInt8.ofNat ((s[i].toNat<<<6)%256|||(s[i+1].toNat&&&63))::·):=by
  rw[List.drop_eq_getElem_cons (by omega:i<s.length),List.drop_eq_getElem_cons h,textB,if_neg hc,if_pos ⟨h1,h2⟩]
theorem textB_bad{s:List UInt8}{i:Nat}(h:i<s.length)(hc:¬s[i].toNat<128)(hb:¬(s[i].toNat&&&254=194)∨i+1=s.length∨∃h2:i+1<s.length,¬(s[i+1].toNat&&&192=128)):textB (s.drop i)=none:=by
  rw[List.drop_eq_getElem_cons h]
  cases hr:s.drop (i+1)with
  |nil=>rw[textB,if_neg (by omega)]
  |cons d r=>
    have hlt:i+1<s.length:=by
      rcases Nat.lt_or_ge (i+1) s.length with h1|h1
      · exact h1
      · rw[List.drop_eq_nil_of_le h1]at hr;cases hr
    rw[List.drop_eq_getElem_cons hlt]at hr
    obtain⟨rfl,rfl⟩:=List.cons.inj hr
    rw[textB,if_neg hc,if_neg]
    rintro⟨h1,h2⟩
    rcases hb with h3|h3|⟨_,h3⟩
    · exact h3 h1
    · omega
    · exact h3 h2
theorem two_bytes:∀c d:Fin 256,c.val&&&254=194→d.val&&&192=128→((c.val<<<6)%256|||(d.val&&&63))≥128∧((c.val<<<6)%256|||(d.val&&&63))<256∧192+((c.val<<<6)%256|||(d.val&&&63))/64=c.val∧128+((c.val<<<6)%256|||(d.val&&&63))%64=d.val:=by
  intro c d hc hd
  have h1:c.val=194∨c.val=195:=by revert c;decide+kernel
  have h2:d.val&&&63=d.val-128∧128≤d.val∧d.val<192:=by revert d;decide+kernel
  rw[h2.1]
  have h3:=Nat.shiftLeft_add_eq_or_of_lt (b:=d.val-128) (i:=6) (by omega)
  rcases h1 with e|e
  · have:=h3 2
    rw[e,show(194<<<6)%256=2<<<6 by decide,←this];omega
  · have:=h3 3
    rw[e,show(195<<<6)%256=3<<<6 by decide,←this];omega
theorem textB_latin:∀{s t:List UInt8},textB s=some t→latinB t=s∧(∀c∈t,c≠0)∧t.length≤s.length
  | [],t,h=>by simp[textB]at h;subst h;simp[latinB]
  | [c],t,h=>by
    rw[textB]at h
    split at h
    · rename_i hc
      simp only[Option.some.injEq]at h;subst h
      refine⟨?_,?_,by simp⟩
      · simp only[latinB,List.flatMap_cons,List.flatMap_nil,List.append_nil];rw[encB,if_pos hc.1]
      · intro x hx
        rw[List.mem_singleton.1 hx];rintro rfl;exact hc.2 U
    · cases h
  |c::d::r,t,h=>by
    rw[textB]at h
    split at h
    · rename_i hc
      split at h
      · cases h
      · rename_i hz
        obtain⟨t',h1,rfl⟩:=Option.map_eq_some_iff.1 h
        obtain⟨h2,h3,h4⟩:=textB_latin h1
        refine⟨?_,?_,by simp only[List.length_cons]at h4⊢;omega⟩
        · unfold latinB at h2⊢
          rw[List.flatMap_cons,h2,encB,if_pos hc];rfl
        · intro x hx
          rcases List.mem_cons.1 hx with rfl|hx
          · rintro rfl;exact hz U
          · exact h3 x hx
    · split at h
      · rename_i hcd
        split at h
        · cases h
        · obtain⟨t',h1,rfl⟩:=Option.map_eq_some_iff.1 h
          obtain⟨h2,h3,h4⟩:=textB_latin h1
          obtain⟨k1,k2,k3,k4⟩:=two_bytes ⟨c.toNat,c.toNat_lt⟩ ⟨d.toNat,d.toNat_lt⟩ hcd.1 hcd.2
          simp only at k1 k2 k3 k4
          have ey:(UInt8.ofNat ((c.toNat<<<6)%256|||(d.toNat&&&63))).toNat=(c.toNat<<<6)%256|||(d.toNat&&&63):=by rw[UInt8.toNat_ofNat'];omega
          refine⟨?_,?_,by simp only[List.length_cons]at h4⊢;omega⟩
          · unfold latinB at h2⊢
            rw[List.flatMap_cons,h2,encB,if_neg (by omega),ey,k3,k4]
            simp
          · intro x hx
            rcases List.mem_cons.1 hx with rfl|hx
            · intro h0;rw[h0]at ey;simp at ey;omega
            · exact h3 x hx
      · cases h
def numL(x n:Nat):List UInt8:=(List.range n).map fun i=>UInt8.ofNat (x/2^(8*i))
def bit(b:Bool):Nat:=if b then 1 else 0
def flagsN(m:Md)(nb cb:List UInt8):Nat:=bit m.text+2*bit m.checked+4*bit (m.ex||decide (0<m.extra.length))+8*bit (m.nm||decide (0<nb.length))+16*bit (m.cm||decide (0<cb.length))
def first0(m:Md)(nb cb:List UInt8):List UInt8:=[31,139,8,UInt8.ofNat (flagsN m nb cb)]++numL m.mod.toNat 4++[m.flags,m.os]
def first1(m:Md)(nb cb:List UInt8):List UInt8:=if flagsN m nb cb&&&4=0 then first0 m nb cb else first0 m nb cb++numL m.extra.length 2++m.extra
def first2(m:Md)(nb cb:List UInt8):List UInt8:=if flagsN m nb cb&&&8=0 then first1 m nb cb else first1 m nb cb++nb++[0]
def first3(m:Md)(nb cb:List UInt8):List UInt8:=if flagsN m nb cb&&&16=0 then first2 m nb cb else first2 m nb cb++cb++[0]
def firstL(m:Md)(nb cb:List UInt8):List UInt8:=if flagsN m nb cb&&&2=0 then first3 m nb cb else first3 m nb cb++numL (crcOn IEEE 0 (first3 m nb cb)%65536) 2
theorem bit_lt(b:Bool):bit b≤1:=by cases b<;>decide
theorem flagsN_lt(m:Md)(nb cb:List UInt8):flagsN m nb cb<32:=by
  unfold flagsN
  have h1:=bit_lt m.text
  have h2:=bit_lt m.checked
  have h3:=bit_lt (m.ex||decide (0<m.extra.length))
  have h4:=bit_lt (m.nm||decide (0<nb.length))
  have h5:=bit_lt (m.cm||decide (0<cb.length))
  omega
theorem flags_and:∀a b c d e:Bool,((bit a+2*bit b+4*bit c+8*bit d+16*bit e)&&&4=0↔c=false)∧((bit a+2*bit b+4*bit c+8*bit d+16*bit e)&&&8=0↔d=false)∧((bit a+2*bit b+4*bit c+8*bit d+16*bit e)&&&16=0↔e=false):=by decide
theorem noName{m:Md}{nb cb:List UInt8}(h:flagsN m nb cb&&&8=0):nb=[]:=by
  have:=(flags_and _ _ _ _ _).2.1.1 h
  have:=(Bool.or_eq_false_iff.1 this).2
  exact List.eq_nil_of_length_eq_zero (by simpa using this)
theorem noComment{m:Md}{nb cb:List UInt8}(h:flagsN m nb cb&&&16=0):cb=[]:=by
  have:=(flags_and _ _ _ _ _).2.2.1 h
  have:=(Bool.or_eq_false_iff.1 this).2
  exact List.eq_nil_of_length_eq_zero (by simpa using this)
theorem noExtra{m:Md}{nb cb:List UInt8}(h:flagsN m nb cb&&&4=0):m.extra=[]:=by
  have:=(flags_and _ _ _ _ _).1.1 h
  have:=(Bool.or_eq_false_iff.1 this).2
  exact List.eq_nil_of_length_eq_zero (by simpa using this)
theorem numL_two(x:Nat)(h:x<65536):∃a b:UInt8,numL x 2=[a,b]∧le16 a.toNat b.toNat=x:=by
  refine⟨UInt8.ofNat (x/2^(8*0)),UInt8.ofNat (x/2^(8*1)),rfl,?_⟩
  rw[le16_val (UInt8.toNat_lt _) (UInt8.toNat_lt _),UInt8.toNat_ofNat',UInt8.toNat_ofNat']
  omega
theorem numL_four(x:Nat)(h:x<4294967296):∃a b c d:UInt8,numL x 4=[a,b,c,d]∧le32 a.toNat b.toNat c.toNat d.toNat=x:=by
  refine⟨UInt8.ofNat (x/2^(8*0)),UInt8.ofNat (x/2^(8*1)),UInt8.ofNat (x/2^(8*2)),UInt8.ofNat (x/2^(8*3)),rfl,?_⟩
  rw[le32_val (UInt8.toNat_lt _) (UInt8.toNat_lt _) (UInt8.toNat_lt _) (UInt8.toNat_lt _),UInt8.toNat_ofNat',UInt8.toNat_ofNat',UInt8.toNat_ofNat',UInt8.toNat_ofNat']
  omega
theorem str_here{t r:List UInt8}(hz:∀c∈t,c≠0)(hl:t.length<512)(d:Nat):strEr (t++0::r)=.none∧(t++0::r).drop (Fd (t++0::r))=r∧strTxt (t++0::r)=latin t∧strCrc d (t++0::r)=crcOn IEEE d (t++[0]):=by
  have h0:(t++0::r)[t.length]? =some 0:=by rw[List.getElem?_append_right (Nat.le_refl _)];simp
  obtain⟨h1,h2,h3,h4⟩:=str_ok (l:=t++0::r) (i:=t.length) (by rw[List.take_left' rfl];exact hz) h0 hl d
  refine⟨h1,?_,?_,?_⟩
  · rw[h2,show t++0::r=(t++[0])++r by simp,List.drop_left' (by simp)]
  · rw[h3,List.take_left' rfl]
  · rw[h4,show t++0::r=(t++[0])++r by simp,List.take_left' (by simp)]
theorem rd4_made{m:Md}{nb cb behind:List UInt8}{h:Hd}:
    rd4 ((if flagsN m nb cb&&&2=0 then []else numL (crcOn IEEE 0 (first3 m nb cb)%65536) 2)++behind) (flagsN m nb cb) (crcOn IEEE 0 (first3 m nb cb)) h=(.none,behind,h):=by
  unfold rd4
  split
  · rfl
  · obtain⟨a,b,e,hv⟩:=numL_two (crcOn IEEE 0 (first3 m nb cb)%65536) (Nat.mod_lt _ (by decide))
    rw[e]
    have h1:¬Dg ([a,b]++behind) 2≠.none:=by rw[Gi];simp
    rw[if_neg h1]
    have h2:le16of ([a,b]++behind)=le16 a.toNat b.toNat:=rfl
    rw[h2,hv,if_neg (by simp)];rfl
theorem rd3_made{m:Md}{nb cb behind:List UInt8}{h:Hd}(hz:∀c∈cb,c≠0)(hl:cb.length<512)(hc:h.comment=⟨#[]⟩):
    rd3 ((if flagsN m nb cb&&&16=0 then []else cb++[0])++((if flagsN m nb cb&&&2=0 then []else numL (crcOn IEEE 0 (first3 m nb cb)%65536) 2)++behind)) (flagsN m nb cb) (crcOn IEEE 0 (first2 m nb cb)) h=(.none,behind,{h with comment:=latin cb}):=by
  unfold rd3
  by_cases hf:flagsN m nb cb&&&16=0
  · rw[if_pos hf,if_pos hf,List.nil_append]
    have e:crcOn IEEE 0 (first2 m nb cb)=crcOn IEEE 0 (first3 m nb cb):=by rw[first3,if_pos hf]
    rw[e,rd4_made,noComment hf]
    have:latin []=(⟨#[]⟩:ByteArray):=rfl
    rw[this,←hc]
  · rw[if_neg hf,if_neg hf,List.append_assoc,List.singleton_append]
    generalize hr:((if flagsN m nb cb&&&2=0 then []else numL (crcOn IEEE 0 (first3 m nb cb)%65536) 2)++behind)=r
    obtain⟨h1,h2,h3,h4⟩:=str_here (r:=r) hz hl (crcOn IEEE 0 (first2 m nb cb))
    rw[if_neg (by simpa using h1),h2,h3,h4,←hr]
    have e:crcOn IEEE (crcOn IEEE 0 (first2 m nb cb)) (cb++[0])=crcOn IEEE 0 (first3 m nb cb):=by rw[first3,if_neg hf,List.append_assoc,crcOn_append]
    rw[e,rd4_made]
theorem rd2_made{m:Md}{nb cb behind:List UInt8}{h:Hd}(hz:∀c∈cb,c≠0)(hl:cb.length<512)(hzn:∀c∈nb,c≠0)(hln:nb.length<512)(hn:h.name=⟨#[]⟩)(hc:h.comment=⟨#[]⟩):
    rd2 ((if flagsN m nb cb&&&8=0 then []else nb++[0])++((if flagsN m nb cb&&&16=0 then []else cb++[0])++((if flagsN m nb cb&&&2=0 then []else numL (crcOn IEEE 0 (first3 m nb cb)%65536) 2)++behind))) (flagsN m nb cb) (crcOn IEEE 0 (first1 m nb cb)) h=
      (.none,behind,{h with name:=latin nb,comment:=latin cb}):=by
  unfold rd2
  by_cases hf:flagsN m nb cb&&&8=0
  · rw[if_pos hf,if_pos hf,List.nil_append]
    have e:crcOn IEEE 0 (first1 m nb cb)=crcOn IEEE 0 (first2 m nb cb):=by rw[first2,if_pos hf]
    rw[e,rd3_made hz hl hc,noName hf]
    have:latin []=(⟨#[]⟩:ByteArray):=rfl
    rw[this,←hn]
  · rw[if_neg hf,if_neg hf,List.append_assoc,List.singleton_append]
    generalize hr:((if flagsN m nb cb&&&16=0 then []else cb++[0])++((if flagsN m nb cb&&&2=0 then []else numL (crcOn IEEE 0 (first3 m nb cb)%65536) 2)++behind))=r
    obtain⟨h1,h2,h3,h4⟩:=str_here (r:=r) hzn hln (crcOn IEEE 0 (first1 m nb cb))
    rw[if_neg (by simpa using h1),h2,h3,h4,←hr]
    have e:crcOn IEEE (crcOn IEEE 0 (first1 m nb cb)) (nb++[0])=crcOn IEEE 0 (first2 m nb cb):=by rw[first2,if_neg hf,List.append_assoc,crcOn_append]
    rw[e]
    exact rd3_made (h:={h with name:=latin nb}) hz hl hc
theorem rd1_made{m:Md}{nb cb behind:List UInt8}{h:Hd}(hz:∀c∈cb,c≠0)(hl:cb.length<512)(hzn:∀c∈nb,c≠0)(hln:nb.length<512)(hn:h.name=⟨#[]⟩)(hc:h.comment=⟨#[]⟩)(he:h.extra=none)(hx:m.extra.length<65536):
    ∃ex,ex.getD []=m.extra∧rd1 ((if flagsN m nb cb&&&4=0 then []else numL m.extra.length 2++m.extra)++((if flagsN m nb cb&&&8=0 then []else nb++[0])++((if flagsN m nb cb&&&16=0 then []else cb++[0])++
      ((if flagsN m nb cb&&&2=0 then []else numL (crcOn IEEE 0 (first3 m nb cb)%65536) 2)++behind)))) (flagsN m nb cb) (crcOn IEEE 0 (first0 m nb cb)) h=(.none,behind,{h with name:=latin nb,comment:=latin cb,extra:=ex}):=by
  unfold rd1
  by_cases hf:flagsN m nb cb&&&4=0
  · refine⟨none,by rw[noExtra hf];rfl,?_⟩
    rw[if_pos hf,if_pos hf,List.nil_append]
    have e:crcOn IEEE 0 (first0 m nb cb)=crcOn IEEE 0 (first1 m nb cb):=by rw[first1,if_pos hf]
    rw[e,rd2_made hz hl hzn hln hn hc,←he]
  · refine⟨some m.extra,rfl,?_⟩
    rw[if_neg hf,if_neg hf,List.append_assoc]
    generalize hr:((if flagsN m nb cb&&&8=0 then []else nb++[0])++((if flagsN m nb cb&&&16=0 then []else cb++[0])++((if flagsN m nb cb&&&2=0 then []else numL (crcOn IEEE 0 (first3 m nb cb)%65536) 2)++behind)))=r
    obtain⟨a,b,e,hv⟩:=numL_two m.extra.length hx
    rw[e]
    have h1:¬Dg ([a,b]++(m.extra++r)) 2≠.none:=by rw[Gi];simp
    have h2:le16of ([a,b]++(m.extra++r))=m.extra.length:=hv
    have h3:([a,b]++(m.extra++r)).drop 2=m.extra++r:=rfl
    have h4:¬Dg (m.extra++r) m.extra.length≠.none:=by rw[Gi];simp
    rw[if_neg h1,h2,h3,if_neg h4,List.drop_left' rfl,List.take_left' rfl]
    have h5:([a,b]++(m.extra++r)).take 2=[a,b]:=rfl
    rw[h5]
    have e2:crcOn IEEE (crcOn IEEE (crcOn IEEE 0 (first0 m nb cb)) [a,b]) m.extra=crcOn IEEE 0 (first1 m nb cb):=by rw[first1,if_neg hf,e,crcOn_append,crcOn_append];simp
    rw[e2,←hr]
    exact rd2_made (h:={h with extra:=some m.extra}) hz hl hzn hln hn hc
theorem made_read{m:Md}{nb cb behind:List UInt8}(hz:∀c∈cb,c≠0)(hl:cb.length<512)(hzn:∀c∈nb,c≠0)(hln:nb.length<512)(hx:m.extra.length<65536)(hm:0≤m.mod)(hm2:m.mod<4294967296):
    (Ac (firstL m nb cb++behind)).1=.none∧(Ac (firstL m nb cb++behind)).2.1=behind∧(Ac (firstL m nb cb++behind)).2.2.name=latin nb∧(Ac (firstL m nb cb++behind)).2.2.comment=latin cb∧
      (Ac (firstL m nb cb++behind)).2.2.extra.getD []=m.extra∧(((Ac (firstL m nb cb++behind)).2.2.mod:Nat):Int)=m.mod∧(Ac (firstL m nb cb++behind)).2.2.os=m.os.toNat:=by
  have e:firstL m nb cb++behind=first0 m nb cb++((if flagsN m nb cb&&&4=0 then []else numL m.extra.length 2++m.extra)++((if flagsN m nb cb&&&8=0 then []else nb++[0])++((if flagsN m nb cb&&&16=0 then []else cb++[0])++
      ((if flagsN m nb cb&&&2=0 then []else numL (crcOn IEEE 0 (first3 m nb cb)%65536) 2)++behind)))):=by
    generalize hq:numL (crcOn IEEE 0 (first3 m nb cb)%65536) 2=q
    unfold firstL
    rw[hq]
    unfold first3 first2 first1
    split<;>split<;>split<;>split<;>simp
  obtain⟨a,b,c,d,e4,hv⟩:=numL_four m.mod.toNat (by omega)
  have e0:first0 m nb cb=[31,139,8,UInt8.ofNat (flagsN m nb cb),a,b,c,d,m.flags,m.os]:=by rw[first0,e4];rfl
  have hfl:(UInt8.ofNat (flagsN m nb cb)).toNat=flagsN m nb cb:=by rw[UInt8.toNat_ofNat'];have:=flagsN_lt m nb cb;omega
  obtain⟨ex,hex,hrd⟩:=rd1_made (m:=m) (nb:=nb) (cb:=cb) (behind:=behind) (h:={noHd with mod:=le32 a.toNat b.toNat c.toNat d.toNat,os:=m.os.toNat}) hz hl hzn hln rfl rfl rfl hx
  rw[e]
  generalize hr:((if flagsN m nb cb&&&4=0 then []else numL m.extra.length 2++m.extra)++((if flagsN m nb cb&&&8=0 then []else nb++[0])++((if flagsN m nb cb&&&16=0 then []else cb++[0])++
      ((if flagsN m nb cb&&&2=0 then []else numL (crcOn IEEE 0 (first3 m nb cb)%65536) 2)++behind))))=r at hrd⊢
  have hR:Ac (first0 m nb cb++r)=(.none,behind,{noHd with mod:=le32 a.toNat b.toNat c.toNat d.toNat,os:=m.os.toNat,name:=latin nb,comment:=latin cb,extra:=ex}):=by
    rw[e0]at hrd⊢
    show Ac (31::139::8::UInt8.ofNat (flagsN m nb cb)::a::b::c::d::m.flags::m.os::r)=_
    rw[Ep,if_pos ⟨rfl,rfl,rfl⟩,hfl,hrd]
  rw[hR]
  refine⟨rfl,rfl,rfl,rfl,hex,?_,rfl⟩
  show((le32 a.toNat b.toNat c.toNat d.toNat:Nat):Int)=m.mod
  rw[hv];omega
theorem and_le_r(a b:Nat):a&&&b≤b:=Nat.and_le_right
theorem byteY{y:Nat}(h:y<256):bytesV [UInt8.ofNat y]=[.int .u8 ((y:Nat):Int)]:=by
  show [Value.int .u8 (((UInt8.ofNat y).toNat:Nat):Int)]=_
  rw[UInt8.toNat_ofNat',Nat.mod_eq_of_lt h]
theorem map_snoc{l acc:List UInt8}{x:UInt8}{o:Option (List UInt8)}(h:textB l=(o.map (x::·)).map (acc++ ·)):textB l=o.map ((acc++[x])++ ·):=by
  rw[h];cases o<;>simp
theorem or_256{a b:Nat}(ha:a<256)(hb:b<256):a|||b<256:=Nat.or_lt_two_pow (n:=8) ha hb
theorem text_walk{K:Known}(s:ByteArray)(l:List UInt8)(hg:∀i (h:i<l.length),s[i]? =some l[i])(hs:s.size=l.length)(hl:l.length≤140737488355327):Fn Tryz.prog K 37 #[.string s] ([]) (fun r L=>∃v Lf F,r=.tuple #[v,.bool (textB l).isSome]∧Sl 1 v ((textB l).getD []).length (bytesV ((textB l).getD [])) Lf∧L=Lf++F):=by
 refine Fn.intro (args:=[.string s]) (RR:=Ret2 2 3 _) Tryz.func37 rfl rfl Tryz.ntmps37 (res2 Tryz.results37) ?_
 refine Bi (env2:=[(0,.string s)]) U<|Cr<|Ea U U<|Ea U U<|Ek3 0 2 3 U<|Cr<|Ea U U<|Ek4 0 2 3 4 U<|Am<|Cr<|Ea U U<|Ek5 0 2 3 4 5 U ?_
 refine As<|Bw (fun mm ee ll=>∃(i:Nat),∃(acc:List UInt8),∃(v:Value),∃(Lf:Frags),keeps ee [0,4,5]=some [(0,.string s),(4,v),(5,.int .i64 ((i:Nat):Int))]∧ll=Lf∧(i≤l.length)∧(textB l=(textB (l.drop i)).map (acc++ ·))∧(Sl 1 v acc.length (bytesV acc) Lf)∧(acc.length≤i)∧mm=l.length-i) (_) ⟨0,[],_,[],rfl,rfl,by omega,by simp,Sl.nil 1,by simp,rfl⟩ ?_
 rintro m0 _ Lf⟨i,acc,v,_,hk0,rfl,hi,ha,hsl,hal,hm0⟩
 refine Av _ hk0<|Am<|Cr<|Em U U<|Em U U<|Aa (S.lenStr U Tu9) U<|An (v:=.int .i64 ((l.length:Nat):Int)) (by rw[hs])<|Aa (Dl U U) U<|Ek4 0 4 5 10 U<|Bf U (fun h10=>?_) (fun h10=>?_)
 ·have hi3:i<l.length:=by omega
  have hc8:=l[i].toNat_lt
  have hget:=hg i hi3
  refine Ap<|Am<|As<|Cr<|Em U U<|Em U U<|Aa (S.ixStr U U hget Tu9) U<|Ea U U<|Ek5 0 4 5 6 10 U<|Du (M:=fun ee ll=>∃(i2:Nat),∃(y:Nat),∃(Lf:Frags),keeps ee [0,4,5,6]=some [(0,.string s),(4,v),(5,.int .i64 ((i2:Nat):Int)),(6,.int .u8 ((y:Nat):Int))]∧ll=Lf∧(y<256)∧(i≤i2)∧(i2<l.length)∧(textB (l.drop i)=if y=0 then none else(textB (l.drop (i2+1))).map (UInt8.ofNat y::·))∧(Sl 1 v acc.length (bytesV acc) Lf)) ?_ ?_
  ·refine Cr<|Em U U<|Aa (S.ge (b:=((128:Nat):Int)) U U) U<|Ek6 0 4 5 6 10 17 U<|Bf U (fun h17=>?_) (fun h17=>?_)
   ·have ha254:=and_le_r l[i].toNat 254
    refine Am<|Cr<|Em U U<|Aa (Fa (b:=((254:Nat):Int)) U U (N.and_u8 (by omega) (by omega))) U<|Aa (S.ne (b:=((194:Nat):Int)) U U) U<|Em U U<|Ek (fun g21=>?_) (fun g21=>?_)
    ·have hn:textB l=none:=by rw[ha,textB_bad hi3 (by omega) (.inl (by omega))];rfl
     refine Ae 21 true U U U U<|Ae 21 true U U U U<|Ae 21 true U U U U<|Ae 21 true U U U U<|Ae 21 true U U U U<|Aa (Bz U U) U<|Em U U<|Ae 28 true U U U U<|Ae 28 true U U U U<|Ae 28 true U U U U<|Ae 28 true U U U U<|Ae 28 true U U U U ?_
     refine Ae 28 true U U U U<|Aa (Bz U U) U<|Ek7 0 4 5 6 10 17 35 U<|He U (rfl)<|Cr<|Ea U U<|Ea U U<|Ek9 0 2 3 4 5 6 10 17 35 U<|Bb ?_
     refine⟨_,_,rfl,rfl,_,[],Lf,by rw[hn];rfl,by rw[hn];exact Sl.nil 1,rfl⟩
    refine Ak 21 U U<|Em U U<|Ak 21 U U<|Aa (Bl (b:=((1:Nat):Int)) U U (N.add64 (by omega))) U<|Ak 21 U U<|Em U U<|Ak 21 U U<|Aa (S.lenStr U Tu9) U<|An (v:=.int .i64 ((l.length:Nat):Int)) (by rw[hs])<|Ak 21 U U<|Aa (Ef U U) U<|Aa (Bk U U) U ?_
    refine Em U U<|Ek (fun g28=>?_) (fun g28=>?_)
    ·have hn:textB l=none:=by rw[ha,textB_bad hi3 (by omega) (.inr (.inl (by omega)))];rfl
     refine Ae 28 true U U U U<|Ae 28 true U U U U<|Ae 28 true U U U U<|Ae 28 true U U U U<|Ae 28 true U U U U<|Ae 28 true U U U U<|Aa (Bz U U) U<|Ek7 0 4 5 6 10 17 35 U<|He U (rfl)<|Cr<|Ea U U<|Ea U U ?_
     refine Ek9 0 2 3 4 5 6 10 17 35 U<|Bb ?_
     refine⟨_,_,rfl,rfl,_,[],Lf,by rw[hn];rfl,by rw[hn];exact Sl.nil 1,rfl⟩
    have hi4:i+1<l.length:=by omega
    have hd8:=l[i+1].toNat_lt
    have hget2:=hg (i+1) hi4
    have hd192:=and_le_r l[i+1].toNat 192
    have hd63:=and_le_r l[i+1].toNat 63
    refine Ak 28 U U<|Em U U<|Ak 28 U U<|Em U U<|Ak 28 U U<|Aa (Bl (b:=((1:Nat):Int)) U U (N.add64 (by omega))) U<|Ak 28 U U<|Aa (S.ixStr U U hget2 Tu9) U<|Ak 28 U U<|Aa (Fa (b:=((192:Nat):Int)) U U (N.and_u8 (by omega) (by omega))) U<|Ak 28 U U<|Aa (S.ne (b:=((128:Nat):Int)) U U) U ?_
    refine Aa (Bk U U) U<|Ek7 0 4 5 6 10 17 35 U<|Bf U (fun h35=>?_) (fun h35=>?_)
    ·have hn:textB l=none:=by rw[ha,textB_bad hi3 (by omega) (.inr (.inr ⟨hi4,by omega⟩))];rfl
     refine Cr<|Ea U U<|Ea U U<|Ek9 0 2 3 4 5 6 10 17 35 U<|Bb ?_
     refine⟨_,_,rfl,rfl,_,[],Lf,by rw[hn];rfl,by rw[hn];exact Sl.nil 1,rfl⟩
    refine Ap<|Cr<|Em U U<|Aa (Bl (b:=((1:Nat):Int)) U U (N.add64 (by omega))) U<|Ea U U<|Ek7 0 4 5 6 10 17 35 U<|Al<|Em U U<|Aa (Fy (b:=((6:Nat):Int)) U U (by omega) (N.shl_u8 _ _)) U<|Em U U<|Em U U<|Aa (S.ixStr U U hget2 Tu9) U ?_
    refine Aa (Fa (b:=((63:Nat):Int)) U U (N.and_u8 (by omega) (by omega))) U<|Aa (S.or U U (N.or_u8 (by omega) (by omega))) U<|Ea U U<|Ek7 0 4 5 6 10 17 35 U ?_
    exact⟨i+1,((l[i].toNat<<<6)%256|||(l[i+1].toNat&&&63)),Lf,rfl,rfl,or_256 (by omega) (by omega),by omega,by omega,textB_big hi4 (by omega) (by omega) (by omega),hsl⟩
   refine Ap ?_
   exact⟨i,l[i].toNat,Lf,rfl,rfl,by omega,by omega,by omega,by rw[textB_small hi3 (by omega)];simp,hsl⟩
  rintro _ Lf⟨i2,y,_,hq11,rfl,hy,hii,hi2,hst,hsl⟩
  refine Av _ hq11<|Am<|Cr<|Em U U<|Aa (Ef (b:=((0:Nat):Int)) U U) U<|Ek5 0 4 5 6 46 U<|Bf U (fun h46=>?_) (fun h46=>?_)
  ·have hn:textB l=none:=by rw[ha,hst,if_pos (by omega)];rfl
   refine Cr<|Ea U U<|Ea U U<|Ek7 0 2 3 4 5 6 46 U<|Bb ?_
   refine⟨_,_,rfl,rfl,_,[],Lf,by rw[hn];rfl,by rw[hn];exact Sl.nil 1,rfl⟩
  refine Ap<|Al<|Em U U<|Em U U ?_
  refine Ai (Bn (vs:=[.int .u8 ((y:Nat):Int)]) (e:=5) [(0,.int .u8 ((y:Nat):Int))] U (fun w=>by simp[Instr.buildSlice,Instr.fill,Value.cells,newRow,Tryz.runUnderlying25,Tryz.typeInfo5];rw[arr1])) U ?_
  rintro _ _⟨yb,rfl,rfl⟩
  refine Ev (Same.perm (List.perm_append_singleton _ Lf).symm) ?_
  refine Ai (Jm (L:=[⟨yb,0,_⟩]) (xs:=acc) (ys:=[UInt8.ofNat y]) (Lf:=Lf) U U hsl U (.inr ⟨yb,0,rfl,Reads.mem (k:=0) (List.mem_append_right _ (.head _)) (by rw[byteY hy];rfl)⟩) (by simp only[List.length_cons,List.length_nil];omega)) U ?_
  rintro v2 _⟨Lf2,hsl2,rfl⟩
  refine Gk (Same.refl _)<|Ea U U<|Ek5 0 4 5 6 46 U<|Al<|Em U U<|Aa (Bl (b:=((1:Nat):Int)) U U (N.add64 (by omega))) U<|Ea U U<|Ek5 0 4 5 6 46 U ?_
  refine⟨_,?_,i2+1,_,v2,Lf2,rfl,rfl,by omega,map_snoc (by rw[ha,hst,if_neg (by omega)]),hsl2,by simp only[List.length_append,List.length_cons,List.length_nil];omega,rfl⟩;omega
 have hi3:i=l.length:=by omega
 have hend:textB l=some acc:=by rw[ha,hi3,List.drop_length];simp[textB]
 refine Bu U<|Cr<|Em U U<|Ea U U<|Ea U U<|Ek6 0 2 3 4 5 10 U<|Bb ?_
 exact⟨_,_,rfl,rfl,_,Lf,[],by rw[hend];rfl,by rw[hend];exact hsl,(List.append_nil _).symm⟩
theorem str_get(s:ByteArray)(i:Nat)(h:i<s.data.toList.length):s[i]? =some s.data.toList[i]:=by
  have h2:i<s.size:=by simpa using h
  rw[getElem?_pos s i h2]
  simp
  rfl
theorem text_spec{K:Known}(s:ByteArray)(hl:s.size≤140737488355327):Fn Tryz.prog K 37 #[.string s] [] (fun r L=>∃v,r=.tuple #[v,.bool (textB s.data.toList).isSome]∧Sl 1 v ((textB s.data.toList).getD []).length (bytesV ((textB s.data.toList).getD [])) L):=by
  have hsz:s.size=s.data.toList.length:=by simp
  refine Fn.lose (text_walk s s.data.toList (str_get s) hsz (by omega)) ?_
  rintro r L⟨v,Lf,F,rfl,h,rfl⟩
  exact⟨Lf,F,Same.refl _,v,rfl,h⟩
def Bs(v:Value)(xs:List UInt8)(g:Frag):Prop:=(xs=[]∧v=.slice none 0 0∧g.cs=[])∨Sl 1 v xs.length (bytesV xs) [g]
theorem Sl.bs{v:Value}{xs:List UInt8}{Lf:Frags}(h:Sl 1 v xs.length (bytesV xs) Lf)(x:Frag)(F:Frags):∃g,Bs v xs g∧Same (Lf++x::F) (g::x::F):=by
  rcases h.2 with⟨h1,h2,rfl⟩|⟨b,o,c,cs,h1,rfl,h3,h4,h5,h6⟩
  · exact⟨⟨x.b,0,[]⟩,.inl ⟨List.eq_nil_of_length_eq_zero h2,h1,rfl⟩,Same.addEmpty (List.mem_cons_self ..) 0⟩
  · exact⟨_,.inr ⟨h.1,.inr ⟨b,o,c,cs,h1,rfl,h3,h4,h5,h6⟩⟩,Same.refl _⟩
theorem text_bs{K:Known}(s:ByteArray)(hl:s.size≤140737488355327)(x:Frag)(F:Frags):Fn Tryz.prog K 37 #[.string s] (x::F) (fun r L=>∃v g,Bs v ((textB s.data.toList).getD []) g∧r=.tuple #[v,.bool (textB s.data.toList).isSome]∧L=g::x::F):=by
  refine Fn.sameR (Fn.frame (F:=x::F) (text_spec s hl)) ?_
  rintro r _⟨L1,⟨v,rfl,h⟩,rfl⟩
  obtain⟨g,h1,h2⟩:=h.bs x F
  exact⟨_,h2,v,g,h1,rfl,rfl⟩
theorem text_any{K:Known}(s:ByteArray)(hl:s.size≤140737488355327):Fn Tryz.prog K 37 #[.string s] [] (fun r L=>∃a c,r=.tuple #[.slice a ((textB s.data.toList).getD []).length c,.bool (textB s.data.toList).isSome]∧L=[]):=by
  refine Fn.lose (text_spec s hl) ?_
  rintro r L⟨v,rfl,h⟩
  refine⟨[],L,Same.refl _,?_⟩
  rcases h.2 with⟨h1,h2,_⟩|⟨b,o,c,cs,h1,_⟩
  · exact⟨none,0,by rw[h1,h2],rfl⟩
  · exact⟨_,c,by rw[h1],rfl⟩
theorem numL_snoc(x j:Nat):numL x (j+1)=numL x j++[UInt8.ofNat (x/2^(8*j))]:=by
  unfold numL;rw[List.range_succ,List.map_append];rfl
theorem Bd(x n:Nat):(numL x n).length=n:=by simp[numL]
theorem num_set{x n j:Nat}(h:j<n):(bytesV (numL x j)++List.replicate (n-j) (Value.int .u8 0)).set j (.int .u8 (((x>>>(8*j))%256:Nat):Int))=bytesV (numL x (j+1))++List.replicate (n-(j+1)) (Value.int .u8 0):=by
  have hl:(bytesV (numL x j)).length=j:=by rw[Bh,Bd]
  rw[List.set_append_right _ _ (by omega),hl,Nat.sub_self,show n-j=(n-(j+1))+1 by omega,List.replicate_succ,List.set_cons_zero,numL_snoc,Ei,List.append_assoc]
  have:bytesV [UInt8.ofNat (x/2^(8*j))]=[.int .u8 (((x>>>(8*j))%256:Nat):Int)]:=by
    show [Value.int .u8 (((UInt8.ofNat (x/2^(8*j))).toNat:Nat):Int)]=_
    rw[UInt8.toNat_ofNat',Nat.shiftRight_eq_div_pow]
  rw[this];rfl
theorem number_spec{K:Known}(x n:Nat)(hx:x<9223372036854775808)(hn:n≤8):Fn Tryz.prog K 27 #[.int .i64 ((x:Nat):Int),.int .i64 ((n:Nat):Int)] ([]) (fun r L=>∃g,Sl 1 r (numL x n).length (bytesV (numL x n)) [g]∧L=[g]):=by
 refine Fn.intro (args:=[.int .i64 ((x:Nat):Int),.int .i64 ((n:Nat):Int)]) (RR:=Ret1 4 _) Tryz.func27 rfl rfl Tryz.ntmps27 (res1 Tryz.results27) ?_
 refine Bi (env2:=[(0,.int .i64 ((x:Nat):Int)),(1,.int .i64 ((n:Nat):Int))]) U<|Cr<|Ea U U<|Ek3 0 1 4 U<|Cr<|Em U U ?_
 refine Ai (Hx (l:=n) (c:=n) (bytes:=1) Tu25 infoB (z:=.int .u8 0) U U U U U U (Nat.le_refl _) (by omega) (by omega)) U ?_;rintro _ _⟨b,rfl,rfl⟩;refine Er1 U ?_
 refine Ea U U<|Ek3 0 4 5 U<|Am<|Cr<|Em U U<|Aa (Bc U Tu25) U<|Em U U<|Ek5 0 4 5 10 11 U<|As<|Bw (fun mm ee ll=>∃(j:Nat),keeps ee [0,5,10,11]=some [(0,.int .i64 ((x:Nat):Int)),(5,.slice (some ⟨b,0,none⟩) (n) (n)),(10,.int .i64 ((n:Nat):Int)),(11,.int .i64 ((j:Nat):Int))]∧ll=[⟨b,0,bytesV (numL x j)++List.replicate (n-j) (.int .u8 0)⟩]∧(j≤n)∧mm=n-j) (_) ⟨0,rfl,rfl,by omega,rfl⟩ ?_
 rintro m0 _ _⟨j,hk0,rfl,hj,hm0⟩
 refine Av _ hk0<|Cr<|Aa (Dl U U) U<|Ek5 0 5 10 11 12 U<|Am<|Bf U (fun h12=>?_) (fun h12=>?_)
 ·have hj2:j<n:=by omega
  refine Ap<|Am<|As<|Cr<|Em U U<|Ea U U<|Ek6 0 5 6 10 11 12 U<|Al<|Em U U<|Em U U<|Em U U<|Em U U ?_
  refine Aa (S.mul (a:=((8:Nat):Int)) U U (N.mul64 (by omega))) U<|Aa (Fl U U (by omega) (N.shr64 (by omega) _)) U<|Aa (Bv U Tu2 Tu5 (N.mod_u8 _)) U<|Aa (Bm U U (by omega) Tu25 Tz5) U ?_
  refine Ao (Aq 0 (k:=j*1) U U U U (by rw[Nat.blt_eq,List.length_append,Bh,Bd,List.length_replicate];omega) Tz5) ?_
  rintro _ _⟨rfl,rfl⟩
  refine Ax (L2:=[⟨b,0,bytesV (numL x (j+1))++List.replicate (n-(j+1)) (.int .u8 0)⟩]) (by rw[Nat.mul_one];exact congrArg (fun q=>[(⟨b,0,q⟩:Frag)]) (num_set hj2)) ?_
  refine Ek6 0 5 6 10 11 12 U<|Al<|Aa (Bl (b:=((1:Nat):Int)) U U (N.add64 (by omega))) U<|Em U U<|Ek6 0 5 6 10 11 12 U ?_
  refine⟨_,?_,j+1,rfl,rfl,by omega,rfl⟩;omega
 have hj2:j=n:=by omega
 subst hj2
 rw[Nat.sub_self]
 refine Bu U<|Cr<|Em U U<|Ea U U<|Ek6 0 4 5 10 11 12 U<|Bb ?_
 exact⟨_,rfl,_,⟨by rw[Bh,Nat.mul_one],.inr ⟨b,0,j,_,by rw[Bd],rfl,by rw[List.length_append,Bh,Bd,List.length_replicate];omega,by rw[Bd];exact Nat.le_refl _,by omega,by rw[Bd,Nat.mul_one];exact List.take_left' (by rw[Bh,Bd])⟩⟩,rfl⟩
theorem zz2_spec{K:Known}(n1 n2:ByteArray)(ea:Option Addr)(en ec:Nat)(mo os:Int):Fn Tryz.prog K 35 #[.agg #[.string n1,.string n2,.slice ea en ec,.int .i64 mo,.int .u8 os]] ([]) (fun r L=>∃q,r=.bool q∧(q=true→n1.size≤2147483647∧n2.size≤2147483647∧en≤2147483647)):=by
 refine Fn.intro (args:=[.agg #[.string n1,.string n2,.slice ea en ec,.int .i64 mo,.int .u8 os]]) (RR:=Ret1 2 _) Tryz.func35 rfl rfl Tryz.ntmps35 (res1 Tryz.results35) ?_
 refine Bi (env2:=[(0,.agg #[.string n1,.string n2,.slice ea en ec,.int .i64 mo,.int .u8 os])]) U<|Cr ?_
 refine Ai (X.box U) U ?_;rintro _ _⟨b1,rfl,rfl⟩;refine Er1 U ?_
 refine Ea U U<|Ek2 1 2 U<|Am<|Cr<|Aa (Ab U fa32_0) U<|Ag (Aj 0 (k:=0) U U U Ta9) U<|Aa (S.lenStr U Tu9) U<|Aa (Fh (b:=((2147483647:Nat):Int)) U U) U<|Ek3 1 2 6 U<|Bf U (fun h6=>?_) (fun h6=>?_)
 ·refine Cr<|Ea U U<|Ek3 1 2 6 U<|Bb ?_
  exact⟨_,rfl,_,rfl,fun h=>by first|(refine⟨?_,?_,?_⟩<;>omega)|cases h⟩
 refine Ap<|Am<|Cr<|Aa (Ab U fa32_1) U<|Ag (Aj 0 (k:=1) U U U Ta9) U<|Aa (S.lenStr U Tu9) U<|Aa (Fh (b:=((2147483647:Nat):Int)) U U) U<|Ek4 1 2 6 10 U<|Bf U (fun h10=>?_) (fun h10=>?_)
 ·refine Cr<|Ea U U<|Ek4 1 2 6 10 U<|Bb ?_
  exact⟨_,rfl,_,rfl,fun h=>by first|(refine⟨?_,?_,?_⟩<;>omega)|cases h⟩
 refine Ap<|Am<|Cr<|Aa (Ab U fa32_2) U<|Ag (Aj 0 (k:=2) U U U Ta25) U<|Aa (Bc U Tu25) U<|Aa (Fh (b:=((2147483647:Nat):Int)) U U) U<|Ek5 1 2 6 10 14 U<|Bf U (fun h14=>?_) (fun h14=>?_)
 ·refine Cr<|Ea U U<|Ek5 1 2 6 10 14 U<|Bb ?_
  exact⟨_,rfl,_,rfl,fun h=>by first|(refine⟨?_,?_,?_⟩<;>omega)|cases h⟩
 refine Ap<|Cr<|Ea U U<|Ek5 1 2 6 10 14 U<|Bb ?_
 exact⟨_,rfl,_,rfl,fun h=>by first|(refine⟨?_,?_,?_⟩<;>omega)|cases h⟩
theorem zz4_spec{K:Known}(wh:Int)(a1 a2 a3:Option Addr)(m1 k1 m2 k2 m3 k3:Nat):Fn Tryz.prog K 52 #[.agg #[.int .i64 wh,.slice a1 m1 k1,.slice a2 m2 k2,.slice a3 m3 k3]] ([]) (fun r L=>∃q,r=.bool q):=by
 refine Fn.intro (args:=[.agg #[.int .i64 wh,.slice a1 m1 k1,.slice a2 m2 k2,.slice a3 m3 k3]]) (RR:=Ret1 2 _) Tryz.func52 rfl rfl Tryz.ntmps52 (res1 Tryz.results52) ?_
 refine Bi (env2:=[(0,.agg #[.int .i64 wh,.slice a1 m1 k1,.slice a2 m2 k2,.slice a3 m3 k3])]) U<|Cr ?_
 refine Ai (X.box U) U ?_;rintro _ _⟨b1,rfl,rfl⟩;refine Er1 U ?_
 refine Ea U U<|Ek2 1 2 U<|Am<|Cr<|Aa (Ab U fa73_1) U<|Ag (Aj 0 (k:=1) U U U Ta25) U<|Aa (Bc U Tu25) U<|Aa (Fh (b:=((2147483647:Nat):Int)) U U) U<|Ek3 1 2 6 U<|Bf U (fun h6=>?_) (fun h6=>?_)
 ·refine Cr<|Ea U U<|Ek3 1 2 6 U<|Bb ?_
  exact⟨_,rfl,_,rfl⟩
 refine Ap<|Am<|Cr<|Aa (Ab U fa73_2) U<|Ag (Aj 0 (k:=2) U U U Tryz.isAgg71) U<|Aa (Bc U Tu71) U<|Aa (Fh (b:=((2147483647:Nat):Int)) U U) U<|Ek4 1 2 6 10 U<|Bf U (fun h10=>?_) (fun h10=>?_)
 ·refine Cr<|Ea U U<|Ek4 1 2 6 10 U<|Bb ?_
  exact⟨_,rfl,_,rfl⟩
 refine Ap<|Am<|Cr<|Aa (Ab U fa73_3) U<|Ag (Aj 0 (k:=3) U U U Ta23) U<|Aa (Bc U Tu23) U<|Aa (Fh (b:=((2147483647:Nat):Int)) U U) U<|Ek5 1 2 6 10 14 U<|Bf U (fun h14=>?_) (fun h14=>?_)
 ·refine Cr<|Ea U U<|Ek5 1 2 6 10 14 U<|Bb ?_
  exact⟨_,rfl,_,rfl⟩
 refine Ap<|Cr<|Ea U U<|Ek5 1 2 6 10 14 U<|Bb ?_
 exact⟨_,rfl,_,rfl⟩
theorem zz4_none{K:Known}(wh:Int)(a1 a2 a3:Option Addr)(m1 k1 m2 k2 m3 k3:Nat):Fn Tryz.prog K 52 #[.agg #[.int .i64 wh,.slice a1 m1 k1,.slice a2 m2 k2,.slice a3 m3 k3]] [] (fun r L=>∃q,r=.bool q∧L=[]):=by
  refine Fn.lose (zz4_spec wh a1 a2 a3 m1 k1 m2 k2 m3 k3) ?_
  rintro r L⟨q,rfl⟩
  exact⟨[],L,Same.refl _,q,rfl,rfl⟩
theorem zz2_none{K:Known}(n1 n2:ByteArray)(ea:Option Addr)(en ec:Nat)(mo os:Int):Fn Tryz.prog K 35 #[.agg #[.string n1,.string n2,.slice ea en ec,.int .i64 mo,.int .u8 os]] [] (fun r L=>∃q,r=.bool q∧(q=true→n1.size≤2147483647∧n2.size≤2147483647∧en≤2147483647)∧L=[]):=by
  refine Fn.lose (zz2_spec n1 n2 ea en ec mo os) ?_
  rintro r L⟨q,rfl,h⟩
  exact⟨[],L,Same.refl _,q,rfl,h,rfl⟩
theorem zz3_some{K:Known}(pb po n c:Nat)(hB:∀i,i<n→∃wh a1 m1 k1 a2 m2 k2 a3 m3 k3,∀j u,([.int .i64 wh,.slice a1 m1 k1,.slice a2 m2 k2,.slice a3 m3 k3]:List Value)[j]? =some u→cellAt K pb (po+i*4+j)=some u):Fn Tryz.prog K 36 #[.slice (some ⟨pb,po,none⟩) (n) (c)] ([]) (fun r L=>∃q,r=.bool q∧L=[]):=by
 refine Fn.intro (args:=[.slice (some ⟨pb,po,none⟩) (n) (c)]) (RR:=Ret1 2 _) Tryz.func36 rfl rfl Tryz.ntmps36 (res1 Tryz.results36) ?_
 refine Bi (env2:=[(0,.slice (some ⟨pb,po,none⟩) (n) (c))]) U<|Cr<|Ea U U<|Ek2 0 2 U<|Am<|Cr<|Em U U<|Aa (Bc U Tu33) U<|Aa (Fh (b:=((2147483647:Nat):Int)) U U) U<|Ek3 0 2 7 U<|Bf U (fun h7=>?_) (fun h7=>?_)
 ·refine Cr<|Ea U U<|Ek3 0 2 7 U<|Bb ?_
  exact⟨_,rfl,_,rfl,rfl⟩
 refine Ap<|Am<|Cr<|Em U U<|Aa (Bc U Tu33) U<|Em U U<|Ek6 0 2 7 8 9 10 U<|As<|Bw (fun mm ee ll=>∃(i:Nat),keeps ee [8,9,10]=some [(8,.slice (some ⟨pb,po,none⟩) (n) (c)),(9,.int .i64 ((n:Nat):Int)),(10,.int .i64 ((i:Nat):Int))]∧ll=[]∧(i≤n)∧mm=n-i) (_) ⟨0,rfl,rfl,by omega,rfl⟩ ?_
 rintro m0 _ _⟨i,hk0,rfl,hi,hm0⟩
 refine Av _ hk0<|Cr<|Aa (Dl U U) U<|Ek4 8 9 10 11 U<|Am<|Bf U (fun h11=>?_) (fun h11=>?_)
 ·have hi2:i<n:=by omega
  obtain⟨wh,a1,m1,k1,a2,m2,k2,a3,m3,k3,hcell⟩:=hB i hi2
  refine Ap<|Am<|As<|Cr<|Aa (Bm U U hi2 Tu33 Tz73) U<|Ag (Gg (vs:=[.int .i64 wh,.slice a1 m1 k1,.slice a2 m2 k2,.slice a3 m3 k3]) U hcell U Tryz.isAgg73 Tz73) U ?_
  refine Ai (Dq Tryz.zeroValue73) U ?_;rintro _ _⟨b4,rfl,rfl⟩;refine Er1 U ?_
  refine Ao (Bq 0 (k:=0) U U U U U U Tz73 U) ?_;rintro _ _⟨rfl,rfl⟩;refine Er1 U ?_
  refine Ek5 4 8 9 10 11 U<|Cr<|Ag (De 0 (k:=0) U U U U Tryz.isAgg73 Tz73) U<|Ds [] (A:=[]) U ?_
  refine Ai (OpX.pick [] (F:=[]) U (Ar U Tryz.call52 (zz4_none wh a1 a2 a3 m1 k1 m2 k2 m3 k3))) U ?_;rintro _ _⟨_,⟨q4,rfl,rfl⟩,rfl⟩;refine Ax (L2:=[]) U ?_
  refine Aa (Gc U) U<|Ek6 4 8 9 10 11 16 U<|Eg U (fun h16=>?_) (fun h16=>?_)
  ·refine Cr<|Ea U U<|Ek7 2 4 8 9 10 11 16 U<|Bb ?_
   exact⟨_,rfl,_,rfl,rfl⟩
  refine Ap<|Al<|Aa (Bl (b:=((1:Nat):Int)) U U (N.add64 (by omega))) U<|Em U U<|Ek6 4 8 9 10 11 16 U ?_
  refine⟨_,?_,i+1,rfl,rfl,by omega,rfl⟩;omega
 refine Bu U<|Cr<|Ea U U<|Ek5 2 8 9 10 11 U<|Bb ?_
 exact⟨_,rfl,_,rfl,rfl⟩
theorem zz3_nil{K:Known}(a:Option Addr)(c:Nat):Fn Tryz.prog K 36 #[.slice a 0 c] ([]) (fun r L=>∃q,r=.bool q∧L=[]):=by
 refine Fn.intro (args:=[.slice a 0 c]) (RR:=Ret1 2 _) Tryz.func36 rfl rfl Tryz.ntmps36 (res1 Tryz.results36) ?_
 refine Bi (env2:=[(0,.slice a 0 c)]) U<|Cr<|Ea U U<|Ek2 0 2 U<|Am<|Cr<|Em U U<|Aa (Bc U Tu33) U<|Aa (Fh (b:=((2147483647:Nat):Int)) U U) U<|Ek3 0 2 7 U<|Bf U (fun h7=>?_) (fun h7=>?_)
 ·refine Cr<|Ea U U<|Ek3 0 2 7 U<|Bb ?_
  exact⟨_,rfl,_,rfl,rfl⟩
 refine Ap<|Am<|Cr<|Em U U<|Aa (Bc U Tu33) U<|Em U U<|Ek6 0 2 7 8 9 10 U<|As<|Bw (fun mm ee ll=>∃(i:Nat),keeps ee [8,9,10]=some [(8,.slice a 0 c),(9,.int .i64 ((0:Nat):Int)),(10,.int .i64 ((i:Nat):Int))]∧ll=[]∧mm=0) (_) ⟨0,rfl,rfl,rfl⟩ ?_
 rintro m0 _ _⟨i,hk0,rfl,hm0⟩
 refine Av _ hk0<|Cr<|Aa (Dl U U) U<|Ek4 8 9 10 11 U<|Am<|Bf U (fun h11=>?_) (fun h11=>?_)
 ·exact absurd h11 (by omega)
 refine Bu U<|Cr<|Ea U U<|Ek5 2 8 9 10 11 U<|Bb ?_
 exact⟨_,rfl,_,rfl,rfl⟩
theorem zz3_spec{K:Known}{vb:Value}(h:BlocksA K vb):Fn Tryz.prog K 36 #[vb] [] (fun r L=>∃q,r=.bool q∧L=[]):=by
  obtain⟨a,n,c,rfl,h⟩:=h
  by_cases h0:n=0
  · subst h0;exact zz3_nil a c
  · obtain⟨b,o,rfl,_⟩:=h 0 (by omega)
    refine zz3_some b o n c fun i hi=>?_
    obtain⟨b',o',e,h1⟩:=h i hi
    simp only[Option.some.injEq,Addr.mk.injEq,and_true]at e
    obtain⟨rfl,rfl⟩:=e
    exact h1
section
variable {P:Program}{K:Known}{n:Nat}{env:Env}{L:Frags}
theorem D.forget{ops:Array Oper}{ds:List Nat}{p:Plan}{A F:Frags}{N:Post}(is:List Nat)(hp:picks is L=some (A,F))(h:wpD P K n ops ds p env A N):wpD P K n ops ds p env L N:=by
  intro fuel listed l h0 h00 h1 h2 a w hf hw Nw k
  have hq:=Br hp
  have hA:Agree K (A++F) w.heap:=hw.perm hq
  exact h fuel listed l h0 h00 h1 h2 a w hf hA.drop Nw fun e l a' w' h f t=>k e l a' w' h f ((To.frame hA t).drop.permL hq)
end
section
variable {K:Known}{n:Nat}{env:Env}{L:Frags}{ty:TypeId}
theorem Dh{x y:Operand}{v:Value}{k yc:Nat}{ya:Option Addr}{xs ys:List UInt8}{g:Frag}{F:Frags}
    (hx:ev? env x=some v)(hy:ev? env y=some (.slice ya k yc))(hS:Sl 1 v xs.length (bytesV xs) [g])(hk:k=ys.length)
    (hread:ys=[]∨∃yb yo,ya=some ⟨yb,yo,none⟩∧Reads K (g::F) yb yo (bytesV ys))(h0:0<xs.length)(hb:xs.length+ys.length≤140737488355328):
    OpX Tryz.prog K n (.call {callee:=.builtin .append,args:=#[x,y],argTypes:=#[25,25]}) ty env (g::F) fun v' L'=>
      ∃g',Sl 1 v' (xs++ys).length (bytesV (xs++ys)) [g']∧L'=g'::F:=by
  refine OpX.mono (Jm (Lf:=[g]) (L:=F) hx hy hS hk hread hb) ?_
  rintro v' L'⟨Lf',h1,rfl⟩
  obtain⟨b,o,c,cs,rfl,rfl,h2,h3,h4,h5⟩:=h1.one (by rw[List.length_append];omega)
  exact⟨_,h1,rfl⟩
end
def RdB(a:Option Addr)(xs:List UInt8)(g:Frag):Prop:=∀(K:Known) (L:Frags),g∈L→(xs=[]∨∃b o,a=some ⟨b,o,none⟩∧Reads K L b o (bytesV xs))
theorem Bs.rd{v:Value}{xs:List UInt8}{g:Frag}(h:Bs v xs g):∃a c,v=.slice a xs.length c∧RdB a xs g:=by
  rcases h with⟨h1,h2,_⟩|h
  · subst h1;exact⟨none,0,h2,fun _ _ _=>.inl U⟩
  · rcases h.2 with⟨h1,h2,_⟩|⟨b,o,c,cs,h1,h2,h3,h4,h5,h6⟩
    · have hx:=List.eq_nil_of_length_eq_zero h2
      exact⟨none,0,by rw[h1,h2],fun _ _ _=>.inl hx⟩
    · simp only[List.cons.injEq,and_true]at h2
      subst h2
      rw[Nat.mul_one]at h6
      exact⟨_,c,h1,fun K L hL=>.inr ⟨b,o,rfl,Reads.mem (k:=0) hL (by rw[List.drop_zero,Bh];exact h6)⟩⟩
theorem Sl.rd{v:Value}{xs:List UInt8}{g:Frag}(h:Sl 1 v xs.length (bytesV xs) [g]):∃a c,v=.slice a xs.length c∧RdB a xs g:=Bs.rd (.inr h)
theorem text_made{K:Known}(s:ByteArray)(xs:List UInt8)(hx:textB s.data.toList=some xs)(hl:s.size≤140737488355327)(x:Frag)(F:Frags):
    Fn Tryz.prog K 37 #[.string s] (x::F) (fun r L=>∃a c g,RdB a xs g∧r=.tuple #[.slice a xs.length c,.bool true]∧L=g::x::F):=by
  refine Fn.mono (text_bs s hl x F) ?_
  rintro r L⟨v,g,h,rfl,rfl⟩
  rw[hx]at h⊢
  obtain⟨a,c,rfl,h2⟩:=Bs.rd (xs:=xs) h
  exact⟨a,c,g,h2,rfl,rfl⟩
theorem Fr{K:Known}(x n:Nat)(hx:x<9223372036854775808)(hn:n≤8):Fn Tryz.prog K 27 #[.int .i64 ((x:Nat):Int),.int .i64 ((n:Nat):Int)] [] (fun r L=>∃a c g,RdB a (numL x n) g∧r=.slice a (numL x n).length c∧L=[g]):=by
  refine Fn.mono (number_spec x n hx hn) ?_
  rintro r L⟨g,h,rfl⟩
  obtain⟨a,c,rfl,h2⟩:=h.rd
  exact⟨a,c,g,h2,rfl,rfl⟩
theorem check_own{K:Known}{v:Value}{xs:List UInt8}{g:Frag}(h:Sl 1 v xs.length (bytesV xs) [g])(h0:0<xs.length)(hlen:xs.length≤140737488355328)(F:Frags):Fn Tryz.prog K 28 #[v] (g::F) (fun r L=>r=.int .u32 ((crcOn IEEE 0 xs:Nat):Int)∧L=g::F):=by
  obtain⟨b,o,c,cs,rfl,h2,h3,h4,h5,h6⟩:=h.one h0
  simp only[List.cons.injEq,and_true]at h2
  subst h2
  rw[Nat.mul_one]at h6
  refine Fn.stillR fun w hw=>?_
  have hr:Reads K (⟨b,o,cs⟩::F) b o (bytesV xs):=Reads.mem (k:=0) (.head _) (by rw[List.drop_zero,Bh];exact h6)
  exact Fn.mono (check_spec b o c xs (hr.kb hw) (by omega)) fun r L h=>h.1
theorem fits_walk{K:Known}(n1 n2:ByteArray)(ea:Option Addr)(en ec:Nat)(mo os:Int)(h1:n1.size≤140737488355327)(h2:n2.size≤140737488355327):Fn Tryz.prog K 19 #[.agg #[.string n1,.string n2,.slice ea en ec,.int .i64 mo,.int .u8 os]] ([]) (fun r L=>∃q,r=.bool q∧(q=true→(textB n1.data.toList).isSome=true∧(textB n2.data.toList).isSome=true∧((textB n1.data.toList).getD []).length<512∧((textB n2.data.toList).getD []).length<512∧en≤65535∧0≤mo∧mo<4294967296)):=by
 refine Fn.intro (args:=[.agg #[.string n1,.string n2,.slice ea en ec,.int .i64 mo,.int .u8 os]]) (RR:=Ret1 2 _) Tryz.func19 rfl rfl Tryz.ntmps19 (res1 Tryz.results19) ?_
 refine Bi (env2:=[(0,.agg #[.string n1,.string n2,.slice ea en ec,.int .i64 mo,.int .u8 os])]) U<|Cr ?_
 refine Ai (X.box U) U ?_;rintro _ _⟨b1,rfl,rfl⟩;refine Er1 U ?_
 refine Ea U U<|Ek2 1 2 U<|Cr<|Aa (Ab U fa32_0) U<|Ag (Aj 0 (k:=0) U U U Ta9) U ?_
 refine Ai (OpX.pick [] (F:=[_]) U (Ar U Tryz.call37 (text_any n1 h1))) U ?_;rintro _ _⟨_,⟨ta,tc,rfl,rfl⟩,rfl⟩;refine Er1 U ?_
 refine Em U U<|Aa (Bg U U) U<|Aa (Bg U U) U<|Ea U U<|Ea U U<|Ek4 1 2 3 4 U<|Cr<|Aa (Ab U fa32_1) U<|Ag (Aj 0 (k:=1) U U U Ta9) U ?_
 refine Ai (OpX.pick [] (F:=[_]) U (Ar U Tryz.call37 (text_any n2 h2))) U ?_;rintro _ _⟨_,⟨ta2,tc2,rfl,rfl⟩,rfl⟩;refine Er1 U ?_
 refine Em U U<|Aa (Bg U U) U<|Aa (Bg U U) U<|Ea U U<|Ea U U<|Ek6 1 2 3 4 5 6 U<|Cr<|Em U U<|Em U U<|Ha (fun g20=>?_) (fun g20=>?_)
 ·refine Ak 20 U U<|Em U U<|Aa (Bz U U) U<|Em U U<|Ha (fun g23=>?_) (fun g23=>?_)
  ·refine Ak 23 U U<|Em U U<|Ak 23 U U<|Aa (Bc U Tu25) U<|Ak 23 U U<|Aa (Dl (b:=((512:Nat):Int)) U U) U<|Aa (Bz U U) U<|Em U U<|Ek (fun g28=>?_) (fun g28=>?_)
   ·refine Ak 28 U U<|Em U U<|Ak 28 U U<|Aa (Bc U Tu25) U<|Ak 28 U U<|Aa (Dl (b:=((512:Nat):Int)) U U) U<|Aa (Bz U U) U<|Em U U<|Ek (fun g33=>?_) (fun g33=>?_)
    ·refine Ak 33 U U<|Aa (Ab U fa32_2) U<|Ak 33 U U<|Ag (Aj 0 (k:=2) U U U Ta25) U<|Ak 33 U U<|Aa (Bc U Tu25) U<|Ak 33 U U<|Aa (S.le (b:=((65535:Nat):Int)) U U) U<|Aa (Bz U U) U<|Em U U<|Ek (fun g39=>?_) (fun g39=>?_)
     ·refine Ak 39 U U<|Aa (Ab U fa32_3) U<|Ak 39 U U<|Ag (Aj 0 (k:=3) U U U Ta2) U<|Ak 39 U U<|Aa (S.ge (b:=((0:Nat):Int)) U U) U<|Aa (Bz U U) U<|Em U U<|Ek (fun g44=>?_) (fun g44=>?_)
      ·refine Ak 44 U U<|Aa (Ab U fa32_3) U<|Ak 44 U U<|Ag (Aj 0 (k:=3) U U U Ta2) U<|Ak 44 U U<|Aa (Dl (b:=((4294967296:Nat):Int)) U U) U<|Aa (Bz U U) U<|Ea U U<|Ek6 1 2 3 4 5 6 U<|Bb ?_
       exact⟨_,rfl,_,rfl,fun h=>by first|exact⟨g20,g23,by omega,by omega,by omega,by omega,by have:=of_decide_eq_true h;omega⟩|cases h⟩
      refine Ae 44 false U U U U<|Ae 44 false U U U U<|Ae 44 false U U U U<|Aa (Bk U U) U<|Ea U U<|Ek6 1 2 3 4 5 6 U<|Bb ?_
      exact⟨_,rfl,_,rfl,fun h=>by first|exact⟨g20,g23,by omega,by omega,by omega,by omega,by have:=of_decide_eq_true h;omega⟩|cases h⟩
     refine Ae 39 false U U U U<|Ae 39 false U U U U<|Ae 39 false U U U U<|Aa (Bk U U) U<|Em U U<|Ae 44 false U U U U<|Ae 44 false U U U U<|Ae 44 false U U U U<|Aa (Bk U U) U<|Ea U U<|Ek6 1 2 3 4 5 6 U<|Bb ?_
     exact⟨_,rfl,_,rfl,fun h=>by first|exact⟨g20,g23,by omega,by omega,by omega,by omega,by have:=of_decide_eq_true h;omega⟩|cases h⟩
    refine Ae 33 false U U U U<|Ae 33 false U U U U<|Ae 33 false U U U U<|Ae 33 false U U U U<|Aa (Bk U U) U<|Em U U<|Ae 39 false U U U U<|Ae 39 false U U U U<|Ae 39 false U U U U<|Aa (Bk U U) U<|Em U U<|Ae 44 false U U U U ?_
    refine Ae 44 false U U U U<|Ae 44 false U U U U<|Aa (Bk U U) U<|Ea U U<|Ek6 1 2 3 4 5 6 U<|Bb ?_
    exact⟨_,rfl,_,rfl,fun h=>by first|exact⟨g20,g23,by omega,by omega,by omega,by omega,by have:=of_decide_eq_true h;omega⟩|cases h⟩
   refine Ae 28 false U U U U<|Ae 28 false U U U U<|Ae 28 false U U U U<|Aa (Bk U U) U<|Em U U<|Ae 33 false U U U U<|Ae 33 false U U U U<|Ae 33 false U U U U<|Ae 33 false U U U U<|Aa (Bk U U) U<|Em U U<|Ae 39 false U U U U ?_
   refine Ae 39 false U U U U<|Ae 39 false U U U U<|Aa (Bk U U) U<|Em U U<|Ae 44 false U U U U<|Ae 44 false U U U U<|Ae 44 false U U U U<|Aa (Bk U U) U<|Ea U U<|Ek6 1 2 3 4 5 6 U<|Bb ?_
   exact⟨_,rfl,_,rfl,fun h=>by first|exact⟨g20,g23,by omega,by omega,by omega,by omega,by have:=of_decide_eq_true h;omega⟩|cases h⟩
  refine Ae 23 false U U U U<|Ae 23 false U U U U<|Ae 23 false U U U U<|Aa (Bk U U) U<|Em U U<|Ae 28 false U U U U<|Ae 28 false U U U U<|Ae 28 false U U U U<|Aa (Bk U U) U<|Em U U<|Ae 33 false U U U U<|Ae 33 false U U U U ?_
  refine Ae 33 false U U U U<|Ae 33 false U U U U<|Aa (Bk U U) U<|Em U U<|Ae 39 false U U U U<|Ae 39 false U U U U<|Ae 39 false U U U U<|Aa (Bk U U) U<|Em U U<|Ae 44 false U U U U<|Ae 44 false U U U U<|Ae 44 false U U U U ?_
  refine Aa (Bk U U) U<|Ea U U<|Ek6 1 2 3 4 5 6 U<|Bb ?_
  exact⟨_,rfl,_,rfl,fun h=>by first|exact⟨g20,g23,by omega,by omega,by omega,by omega,by have:=of_decide_eq_true h;omega⟩|cases h⟩
 refine Ae 20 false U U U U<|Aa (Bk U U) U<|Em U U<|Ae 23 false U U U U<|Ae 23 false U U U U<|Ae 23 false U U U U<|Aa (Bk U U) U<|Em U U<|Ae 28 false U U U U<|Ae 28 false U U U U<|Ae 28 false U U U U<|Aa (Bk U U) U ?_
 refine Em U U<|Ae 33 false U U U U<|Ae 33 false U U U U<|Ae 33 false U U U U<|Ae 33 false U U U U<|Aa (Bk U U) U<|Em U U<|Ae 39 false U U U U<|Ae 39 false U U U U<|Ae 39 false U U U U<|Aa (Bk U U) U<|Em U U ?_
 refine Ae 44 false U U U U<|Ae 44 false U U U U<|Ae 44 false U U U U<|Aa (Bk U U) U<|Ea U U<|Ek6 1 2 3 4 5 6 U<|Bb ?_
 exact⟨_,rfl,_,rfl,fun h=>by first|exact⟨g20,g23,by omega,by omega,by omega,by omega,by have:=of_decide_eq_true h;omega⟩|cases h⟩
theorem fits_spec{K:Known}(n1 n2:ByteArray)(ea:Option Addr)(en ec:Nat)(mo os:Int)(h1:n1.size≤140737488355327)(h2:n2.size≤140737488355327):Fn Tryz.prog K 19 #[.agg #[.string n1,.string n2,.slice ea en ec,.int .i64 mo,.int .u8 os]] [] (fun r L=>∃q,r=.bool q∧
    (q=true→∃nb cb,textB n1.data.toList=some nb∧textB n2.data.toList=some cb∧nb.length<512∧cb.length<512∧en≤65535∧0≤mo∧mo<4294967296)∧L=[]):=by
  refine Fn.lose (fits_walk n1 n2 ea en ec mo os h1 h2) ?_
  rintro r L⟨q,rfl,h⟩
  refine⟨[],L,Same.refl _,q,rfl,fun hq=>?_,rfl⟩
  obtain⟨q1,q2,q3,q4,q5⟩:=h hq
  obtain⟨nb,e1⟩:=Option.isSome_iff_exists.1 q1
  obtain⟨cb,e2⟩:=Option.isSome_iff_exists.1 q2
  rw[e1]at q3
  rw[e2]at q4
  exact⟨nb,cb,e1,e2,q3,q4,q5⟩
theorem zz1_walk{K:Known}(m:Md)(ea va:Option Addr)(ec vn vc:Nat)(hB:BlocksA K (.slice va vn vc)):Fn Tryz.prog K 18 #[.agg #[.string m.name,.string m.comment,.slice ea m.extra.length ec,.int .i64 m.mod,u8 m.os,.bool m.text,.bool m.checked,.bool m.ex,.bool m.nm,.bool m.cm,u8 m.flags,.slice va vn vc]] ([]) (fun r L=>∃q,r=.bool q∧(q=true→m.name.size≤2147483647∧m.comment.size≤2147483647∧m.extra.length≤2147483647)):=by
 refine Fn.intro (args:=[.agg #[.string m.name,.string m.comment,.slice ea m.extra.length ec,.int .i64 m.mod,u8 m.os,.bool m.text,.bool m.checked,.bool m.ex,.bool m.nm,.bool m.cm,u8 m.flags,.slice va vn vc]]) (RR:=Ret1 2 _) Tryz.func18 rfl rfl Tryz.ntmps18 (res1 Tryz.results18) ?_
 refine Bi (env2:=[(0,.agg #[.string m.name,.string m.comment,.slice ea m.extra.length ec,.int .i64 m.mod,u8 m.os,.bool m.text,.bool m.checked,.bool m.ex,.bool m.nm,.bool m.cm,u8 m.flags,.slice va vn vc])]) U<|Cr ?_
 refine Ai (X.box U) U ?_;rintro _ _⟨b1,rfl,rfl⟩;refine Er1 U ?_
 refine Ea U U<|Ek2 1 2 U<|Am<|Cr<|Aa (Ab U fa35_0) U<|Ag (De 0 (k:=0) U U U U Tryz.isAgg32 Tryz.sizeOf32) U ?_
 refine Ai (OpX.pick [] (F:=[_]) U (Ar U Tryz.call35 (zz2_none m.name m.comment ea m.extra.length ec m.mod (m.os.toNat:Int)))) U ?_;rintro _ _⟨_,⟨q2,rfl,hq2,rfl⟩,rfl⟩;refine Er1 U ?_
 refine Aa (Gc U) U<|Ek3 1 2 6 U<|Eg U (fun h6=>?_) (fun h6=>?_)
 ·refine Cr<|Ea U U<|Ek3 1 2 6 U<|Bb ?_
  exact⟨_,rfl,_,rfl,fun h=>by first|exact hq2 (by simpa using h6)|cases h⟩
 refine Ap<|Am<|Cr<|Aa (Ab U fa35_7) U<|Ag (Aj 0 (k:=11) U U U Ta33) U ?_
 refine Ai (OpX.pick [] (F:=[_]) U (Ar U Tryz.call36 (zz3_spec hB))) U ?_;rintro _ _⟨_,⟨q3,rfl,rfl⟩,rfl⟩;refine Er1 U ?_
 refine Aa (Gc U) U<|Ek4 1 2 6 10 U<|Eg U (fun h10=>?_) (fun h10=>?_)
 ·refine Cr<|Ea U U<|Ek4 1 2 6 10 U<|Bb ?_
  exact⟨_,rfl,_,rfl,fun h=>by first|exact hq2 (by simpa using h6)|cases h⟩
 refine Ap<|Cr<|Ea U U<|Ek4 1 2 6 10 U<|Bb ?_
 exact⟨_,rfl,_,rfl,fun h=>by first|exact hq2 (by simpa using h6)|cases h⟩
theorem zz1_spec{K:Known}(m:Md)(ea va:Option Addr)(ec vn vc:Nat)(hB:BlocksA K (.slice va vn vc)):Fn Tryz.prog K 18 #[.agg #[.string m.name,.string m.comment,.slice ea m.extra.length ec,.int .i64 m.mod,u8 m.os,.bool m.text,.bool m.checked,.bool m.ex,.bool m.nm,.bool m.cm,u8 m.flags,.slice va vn vc]] [] (fun r L=>∃q,r=.bool q∧(q=true→m.name.size≤2147483647∧m.comment.size≤2147483647∧m.extra.length≤2147483647)∧L=[]):=by
  refine Fn.lose (zz1_walk m ea va ec vn vc hB) ?_
  rintro r L⟨q,rfl,h⟩
  exact⟨[],L,Same.refl _,q,rfl,h,rfl⟩
theorem head_sl(hb fl:Nat)(h:fl<256):Sl 1 (.slice (some ⟨hb,0,none⟩) 4 4) ([31,139,8,UInt8.ofNat fl]:List UInt8).length (bytesV [31,139,8,UInt8.ofNat fl]) [⟨hb,0,[.int .u8 31,.int .u8 139,.int .u8 8,.int .u8 ((fl:Nat):Int)]⟩]:=by
  refine⟨rfl,.inr ⟨hb,0,4,_,rfl,rfl,rfl,Nat.le_refl _,by decide,?_⟩⟩
  show [Value.int .u8 31,.int .u8 139,.int .u8 8,.int .u8 ((fl:Nat):Int)]=[Value.int .u8 31,.int .u8 139,.int .u8 8,.int .u8 (((UInt8.ofNat fl).toNat:Nat):Int)]
  rw[UInt8.toNat_ofNat',Nat.mod_eq_of_lt h]
def flN(bs:List Bool):Nat→Nat
  |0=>0
  |i+1=>flN bs i+(if bs.getD i false then 2^i else 0)
theorem flN_lt(bs:List Bool):∀i,flN bs i<2^i
  |0=>by simp[flN]
  |i+1=>by
    have:=flN_lt bs i
    rw[flN,Nat.pow_succ]
    split<;>omega
theorem flN_yes{bs:List Bool}{i:Nat}(hi:i<5)(h:bs.getD i false=true):flN bs i|||(1<<<i)%256=flN bs (i+1):=by
  have h1:=flN_lt bs i
  have h2:=Nat.shiftLeft_add_eq_or_of_lt h1 1
  have h3:(1<<<i)%256=1<<<i:=by rcases(show i=0∨i=1∨i=2∨i=3∨i=4 by omega)with rfl|rfl|rfl|rfl|rfl<;>decide
  rw[h3,Nat.or_comm,←h2,flN,if_pos h,Nat.shiftLeft_eq,Nat.one_mul,Nat.add_comm]
theorem flN_no{bs:List Bool}{i:Nat}(h:bs.getD i false=false):flN bs (i+1)=flN bs i:=by rw[flN,if_neg (by rw[h];decide),Nat.add_zero]
theorem bools_get{a b c d e:Bool}{i:Nat}(h:i<5):([.bool a,.bool b,.bool c,.bool d,.bool e]:List Value)[i*1]? =some (.bool ([a,b,c,d,e].getD i false)):=by
  rcases(show i=0∨i=1∨i=2∨i=3∨i=4 by omega)with rfl|rfl|rfl|rfl|rfl<;>rfl
theorem flN_flags(m:Md)(nb cb:List UInt8):flN [m.text,m.checked,m.ex||decide (0<m.extra.length),m.nm||decide (0<nb.length),m.cm||decide (0<cb.length)] 5=flagsN m nb cb:=by
  unfold flagsN
  generalize (m.ex||decide (0<m.extra.length))=a
  generalize (m.nm||decide (0<nb.length))=b
  generalize (m.cm||decide (0<cb.length))=c
  generalize m.text=d
  generalize m.checked=e
  revert a b c d e
  decide
theorem arr5(f:Nat→Value)(a b c d e:Value):((((((Array.range 5).map f).setIfInBounds 0 a).setIfInBounds 1 b).setIfInBounds 2 c).setIfInBounds 3 d).setIfInBounds 4 e=#[a,b,c,d,e]:=by
  rw[show Array.range 5=#[0,1,2,3,4] by decide];simp
theorem arr4(f:Nat→Value)(a b c d:Value):(((((Array.range 4).map f).setIfInBounds 0 a).setIfInBounds 1 b).setIfInBounds 2 c).setIfInBounds 3 d=#[a,b,c,d]:=by
  rw[show Array.range 4=#[0,1,2,3] by decide];simp
theorem first0_len(m:Md)(nb cb:List UInt8):(first0 m nb cb).length=10:=by simp[first0,Bd]
theorem first1_len{m:Md}(nb cb:List UInt8)(h:m.extra.length≤65535):10≤(first1 m nb cb).length∧(first1 m nb cb).length≤65547:=by
  have:=first0_len m nb cb
  unfold first1;split
  · omega
  · simp only[List.length_append,Bd];omega
theorem first2_len{m:Md}{nb:List UInt8}(cb:List UInt8)(h:m.extra.length≤65535)(hn:nb.length<512):10≤(first2 m nb cb).length∧(first2 m nb cb).length≤66060:=by
  have:=first1_len (m:=m) nb cb h
  unfold first2;split
  · omega
  · simp only[List.length_append,List.length_cons,List.length_nil];omega
theorem first3_len{m:Md}{nb cb:List UInt8}(h:m.extra.length≤65535)(hn:nb.length<512)(hc:cb.length<512):10≤(first3 m nb cb).length∧(first3 m nb cb).length≤66572:=by
  have:=first2_len (m:=m) (nb:=nb) cb h hn
  unfold first3;split
  · omega
  · simp only[List.length_append,List.length_cons,List.length_nil];omega
theorem firstL_len{m:Md}{nb cb:List UInt8}(h:m.extra.length≤65535)(hn:nb.length<512)(hc:cb.length<512):10≤(firstL m nb cb).length∧(firstL m nb cb).length≤66574:=by
  have:=first3_len (m:=m) (nb:=nb) (cb:=cb) h hn hc
  unfold firstL;split
  · omega
  · simp only[List.length_append,Bd];omega
theorem first_walk{K:Known}(m:Md)(mo:Nat)(nb cb:List UInt8)(ea va:Option Addr)(ec vn vc:Nat)(hE:m.extra=[]∨∃b o,ea=some ⟨b,o,none⟩∧KB K b o m.extra)(hmo:m.mod.toNat=mo)(hmo2:mo<4294967296)(h1:m.name.size≤140737488355327)(h2:m.comment.size≤140737488355327)(hnb:textB m.name.data.toList=some nb)(hcb:textB m.comment.data.toList=some cb)(hnl:nb.length<512)(hcl:cb.length<512)(hel:m.extra.length≤65535):Fn Tryz.prog K 25 #[.agg #[.string m.name,.string m.comment,.slice ea m.extra.length ec,.int .i64 ((mo:Nat):Int),u8 m.os,.bool m.text,.bool m.checked,.bool m.ex,.bool m.nm,.bool m.cm,u8 m.flags,.slice va vn vc]] ([]) (fun r L=>∃g F,Sl 1 r (firstL m nb cb).length (bytesV (firstL m nb cb)) [g]∧L=g::F):=by
 have hfl:=flagsN_lt m nb cb
 have e0:=first0_len m nb cb
 have e1:=first1_len (m:=m) nb cb hel
 have e2:=first2_len (m:=m) (nb:=nb) cb hel hnl
 have e3:=first3_len (m:=m) (nb:=nb) (cb:=cb) hel hnl hcl
 have hqq:crcOn IEEE 0 (first3 m nb cb)<4294967296:=Hi (by decide) (by decide) _
 have hq16:crcOn IEEE 0 (first3 m nb cb)%65536<65536:=Nat.mod_lt _ (by decide)
 refine Fn.intro (args:=[.agg #[.string m.name,.string m.comment,.slice ea m.extra.length ec,.int .i64 ((mo:Nat):Int),u8 m.os,.bool m.text,.bool m.checked,.bool m.ex,.bool m.nm,.bool m.cm,u8 m.flags,.slice va vn vc]]) (RR:=Ret1 2 _) Tryz.func25 rfl rfl Tryz.ntmps25 (res1 Tryz.results25) ?_
 refine Bi (env2:=[(0,.agg #[.string m.name,.string m.comment,.slice ea m.extra.length ec,.int .i64 ((mo:Nat):Int),u8 m.os,.bool m.text,.bool m.checked,.bool m.ex,.bool m.nm,.bool m.cm,u8 m.flags,.slice va vn vc])]) U<|Cr ?_
 refine Ai (X.box U) U ?_;rintro _ _⟨b1,rfl,rfl⟩;refine Er1 U ?_
 refine Ea U U<|Ek2 1 2 U<|Cr<|Aa (Ab U fa35_0) U<|Aa (Ab U fa32_0) U<|Ag (Aj 0 (k:=0) U U U Ta9) U ?_
 refine Ai (Ar U Tryz.call37 (text_made m.name nb hnb h1 _ [])) U ?_;rintro _ _⟨a1,c1,g1,hR1,rfl,rfl⟩;refine Er2 U ?_
 refine Em U U<|Aa (Bg U U) U<|Aa (Bg U U) U<|Ea U U<|Ea U U<|Ek3 1 2 3 U<|Cr<|Aa (Ab U fa35_0) U<|Aa (Ab U fa32_1) U<|Ag (Aj 1 (k:=1) U U U Ta9) U ?_
 refine Ai (Ar U Tryz.call37 (text_made m.comment cb hcb h2 _ _)) U ?_;rintro _ _⟨a2,c2,g2,hR2,rfl,rfl⟩;refine Er3 U ?_
 refine Em U U<|Aa (Bg U U) U<|Aa (Bg U U) U<|Ea U U<|Ea U U<|Ek4 1 2 3 5 U<|Cr<|Ea U U<|Ek5 1 2 3 5 7 U<|Du (M:=fun ee ll=>∃(sbf:Frag),keeps ee [1,3,5,7]=some [(1,.pointer (some ⟨b1,0,none⟩)),(3,.slice a1 nb.length c1),(5,.slice a2 cb.length c2),(7,.int .u8 ((flagsN m nb cb:Nat):Int))]∧ll=[sbf,g2,g1,⟨b1,0,[.string m.name,.string m.comment,.slice ea m.extra.length ec,.int .i64 ((mo:Nat):Int),u8 m.os,.bool m.text,.bool m.checked,.bool m.ex,.bool m.nm,.bool m.cm,u8 m.flags,.slice va vn vc]⟩]) ?_ ?_
 ·refine Du (M:=fun ee ll=>∃(b3:Bool),∃(b4:Bool),∃(b5:Bool),∃(sb:Nat),keeps ee [1,3,5,7,52,53,54]=some [(1,.pointer (some ⟨b1,0,none⟩)),(3,.slice a1 nb.length c1),(5,.slice a2 cb.length c2),(7,.int .u8 ((0:Nat):Int)),(52,.slice (some ⟨sb,0,none⟩) (5) (5)),(53,.int .i64 ((5:Nat):Int)),(54,.int .i64 ((0:Nat):Int))]∧ll=[⟨sb,0,[.bool m.text,.bool m.checked,.bool b3,.bool b4,.bool b5]⟩,g2,g1,⟨b1,0,[.string m.name,.string m.comment,.slice ea m.extra.length ec,.int .i64 ((mo:Nat):Int),u8 m.os,.bool m.text,.bool m.checked,.bool m.ex,.bool m.nm,.bool m.cm,u8 m.flags,.slice va vn vc]⟩]∧(b3=(m.ex||decide (0<m.extra.length)))∧(b4=(m.nm||decide (0<nb.length)))∧(b5=(m.cm||decide (0<cb.length)))) ?_ ?_
  ·refine Al<|Aa (Ab U fa35_1) U<|Ag (Aj 2 (k:=5) U U U Ta4) U<|Aa (Ab U fa35_2) U<|Ag (Aj 2 (k:=6) U U U Ta4) U<|Aa (Ab U fa35_3) U<|Ag (Aj 2 (k:=7) U U U Ta4) U<|Em U U<|Ha (fun g31=>?_) (fun g31=>?_)
   ·refine Ae 31 true U U U U<|Ae 31 true U U U U<|Ae 31 true U U U U<|Ae 31 true U U U U<|Ae 31 true U U U U<|Aa (Bz U U) U<|Aa (Ab U fa35_4) U<|Ag (Aj 2 (k:=8) U U U Ta4) U<|Em U U<|Ha (fun g40=>?_) (fun g40=>?_)
    ·refine Ae 40 true U U U U<|Ae 40 true U U U U<|Ae 40 true U U U U<|Aa (Bz U U) U<|Aa (Ab U fa35_5) U<|Ag (Aj 2 (k:=9) U U U Ta4) U<|Em U U<|Ha (fun g47=>?_) (fun g47=>?_)
     ·refine Ae 47 true U U U U<|Ae 47 true U U U U<|Ae 47 true U U U U<|Aa (Bz U U) U ?_
      refine Ai (Bn (vs:=[.bool m.text,.bool m.checked,.bool true,.bool true,.bool true]) (e:=4) [(0,.bool m.text),(1,.bool m.checked),(2,.bool true),(3,.bool true),(4,.bool true)] U (fun w=>by simp[Instr.buildSlice,Instr.fill,Value.cells,newRow,Tryz.runUnderlying108,Tryz.typeInfo4];rw[arr5])) U ?_;rintro _ _⟨sb,rfl,rfl⟩;refine Er4 U ?_
      refine Aa (Bc U Tu108) U<|Em U U<|Ek8 1 2 3 5 7 52 53 54 U ?_
      exact⟨_,_,_,_,rfl,rfl,by first|(rw[g31];rfl)|(rw[g31];exact decide_eq_decide.2 (by omega)),by first|(rw[g40];rfl)|(rw[g40];exact decide_eq_decide.2 (by omega)),by first|(rw[g47];rfl)|(rw[g47];exact decide_eq_decide.2 (by omega))⟩
     refine Ak 47 U U<|Em U U<|Ak 47 U U<|Aa (Bc U Tu25) U<|Ak 47 U U<|Aa (Fh (b:=((0:Nat):Int)) U U) U<|Aa (Bk U U) U ?_
     refine Ai (Bn (vs:=[.bool m.text,.bool m.checked,.bool true,.bool true,_]) (e:=4) [(0,.bool m.text),(1,.bool m.checked),(2,.bool true),(3,.bool true),(4,_)] U (fun w=>by simp[Instr.buildSlice,Instr.fill,Value.cells,newRow,Tryz.runUnderlying108,Tryz.typeInfo4];rw[arr5])) U ?_;rintro _ _⟨sb,rfl,rfl⟩;refine Er4 U ?_
     refine Aa (Bc U Tu108) U<|Em U U<|Ek8 1 2 3 5 7 52 53 54 U ?_
     exact⟨_,_,_,_,rfl,rfl,by first|(rw[g31];rfl)|(rw[g31];exact decide_eq_decide.2 (by omega)),by first|(rw[g40];rfl)|(rw[g40];exact decide_eq_decide.2 (by omega)),by first|(rw[g47];rfl)|(rw[g47];exact decide_eq_decide.2 (by omega))⟩
    refine Ak 40 U U<|Em U U<|Ak 40 U U<|Aa (Bc U Tu25) U<|Ak 40 U U<|Aa (Fh (b:=((0:Nat):Int)) U U) U<|Aa (Bk U U) U<|Aa (Ab U fa35_5) U<|Ag (Aj 2 (k:=9) U U U Ta4) U<|Em U U<|Ha (fun g47=>?_) (fun g47=>?_)
    ·refine Ae 47 true U U U U<|Ae 47 true U U U U<|Ae 47 true U U U U<|Aa (Bz U U) U ?_
     refine Ai (Bn (vs:=[.bool m.text,.bool m.checked,.bool true,_,.bool true]) (e:=4) [(0,.bool m.text),(1,.bool m.checked),(2,.bool true),(3,_),(4,.bool true)] U (fun w=>by simp[Instr.buildSlice,Instr.fill,Value.cells,newRow,Tryz.runUnderlying108,Tryz.typeInfo4];rw[arr5])) U ?_;rintro _ _⟨sb,rfl,rfl⟩;refine Er4 U ?_
     refine Aa (Bc U Tu108) U<|Em U U<|Ek8 1 2 3 5 7 52 53 54 U ?_
     exact⟨_,_,_,_,rfl,rfl,by first|(rw[g31];rfl)|(rw[g31];exact decide_eq_decide.2 (by omega)),by first|(rw[g40];rfl)|(rw[g40];exact decide_eq_decide.2 (by omega)),by first|(rw[g47];rfl)|(rw[g47];exact decide_eq_decide.2 (by omega))⟩
    refine Ak 47 U U<|Em U U<|Ak 47 U U<|Aa (Bc U Tu25) U<|Ak 47 U U<|Aa (Fh (b:=((0:Nat):Int)) U U) U<|Aa (Bk U U) U ?_
    refine Ai (Bn (vs:=[.bool m.text,.bool m.checked,.bool true,_,_]) (e:=4) [(0,.bool m.text),(1,.bool m.checked),(2,.bool true),(3,_),(4,_)] U (fun w=>by simp[Instr.buildSlice,Instr.fill,Value.cells,newRow,Tryz.runUnderlying108,Tryz.typeInfo4];rw[arr5])) U ?_;rintro _ _⟨sb,rfl,rfl⟩;refine Er4 U ?_
    refine Aa (Bc U Tu108) U<|Em U U<|Ek8 1 2 3 5 7 52 53 54 U ?_
    exact⟨_,_,_,_,rfl,rfl,by first|(rw[g31];rfl)|(rw[g31];exact decide_eq_decide.2 (by omega)),by first|(rw[g40];rfl)|(rw[g40];exact decide_eq_decide.2 (by omega)),by first|(rw[g47];rfl)|(rw[g47];exact decide_eq_decide.2 (by omega))⟩
   refine Ak 31 U U<|Aa (Ab U fa35_0) U<|Ak 31 U U<|Aa (Ab U fa32_2) U<|Ak 31 U U<|Ag (Aj 2 (k:=2) U U U Ta25) U<|Ak 31 U U<|Aa (Bc U Tu25) U<|Ak 31 U U<|Aa (Fh (b:=((0:Nat):Int)) U U) U<|Aa (Bk U U) U<|Aa (Ab U fa35_4) U ?_
   refine Ag (Aj 2 (k:=8) U U U Ta4) U<|Em U U<|Ha (fun g40=>?_) (fun g40=>?_)
   ·refine Ae 40 true U U U U<|Ae 40 true U U U U<|Ae 40 true U U U U<|Aa (Bz U U) U<|Aa (Ab U fa35_5) U<|Ag (Aj 2 (k:=9) U U U Ta4) U<|Em U U<|Ha (fun g47=>?_) (fun g47=>?_)
    ·refine Ae 47 true U U U U<|Ae 47 true U U U U<|Ae 47 true U U U U<|Aa (Bz U U) U ?_
     refine Ai (Bn (vs:=[.bool m.text,.bool m.checked,_,.bool true,.bool true]) (e:=4) [(0,.bool m.text),(1,.bool m.checked),(2,_),(3,.bool true),(4,.bool true)] U (fun w=>by simp[Instr.buildSlice,Instr.fill,Value.cells,newRow,Tryz.runUnderlying108,Tryz.typeInfo4];rw[arr5])) U ?_;rintro _ _⟨sb,rfl,rfl⟩;refine Er4 U ?_
     refine Aa (Bc U Tu108) U<|Em U U<|Ek8 1 2 3 5 7 52 53 54 U ?_
     exact⟨_,_,_,_,rfl,rfl,by first|(rw[g31];rfl)|(rw[g31];exact decide_eq_decide.2 (by omega)),by first|(rw[g40];rfl)|(rw[g40];exact decide_eq_decide.2 (by omega)),by first|(rw[g47];rfl)|(rw[g47];exact decide_eq_decide.2 (by omega))⟩
    refine Ak 47 U U<|Em U U<|Ak 47 U U<|Aa (Bc U Tu25) U<|Ak 47 U U<|Aa (Fh (b:=((0:Nat):Int)) U U) U<|Aa (Bk U U) U ?_
    refine Ai (Bn (vs:=[.bool m.text,.bool m.checked,_,.bool true,_]) (e:=4) [(0,.bool m.text),(1,.bool m.checked),(2,_),(3,.bool true),(4,_)] U (fun w=>by simp[Instr.buildSlice,Instr.fill,Value.cells,newRow,Tryz.runUnderlying108,Tryz.typeInfo4];rw[arr5])) U ?_;rintro _ _⟨sb,rfl,rfl⟩;refine Er4 U ?_
    refine Aa (Bc U Tu108) U<|Em U U<|Ek8 1 2 3 5 7 52 53 54 U ?_
    exact⟨_,_,_,_,rfl,rfl,by first|(rw[g31];rfl)|(rw[g31];exact decide_eq_decide.2 (by omega)),by first|(rw[g40];rfl)|(rw[g40];exact decide_eq_decide.2 (by omega)),by first|(rw[g47];rfl)|(rw[g47];exact decide_eq_decide.2 (by omega))⟩
   refine Ak 40 U U<|Em U U<|Ak 40 U U<|Aa (Bc U Tu25) U<|Ak 40 U U<|Aa (Fh (b:=((0:Nat):Int)) U U) U<|Aa (Bk U U) U<|Aa (Ab U fa35_5) U<|Ag (Aj 2 (k:=9) U U U Ta4) U<|Em U U<|Ha (fun g47=>?_) (fun g47=>?_)
   ·refine Ae 47 true U U U U<|Ae 47 true U U U U<|Ae 47 true U U U U<|Aa (Bz U U) U ?_
    refine Ai (Bn (vs:=[.bool m.text,.bool m.checked,_,_,.bool true]) (e:=4) [(0,.bool m.text),(1,.bool m.checked),(2,_),(3,_),(4,.bool true)] U (fun w=>by simp[Instr.buildSlice,Instr.fill,Value.cells,newRow,Tryz.runUnderlying108,Tryz.typeInfo4];rw[arr5])) U ?_;rintro _ _⟨sb,rfl,rfl⟩;refine Er4 U ?_
    refine Aa (Bc U Tu108) U<|Em U U<|Ek8 1 2 3 5 7 52 53 54 U ?_
    exact⟨_,_,_,_,rfl,rfl,by first|(rw[g31];rfl)|(rw[g31];exact decide_eq_decide.2 (by omega)),by first|(rw[g40];rfl)|(rw[g40];exact decide_eq_decide.2 (by omega)),by first|(rw[g47];rfl)|(rw[g47];exact decide_eq_decide.2 (by omega))⟩
   refine Ak 47 U U<|Em U U<|Ak 47 U U<|Aa (Bc U Tu25) U<|Ak 47 U U<|Aa (Fh (b:=((0:Nat):Int)) U U) U<|Aa (Bk U U) U ?_
   refine Ai (Bn (vs:=[.bool m.text,.bool m.checked,_,_,_]) (e:=4) [(0,.bool m.text),(1,.bool m.checked),(2,_),(3,_),(4,_)] U (fun w=>by simp[Instr.buildSlice,Instr.fill,Value.cells,newRow,Tryz.runUnderlying108,Tryz.typeInfo4];rw[arr5])) U ?_;rintro _ _⟨sb,rfl,rfl⟩;refine Er4 U ?_
   refine Aa (Bc U Tu108) U<|Em U U<|Ek8 1 2 3 5 7 52 53 54 U ?_
   exact⟨_,_,_,_,rfl,rfl,by first|(rw[g31];rfl)|(rw[g31];exact decide_eq_decide.2 (by omega)),by first|(rw[g40];rfl)|(rw[g40];exact decide_eq_decide.2 (by omega)),by first|(rw[g47];rfl)|(rw[g47];exact decide_eq_decide.2 (by omega))⟩
  rintro _ _⟨b3,b4,b5,sb,hq5,rfl,hb3,hb4,hb5⟩
  refine Av _ hq5<|As<|Bw (fun mm ee ll=>∃(i:Nat),∃(fl:Nat),keeps ee [1,3,5,7,52,53,54]=some [(1,.pointer (some ⟨b1,0,none⟩)),(3,.slice a1 nb.length c1),(5,.slice a2 cb.length c2),(7,.int .u8 ((fl:Nat):Int)),(52,.slice (some ⟨sb,0,none⟩) (5) (5)),(53,.int .i64 ((5:Nat):Int)),(54,.int .i64 ((i:Nat):Int))]∧ll=[⟨sb,0,[.bool m.text,.bool m.checked,.bool b3,.bool b4,.bool b5]⟩,g2,g1,⟨b1,0,[.string m.name,.string m.comment,.slice ea m.extra.length ec,.int .i64 ((mo:Nat):Int),u8 m.os,.bool m.text,.bool m.checked,.bool m.ex,.bool m.nm,.bool m.cm,u8 m.flags,.slice va vn vc]⟩]∧(i≤5)∧(fl=flN [m.text,m.checked,b3,b4,b5] i)∧mm=5-i) (_) ⟨0,0,rfl,rfl,by omega,rfl,rfl⟩ ?_
  rintro m0 _ _⟨i,fl,hk0,rfl,hi,hf2,hm0⟩
  refine Av _ hk0<|Cr<|Aa (Dl U U) U<|Ek8 1 3 5 7 52 53 54 55 U<|Am<|Bf U (fun h55=>?_) (fun h55=>?_)
  ·have hi2:i<5:=by omega
   have hflt:=flN_lt [m.text,m.checked,b3,b4,b5] i
   have hf256:2^i≤2^5:=Nat.pow_le_pow_right (by omega) (by omega)
   have hget:=bools_get (a:=m.text) (b:=m.checked) (c:=b3) (d:=b4) (e:=b5) hi2
   refine Ap<|Am<|As<|Cr<|Em U U<|Aa (Bm U U (by omega) Tu108 Tz4) U<|Ag (Aj 0 (k:=i*1) U U hget Ta4) U<|Ea U U<|Ea U U<|Ek10 1 3 5 7 8 9 52 53 54 55 U<|Cr<|Em U U ?_
   refine Ek11 1 3 5 7 8 9 52 53 54 55 59 U<|Eg U (fun h59=>?_) (fun h59=>?_)
   ·refine Al<|Em U U<|Em U U<|Aa (Fy (a:=((1:Nat):Int)) U U (by omega) (N.shl_u8 _ _)) U<|Aa (S.or U U (N.or_u8 (by omega) (Nat.mod_lt _ (by decide)))) U<|Ea U U<|Ek11 1 3 5 7 8 9 52 53 54 55 59 U<|Al<|Aa (Bl (b:=((1:Nat):Int)) U U (N.add64 (by omega))) U<|Em U U<|Ek11 1 3 5 7 8 9 52 53 54 55 59 U ?_
    refine⟨_,?_,i+1,_,rfl,rfl,by omega,by first|(rw[hf2];exact flN_yes hi2 h59)|(rw[hf2];exact(flN_no h59).symm),rfl⟩;omega
   refine Ap<|Al<|Aa (Bl (b:=((1:Nat):Int)) U U (N.add64 (by omega))) U<|Em U U<|Ek11 1 3 5 7 8 9 52 53 54 55 59 U ?_
   refine⟨_,?_,i+1,_,rfl,rfl,by omega,by first|(rw[hf2];exact flN_yes hi2 h59)|(rw[hf2];exact(flN_no h59).symm),rfl⟩;omega
  have hi2:i=5:=by omega
  subst hi2
  subst hb3 hb4 hb5
  rw[flN_flags]at hf2
  subst hf2
  refine Bu U ?_
  exact⟨_,rfl,rfl⟩
 rintro _ _⟨sbf,hq10,rfl⟩
 refine Av _ hq10<|Cr<|Em U U ?_
 refine Ai (Bn (vs:=[.int .u8 31,.int .u8 139,.int .u8 8,.int .u8 ((flagsN m nb cb:Nat):Int)]) (e:=5) [(0,.int .u8 31),(1,.int .u8 139),(2,.int .u8 8),(3,.int .u8 ((flagsN m nb cb:Nat):Int))] U (fun w=>by simp[Instr.buildSlice,Instr.fill,Value.cells,newRow,Tryz.runUnderlying25,Tryz.typeInfo5];rw[arr4])) U ?_;rintro _ _⟨hb,rfl,rfl⟩;refine Er5 U ?_
 have hS0:=head_sl hb (flagsN m nb cb) (by omega)
 refine Aa (Ab U fa35_0) U<|Aa (Ab U fa32_3) U<|Ag (Aj 4 (k:=3) U U U Ta2) U ?_
 refine Ai (OpX.pick [] (F:=[_,_,_,_,_]) U (Ar U Tryz.call27 (Fr (mo) 4 (by omega) (by decide)))) U ?_;rintro _ _⟨_,⟨na,nc,gq,hQ,rfl,rfl⟩,rfl⟩;refine Er6 U ?_
 refine Ai (OpX.pick [1,0] (F:=[_,_,_,_]) U (Dh (xs:=[31,139,8,UInt8.ofNat (flagsN m nb cb)]) (ys:=numL mo 4) U U hS0 U (hQ _ _ (.tail _ (.head _))) (by first|omega|(simp only[List.length_append,Bd,List.length_cons,List.length_nil];omega)) (by first|omega|(simp only[List.length_append,Bd,List.length_cons,List.length_nil];omega)))) U ?_;rintro _ _⟨_,⟨gh,hSgh,rfl⟩,rfl⟩;refine Er6 U ?_
 refine Ea U U<|Ds [0,2,2,2] (A:=[_,_,_,_]) U<|Er4 U<|Ek5 1 3 5 7 10 U<|Du (M:=fun ee ll=>∃(v:Value),∃(gh:Frag),keeps ee [1,3,5,7,10]=some [(1,.pointer (some ⟨b1,0,none⟩)),(3,.slice a1 nb.length c1),(5,.slice a2 cb.length c2),(7,.int .u8 ((flagsN m nb cb:Nat):Int)),(10,v)]∧ll=[gh,g2,g1,⟨b1,0,[.string m.name,.string m.comment,.slice ea m.extra.length ec,.int .i64 ((mo:Nat):Int),u8 m.os,.bool m.text,.bool m.checked,.bool m.ex,.bool m.nm,.bool m.cm,u8 m.flags,.slice va vn vc]⟩]∧(Sl 1 v (first0 m nb cb).length (bytesV (first0 m nb cb)) [gh])) ?_ ?_
 ·refine Al<|Em U U<|Aa (Ab U fa35_6) U<|Ag (Aj 3 (k:=10) U U U Ta5) U<|Aa (Ab U fa35_0) U<|Aa (Ab U fa32_4) U<|Ag (Aj 3 (k:=4) U U U Ta5) U ?_
  refine Ai (Bn (vs:=[u8 m.flags,u8 m.os]) (e:=5) [(0,u8 m.flags),(1,u8 m.os)] U (fun w=>by simp[Instr.buildSlice,Instr.fill,Value.cells,newRow,Tryz.runUnderlying25,Tryz.typeInfo5];rw[arr2])) U ?_;rintro _ _⟨yb,rfl,rfl⟩;refine Er5 U ?_
  refine Ai (OpX.pick [1,0] (F:=[_,_,_]) U (Dh (xs:=([31,139,8,UInt8.ofNat (flagsN m nb cb)]++numL mo 4)) (ys:=[m.flags,m.os]) U U hSgh U (.inr ⟨yb,0,rfl,Reads.mem (k:=0) (.tail _ (.head _)) U⟩) (by first|omega|(simp only[List.length_append,Bd,List.length_cons,List.length_nil];omega)) (by first|omega|(simp only[List.length_append,Bd,List.length_cons,List.length_nil];omega)))) U ?_;rintro _ _⟨_,⟨gi,hSgi,rfl⟩,rfl⟩;refine Er5 U ?_
  refine Ea U U<|Ds [0,1,1,1] (A:=[_,_,_,_]) U<|Er4 U<|Ek5 1 3 5 7 10 U ?_
  exact⟨_,_,rfl,rfl,by rw[first0,hmo];exact hSgi⟩
 rintro _ _⟨v,gh,hq12,rfl,hS⟩
 refine Av _ hq12<|Du (M:=fun ee ll=>∃(v:Value),∃(gh:Frag),keeps ee [1,3,5,7,10]=some [(1,.pointer (some ⟨b1,0,none⟩)),(3,.slice a1 nb.length c1),(5,.slice a2 cb.length c2),(7,.int .u8 ((flagsN m nb cb:Nat):Int)),(10,v)]∧ll=[gh,g2,g1,⟨b1,0,[.string m.name,.string m.comment,.slice ea m.extra.length ec,.int .i64 ((mo:Nat):Int),u8 m.os,.bool m.text,.bool m.checked,.bool m.ex,.bool m.nm,.bool m.cm,u8 m.flags,.slice va vn vc]⟩]∧(Sl 1 v (first1 m nb cb).length (bytesV (first1 m nb cb)) [gh])) ?_ ?_
 ·refine Cr<|Em U U<|Aa (Fa (b:=((4:Nat):Int)) U U (N.and_u8 (by omega) (by omega))) U<|Aa (S.ne (b:=((0:Nat):Int)) U U) U<|Ek6 1 3 5 7 10 82 U<|Bf U (fun h82=>?_) (fun h82=>?_)
  ·refine Bt [0,0,2,4,8,16,33,0,128,256,576,2047] (.pure 0 958 (.pure 1 897 (.pure 2 899 (.pure 7 127 (.pure 8 255 (.alt 3 (.pure 4 911 (.alt 5 (.alt 6 (.seg [(9,511)] (.alt 10 (.pure 11 2047 .done) .stop)) (.alt 9 (.alt 6 (.alt 10 (.pure 11 2047 .done) .stop) .stop) .stop)) (.alt 9 (.alt 5 (.alt 6 (.alt 10 (.pure 11 2047 .done) .stop) .stop) .stop) .stop))) (.alt 9 (.seg [(3,903),(4,911)] (.alt 5 (.alt 6 (.alt 10 (.pure 11 2047 .done) .stop) .stop) .stop)) .stop))))))) mixed (by decide+kernel)<|Dm U U U<|Ah U (Ab U fa35_0) U<|Ah U (Ab U fa32_2) U<|Ah U (Ab U fa35_0) U<|Ah U (Ab U fa32_2) U<|Hc ?_ ⟨?_,trivial⟩
   ·refine El U (Aj 3 (k:=2) U U U Ta25) U<|Ah U (Bc U Tu25) U<|Hc ?_ ⟨?_,trivial⟩
    ·refine Bo U (OpX.pick [] (F:=[_,_,_,_]) U (Ar U Tryz.call27 (Fr (m.extra.length) 2 (by omega) (by decide)))) U ?_;rintro _ _⟨_,⟨na,nc,gq,hQ,rfl,rfl⟩,rfl⟩;refine Dr5 U ?_
     refine Hc ?_ ⟨?_,trivial⟩
     ·refine Bo U (OpX.pick [1,0] (F:=[_,_,_]) U (Dh (xs:=(first0 m nb cb)) (ys:=numL m.extra.length 2) U U hS U (hQ _ _ (.tail _ (.head _))) (by first|omega|(simp only[List.length_append,Bd,List.length_cons,List.length_nil];omega)) (by first|omega|(simp only[List.length_append,Bd,List.length_cons,List.length_nil];omega)))) U ?_;rintro _ _⟨_,⟨gi,hSgi,rfl⟩,rfl⟩;refine Dr5 U ?_
      refine Dc (by decide)<|Au U (Aj 4 (k:=2) U U U Ta25) U<|Da<|By ?_
      refine Bo U (OpX.pick [0] (F:=[_,_,_,_]) U (Dh (xs:=(first0 m nb cb++numL m.extra.length 2)) (ys:=m.extra) U U hSgi U (hE.imp id (fun⟨b,o,h1,h2⟩=>⟨b,o,h1,h2.reads⟩)) (by first|omega|(simp only[List.length_append,Bd,List.length_cons,List.length_nil];omega)) (by first|omega|(simp only[List.length_append,Bd,List.length_cons,List.length_nil];omega)))) U ?_;rintro _ _⟨_,⟨gj,hSgj,rfl⟩,rfl⟩;refine Dr5 U ?_
      refine Ah U (Az U) U<|D.forget [0,1,1,1] (A:=[_,_,_,_]) U<|Dr4 U<|Dk6 1 3 5 7 10 82 U ?_
      exact⟨_,_,rfl,rfl,by rw[first1,if_neg (by omega)];exact hSgj⟩
     refine El U (Aj 4 (k:=2) U U U Ta25) U<|By ?_
     refine Bo U (OpX.pick [1,0] (F:=[_,_,_]) U (Dh (xs:=(first0 m nb cb)) (ys:=numL m.extra.length 2) U U hS U (hQ _ _ (.tail _ (.head _))) (by first|omega|(simp only[List.length_append,Bd,List.length_cons,List.length_nil];omega)) (by first|omega|(simp only[List.length_append,Bd,List.length_cons,List.length_nil];omega)))) U ?_;rintro _ _⟨_,⟨gi,hSgi,rfl⟩,rfl⟩;refine Dr5 U ?_
     refine By ?_
     refine Bo U (OpX.pick [0] (F:=[_,_,_,_]) U (Dh (xs:=(first0 m nb cb++numL m.extra.length 2)) (ys:=m.extra) U U hSgi U (hE.imp id (fun⟨b,o,h1,h2⟩=>⟨b,o,h1,h2.reads⟩)) (by first|omega|(simp only[List.length_append,Bd,List.length_cons,List.length_nil];omega)) (by first|omega|(simp only[List.length_append,Bd,List.length_cons,List.length_nil];omega)))) U ?_;rintro _ _⟨_,⟨gj,hSgj,rfl⟩,rfl⟩;refine Dr5 U ?_
     refine Ah U (Az U) U<|D.forget [0,1,1,1] (A:=[_,_,_,_]) U<|Dr4 U<|Dk6 1 3 5 7 10 82 U ?_
     exact⟨_,_,rfl,rfl,by rw[first1,if_neg (by omega)];exact hSgj⟩
    refine El U (Aj 3 (k:=2) U U U Ta25) U<|By ?_
    refine Bo U (OpX.pick [] (F:=[_,_,_,_]) U (Ar U Tryz.call27 (Fr (m.extra.length) 2 (by omega) (by decide)))) U ?_;rintro _ _⟨_,⟨na,nc,gq,hQ,rfl,rfl⟩,rfl⟩;refine Dr5 U ?_
    refine By ?_
    refine Bo U (OpX.pick [1,0] (F:=[_,_,_]) U (Dh (xs:=(first0 m nb cb)) (ys:=numL m.extra.length 2) U U hS U (hQ _ _ (.tail _ (.head _))) (by first|omega|(simp only[List.length_append,Bd,List.length_cons,List.length_nil];omega)) (by first|omega|(simp only[List.length_append,Bd,List.length_cons,List.length_nil];omega)))) U ?_;rintro _ _⟨_,⟨gi,hSgi,rfl⟩,rfl⟩;refine Dr5 U ?_
    refine By ?_
    refine Bo U (OpX.pick [0] (F:=[_,_,_,_]) U (Dh (xs:=(first0 m nb cb++numL m.extra.length 2)) (ys:=m.extra) U U hSgi U (hE.imp id (fun⟨b,o,h1,h2⟩=>⟨b,o,h1,h2.reads⟩)) (by first|omega|(simp only[List.length_append,Bd,List.length_cons,List.length_nil];omega)) (by first|omega|(simp only[List.length_append,Bd,List.length_cons,List.length_nil];omega)))) U ?_;rintro _ _⟨_,⟨gj,hSgj,rfl⟩,rfl⟩;refine Dr5 U ?_
    refine Ah U (Az U) U<|D.forget [0,1,1,1] (A:=[_,_,_,_]) U<|Dr4 U<|Dk6 1 3 5 7 10 82 U ?_
    exact⟨_,_,rfl,rfl,by rw[first1,if_neg (by omega)];exact hSgj⟩
   refine El U (Aj 3 (k:=2) U U U Ta25) U<|Dc (by decide)<|Au U (Aj 3 (k:=2) U U U Ta25) U<|Ba U (Bc U Tu25) U<|Da<|By ?_
   refine Bo U (OpX.pick [] (F:=[_,_,_,_]) U (Ar U Tryz.call27 (Fr (m.extra.length) 2 (by omega) (by decide)))) U ?_;rintro _ _⟨_,⟨na,nc,gq,hQ,rfl,rfl⟩,rfl⟩;refine Dr5 U ?_
   refine By ?_
   refine Bo U (OpX.pick [1,0] (F:=[_,_,_]) U (Dh (xs:=(first0 m nb cb)) (ys:=numL m.extra.length 2) U U hS U (hQ _ _ (.tail _ (.head _))) (by first|omega|(simp only[List.length_append,Bd,List.length_cons,List.length_nil];omega)) (by first|omega|(simp only[List.length_append,Bd,List.length_cons,List.length_nil];omega)))) U ?_;rintro _ _⟨_,⟨gi,hSgi,rfl⟩,rfl⟩;refine Dr5 U ?_
   refine By ?_
   refine Bo U (OpX.pick [0] (F:=[_,_,_,_]) U (Dh (xs:=(first0 m nb cb++numL m.extra.length 2)) (ys:=m.extra) U U hSgi U (hE.imp id (fun⟨b,o,h1,h2⟩=>⟨b,o,h1,h2.reads⟩)) (by first|omega|(simp only[List.length_append,Bd,List.length_cons,List.length_nil];omega)) (by first|omega|(simp only[List.length_append,Bd,List.length_cons,List.length_nil];omega)))) U ?_;rintro _ _⟨_,⟨gj,hSgj,rfl⟩,rfl⟩;refine Dr5 U ?_
   refine Ah U (Az U) U<|D.forget [0,1,1,1] (A:=[_,_,_,_]) U<|Dr4 U<|Dk6 1 3 5 7 10 82 U ?_
   exact⟨_,_,rfl,rfl,by rw[first1,if_neg (by omega)];exact hSgj⟩
  refine Ap ?_
  exact⟨_,_,rfl,rfl,by rw[first1,if_pos (by omega)];exact hS⟩
 rintro _ _⟨v,gh,hq14,rfl,hS⟩
 refine Av _ hq14<|Du (M:=fun ee ll=>∃(v:Value),∃(gh:Frag),keeps ee [1,3,5,7,10]=some [(1,.pointer (some ⟨b1,0,none⟩)),(3,.slice a1 nb.length c1),(5,.slice a2 cb.length c2),(7,.int .u8 ((flagsN m nb cb:Nat):Int)),(10,v)]∧ll=[gh,g2,g1,⟨b1,0,[.string m.name,.string m.comment,.slice ea m.extra.length ec,.int .i64 ((mo:Nat):Int),u8 m.os,.bool m.text,.bool m.checked,.bool m.ex,.bool m.nm,.bool m.cm,u8 m.flags,.slice va vn vc]⟩]∧(Sl 1 v (first2 m nb cb).length (bytesV (first2 m nb cb)) [gh])) ?_ ?_
 ·refine Cr<|Em U U<|Aa (Fa (b:=((8:Nat):Int)) U U (N.and_u8 (by omega) (by omega))) U<|Aa (S.ne (b:=((0:Nat):Int)) U U) U<|Ek6 1 3 5 7 10 96 U<|Bf U (fun h96=>?_) (fun h96=>?_)
  ·refine Al<|Em U U<|Em U U ?_
   refine Ai (OpX.pick [0,1] (F:=[_,_]) U (Dh (xs:=(first1 m nb cb)) (ys:=nb) U U hS U (hR1 _ _ (.tail _ (.head _))) (by first|omega|(simp only[List.length_append,Bd,List.length_cons,List.length_nil];omega)) (by first|omega|(simp only[List.length_append,Bd,List.length_cons,List.length_nil];omega)))) U ?_;rintro _ _⟨_,⟨gi,hSgi,rfl⟩,rfl⟩;refine Er4 U ?_
   refine Ai (Bn (vs:=[.int .u8 0]) (e:=5) [(0,.int .u8 0)] U (fun w=>by simp[Instr.buildSlice,Instr.fill,Value.cells,newRow,Tryz.runUnderlying25,Tryz.typeInfo5];rw[arr1])) U ?_;rintro _ _⟨yb,rfl,rfl⟩;refine Er5 U ?_
   refine Ai (OpX.pick [1,0] (F:=[_,_,_]) U (Dh (xs:=(first1 m nb cb++nb)) (ys:=[0]) U U hSgi U (.inr ⟨yb,0,rfl,Reads.mem (k:=0) (.tail _ (.head _)) U⟩) (by first|omega|(simp only[List.length_append,Bd,List.length_cons,List.length_nil];omega)) (by first|omega|(simp only[List.length_append,Bd,List.length_cons,List.length_nil];omega)))) U ?_;rintro _ _⟨_,⟨gj,hSgj,rfl⟩,rfl⟩;refine Er5 U ?_
   refine Ea U U<|Ds [0,2,1,1] (A:=[_,_,_,_]) U<|Er4 U<|Ek6 1 3 5 7 10 96 U ?_
   exact⟨_,_,rfl,rfl,by rw[first2,if_neg (by omega)];exact hSgj⟩
  refine Ap ?_
  exact⟨_,_,rfl,rfl,by rw[first2,if_pos (by omega)];exact hS⟩
 rintro _ _⟨v,gh,hq16,rfl,hS⟩
 refine Av _ hq16<|Du (M:=fun ee ll=>∃(v:Value),∃(gh:Frag),keeps ee [1,3,5,7,10]=some [(1,.pointer (some ⟨b1,0,none⟩)),(3,.slice a1 nb.length c1),(5,.slice a2 cb.length c2),(7,.int .u8 ((flagsN m nb cb:Nat):Int)),(10,v)]∧ll=[gh,g2,g1,⟨b1,0,[.string m.name,.string m.comment,.slice ea m.extra.length ec,.int .i64 ((mo:Nat):Int),u8 m.os,.bool m.text,.bool m.checked,.bool m.ex,.bool m.nm,.bool m.cm,u8 m.flags,.slice va vn vc]⟩]∧(Sl 1 v (first3 m nb cb).length (bytesV (first3 m nb cb)) [gh])) ?_ ?_
 ·refine Cr<|Em U U<|Aa (Fa (b:=((16:Nat):Int)) U U (N.and_u8 (by omega) (by omega))) U<|Aa (S.ne (b:=((0:Nat):Int)) U U) U<|Ek6 1 3 5 7 10 104 U<|Bf U (fun h104=>?_) (fun h104=>?_)
  ·refine Al<|Em U U<|Em U U ?_
   refine Ai (OpX.pick [0,0] (F:=[_,_]) U (Dh (xs:=(first2 m nb cb)) (ys:=cb) U U hS U (hR2 _ _ (.tail _ (.head _))) (by first|omega|(simp only[List.length_append,Bd,List.length_cons,List.length_nil];omega)) (by first|omega|(simp only[List.length_append,Bd,List.length_cons,List.length_nil];omega)))) U ?_;rintro _ _⟨_,⟨gi,hSgi,rfl⟩,rfl⟩;refine Er4 U ?_
   refine Ai (Bn (vs:=[.int .u8 0]) (e:=5) [(0,.int .u8 0)] U (fun w=>by simp[Instr.buildSlice,Instr.fill,Value.cells,newRow,Tryz.runUnderlying25,Tryz.typeInfo5];rw[arr1])) U ?_;rintro _ _⟨yb,rfl,rfl⟩;refine Er5 U ?_
   refine Ai (OpX.pick [1,0] (F:=[_,_,_]) U (Dh (xs:=(first2 m nb cb++cb)) (ys:=[0]) U U hSgi U (.inr ⟨yb,0,rfl,Reads.mem (k:=0) (.tail _ (.head _)) U⟩) (by first|omega|(simp only[List.length_append,Bd,List.length_cons,List.length_nil];omega)) (by first|omega|(simp only[List.length_append,Bd,List.length_cons,List.length_nil];omega)))) U ?_;rintro _ _⟨_,⟨gj,hSgj,rfl⟩,rfl⟩;refine Er5 U ?_
   refine Ea U U<|Ds [0,1,1,1] (A:=[_,_,_,_]) U<|Er4 U<|Ek6 1 3 5 7 10 104 U ?_
   exact⟨_,_,rfl,rfl,by rw[first3,if_neg (by omega)];exact hSgj⟩
  refine Ap ?_
  exact⟨_,_,rfl,rfl,by rw[first3,if_pos (by omega)];exact hS⟩
 rintro _ _⟨v,gh,hq18,rfl,hS⟩
 refine Av _ hq18<|Du (M:=fun ee ll=>∃(v:Value),∃(gh:Frag),keeps ee [1,3,5,7,10]=some [(1,.pointer (some ⟨b1,0,none⟩)),(3,.slice a1 nb.length c1),(5,.slice a2 cb.length c2),(7,.int .u8 ((flagsN m nb cb:Nat):Int)),(10,v)]∧ll=[gh,g2,g1,⟨b1,0,[.string m.name,.string m.comment,.slice ea m.extra.length ec,.int .i64 ((mo:Nat):Int),u8 m.os,.bool m.text,.bool m.checked,.bool m.ex,.bool m.nm,.bool m.cm,u8 m.flags,.slice va vn vc]⟩]∧(Sl 1 v (firstL m nb cb).length (bytesV (firstL m nb cb)) [gh])) ?_ ?_
 ·refine Cr<|Em U U<|Aa (Fa (b:=((2:Nat):Int)) U U (N.and_u8 (by omega) (by omega))) U<|Aa (S.ne (b:=((0:Nat):Int)) U U) U<|Ek6 1 3 5 7 10 112 U<|Bf U (fun h112=>?_) (fun h112=>?_)
  ·refine Al<|Em U U<|Em U U ?_
   refine Ai (Ar U Tryz.call28 (check_own hS (by omega) (by omega) _)) U ?_;rintro _ _⟨rfl,rfl⟩;refine Er4 U ?_
   refine Aa (Fa (b:=((65535:Nat):Int)) U U (N.and_u32 (by omega) (by omega))) U<|An (v:=.int .u32 ((crcOn IEEE 0 (first3 m nb cb)%65536:Nat):Int)) (congrArg (fun q:Nat=>Value.int .u32 (q:Int)) (Nat.and_two_pow_sub_one_eq_mod _ 16))<|Aa (Bv U Tu69 Tu2 (N.i64n (by omega))) U ?_
   refine Ai (OpX.pick [] (F:=[_,_,_,_]) U (Ar U Tryz.call27 (Fr (crcOn IEEE 0 (first3 m nb cb)%65536) 2 (by omega) (by decide)))) U ?_;rintro _ _⟨_,⟨na,nc,gq,hQ,rfl,rfl⟩,rfl⟩;refine Er5 U ?_
   refine Ai (OpX.pick [1,0] (F:=[_,_,_]) U (Dh (xs:=(first3 m nb cb)) (ys:=numL (crcOn IEEE 0 (first3 m nb cb)%65536) 2) U U hS U (hQ _ _ (.tail _ (.head _))) (by first|omega|(simp only[List.length_append,Bd,List.length_cons,List.length_nil];omega)) (by first|omega|(simp only[List.length_append,Bd,List.length_cons,List.length_nil];omega)))) U ?_;rintro _ _⟨_,⟨gi,hSgi,rfl⟩,rfl⟩;refine Er5 U ?_
   refine Ea U U<|Ds [0,1,1,1] (A:=[_,_,_,_]) U<|Er4 U<|Ek6 1 3 5 7 10 112 U ?_
   exact⟨_,_,rfl,rfl,by rw[firstL,if_neg (by omega)];exact hSgi⟩
  refine Ap ?_
  exact⟨_,_,rfl,rfl,by rw[firstL,if_pos (by omega)];exact hS⟩
 rintro _ _⟨v,gh,hq20,rfl,hS⟩
 refine Av _ hq20<|Cr<|Em U U<|Ea U U<|Ek6 1 2 3 5 7 10 U<|Bb ?_
 exact⟨_,rfl,gh,_,hS,rfl⟩
theorem rd4_drop(l:List UInt8)(flg d:Nat)(h:Hd):∃k,(rd4 l flg d h).2.1=l.drop k:=by
  unfold rd4
  repeat (first|exact⟨0,rfl⟩|exact⟨_,rfl⟩|split)
theorem rd3_drop(l:List UInt8)(flg d:Nat)(h:Hd):∃k,(rd3 l flg d h).2.1=l.drop k:=by
  unfold rd3
  split
  · exact rd4_drop _ _ _ _
  · split
    · exact⟨_,rfl⟩
    · obtain⟨k,hk⟩:=rd4_drop (l.drop (Fd l)) flg (strCrc d l) {h with comment:=strTxt l}
      exact⟨_,by rw[hk,List.drop_drop]⟩
theorem rd2_drop(l:List UInt8)(flg d:Nat)(h:Hd):∃k,(rd2 l flg d h).2.1=l.drop k:=by
  unfold rd2
  split
  · exact rd3_drop _ _ _ _
  · split
    · exact⟨_,rfl⟩
    · obtain⟨k,hk⟩:=rd3_drop (l.drop (Fd l)) flg (strCrc d l) {h with name:=strTxt l}
      exact⟨_,by rw[hk,List.drop_drop]⟩
theorem rd1_drop(l:List UInt8)(flg d:Nat)(h:Hd):∃k,(rd1 l flg d h).2.1=l.drop k:=by
  unfold rd1
  split
  · exact rd2_drop _ _ _ _
  · split
    · exact⟨_,rfl⟩
    · split
      · exact⟨_,by rw[List.drop_drop]⟩
      · obtain⟨k,hk⟩:=rd2_drop ((l.drop 2).drop (le16of l)) flg (crcOn IEEE (crcOn IEEE d (l.take 2)) ((l.drop 2).take (le16of l))) {h with extra:=some ((l.drop 2).take (le16of l))}
        exact⟨_,by rw[hk,List.drop_drop,List.drop_drop]⟩
theorem readHead_drop(l:List UInt8):∃k,(Ac l).2.1=l.drop k:=by
  unfold Ac
  split
  · exact⟨_,rfl⟩
  · split
    · obtain⟨k,hk⟩:=rd1_drop (l.drop 10) (l.getD 3 0).toNat (crcOn IEEE 0 (l.take 10)) {noHd with mod:=le32 (l.getD 4 0).toNat (l.getD 5 0).toNat (l.getD 6 0).toNat (l.getD 7 0).toNat,os:=(l.getD 9 0).toNat}
      exact⟨_,by rw[hk,List.drop_drop]⟩
    · exact⟨_,rfl⟩
theorem readHead_le(l:List UInt8):(Ac l).2.1.length≤l.length:=by
  obtain⟨k,hk⟩:=readHead_drop l
  rw[hk,List.length_drop];omega
def le32at(l:List UInt8)(k:Nat):Nat:=le32 (l.getD k 0).toNat (l.getD (k+1) 0).toNat (l.getD (k+2) 0).toNat (l.getD (k+3) 0).toNat
def fits(out t:List UInt8):Prop:=le32at t 0=crcOn IEEE 0 out∧le32at t 4=out.length%4294967296
instance (out t:List UInt8):Decidable (fits out t):=inferInstanceAs (Decidable (_∧_))
abbrev ZEnd:=Nat×List UInt8
def gzR(ms:Bool)(D:List UInt8):List UInt8×ZEnd:=
  match(run D .next [] 0).2 with
  |.bad=>((run D .next [] 0).1,5,[])
  |.done q=>
    if(D.drop q).length<8 then((run D .next [] 0).1,5,[])
    else if ¬fits (run D .next [] 0).1 (D.drop q)then((run D .next [] 0).1,3,[])
    else if ms=false then((run D .next [] 0).1,1,(D.drop q).drop 8)
    else if(Ac ((D.drop q).drop 8)).1≠.none then((run D .next [] 0).1,kindOf (Ac ((D.drop q).drop 8)).1,[])
    else if _h:(Ac ((D.drop q).drop 8)).2.1.length<D.length then
      ((run D .next [] 0).1++(gzR ms (Ac ((D.drop q).drop 8)).2.1).1,(gzR ms (Ac ((D.drop q).drop 8)).2.1).2)
    else((run D .next [] 0).1,5,[])
termination_by D.length
decreasing_by all_goals (first|assumption|(simp only[List.drop_drop]at*;assumption))
def gzT(ms:Bool)(D:List UInt8):List UInt8×ZEnd:=
  match(run D .next [] 0).2 with
  |.bad=>([],5,[])
  |.done q=>
    if(D.drop q).length<8 then([],5,[])
    else if ¬fits (run D .next [] 0).1 (D.drop q)then([],3,[])
    else if ms=false then([],1,(D.drop q).drop 8)
    else if(Ac ((D.drop q).drop 8)).1≠.none then([],kindOf (Ac ((D.drop q).drop 8)).1,[])
    else gzR ms (Ac ((D.drop q).drop 8)).2.1
section
variable {ms:Bool}{D:List UInt8}{q:Nat}
theorem gzR_eq:gzR ms D=((run D .next [] 0).1++(gzT ms D).1,(gzT ms D).2):=by
  rw[gzR,gzT]
  cases h:(run D .next [] 0).2 with
  |bad=>simp
  |done q=>
    simp only
    split
    · simp
    · split
      · simp
      · split
        · simp
        · split
          · simp
          · split
            · rfl
            · rename_i h1 h2 h3 h4 h5
              exfalso
              apply h5
              have:=readHead_le ((D.drop q).drop 8)
              simp only[List.length_drop]at this h1⊢
              omega
theorem gzT_bad(h:(run D .next [] 0).2=.bad):gzT ms D=([],5,[]):=by rw[gzT,h]
theorem gzT_short(h:(run D .next [] 0).2=.done q)(h1:(D.drop q).length<8):gzT ms D=([],5,[]):=by rw[gzT,h];simp only;rw[if_pos h1]
theorem gzT_sum(h:(run D .next [] 0).2=.done q)(h1:¬(D.drop q).length<8)(h2:¬fits (run D .next [] 0).1 (D.drop q)):gzT ms D=([],3,[]):=by rw[gzT,h];simp only;rw[if_neg h1,if_pos h2]
theorem gzT_one(h:(run D .next [] 0).2=.done q)(h1:¬(D.drop q).length<8)(h2:fits (run D .next [] 0).1 (D.drop q))(h3:ms=false):gzT ms D=([],1,(D.drop q).drop 8):=by
  rw[gzT,h];simp only;rw[if_neg h1,if_neg (fun h=>h h2),if_pos h3]
theorem gzT_head(h:(run D .next [] 0).2=.done q)(h1:¬(D.drop q).length<8)(h2:fits (run D .next [] 0).1 (D.drop q))(h3:ms≠false)(h4:(Ac ((D.drop q).drop 8)).1≠.none):gzT ms D=([],kindOf (Ac ((D.drop q).drop 8)).1,[]):=by
  rw[gzT,h];simp only;rw[if_neg h1,if_neg (fun h=>h h2),if_neg h3,if_pos h4]
theorem gzT_next(h:(run D .next [] 0).2=.done q)(h1:¬(D.drop q).length<8)(h2:fits (run D .next [] 0).1 (D.drop q))(h3:ms≠false)(h4:(Ac ((D.drop q).drop 8)).1=.none):gzT ms D=gzR ms (Ac ((D.drop q).drop 8)).2.1:=by
  rw[gzT,h];simp only;rw[if_neg h1,if_neg (fun h=>h h2),if_neg h3,if_neg (fun h=>h h4)]
end
theorem step_spec{K:Known}{ea:Fin 5→Addr}(hs:Sents K ea)(hc:Codes K){src:Src K ea}{dt:List UInt8}{fb hb:Nat}{R:ResR}{gv m k:Nat}{x1 x2 x3 A W H:Frag}{vs:List Value}{TL:Frags}
    (D:DecSt src dt fb hb R gv [] m x1 x2 x3 A ⟨fb,1045,.func (.func k) #[] #[]::vs⟩ W H TL)(hm:0<m):
    Fn Tryz.prog K k #[.pointer (some ⟨fb,0,none⟩)] (x1::x2::x3::A::⟨fb,1045,.func (.func k) #[] #[]::vs⟩::W::H::TL) (StepEnd src dt fb hb R gv m):=by
  generalize hT:(⟨fb,1045,.func (.func k) #[] #[]::vs⟩:Frag)=T at D⊢
  rcases D with⟨p,rfl,hN,hTL⟩|⟨rfl,t,last,hl,hd,⟨p,q,nb,out,trv,h,wr,rd,full,ss,cl,cd,⟨hA,b,ro,hB,rfl⟩,hn,hW,rfl,hR⟩,hTL⟩|⟨rfl,q,⟨out,trv,h,wr,rd,full,ss,last,hl,hd,cl,cd,⟨hA,b,ro,hB,rfl⟩,hW,rfl,hss,hcl,hR⟩,hTL⟩|⟨rfl,_⟩
  · have hk:k=82:=by
      obtain⟨q,nb,out,trv,h,wr,rd,full,ss,fin,hl,hd,cl,cd,_,_,_,rfl,_⟩:=hN
      simp only[ptF,Frag.mk.injEq,List.cons.injEq,Value.func.injEq,Go.Fn.func.injEq]at hT
      exact hT.2.2.1.1
    subst hk
    exact nextBlock_step hs hc hN hTL
  · have hk:k=92:=by
      simp only[ptF,Frag.mk.injEq,List.cons.injEq,Value.func.injEq,Go.Fn.func.injEq]at hT
      exact hT.2.2.1.1
    subst hk
    clear hT
    have hWA:=hW.isA
    have hWB:=hW.isB
    subst hWA hWB
    exact sym_step hs hA hB hn hW hR hTL (by omega) (by omega)
  · have hk:k=97:=by
      simp only[ptF,Frag.mk.injEq,List.cons.injEq,Value.func.injEq,Go.Fn.func.injEq]at hT
      exact hT.2.2.1.1
    subst hk
    clear hT
    have hsum:=hW.sum
    obtain⟨a0,c0,htr⟩:=hW.tr.nilv
    have hWA:=hW.isA
    have hWB:=hW.isB
    have hq:=hB.le
    subst hWA hWB
    have hb0:b=0:=by have:=hB.lt;omega
    subst hb0
    refine Fn.mono (Fn.frame (F:=TL) (copyData_spec hs src dt fb hb R gv last hl hd _ a0 c0 trv htr x1 x2 x3 q ro out h wr rd full ss cl cd hA hq hW.hist hW.rdLe hW.wrLt (by simpa using hsum) hss hcl hR)) ?_
    rintro v L'⟨L1,⟨rfl,y1,y2,y3,A,T,W,H,rfl,hE⟩,rfl⟩
    rcases hE with⟨pend,q2,hne,hS⟩|⟨p2,hlt,hN⟩|⟨pend,hE⟩
    · exact⟨rfl,pend,_,y1,y2,y3,A,T,W,H,_,.inl hne,.inr (.inr (.inl ⟨rfl,q2,hS,hTL⟩)),rfl⟩
    · exact⟨rfl,[],_,y1,y2,y3,A,T,W,H,TL,.inr (by omega),.inl ⟨p2,rfl,hN,hTL⟩,rfl⟩
    · exact⟨rfl,pend,_,y1,y2,y3,A,T,W,H,TL,.inr (by omega),.inr (.inr (.inr ⟨rfl,hE,hTL.junk⟩)),rfl⟩
  · exact absurd hm (Nat.lt_irrefl 0)
set_option maxHeartbeats 1000000
theorem reads_win{K:Known}{L:Frags}{hb i off:Nat}{h pend:List UInt8}(hL:L[i]? =some ⟨hb,0,bytesV h⟩)(hw:(h.drop off).take pend.length=pend):Reads K L hb off (bytesV pend):=by
  have:=Reads.frag (H0:=K) hL (k:=off) (vs:=bytesV pend) (by rw[Bh];unfold bytesV;rw[←List.map_drop,←List.map_take,hw])
  simpa using this
def DecOk{K:Known}{ea:Fin 5→Addr}(src:Src K ea)(dt:List UInt8)(fb:Nat)(R:ResR)(gv:Nat)(L:Frags):Prop:=
  ∃hb pend m x1 x2 x3 A T W H TL,DecSt src dt fb hb R gv pend m x1 x2 x3 A T W H TL∧(m=0→gv+pend.length=R.1.length)∧L=x1::x2::x3::A::T::W::H::TL
def DecFin{K:Known}{ea:Fin 5→Addr}(src:Src K ea)(dt:List UInt8)(fb:Nat)(R:ResR)(er:Er)(L:Frags):Prop:=
  ∃hb x1 x2 x3 A T W H TL,DecSt src dt fb hb R R.1.length [] 0 x1 x2 x3 A T W H TL∧EndOk src dt R.2 er x1 x2 x3∧L=x1::x2::x3::A::T::W::H::TL
def ReadEnd{K:Known}{ea:Fin 5→Addr}(src:Src K ea)(dt:List UInt8)(fb:Nat)(R:ResR)(gv pb po n:Nat)(cs:List Value)(r:Value)(L:Frags):Prop:=
  ∃k er L1,r=.tuple #[.int .i64 ((k:Nat):Int),Er.val ea er]∧k≤n∧k≤(R.1.drop gv).length∧L=L1++[⟨pb,po,bytesV ((R.1.drop gv).take k)++cs.drop k⟩]∧
    ((er=.none∧0<k∧DecOk src dt fb R (gv+k) L1)∨(er≠.none∧gv+k=R.1.length∧DecFin src dt fb R er L1))
theorem pend_take{R pend:List UInt8}{gv n:Nat}(h:pend=(R.drop gv).take pend.length):pend.take n=(R.drop gv).take (Nat.min pend.length n):=by
  conv=>lhs;rw[h]
  rw[List.take_take,Nat.min_comm]
theorem same_last(x1 x2 x3 A T W H B:Frag)(TL:Frags):Same (x1::x2::x3::A::T::W::H::B::TL) ((x1::x2::x3::A::T::W::H::TL)++[B]):=
  Same.perm (List.Perm.append_left [x1,x2,x3,A,T,W,H] (List.perm_append_comm (l₁:=[B])))
def mz(pend:List UInt8)(m:Nat):Nat:=if pend=[]then m else 0
theorem mz_step{pend:List UInt8}{m m2:Nat}(hm:0<m)(h:pend≠[]∨m2<m):mz pend m2<mz [] m:=by
  unfold mz
  rw[if_pos rfl]
  split
  · rename_i h1;exact h.resolve_left fun h2=>h2 h1
  · exact hm
theorem step_in{K:Known}{ea:Fin 5→Addr}(hs:Sents K ea)(hc:Codes K){src:Src K ea}{dt:List UInt8}{fb hb:Nat}{R:ResR}{gv m k:Nat}{x1 x2 x3 A W H:Frag}{vs:List Value}{TL:Frags}
    (D:DecSt src dt fb hb R gv [] m x1 x2 x3 A ⟨fb,1045,.func (.func k) #[] #[]::vs⟩ W H TL)(hm:0<m)(B:Frag):
    Fn Tryz.prog K k #[.pointer (some ⟨fb,0,none⟩)] (x1::x2::x3::A::⟨fb,1045,.func (.func k) #[] #[]::vs⟩::W::H::B::TL) fun r L=>
      r=.tuple #[]∧∃pend m2 y1 y2 y3 A T W H TL,(pend≠[]∨m2<m)∧DecSt src dt fb hb R gv pend m2 y1 y2 y3 A T W H TL∧L=y1::y2::y3::A::T::W::H::B::TL:=by
  refine Fn.lose (Fn.perm (List.Perm.append_left [x1,x2,x3,A,_,W,H] (List.perm_append_comm (l₁:=[B]))) (Fn.frame (F:=[B]) (step_spec hs hc D hm))) ?_
  rintro v L⟨L1,⟨rfl,pend,m2,y1,y2,y3,A,T,W,H,TL,h1,h2,rfl⟩,rfl⟩
  exact⟨_,[],((same_last y1 y2 y3 A T W H B TL).symm).trans (Same.of_eq (List.append_nil _).symm),rfl,pend,m2,y1,y2,y3,A,T,W,H,TL,h1,h2,rfl⟩
theorem all_drop{l:List UInt8}{n:Nat}(h:n=l.length):l.drop n=[]:=by rw[h,List.drop_length]
theorem decRead_walk{K:Known}{ea:Fin 5→Addr}(hs:Sents K ea)(hc:Codes K)(src:Src K ea)(dt:List UInt8)(fb hb:Nat)(R:ResR)(gv pb po n c:Nat)(cs:List Value)(hn:n=cs.length)(hn0:0<n)(pend0:List UInt8)(m0:Nat)(x1 x2 x3 A Tf Wf Hf:Frag)(TL:Frags)(hD:DecSt src dt fb hb R gv pend0 m0 x1 x2 x3 A Tf Wf Hf TL)(hall0:m0=0→gv+pend0.length=R.1.length):Fn Tryz.prog K 135 #[.pointer (some ⟨fb,0,none⟩),.slice (some ⟨pb,po,none⟩) (n) (c)] ([x1,x2,x3,A,Tf,Wf,Hf,⟨pb,po,cs⟩]++TL) (fun r L=>∃L2 J,Same L (L2++J)∧ReadEnd src dt fb R gv pb po n cs r L2):=by
 refine Fn.intro (args:=[.pointer (some ⟨fb,0,none⟩),.slice (some ⟨pb,po,none⟩) (n) (c)]) (RR:=Ret2 4 5 _) Tryz.func135 rfl rfl Tryz.ntmps135 (res2 Tryz.results135) ?_
 refine Bi (env2:=[(0,.pointer (some ⟨fb,0,none⟩)),(1,.slice (some ⟨pb,po,none⟩) (n) (c))]) U<|Cr<|Ea U U<|Aa (Az (v:=Er.val ea .none) U) U<|Ek4 0 1 4 5 U<|As<|Bw (fun mm ee ll=>∃(pend:List UInt8),∃(m:Nat),∃(x1:Frag),∃(x2:Frag),∃(x3:Frag),∃(A:Frag),∃(Tf:Frag),∃(Wf:Frag),∃(Hf:Frag),∃(TL:Frags),keeps ee [0,1]=some [(0,.pointer (some ⟨fb,0,none⟩)),(1,.slice (some ⟨pb,po,none⟩) (n) (c))]∧ll=[x1,x2,x3,A,Tf,Wf,Hf,⟨pb,po,cs⟩]++TL∧(DecSt src dt fb hb R gv pend m x1 x2 x3 A Tf Wf Hf TL)∧(m=0→gv+pend.length=R.1.length)∧mm=mz pend m) (_) ⟨pend0,m0,_,_,_,_,_,_,_,_,rfl,rfl,hD,hall0,rfl⟩ ?_
 rintro m0 _ _⟨pend,m,x1,x2,x3,A,Tf,Wf,Hf,TL,hk0,rfl,hD,hall0,hm0⟩
 refine Av _ hk0<|As<|Am<|Am ?_
 obtain⟨er,fv,c1,c2,c5,c6,c7,c8,trv,h,wr,rd,full,V⟩:=hD.view
 have hT:=V.isT
 have hW:=V.isW
 have hH:=V.isH
 subst hT hW hH
 obtain⟨a,ca,htv,hl32,hw⟩:=V.tr
 subst htv
 have hgl:=V.gvLe
 have hpi:=V.pendIs
 have hrl:=V.rdLe
 have hwl:=V.wrLt
 have hrlen:(R.1.drop gv).length=R.1.length-gv:=List.length_drop
 refine Al<|Em U U<|Aa (Ad U) U<|Aa (Ab U Ge) U<|Ag (Aj 4 (k:=4) U U U Ta25) U<|Aa (Bc U Tu25) U<|Aa (Fh (b:=((0:Nat):Int)) U U) U<|Ek3 0 1 12 U<|Bf U (fun h12=>?_) (fun h12=>?_)
 ·have hpos:0<pend.length:=by omega
  obtain⟨off,rfl,hwin,hcap⟩:=hw.resolve_left (fun h=>by rw[h]at hpos;exact absurd hpos (Nat.lt_irrefl _))
  obtain⟨k,hk⟩:∃k,k=Nat.min pend.length n:=⟨_,rfl⟩
  have hkl:k≤pend.length:=by rw[hk];exact Nat.min_le_left _ _
  have hkn:k≤n:=by rw[hk];exact Nat.min_le_right _ _
  have hkp:0<k:=by rw[hk];exact Nat.lt_min.2 ⟨hpos,hn0⟩
  have hbuf:bytesV (pend.take n)++cs.drop (Nat.min pend.length n)=bytesV ((R.1.drop gv).take k)++cs.drop k:=by rw[pend_take hpi,hk]
  have hpart:∀o2,some (⟨hb,off,none⟩:Addr)=some ⟨hb,o2,none⟩→k<pend.length→pend.length≤ca→some (⟨hb,part off k ca 1,none⟩:Addr)=some ⟨hb,o2+k,none⟩∧pend.length-k≤ca-k:=fun o2 e h1 h2=>by
    cases e
    exact⟨by rw[part,if_neg (by omega),Nat.mul_one],by omega⟩
  refine Cr<|Em U U<|Em U U<|Aa (Ad U) U<|Aa (Ab U Ge) U<|Ag (Aj 4 (k:=4) U U U Ta25) U ?_
  refine Ai (X.copyB 7 (l:=pend) U U U U (.inr ⟨hb,off,rfl,reads_win (i:=6) U hwin⟩) (by omega)) U ?_;rintro _ _⟨rfl,rfl⟩;refine Et9 U ?_
  refine An (v:=.int .i64 ((k:Nat):Int)) (by rw[hk])<|Ea U U<|Ek4 0 1 6 12 U<|Cr<|Em U U<|Em U U<|Aa (Ad U) U<|Aa (Ab U Ge) U<|Ag (Aj 4 (k:=4) U U U Ta25) U<|Em U U<|Aa (S.slL U U (by omega) Tu25 Tz5) U<|Aa (Ad U) U ?_
  refine Aa (Ab U Ge) U ?_
  refine Ao (Aq 4 (k:=4) U U U U U Tz25) ?_;rintro _ _⟨rfl,rfl⟩;refine Et9 U ?_
  refine Ek4 0 1 6 12 U<|Am<|Cr<|Em U U<|Aa (Ad U) U<|Aa (Ab U Ge) U<|Ag (Aj 4 (k:=4) U U U Ta25) U<|Aa (Bc U Tu25) U<|Aa (Ef (b:=((0:Nat):Int)) U U) U<|Ek5 0 1 6 12 33 U<|Bf U (fun h33=>?_) (fun h33=>?_)
  ·refine Am<|Bt [0,0,2,4,8,1,63] (.pure 0 30 (.pure 1 33 (.pure 2 35 (.pure 3 39 (.pure 5 31 (.seg [(4,47),(6,63)] .done)))))) mixed (by decide+kernel)<|Dm U U U<|Dm U U U<|Ah U (Ad U) U<|Ah U (Ab U Ee) U<|Ah U (Az U) U<|Dc (by decide)<|Au U (Aj 4 (k:=3) U U U Ta58) U<|Ba U (Az U) U<|Da<|Dk7 0 1 4 5 6 12 33 U ?_
   refine Bb ?_
   have hk:k=pend.length:=by omega
   have hg:=V.give k _ hkl (V.tr.drop hkl hpart)
   rw[show pend.drop k=[]from all_drop hk]at hg
   rcases V.kind with⟨rfl,hmp,_⟩|⟨hne,rfl,hE,hall⟩
   · exact⟨_,_,rfl,rfl,_,[],((same_last _ _ _ _ _ _ _ _ _).trans (Same.of_eq (List.append_nil _).symm)),k,.none,_,rfl,by omega,by omega,congrArg (fun z=>_++[(⟨pb,po,z⟩:Frag)]) hbuf,.inl ⟨rfl,by omega,hb,[],m,_,_,_,_,_,_,_,_,hg,fun h=>absurd hmp (by omega),rfl⟩⟩
   · have hgk:gv+k=R.1.length:=by
       rcases hall with h|h
       · rw[h]at hpos;exact absurd hpos (Nat.lt_irrefl _)
       · omega
     rw[hgk]at hg
     exact⟨_,_,rfl,rfl,_,[],((same_last _ _ _ _ _ _ _ _ _).trans (Same.of_eq (List.append_nil _).symm)),k,er,_,rfl,by omega,by omega,congrArg (fun z=>_++[(⟨pb,po,z⟩:Frag)]) hbuf,.inr ⟨hne,hgk,hb,_,_,_,_,_,_,_,_,hg,hE,rfl⟩⟩
  refine Ap<|Cr<|Em U U<|Ea U U<|Aa (Az (v:=Er.val ea .none) U) U<|Ek7 0 1 4 5 6 12 33 U<|Bb ?_
  have hg:=V.give k _ hkl (V.tr.drop hkl hpart)
  exact⟨_,_,rfl,rfl,_,[],((same_last _ _ _ _ _ _ _ _ _).trans (Same.of_eq (List.append_nil _).symm)),k,.none,_,rfl,by omega,by omega,congrArg (fun z=>_++[(⟨pb,po,z⟩:Frag)]) hbuf,.inl ⟨rfl,by omega,hb,_,m,_,_,_,_,_,_,_,_,hg,fun h=>by have:=hall0 h;rw[List.length_drop];omega,rfl⟩⟩
 have hp0:pend=[]:=List.eq_nil_of_length_eq_zero (by omega)
 subst hp0
 refine Ap<|Am<|Cr<|Em U U<|Aa (Ad U) U<|Aa (Ab U Ee) U<|Ag (Aj 4 (k:=3) U U U Ta58) U<|Ag (Df U) U<|Ek4 0 1 12 44 U<|Dn U (fun h44=>?_) (fun h44=>?_)
 ·refine Am<|Bt [0,1,2,4,0,31] (.pure 0 16 (.pure 1 17 (.pure 2 19 (.pure 4 15 (.seg [(3,23),(5,31)] .done))))) mixed (by decide+kernel)<|Dm U U U<|Ah U (Ad U) U<|Ah U (Ab U Ee) U<|Ah U (Az U) U<|Dc (by decide)<|Au U (Aj 4 (k:=3) U U U Ta58) U<|Ba U (Az U) U<|Da<|Dk6 0 1 4 5 12 44 U<|Bb ?_
  obtain⟨hne,rfl,hE,_⟩:=V.kind.resolve_left fun h=>h44 h.1
  have hg0:=hall0 rfl
  simp only[List.length_nil,Nat.add_zero]at hg0
  have hD3:=hD
  rw[hg0]at hD3
  exact⟨_,_,rfl,rfl,_,[],((same_last _ _ _ _ _ _ _ _ _).trans (Same.of_eq (List.append_nil _).symm)),0,er,_,rfl,Nat.zero_le _,Nat.zero_le _,rfl,.inr ⟨hne,by omega,hb,_,_,_,_,_,_,_,_,hD3,hE,rfl⟩⟩
 obtain⟨_,hmp,kk,hfv,hkk⟩:=V.kind.resolve_right fun h=>h.1 h44
 subst hfv
 have hcal:∀args w,(callFunc kk args).run Tryz.prog w=.ok (.enter kk args) w:=by rcases hkk with rfl|rfl|rfl;exact Tryz.call82;exact Tryz.call92;exact Tryz.call97
 refine Ap<|Cr<|Em U U<|Aa (Ad U) U<|Aa (Ab U Jb) U<|Ag (Aj 4 (k:=0) U U U Tryz.isAgg183) U<|Em U U ?_
 refine Ai (X.callv U U hcal (step_in hs hc hD hmp _)) U ?_;rintro _ _⟨rfl,pend2,m2,y1,y2,y3,A2,T2,W2,H2,TL2,hlt,hD2,rfl⟩;refine Et9 U ?_
 refine Ek4 0 1 12 44 U ?_
 obtain⟨er2,fv2,c12,c22,c52,c62,c72,c82,trv2,h2,wr2,rd2,full2,V2⟩:=hD2.view
 have hT2:=V2.isT
 have hW2:=V2.isW
 have hH2:=V2.isH
 subst hT2 hW2 hH2
 obtain⟨a2,ca2,htv2,hl322,hw2⟩:=V2.tr
 subst htv2
 have hgl2:=V2.gvLe
 have hrl2:=V2.rdLe
 have hwl2:=V2.wrLt
 refine Cr<|Em U U<|Aa (Ad U) U<|Aa (Ab U Ee) U<|Ag (Aj 4 (k:=3) U U U Ta58) U<|Ag (Df U) U<|Em U U<|Ha (fun g60=>?_) (fun g60=>?_)
 ·have he2:er2≠.none:=fun h=>by rw[h]at g60;exact absurd g60 (by decide)
  refine Ak 60 U U<|Em U U<|Ak 60 U U<|Aa (Ad U) U<|Ak 60 U U<|Aa (Ab U Ge) U<|Ak 60 U U<|Ag (Aj 4 (k:=4) U U U Ta25) U<|Ak 60 U U<|Aa (Bc U Tu25) U<|Ak 60 U U<|Aa (Ef (b:=((0:Nat):Int)) U U) U ?_
  refine Aa (Bz U U) U<|Ek5 0 1 12 44 67 U<|Bf U (fun h67=>?_) (fun h67=>?_)
  ·have hp2:pend2=[]:=List.eq_nil_of_length_eq_zero (by omega)
   refine Al<|Em U U<|Em U U<|Aa (Ad U) U<|Aa (Ab U Fe) U ?_
   refine Ai (OpX.pick [5] (F:=(_::_::_::_::_::_::_::_)) U (Ar U Tryz.call95 (Fg fb 1037 hb wr2 rd2 full2 hrl2 (by omega)))) U ?_;rintro _ _⟨_,⟨Aw,hfl,rfl⟩,rfl⟩;refine Et9 U ?_
   refine Dd [1,1,1,1,1,0,0,0] U<|Et9 U<|Aa (Ad U) U<|Aa (Ab U Ge) U ?_
   refine Ao (Aq 4 (k:=4) U U U (Ji hfl) U Tz25) ?_;rintro _ _⟨rfl,rfl⟩;refine Et9 U ?_
   refine Ek5 0 1 12 44 67 U ?_
   refine⟨_,?_,R.1.drop gv,0,_,_,_,_,_,_,_,_,rfl,rfl,V2.flush _ _ he2 hp2 hfl,fun _=>(by rw[hrlen];omega),rfl⟩;rw[hm0];exact mz_step hmp (.inr hmp)
  refine Ap ?_
  have hne2:pend2≠[]:=fun h=>by rw[h]at h67;exact h67 U
  obtain⟨_,hm20,_,hal2⟩:=V2.kind.resolve_left fun h=>he2 h.1
  refine⟨_,?_,pend2,m2,_,_,_,_,_,_,_,_,rfl,rfl,hD2,fun _=>hal2.resolve_left hne2,rfl⟩;rw[hm0];exact mz_step hmp hlt
 have he2:er2=.none:=Er.isNone_iff.1 (by simpa using g60)
 refine Ae 60 false U U U U<|Ae 60 false U U U U<|Ae 60 false U U U U<|Ae 60 false U U U U<|Ae 60 false U U U U<|Ae 60 false U U U U<|Aa (Bk U U) U<|Ek5 0 1 12 44 67 U<|C.no U (rfl)<|Ap ?_
 obtain⟨_,hm20,_⟩:=V2.kind.resolve_right fun h=>h.1 he2
 refine⟨_,?_,pend2,m2,_,_,_,_,_,_,_,_,rfl,rfl,hD2,fun h=>absurd hm20 (by omega),rfl⟩;rw[hm0];exact mz_step hmp hlt
set_option maxHeartbeats 1000000
theorem D.same{P:Program}{K:Known}{n:Nat}{ops:Array Oper}{ds:List Nat}{p:Plan}{env:Env}{L L2:Frags}{N:Post}(s:Same L L2)(h:wpD P K n ops ds p env L2 N):wpD P K n ops ds p env L N:=
  fun fuel listed l h0 h00 h1 h2 a w hf hw Nw k=>h fuel listed l h0 h00 h1 h2 a w hf ((s.agree K _).1 hw) Nw fun e l a w h f t=>k e l a w h f (t.sameL s)
theorem fill_four{place:Nat→Option (Nat×Nat)}{cells:Array Value}{i off:Nat}{a b c d:Value}{rest:List (Nat×Value)}(h1:place i=some (off,4))(ho:off+4≤cells.size):
    Instr.fill place cells ((i,.agg #[a,b,c,d])::rest)=Instr.fill place ((((cells.setIfInBounds off a).setIfInBounds (off+1) b).setIfInBounds (off+2) c).setIfInBounds (off+3) d) rest:=by
  rw[Instr.fill,h1]
  have e:(Value.agg #[a,b,c,d]).cells=#[a,b,c,d]:=rfl
  simp only[e]
  rw[if_neg (by simp;omega)]
  rfl
theorem zcSize:(Value.agg Tryz.zeroCells186).cells.size=1054:=by kernel_rfl
theorem zcSet(ab cb:Nat)(v1 v2 v3 v4:Value):((((((((((Value.agg Tryz.zeroCells186).cells.setIfInBounds 1 (.pointer none)).setIfInBounds 1035 (.pointer (some ⟨ab,0,none⟩))).setIfInBounds 1036 (.pointer (some ⟨cb,0,none⟩))).setIfInBounds 1037 v1).setIfInBounds (1037+1) v2).setIfInBounds (1037+2) v3).setIfInBounds (1037+3) v4).setIfInBounds 1045 (.func (.func 82) #[] #[])):Array Value)=
    (([[.nilIface,.pointer none,.int .i64 0,.int .u32 0,.int .u64 0],[.int .i64 0],(List.replicate 512 (.int .u32 0)),[.slice none 0 0,.int .u32 0],[.int .i64 0],(List.replicate 512 (.int .u32 0)),[.slice none 0 0,.int .u32 0],[.pointer (some ⟨ab,0,none⟩),.pointer (some ⟨cb,0,none⟩)],[v1,v2,v3,v4],[.int .u8 0,.int .u8 0,.int .u8 0,.int .u8 0],[.func (.func 82) #[] #[],.int .i64 0,.bool false,.nilIface,.slice none 0 0,.pointer none,.pointer none,.int .i64 0,.int .i64 0]]:List (List Value)).flatten).toArray:=by
  apply Array.ext'
  simp only[Array.toList_setIfInBounds]
  rw[zcDec]
  kernel_rfl
theorem resetBuild(ab cb hb wr rd:Nat)(full:Bool)(w:World):(Instr.build 186 [(1,.pointer none),(7,.pointer (some ⟨ab,0,none⟩)),(8,.pointer (some ⟨cb,0,none⟩)),(9,.agg #[.slice (some ⟨hb,0,none⟩) 32768 32768,.int .i64 ((wr:Nat):Int),.int .i64 ((rd:Nat):Int),.bool full]),(11,.func (.func 82) #[] #[])].toArray).run Tryz.prog w=.ok (.agg (([[.nilIface,.pointer none,.int .i64 0,.int .u32 0,.int .u64 0],[.int .i64 0],(List.replicate 512 (.int .u32 0)),[.slice none 0 0,.int .u32 0],[.int .i64 0],(List.replicate 512 (.int .u32 0)),[.slice none 0 0,.int .u32 0],[.pointer (some ⟨ab,0,none⟩),.pointer (some ⟨cb,0,none⟩)],[.slice (some ⟨hb,0,none⟩) 32768 32768,.int .i64 ((wr:Nat):Int),.int .i64 ((rd:Nat):Int),.bool full],[.int .u8 0,.int .u8 0,.int .u8 0,.int .u8 0],[.func (.func 82) #[] #[],.int .i64 0,.bool false,.nilIface,.slice none 0 0,.pointer none,.pointer none,.int .i64 0,.int .i64 0]]:List (List Value)).flatten).toArray) w:=by
  simp[Instr.build,Tryz.zeroValue186]
  rw[fill_one (off:=1) rfl rfl (by rw[zcSize];decide),fill_one (off:=1035) rfl rfl (by simp only[Array.size_setIfInBounds,zcSize];decide),fill_one (off:=1036) rfl rfl (by simp only[Array.size_setIfInBounds,zcSize];decide),fill_four (off:=1037) rfl (by simp only[Array.size_setIfInBounds,zcSize];decide),
    fill_one (off:=1045) rfl rfl (by simp only[Array.size_setIfInBounds,zcSize];decide),fill_nil]
  rw[zcSet]
  rfl
theorem dictInit_old{K:Known}(fb o hb:Nat)(h:List UInt8)(hl:h.length=32768)(c1 c2 c3:Value):Fn Tryz.prog K 83 #[.pointer (some ⟨fb,o,none⟩),.int .i64 ((32768:Nat):Int),.slice none 0 0] ([⟨hb,0,bytesV h⟩,⟨fb,o,[.slice (some ⟨hb,0,none⟩) 32768 32768,c1,c2,c3]⟩]) (fun r L=>r=.tuple #[]∧L=[⟨hb,0,bytesV h⟩,⟨fb,o,[.slice (some ⟨hb,0,none⟩) 32768 32768,.int .i64 0,.int .i64 0,.bool false]⟩]):=by
 refine Fn.intro (args:=[.pointer (some ⟨fb,o,none⟩),.int .i64 ((32768:Nat):Int),.slice none 0 0]) (RR:=Ret0 _) Tryz.func83 rfl rfl Tryz.ntmps83 (res0 Tryz.results83) ?_
 refine Bi (env2:=[(0,.pointer (some ⟨fb,o,none⟩)),(1,.int .i64 ((32768:Nat):Int)),(2,.slice none 0 0)]) U<|Cr<|Em U U<|Em U U<|Aa (Ad U) U<|Aa (Ab U Eb) U<|Ag (Aj 1 (k:=0) U U U Ta25) U<|Aa (Et (v:=.agg #[.slice (some ⟨hb,0,none⟩) 32768 32768,.int .i64 0,.int .i64 0,.bool false]) [(0,.slice (some ⟨hb,0,none⟩) 32768 32768)] U (fun w=>by simp[Instr.build,Instr.fill,Value.cells,Tryz.zeroValue181])) U<|Aa (Ad U) U ?_
 refine Ao (Bq 1 (k:=0) U U U U U U Tryz.sizeOf181 U) ?_;rintro _ _⟨rfl,rfl⟩;refine Er2 U ?_
 refine Ek3 0 1 2 U<|Am<|Cr<|Em U U<|Aa (Ad U) U<|Aa (Ab U Eb) U<|Ag (Aj 1 (k:=0) U U U Ta25) U<|Aa (S.capSl U Tu25) U<|Em U U<|Aa (Dl U U) U<|An (v:=.bool false) (congrArg Value.bool (by decide))<|Ek4 0 1 2 19 U ?_
 refine C.no U (rfl)<|Ap<|Cr<|Em U U<|Em U U<|Aa (Ad U) U<|Aa (Ab U Eb) U<|Ag (Aj 1 (k:=0) U U U Ta25) U<|Em U U<|Aa (S.slH U U (by omega) Tu25 Tz5) U<|An (v:=.slice (some ⟨hb,0,none⟩) 32768 32768) (Dj (by simp[part]) U U)<|Aa (Ad U) U ?_
 refine Aa (Ab U Eb) U ?_
 refine Ao (Aq 1 (k:=0) U U U U U Tz25) ?_;rintro _ _⟨rfl,rfl⟩;refine Er2 U ?_
 refine Ek4 0 1 2 19 U<|Am<|Cr<|Em U U<|Aa (Bc U Tu25) U<|Em U U<|Aa (Ad U) U<|Aa (Ab U Eb) U<|Ag (Aj 1 (k:=0) U U U Ta25) U<|Aa (Bc U Tu25) U<|Aa (Fh U U) U<|An (v:=.bool false) (congrArg Value.bool (by decide)) ?_
 refine Ek5 0 1 2 19 41 U<|C.no U (rfl)<|Ap<|Cr<|Em U U<|Em U U<|Aa (Ad U) U<|Aa (Ab U Eb) U<|Ag (Aj 1 (k:=0) U U U Ta25) U<|Em U U ?_
 refine Ai (X.copyB 0 (l:=[]) U U U U (.inl U) (by rw[Bh,hl];exact Nat.le_refl _)) U ?_;rintro _ _⟨rfl,rfl⟩;refine Er2 U ?_
 refine Aa (Ad U) U<|Aa (Ab U Ez) U ?_
 refine Ao (Aq 1 (k:=1) U U U U U Tz3) ?_;rintro _ _⟨rfl,rfl⟩;refine Er2 U ?_
 refine Ek5 0 1 2 19 41 U<|Am<|Am<|Bt [0,1,2,4,0,16,32,64,128,264] (.pure 0 496 (.pure 1 497 (.pure 2 499 (.pure 4 15 (.pure 5 31 (.pure 6 63 (.seg [(3,503),(7,127),(8,255),(9,511)] .done))))))) mixed (by decide+kernel)<|Dm U U U<|Ah U (Ad U) U<|Ah U (Ab U Ez) U<|Dm U U U<|Ah U (Ad U) U<|Ah U (Ab U Eb) U<|Dc (by decide)<|Au U (Aj 1 (k:=1) U U U Ta3) U ?_
 refine Au U (Aj 1 (k:=0) U U U Ta25) U<|Ba U (Bc U Tu25) U<|Ba U (Ef U U) U<|Dy (v:=.bool false) (congrArg Value.bool (by decide))<|Da<|Dk6 0 1 2 19 41 70 U<|C.no U (rfl)<|Ap<|Al<|Em U U<|Em U U<|Aa (Ad U) U ?_
 refine Aa (Ab U Ez) U<|Ag (Aj 1 (k:=1) U U U Ta3) U<|Aa (Ad U) U<|Aa (Ab U fa181_2) U ?_
 refine Ao (Aq 1 (k:=2) U U U U U Tz3) ?_;rintro _ _⟨rfl,rfl⟩;refine Er2 U ?_
 refine Ek6 0 1 2 19 41 70 U ?_
 exact⟨rfl,rfl⟩
def DecRaw(fb:Nat)(L:Frags):Prop:=∃ab cb hb e0 e2 e3 e4 t9 wr rd full h ws av cs c1 c2,t9.length=9∧h.length=32768∧ws.length=4∧av.length=316∧cs.length=19∧c1.length=515∧c2.length=515∧
  L=[⟨fb,0,[e0,.pointer none,e2,e3,e4]⟩,⟨fb,1045,t9⟩,⟨fb,1037,[.slice (some ⟨hb,0,none⟩) 32768 32768,.int .i64 ((wr:Nat):Int),.int .i64 ((rd:Nat):Int),.bool full]⟩,⟨hb,0,bytesV h⟩,⟨fb,1041,ws⟩,⟨fb,1035,[.pointer (some ⟨ab,0,none⟩),.pointer (some ⟨cb,0,none⟩)]⟩,⟨ab,0,av⟩,⟨cb,0,cs⟩,⟨fb,5,c1⟩,⟨fb,520,c2⟩]
def DecNew{K:Known}{ea:Fin 5→Addr}(src:Src K ea)(fb:Nat)(L:Frags):Prop:=∃Af Tf Wf Hf TL,L=Af::Tf::Wf::Hf::TL∧
  ∀dt x1 x2 x3,src.At dt x1 x2 x3→∃hb,DecSt src dt fb hb (run dt .next [] 0) 0 [] (8*dt.length+1) x1 x2 x3 Af Tf Wf Hf TL
def DcIn(dcv:Value)(DL:Frags):Prop:=(dcv=.nilIface∧DL=[])∨∃fb,dcv=.iface 190 (.pointer (some ⟨fb,0,none⟩))∧DecRaw fb DL
theorem DecSt.rawd{K:Known}{ea:Fin 5→Addr}{src:Src K ea}{dt:List UInt8}{fb hb:Nat}{R:ResR}{gv:Nat}{pend:List UInt8}{m:Nat}{x1 x2 x3 Af Tf Wf Hf:Frag}{TL:Frags}(D:DecSt src dt fb hb R gv pend m x1 x2 x3 Af Tf Wf Hf TL):
    ∃DL J,DecRaw fb DL∧∀G,Same (G++(Af::Tf::Wf::Hf::TL)) ((G++DL)++J):=by
  have mk:∀{TL:Frags} {v0 v1:List Value} {h:List UInt8} {wr rd:Nat} {full:Bool},v1.length=9→h.length=32768→(∃e0 e2 e3 e4,v0=[e0,.pointer none,e2,e3,e4])→JunkTL fb TL→DecRaw fb (⟨fb,0,v0⟩::⟨fb,1045,v1⟩::⟨fb,1037,[.slice (some ⟨hb,0,none⟩) 32768 32768,.int .i64 (((wr):Nat):Int),.int .i64 (((rd):Nat):Int),.bool full]⟩::⟨hb,0,bytesV (h)⟩::TL):=by
    rintro TL v0 v1 h wr rd full h1 h2⟨e0,e2,e3,e4,rfl⟩⟨ab,cb,ws,av,cs,c1,c2,h3,h4,h5,h6,h7,rfl⟩
    exact⟨ab,cb,hb,e0,e2,e3,e4,v1,wr,rd,full,h,ws,av,cs,c1,c2,h1,h2,h3,h4,h5,h6,h7,rfl⟩
  have one:∀{DL L:Frags},DecRaw fb DL→DL=L→∃DL J,DecRaw fb DL∧∀G,Same (G++L) ((G++DL)++J):=by
    rintro DL L h rfl
    exact⟨DL,[],h,fun G=>by rw[List.append_nil];exact Same.refl _⟩
  rcases D with⟨p,rfl,⟨q,nb,out,trv,h,wr,rd,full,ss,fin,hl,hd,cl,cd,⟨hA,b,ro,hB,rfl⟩,hn,hW,rfl,hss,hR⟩,hT⟩|⟨rfl,t,last,hl,hd,⟨p,q,nb,out,trv,h,wr,rd,full,ss,cl,cd,⟨hA,b,ro,hB,rfl⟩,hn,hW,rfl,hR⟩,hT⟩|⟨rfl,q,⟨out,trv,h,wr,rd,full,ss,last,hl,hd,cl,cd,⟨hA,b,ro,hB,rfl⟩,hW,rfl,hss,hcl,hR⟩,hT⟩|⟨rfl,⟨out,e,er,trv,h,wr,rd,full,hE,⟨a0,b0,c0,rfl⟩,hW,⟨a,b,c,d,f,g,i,rfl⟩,hR,hall⟩,hT⟩
  · have hWA:=hW.isA
    have hWB:=hW.isB
    subst hWA hWB
    exact one (mk U hW.hist.len ⟨_,_,_,_,rfl⟩ hT.junk) U
  · have hWA:=hW.isA
    have hWB:=hW.isB
    subst hWA hWB
    obtain⟨TL2,J,h2,_⟩:=hT.raw []
    have hs:=fun G=>hT.raw G
    obtain⟨ab,cb,ws,av,cs,lb,lo,hp,HL,HD,RT,h1,h2,h3,rfl,rfl,h6,h7,rfl,c1,c2,J,h8,h9,hS⟩:=hT
    refine⟨_,J,mk (TL:=[⟨fb,1041,ws⟩,⟨fb,1035,[.pointer (some ⟨ab,0,none⟩),.pointer (some ⟨cb,0,none⟩)]⟩,⟨ab,0,av⟩,⟨cb,0,cs⟩,⟨fb,5,c1⟩,⟨fb,520,c2⟩]) (v0:=[.iface src.t src.v,.pointer none,.int .i64 ro,.int .u32 ((b:Nat):Int),.int .u64 ((nb:Nat):Int)]) (v1:=[.func (.func 92) #[] #[],.int .i64 ((ss:Nat):Int),.bool last,.nilIface,trv,.pointer (some ⟨lb,lo,none⟩),.pointer hp,.int .i64 ((cl:Nat):Int),.int .i64 ((cd:Nat):Int)]) (wr:=wr) (rd:=rd) (full:=full) U hW.hist.len ⟨_,_,_,_,rfl⟩ ⟨ab,cb,ws,av,cs,c1,c2,h1,h2,h3,Fm h8,Fm h9,rfl⟩,fun G=>?_⟩
    have:=hS (G++[⟨fb,0,[.iface src.t src.v,.pointer none,.int .i64 (ro),.int .u32 (((b):Nat):Int),.int .u64 (((nb):Nat):Int)]⟩,⟨fb,1045,[.func (.func 92) #[] #[],.int .i64 (((ss):Nat):Int),.bool last,.nilIface,trv,(.pointer (some ⟨lb,lo,none⟩)),(.pointer hp),.int .i64 (((cl):Nat):Int),.int .i64 (((cd):Nat):Int)]⟩,⟨fb,1037,[.slice (some ⟨hb,0,none⟩) 32768 32768,.int .i64 (((wr):Nat):Int),.int .i64 (((rd):Nat):Int),.bool full]⟩,⟨hb,0,bytesV (h)⟩,⟨fb,1041,ws⟩,⟨fb,1035,[.pointer (some ⟨ab,0,none⟩),.pointer (some ⟨cb,0,none⟩)]⟩,⟨ab,0,av⟩,⟨cb,0,cs⟩])
    simp only[List.append_assoc,List.cons_append,List.nil_append]at this⊢
    exact this
  · have hWA:=hW.isA
    have hWB:=hW.isB
    subst hWA hWB
    exact one (mk U hW.hist.len ⟨_,_,_,_,rfl⟩ hT.junk) U
  · have hWA:=hW.isA
    have hWB:=hW.isB
    subst hWA hWB
    exact one (mk U hW.hist.len ⟨_,_,_,_,rfl⟩ hT) U
theorem z515(fb o:Nat)(F:Frags):Same ([⟨fb,o,[.int .i64 0]⟩,⟨fb,o+1,(List.replicate 512 (.int .u32 0))⟩,⟨fb,o+513,[.slice none 0 0,.int .u32 0]⟩]++F) (⟨fb,o,hufZ⟩::F):=by
  have e:hufZ=(([(o,[.int .i64 0]),(o+1,(List.replicate 512 (.int .u32 0))),(o+513,[.slice none 0 0,.int .u32 0])]:List (Nat×List Value)).map (·.2)).flatten:=by kernel_rfl
  rw[e]
  exact(Same.chunks fb F [(o,[.int .i64 0]),(o+1,(List.replicate 512 (.int .u32 0))),(o+513,[.slice none 0 0,.int .u32 0])] o (by simp[Gw])).symm
theorem decNew{K:Known}{ea:Fin 5→Addr}(src:Src K ea)(fb ab cb hb:Nat)(h:List UInt8)(av cs:List Value)(hl:h.length=32768)(ha:av.length=316)(hc:cs.length=19)(G:Frags):
    ∃DN,DecNew src fb DN∧Same (G++(decParts fb [.iface src.t src.v,.pointer none,.int .i64 0,.int .u32 0,.int .u64 0] [.int .i64 0] (List.replicate 512 (.int .u32 0)) [.slice none 0 0,.int .u32 0] [.int .i64 0] (List.replicate 512 (.int .u32 0)) [.slice none 0 0,.int .u32 0] [.pointer (some ⟨ab,0,none⟩),.pointer (some ⟨cb,0,none⟩)] [.slice (some ⟨hb,0,none⟩) 32768 32768,.int .i64 0,.int .i64 0,.bool false] [.int .u8 0,.int .u8 0,.int .u8 0,.int .u8 0] [.func (.func 82) #[] #[],.int .i64 0,.bool false,.nilIface,.slice none 0 0,.pointer none,.pointer none,.int .i64 0,.int .i64 0]++[⟨ab,0,av⟩,⟨cb,0,cs⟩,⟨hb,0,bytesV h⟩])) (G++DN):=by
  refine⟨[⟨fb,0,[.iface src.t src.v,.pointer none,.int .i64 0,.int .u32 0,.int .u64 0]⟩,⟨fb,1045,[.func (.func 82) #[] #[],.int .i64 0,.bool false,.nilIface,.slice none 0 0,.pointer none,.pointer none,.int .i64 0,.int .i64 0]⟩,⟨fb,1037,[.slice (some ⟨hb,0,none⟩) 32768 32768,.int .i64 0,.int .i64 0,.bool false]⟩,⟨hb,0,bytesV (h)⟩,⟨fb,1041,[.int .u8 0,.int .u8 0,.int .u8 0,.int .u8 0]⟩,⟨fb,1035,[.pointer (some ⟨ab,0,none⟩),.pointer (some ⟨cb,0,none⟩)]⟩,⟨ab,0,av⟩,⟨cb,0,cs⟩,⟨fb,5,hufZ⟩,⟨fb,520,hufZ⟩],⟨_,_,_,_,_,rfl,fun dt x1 x2 x3 hA=>⟨hb,.inl ⟨0,rfl,⟨0,0,[],.slice none 0 0,h,0,0,false,0,false,.pointer none,.pointer none,0,0,⟨hA,0,0,BitsIn.start dt (Nat.zero_le _),rfl⟩,by decide,⟨Hist.start h hl,Nat.le_refl _,by decide,rfl,rfl,TR.nil _ _ _ _,rfl,rfl⟩,rfl,.inl U,rfl⟩,⟨ab,cb,_,av,cs,hufZ,hufZ,rfl,ha,hc,rawZ,rawZ,rfl⟩⟩⟩⟩,Same.appendL G ?_⟩
  have e1:=z515 fb 5 [⟨fb,520,[.int .i64 0]⟩,⟨fb,520+1,(List.replicate 512 (.int .u32 0))⟩,⟨fb,520+513,[.slice none 0 0,.int .u32 0]⟩,⟨fb,0,[.iface src.t src.v,.pointer none,.int .i64 0,.int .u32 0,.int .u64 0]⟩,⟨fb,1045,[.func (.func 82) #[] #[],.int .i64 0,.bool false,.nilIface,.slice none 0 0,.pointer none,.pointer none,.int .i64 0,.int .i64 0]⟩,⟨fb,1037,[.slice (some ⟨hb,0,none⟩) 32768 32768,.int .i64 0,.int .i64 0,.bool false]⟩,⟨hb,0,bytesV (h)⟩,⟨fb,1041,[.int .u8 0,.int .u8 0,.int .u8 0,.int .u8 0]⟩,⟨fb,1035,[.pointer (some ⟨ab,0,none⟩),.pointer (some ⟨cb,0,none⟩)]⟩,⟨ab,0,av⟩,⟨cb,0,cs⟩]
  have e2:=z515 fb 520 [⟨fb,5,hufZ⟩,⟨fb,0,[.iface src.t src.v,.pointer none,.int .i64 0,.int .u32 0,.int .u64 0]⟩,⟨fb,1045,[.func (.func 82) #[] #[],.int .i64 0,.bool false,.nilIface,.slice none 0 0,.pointer none,.pointer none,.int .i64 0,.int .i64 0]⟩,⟨fb,1037,[.slice (some ⟨hb,0,none⟩) 32768 32768,.int .i64 0,.int .i64 0,.bool false]⟩,⟨hb,0,bytesV (h)⟩,⟨fb,1041,[.int .u8 0,.int .u8 0,.int .u8 0,.int .u8 0]⟩,⟨fb,1035,[.pointer (some ⟨ab,0,none⟩),.pointer (some ⟨cb,0,none⟩)]⟩,⟨ab,0,av⟩,⟨cb,0,cs⟩]
  refine Same.trans (Same.perm (Br (is:=[1,1,1,1,1,1,0,3,1,4,1,0,0,0]) (A:=[_,_,_,_,_,_,_,_,_,_,_,_,_,_]) (F:=[]) U)) ?_
  refine Same.trans (Same.of_eq (List.append_nil _)) (Same.trans e1 ?_)
  refine Same.trans (Same.perm (Br (is:=[1,1,1]) (A:=[_,_,_]) (F:=_::_) U)) (Same.trans e2 ?_)
  exact(Same.perm (Br (is:=[2,2,2,2,2,2,2,2,1,0]) U)).trans (Same.of_eq (List.append_nil _))
theorem allOneR(ab cb hb wr rd:Nat)(full:Bool):(([[.nilIface,.pointer none,.int .i64 0,.int .u32 0,.int .u64 0],[.int .i64 0],(List.replicate 512 (.int .u32 0)),[.slice none 0 0,.int .u32 0],[.int .i64 0],(List.replicate 512 (.int .u32 0)),[.slice none 0 0,.int .u32 0],[.pointer (some ⟨ab,0,none⟩),.pointer (some ⟨cb,0,none⟩)],[.slice (some ⟨hb,0,none⟩) 32768 32768,.int .i64 ((wr:Nat):Int),.int .i64 ((rd:Nat):Int),.bool full],[.int .u8 0,.int .u8 0,.int .u8 0,.int .u8 0],[.func (.func 82) #[] #[],.int .i64 0,.bool false,.nilIface,.slice none 0 0,.pointer none,.pointer none,.int .i64 0,.int .i64 0]]:List (List Value)).flatten).all one=true:=by kernel_rfl
theorem lenR(ab cb hb wr rd:Nat)(full:Bool):(([[.nilIface,.pointer none,.int .i64 0,.int .u32 0,.int .u64 0],[.int .i64 0],(List.replicate 512 (.int .u32 0)),[.slice none 0 0,.int .u32 0],[.int .i64 0],(List.replicate 512 (.int .u32 0)),[.slice none 0 0,.int .u32 0],[.pointer (some ⟨ab,0,none⟩),.pointer (some ⟨cb,0,none⟩)],[.slice (some ⟨hb,0,none⟩) 32768 32768,.int .i64 ((wr:Nat):Int),.int .i64 ((rd:Nat):Int),.bool full],[.int .u8 0,.int .u8 0,.int .u8 0,.int .u8 0],[.func (.func 82) #[] #[],.int .i64 0,.bool false,.nilIface,.slice none 0 0,.pointer none,.pointer none,.int .i64 0,.int .i64 0]]:List (List Value)).flatten).length=1054:=by kernel_rfl
theorem decReset_walk{K:Known}{ea:Fin 5→Addr}(src:Src K ea)(fb ab cb hb:Nat)(e0 e2 e3 e4:Value)(t9:List Value)(wr rd:Nat)(full:Bool)(h:List UInt8)(ws av cs c1 c2:List Value)(h9:t9.length=9)(hl:h.length=32768)(hws:ws.length=4)(hav:av.length=316)(hcs:cs.length=19)(h1:c1.length=515)(h2:c2.length=515):Fn Tryz.prog K 136 #[.pointer (some ⟨fb,0,none⟩),.iface src.t src.v,.slice none 0 0] ([⟨fb,0,[e0,.pointer none,e2,e3,e4]⟩,⟨fb,1045,t9⟩,⟨fb,1037,[.slice (some ⟨hb,0,none⟩) 32768 32768,.int .i64 ((wr:Nat):Int),.int .i64 ((rd:Nat):Int),.bool full]⟩,⟨hb,0,bytesV (h)⟩,⟨fb,1041,ws⟩,⟨fb,1035,[.pointer (some ⟨ab,0,none⟩),.pointer (some ⟨cb,0,none⟩)]⟩,⟨ab,0,av⟩,⟨cb,0,cs⟩,⟨fb,5,c1⟩,⟨fb,520,c2⟩]) (fun r L=>r=Er.val ea .none∧∃DN,DecNew src fb DN∧Same L DN):=by
 refine Fn.intro (args:=[.pointer (some ⟨fb,0,none⟩),.iface src.t src.v,.slice none 0 0]) (RR:=Ret1 6 _) Tryz.func136 rfl rfl Tryz.ntmps136 (res1 Tryz.results136) ?_
 refine Bi (env2:=[(0,.pointer (some ⟨fb,0,none⟩)),(1,.iface src.t src.v),(2,.slice none 0 0)]) U<|Cr<|Aa (Az (v:=Er.val ea .none) U) U<|Ek4 0 1 2 6 U<|Am<|Bt [0,0,2,4,8,0,32,64,128,0,512,1024,2048,0,8192,16384,32768,69904,262143,524287] (.pure 0 262142 (.pure 1 131041 (.pure 2 131043 (.pure 3 131047 (.pure 5 130591 (.pure 6 130623 (.pure 7 130687 (.pure 9 123391 (.pure 10 123903 (.pure 11 124927 (.pure 13 8191 (.pure 14 16383 (.pure 15 32767 (.seg [(4,131055),(8,130815),(12,126975),(16,65535),(17,131071),(18,262143)] (.alt 19 .done .stop))))))))))))))) mixed (by decide+kernel)<|Dm U U U<|Dm U U U<|Ah U (Ad U) U<|Ah U (Ab U fa186_1) U<|Dm U U U<|Ah U (Ad U) U ?_
 refine Ah U (Ab U fa186_7) U<|Dm U U U<|Ah U (Ad U) U<|Ah U (Ab U fa186_8) U<|Dm U U U<|Ah U (Ad U) U<|Ah U (Ab U Fe) U<|Dc (by decide)<|Au U (Aj 0 (k:=1) U U U Tryz.isAgg132) U<|Au U (Aj 5 (k:=0) U U U Ta178) U<|Au U (Aj 5 (k:=1) U U U Tryz.isAgg179) U<|Au U (De 2 (k:=0) U U U U Tryz.isAgg181 Tryz.sizeOf181) U ?_
 refine Ba U (Et [(1,.pointer none),(7,.pointer (some ⟨ab,0,none⟩)),(8,.pointer (some ⟨cb,0,none⟩)),(9,.agg #[.slice (some ⟨hb,0,none⟩) 32768 32768,.int .i64 ((wr:Nat):Int),.int .i64 ((rd:Nat):Int),.bool full]),(11,.func (.func 82) #[] #[])] U (resetBuild ab cb hb wr rd full)) U<|Ba U (Ad U) U<|Da<|Hb [0,7,7,4,1,2,0,0,0,0] (A:=[_,_,_,_,_,_,_,_,_,_]) (F:=[]) U<|D.same (Same.chunks fb [⟨hb,0,bytesV (h)⟩,⟨ab,0,av⟩,⟨cb,0,cs⟩] ([(0,[e0,.pointer none,e2,e3,e4]),(5,c1),(520,c2),(1035,[.pointer (some ⟨ab,0,none⟩),.pointer (some ⟨cb,0,none⟩)]),(1037,[.slice (some ⟨hb,0,none⟩) 32768 32768,.int .i64 ((wr:Nat):Int),.int .i64 ((rd:Nat):Int),.bool full]),(1041,ws),(1045,t9)]:List (Nat×List Value)) 0 (by simp[Gw,h1,h2,hws])).symm<|Dz (L2:=[⟨fb,0,_⟩,_,_,_]) U<|By ?_
 refine Di U (Bq 0 (k:=0) U U U (allOneR ab cb hb wr rd full) (lenR ab cb hb wr rd full) (by rw[Nat.ble_eq];simp[h1,h2,hws,h9]) Tryz.sizeOf186 U) ?_
 rintro _ _⟨rfl,rfl⟩
 refine Dz (L2:=[⟨fb,0,([[.nilIface,.pointer none,.int .i64 0,.int .u32 0,.int .u64 0],[.int .i64 0],(List.replicate 512 (.int .u32 0)),[.slice none 0 0,.int .u32 0],[.int .i64 0],(List.replicate 512 (.int .u32 0)),[.slice none 0 0,.int .u32 0],[.pointer (some ⟨ab,0,none⟩),.pointer (some ⟨cb,0,none⟩)],[.slice (some ⟨hb,0,none⟩) 32768 32768,.int .i64 ((wr:Nat):Int),.int .i64 ((rd:Nat):Int),.bool full],[.int .u8 0,.int .u8 0,.int .u8 0,.int .u8 0],[.func (.func 82) #[] #[],.int .i64 0,.bool false,.nilIface,.slice none 0 0,.pointer none,.pointer none,.int .i64 0,.int .i64 0]]:List (List Value)).flatten⟩,⟨hb,0,bytesV (h)⟩,⟨ab,0,av⟩,⟨cb,0,cs⟩]) (congrArg (fun z=>[(⟨fb,0,z⟩:Frag),⟨hb,0,bytesV (h)⟩,⟨ab,0,av⟩,⟨cb,0,cs⟩]) (by rw[List.take_zero,List.nil_append,List.drop_eq_nil_of_le (by simp[h1,h2,hws,h9]),List.append_nil]))<|D.same (decSame fb [⟨hb,0,bytesV (h)⟩,⟨ab,0,av⟩,⟨cb,0,cs⟩] [.nilIface,.pointer none,.int .i64 0,.int .u32 0,.int .u64 0] [.int .i64 0] (List.replicate 512 (.int .u32 0)) [.slice none 0 0,.int .u32 0] [.int .i64 0] (List.replicate 512 (.int .u32 0)) [.slice none 0 0,.int .u32 0] [.pointer (some ⟨ab,0,none⟩),.pointer (some ⟨cb,0,none⟩)] [.slice (some ⟨hb,0,none⟩) 32768 32768,.int .i64 ((wr:Nat):Int),.int .i64 ((rd:Nat):Int),.bool full] [.int .u8 0,.int .u8 0,.int .u8 0,.int .u8 0] [.func (.func 82) #[] #[],.int .i64 0,.bool false,.nilIface,.slice none 0 0,.pointer none,.pointer none,.int .i64 0,.int .i64 0] U U List.length_replicate U U List.length_replicate U U U U)<|Dz (L2:=[⟨fb,0,_⟩,⟨fb,5,_⟩,⟨fb,6,_⟩,⟨fb,518,_⟩,⟨fb,520,_⟩,⟨fb,521,_⟩,⟨fb,1033,_⟩,⟨fb,1035,_⟩,⟨fb,1037,_⟩,⟨fb,1041,_⟩,⟨fb,1045,_⟩,_,_,_]) U<|Dk4 0 1 2 6 U<|Cr<|Em U U<|Em U U ?_
 refine Ai (OpX.pick [0] (F:=[_,_,_,_,_,_,_,_,_,_,_,_,_]) U (Ar U Tryz.call81 (makeReader_spec src fb _ _ _ _ _))) U ?_;rintro _ _⟨_,⟨rfl,rfl⟩,rfl⟩;refine Er14 U ?_
 refine Dd [0,0,0,0,0,0,0,0,0,0,0,0,0,0] U<|Er14 U<|Ek3 0 2 6 U<|Cr<|Em U U<|Aa (Ad U) U<|Aa (Ab U Fe) U<|Em U U ?_
 refine Ai (OpX.pick [11,8] (F:=[_,_,_,_,_,_,_,_,_,_,_,_]) U (Ar U Tryz.call83 (dictInit_old fb 1037 hb h hl _ _ _))) U ?_;rintro _ _⟨_,⟨rfl,rfl⟩,rfl⟩;refine Er14 U ?_
 refine Dd [2,2,2,2,2,2,2,2,1,1,1,0,0,0] U<|Er14 U<|Ek2 0 6 U<|Cr<|Aa (Az (v:=Er.val ea .none) U) U<|Ek2 0 6 U<|Bb ?_
 obtain⟨DN,hDN,hS⟩:=decNew src fb ab cb hb h av cs hl hav hcs []
 refine⟨_,rfl,rfl,DN,hDN,Same.trans ?_ hS⟩
 exact(Same.perm (Br (is:=[0,0,0,0,0,0,0,0,0,0,0,1,1,0]) U)).trans (Same.of_eq (List.append_nil _))
theorem decReset_in{K:Known}{ea:Fin 5→Addr}(src:Src K ea){fb:Nat}{DL:Frags}(hD:DecRaw fb DL)(G:Frags):
    Fn Tryz.prog K 136 #[.pointer (some ⟨fb,0,none⟩),.iface src.t src.v,.slice none 0 0] (G++DL) fun r L=>r=Er.val ea .none∧∃DN,DecNew src fb DN∧L=G++DN:=by
  obtain⟨ab,cb,hb,e0,e2,e3,e4,t9,wr,rd,full,h,ws,av,cs,c1,c2,h1,h2,h3,h4,h5,h6,h7,rfl⟩:=hD
  refine Fn.sameR (Fn.perm List.perm_append_comm (Fn.frame (F:=G) (decReset_walk src fb ab cb hb e0 e2 e3 e4 t9 wr rd full h ws av cs c1 c2 h1 h2 h3 h4 h5 h6 h7))) ?_
  rintro v L⟨L1,⟨rfl,DN,hDN,hS⟩,rfl⟩
  exact⟨G++DN,(Same.perm List.perm_append_comm).trans (Same.appendL G hS),rfl,DN,hDN,rfl⟩
theorem flateNew_in{K:Known}{ea:Fin 5→Addr}(src:Src K ea)(G:Frags):
    Fn Tryz.prog K 74 #[.iface src.t src.v] G fun r L=>∃fb DN,r=.iface 190 (.pointer (some ⟨fb,0,none⟩))∧DecNew src fb DN∧L=G++DN:=by
  refine Fn.sameR (Fn.frame (L:=[]) (F:=G) (flateNew_spec src)) ?_
  rintro v L⟨L1,⟨fb,ab,cb,hb,rfl,rfl⟩,rfl⟩
  obtain⟨DN,hDN,hS⟩:=decNew src fb ab cb hb (List.replicate 32768 0) (List.replicate 316 (.int .i64 0)) (List.replicate 19 (.int .i64 0)) List.length_replicate List.length_replicate List.length_replicate G
  refine⟨G++DN,(Same.perm List.perm_append_comm).trans (Same.trans (Same.of_eq ?_) hS),fb,DN,rfl,hDN,rfl⟩
  have e:bytesV (List.replicate 32768 0)=List.replicate 32768 (.int .u8 0):=by unfold bytesV;rw[List.map_replicate];rfl
  rw[e];rfl
theorem decRead_spec{K:Known}{ea:Fin 5→Addr}(hs:Sents K ea)(hc:Codes K){src:Src K ea}{dt:List UInt8}{fb:Nat}{R:ResR}{gv:Nat}{L0:Frags}(hD:DecOk src dt fb R gv L0)(pb po n c:Nat)(cs:List Value)(hn:n=cs.length)(hn0:0<n):
    Fn Tryz.prog K 135 #[.pointer (some ⟨fb,0,none⟩),.slice (some ⟨pb,po,none⟩) (n) (c)] (L0++[⟨pb,po,cs⟩]) (ReadEnd src dt fb R gv pb po n cs):=by
  obtain⟨hb,pend,m,x1,x2,x3,Af,Tf,Wf,Hf,TL,hd,hall,rfl⟩:=hD
  refine Fn.lose (Fn.sameL (same_last x1 x2 x3 Af Tf Wf Hf _ TL).symm (decRead_walk hs hc src dt fb hb R gv pb po n c cs hn hn0 pend m x1 x2 x3 Af Tf Wf Hf TL hd hall)) ?_
  exact fun v L h=>h
theorem DecNew.ok{K:Known}{ea:Fin 5→Addr}{src:Src K ea}{fb:Nat}{DN:Frags}(h:DecNew src fb DN){dt:List UInt8}{x1 x2 x3:Frag}(hA:src.At dt x1 x2 x3):DecOk src dt fb (run dt .next [] 0) 0 (x1::x2::x3::DN):=by
  obtain⟨Af,Tf,Wf,Hf,TL,rfl,h⟩:=h
  obtain⟨hb,h⟩:=h dt x1 x2 x3 hA
  exact⟨hb,[],_,x1,x2,x3,Af,Tf,Wf,Hf,TL,h,fun h=>by omega,rfl⟩
theorem dmRead(b:Nat)(w:World):(method (Tryz.prog.types.size+Made.depth) 190 (.pointer (some ⟨b,0,none⟩)) "Read").run Tryz.prog w=.ok (135,.pointer (some ⟨b,0,none⟩)) w:=by
  obtain⟨d,hd⟩:=depthS
  rw[hd]
  simp[method,Tryz.typeInfo190,Tryz.t190,Tryz.runUnderlying190,follow,receiverAt,Place.get]
theorem dmReset(b:Nat)(w:World):(method (Tryz.prog.types.size+Made.depth) 190 (.pointer (some ⟨b,0,none⟩)) "Reset").run Tryz.prog w=.ok (136,.pointer (some ⟨b,0,none⟩)) w:=by
  obtain⟨d,hd⟩:=depthS
  rw[hd]
  simp[method,Tryz.typeInfo190,Tryz.t190,Tryz.runUnderlying190,follow,receiverAt,Place.get]
theorem dmBoth0:(Tryz.prog.info? 190).map (fun i=>(lacking #[("Reset",160)] i.methods).isEmpty)=some true:=by kernel_rfl
theorem dmBoth(want:Array (String×TypeId))(h:Tryz.prog.underlying 159=some (.interface want)):(Tryz.prog.info? 190).map (fun i=>(lacking want i.methods).isEmpty)=some true:=by
  have h2:=(Tryz.underlying159).symm.trans h
  simp only[Option.some.injEq,TypeDesc.interface.injEq]at h2
  rw[←h2]
  exact dmBoth0
def isNilV:Value→Bool
  |.nilIface=>true
  |_=>false
theorem DcIn.nil{dcv:Value}{DL:Frags}(h:DcIn dcv DL)(hn:isNilV dcv=true):dcv=.nilIface∧DL=[]:=by
  rcases h with h|⟨fb,rfl,_⟩
  · exact h
  · exact absurd hn (by simp[isNilV])
theorem DcIn.dec{dcv:Value}{DL:Frags}(h:DcIn dcv DL)(hn:isNilV dcv=false):∃fb,dcv=.iface 190 (.pointer (some ⟨fb,0,none⟩))∧DecRaw fb DL:=by
  rcases h with⟨rfl,_⟩|h
  · exact absurd hn (by simp[isNilV])
  · exact h
theorem S.eqDc{K:Known}{n:Nat}{env:Env}{L:Frags}{ty t yT:TypeId}{x:Operand}{dcv:Value}{DL:Frags}{want:Array (String×TypeId)}(h:DcIn dcv DL)(hx:ev? env x=some dcv)(hu:Tryz.prog.underlying t=some (.interface want)):
    OpS Tryz.prog K n (.binOp .eql t x (.const .nilIface) yT) ty env L (.bool (isNilV dcv)):=by
  rcases h with⟨rfl,_⟩|⟨fb,rfl,_⟩
  · exact S.eqNilN hx hu
  · exact S.eqNilI hx hu
theorem E.shed{P:Program}{H0:Known}{n:Nat}{ops:Array Oper}{l:List Oper}{env:Env}{L A F:Frags}{N:Post}(is:List Nat)(hp:picks is L=some (A,F))(h:wpE P H0 n ops l env F N):wpE P H0 n ops l env L N:=by
  intro a w hf hw Q s
  have p:=(Br hp).trans List.perm_append_comm
  have hA:Agree H0 (F++A) w.heap:=hw.perm p
  exact h a w hf hA.drop Q fun e l a' w' h f t=>s e l a' w' h f ((To.frame hA t).drop.permL p)
def HeadEnd{K:Known}{ea:Fin 5→Addr}(src:Src K ea)(l:List UInt8)(zb:Nat)(c0 c1 c2 c3 c4 c5 c9 dcv:Value)(DL:Frags)(r:Value)(L:Frags):Prop:=
  ∃hs f1 f2 f3 d2 bs2 hb,hs.length=6∧hs.all one=true∧r=.tuple #[.agg hs.toArray,Er.val ea (Ac l).1]∧src.At (Ac l).2.1 f1 f2 f3∧bs2.length=512∧d2<4294967296∧
    (((Ac l).1≠.none∧∃T,L=[f1,f2,f3,⟨zb,0,[c0,c1,c2,c3,c4,c5,.iface src.t src.v,dcv,.int .u32 ((d2:Nat):Int),c9]⟩,⟨zb,10,bs2⟩,⟨hb,0,hs⟩]++(T++DL))∨
     ((Ac l).1=.none∧∃xa xn X fb DN,ExAt (Ac l).2.2.extra xa xn X∧hs=headV (Ac l).2.2 xa xn∧d2=0∧DecNew src fb DN∧
        L=[f1,f2,f3,⟨zb,0,[c0,c1,c2,c3,c4,c5,.iface src.t src.v,.iface 190 (.pointer (some ⟨fb,0,none⟩)),.int .u32 ((d2:Nat):Int),c9]⟩,⟨zb,10,bs2⟩,⟨hb,0,hs⟩,X]++DN))
theorem readHeader_first{K:Known}{ea:Fin 5→Addr}(hs:Sents K ea)(src:Src K ea)(l:List UInt8)(x1 x2 x3:Frag)(zb d0:Nat)(c0 c1 c2 c3 c4 c5 c9 dcv:Value)(bs0:List Value)(DL:Frags)(hDL:DcIn dcv DL)(hA:src.At l x1 x2 x3)(hbs0:bs0.length=512)(hd0:d0<4294967296):Fn Tryz.prog K 51 #[.pointer (some ⟨zb,0,none⟩)] ([x1,x2,x3,⟨zb,0,[c0,c1,c2,c3,c4,c5,.iface src.t src.v,dcv,.int .u32 ((d0:Nat):Int),c9]⟩,⟨zb,10,bs0⟩]++DL) (HeadEnd src l zb c0 c1 c2 c3 c4 c5 c9 dcv DL):=by
 refine Fn.intro (args:=[.pointer (some ⟨zb,0,none⟩)]) (RR:=RetC1 2 6 3 _) Tryz.func51 rfl rfl Tryz.ntmps51 (resC1 Tryz.results51 Ta92 Tz92) ?_
 refine Bi (env2:=[(0,.pointer (some ⟨zb,0,none⟩))]) U<|Cr ?_
 refine Ai (Dq Tryz.zeroValue92) U ?_;rintro _ _⟨b2,rfl,rfl⟩;refine Et7 U ?_
 refine Aa (Az (v:=Er.val ea .none) U) U<|Ev (Same.addEmpty (f:=⟨zb,10,bs0⟩) (by simp) 0)<|Dd [2,2,2,2,2,1,0] (A:=[_,_,_,_,_,_,_]) (F:=DL) U<|Ax (L2:=[x1,x2,x3,⟨zb,0,[c0,c1,c2,c3,c4,c5,.iface src.t src.v,dcv,.int .u32 ((d0:Nat):Int),c9]⟩,⟨zb,10,bs0⟩,⟨b2,0,[.string ⟨#[]⟩,.slice none 0 0,.int .u64 0,.int .i64 (0),.string ⟨#[]⟩,.int .u8 0]⟩,⟨zb,0,[]⟩]++DL) U<|Ek3 0 2 3 U<|Am<|Am ?_
 refine Ga (Same.splitAt (k:=10) 4 U U (List.take_append_drop 10 _).symm (by rw[List.length_take];omega) U) ?_
 refine Bx (L2:=[_,_,_,_,_,_,_,_]++DL) U<|Bt [0,1,2,4,0,16,32,64,136,256,512,512,4095] (.pure 0 240 (.pure 1 241 (.pure 2 243 (.pure 4 15 (.pure 5 31 (.pure 6 63 (.pure 7 127 (.seg [(3,247)] (.alt 8 (.pure 9 511 (.pure 10 3071 (.pure 11 2047 (.pure 12 4095 .done)))) .stop))))))))) mixed (by decide+kernel)<|Dm U U U<|Ah U (Ad U) U<|Ah U (Ab U fa99_1) U<|Dm U U U<|Ah U (Ad U) U<|Ah U (Ab U fa99_5) U<|Ah U (Fo (l:=0) (k:=.i64) (h:=10) U U U (by omega) (by omega) Tu97 Tz5) U<|Fi (v:=.slice (some ⟨zb,10,none⟩) (10) (512)) (Dj (by simp[part]) U U)<|Dc (by decide)<|Au U (Aj 5 (k:=6) U U U Ta94) U ?_
 refine Da<|By ?_
 refine Bo U (OpX.pick [2,2,2,0] (F:=(_::_::_::_::_)) U (Ar U Tryz.call56 (Gh hs src l x1 x2 x3 zb 10 10 512 (List.take 10 _) hA (by rw[List.length_take];omega) (by omega) (by omega)))) U ?_;rintro _ _⟨_,⟨f1,f2,f3,hF,rfl,rfl⟩,rfl⟩;refine Dt9 U ?_
 refine Dm U U U<|Ah U (Bg U U) U<|Ah U (Bg U U) U<|Ah U (Az U) U<|Dk3 0 2 3 U ?_
 refine Ga (Same.joinAt 3 3 U U (by rw[show 10+10=10+(10:Nat)from U];congr 1;simp only[List.length_append,Bh,List.length_take,List.length_drop,min_i];omega)) ?_
 refine Hv [1,1,1,1,0,0,0] (A:=[_,_,_,_,_,_,_]) (F:=DL) U<|Bx (L2:=[_,_,_,_,_,_,_]++DL) U<|Cr<|Em U U<|Ag (Df U) U<|Ek4 0 2 3 22 U<|Dn U (fun h22=>?_) (fun h22=>?_)
 ·refine Cr<|Ag (De 5 (k:=0) U U U U Ta92 Tz92) U<|Em U U ?_
  refine Ao (Bq 5 (k:=0) U U U U U U Tz92 U) ?_;rintro _ _⟨rfl,rfl⟩;refine Et8 U ?_
  refine Ea U U<|Ek4 0 2 3 22 U<|Bb ?_
  have hRR:=readHead_bad h22
  refine⟨_,_,⟨_,_,5,rfl,rfl,rfl⟩,rfl,_,_,_,_,_,_,_,rfl,rfl,?_,?_,?_,?_,.inl ⟨?_,[_],rfl⟩⟩
  · rw[hRR];rfl
  · rw[hRR];exact hF
  · rw[buf_join (by omega)];exact hbs0
  · assumption
  · rw[hRR];first|assumption|(exact Dw (by assumption))|simp
 rw[h22]
 obtain⟨v0,v1,v2,v3,v4,v5,v6,v7,v8,v9,r,hl⟩:=ten h22
 have hv0:=v0.toNat_lt
 have hv1:=v1.toNat_lt
 have hv2:=v2.toNat_lt
 have hv3:=v3.toNat_lt
 have hv4:=v4.toNat_lt
 have hv5:=v5.toNat_lt
 have hv6:=v6.toNat_lt
 have hv7:=v7.toNat_lt
 have hv8:=v8.toNat_lt
 have hv9:=v9.toNat_lt
 have hle:=le32_lt hv4 hv5 hv6 hv7
 refine Bx (L2:=[f1,f2,f3,⟨zb,0,[c0,c1,c2,c3,c4,c5,.iface src.t src.v,dcv,.int .u32 ((d0:Nat):Int),c9]⟩,⟨zb,10,u8 v0::u8 v1::u8 v2::u8 v3::u8 v4::u8 v5::u8 v6::u8 v7::u8 v8::u8 v9::bs0.drop 10⟩,⟨b2,0,[.string ⟨#[]⟩,.slice none 0 0,.int .u64 0,.int .i64 (0),.string ⟨#[]⟩,.int .u8 0]⟩,⟨zb,0,[]⟩]++DL) (by rw[buf_full (full_len h22),hl];rfl) ?_
 rw[show l.drop 10=r by rw[hl];rfl]at hF
 refine Ap<|Am<|Cr<|Em U U<|Aa (Ad U) U<|Aa (Ab U fa99_5) U<|Aa (Bj (i:=0) U U (by omega) Tu97 Tz5) U<|Ag (Aj 4 (k:=0) U U U Ta5) U<|Aa (S.ne (b:=((31:Nat):Int)) U U) U<|Em U U<|Ek (fun g31=>?_) (fun g31=>?_)
 ·refine Ae 31 true U U U U<|Ae 31 true U U U U<|Ae 31 true U U U U<|Ae 31 true U U U U<|Ae 31 true U U U U<|Ae 31 true U U U U<|Aa (Bz U U) U<|Em U U<|Ae 39 true U U U U<|Ae 39 true U U U U<|Ae 39 true U U U U<|Ae 39 true U U U U ?_
  refine Ae 39 true U U U U<|Ae 39 true U U U U<|Aa (Bz U U) U<|Ek5 0 2 3 22 46 U<|He U (rfl)<|Am<|Bt [0,0,1,7] (.alt 0 (.alt 1 (.alt 2 (.pure 3 7 .done) .stop) (.alt 2 (.seg [(1,5),(3,7)] .done) .stop)) (.alt 1 (.seg [(0,2)] (.alt 2 (.pure 3 7 .done) .stop)) .stop)) mixed (by decide+kernel)<|Hc ?_ ⟨?_,trivial⟩
  ·refine El U (De 5 (k:=0) U U U U Ta92 Tz92) U<|Hc ?_ ⟨?_,trivial⟩
   ·refine El U (Be U hs.g1 Ta58) U<|By ?_
    refine Di U (Bq 5 (k:=0) U U U U U U Tz92 U) ?_;rintro _ _⟨rfl,rfl⟩;refine Dt8 U ?_
    refine Ah U (Az U) U<|Dk5 0 2 3 22 46 U<|Bb ?_
    have hRR:Ac l=(.header,r,noHd):=by rw[hl,Ep,if_neg (by omega)]
    refine⟨_,_,⟨_,_,5,rfl,rfl,rfl⟩,rfl,_,_,_,_,_,_,_,rfl,rfl,?_,?_,?_,?_,.inl ⟨?_,[_],rfl⟩⟩
    · rw[hRR];done
    · rw[hRR];exact hF
    · simp only[List.length_cons,List.length_drop];omega
    · assumption
    · rw[hRR];first|assumption|(exact Dw (by assumption))|simp
   refine Di U (Bq 5 (k:=0) U U U U U U Tz92 U) ?_;rintro _ _⟨rfl,rfl⟩;refine Dt8 U ?_
   refine Dc (by decide)<|Au U (Be U hs.g1 Ta58) U<|Ba U (Az U) U<|Da<|Dk5 0 2 3 22 46 U<|Bb ?_
   have hRR:Ac l=(.header,r,noHd):=by rw[hl,Ep,if_neg (by omega)]
   refine⟨_,_,⟨_,_,5,rfl,rfl,rfl⟩,rfl,_,_,_,_,_,_,_,rfl,rfl,?_,?_,?_,?_,.inl ⟨?_,[_],rfl⟩⟩
   · rw[hRR];done
   · rw[hRR];exact hF
   · simp only[List.length_cons,List.length_drop];omega
   · assumption
   · rw[hRR];first|assumption|(exact Dw (by assumption))|simp
  refine El U (Be U hs.g1 Ta58) U<|Dc (by decide)<|Au U (De 5 (k:=0) U U U U Ta92 Tz92) U<|Da<|By ?_
  refine Di U (Bq 5 (k:=0) U U U U U U Tz92 U) ?_;rintro _ _⟨rfl,rfl⟩;refine Dt8 U ?_
  refine Ah U (Az U) U<|Dk5 0 2 3 22 46 U<|Bb ?_
  have hRR:Ac l=(.header,r,noHd):=by rw[hl,Ep,if_neg (by omega)]
  refine⟨_,_,⟨_,_,5,rfl,rfl,rfl⟩,rfl,_,_,_,_,_,_,_,rfl,rfl,?_,?_,?_,?_,.inl ⟨?_,[_],rfl⟩⟩
  · rw[hRR];done
  · rw[hRR];exact hF
  · simp only[List.length_cons,List.length_drop];omega
  · assumption
  · rw[hRR];first|assumption|(exact Dw (by assumption))|simp
 refine Ak 31 U U<|Em U U<|Ak 31 U U<|Aa (Ad U) U<|Ak 31 U U<|Aa (Ab U fa99_5) U<|Ak 31 U U<|Aa (Bj (i:=1) U U (by omega) Tu97 Tz5) U<|Ak 31 U U<|Ag (Aj 4 (k:=1) U U U Ta5) U<|Ak 31 U U<|Aa (S.ne (b:=((139:Nat):Int)) U U) U ?_
 refine Aa (Bk U U) U<|Em U U<|Ek (fun g39=>?_) (fun g39=>?_)
 ·refine Ae 39 true U U U U<|Ae 39 true U U U U<|Ae 39 true U U U U<|Ae 39 true U U U U<|Ae 39 true U U U U<|Ae 39 true U U U U<|Aa (Bz U U) U<|Ek5 0 2 3 22 46 U<|He U (rfl)<|Am<|Bt [0,0,1,7] (.alt 0 (.alt 1 (.alt 2 (.pure 3 7 .done) .stop) (.alt 2 (.seg [(1,5),(3,7)] .done) .stop)) (.alt 1 (.seg [(0,2)] (.alt 2 (.pure 3 7 .done) .stop)) .stop)) mixed (by decide+kernel)<|Hc ?_ ⟨?_,trivial⟩
  ·refine El U (De 5 (k:=0) U U U U Ta92 Tz92) U<|Hc ?_ ⟨?_,trivial⟩
   ·refine El U (Be U hs.g1 Ta58) U<|By ?_
    refine Di U (Bq 5 (k:=0) U U U U U U Tz92 U) ?_;rintro _ _⟨rfl,rfl⟩;refine Dt8 U ?_
    refine Ah U (Az U) U<|Dk5 0 2 3 22 46 U<|Bb ?_
    have hRR:Ac l=(.header,r,noHd):=by rw[hl,Ep,if_neg (by omega)]
    refine⟨_,_,⟨_,_,5,rfl,rfl,rfl⟩,rfl,_,_,_,_,_,_,_,rfl,rfl,?_,?_,?_,?_,.inl ⟨?_,[_],rfl⟩⟩
    · rw[hRR];done
    · rw[hRR];exact hF
    · simp only[List.length_cons,List.length_drop];omega
    · assumption
    · rw[hRR];first|assumption|(exact Dw (by assumption))|simp
   refine Di U (Bq 5 (k:=0) U U U U U U Tz92 U) ?_;rintro _ _⟨rfl,rfl⟩;refine Dt8 U ?_
   refine Dc (by decide)<|Au U (Be U hs.g1 Ta58) U<|Ba U (Az U) U<|Da<|Dk5 0 2 3 22 46 U<|Bb ?_
   have hRR:Ac l=(.header,r,noHd):=by rw[hl,Ep,if_neg (by omega)]
   refine⟨_,_,⟨_,_,5,rfl,rfl,rfl⟩,rfl,_,_,_,_,_,_,_,rfl,rfl,?_,?_,?_,?_,.inl ⟨?_,[_],rfl⟩⟩
   · rw[hRR];done
   · rw[hRR];exact hF
   · simp only[List.length_cons,List.length_drop];omega
   · assumption
   · rw[hRR];first|assumption|(exact Dw (by assumption))|simp
  refine El U (Be U hs.g1 Ta58) U<|Dc (by decide)<|Au U (De 5 (k:=0) U U U U Ta92 Tz92) U<|Da<|By ?_
  refine Di U (Bq 5 (k:=0) U U U U U U Tz92 U) ?_;rintro _ _⟨rfl,rfl⟩;refine Dt8 U ?_
  refine Ah U (Az U) U<|Dk5 0 2 3 22 46 U<|Bb ?_
  have hRR:Ac l=(.header,r,noHd):=by rw[hl,Ep,if_neg (by omega)]
  refine⟨_,_,⟨_,_,5,rfl,rfl,rfl⟩,rfl,_,_,_,_,_,_,_,rfl,rfl,?_,?_,?_,?_,.inl ⟨?_,[_],rfl⟩⟩
  · rw[hRR];done
  · rw[hRR];exact hF
  · simp only[List.length_cons,List.length_drop];omega
  · assumption
  · rw[hRR];first|assumption|(exact Dw (by assumption))|simp
 refine Ak 39 U U<|Em U U<|Ak 39 U U<|Aa (Ad U) U<|Ak 39 U U<|Aa (Ab U fa99_5) U<|Ak 39 U U<|Aa (Bj (i:=2) U U (by omega) Tu97 Tz5) U<|Ak 39 U U<|Ag (Aj 4 (k:=2) U U U Ta5) U<|Ak 39 U U<|Aa (S.ne (b:=((8:Nat):Int)) U U) U ?_
 refine Aa (Bk U U) U<|Ek5 0 2 3 22 46 U<|Bf U (fun h46=>?_) (fun h46=>?_)
 ·refine Am<|Bt [0,0,1,7] (.alt 0 (.alt 1 (.alt 2 (.pure 3 7 .done) .stop) (.alt 2 (.seg [(1,5),(3,7)] .done) .stop)) (.alt 1 (.seg [(0,2)] (.alt 2 (.pure 3 7 .done) .stop)) .stop)) mixed (by decide+kernel)<|Hc ?_ ⟨?_,trivial⟩
  ·refine El U (De 5 (k:=0) U U U U Ta92 Tz92) U<|Hc ?_ ⟨?_,trivial⟩
   ·refine El U (Be U hs.g1 Ta58) U<|By ?_
    refine Di U (Bq 5 (k:=0) U U U U U U Tz92 U) ?_;rintro _ _⟨rfl,rfl⟩;refine Dt8 U ?_
    refine Ah U (Az U) U<|Dk5 0 2 3 22 46 U<|Bb ?_
    have hRR:Ac l=(.header,r,noHd):=by rw[hl,Ep,if_neg (by omega)]
    refine⟨_,_,⟨_,_,5,rfl,rfl,rfl⟩,rfl,_,_,_,_,_,_,_,rfl,rfl,?_,?_,?_,?_,.inl ⟨?_,[_],rfl⟩⟩
    · rw[hRR];done
    · rw[hRR];exact hF
    · simp only[List.length_cons,List.length_drop];omega
    · assumption
    · rw[hRR];first|assumption|(exact Dw (by assumption))|simp
   refine Di U (Bq 5 (k:=0) U U U U U U Tz92 U) ?_;rintro _ _⟨rfl,rfl⟩;refine Dt8 U ?_
   refine Dc (by decide)<|Au U (Be U hs.g1 Ta58) U<|Ba U (Az U) U<|Da<|Dk5 0 2 3 22 46 U<|Bb ?_
   have hRR:Ac l=(.header,r,noHd):=by rw[hl,Ep,if_neg (by omega)]
   refine⟨_,_,⟨_,_,5,rfl,rfl,rfl⟩,rfl,_,_,_,_,_,_,_,rfl,rfl,?_,?_,?_,?_,.inl ⟨?_,[_],rfl⟩⟩
   · rw[hRR];done
   · rw[hRR];exact hF
   · simp only[List.length_cons,List.length_drop];omega
   · assumption
   · rw[hRR];first|assumption|(exact Dw (by assumption))|simp
  refine El U (Be U hs.g1 Ta58) U<|Dc (by decide)<|Au U (De 5 (k:=0) U U U U Ta92 Tz92) U<|Da<|By ?_
  refine Di U (Bq 5 (k:=0) U U U U U U Tz92 U) ?_;rintro _ _⟨rfl,rfl⟩;refine Dt8 U ?_
  refine Ah U (Az U) U<|Dk5 0 2 3 22 46 U<|Bb ?_
  have hRR:Ac l=(.header,r,noHd):=by rw[hl,Ep,if_neg (by omega)]
  refine⟨_,_,⟨_,_,5,rfl,rfl,rfl⟩,rfl,_,_,_,_,_,_,_,rfl,rfl,?_,?_,?_,?_,.inl ⟨?_,[_],rfl⟩⟩
  · rw[hRR];done
  · rw[hRR];exact hF
  · simp only[List.length_cons,List.length_drop];omega
  · assumption
  · rw[hRR];first|assumption|(exact Dw (by assumption))|simp
 refine Ap<|Cr<|Em U U<|Aa (Ad U) U<|Aa (Ab U fa99_5) U<|Aa (Bj (i:=3) U U (by omega) Tu97 Tz5) U<|Ag (Aj 4 (k:=3) U U U Ta5) U<|Ea U U<|Ek6 0 2 3 4 22 46 U<|Du (M:=fun ee ll=>keeps ee [0,2,3,4]=some [(0,.pointer (some ⟨zb,0,none⟩)),(2,.pointer (some ⟨b2,0,none⟩)),(3,Er.val ea .none),(4,.int .u8 ((v3.toNat:Nat):Int))]∧ll=[f1,f2,f3,⟨zb,0,[c0,c1,c2,c3,c4,c5,.iface src.t src.v,dcv,.int .u32 ((d0:Nat):Int),c9]⟩,⟨zb,10,u8 v0::u8 v1::u8 v2::u8 v3::u8 v4::u8 v5::u8 v6::u8 v7::u8 v8::u8 v9::bs0.drop 10⟩,⟨b2,0,[.string ⟨#[]⟩,.slice none 0 0,.int .u64 0,.int .i64 (timeV (le32 v4.toNat v5.toNat v6.toNat v7.toNat)),.string ⟨#[]⟩,.int .u8 0]⟩,⟨zb,0,[]⟩]++DL) ?_ ?_
 ·refine Cr<|Em U U<|Aa (Ad U) U<|Aa (Ab U fa99_5) U<|Aa (Fo (l:=4) (h:=8) U U U (by omega) (by omega) Tu97 Tz5) U<|An (v:=.slice (some ⟨zb,14,none⟩) (4) (508)) (Dj (by simp[part]) U U) ?_
  refine Ai (Ar U Tryz.call58 (le32_spec zb 14 4 508 v4 v5 v6 v7 [] (by omega) (Reads.frag (i:=4) (k:=4) U U))) U ?_;rintro _ _⟨rfl,rfl⟩;refine Et8 U ?_
  refine Aa (Bv U Tu69 Tu2 (N.i64n (by omega))) U<|Ea U U<|Ek7 0 2 3 4 5 22 46 U<|Cr<|Em U U<|Aa (Fh (b:=((0:Nat):Int)) U U) U<|Ek8 0 2 3 4 5 22 46 61 U<|Bf U (fun h61=>?_) (fun h61=>?_)
  ·refine Al<|Em U U ?_
   refine Ai (OpX.pick [] (F:=(_::_::_::_::_::_::_::_)) U (Ar U Tryz.call70 (unix_spec (le32 v4.toNat v5.toNat v6.toNat v7.toNat) (by omega)))) U ?_;rintro _ _⟨_,⟨q1,q2,rfl,rfl⟩,rfl⟩;refine Et10 U ?_
   refine Dd [2,2,2,2,2,2,2] (A:=[_,_,_,_,_,_,_]) (F:=[_,_]++DL) U<|E.shed [7,7] (A:=[_,_]) (F:=[_,_,_,_,_,_,_]++DL) U<|Aa (Ab U fa92_2) U ?_
   refine Ao (Bq 5 (k:=2) U U U U U U Tz90 U) ?_;rintro _ _⟨rfl,rfl⟩;refine Et8 U ?_
   refine Ek8 0 2 3 4 5 22 46 61 U ?_
   exact⟨rfl,congrArg (fun x:Int=>[f1,f2,f3,⟨zb,0,[c0,c1,c2,c3,c4,c5,.iface src.t src.v,dcv,.int .u32 ((d0:Nat):Int),c9]⟩,⟨zb,10,u8 v0::u8 v1::u8 v2::u8 v3::u8 v4::u8 v5::u8 v6::u8 v7::u8 v8::u8 v9::bs0.drop 10⟩,(⟨b2,0,[.string ⟨#[]⟩,.slice none 0 0,.int .u64 0,.int .i64 (x),.string ⟨#[]⟩,.int .u8 0]⟩:Frag),⟨zb,0,[]⟩]++DL) (timeV_pos h61)⟩
  refine Ap ?_
  exact⟨rfl,congrArg (fun x:Int=>[f1,f2,f3,⟨zb,0,[c0,c1,c2,c3,c4,c5,.iface src.t src.v,dcv,.int .u32 ((d0:Nat):Int),c9]⟩,⟨zb,10,u8 v0::u8 v1::u8 v2::u8 v3::u8 v4::u8 v5::u8 v6::u8 v7::u8 v8::u8 v9::bs0.drop 10⟩,(⟨b2,0,[.string ⟨#[]⟩,.slice none 0 0,.int .u64 0,.int .i64 (x),.string ⟨#[]⟩,.int .u8 0]⟩:Frag),⟨zb,0,[]⟩]++DL) (timeV_zero h61)⟩
 rintro _ _⟨hq10,rfl⟩
 refine Av _ hq10<|Cr<|Em U U<|Aa (Ad U) U<|Aa (Ab U fa99_5) U<|Aa (Bj (i:=9) U U (by omega) Tu97 Tz5) U<|Ag (Aj 4 (k:=9) U U U Ta5) U<|Aa (Ab U fa92_4) U ?_
 refine Ao (Aq 5 (k:=5) U U U U U Tz5) ?_;rintro _ _⟨rfl,rfl⟩;refine Et8 U ?_
 refine Ek4 0 2 3 4 U<|Du (M:=fun ee ll=>∃(l2:List UInt8),∃(d:Nat),∃(h:Hd),∃(bs:List Value),∃(hb:Nat),∃(xa:Option Addr),∃(xn:Nat),∃(xf:Frag),∃(f1:Frag),∃(f2:Frag),∃(f3:Frag),keeps ee [0,2,3,4]=some [(0,.pointer (some ⟨zb,0,none⟩)),(2,.pointer (some ⟨hb,0,none⟩)),(3,Er.val ea .none),(4,.int .u8 ((v3.toNat:Nat):Int))]∧ll=[f1,f2,f3,⟨zb,0,[c0,c1,c2,c3,c4,c5,.iface src.t src.v,dcv,.int .u32 ((d:Nat):Int),c9]⟩,⟨zb,10,bs⟩,⟨hb,0,[.string h.comment,.slice xa xn xn,.int .u64 0,.int .i64 (timeV h.mod),.string h.name,.int .u8 ((h.os:Nat):Int)]⟩,xf]++DL∧(Ac l=rd1 l2 v3.toNat d h)∧(src.At l2 f1 f2 f3)∧(bs.length=512)∧(d<4294967296)∧(ExAt h.extra xa xn xf)) ?_ ?_
 ·refine Al<|Em U U<|Em U U<|Aa (Ad U) U<|Aa (Ab U fa99_5) U<|Aa (Fo (l:=0) (k:=.i64) (h:=10) U U U (by omega) (by omega) Tu97 Tz5) U<|An (v:=.slice (some ⟨zb,10,none⟩) (10) (512)) (Dj (by simp[part]) U U) ?_
  refine Ai (Ar U Tryz.call71 (ChecksumIEEE_spec zb 10 512 [v0,v1,v2,v3,v4,v5,v6,v7,v8,v9] (Reads.frag (i:=4) (k:=0) U U) (by simp) (by simp))) U ?_;rintro _ _⟨rfl,rfl⟩;refine Et8 U ?_
  refine Aa (Ad U) U<|Aa (Ab U fa99_3) U ?_
  refine Ao (Aq 3 (k:=8) U U U U U Tz69) ?_;rintro _ _⟨rfl,rfl⟩;refine Et8 U ?_
  refine Ek4 0 2 3 4 U ?_
  exact⟨r,crcOn IEEE 0 [v0,v1,v2,v3,v4,v5,v6,v7,v8,v9],{noHd with mod:=le32 v4.toNat v5.toNat v6.toNat v7.toNat,os:=v9.toNat},_,b2,none,0,⟨zb,0,[]⟩,f1,f2,f3,rfl,rfl,by rw[hl,Ep,if_pos (by omega)],hF,by simp only[List.length_cons,List.length_drop];omega,Hi (by decide) (by decide) _,⟨rfl,rfl,rfl⟩⟩
 rintro _ _⟨l2,d,h,bs,hb,xa,xn,xf,f1,f2,f3,hq12,rfl,hR,hG,hbs,hd,hX⟩
 refine Av _ hq12<|Du (M:=fun ee ll=>∃(l2:List UInt8),∃(d:Nat),∃(h:Hd),∃(bs:List Value),∃(hb:Nat),∃(xa:Option Addr),∃(xn:Nat),∃(xf:Frag),∃(f1:Frag),∃(f2:Frag),∃(f3:Frag),keeps ee [0,2,3,4]=some [(0,.pointer (some ⟨zb,0,none⟩)),(2,.pointer (some ⟨hb,0,none⟩)),(3,Er.val ea .none),(4,.int .u8 ((v3.toNat:Nat):Int))]∧ll=[f1,f2,f3,⟨zb,0,[c0,c1,c2,c3,c4,c5,.iface src.t src.v,dcv,.int .u32 ((d:Nat):Int),c9]⟩,⟨zb,10,bs⟩,⟨hb,0,[.string h.comment,.slice xa xn xn,.int .u64 0,.int .i64 (timeV h.mod),.string h.name,.int .u8 ((h.os:Nat):Int)]⟩,xf]++DL∧(Ac l=rd2 l2 v3.toNat d h)∧(src.At l2 f1 f2 f3)∧(bs.length=512)∧(d<4294967296)∧(ExAt h.extra xa xn xf)) ?_ ?_
 ·refine Cr<|Em U U<|Aa (Fa (b:=((4:Nat):Int)) U U (N.and_u8 (by omega) (by omega))) U<|Aa (S.ne (b:=((0:Nat):Int)) U U) U<|Ek5 0 2 3 4 81 U<|Bf U (fun h81=>?_) (fun h81=>?_)
  ·refine Am<|Am ?_
   refine Ga (Same.splitAt (k:=2) 4 U U (List.take_append_drop 2 _).symm (by rw[List.length_take];omega) U) ?_
   refine Bx (L2:=[_,_,_,_,_,_,_,_]++DL) U<|Bt [0,1,2,4,0,16,32,64,136,256,512,512,4095] (.pure 0 240 (.pure 1 241 (.pure 2 243 (.pure 4 15 (.pure 5 31 (.pure 6 63 (.pure 7 127 (.seg [(3,247)] (.alt 8 (.pure 9 511 (.pure 10 3071 (.pure 11 2047 (.pure 12 4095 .done)))) .stop))))))))) mixed (by decide+kernel)<|Dm U U U<|Ah U (Ad U) U<|Ah U (Ab U fa99_1) U<|Dm U U U<|Ah U (Ad U) U<|Ah U (Ab U fa99_5) U<|Ah U (Fo (l:=0) (k:=.i64) (h:=2) U U U (by omega) (by omega) Tu97 Tz5) U<|Fi (v:=.slice (some ⟨zb,10,none⟩) (2) (512)) (Dj (by simp[part]) U U)<|Dc (by decide)<|Au U (Aj 5 (k:=6) U U U Ta94) U ?_
   refine Da<|By ?_
   refine Bo U (OpX.pick [2,2,2,0] (F:=(_::_::_::_::_)) U (Ar U Tryz.call56 (Gh hs src l2 f1 f2 f3 zb 10 2 512 (List.take 2 _) hG (by rw[List.length_take];omega) (by omega) (by omega)))) U ?_;rintro _ _⟨_,⟨k1,k2,k3,hF,rfl,rfl⟩,rfl⟩;refine Dt9 U ?_
   refine Dm U U U<|Ah U (Bg U U) U<|Ah U (Bg U U) U<|Ah U (Az U) U<|Dk5 0 2 3 4 81 U ?_
   refine Ga (Same.joinAt 3 3 U U (by rw[show 10+2=10+(2:Nat)from U];congr 1;simp only[List.length_append,Bh,List.length_take,List.length_drop,min_i];omega)) ?_
   refine Hv [1,1,1,1,0,0,0] (A:=[_,_,_,_,_,_,_]) (F:=DL) U<|Bx (L2:=[_,_,_,_,_,_,_]++DL) U<|Cr<|Em U U<|Ag (Df U) U<|Ek6 0 2 3 4 81 95 U<|Dn U (fun h95=>?_) (fun h95=>?_)
   ·refine Am<|Bt [0,0,2,5,15] (.pure 1 1 (.alt 0 (.alt 2 (.alt 3 (.pure 4 15 .done) .stop) .stop) (.alt 2 (.seg [(0,6)] (.alt 3 (.pure 4 15 .done) .stop)) .stop))) mixed (by decide+kernel)<|Dm U U U<|Hc ?_ ⟨?_,trivial⟩
    ·refine El U (De 5 (k:=0) U U U U Ta92 Tz92) U<|By ?_
     refine Bo U (OpX.pick [] (F:=(_::_::_::_::_::_::_::_)) U (Ar U Tryz.call57 (Ey (L:=[]) hs _))) U ?_;rintro _ _⟨_,⟨rfl,rfl⟩,rfl⟩;refine Dt8 U ?_
     refine By ?_
     refine Di U (Bq 5 (k:=0) U U U U U U Tz92 U) ?_;rintro _ _⟨rfl,rfl⟩;refine Dt8 U ?_
     refine Ah U (Az U) U<|Dk6 0 2 3 4 81 95 U<|Bb ?_
     have hRR:Ac l=(noEof (Dg l2 2),l2.drop 2,h):=by rw[hR,rd1,if_neg (by omega),if_pos h95]
     refine⟨_,_,⟨_,_,5,rfl,rfl,rfl⟩,rfl,_,_,_,_,_,_,_,rfl,rfl,?_,?_,?_,?_,.inl ⟨?_,[_],rfl⟩⟩
     · rw[hRR];done
     · rw[hRR];exact hF
     · rw[buf_join (by omega)];exact hbs
     · assumption
     · rw[hRR];first|assumption|(exact Dw (by assumption))|simp
    refine Bo U (OpX.pick [] (F:=(_::_::_::_::_::_::_::_)) U (Ar U Tryz.call57 (Ey (L:=[]) hs _))) U ?_;rintro _ _⟨_,⟨rfl,rfl⟩,rfl⟩;refine Dt8 U ?_
    refine Dc (by decide)<|Au U (De 5 (k:=0) U U U U Ta92 Tz92) U<|Da<|By ?_
    refine Di U (Bq 5 (k:=0) U U U U U U Tz92 U) ?_;rintro _ _⟨rfl,rfl⟩;refine Dt8 U ?_
    refine Ah U (Az U) U<|Dk6 0 2 3 4 81 95 U<|Bb ?_
    have hRR:Ac l=(noEof (Dg l2 2),l2.drop 2,h):=by rw[hR,rd1,if_neg (by omega),if_pos h95]
    refine⟨_,_,⟨_,_,5,rfl,rfl,rfl⟩,rfl,_,_,_,_,_,_,_,rfl,rfl,?_,?_,?_,?_,.inl ⟨?_,[_],rfl⟩⟩
    · rw[hRR];done
    · rw[hRR];exact hF
    · rw[buf_join (by omega)];exact hbs
    · assumption
    · rw[hRR];first|assumption|(exact Dw (by assumption))|simp
   rw[h95]
   obtain⟨w0,w1,r2,hl2⟩:=two h95
   have hw0:=w0.toNat_lt
   have hw1:=w1.toNat_lt
   have h16:=le16_lt hw0 hw1
   have e1:l2.drop 2=r2:=by rw[hl2];rfl
   have e2:le16of l2=le16 w0.toNat w1.toNat:=by rw[hl2];rfl
   refine Bx (L2:=[k1,k2,k3,⟨zb,0,[c0,c1,c2,c3,c4,c5,.iface src.t src.v,dcv,.int .u32 ((d:Nat):Int),c9]⟩,⟨zb,10,u8 w0::u8 w1::bs.drop 2⟩,⟨hb,0,[.string h.comment,.slice xa xn xn,.int .u64 0,.int .i64 (timeV h.mod),.string h.name,.int .u8 ((h.os:Nat):Int)]⟩,xf]++DL) (by rw[buf_full (full_len h95),hl2];rfl) ?_
   rw[e1]at hF
   refine Ap<|Am<|Bt [0,0,2,4,8,0,32,64,128,272,1023,2047,3071] (.pure 0 1022 (.pure 1 481 (.pure 2 483 (.pure 3 487 (.pure 5 31 (.pure 6 63 (.pure 7 127 (.pure 8 255 (.seg [(4,495)] (.alt 9 (.pure 10 1023 (.pure 11 2047 (.alt 12 .done .stop))) .stop)))))))))) mixed (by decide+kernel)<|Dm U U U<|Dm U U U<|Ah U (Ad U) U<|Ah U (Ab U fa99_3) U<|Dm U U U<|Ah U (Ad U) U<|Ah U (Ab U fa99_5) U<|Ah U (Fo (l:=0) (k:=.i64) (h:=2) U U U (by omega) (by omega) Tu97 Tz5) U<|Fi (v:=.slice (some ⟨zb,10,none⟩) (2) (512)) (Dj (by simp[part]) U U) ?_
   refine Dc (by decide)<|Au U (Aj 3 (k:=8) U U U Ta69) U<|Da<|By ?_
   refine Bo U (Ar U Tryz.call55 (Gy d zb 10 512 [w0,w1] hd (Reads.frag (i:=4) (k:=0) U U) (by simp) (by simp))) U ?_;rintro _ _⟨rfl,rfl⟩;refine Dt8 U ?_
   refine Ah U (Ad U) U<|Ah U (Ab U fa99_3) U<|By ?_
   refine Di U (Aq 3 (k:=8) U U U U U Tz69) ?_;rintro _ _⟨rfl,rfl⟩;refine Dt8 U ?_
   refine Dk6 0 2 3 4 81 95 U<|Cr<|Em U U<|Aa (Ad U) U<|Aa (Ab U fa99_5) U<|Aa (Fo (l:=0) (k:=.i64) (h:=2) U U U (by omega) (by omega) Tu97 Tz5) U<|An (v:=.slice (some ⟨zb,10,none⟩) (2) (512)) (Dj (by simp[part]) U U) ?_
   refine Ai (Ar U Tryz.call72 (le16_spec zb 10 2 512 w0 w1 [] (by omega) (Reads.frag (i:=4) (k:=0) U U))) U ?_;rintro _ _⟨rfl,rfl⟩;refine Et8 U ?_
   refine Ai (Hx (l:=le16 w0.toNat w1.toNat) (c:=le16 w0.toNat w1.toNat) (bytes:=1) Tu25 infoB (z:=.int .u8 0) U U U U U U (Nat.le_refl _) (by omega) (by omega)) U ?_;rintro _ _⟨eb,rfl,rfl⟩;refine Et9 U ?_
   refine Dd [1,1,1,1,1,1,0] (A:=[_,_,_,_,_,_,_]) (F:=[_]++DL) U<|E.shed [7] (A:=[_]) (F:=[_,_,_,_,_,_,_]++DL) U<|Ea U U<|Ek7 0 2 3 4 6 81 95 U<|Am<|Cr<|Em U U<|Aa (Ad U) U<|Aa (Ab U fa99_1) U<|Ag (Aj 3 (k:=6) U U U Ta94) U<|Em U U ?_
   refine Ai (OpX.pick [0,0,0,3] (F:=(_::_::_::_)) U (Ar U Tryz.call56 (Gh hs src r2 k1 k2 k3 eb 0 (le16 w0.toNat w1.toNat) (le16 w0.toNat w1.toNat) (List.replicate (le16 w0.toNat w1.toNat) (.int .u8 0)) hF (by rw[List.length_replicate]) (Nat.le_refl _) (by omega)))) U ?_;rintro _ _⟨_,⟨j1,j2,j3,hJ,rfl,rfl⟩,rfl⟩;refine Et8 U ?_
   refine Dd [0,0,0,1,1,1,0] (A:=[_,_,_,_,_,_,_]) (F:=DL) U<|Ax (L2:=[_,_,_,_,_,_,_]++DL) U<|Em U U<|Aa (Bg U U) U<|Aa (Bg U U) U<|Ea U U<|Ek7 0 2 3 4 6 81 95 U<|Cr<|Em U U<|Ag (Df U) U<|Ek8 0 2 3 4 6 81 95 127 U<|Dn U (fun h127=>?_) (fun h127=>?_)
   ·refine Am<|Bt [0,0,2,5,15] (.pure 1 1 (.alt 0 (.alt 2 (.alt 3 (.pure 4 15 .done) .stop) .stop) (.alt 2 (.seg [(0,6)] (.alt 3 (.pure 4 15 .done) .stop)) .stop))) mixed (by decide+kernel)<|Dm U U U<|Hc ?_ ⟨?_,trivial⟩
    ·refine El U (De 5 (k:=0) U U U U Ta92 Tz92) U<|By ?_
     refine Bo U (OpX.pick [] (F:=(_::_::_::_::_::_::_::_)) U (Ar U Tryz.call57 (Ey (L:=[]) hs _))) U ?_;rintro _ _⟨_,⟨rfl,rfl⟩,rfl⟩;refine Dt8 U ?_
     refine By ?_
     refine Di U (Bq 5 (k:=0) U U U U U U Tz92 U) ?_;rintro _ _⟨rfl,rfl⟩;refine Dt8 U ?_
     refine Ah U (Az U) U<|Dk8 0 2 3 4 6 81 95 127 U<|Bb ?_
     have hRR:Ac l=(noEof (Dg r2 (le16 w0.toNat w1.toNat)),r2.drop (le16 w0.toNat w1.toNat),h):=by rw[hR,rd1,if_neg (by omega),if_neg (by simpa using h95),e1,e2,if_pos h127]
     refine⟨_,_,⟨_,_,5,rfl,rfl,rfl⟩,rfl,_,_,_,_,_,_,_,rfl,rfl,?_,?_,?_,?_,.inl ⟨?_,[_],rfl⟩⟩
     · rw[hRR];done
     · rw[hRR];exact hJ
     · simp only[List.length_cons,List.length_drop];omega
     · exact Hi (by decide) hd _
     · rw[hRR];first|assumption|(exact Dw (by assumption))|simp
    refine Bo U (OpX.pick [] (F:=(_::_::_::_::_::_::_::_)) U (Ar U Tryz.call57 (Ey (L:=[]) hs _))) U ?_;rintro _ _⟨_,⟨rfl,rfl⟩,rfl⟩;refine Dt8 U ?_
    refine Dc (by decide)<|Au U (De 5 (k:=0) U U U U Ta92 Tz92) U<|Da<|By ?_
    refine Di U (Bq 5 (k:=0) U U U U U U Tz92 U) ?_;rintro _ _⟨rfl,rfl⟩;refine Dt8 U ?_
    refine Ah U (Az U) U<|Dk8 0 2 3 4 6 81 95 127 U<|Bb ?_
    have hRR:Ac l=(noEof (Dg r2 (le16 w0.toNat w1.toNat)),r2.drop (le16 w0.toNat w1.toNat),h):=by rw[hR,rd1,if_neg (by omega),if_neg (by simpa using h95),e1,e2,if_pos h127]
    refine⟨_,_,⟨_,_,5,rfl,rfl,rfl⟩,rfl,_,_,_,_,_,_,_,rfl,rfl,?_,?_,?_,?_,.inl ⟨?_,[_],rfl⟩⟩
    · rw[hRR];done
    · rw[hRR];exact hJ
    · simp only[List.length_cons,List.length_drop];omega
    · exact Hi (by decide) hd _
    · rw[hRR];first|assumption|(exact Dw (by assumption))|simp
   rw[h127]
   have hn:=full_len h127
   refine Bx (L2:=[j1,j2,j3,⟨zb,0,[c0,c1,c2,c3,c4,c5,.iface src.t src.v,dcv,.int .u32 ((crcOn IEEE d [w0,w1]:Nat):Int),c9]⟩,⟨zb,10,u8 w0::u8 w1::bs.drop 2⟩,⟨hb,0,[.string h.comment,.slice xa xn xn,.int .u64 0,.int .i64 (timeV h.mod),.string h.name,.int .u8 ((h.os:Nat):Int)]⟩,⟨eb,0,bytesV (r2.take (le16 w0.toNat w1.toNat))⟩]++DL) (by rw[full_all hn List.length_replicate];rfl) ?_
   refine Ap<|Cr<|Em U U<|Em U U<|Aa (Ad U) U<|Aa (Ab U fa99_3) U<|Ag (Aj 3 (k:=8) U U U Ta69) U<|Em U U ?_
   refine An (v:=.slice (some ⟨eb,0,none⟩) ((r2.take (le16 w0.toNat w1.toNat)).length) (le16 w0.toNat w1.toNat)) (Dj U (by rw[List.length_take];omega) U) ?_
   refine Ai (Ar U Tryz.call55 (Gy (crcOn IEEE d [w0,w1]) eb 0 (le16 w0.toNat w1.toNat) (r2.take (le16 w0.toNat w1.toNat)) (Hi (by decide) hd _) (Reads.frag (i:=6) (k:=0) U part_all) (by rw[List.length_take];omega) (by rw[List.length_take];omega))) U ?_;rintro _ _⟨rfl,rfl⟩;refine Et8 U ?_
   refine Aa (Ad U) U<|Aa (Ab U fa99_3) U ?_
   refine Ao (Aq 3 (k:=8) U U U U U Tz69) ?_;rintro _ _⟨rfl,rfl⟩;refine Et8 U ?_
   refine Ek8 0 2 3 4 6 81 95 127 U<|Al<|Em U U<|Aa (Ab U fa92_1) U ?_
   refine Ao (Aq 5 (k:=1) U U U U U Tz25) ?_;rintro _ _⟨rfl,rfl⟩;refine Et8 U ?_
   refine Ek8 0 2 3 4 6 81 95 127 U ?_
   exact⟨r2.drop (le16 w0.toNat w1.toNat),crcOn IEEE (crcOn IEEE d [w0,w1]) (r2.take (le16 w0.toNat w1.toNat)),{h with extra:=some (r2.take (le16 w0.toNat w1.toNat))},_,hb,some ⟨eb,0,none⟩,le16 w0.toNat w1.toNat,_,j1,j2,j3,rfl,rfl,by rw[hR,rd1,if_neg (by omega),if_neg (by simpa using h95),e1,e2,if_neg (by simpa using h127),hl2];rfl,hJ,by simp only[List.length_cons,List.length_drop];omega,Hi (by decide) (Hi (by decide) hd _) _,⟨eb,rfl,by rw[List.length_take,Nat.min_eq_left hn],rfl,by rw[List.length_take];omega⟩⟩
  refine Ap ?_
  exact⟨l2,d,h,bs,hb,xa,xn,xf,f1,f2,f3,rfl,rfl,by rw[hR,rd1,if_pos (by omega)],hG,hbs,hd,hX⟩
 rintro _ _⟨l2,d,h,bs,hb,xa,xn,xf,f1,f2,f3,hq23,rfl,hR,hG,hbs,hd,hX⟩
 refine Av _ hq23<|Cr<|Ea U U<|Ek5 0 2 3 4 7 U<|Du (M:=fun ee ll=>∃(l2:List UInt8),∃(d:Nat),∃(h:Hd),∃(bs:List Value),∃(hb:Nat),∃(xa:Option Addr),∃(xn:Nat),∃(xf:Frag),∃(f1:Frag),∃(f2:Frag),∃(f3:Frag),keeps ee [0,2,3,4]=some [(0,.pointer (some ⟨zb,0,none⟩)),(2,.pointer (some ⟨hb,0,none⟩)),(3,Er.val ea .none),(4,.int .u8 ((v3.toNat:Nat):Int))]∧ll=[f1,f2,f3,⟨zb,0,[c0,c1,c2,c3,c4,c5,.iface src.t src.v,dcv,.int .u32 ((d:Nat):Int),c9]⟩,⟨zb,10,bs⟩,⟨hb,0,[.string h.comment,.slice xa xn xn,.int .u64 0,.int .i64 (timeV h.mod),.string h.name,.int .u8 ((h.os:Nat):Int)]⟩,xf]++DL∧(Ac l=rd3 l2 v3.toNat d h)∧(src.At l2 f1 f2 f3)∧(bs.length=512)∧(d<4294967296)∧(ExAt h.extra xa xn xf)) ?_ ?_
 ·refine Cr<|Em U U<|Aa (Fa (b:=((8:Nat):Int)) U U (N.and_u8 (by omega) (by omega))) U<|Aa (S.ne (b:=((0:Nat):Int)) U U) U<|Ek6 0 2 3 4 7 144 U<|Bf U (fun h144=>?_) (fun h144=>?_)
  ·refine Am<|Cr<|Em U U ?_
   refine Ai (OpX.pick [0,0,0,0,0] (F:=(_::_::_)) U (Ar U Tryz.call73 (readString_spec hs src l2 f1 f2 f3 zb d c0 c1 c2 c3 c4 c5 dcv c9 bs hG hbs hd))) U ?_;rintro _ _⟨_,⟨k1,k2,k3,bs2,hF,hbs2,rfl,rfl⟩,rfl⟩;refine Et8 U ?_
   refine Em U U<|Aa (Bg U U) U<|Aa (Bg U U) U<|Ea U U<|Ea U U<|Ek6 0 2 3 4 7 144 U<|Cr<|Em U U<|Ag (Df U) U<|Ek7 0 2 3 4 7 144 151 U<|Dn U (fun h151=>?_) (fun h151=>?_)
   ·refine Am<|Bt [0,0,2,5,15] (.pure 1 1 (.alt 0 (.alt 2 (.alt 3 (.pure 4 15 .done) .stop) .stop) (.alt 2 (.seg [(0,6)] (.alt 3 (.pure 4 15 .done) .stop)) .stop))) mixed (by decide+kernel)<|Dm U U U<|Hc ?_ ⟨?_,trivial⟩
    ·refine El U (De 5 (k:=0) U U U U Ta92 Tz92) U<|By ?_
     refine Bo U (OpX.pick [] (F:=(_::_::_::_::_::_::_::_)) U (Ar U Tryz.call57 (Ey (L:=[]) hs _))) U ?_;rintro _ _⟨_,⟨rfl,rfl⟩,rfl⟩;refine Dt8 U ?_
     refine By ?_
     refine Di U (Bq 5 (k:=0) U U U U U U Tz92 U) ?_;rintro _ _⟨rfl,rfl⟩;refine Dt8 U ?_
     refine Ah U (Az U) U<|Dk7 0 2 3 4 7 144 151 U<|Bb ?_
     have hRR:Ac l=(noEof (strEr l2),l2.drop (Fd l2),h):=by rw[hR,rd2,if_neg (by omega),if_pos h151]
     refine⟨_,_,⟨_,_,5,rfl,rfl,rfl⟩,rfl,_,_,_,_,_,_,_,rfl,rfl,?_,?_,?_,?_,.inl ⟨?_,[_],rfl⟩⟩
     · rw[hRR];done
     · rw[hRR];exact hF
     · exact hbs2
     · exact strCrc_lt hd l2
     · rw[hRR];first|assumption|(exact Dw (by assumption))|simp
    refine Bo U (OpX.pick [] (F:=(_::_::_::_::_::_::_::_)) U (Ar U Tryz.call57 (Ey (L:=[]) hs _))) U ?_;rintro _ _⟨_,⟨rfl,rfl⟩,rfl⟩;refine Dt8 U ?_
    refine Dc (by decide)<|Au U (De 5 (k:=0) U U U U Ta92 Tz92) U<|Da<|By ?_
    refine Di U (Bq 5 (k:=0) U U U U U U Tz92 U) ?_;rintro _ _⟨rfl,rfl⟩;refine Dt8 U ?_
    refine Ah U (Az U) U<|Dk7 0 2 3 4 7 144 151 U<|Bb ?_
    have hRR:Ac l=(noEof (strEr l2),l2.drop (Fd l2),h):=by rw[hR,rd2,if_neg (by omega),if_pos h151]
    refine⟨_,_,⟨_,_,5,rfl,rfl,rfl⟩,rfl,_,_,_,_,_,_,_,rfl,rfl,?_,?_,?_,?_,.inl ⟨?_,[_],rfl⟩⟩
    · rw[hRR];done
    · rw[hRR];exact hF
    · exact hbs2
    · exact strCrc_lt hd l2
    · rw[hRR];first|assumption|(exact Dw (by assumption))|simp
   rw[h151]
   refine Ap<|Al<|Em U U<|Aa (Ab U fa92_3) U ?_
   refine Ao (Aq 5 (k:=4) U U U U U Tz9) ?_;rintro _ _⟨rfl,rfl⟩;refine Et8 U ?_
   refine Ek7 0 2 3 4 7 144 151 U ?_
   exact⟨l2.drop (Fd l2),strCrc d l2,{h with name:=strTxt l2},bs2,hb,xa,xn,xf,k1,k2,k3,rfl,rfl,by rw[hR,rd2,if_neg (by omega),if_neg (by simpa using h151)],hF,hbs2,strCrc_lt hd l2,hX⟩
  refine Ap ?_
  exact⟨l2,d,h,bs,hb,xa,xn,xf,f1,f2,f3,rfl,rfl,by rw[hR,rd2,if_pos (by omega)],hG,hbs,hd,hX⟩
 rintro _ _⟨l2,d,h,bs,hb,xa,xn,xf,f1,f2,f3,hq29,rfl,hR,hG,hbs,hd,hX⟩
 refine Av _ hq29<|Du (M:=fun ee ll=>∃(l2:List UInt8),∃(d:Nat),∃(h:Hd),∃(bs:List Value),∃(hb:Nat),∃(xa:Option Addr),∃(xn:Nat),∃(xf:Frag),∃(f1:Frag),∃(f2:Frag),∃(f3:Frag),keeps ee [0,2,3,4]=some [(0,.pointer (some ⟨zb,0,none⟩)),(2,.pointer (some ⟨hb,0,none⟩)),(3,Er.val ea .none),(4,.int .u8 ((v3.toNat:Nat):Int))]∧ll=[f1,f2,f3,⟨zb,0,[c0,c1,c2,c3,c4,c5,.iface src.t src.v,dcv,.int .u32 ((d:Nat):Int),c9]⟩,⟨zb,10,bs⟩,⟨hb,0,[.string h.comment,.slice xa xn xn,.int .u64 0,.int .i64 (timeV h.mod),.string h.name,.int .u8 ((h.os:Nat):Int)]⟩,xf]++DL∧(Ac l=rd4 l2 v3.toNat d h)∧(src.At l2 f1 f2 f3)∧(bs.length=512)∧(d<4294967296)∧(ExAt h.extra xa xn xf)) ?_ ?_
 ·refine Cr<|Em U U<|Aa (Fa (b:=((16:Nat):Int)) U U (N.and_u8 (by omega) (by omega))) U<|Aa (S.ne (b:=((0:Nat):Int)) U U) U<|Ek5 0 2 3 4 159 U<|Bf U (fun h159=>?_) (fun h159=>?_)
  ·refine Am<|Cr<|Em U U ?_
   refine Ai (OpX.pick [0,0,0,0,0] (F:=(_::_::_)) U (Ar U Tryz.call73 (readString_spec hs src l2 f1 f2 f3 zb d c0 c1 c2 c3 c4 c5 dcv c9 bs hG hbs hd))) U ?_;rintro _ _⟨_,⟨k1,k2,k3,bs2,hF,hbs2,rfl,rfl⟩,rfl⟩;refine Et8 U ?_
   refine Em U U<|Aa (Bg U U) U<|Aa (Bg U U) U<|Ea U U<|Ea U U<|Ek6 0 2 3 4 7 159 U<|Cr<|Em U U<|Ag (Df U) U<|Ek7 0 2 3 4 7 159 166 U<|Dn U (fun h166=>?_) (fun h166=>?_)
   ·refine Am<|Bt [0,0,2,5,15] (.pure 1 1 (.alt 0 (.alt 2 (.alt 3 (.pure 4 15 .done) .stop) .stop) (.alt 2 (.seg [(0,6)] (.alt 3 (.pure 4 15 .done) .stop)) .stop))) mixed (by decide+kernel)<|Dm U U U<|Hc ?_ ⟨?_,trivial⟩
    ·refine El U (De 5 (k:=0) U U U U Ta92 Tz92) U<|By ?_
     refine Bo U (OpX.pick [] (F:=(_::_::_::_::_::_::_::_)) U (Ar U Tryz.call57 (Ey (L:=[]) hs _))) U ?_;rintro _ _⟨_,⟨rfl,rfl⟩,rfl⟩;refine Dt8 U ?_
     refine By ?_
     refine Di U (Bq 5 (k:=0) U U U U U U Tz92 U) ?_;rintro _ _⟨rfl,rfl⟩;refine Dt8 U ?_
     refine Ah U (Az U) U<|Dk7 0 2 3 4 7 159 166 U<|Bb ?_
     have hRR:Ac l=(noEof (strEr l2),l2.drop (Fd l2),h):=by rw[hR,rd3,if_neg (by omega),if_pos h166]
     refine⟨_,_,⟨_,_,5,rfl,rfl,rfl⟩,rfl,_,_,_,_,_,_,_,rfl,rfl,?_,?_,?_,?_,.inl ⟨?_,[_],rfl⟩⟩
     · rw[hRR];done
     · rw[hRR];exact hF
     · exact hbs2
     · exact strCrc_lt hd l2
     · rw[hRR];first|assumption|(exact Dw (by assumption))|simp
    refine Bo U (OpX.pick [] (F:=(_::_::_::_::_::_::_::_)) U (Ar U Tryz.call57 (Ey (L:=[]) hs _))) U ?_;rintro _ _⟨_,⟨rfl,rfl⟩,rfl⟩;refine Dt8 U ?_
    refine Dc (by decide)<|Au U (De 5 (k:=0) U U U U Ta92 Tz92) U<|Da<|By ?_
    refine Di U (Bq 5 (k:=0) U U U U U U Tz92 U) ?_;rintro _ _⟨rfl,rfl⟩;refine Dt8 U ?_
    refine Ah U (Az U) U<|Dk7 0 2 3 4 7 159 166 U<|Bb ?_
    have hRR:Ac l=(noEof (strEr l2),l2.drop (Fd l2),h):=by rw[hR,rd3,if_neg (by omega),if_pos h166]
    refine⟨_,_,⟨_,_,5,rfl,rfl,rfl⟩,rfl,_,_,_,_,_,_,_,rfl,rfl,?_,?_,?_,?_,.inl ⟨?_,[_],rfl⟩⟩
    · rw[hRR];done
    · rw[hRR];exact hF
    · exact hbs2
    · exact strCrc_lt hd l2
    · rw[hRR];first|assumption|(exact Dw (by assumption))|simp
   rw[h166]
   refine Ap<|Al<|Em U U<|Aa (Ab U fa92_0) U ?_
   refine Ao (Aq 5 (k:=0) U U U U U Tz9) ?_;rintro _ _⟨rfl,rfl⟩;refine Et8 U ?_
   refine Ek7 0 2 3 4 7 159 166 U ?_
   exact⟨l2.drop (Fd l2),strCrc d l2,{h with comment:=strTxt l2},bs2,hb,xa,xn,xf,k1,k2,k3,rfl,rfl,by rw[hR,rd3,if_neg (by omega),if_neg (by simpa using h166)],hF,hbs2,strCrc_lt hd l2,hX⟩
  refine Ap ?_
  exact⟨l2,d,h,bs,hb,xa,xn,xf,f1,f2,f3,rfl,rfl,by rw[hR,rd3,if_pos (by omega)],hG,hbs,hd,hX⟩
 rintro _ _⟨l2,d,h,bs,hb,xa,xn,xf,f1,f2,f3,hq34,rfl,hR,hG,hbs,hd,hX⟩
 refine Av _ hq34<|Du (M:=fun ee ll=>∃(l2:List UInt8),∃(d:Nat),∃(h:Hd),∃(bs:List Value),∃(hb:Nat),∃(xa:Option Addr),∃(xn:Nat),∃(xf:Frag),∃(f1:Frag),∃(f2:Frag),∃(f3:Frag),keeps ee [0,2,3,4]=some [(0,.pointer (some ⟨zb,0,none⟩)),(2,.pointer (some ⟨hb,0,none⟩)),(3,Er.val ea .none),(4,.int .u8 ((v3.toNat:Nat):Int))]∧ll=[f1,f2,f3,⟨zb,0,[c0,c1,c2,c3,c4,c5,.iface src.t src.v,dcv,.int .u32 ((d:Nat):Int),c9]⟩,⟨zb,10,bs⟩,⟨hb,0,[.string h.comment,.slice xa xn xn,.int .u64 0,.int .i64 (timeV h.mod),.string h.name,.int .u8 ((h.os:Nat):Int)]⟩,xf]++DL∧(Ac l=(.none,l2,h))∧(src.At l2 f1 f2 f3)∧(bs.length=512)∧(d<4294967296)∧(ExAt h.extra xa xn xf)) ?_ ?_
 ·refine Cr<|Em U U<|Aa (Fa (b:=((2:Nat):Int)) U U (N.and_u8 (by omega) (by omega))) U<|Aa (S.ne (b:=((0:Nat):Int)) U U) U<|Ek5 0 2 3 4 174 U<|Bf U (fun h174=>?_) (fun h174=>?_)
  ·refine Am<|Am ?_
   refine Ga (Same.splitAt (k:=2) 4 U U (List.take_append_drop 2 _).symm (by rw[List.length_take];omega) U) ?_
   refine Bx (L2:=[_,_,_,_,_,_,_,_]++DL) U<|Bt [0,1,2,4,0,16,32,64,136,256,512,512,4095] (.pure 0 240 (.pure 1 241 (.pure 2 243 (.pure 4 15 (.pure 5 31 (.pure 6 63 (.pure 7 127 (.seg [(3,247)] (.alt 8 (.pure 9 511 (.pure 10 3071 (.pure 11 2047 (.pure 12 4095 .done)))) .stop))))))))) mixed (by decide+kernel)<|Dm U U U<|Ah U (Ad U) U<|Ah U (Ab U fa99_1) U<|Dm U U U<|Ah U (Ad U) U<|Ah U (Ab U fa99_5) U<|Ah U (Fo (l:=0) (k:=.i64) (h:=2) U U U (by omega) (by omega) Tu97 Tz5) U<|Fi (v:=.slice (some ⟨zb,10,none⟩) (2) (512)) (Dj (by simp[part]) U U)<|Dc (by decide)<|Au U (Aj 5 (k:=6) U U U Ta94) U ?_
   refine Da<|By ?_
   refine Bo U (OpX.pick [2,2,2,0] (F:=(_::_::_::_::_)) U (Ar U Tryz.call56 (Gh hs src l2 f1 f2 f3 zb 10 2 512 (List.take 2 _) hG (by rw[List.length_take];omega) (by omega) (by omega)))) U ?_;rintro _ _⟨_,⟨k1,k2,k3,hF,rfl,rfl⟩,rfl⟩;refine Dt9 U ?_
   refine Dm U U U<|Ah U (Bg U U) U<|Ah U (Bg U U) U<|Ah U (Az U) U<|Dk5 0 2 3 4 174 U ?_
   refine Ga (Same.joinAt 3 3 U U (by rw[show 10+2=10+(2:Nat)from U];congr 1;simp only[List.length_append,Bh,List.length_take,List.length_drop,min_i];omega)) ?_
   refine Hv [1,1,1,1,0,0,0] (A:=[_,_,_,_,_,_,_]) (F:=DL) U<|Bx (L2:=[_,_,_,_,_,_,_]++DL) U<|Cr<|Em U U<|Ag (Df U) U<|Ek6 0 2 3 4 174 188 U<|Dn U (fun h188=>?_) (fun h188=>?_)
   ·refine Am<|Bt [0,0,2,5,15] (.pure 1 1 (.alt 0 (.alt 2 (.alt 3 (.pure 4 15 .done) .stop) .stop) (.alt 2 (.seg [(0,6)] (.alt 3 (.pure 4 15 .done) .stop)) .stop))) mixed (by decide+kernel)<|Dm U U U<|Hc ?_ ⟨?_,trivial⟩
    ·refine El U (De 5 (k:=0) U U U U Ta92 Tz92) U<|By ?_
     refine Bo U (OpX.pick [] (F:=(_::_::_::_::_::_::_::_)) U (Ar U Tryz.call57 (Ey (L:=[]) hs _))) U ?_;rintro _ _⟨_,⟨rfl,rfl⟩,rfl⟩;refine Dt8 U ?_
     refine By ?_
     refine Di U (Bq 5 (k:=0) U U U U U U Tz92 U) ?_;rintro _ _⟨rfl,rfl⟩;refine Dt8 U ?_
     refine Ah U (Az U) U<|Dk6 0 2 3 4 174 188 U<|Bb ?_
     have hRR:Ac l=(noEof (Dg l2 2),l2.drop 2,h):=by rw[hR,rd4,if_neg (by omega),if_pos h188]
     refine⟨_,_,⟨_,_,5,rfl,rfl,rfl⟩,rfl,_,_,_,_,_,_,_,rfl,rfl,?_,?_,?_,?_,.inl ⟨?_,[_],rfl⟩⟩
     · rw[hRR];done
     · rw[hRR];exact hF
     · rw[buf_join (by omega)];exact hbs
     · assumption
     · rw[hRR];first|assumption|(exact Dw (by assumption))|simp
    refine Bo U (OpX.pick [] (F:=(_::_::_::_::_::_::_::_)) U (Ar U Tryz.call57 (Ey (L:=[]) hs _))) U ?_;rintro _ _⟨_,⟨rfl,rfl⟩,rfl⟩;refine Dt8 U ?_
    refine Dc (by decide)<|Au U (De 5 (k:=0) U U U U Ta92 Tz92) U<|Da<|By ?_
    refine Di U (Bq 5 (k:=0) U U U U U U Tz92 U) ?_;rintro _ _⟨rfl,rfl⟩;refine Dt8 U ?_
    refine Ah U (Az U) U<|Dk6 0 2 3 4 174 188 U<|Bb ?_
    have hRR:Ac l=(noEof (Dg l2 2),l2.drop 2,h):=by rw[hR,rd4,if_neg (by omega),if_pos h188]
    refine⟨_,_,⟨_,_,5,rfl,rfl,rfl⟩,rfl,_,_,_,_,_,_,_,rfl,rfl,?_,?_,?_,?_,.inl ⟨?_,[_],rfl⟩⟩
    · rw[hRR];done
    · rw[hRR];exact hF
    · rw[buf_join (by omega)];exact hbs
    · assumption
    · rw[hRR];first|assumption|(exact Dw (by assumption))|simp
   rw[h188]
   obtain⟨w0,w1,r2,hl2⟩:=two h188
   have hw0:=w0.toNat_lt
   have hw1:=w1.toNat_lt
   have h16:=le16_lt hw0 hw1
   have e1:l2.drop 2=r2:=by rw[hl2];rfl
   have e2:le16of l2=le16 w0.toNat w1.toNat:=by rw[hl2];rfl
   refine Bx (L2:=[k1,k2,k3,⟨zb,0,[c0,c1,c2,c3,c4,c5,.iface src.t src.v,dcv,.int .u32 ((d:Nat):Int),c9]⟩,⟨zb,10,u8 w0::u8 w1::bs.drop 2⟩,⟨hb,0,[.string h.comment,.slice xa xn xn,.int .u64 0,.int .i64 (timeV h.mod),.string h.name,.int .u8 ((h.os:Nat):Int)]⟩,xf]++DL) (by rw[buf_full (full_len h188),hl2];rfl) ?_
   rw[e1]at hF
   refine Ap<|Cr<|Em U U<|Aa (Ad U) U<|Aa (Ab U fa99_5) U<|Aa (Fo (l:=0) (k:=.i64) (h:=2) U U U (by omega) (by omega) Tu97 Tz5) U<|An (v:=.slice (some ⟨zb,10,none⟩) (2) (512)) (Dj (by simp[part]) U U) ?_
   refine Ai (Ar U Tryz.call72 (le16_spec zb 10 2 512 w0 w1 [] (by omega) (Reads.frag (i:=4) (k:=0) U U))) U ?_;rintro _ _⟨rfl,rfl⟩;refine Et8 U ?_
   refine Ea U U<|Ek7 0 2 3 4 8 174 188 U<|Cr<|Em U U<|Em U U<|Aa (Ad U) U<|Aa (Ab U fa99_3) U<|Ag (Aj 3 (k:=8) U U U Ta69) U<|Aa (Bv U Tu69 Tu153 (N.mod_u16 _)) U<|Aa (S.ne U U) U<|Ek8 0 2 3 4 8 174 188 203 U<|Bf U (fun h203=>?_) (fun h203=>?_)
   ·refine Am<|Bt [0,0,1,7] (.alt 0 (.alt 1 (.alt 2 (.pure 3 7 .done) .stop) (.alt 2 (.seg [(1,5),(3,7)] .done) .stop)) (.alt 1 (.seg [(0,2)] (.alt 2 (.pure 3 7 .done) .stop)) .stop)) mixed (by decide+kernel)<|Hc ?_ ⟨?_,trivial⟩
    ·refine El U (De 5 (k:=0) U U U U Ta92 Tz92) U<|Hc ?_ ⟨?_,trivial⟩
     ·refine El U (Be U hs.g1 Ta58) U<|By ?_
      refine Di U (Bq 5 (k:=0) U U U U U U Tz92 U) ?_;rintro _ _⟨rfl,rfl⟩;refine Dt8 U ?_
      refine Ah U (Az U) U<|Dk8 0 2 3 4 8 174 188 203 U<|Bb ?_
      have hRR:Ac l=(.header,r2,h):=by rw[hR,rd4,if_neg (by omega),if_neg (by simpa using h188),if_pos (by rw[e2];omega),e1]
      refine⟨_,_,⟨_,_,5,rfl,rfl,rfl⟩,rfl,_,_,_,_,_,_,_,rfl,rfl,?_,?_,?_,?_,.inl ⟨?_,[_],rfl⟩⟩
      · rw[hRR];done
      · rw[hRR];exact hF
      · simp only[List.length_cons,List.length_drop];omega
      · assumption
      · rw[hRR];first|assumption|(exact Dw (by assumption))|simp
     refine Di U (Bq 5 (k:=0) U U U U U U Tz92 U) ?_;rintro _ _⟨rfl,rfl⟩;refine Dt8 U ?_
     refine Dc (by decide)<|Au U (Be U hs.g1 Ta58) U<|Ba U (Az U) U<|Da<|Dk8 0 2 3 4 8 174 188 203 U<|Bb ?_
     have hRR:Ac l=(.header,r2,h):=by rw[hR,rd4,if_neg (by omega),if_neg (by simpa using h188),if_pos (by rw[e2];omega),e1]
     refine⟨_,_,⟨_,_,5,rfl,rfl,rfl⟩,rfl,_,_,_,_,_,_,_,rfl,rfl,?_,?_,?_,?_,.inl ⟨?_,[_],rfl⟩⟩
     · rw[hRR];done
     · rw[hRR];exact hF
     · simp only[List.length_cons,List.length_drop];omega
     · assumption
     · rw[hRR];first|assumption|(exact Dw (by assumption))|simp
    refine El U (Be U hs.g1 Ta58) U<|Dc (by decide)<|Au U (De 5 (k:=0) U U U U Ta92 Tz92) U<|Da<|By ?_
    refine Di U (Bq 5 (k:=0) U U U U U U Tz92 U) ?_;rintro _ _⟨rfl,rfl⟩;refine Dt8 U ?_
    refine Ah U (Az U) U<|Dk8 0 2 3 4 8 174 188 203 U<|Bb ?_
    have hRR:Ac l=(.header,r2,h):=by rw[hR,rd4,if_neg (by omega),if_neg (by simpa using h188),if_pos (by rw[e2];omega),e1]
    refine⟨_,_,⟨_,_,5,rfl,rfl,rfl⟩,rfl,_,_,_,_,_,_,_,rfl,rfl,?_,?_,?_,?_,.inl ⟨?_,[_],rfl⟩⟩
    · rw[hRR];done
    · rw[hRR];exact hF
    · simp only[List.length_cons,List.length_drop];omega
    · assumption
    · rw[hRR];first|assumption|(exact Dw (by assumption))|simp
   refine Ap ?_
   exact⟨r2,d,h,_,hb,xa,xn,xf,k1,k2,k3,rfl,rfl,by rw[hR,rd4,if_neg (by omega),if_neg (by simpa using h188),if_neg (by rw[e2];omega),e1],hF,by simp only[List.length_cons,List.length_drop];omega,hd,hX⟩
  refine Ap ?_
  exact⟨l2,d,h,bs,hb,xa,xn,xf,f1,f2,f3,rfl,rfl,by rw[hR,rd4,if_pos (by omega)],hG,hbs,hd,hX⟩
 rintro _ _⟨l2,d,h,bs,hb,xa,xn,xf,f1,f2,f3,hq41,rfl,hR,hG,hbs,hd,hX⟩
 refine Av _ hq41<|Cr<|Em U U<|Aa (Ad U) U<|Aa (Ab U fa99_3) U ?_
 refine Ao (Aq 3 (k:=8) U U U U U Tz69) ?_;rintro _ _⟨rfl,rfl⟩;refine Et8 U ?_
 refine Ek4 0 2 3 4 U<|Am<|Cr<|Em U U<|Aa (Ad U) U<|Aa (Ab U fa99_2) U<|Ag (Aj 3 (k:=7) U U U Tryz.isAgg96) U<|Ag (S.eqDc hDL U Tryz.underlying96) U<|Ek5 0 2 3 4 213 U<|Eg U (fun h213=>?_) (fun h213=>?_)
 ·obtain⟨rfl,rfl⟩:=hDL.nil h213
  refine Al<|Em U U<|Em U U<|Aa (Ad U) U<|Aa (Ab U fa99_1) U<|Ag (Aj 3 (k:=6) U U U Ta94) U ?_
  refine Ai (Ar U Tryz.call74 (flateNew_in src _)) U ?_;rintro _ _⟨fb,DN,rfl,hDN,rfl⟩;refine Et8 U ?_
  refine Aa (Ad U) U<|Aa (Ab U fa99_2) U ?_
  refine Ao (Aq 3 (k:=7) U U U U U Tryz.sizeOf96) ?_;rintro _ _⟨rfl,rfl⟩;refine Et8 U ?_
  refine Ek5 0 2 3 4 213 U<|Cr<|Ag (De 5 (k:=0) U U U U Ta92 Tz92) U ?_
  refine Ao (Bq 5 (k:=0) U U U U U U Tz92 U) ?_;rintro _ _⟨rfl,rfl⟩;refine Et8 U ?_
  refine Aa (Az (v:=Er.val ea .none) U) U<|Ek5 0 2 3 4 213 U<|Bb ?_
  refine⟨_,_,⟨_,_,5,rfl,rfl,rfl⟩,rfl,_,f1,f2,f3,_,_,_,rfl,rfl,?_,?_,hbs,?_,.inr ⟨?_,xa,xn,xf,fb,DN,?_,?_,?_,hDN,rfl⟩⟩
  · rw[hR];done
  · rw[hR];exact hG
  · decide
  · rw[hR]
  · rw[hR];exact hX
  · rw[hR];rfl
  · rfl
 obtain⟨fb,rfl,hraw⟩:=hDL.dec (by simpa using h213)
 refine Bt [0,1,2,4,8,0,32,64,128,16,528,1280] (.pure 0 480 (.pure 1 481 (.pure 2 483 (.pure 5 1567 (.pure 6 1599 (.pure 7 1663 (.seg [(3,487),(4,495),(8,1791),(9,511),(10,1023)] (.alt 11 .done .stop)))))))) mixed (by decide+kernel)<|Dm U U U<|Ah U (Ad U) U<|Ah U (Ab U fa99_2) U<|Dm U U U<|Ah U (Ad U) U<|Ah U (Ab U fa99_1) U<|Dc (by decide)<|Au U (Aj 3 (k:=7) U U U Tryz.isAgg96) U<|Ba U (S.assertHas1 U Tryz.underlying159 (dmBoth _ Tryz.underlying159)) U<|Au U (Aj 3 (k:=6) U U U Ta94) U<|Ba U (S.nilIface U) U ?_
 refine Ba U (Fp U) U<|Da<|By ?_
 refine Bo U (X.invoke U U (dmReset fb) Tryz.call136 (decReset_in src hraw [_,_,_,_,_,_,_])) U ?_;rintro _ _⟨rfl,DN,hDN,rfl⟩;refine Dt8 U ?_
 refine Dk5 0 2 3 4 213 U<|Cr<|Ag (De 5 (k:=0) U U U U Ta92 Tz92) U ?_
 refine Ao (Bq 5 (k:=0) U U U U U U Tz92 U) ?_;rintro _ _⟨rfl,rfl⟩;refine Et8 U ?_
 refine Aa (Az (v:=Er.val ea .none) U) U<|Ek5 0 2 3 4 213 U<|Bb ?_
 refine⟨_,_,⟨_,_,5,rfl,rfl,rfl⟩,rfl,_,f1,f2,f3,_,_,_,rfl,rfl,?_,?_,hbs,?_,.inr ⟨?_,xa,xn,xf,fb,DN,?_,?_,?_,hDN,rfl⟩⟩
 · rw[hR];done
 · rw[hR];exact hG
 · decide
 · rw[hR]
 · rw[hR];exact hX
 · rw[hR];rfl
 · rfl
def HeadRes{K:Known}{ea:Fin 5→Addr}(src:Src K ea)(l:List UInt8)(zb:Nat)(c0 c1 c2 c3 c4 c5 c9 dcv:Value)(DL:Frags)(r:Value)(L:Frags):Prop:=
  ∃hs f1 f2 f3 d2 bs2,hs.length=6∧hs.all one=true∧r=.tuple #[.agg hs.toArray,Er.val ea (Ac l).1]∧src.At (Ac l).2.1 f1 f2 f3∧bs2.length=512∧d2<4294967296∧
    (((Ac l).1≠.none∧L=[f1,f2,f3,⟨zb,0,[c0,c1,c2,c3,c4,c5,.iface src.t src.v,dcv,.int .u32 ((d2:Nat):Int),c9]⟩,⟨zb,10,bs2⟩]++DL)∨
     ((Ac l).1=.none∧∃xa xn X fb DN,ExAt (Ac l).2.2.extra xa xn X∧hs=headV (Ac l).2.2 xa xn∧d2=0∧DecNew src fb DN∧
        L=[f1,f2,f3,⟨zb,0,[c0,c1,c2,c3,c4,c5,.iface src.t src.v,.iface 190 (.pointer (some ⟨fb,0,none⟩)),.int .u32 ((d2:Nat):Int),c9]⟩,⟨zb,10,bs2⟩,X]++DN))
theorem readHeader_spec{K:Known}{ea:Fin 5→Addr}(hs:Sents K ea)(src:Src K ea)(l:List UInt8)(x1 x2 x3:Frag)(zb d0:Nat)(c0 c1 c2 c3 c4 c5 c9 dcv:Value)(bs0:List Value)(DL:Frags)(hDL:DcIn dcv DL)(hA:src.At l x1 x2 x3)(hbs0:bs0.length=512)(hd0:d0<4294967296):
    Fn Tryz.prog K 51 #[.pointer (some ⟨zb,0,none⟩)] ([x1,x2,x3,⟨zb,0,[c0,c1,c2,c3,c4,c5,.iface src.t src.v,dcv,.int .u32 ((d0:Nat):Int),c9]⟩,⟨zb,10,bs0⟩]++DL) (HeadRes src l zb c0 c1 c2 c3 c4 c5 c9 dcv DL):=by
  refine Fn.lose (readHeader_first hs src l x1 x2 x3 zb d0 c0 c1 c2 c3 c4 c5 c9 dcv bs0 DL hDL hA hbs0 hd0) ?_
  rintro v L'⟨hs',f1,f2,f3,d2,bs2,hb,h6,h7,rfl,hF,hb2,hd2,⟨hne,T,rfl⟩|⟨hno,xa,xn,X,fb,DN,hX,hv,hdz,hDN,rfl⟩⟩
  · refine⟨[f1,f2,f3,⟨zb,0,[c0,c1,c2,c3,c4,c5,.iface src.t src.v,dcv,.int .u32 ((d2:Nat):Int),c9]⟩,⟨zb,10,bs2⟩]++DL,⟨hb,0,hs'⟩::T,Same.perm ?_,hs',f1,f2,f3,d2,bs2,h6,h7,rfl,hF,hb2,hd2,.inl ⟨hne,rfl⟩⟩
    show([f1,f2,f3,⟨zb,0,[c0,c1,c2,c3,c4,c5,.iface src.t src.v,dcv,.int .u32 ((d2:Nat):Int),c9]⟩,⟨zb,10,bs2⟩]++((⟨hb,0,hs'⟩::T)++DL)).Perm _
    rw[List.append_assoc]
    exact List.perm_append_comm.append_left _
  · refine⟨[f1,f2,f3,⟨zb,0,[c0,c1,c2,c3,c4,c5,.iface src.t src.v,.iface 190 (.pointer (some ⟨fb,0,none⟩)),.int .u32 ((d2:Nat):Int),c9]⟩,⟨zb,10,bs2⟩,X]++DN,[⟨hb,0,hs'⟩],Same.perm ?_,hs',f1,f2,f3,d2,bs2,h6,h7,rfl,hF,hb2,hd2,.inr ⟨hno,xa,xn,X,fb,DN,hX,hv,hdz,hDN,rfl⟩⟩
    refine List.Perm.trans (List.perm_middle (l₁:=[f1,f2,f3,⟨zb,0,[c0,c1,c2,c3,c4,c5,.iface src.t src.v,.iface 190 (.pointer (some ⟨fb,0,none⟩)),.int .u32 ((d2:Nat):Int),c9]⟩,⟨zb,10,bs2⟩]) (l₂:=X::DN)) ?_
    exact(List.perm_append_comm (l₁:=[_]))
def ZOld(zb:Nat)(L:Frags):Prop:=∃c0 c1 c2 c3 c4 c5 rv dcv dg sz bs ev ms DL,bs.length=512∧DcIn dcv DL∧L=[⟨zb,0,[c0,c1,c2,c3,c4,c5,rv,dcv,dg,sz]⟩,⟨zb,10,bs⟩,⟨zb,522,[ev,ms]⟩]++DL
def ZAt{K:Known}{ea:Fin 5→Addr}(src:Src K ea)(zb:Nat)(h:Hd)(ms:Bool)(rest:List UInt8)(L:Frags):Prop:=
  ∃f1 f2 f3 bs xa xn X fb DN,src.At rest f1 f2 f3∧bs.length=512∧ExAt h.extra xa xn X∧DecNew src fb DN∧
    L=[f1,f2,f3,⟨zb,0,[.string h.comment,.slice xa xn xn,.int .u64 0,.int .i64 (timeV h.mod),.string h.name,.int .u8 ((h.os:Nat):Int),.iface src.t src.v,.iface 190 (.pointer (some ⟨fb,0,none⟩)),.int .u32 ((0:Nat):Int),.int .u32 0]⟩,⟨zb,10,bs⟩,⟨zb,522,[Er.val ea .none,.bool ms]⟩,X]++DN
def ResetEnd{K:Known}{ea:Fin 5→Addr}(src:Src K ea)(zb:Nat)(l:List UInt8)(L:Frags):Prop:=
  ((Ac l).1≠.none∧∃f1 f2 f3 T,src.At (Ac l).2.1 f1 f2 f3∧L=[f1,f2,f3]++T)∨((Ac l).1=.none∧ZAt src zb (Ac l).2.2 true (Ac l).2.1 L)
theorem DcIn.one{dcv:Value}{DL:Frags}(h:DcIn dcv DL):one dcv=true:=by
  rcases h with⟨rfl,_⟩|⟨fb,rfl,_⟩
  · rfl
  · rfl
theorem readHeader_in{K:Known}{ea:Fin 5→Addr}(hs:Sents K ea)(src:Src K ea)(l:List UInt8)(x1 x2 x3:Frag)(zb d0:Nat)(c0 c1 c2 c3 c4 c5 c9 dcv:Value)(bs0:List Value)(DL:Frags)(hDL:DcIn dcv DL)(hA:src.At l x1 x2 x3)(hbs0:bs0.length=512)(hd0:d0<4294967296)(EF:Frags):
    Fn Tryz.prog K 51 #[.pointer (some ⟨zb,0,none⟩)] ([x1,x2,x3,⟨zb,0,[c0,c1,c2,c3,c4,c5,.iface src.t src.v,dcv,.int .u32 ((d0:Nat):Int),c9]⟩,⟨zb,10,bs0⟩]++(EF++DL)) fun r L=>
      ∃hs f1 f2 f3 d2 bs2,hs.length=6∧hs.all one=true∧r=.tuple #[.agg hs.toArray,Er.val ea (Ac l).1]∧src.At (Ac l).2.1 f1 f2 f3∧bs2.length=512∧d2<4294967296∧
    (((Ac l).1≠.none∧L=[f1,f2,f3,⟨zb,0,[c0,c1,c2,c3,c4,c5,.iface src.t src.v,dcv,.int .u32 ((d2:Nat):Int),c9]⟩,⟨zb,10,bs2⟩]++(EF++DL))∨
     ((Ac l).1=.none∧∃xa xn X fb DN,ExAt (Ac l).2.2.extra xa xn X∧hs=headV (Ac l).2.2 xa xn∧d2=0∧DecNew src fb DN∧
        L=[f1,f2,f3,⟨zb,0,[c0,c1,c2,c3,c4,c5,.iface src.t src.v,.iface 190 (.pointer (some ⟨fb,0,none⟩)),.int .u32 ((d2:Nat):Int),c9]⟩,⟨zb,10,bs2⟩]++(EF++(X::DN)))):=by
  have pm:∀(a1 a2 a3 a4 a5:Frag) (DL:Frags),([a1,a2,a3,a4,a5]++(EF++DL)).Perm (([a1,a2,a3,a4,a5]++DL)++EF):=fun a1 a2 a3 a4 a5 DL=>by
    rw[List.append_assoc];exact List.perm_append_comm.append_left _
  refine Fn.sameR (Fn.perm (pm _ _ _ _ _ DL) (Fn.frame (F:=EF) (readHeader_spec hs src l x1 x2 x3 zb d0 c0 c1 c2 c3 c4 c5 c9 dcv bs0 DL hDL hA hbs0 hd0))) ?_
  rintro v L⟨L1,⟨hs',f1,f2,f3,d2,bs2,h6,h7,rfl,hF,hb2,hd2,⟨hne,rfl⟩|⟨hno,xa,xn,X,fb,DN,hX,hv,hdz,hDN,rfl⟩⟩,rfl⟩
  · exact⟨_,Same.perm (pm _ _ _ _ _ DL).symm,hs',f1,f2,f3,d2,bs2,h6,h7,rfl,hF,hb2,hd2,.inl ⟨hne,rfl⟩⟩
  · exact⟨_,Same.perm (pm _ _ _ _ _ (X::DN)).symm,hs',f1,f2,f3,d2,bs2,h6,h7,rfl,hF,hb2,hd2,.inr ⟨hno,xa,xn,X,fb,DN,hX,hv,hdz,hDN,rfl⟩⟩
theorem zipStore2(zb:Nat)(v:List Value)(F:Frags)(cs:List Value)(h:cs.length=524)(dcv:Value):
    ((⟨zb,0,cs⟩:Frag)::F).set 0 ⟨zb,0,cs.take 0++(zip10 .nilIface dcv++(buf0++zipEnd .nilIface true))++cs.drop (0+524)⟩=⟨zb,0,zip10 .nilIface dcv++(buf0++zipEnd .nilIface true)⟩::F:=by
  rw[List.take_zero,List.nil_append,List.drop_eq_nil_of_le (by rw[h];decide),List.append_nil]
  rfl
theorem reset_walk{K:Known}{ea:Fin 5→Addr}(hs:Sents K ea)(src:Src K ea)(l:List UInt8)(x1 x2 x3:Frag)(zb:Nat)(hA:src.At l x1 x2 x3)(c0 c1 c2 c3 c4 c5 rv dcv dg sz ev ms:Value)(bs:List Value)(DL:Frags)(hbs:bs.length=512)(hDL:DcIn dcv DL):Fn Tryz.prog K 34 #[.pointer (some ⟨zb,0,none⟩),.iface src.t src.v] ([x1,x2,x3,⟨zb,0,[c0,c1,c2,c3,c4,c5,rv,dcv,dg,sz]⟩,⟨zb,10,bs⟩,⟨zb,522,[ev,ms]⟩]++DL) (fun r L=>r=Er.val ea (Ac l).1∧ResetEnd src zb l L):=by
 refine Fn.intro (args:=[.pointer (some ⟨zb,0,none⟩),.iface src.t src.v]) (RR:=Ret1 4 _) Tryz.func34 rfl rfl Tryz.ntmps34 (res1 Tryz.results34) ?_
 refine Bi (env2:=[(0,.pointer (some ⟨zb,0,none⟩)),(1,.iface src.t src.v)]) U<|Cr<|Aa (Az (v:=Er.val ea .none) U) U<|Ek3 0 1 4 U<|Cr<|Em U U<|Em U U<|Aa (Ad U) U<|Aa (Ab U fa99_2) U<|Ag (Aj 3 (k:=7) U U U Tryz.isAgg96) U<|Aa (Et [(2,dcv),(7,.bool true)] U (zipBuild dcv hDL.one)) U<|Aa (Ad U) U ?_
 refine Dd [3,3,3,0,0,0] (A:=[_,_,_,_,_,_]) (F:=DL) U<|Ev (zipSame zb ([x1,x2,x3]++DL) [c0,c1,c2,c3,c4,c5,rv,dcv,dg,sz] bs [ev,ms] U hbs).symm<|Ax (L2:=⟨zb,0,_⟩::x1::x2::x3::DL) U ?_
 refine Ao (Bq 0 (k:=0) U U U (zip_one dcv hDL.one) (zip_len dcv) (by rw[Nat.ble_eq];simp[hbs]) Tryz.sizeOf99 U) ?_
 rintro _ _⟨rfl,rfl⟩
 refine Ax (L2:=⟨zb,0,zip10 .nilIface dcv++(buf0++zipEnd .nilIface true)⟩::x1::x2::x3::DL) (zipStore2 zb [] _ _ (by simp[hbs]) dcv)<|Ek3 0 1 4 U<|Ga (zipSame zb ([x1,x2,x3]++DL) (zip10 .nilIface dcv) buf0 (zipEnd .nilIface true) U Hl)<|Hv [3,3,3,0,0,0] (A:=[_,_,_,_,_,_]) (F:=DL) U<|Bx (L2:=[x1,x2,x3,⟨zb,0,[.string ⟨#[]⟩,.slice none 0 0,.int .u64 0,.int .i64 0,.string ⟨#[]⟩,.int .u8 0,.nilIface,dcv,.int .u32 0,.int .u32 0]⟩,⟨zb,10,buf0⟩,⟨zb,522,[.nilIface,.bool true]⟩]++DL) U<|Am<|Cr<|Em U U<|Aa (S.assertHas U Tu94 (src.both _ Tu94)) U<|Em U U<|Aa (Bg U U) U<|Aa (Bg U U) U ?_
 refine Ea U U<|Ea U U<|Ek5 0 1 4 5 6 U<|Cr<|Em U U<|Ek6 0 1 4 5 6 19 U<|He U (rfl)<|Al<|Em U U<|Em U U<|Aa (Ad U) U<|Aa (Ab U fa99_1) U ?_
 refine Ao (Aq 3 (k:=6) U U U U U Tryz.sizeOf94) ?_;rintro _ _⟨rfl,rfl⟩;refine Et7 U ?_
 refine Ek6 0 1 4 5 6 19 U<|Cr<|Em U U<|Em U U<|Em U U<|Ai (Ar U Tryz.call51 (readHeader_in hs src l x1 x2 x3 zb 0 _ _ _ _ _ _ (.int .u32 0) dcv buf0 DL hDL hA Hl (by decide) [_])) U ?_
 rintro _ _⟨hs6,f1,f2,f3,d2,bs2,h6,h7,rfl,hF,hb2,hd2,⟨hne,rfl⟩|⟨hno,xa,xn,xf,fb,DN,hX,rfl,rfl,hDN,rfl⟩⟩
 ·refine Et7 U ?_
  obtain⟨a0,a1,a2,a3,a4,a5,rfl⟩:=six h6
  refine Em U U<|Aa (Bg U U) U<|Aa (Bg U U) U<|Aa (Ad U) U<|Aa (Ab U fa99_0) U ?_
  refine Ao (Bq 3 (k:=0) U U U h7 U U Tz92 U) ?_;rintro _ _⟨rfl,rfl⟩;refine Et7 U ?_
  refine Aa (Ad U) U<|Aa (Ab U fa99_6) U ?_
  refine Ao (Aq 5 (k:=0) U U U (one_er _) U Tz58) ?_;rintro _ _⟨rfl,rfl⟩;refine Et7 U ?_
  refine Ek6 0 1 4 5 6 19 U<|Cr<|Em U U<|Aa (Ad U) U<|Aa (Ab U fa99_6) U<|Ag (Aj 5 (k:=0) U U U Ta58) U<|Ea U U<|Ek6 0 1 4 5 6 19 U<|Bb ?_
  refine⟨_,rfl,rfl,.inl ⟨hne,f1,f2,f3,_,hF,rfl⟩⟩
 refine Et8 U<|Em U U<|Aa (Bg U U) U<|Aa (Bg U U) U<|Aa (Ad U) U<|Aa (Ab U fa99_0) U ?_
 refine Ao (Bq 3 (k:=0) U U U U U U Tz92 U) ?_;rintro _ _⟨rfl,rfl⟩;refine Et8 U ?_
 refine Aa (Ad U) U<|Aa (Ab U fa99_6) U ?_
 refine Ao (Aq 5 (k:=0) U U U (one_er _) U Tz58) ?_;rintro _ _⟨rfl,rfl⟩;refine Et8 U ?_
 refine Ek6 0 1 4 5 6 19 U<|Cr<|Em U U<|Aa (Ad U) U<|Aa (Ab U fa99_6) U<|Ag (Aj 5 (k:=0) U U U Ta58) U<|Ea U U<|Ek6 0 1 4 5 6 19 U<|Bb ?_
 refine⟨_,rfl,rfl,.inr ⟨hno,f1,f2,f3,bs2,xa,xn,xf,fb,DN,hF,hb2,hX,hDN,?_⟩⟩
 rw[←hno]
 rfl
theorem reset_spec{K:Known}{ea:Fin 5→Addr}(hs:Sents K ea)(src:Src K ea)(l:List UInt8)(x1 x2 x3:Frag)(zb:Nat)(hA:src.At l x1 x2 x3){LZ:Frags}(hZ:ZOld zb LZ):
    Fn Tryz.prog K 34 #[.pointer (some ⟨zb,0,none⟩),.iface src.t src.v] ([x1,x2,x3]++LZ) fun r L=>r=Er.val ea (Ac l).1∧ResetEnd src zb l L:=by
  obtain⟨c0,c1,c2,c3,c4,c5,rv,dcv,dg,sz,bs,ev,ms,DL,h1,h2,rfl⟩:=hZ
  exact reset_walk hs src l x1 x2 x3 zb hA c0 c1 c2 c3 c4 c5 rv dcv dg sz ev ms bs DL h1 h2
theorem newReader_walk{K:Known}{ea:Fin 5→Addr}(hs:Sents K ea)(src:Src K ea)(l:List UInt8)(x1 x2 x3:Frag)(hA:src.At l x1 x2 x3):Fn Tryz.prog K 20 #[.iface src.t src.v] ([x1,x2,x3]) (fun r L=>((Ac l).1≠.none∧r=.tuple #[.pointer none,Er.val ea (Ac l).1]∧∃f1 f2 f3 T,src.At (Ac l).2.1 f1 f2 f3∧L=[f1,f2,f3]++T)∨((Ac l).1=.none∧∃zb,r=.tuple #[.pointer (some ⟨zb,0,none⟩),Er.val ea .none]∧ZAt src zb (Ac l).2.2 true (Ac l).2.1 L)):=by
 refine Fn.intro (args:=[.iface src.t src.v]) (RR:=Ret2 2 3 _) Tryz.func20 rfl rfl Tryz.ntmps20 (res2 Tryz.results20) ?_
 refine Bi (env2:=[(0,.iface src.t src.v)]) U<|Cr<|Ea U U<|Aa (Az (v:=Er.val ea .none) U) U<|Ek3 0 2 3 U<|Cr ?_
 refine Ai (Dq Tryz.zeroValue99) U ?_;rintro _ _⟨b6,rfl,rfl⟩;refine Er4 U ?_
 refine Ax (L2:=[⟨b6,0,zip10 .nilIface .nilIface++(buf0++zipEnd .nilIface false)⟩,x1,x2,x3]) (by rw[zipZero])<|Ev (zipSame b6 [x1,x2,x3] _ _ _ U Hl)<|Dd [3,3,3,0,0,0] (A:=[_,_,_,_,_,_]) (F:=[]) U<|Ax (L2:=[x1,x2,x3,⟨b6,0,[.string ⟨#[]⟩,.slice none 0 0,.int .u64 0,.int .i64 0,.string ⟨#[]⟩,.int .u8 0,.nilIface,.nilIface,.int .u32 0,.int .u32 0]⟩,⟨b6,10,buf0⟩,⟨b6,522,[.nilIface,.bool false]⟩]) U<|Ea U U<|Ek4 0 2 3 4 U<|Am<|Cr<|Em U U<|Em U U<|Ai (Ar U Tryz.call34 (reset_walk hs src l x1 x2 x3 b6 hA _ _ _ _ _ _ _ _ _ _ _ _ _ [] Hl (.inl ⟨rfl,rfl⟩))) U ?_
 rintro _ L2⟨rfl,hE⟩
 refine Ea U U<|Ek4 2 3 4 5 U<|Cr<|Em U U<|Ag (Df U) U<|Ek5 2 3 4 5 11 U<|Dn U (fun h11=>?_) (fun h11=>?_)
 ·have hE2:=hE.resolve_right (fun h=>h11 h.1)
  refine Cr<|Em U U<|Ea U U<|Ea U U<|Ek5 2 3 4 5 11 U<|Bb ?_
  exact⟨_,_,rfl,rfl,.inl ⟨h11,rfl,hE2.2⟩⟩
 have hE2:=hE.resolve_left (fun h=>h.1 h11)
 refine Ap<|Cr<|Em U U<|Ea U U<|Aa (Az (v:=Er.val ea .none) U) U<|Ek5 2 3 4 5 11 U<|Bb ?_
 exact⟨_,_,rfl,rfl,.inr ⟨h11,b6,rfl,hE2.2⟩⟩
theorem zNewReader_spec{K:Known}{ea:Fin 5→Addr}(hs:Sents K ea)(src:Src K ea)(l:List UInt8)(x1 x2 x3:Frag)(hA:src.At l x1 x2 x3):
    Fn Tryz.prog K 20 #[.iface src.t src.v] [x1,x2,x3] (fun r L=>((Ac l).1≠.none∧r=.tuple #[.pointer none,Er.val ea (Ac l).1]∧∃f1 f2 f3,src.At (Ac l).2.1 f1 f2 f3∧L=[f1,f2,f3])∨
      ((Ac l).1=.none∧∃zb,r=.tuple #[.pointer (some ⟨zb,0,none⟩),Er.val ea (Ac l).1]∧ZAt src zb (Ac l).2.2 true (Ac l).2.1 L)):=by
  refine Fn.lose (newReader_walk hs src l x1 x2 x3 hA) ?_
  rintro v L'(⟨hne,rfl,f1,f2,f3,T,hF,rfl⟩|⟨hno,zb,rfl,hz⟩)
  · exact⟨_,_,Same.refl _,.inl ⟨hne,rfl,f1,f2,f3,hF,rfl⟩⟩
  · exact⟨L',[],Same.of_eq (List.append_nil _).symm,.inr ⟨hno,zb,by rw[hno],hz⟩⟩
theorem multi_walk{K:Known}(zb:Nat)(ev ms:Value)(on:Bool):Fn Tryz.prog K 33 #[.pointer (some ⟨zb,0,none⟩),.bool on] ([⟨zb,522,[ev,ms]⟩]) (fun r L=>r=.tuple #[]∧L=[⟨zb,522,[ev,.bool on]⟩]):=by
 refine Fn.intro (args:=[.pointer (some ⟨zb,0,none⟩),.bool on]) (RR:=Ret0 _) Tryz.func33 rfl rfl Tryz.ntmps33 (res0 Tryz.results33) ?_
 refine Bi (env2:=[(0,.pointer (some ⟨zb,0,none⟩)),(1,.bool on)]) U<|Al<|Em U U<|Em U U<|Aa (Ad U) U<|Aa (Ab U fa99_7) U ?_
 refine Ao (Aq 0 (k:=1) U U U U U Tz4) ?_;rintro _ _⟨rfl,rfl⟩;refine Er1 U ?_
 refine Fz [] (env1:=[]) U ?_
 exact⟨rfl,rfl⟩
set_option maxHeartbeats 2000000
theorem C.shed{P:Program}{H0:Known}{n:Nat}{c:Code}{env:Env}{L A F:Frags}{N Y R}(is:List Nat)(hp:picks is L=some (A,F))(h:wpC P H0 n c env F N Y R):wpC P H0 n c env L N Y R:=by
  refine C.perm ((Br hp).trans List.perm_append_comm) ?_
  intro a w hf hw Q s
  have base:∀{w' L'},To H0 w F w' L'→To H0 w (F++A) w' L':=fun t=>(To.frame hw t).drop
  exact h a w hf hw.drop Q ⟨fun e l a w h f k=>s.normal e l a w h f (base k),fun id M hk e l a w h f k=>s.exit id M hk e l a w h f (base k),fun id M hk e l a w h f k=>s.goto id M hk e l a w h f (base k),fun e l a w h f k=>s.ret e l a w h f (base k)⟩
theorem C.dropR{P:Program}{H0:Known}{n:Nat}{c:Code}{env:Env}{A F:Frags}{N Y R}(h:wpC P H0 n c env F N Y R):wpC P H0 n c env (F++A) N Y R:=by
  intro a w hf hw Q s
  have base:∀{w' L'},To H0 w F w' L'→To H0 w (F++A) w' L':=fun t=>(To.frame hw t).drop
  exact h a w hf hw.drop Q ⟨fun e l a w h f k=>s.normal e l a w h f (base k),fun id M hk e l a w h f k=>s.exit id M hk e l a w h f (base k),fun id M hk e l a w h f k=>s.goto id M hk e l a w h f (base k),fun e l a w h f k=>s.ret e l a w h f (base k)⟩
theorem crcOn_nil:crcOn IEEE 0 []=0:=by decide
def ZRd{K:Known}{ea:Fin 5→Addr}(src:Src K ea)(zb:Nat)(ms:Bool)(Y:List UInt8×ZEnd)(L:Frags):Prop:=
  ∃Dt gv c0 c1 c2 c3 c4 c5 bs fb DK,bs.length=512∧DecOk src Dt fb (run Dt .next [] 0) gv DK∧gv≤(run Dt .next [] 0).1.length∧Y=((run Dt .next [] 0).1.drop gv++(gzT ms Dt).1,(gzT ms Dt).2)∧
    L=[⟨zb,0,[c0,c1,c2,c3,c4,c5,.iface src.t src.v,.iface 190 (.pointer (some ⟨fb,0,none⟩)),.int .u32 ((crcOn IEEE 0 ((run Dt .next [] 0).1.take (gv)):Nat):Int),.int .u32 (((gv)%4294967296:Nat):Int)]⟩,⟨zb,10,bs⟩,⟨zb,522,[Er.val ea .none,.bool ms]⟩]++DK
def ReadZ{K:Known}{ea:Fin 5→Addr}(src:Src K ea)(zb:Nat)(ms:Bool)(Y:List UInt8×ZEnd)(pb po n:Nat)(cs:List Value)(r:Value)(L:Frags):Prop:=
  ∃k er,r=.tuple #[.int .i64 ((k:Nat):Int),Er.val ea er]∧k≤n∧k≤Y.1.length∧
    ((er=.none∧0<k∧∃LZ,ZRd src zb ms (Y.1.drop k,Y.2) LZ∧L=⟨pb,po,bytesV (Y.1.take k)++cs.drop k⟩::LZ)∨
     (er≠.none∧k=Y.1.length∧kindOf er=Y.2.1∧∃f1 f2 f3 LZ,(∃l,src.At l f1 f2 f3)∧(ms=false→Y.2.1=1→src.At Y.2.2 f1 f2 f3)∧ZOld zb LZ∧L=⟨pb,po,bytesV (Y.1.take k)++cs.drop k⟩::f1::f2::f3::LZ))
theorem decRead_in{K:Known}{ea:Fin 5→Addr}(hs:Sents K ea)(hc:Codes K){src:Src K ea}{dt:List UInt8}{fb:Nat}{R:ResR}{gv:Nat}{DK:Frags}(hD:DecOk src dt fb R gv DK)(pb po n c:Nat)(cs:List Value)(hn:n=cs.length)(hn0:0<n)(a1 a2 a3:Frag):
    Fn Tryz.prog K 135 #[.pointer (some ⟨fb,0,none⟩),.slice (some ⟨pb,po,none⟩) (n) (c)] ([a1,a2,a3,⟨pb,po,cs⟩]++DK) fun r L=>∃k er L1,r=.tuple #[.int .i64 ((k:Nat):Int),Er.val ea er]∧k≤n∧k≤(R.1.drop gv).length∧
      L=[a1,a2,a3,⟨pb,po,bytesV ((R.1.drop gv).take k)++cs.drop k⟩]++L1∧((er=.none∧0<k∧DecOk src dt fb R (gv+k) L1)∨(er≠.none∧gv+k=R.1.length∧DecFin src dt fb R er L1)):=by
  have pm:∀(B:Frag) (DK:Frags),([a1,a2,a3,B]++DK).Perm ((DK++[B])++[a1,a2,a3]):=fun B DK=>
    (List.Perm.append_left [a1,a2,a3] (List.perm_append_comm (l₁:=[B]))).trans List.perm_append_comm
  refine Fn.sameR (Fn.perm (pm _ DK) (Fn.frame (F:=[a1,a2,a3]) (decRead_spec hs hc hD pb po n c cs hn hn0))) ?_
  rintro v L⟨L0,⟨k,er,L1,rfl,h1,h2,rfl,h3⟩,rfl⟩
  exact⟨_,Same.perm (pm _ L1).symm,k,er,L1,rfl,h1,h2,rfl,h3⟩
theorem eightB{l:List UInt8}(h:Dg l 8=.none):∃v0 v1 v2 v3 v4 v5 v6 v7 r,l=v0::v1::v2::v3::v4::v5::v6::v7::r:=by
  have hl:=full_len h
  match l,hl with
  |v0::v1::v2::v3::v4::v5::v6::v7::r,_=>exact⟨_,_,_,_,_,_,_,_,_,rfl⟩
theorem kind_full{l:List UInt8}{m:Nat}(h:Dg l m≠.none):kindOf (noEof (Dg l m))=5:=by
  unfold Dg at h⊢
  split at h
  · exact absurd U h
  · rename_i h1
    rw[if_neg h1]
    split
    · rw[noEof_eof rfl];rfl
    · rw[noEof_other (by simp)];rfl
theorem zRead_walk{K:Known}{ea:Fin 5→Addr}(hs:Sents K ea)(hc:Codes K)(src:Src K ea)(zb:Nat)(ms:Bool)(Y:List UInt8×ZEnd)(pb po n c:Nat)(cs:List Value)(hn:n=cs.length)(hn0:0<n)(hnc:n≤c)(hnl:n≤4611686018427387904)(D0:List UInt8)(gv0:Nat)(c0 c1 c2 c3 c4 c5:Value)(bs0:List Value)(fb0:Nat)(DK0:Frags)(hb0:bs0.length=512)(hD0:DecOk src D0 fb0 (run D0 .next [] 0) gv0 DK0)(hg0:gv0≤(run D0 .next [] 0).1.length)(e0:Er)(he0:e0=.none)(hX0:Y=((run D0 .next [] 0).1.drop gv0++(gzT ms D0).1,(gzT ms D0).2)):Fn Tryz.prog K 40 #[.pointer (some ⟨zb,0,none⟩),.slice (some ⟨pb,po,none⟩) (n) (c)] ([⟨zb,0,[c0,c1,c2,c3,c4,c5,.iface src.t src.v,.iface 190 (.pointer (some ⟨fb0,0,none⟩)),.int .u32 ((crcOn IEEE 0 ((run D0 .next [] 0).1.take gv0):Nat):Int),.int .u32 (((gv0)%4294967296:Nat):Int)]⟩,⟨zb,10,bs0⟩,⟨zb,522,[Er.val ea e0,.bool ms]⟩,⟨pb,po,cs⟩]++DK0) (fun r L=>∃L2 J,Same L (L2++J)∧ReadZ src zb ms Y pb po n cs r L2):=by
 refine Fn.intro (args:=[.pointer (some ⟨zb,0,none⟩),.slice (some ⟨pb,po,none⟩) (n) (c)]) (RR:=Ret2 4 5 _) Tryz.func40 rfl rfl Tryz.ntmps40 (res2 Tryz.results40) ?_
 refine Bi (env2:=[(0,.pointer (some ⟨zb,0,none⟩)),(1,.slice (some ⟨pb,po,none⟩) (n) (c))]) U<|Cr<|Ea U U<|Aa (Az (v:=Er.val ea .none) U) U<|Ek4 0 1 4 5 U<|Am<|Cr<|Em U U<|Aa (Ad U) U<|Aa (Ab U fa99_6) U<|Ag (Aj 2 (k:=0) U U U Ta58) U<|Ag (Df U) U ?_
 refine Ek5 0 1 4 5 14 U<|Dn U (fun h14=>?_) (fun h14=>?_)
 ·exact absurd he0 h14
 subst he0
 refine Ap<|Am<|As<|Bw (fun mm ee ll=>∃(Dt:List UInt8),∃(gv:Nat),∃(k:Nat),∃(bs:List Value),∃(fb:Nat),∃(DK:Frags),keeps ee [0,1,4]=some [(0,.pointer (some ⟨zb,0,none⟩)),(1,.slice (some ⟨pb,po,none⟩) (n) (c)),(4,.int .i64 ((k:Nat):Int))]∧ll=[⟨zb,0,[c0,c1,c2,c3,c4,c5,.iface src.t src.v,.iface 190 (.pointer (some ⟨fb,0,none⟩)),.int .u32 ((crcOn IEEE 0 ((run Dt .next [] 0).1.take (gv)):Nat):Int),.int .u32 (((gv)%4294967296:Nat):Int)]⟩,⟨zb,10,bs⟩,⟨zb,522,[.nilIface,.bool ms]⟩,⟨pb,po,bytesV (Y.1.take k)++cs.drop k⟩]++DK∧(DecOk src Dt fb (run Dt .next [] 0) gv DK)∧(bs.length=512)∧(gv≤(run Dt .next [] 0).1.length)∧((Y.1.drop k,Y.2)=((run Dt .next [] 0).1.drop gv++(gzT ms Dt).1,(gzT ms Dt).2))∧(k≤n)∧(k≤Y.1.length)∧mm=Dt.length) (_) ⟨D0,gv0,0,bs0,fb0,DK0,rfl,rfl,hD0,hb0,hg0,hX0,Nat.zero_le _,Nat.zero_le _,rfl⟩ ?_
 rintro m0 _ _⟨Dt,gv,k,bs,fb,DK,hk0,rfl,hD,hbs,hgv,hX,hkn,hkX,hm0⟩
 refine Av _ hk0<|Am<|Cr<|Em U U<|Aa (Ef (b:=((0:Nat):Int)) U U) U<|Ek4 0 1 4 20 U<|Bf U (fun h20=>?_) (fun h20=>?_)
 ·have hkz:k=0:=by omega
  subst hkz
  refine Ap<|As<|Am<|Bx (L2:=[⟨zb,0,[c0,c1,c2,c3,c4,c5,.iface src.t src.v,.iface 190 (.pointer (some ⟨fb,0,none⟩)),.int .u32 ((crcOn IEEE 0 ((run Dt .next [] 0).1.take (gv)):Nat):Int),.int .u32 (((gv)%4294967296:Nat):Int)]⟩,⟨zb,10,bs⟩,⟨zb,522,[.nilIface,.bool ms]⟩,⟨pb,po,cs⟩]++DK) U<|Al<|Em U U<|Em U U<|Aa (Ad U) U<|Aa (Ab U fa99_2) U<|Ag (Aj 0 (k:=7) U U U Tryz.isAgg96) U<|Em U U ?_
  refine Ai (X.invoke U U (dmRead fb) Tryz.call135 (decRead_in hs hc hD pb po n c cs hn hn0 _ _ _)) U ?_;rintro _ _⟨j,er,L1,rfl,hj1,hj2,rfl,hE⟩;refine Et5 U ?_
  refine Em U U<|Aa (Bg U U) U<|Aa (Bg U U) U<|Ea U U<|Aa (Ad U) U<|Aa (Ab U fa99_6) U ?_
  refine Ao (Aq 2 (k:=0) U U U (one_er _) U Tz58) ?_;rintro _ _⟨rfl,rfl⟩;refine Et5 U ?_
  refine Ek4 0 1 4 20 U ?_
  have hX1:Y.1=(run Dt .next [] 0).1.drop gv++(gzT ms Dt).1:=(Prod.mk.inj hX).1
  have hX2:Y.2=(gzT ms Dt).2:=(Prod.mk.inj hX).2
  have hXt:((run Dt .next [] 0).1.drop gv).take j=Y.1.take j:=by rw[hX1,List.take_append_of_le_length hj2]
  have hXd:Y.1.drop j=(run Dt .next [] 0).1.drop (gv+j)++(gzT ms Dt).1:=by rw[hX1,List.drop_append_of_le_length hj2,List.drop_drop]
  have hrl:((run Dt .next [] 0).1.drop gv).length=(run Dt .next [] 0).1.length-gv:=List.length_drop
  have hjX:j≤Y.1.length:=by rw[hX1,List.length_append];omega
  have htk:(Y.1.take j).length=j:=by rw[List.length_take];omega
  have hcr:crcOn IEEE (crcOn IEEE 0 ((run Dt .next [] 0).1.take (gv))) (Y.1.take j)=crcOn IEEE 0 ((run Dt .next [] 0).1.take (gv+j)):=by rw[crcOn_append,←hXt,←List.take_add]
  have hcl:crcOn IEEE 0 ((run Dt .next [] 0).1.take (gv))<4294967296:=Hi (by decide) (by decide) _
  refine Bx (L2:=[⟨zb,0,[c0,c1,c2,c3,c4,c5,.iface src.t src.v,.iface 190 (.pointer (some ⟨fb,0,none⟩)),.int .u32 ((crcOn IEEE 0 ((run Dt .next [] 0).1.take (gv)):Nat):Int),.int .u32 (((gv)%4294967296:Nat):Int)]⟩,⟨zb,10,bs⟩,⟨zb,522,[Er.val ea er,.bool ms]⟩,⟨pb,po,bytesV (Y.1.take j)++cs.drop j⟩]++L1) (by rw[hXt];rfl) ?_
  refine Am<|Bt [0,0,2,4,8,0,0,96,144,511,1023,1535] (.pure 0 510 (.pure 1 225 (.pure 2 227 (.pure 3 231 (.pure 5 95 (.pure 6 63 (.pure 7 127 (.seg [(4,239)] (.alt 8 (.pure 9 511 (.pure 10 1023 (.alt 11 .done .stop))) .stop))))))))) mixed (by decide+kernel)<|Dm U U U<|Dm U U U<|Ah U (Ad U) U<|Ah U (Ab U fa99_3) U<|Dm U U U<|Dm U U U<|Ah U (S.slH U U (by omega) Tu25 Tz5) U<|Fi (v:=.slice (some ⟨pb,po,none⟩) ((Y.1.take j).length) (c)) (Dj (by simp[part]) (by rw[htk]) U)<|Dc (by decide)<|Au U (Aj 0 (k:=8) U U U Ta69) U ?_
  refine Da<|By ?_
  refine Bo U (Ar U Tryz.call55 (Gy (crcOn IEEE 0 ((run Dt .next [] 0).1.take (gv))) pb po c (Y.1.take j) hcl (Reads.frag (i:=3) (k:=0) U (by rw[List.drop_zero,List.take_left'];rfl)) (by omega) (by omega))) U ?_;rintro _ _⟨rfl,rfl⟩;refine Dt5 U ?_
  refine Fi (v:=.int .u32 ((crcOn IEEE 0 ((run Dt .next [] 0).1.take (gv+j)):Nat):Int)) (congrArg (fun y:Nat=>Value.int .u32 (y:Int)) (by exact hcr))<|Ah U (Ad U) U<|Ah U (Ab U fa99_3) U<|By ?_
  refine Di U (Aq 0 (k:=8) U U U U U Tz69) ?_;rintro _ _⟨rfl,rfl⟩;refine Dt5 U ?_
  refine Dk4 0 1 4 20 U<|Cr<|Em U U<|Aa (Ad U) U<|Aa (Ab U fa99_4) U<|Ag (Aj 0 (k:=9) U U U Ta69) U<|Em U U<|Aa (Bv U Tu3 Tu69 (N.mod_u32 _)) U<|Aa (Bl U U (N.addU32w _ _)) U<|An (v:=.int .u32 (((gv+j)%4294967296:Nat):Int)) (congrArg (fun y:Nat=>Value.int .u32 (y:Int)) (by omega))<|Aa (Ad U) U<|Aa (Ab U fa99_4) U ?_
  refine Ao (Aq 0 (k:=9) U U U U U Tz69) ?_;rintro _ _⟨rfl,rfl⟩;refine Et5 U ?_
  refine Ek4 0 1 4 20 U<|Am<|Am<|Bt [0,1,2,4,0,24] (.pure 0 16 (.pure 1 17 (.pure 2 19 (.seg [(3,23),(4,15),(5,31)] .done)))) mixed (by decide+kernel)<|Dm U U U<|Ah U (Ad U) U<|Ah U (Ab U fa99_6) U<|Dc (by decide)<|Au U (Aj 2 (k:=0) U U U Ta58) U<|Au U (Be U hs.g0 Ta58) U<|Au U (S.neEr hs U U) U<|Da ?_
  refine Dk5 0 1 4 20 58 U<|C.ifNotSe U (fun h58=>?_) (fun h58=>?_)
  ·refine Am<|Bt [0,0,2,4,8,1,63] (.pure 0 30 (.pure 1 33 (.pure 2 35 (.pure 3 39 (.pure 5 31 (.seg [(4,47),(6,63)] .done)))))) mixed (by decide+kernel)<|Dm U U U<|Dm U U U<|Ah U (Ad U) U<|Ah U (Ab U fa99_6) U<|Ah U (Az U) U<|Dc (by decide)<|Au U (Aj 2 (k:=0) U U U Ta58) U<|Ba U (Az U) U<|Da<|Dk6 0 1 4 5 20 58 U ?_
   refine Bb ?_
   rcases hE with⟨rfl,hj0,hOk⟩|⟨hne,hgj,hb3,y1,y2,y3,Af,Tf,Wf,Hf,TL,hDS,hEO,rfl⟩
   · exact⟨_,_,rfl,rfl,_,[],(Same.perm (Br (is:=[3,0,0,0]) (A:=[_,_,_,_]) (F:=L1) U)).trans (Same.of_eq (List.append_nil _).symm),j,.none,rfl,hj1,hjX,.inl ⟨rfl,hj0,_,⟨Dt,gv+j,c0,c1,c2,c3,c4,c5,bs,fb,L1,hbs,hOk,by omega,by rw[hXd,hX2],rfl⟩,rfl⟩⟩
   · obtain⟨hbad,h5,lx,hAx⟩:=hEO.resolve_left fun⟨q,_,h,_⟩=>h58 h
     have hT:=gzT_bad (ms:=ms) hbad
     rw[hT]at hX1 hX2
     obtain⟨DL,J,hraw,hS⟩:=hDS.rawd
     have hs1:=hS [⟨zb,0,[c0,c1,c2,c3,c4,c5,.iface src.t src.v,.iface 190 (.pointer (some ⟨fb,0,none⟩)),.int .u32 ((crcOn IEEE 0 ((run Dt .next [] 0).1.take (gv+j)):Nat):Int),.int .u32 (((gv+j)%4294967296:Nat):Int)]⟩,⟨zb,10,bs⟩,⟨zb,522,[Er.val ea er,.bool ms]⟩,⟨pb,po,bytesV (Y.1.take j)++cs.drop j⟩,y1,y2,y3]
     refine⟨_,_,rfl,rfl,⟨pb,po,bytesV (Y.1.take j)++cs.drop j⟩::y1::y2::y3::([⟨zb,0,[c0,c1,c2,c3,c4,c5,.iface src.t src.v,.iface 190 (.pointer (some ⟨fb,0,none⟩)),.int .u32 ((crcOn IEEE 0 ((run Dt .next [] 0).1.take (gv+j)):Nat):Int),.int .u32 (((gv+j)%4294967296:Nat):Int)]⟩,⟨zb,10,bs⟩,⟨zb,522,[Er.val ea er,.bool ms]⟩]++DL),J,hs1.trans (Same.perm ?_),j,er,rfl,hj1,hjX,.inr ⟨hne,?_,?_,y1,y2,y3,_,⟨lx,hAx⟩,?_,⟨c0,c1,c2,c3,c4,c5,_,_,_,_,bs,_,_,DL,hbs,.inr ⟨fb,rfl,hraw⟩,rfl⟩,rfl⟩⟩
     · exact(Br (is:=[3,3,3,3,0,0,0]) (A:=[_,_,_,_,_,_,_]) (F:=DL) U).append_right J
     · rw[hX1,List.append_nil];omega
     · rw[hX2];exact h5.1
     · intro _ h;rw[hX2]at h;cases h
  subst h58
  obtain⟨_,hgj,hb3,y1,y2,y3,Af,Tf,Wf,Hf,TL,hDS,hEO,rfl⟩:=hE.resolve_left (fun h=>by cases h.1)
  obtain⟨q,hRq,_,hql,hAt⟩:=hEO.resolve_right (fun h=>by have:=h.2.1.1;cases this)
  obtain⟨DL,J,hraw,hS⟩:=hDS.rawd
  refine Ga (hS [⟨zb,0,[c0,c1,c2,c3,c4,c5,.iface src.t src.v,.iface 190 (.pointer (some ⟨fb,0,none⟩)),.int .u32 ((crcOn IEEE 0 ((run Dt .next [] 0).1.take (gv+j)):Nat):Int),.int .u32 (((gv+j)%4294967296:Nat):Int)]⟩,⟨zb,10,bs⟩,⟨zb,522,[Er.val ea .eof,.bool ms]⟩,⟨pb,po,bytesV (Y.1.take j)++cs.drop j⟩,y1,y2,y3])<|C.dropR ?_
  have hall:(run Dt .next [] 0).1.take (gv+j)=(run Dt .next [] 0).1:=List.take_of_length_le (by omega)
  have hnil:(run Dt .next [] 0).1.drop (gv+j)=[]:=List.drop_eq_nil_of_le (by omega)
  rw[hnil,List.nil_append]at hXd
  refine Ap<|Am<|Am ?_
  refine Ga (Same.splitAt (k:=8) 1 U U (List.take_append_drop 8 _).symm (by rw[List.length_take];omega) U) ?_
  refine Bx (L2:=[_,_,_,_,_,_,_,_]++DL) U<|Bt [0,1,2,4,0,16,32,64,136,256,512,512,2047,8191] (.pure 0 240 (.pure 1 241 (.pure 2 243 (.pure 4 15 (.pure 5 31 (.pure 6 63 (.pure 7 127 (.seg [(3,247)] (.alt 8 (.pure 9 511 (.pure 10 3071 (.pure 11 6143 (.pure 12 4095 (.pure 13 8191 .done))))) .stop))))))))) mixed (by decide+kernel)<|Dm U U U<|Ah U (Ad U) U<|Ah U (Ab U fa99_1) U<|Dm U U U<|Ah U (Ad U) U<|Ah U (Ab U fa99_5) U<|Ah U (Fo (l:=0) (k:=.i64) (h:=8) U U U (by omega) (by omega) Tu97 Tz5) U<|Fi (v:=.slice (some ⟨zb,10,none⟩) (8) (512)) (Dj (by simp[part]) U U)<|Dc (by decide)<|Au U (Aj 2 (k:=6) U U U Ta94) U ?_
  refine Da<|By ?_
  refine Bo U (OpX.pick [5,5,5,0] (F:=(_::_::_::_::_)) U (Ar U Tryz.call56 (Gh hs src (Dt.drop q) y1 y2 y3 zb 10 8 512 (List.take 8 bs) hAt (by rw[List.length_take];omega) (by omega) (by omega)))) U ?_;rintro _ _⟨_,⟨f1,f2,f3,hF,rfl,rfl⟩,rfl⟩;refine Dt9 U ?_
  refine Dm U U U<|Ah U (Bg U U) U<|Ah U (Bg U U) U<|Ah U (Az U) U<|Ah U (Az U) U<|Dk6 0 1 4 7 20 58 U ?_
  refine Ga (Same.joinAt 3 3 U U (by rw[show 10+8=10+(8:Nat)from U];congr 1;simp only[List.length_append,Bh,List.length_take,List.length_drop,show ∀a b:Nat,Nat.min a b=min a b from fun _ _=>rfl];omega)) ?_
  refine Bx (L2:=[_,_,_,_,_,_,_]++DL) U<|Cr<|Em U U<|Ag (Df U) U<|Ek7 0 1 4 7 20 58 77 U<|Dn U (fun h77=>?_) (fun h77=>?_)
  ·have hbj:=buf_join (bs:=bs) (l:=Dt.drop q) (m:=8) (by omega)
   have hjl:j=Y.1.length:=by have hT:=gzT_short (ms:=ms) hRq (Gi.1 h77);rw[hT]at hX1;rw[hX1,List.append_nil];omega
   refine Cr<|Em U U<|Em U U ?_
   refine Ai (OpX.pick [] (F:=(_::_::_::_::_::_::_::_)) U (Ar U Tryz.call57 (Ey (L:=[]) hs _))) U ?_;rintro _ _⟨_,⟨rfl,rfl⟩,rfl⟩;refine Et8 U ?_
   refine Aa (Ad U) U<|Aa (Ab U fa99_6) U ?_
   refine Ao (Aq 5 (k:=0) U U U (one_er _) U Tz58) ?_;rintro _ _⟨rfl,rfl⟩;refine Et8 U ?_
   refine Ek7 0 1 4 7 20 58 77 U<|Am<|Bt [0,0,2,4,8,1,63] (.pure 0 30 (.pure 1 33 (.pure 2 35 (.pure 3 39 (.pure 5 31 (.seg [(4,47),(6,63)] .done)))))) mixed (by decide+kernel)<|Dm U U U<|Dm U U U<|Ah U (Ad U) U<|Ah U (Ab U fa99_6) U<|Ah U (Az U) U<|Dc (by decide)<|Au U (Aj 5 (k:=0) U U U Ta58) U<|Ba U (Az U) U<|Da ?_
   refine Dk8 0 1 4 5 7 20 58 77 U<|Bb ?_
   refine⟨_,_,rfl,rfl,_,[],(Same.perm (Br (is:=[6,1,1,1,1,0,0]) (A:=[_,_,_,_,_,_,_]) (F:=DL) rfl)).trans (Same.of_eq (List.append_nil _).symm),j,noEof (Dg (Dt.drop q) 8),rfl,hj1,hjX,.inr ⟨Dw h77,hjl,by rw[hX2,gzT_short hRq (Gi.1 h77)];exact kind_full h77,_,_,_,_,⟨_,hF⟩,(fun _ h=>by rw[hX2,gzT_short hRq (Gi.1 h77)]at h;cases h),⟨c0,c1,c2,c3,c4,c5,_,_,_,_,_,_,_,DL,(hbj.trans hbs),.inr ⟨fb,rfl,hraw⟩,rfl⟩,rfl⟩⟩
  rw[h77]
  obtain⟨v0,v1,v2,v3,v4,v5,v6,v7,l8,hl8⟩:=eightB h77
  have hv0:=v0.toNat_lt
  have hv1:=v1.toNat_lt
  have hv2:=v2.toNat_lt
  have hv3:=v3.toNat_lt
  have hv4:=v4.toNat_lt
  have hv5:=v5.toNat_lt
  have hv6:=v6.toNat_lt
  have hv7:=v7.toNat_lt
  have hn8:=full_len h77
  have h8:¬(Dt.drop q).length<8:=by omega
  refine Bx (L2:=[⟨zb,10,u8 v0::u8 v1::u8 v2::u8 v3::u8 v4::u8 v5::u8 v6::u8 v7::bs.drop 8⟩,f1,f2,f3,⟨zb,0,[c0,c1,c2,c3,c4,c5,.iface src.t src.v,.iface 190 (.pointer (some ⟨fb,0,none⟩)),.int .u32 ((crcOn IEEE 0 ((run Dt .next [] 0).1.take (gv+j)):Nat):Int),.int .u32 (((gv+j)%4294967296:Nat):Int)]⟩,⟨zb,522,[Er.val ea .eof,.bool ms]⟩,⟨pb,po,bytesV (Y.1.take j)++cs.drop j⟩]++DL) (by rw[buf_full (full_len h77),hl8];rfl) ?_
  have hbs8:(u8 v0::u8 v1::u8 v2::u8 v3::u8 v4::u8 v5::u8 v6::u8 v7::bs.drop 8).length=512:=by simp only[List.length_cons,List.length_drop];omega
  have ht0:le32at (Dt.drop q) 0=le32 v0.toNat v1.toNat v2.toNat v3.toNat:=by rw[hl8];rfl
  have ht4:le32at (Dt.drop q) 4=le32 v4.toNat v5.toNat v6.toNat v7.toNat:=by rw[hl8];rfl
  have hle0:=le32_lt hv0 hv1 hv2 hv3
  have hle4:=le32_lt hv4 hv5 hv6 hv7
  have hlen:gv+j=(run Dt .next [] 0).1.length:=hgj
  have hj0:(crcOn IEEE 0 ((run Dt .next [] 0).1.take (gv+j)))=crcOn IEEE 0 (run Dt .next [] 0).1:=by rw[hall]
  have hjl:j=Y.1.length∨True:=.inr trivial
  refine Ap<|Cr<|Em U U<|Aa (Ad U) U<|Aa (Ab U fa99_5) U<|Aa (Fo (l:=0) (k:=.i64) (h:=4) U U U (by omega) (by omega) Tu97 Tz5) U<|An (v:=.slice (some ⟨zb,10,none⟩) (4) (512)) (Dj (by simp[part]) U U) ?_
  refine Ai (Ar U Tryz.call58 (le32_spec zb 10 4 512 v0 v1 v2 v3 [] (by omega) (Reads.frag (i:=0) (k:=0) U U))) U ?_;rintro _ _⟨rfl,rfl⟩;refine Et8 U ?_
  refine Ea U U<|Ek8 0 1 4 7 8 20 58 77 U<|Cr<|Em U U<|Aa (Ad U) U<|Aa (Ab U fa99_5) U<|Aa (Fo (l:=4) (h:=8) U U U (by omega) (by omega) Tu97 Tz5) U<|An (v:=.slice (some ⟨zb,14,none⟩) (4) (508)) (Dj (by simp[part]) U U) ?_
  refine Ai (Ar U Tryz.call58 (le32_spec zb 14 4 508 v4 v5 v6 v7 [] (by omega) (Reads.frag (i:=0) (k:=4) U U))) U ?_;rintro _ _⟨rfl,rfl⟩;refine Et8 U ?_
  refine Ea U U<|Ek9 0 1 4 7 8 9 20 58 77 U<|Am<|Cr<|Em U U<|Em U U<|Aa (Ad U) U<|Aa (Ab U fa99_3) U<|Ag (Aj 4 (k:=8) U U U Ta69) U<|Aa (S.ne U U) U<|Em U U<|Ek (fun g104=>?_) (fun g104=>?_)
  ·have hnf:¬fits (run Dt .next [] 0).1 (Dt.drop q):=fun h=>by rw[fits,ht0,ht4]at h;omega
   have hjl:j=Y.1.length:=by have hT:=gzT_sum (ms:=ms) hRq h8 hnf;rw[hT]at hX1;rw[hX1,List.append_nil];omega
   refine Ae 104 true U U U U<|Ae 104 true U U U U<|Ae 104 true U U U U<|Ae 104 true U U U U<|Ae 104 true U U U U<|Ae 104 true U U U U<|Aa (Bz U U) U<|Ek10 0 1 4 7 8 9 20 58 77 111 U<|He U (rfl)<|Cr<|Em U U<|Ag (Be U hs.g2 Ta58) U ?_
   refine Aa (Ad U) U<|Aa (Ab U fa99_6) U ?_
   refine Ao (Aq 5 (k:=0) U U U U U Tz58) ?_;rintro _ _⟨rfl,rfl⟩;refine Et8 U ?_
   refine Ek10 0 1 4 7 8 9 20 58 77 111 U<|Am<|Bt [0,0,2,4,8,1,63] (.pure 0 30 (.pure 1 33 (.pure 2 35 (.pure 3 39 (.pure 5 31 (.seg [(4,47),(6,63)] .done)))))) mixed (by decide+kernel)<|Dm U U U<|Dm U U U<|Ah U (Ad U) U<|Ah U (Ab U fa99_6) U<|Ah U (Az U) U<|Dc (by decide)<|Au U (Aj 5 (k:=0) U U U Ta58) U<|Ba U (Az U) U<|Da ?_
   refine Dk11 0 1 4 5 7 8 9 20 58 77 111 U<|Bb ?_
   refine⟨_,_,rfl,rfl,_,[],(Same.perm (Br (is:=[6,1,1,1,1,0,0]) (A:=[_,_,_,_,_,_,_]) (F:=DL) rfl)).trans (Same.of_eq (List.append_nil _).symm),j,.se 2,rfl,hj1,hjX,.inr ⟨by simp,hjl,by rw[hX2,gzT_sum hRq h8 hnf];rfl,_,_,_,_,⟨_,hF⟩,(fun _ h=>by rw[hX2,gzT_sum hRq h8 hnf]at h;cases h),⟨c0,c1,c2,c3,c4,c5,_,_,_,_,_,_,_,DL,hbs8,.inr ⟨fb,rfl,hraw⟩,rfl⟩,rfl⟩⟩
  refine Ak 104 U U<|Em U U<|Ak 104 U U<|Em U U<|Ak 104 U U<|Aa (Ad U) U<|Ak 104 U U<|Aa (Ab U fa99_4) U<|Ak 104 U U<|Ag (Aj 4 (k:=9) U U U Ta69) U<|Ak 104 U U<|Aa (S.ne U U) U ?_
  refine Aa (Bk U U) U<|Ek10 0 1 4 7 8 9 20 58 77 111 U<|Bf U (fun h111=>?_) (fun h111=>?_)
  ·have hnf:¬fits (run Dt .next [] 0).1 (Dt.drop q):=fun h=>by rw[fits,ht0,ht4]at h;omega
   have hjl:j=Y.1.length:=by have hT:=gzT_sum (ms:=ms) hRq h8 hnf;rw[hT]at hX1;rw[hX1,List.append_nil];omega
   refine Cr<|Em U U<|Ag (Be U hs.g2 Ta58) U<|Aa (Ad U) U<|Aa (Ab U fa99_6) U ?_
   refine Ao (Aq 5 (k:=0) U U U U U Tz58) ?_;rintro _ _⟨rfl,rfl⟩;refine Et8 U ?_
   refine Ek10 0 1 4 7 8 9 20 58 77 111 U<|Am<|Bt [0,0,2,4,8,1,63] (.pure 0 30 (.pure 1 33 (.pure 2 35 (.pure 3 39 (.pure 5 31 (.seg [(4,47),(6,63)] .done)))))) mixed (by decide+kernel)<|Dm U U U<|Dm U U U<|Ah U (Ad U) U<|Ah U (Ab U fa99_6) U<|Ah U (Az U) U<|Dc (by decide)<|Au U (Aj 5 (k:=0) U U U Ta58) U<|Ba U (Az U) U<|Da ?_
   refine Dk11 0 1 4 5 7 8 9 20 58 77 111 U<|Bb ?_
   refine⟨_,_,rfl,rfl,_,[],(Same.perm (Br (is:=[6,1,1,1,1,0,0]) (A:=[_,_,_,_,_,_,_]) (F:=DL) rfl)).trans (Same.of_eq (List.append_nil _).symm),j,.se 2,rfl,hj1,hjX,.inr ⟨by simp,hjl,by rw[hX2,gzT_sum hRq h8 hnf];rfl,_,_,_,_,⟨_,hF⟩,(fun _ h=>by rw[hX2,gzT_sum hRq h8 hnf]at h;cases h),⟨c0,c1,c2,c3,c4,c5,_,_,_,_,_,_,_,DL,hbs8,.inr ⟨fb,rfl,hraw⟩,rfl⟩,rfl⟩⟩
  have hfit:fits (run Dt .next [] 0).1 (Dt.drop q):=by rw[fits,ht0,ht4];omega
  refine Ap<|Cr<|Em U U<|Em U U<|Aa (Ad U) U<|Aa (Ab U fa99_3) U ?_
  refine Ao (Aq 4 (k:=8) U U U U U Tz69) ?_;rintro _ _⟨rfl,rfl⟩;refine Et8 U ?_
  refine Aa (Ad U) U<|Aa (Ab U fa99_4) U ?_
  refine Ao (Aq 4 (k:=9) U U U U U Tz69) ?_;rintro _ _⟨rfl,rfl⟩;refine Et8 U ?_
  refine Ek10 0 1 4 7 8 9 20 58 77 111 U<|Am<|Cr<|Em U U<|Aa (Ad U) U<|Aa (Ab U fa99_7) U<|Ag (Aj 5 (k:=1) U U U Ta4) U<|Aa (Gc U) U<|Ek11 0 1 4 7 8 9 20 58 77 111 131 U<|Eg U (fun h131=>?_) (fun h131=>?_)
  ·have hms:ms=false:=by simpa using h131
   have hjl:j=Y.1.length:=by have hT:=gzT_one (ms:=ms) hRq h8 hfit hms;rw[hT]at hX1;rw[hX1,List.append_nil];omega
   refine Am<|Bt [0,0,1,7] (.pure 0 2 (.pure 2 3 (.seg [(1,5),(3,7)] .done))) mixed (by decide+kernel)<|Dm U U U<|Ah U (Az U) U<|Dc (by decide)<|Au U (Be U hs.g0 Ta58) U<|Ba U (Az U) U<|Da<|Dk12 0 1 4 5 7 8 9 20 58 77 111 131 U<|Bb ?_
   refine⟨_,_,rfl,rfl,_,[],(Same.perm (Br (is:=[6,1,1,1,1,0,0]) (A:=[_,_,_,_,_,_,_]) (F:=DL) U)).trans (Same.of_eq (List.append_nil _).symm),j,.eof,rfl,hj1,hjX,.inr ⟨by simp,hjl,by rw[hX2,gzT_one hRq h8 hfit hms];rfl,_,_,_,_,⟨_,hF⟩,fun _ _=>by rw[hX2,gzT_one hRq h8 hfit hms];exact hF,⟨c0,c1,c2,c3,c4,c5,_,_,_,_,_,_,_,DL,hbs8,.inr ⟨fb,rfl,hraw⟩,rfl⟩,rfl⟩⟩
  have hms2:ms≠false:=by simpa using h131
  refine Ap<|Cr<|Em U U<|Aa (Ad U) U<|Aa (Ab U fa99_6) U ?_
  refine Ao (Aq 5 (k:=0) U U U U U Tz58) ?_;rintro _ _⟨rfl,rfl⟩;refine Et8 U ?_
  refine Ek11 0 1 4 7 8 9 20 58 77 111 131 U<|Am<|Hv [1,1,1,1,0,0,0] (A:=[_,_,_,_,_,_,_]) (F:=DL) U<|Bx (L2:=[_,_,_,_,_,_,_]++DL) U<|Al<|Em U U<|Em U U<|Ai (Ar U Tryz.call51 (readHeader_in hs src ((Dt.drop q).drop 8) f1 f2 f3 zb 0 _ _ _ _ _ _ _ _ _ DL (.inr ⟨fb,rfl,hraw⟩) hF hbs8 (by decide) [_,_])) U ?_
  rintro _ _⟨hs6,g1,g2,g3,d2,bs2,h6,h7,rfl,hG,hb2,hd2,⟨hne,rfl⟩|⟨hno,xa,xn,xf,fb2,DN,hX3,rfl,rfl,hDN,rfl⟩⟩
  ·refine Et8 U<|Em U U<|Aa (Bg U U) U<|Aa (Bg U U) U<|Aa (Ad U) U<|Aa (Ab U fa99_6) U ?_
   refine Ao (Aq 5 (k:=0) U U U (one_er _) U Tz58) ?_;rintro _ _⟨rfl,rfl⟩;refine Et8 U ?_
   refine Ek11 0 1 4 7 8 9 20 58 77 111 131 U<|Cr<|Em U U<|Aa (Ad U) U<|Aa (Ab U fa99_6) U<|Ag (Aj 5 (k:=0) U U U Ta58) U<|Ag (Df U) U<|Ek12 0 1 4 7 8 9 20 58 77 111 131 149 U<|Dn U (fun h149=>?_) (fun h149=>?_)
   ·have hjl:j=Y.1.length:=by have hT:=gzT_head (ms:=ms) hRq h8 hfit hms2 h149;rw[hT]at hX1;rw[hX1,List.append_nil];omega
    refine Am<|Bt [0,0,2,4,8,1,63] (.pure 0 30 (.pure 1 33 (.pure 2 35 (.pure 3 39 (.pure 5 31 (.seg [(4,47),(6,63)] .done)))))) mixed (by decide+kernel)<|Dm U U U<|Dm U U U<|Ah U (Ad U) U<|Ah U (Ab U fa99_6) U<|Ah U (Az U) U<|Dc (by decide)<|Au U (Aj 5 (k:=0) U U U Ta58) U<|Ba U (Az U) U<|Da<|Dk13 0 1 4 5 7 8 9 20 58 77 111 131 149 U ?_
    refine Bb ?_
    refine⟨_,_,rfl,rfl,_,[],(Same.perm (Br (is:=[6,0,0,0,0,0,0]) (A:=[_,_,_,_,_,_,_]) (F:=DL) U)).trans (Same.of_eq (List.append_nil _).symm),j,(Ac ((Dt.drop q).drop 8)).1,rfl,hj1,hjX,.inr ⟨h149,hjl,by rw[hX2,gzT_head hRq h8 hfit hms2 h149],_,_,_,_,⟨_,hG⟩,fun h=>absurd h hms2,⟨c0,c1,c2,c3,c4,c5,_,_,_,_,_,_,_,DL,hb2,.inr ⟨fb,rfl,hraw⟩,rfl⟩,rfl⟩⟩
   exact absurd h149 hne
  refine Et9 U<|Em U U<|Aa (Bg U U) U<|Aa (Bg U U) U<|Aa (Ad U) U<|Aa (Ab U fa99_6) U ?_
  refine Ao (Aq 5 (k:=0) U U U (one_er _) U Tz58) ?_;rintro _ _⟨rfl,rfl⟩;refine Et9 U ?_
  refine Ek11 0 1 4 7 8 9 20 58 77 111 131 U<|Cr<|Em U U<|Aa (Ad U) U<|Aa (Ab U fa99_6) U<|Ag (Aj 5 (k:=0) U U U Ta58) U<|Ag (Df U) U<|Ek12 0 1 4 7 8 9 20 58 77 111 131 149 U<|Dn U (fun h149=>?_) (fun h149=>?_)
  ·exact absurd hno h149
  refine Bx (L2:=[_,_,_,_,_,⟨zb,522,[.nilIface,.bool ms]⟩,_,_]++DN) (by rw[h149];rfl) ?_
  refine C.shed [7] (A:=[_]) (F:=_::_::_::_::_::_::_::DN) U<|Hv [3,3,3,3,0,0,0] (A:=[_,_,_,_,_,_,_]) (F:=DN) U<|Bx (L2:=[_,_,_,_]++(g1::g2::g3::DN)) U<|Ap ?_
  have hT:=gzT_next (ms:=ms) hRq h8 hfit hms2 h149
  have hle:=readHead_le ((Dt.drop q).drop 8)
  rw[gzR_eq]at hT
  refine⟨_,?_,(Ac ((Dt.drop q).drop 8)).2.1,0,j,bs2,fb2,g1::g2::g3::DN,rfl,(by rw[List.take_zero,crcOn_nil];rfl),hDN.ok hG,hb2,Nat.zero_le _,by rw[hXd,hX2,hT];rfl,hj1,hjX,rfl⟩;rw[hm0];simp only[List.length_drop]at hle h8 hn8;omega
 have hkz:0<k:=by omega
 refine Bu U<|Cr<|Em U U<|Ea U U<|Aa (Az (v:=Er.val ea .none) U) U<|Ek5 0 1 4 5 20 U<|Bb ?_
 exact⟨_,_,rfl,rfl,_,[],(Same.perm (Br (is:=[3,0,0,0]) (A:=[_,_,_,_]) (F:=DK) U)).trans (Same.of_eq (List.append_nil _).symm),k,.none,rfl,hkn,hkX,.inl ⟨rfl,by omega,_,⟨Dt,gv,c0,c1,c2,c3,c4,c5,bs,fb,DK,hbs,hD,hgv,hX,rfl⟩,rfl⟩⟩
end Go.Eng
