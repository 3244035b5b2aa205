/-
  Texts of this proof, merged: WFl4, WFl5, WFl6, WFl7, WFl8, Dst, WFl9, Enc2, Zip, WSp1, WSp2, Sp, WSp3, Frame.
-/
import Derived.Test.YtbjbmpcgiokdaaaGreatDoorGo3
import Derived.Test.YtbjbmpcgiokdaaaGreatDoorGo2
import Derived.Test.YtbjbmpcgiokdaaaGreatDoorRows
import Derived.WalkKit
import Derived.ProofKit
import Derived.LaidLaws
import Derived.ChangeSlices
import Derived.Deep.DeepHandedRow
import Derived.OpenShut
set_option linter.unusedVariables false
set_option linter.unusedSimpArgs false
namespace Go.Eng
open Go Go.Proofs
set_option maxRecDepth 100000
set_option maxHeartbeats 2000000
theorem Jf{K:Known}{ea:Fin 5→Addr}(hs:Sents K ea)(src:Src K ea)(x1 x2 x3:Frag)(fb:Nat)(ro:Int)(dt:List UInt8)(p q b nb:Nat)(hA:src.At (dt.drop q) x1 x2 x3)(hB:BitsIn dt p q b nb)(hn:nb≤24):
    Fn Tryz.prog K 89 #[.pointer (some ⟨fb,0,none⟩)] [x1,x2,x3,⟨fb,0,[.iface src.t src.v,.pointer none,.int .i64 (ro),.int .u32 (((b):Nat):Int),.int .u64 (((nb):Nat):Int)]⟩] fun r L=>∃f1 f2 f3 e b2 nb2 ro2,r=Er.val ea e∧L=[f1,f2,f3,⟨fb,0,[.iface src.t src.v,.pointer none,.int .i64 (ro2),.int .u32 (((b2):Nat):Int),.int .u64 (((nb2):Nat):Int)]⟩]∧
      ((e=.none∧src.At (dt.drop (q+1)) f1 f2 f3∧BitsIn dt p (q+1) b2 nb2∧nb2=nb+8)∨(Bad5 e∧q=dt.length∧∃l,src.At l f1 f2 f3)):=by
  refine(moreBits_spec hs src x1 x2 x3 fb (.pointer none) ro dt p q b nb hA hB hn).mono ?_
  rintro v L⟨f1,f2,f3,⟨hq,ro2,rfl,h1,h2,rfl⟩|⟨hq,⟨e,he,rfl⟩,h1,rfl⟩⟩
  · exact⟨_,_,_,_,_,_,_,rfl,rfl,.inl ⟨rfl,h1,h2,rfl⟩⟩
  · exact⟨_,_,_,_,_,_,_,rfl,rfl,.inr ⟨he,hq,_,h1⟩⟩
def SymE{K:Known}{ea:Fin 5→Addr}(src:Src K ea)(dt:List UInt8)(p q nb:Nat)(lens:List Nat)(mn:Nat)(ev:Value)(e:Er)(vi:Int)(y1 y2 y3:Frag)(a b c ev2:Value):Prop:=
  (e=.none∧∃v,vi=((v:Nat):Int)∧symR lens mn dt p=some v∧v<lens.length∧∃q2 b2 nb2 ro2,src.At (dt.drop q2) y1 y2 y3∧BitsIn dt (p+lenOf lens v) q2 b2 nb2∧nb2≤31∧((q2=q∧nb2+lenOf lens v=nb)∨nb2+lenOf lens v<max mn (lenOf lens v)+8)∧a=.int .i64 ro2∧b=.int .u32 ((b2:Nat):Int)∧c=.int .u64 ((nb2:Nat):Int)∧ev2=ev)∨
  (Bad5 e∧symR lens mn dt p=none∧∃l,src.At l y1 y2 y3)
theorem huffSym_in{K:Known}{ea:Fin 5→Addr}(hs:Sents K ea)(src:Src K ea)(x1 x2 x3:Frag)(fb:Nat)(ro:Int)(s0 s1 s2 ev s4 s5 s6 s7 s8:Value)(hb o:Nat)(dt:List UInt8)(p q b nb:Nat)(hA:src.At (dt.drop q) x1 x2 x3)(hB:BitsIn dt p q b nb)(hn:nb≤31)(lens:List Nat)(mn:Nat)(hok:okLens lens)(h15:∀s,lenOf lens s≤15)(hmn:minL lens≤mn)(hm15:mn≤15)
    (LH G J:Frags)(hH:HufT lens mn hb o LH):
    Fn Tryz.prog K 99 #[.pointer (some ⟨fb,0,none⟩),.pointer (some ⟨hb,o,none⟩)] (x1::x2::x3::⟨fb,0,[.iface src.t src.v,.pointer none,.int .i64 (ro),.int .u32 (((b):Nat):Int),.int .u64 (((nb):Nat):Int)]⟩::⟨fb,1045,[s0,s1,s2,ev,s4,s5,s6,s7,s8]⟩::(G++(LH++J)))
      fun r L=>∃e vi y1 y2 y3 a b c ev2,r=.tuple #[.int .i64 vi,Er.val ea e]∧SymE src dt p q nb lens mn ev e vi y1 y2 y3 a b c ev2∧L=y1::y2::y3::⟨fb,0,[.iface src.t src.v,.pointer none,a,b,c]⟩::⟨fb,1045,[s0,s1,s2,ev2,s4,s5,s6,s7,s8]⟩::(G++(LH++J)):=by
  have h:=Fn.frame (F:=G++J) (huffSym_spec hs src x1 x2 x3 fb (.pointer none) ro s0 s1 s2 ev s4 s5 s6 s7 s8 hb o dt p q b nb hA hB hn lens mn hok h15 hmn hm15 LH hH)
  have pm:∀a b c d e:Frag,(a::b::c::d::e::(G++(LH++J))).Perm ((a::b::c::d::e::LH)++(G++J)):=fun a b c d e=>by
    simp only[List.cons_append]
    refine .cons _ (.cons _ (.cons _ (.cons _ (.cons _ ?_))))
    rw[←List.append_assoc,←List.append_assoc]
    exact List.perm_append_comm.append_right J
  refine Fn.sameR (Fn.perm (pm _ _ _ _ _) h) ?_
  rintro v L⟨L1,⟨y1,y2,y3,A,B,hS,rfl⟩,rfl⟩
  rcases hS with⟨v,h1,h2,_,rfl,q2,b2,nb2,ro2,h3,h4,h5,h6,rfl,rfl⟩|⟨h1,⟨e,v,he,rfl⟩,l,a,b,c,ev2,h3,rfl,rfl⟩
  · exact⟨_,Same.perm (pm _ _ _ _ _).symm,_,_,_,_,_,_,_,_,_,rfl,.inl ⟨rfl,v,rfl,h1,h2,q2,b2,nb2,ro2,h3,h4,h5,h6,rfl,rfl,rfl,rfl⟩,rfl⟩
  · exact⟨_,Same.perm (pm _ _ _ _ _).symm,_,_,_,_,_,_,_,_,_,rfl,.inr ⟨he,h1,l,h3⟩,rfl⟩
theorem huffSym_end{K:Known}{ea:Fin 5→Addr}(hs:Sents K ea)(src:Src K ea)(x1 x2 x3:Frag)(fb:Nat)(ro:Int)(s0 s1 s2 ev s4 s5 s6 s7 s8:Value)(hb o:Nat)(dt:List UInt8)(p q b nb:Nat)(hA:src.At (dt.drop q) x1 x2 x3)(hB:BitsIn dt p q b nb)(hn:nb≤31)(lens:List Nat)(mn:Nat)(hok:okLens lens)(h15:∀s,lenOf lens s≤15)(hmn:minL lens≤mn)(hm15:mn≤15)
    (LH G:Frags)(hH:HufT lens mn hb o LH):
    Fn Tryz.prog K 99 #[.pointer (some ⟨fb,0,none⟩),.pointer (some ⟨hb,o,none⟩)] (x1::x2::x3::⟨fb,0,[.iface src.t src.v,.pointer none,.int .i64 (ro),.int .u32 (((b):Nat):Int),.int .u64 (((nb):Nat):Int)]⟩::⟨fb,1045,[s0,s1,s2,ev,s4,s5,s6,s7,s8]⟩::(G++LH))
      fun r L=>∃e vi y1 y2 y3 a b c ev2,r=.tuple #[.int .i64 vi,Er.val ea e]∧SymE src dt p q nb lens mn ev e vi y1 y2 y3 a b c ev2∧L=y1::y2::y3::⟨fb,0,[.iface src.t src.v,.pointer none,a,b,c]⟩::⟨fb,1045,[s0,s1,s2,ev2,s4,s5,s6,s7,s8]⟩::(G++LH):=by
  have h:=huffSym_in hs src x1 x2 x3 fb ro s0 s1 s2 ev s4 s5 s6 s7 s8 hb o dt p q b nb hA hB hn lens mn hok h15 hmn hm15 LH G [] hH
  rw[List.append_nil]at h
  exact h
theorem symR_min{lens:List Nat}{dt:List UInt8}{p:Nat}:symR lens (minL lens) dt p=symR lens 0 dt p:=by
  unfold symR
  rw[if_neg (Nat.not_lt_zero _)]
  split
  · rename_i h
    refine(findS_none fun i hi=>?_).symm
    have h1:=Bp (Dx hi.1)
    have h2:=(Fs lens).2.1 _ (List.getElem_mem (Dx hi.1)) (by have:=hi.1;omega)
    omega
  · rfl
theorem min_15{l:List Nat}(h:∀s,lenOf l s≤15):minL l≤15:=by
  by_cases h0:minL l=0
  · omega
  · obtain⟨i,hi,e⟩:=List.getElem_of_mem ((Fs l).2.2 h0)
    have:=h i
    rw[Bp hi,e]at this;exact this
theorem rev85{x:Nat}(h:x<32):revB 8 (x*8)=revB 5 x:=by
  have e:=revB_split 3 5 (x*8)
  rw[show x*8/2^3=x by omega,←Gn 3 (x*8),show x*8%2^3=0 by omega]at e
  have z:revB 3 0=0:=by decide
  rw[z]at e
  simpa using e
theorem Hp{dt:List UInt8}{p q b nb n:Nat}(hB:BitsIn dt p q b nb)(hn:n≤nb):b&&&(2^n-1)=takeB dt p n:=by rw[Nat.and_two_pow_sub_one_eq_mod,(hB.take hn).1]
theorem or_two{x y n:Nat}(h:y<2^n):x*2^n|||y=x*2^n+y:=by rw[←Nat.shiftLeft_eq,Nat.shiftLeft_add_eq_or_of_lt h]
structure LitT(t:Tabs)(lb lo:Nat)(HL:Frags):Prop where
  huf:HufT t.lit t.mn lb lo HL
  ok:okLens t.lit
  le15:∀s,lenOf t.lit s≤15
  min:minL t.lit≤t.mn
  mn15:t.mn≤15
  eob:lenOf t.lit 256=0∨lenOf t.lit 256=t.mn
  len:t.lit.length≤320
def DistT(t:Tabs)(hp:Option Addr)(HD:Frags):Prop:=(hp=none∧t.dist=Ex∧HD=[])∨∃db dO,hp=some ⟨db,dO,none⟩∧HufT t.dist (minL t.dist) db dO HD∧okLens t.dist∧(∀s,lenOf t.dist s≤15)∧t.dist.length≤320
def HbEnd{K:Known}{ea:Fin 5→Addr}(src:Src K ea)(dt:List UInt8)(fb hb:Nat)(R:ResR)(gv p0:Nat)(t:Tabs)(last:Bool)(hl hd:Value)(J L:Frags):Prop:=
  ∃y1 y2 y3 A T W H,L=y1::y2::y3::A::T::W::H::J∧((∃pend,pend≠[]∧SymSt src dt fb hb R gv pend t last hl hd 92 y1 y2 y3 A T W H)∨(∃p2,p0<p2∧NextSt src dt fb hb R gv [] p2 y1 y2 y3 A T W H)∨∃pend,EndSt src dt fb hb R gv pend y1 y2 y3 A T W H)
theorem hb_bad{K:Known}{ea:Fin 5→Addr}{src:Src K ea}{dt:List UInt8}{fb hb:Nat}{R:ResR}{gv p0:Nat}{t:Tabs}{last:Bool}{hl hd:Value}{J:Frags}{er:Er}{l out h:List UInt8}{y1 y2 y3:Frag}{wr rd c0:Nat}{full:Bool}{a0:Option Addr}{a b c d e f g i j k trv:Value}
    (hR:R=(out,.bad))(h5:Bad5 er)(hA:src.At l y1 y2 y3)(H:Hist h wr full out)(hrd:rd≤wr)(hwr:wr<32768)(hsum:gv+(wr-rd)=out.length)(htr:trv=.slice a0 0 c0):
    HbEnd src dt fb hb R gv p0 t last hl hd J (y1::y2::y3::⟨fb,0,[.iface src.t src.v,.pointer none,a,b,c]⟩::⟨fb,1045,[d,e,f,Er.val ea er,trv,g,i,j,k]⟩::⟨fb,1037,[.slice (some ⟨hb,0,none⟩) 32768 32768,.int .i64 (((wr):Nat):Int),.int .i64 (((rd):Nat):Int),.bool full]⟩::⟨hb,0,bytesV (h)⟩::J):=
  ⟨_,_,_,_,_,_,_,rfl,.inr (.inr ⟨[],out,.bad,er,trv,h,wr,rd,full,.inr ⟨rfl,h5,l,hA⟩,⟨a,b,c,rfl⟩,⟨H,hrd,hwr,by simpa using hsum,by simp,by rw[htr];exact TR.nil _ _ _ _,rfl,rfl⟩,⟨d,e,f,g,i,j,k,rfl⟩,hR,.inl rfl⟩)⟩
theorem ss_more{ss cl cd a b:Nat}(h:SsOk ss cl cd a)(hab:a≤b):SsOk ss cl cd b:=h.imp id fun h=>⟨h.1,h.2.1,h.2.2.1,by omega⟩
theorem huffmanBlock_walk{K:Known}{ea:Fin 5→Addr}(hs:Sents K ea)(src:Src K ea)(dt:List UInt8)(fb hb:Nat)(R:ResR)(gv:Nat)(t:Tabs)(last:Bool)(lb lo:Nat)(hp:Option Addr)(stp:Nat)(HL HD:Frags)(hL:LitT t lb lo HL)(hD:DistT t hp HD)(a0:Option Addr)(c0:Nat)(trv:Value)(htr:trv=.slice a0 0 c0)(x1 x2 x3:Frag)(p0 q b nb:Nat)(ro:Int)(out h:List UInt8)(wr rd:Nat)(full:Bool)(ss cl cd:Nat)(hA:src.At (dt.drop q) x1 x2 x3)(hB:BitsIn dt p0 q b nb)(hnb:nb<t.mn+8)(H:Hist h wr full out)(hrd:rd≤wr)(hwr:wr<32768)(hsum:gv+(wr-rd)=out.length)(hst:(SsOk ss cl cd (hsize wr full)∧R=run dt (.sym last t) out p0)∨(ss=1∧cl≤258∧1≤cd∧cd≤hsize wr full∧R=run dt (.sym last t) (copyN out cd cl) p0)):Fn Tryz.prog K 92 #[.pointer (some ⟨fb,0,none⟩)] ([x1,x2,x3,⟨fb,0,[.iface src.t src.v,.pointer none,.int .i64 (ro),.int .u32 (((b):Nat):Int),.int .u64 (((nb):Nat):Int)]⟩,⟨fb,1045,[.func (.func stp) #[] #[],.int .i64 (((ss):Nat):Int),.bool last,.nilIface,trv,.pointer (some ⟨lb,lo,none⟩),.pointer hp,.int .i64 (((cl):Nat):Int),.int .i64 (((cd):Nat):Int)]⟩,⟨fb,1037,[.slice (some ⟨hb,0,none⟩) 32768 32768,.int .i64 (((wr):Nat):Int),.int .i64 (((rd):Nat):Int),.bool full]⟩,⟨hb,0,bytesV (h)⟩]++(HL++HD)) (fun r L=>r=.tuple #[]∧HbEnd src dt fb hb R gv p0 t last (.pointer (some ⟨lb,lo,none⟩)) (.pointer hp) (HL++HD) L):=by
 refine Fn.intro (args:=[.pointer (some ⟨fb,0,none⟩)]) (RR:=Ret0 _) Tryz.func92 rfl rfl Tryz.ntmps92 (res0 Tryz.results92) ?_
 refine Bi (env2:=[(0,.pointer (some ⟨fb,0,none⟩))]) U<|C.scope 0 1 (fun lbl mm ee ll=>(lbl=0∧∃(p:Nat),∃(q:Nat),∃(b:Nat),∃(nb:Nat),∃(ro:Int),∃(f1:Frag),∃(f2:Frag),∃(f3:Frag),∃(out:List UInt8),∃(h:List UInt8),∃(wr:Nat),∃(rd:Nat),∃(full:Bool),∃(ss:Nat),∃(cl:Nat),∃(cd:Nat),keeps ee [0]=some [(0,.pointer (some ⟨fb,0,none⟩))]∧ll=[f1,f2,f3,⟨fb,0,[.iface src.t src.v,.pointer none,.int .i64 (ro),.int .u32 (((b):Nat):Int),.int .u64 (((nb):Nat):Int)]⟩,⟨fb,1045,[.func (.func stp) #[] #[],.int .i64 (((ss):Nat):Int),.bool last,.nilIface,trv,.pointer (some ⟨lb,lo,none⟩),.pointer hp,.int .i64 (((cl):Nat):Int),.int .i64 (((cd):Nat):Int)]⟩,⟨fb,1037,[.slice (some ⟨hb,0,none⟩) 32768 32768,.int .i64 (((wr):Nat):Int),.int .i64 (((rd):Nat):Int),.bool full]⟩,⟨hb,0,bytesV (h)⟩]++(HL++HD)∧(src.At (dt.drop q) f1 f2 f3)∧(BitsIn dt p q b nb)∧(nb<t.mn+8)∧(p0≤p)∧(Hist h wr full out)∧(rd≤wr)∧(wr<32768)∧(gv+(wr-rd)=out.length)∧(SsOk ss cl cd (hsize wr full))∧(R=run dt (.sym last t) out p)∧mm=2*(8*dt.length-p))∨(lbl=1∧∃(p:Nat),∃(q:Nat),∃(b:Nat),∃(nb:Nat),∃(ro:Int),∃(f1:Frag),∃(f2:Frag),∃(f3:Frag),∃(out:List UInt8),∃(h:List UInt8),∃(wr:Nat),∃(rd:Nat),∃(full:Bool),∃(ss:Nat),∃(cl:Nat),∃(cd:Nat),keeps ee [0]=some [(0,.pointer (some ⟨fb,0,none⟩))]∧ll=[f1,f2,f3,⟨fb,0,[.iface src.t src.v,.pointer none,.int .i64 (ro),.int .u32 (((b):Nat):Int),.int .u64 (((nb):Nat):Int)]⟩,⟨fb,1045,[.func (.func stp) #[] #[],.int .i64 (((ss):Nat):Int),.bool last,.nilIface,trv,.pointer (some ⟨lb,lo,none⟩),.pointer hp,.int .i64 (((cl):Nat):Int),.int .i64 (((cd):Nat):Int)]⟩,⟨fb,1037,[.slice (some ⟨hb,0,none⟩) 32768 32768,.int .i64 (((wr):Nat):Int),.int .i64 (((rd):Nat):Int),.bool full]⟩,⟨hb,0,bytesV (h)⟩]++(HL++HD)∧(src.At (dt.drop q) f1 f2 f3)∧(BitsIn dt p q b nb)∧(nb<t.mn+8)∧(p0≤p)∧(Hist h wr full out)∧(rd≤wr)∧(wr<32768)∧(gv+(wr-rd)=out.length)∧(ss=0∨ss=1)∧(cl≤258)∧(1≤cd)∧(cd≤hsize wr full)∧(R=run dt (.sym last t) (copyN out cd cl) p)∧mm=2*(8*dt.length-p)+1)) ?_ ?_ (fun _=>rfl)
 ·refine Am<|Cr<|Em U U<|Aa (Ad U) U<|Aa (Ab U fa186_12) U<|Ag (Aj 4 (k:=1) U U U Ta3) U<|Ek2 0 13 U<|As<|Cr<|Aa (Ef (b:=((0:Nat):Int)) U U) U<|Ea U U<|Ek3 0 13 14 U ?_
  refine Bf U (fun h14=>?_) (fun h14=>?_)
  ·have hss0:ss=0:=by omega
   refine C.goto U ?_
   obtain⟨hss,hR⟩:=hst.resolve_right fun h=>by omega
   exact⟨_,.inl ⟨rfl,p0,q,b,nb,ro,x1,x2,x3,out,h,wr,rd,full,ss,cl,cd,rfl,rfl,hA,hB,hnb,Nat.le_refl _,H,hrd,hwr,hsum,hss,hR,rfl⟩⟩
  refine Cr<|Aa (Ef (b:=((1:Nat):Int)) U U) U<|Ea U U<|Ek4 0 13 14 16 U<|Bf U (fun h16=>?_) (fun h16=>?_)
  ·have hss1:ss=1:=by omega
   refine C.goto U ?_
   have hj:cl≤258∧1≤cd∧cd≤hsize wr full∧R=run dt (.sym last t) (copyN out cd cl) p0:=by
     rcases hst with⟨h1|⟨_,h2,h3,h4⟩,h5⟩|h1
     · omega
     · subst h2;exact⟨by omega,h3,h4,h5⟩
     · exact h1.2
   exact⟨_,.inr ⟨rfl,p0,q,b,nb,ro,x1,x2,x3,out,h,wr,rd,full,ss,cl,cd,rfl,rfl,hA,hB,hnb,Nat.le_refl _,H,hrd,hwr,hsum,.inr (by omega),hj.1,hj.2.1,hj.2.2.1,hj.2.2.2,rfl⟩⟩
  exfalso
  rcases hst with⟨h1|h1,_⟩|h1<;>omega
 rintro lbl mg _ _-hJ
 rcases hJ with⟨rfl,p,q,b,nb,ro,f1,f2,f3,out,h,wr,rd,full,ss,cl,cd,hg0,rfl,hA,hB,hnb,hp0,H,hrd,hwr,hsum,hss,hR,hmg0⟩|⟨rfl,p,q,b,nb,ro,f1,f2,f3,out,h,wr,rd,full,ss,cl,cd,hg1,rfl,hA,hB,hnb,hp0,H,hrd,hwr,hsum,hss,hcl,hcd1,hcd2,hR,hmg1⟩
 ·refine⟨_,rfl,?_⟩
  refine Av _ hg0<|Am<|Ap<|Am<|Cr<|Em U U<|Em U U<|Aa (Ad U) U<|Aa (Ab U fa186_16) U<|Ag (Aj 4 (k:=5) U U U Tryz.isAgg184) U ?_
  refine Ai (Ar U Tryz.call99 (huffSym_in hs src _ _ _ fb _ _ _ _ _ _ _ _ _ _ lb lo dt _ _ _ _ hA hB (by have:=hL.mn15;omega) t.lit t.mn hL.ok hL.le15 hL.min hL.mn15 HL [⟨fb,1037,[.slice (some ⟨hb,0,none⟩) 32768 32768,.int .i64 (((wr):Nat):Int),.int .i64 (((rd):Nat):Int),.bool full]⟩,⟨hb,0,bytesV (h)⟩] HD hL.huf)) U ?_;rintro _ _⟨e,vi,y1,y2,y3,a1,b1,c1,ev2,rfl,hE,rfl⟩;refine Et8 U ?_
  refine Em U U<|Aa (Bg U U) U<|Aa (Bg U U) U<|Ea U U<|Ea U U<|Ek3 0 2 3 U<|Am<|Cr<|Em U U<|Ag (Df U) U<|Ek4 0 2 3 28 U<|Dn U (fun h28=>?_) (fun h28=>?_)
  ·obtain⟨hb5,hsn,lx,hAx⟩:=hE.resolve_left fun h=>h28 h.1
   refine Cr<|Em U U<|Em U U<|Aa (Ad U) U<|Aa (Ab U Ee) U ?_
   refine Ao (Aq 4 (k:=3) U U U (one_er _) U Tz58) ?_;rintro _ _⟨rfl,rfl⟩;refine Et8 U ?_
   refine Ek4 0 2 3 28 U<|Bb ?_
   exact⟨rfl,hb_bad (hR.trans (run_none hsn)) (hb5) hAx H hrd hwr hsum htr⟩
  obtain⟨_,v,rfl,hsy,hvl,q2,b2,nb2,ro2,hA2,hB2,hn31,hbd,rfl,rfl,rfl,rfl⟩:=hE.resolve_right fun h=>h.1.2 h28
  have hm:=symR_some hsy
  have hm0:=hm.1.1
  have hll:=hL.len
  have hmn15:=hL.mn15
  have hnb2:nb2<t.mn+8:=by have:=Nat.le_max_left t.mn (lenOf t.lit v);omega
  clear hE
  refine Ap<|Cr<|Ea U U<|Ek5 0 2 3 4 28 U<|Cr<|Ea U U<|Ek6 0 2 3 4 5 28 U<|Du (M:=fun ee ll=>keeps ee [0,4,5]=some [(0,.pointer (some ⟨fb,0,none⟩)),(4,.int .u64 ((moreL.getD (v-257) 0:Nat):Int)),(5,.int .i64 ((sizesL.getD (v-257) 0:Nat):Int))]∧ll=[y1,y2,y3,⟨fb,0,[.iface src.t src.v,.pointer none,.int .i64 (ro2),.int .u32 (((b2):Nat):Int),.int .u64 (((nb2):Nat):Int)]⟩,⟨fb,1045,[.func (.func stp) #[] #[],.int .i64 (((ss):Nat):Int),.bool last,.nilIface,trv,.pointer (some ⟨lb,lo,none⟩),.pointer hp,.int .i64 (((cl):Nat):Int),.int .i64 (((cd):Nat):Int)]⟩,⟨fb,1037,[.slice (some ⟨hb,0,none⟩) 32768 32768,.int .i64 (((wr):Nat):Int),.int .i64 (((rd):Nat):Int),.bool full]⟩,⟨hb,0,bytesV (h)⟩]++(HL++HD)∧(257≤v)∧(v<286)) ?_ ?_
  ·refine As<|Cr<|Em U U<|Aa (Dl (b:=((256:Nat):Int)) U U) U<|Ea U U<|Ek7 0 2 3 4 5 28 41 U<|Bf U (fun h41=>?_) (fun h41=>?_)
   ·have hv:v<256:=by omega
    have H1:=H.write [UInt8.ofNat v] (by simp only[List.length_cons,List.length_nil];omega)
    simp only[List.length_cons,List.length_nil,Nat.zero_add]at H1
    refine Cr<|Em U U<|Aa (Ad U) U<|Aa (Ab U Fe) U<|Em U U<|Aa (Bv U Tu3 Tu5 (N.in_u8 (by omega))) U ?_
    refine Ai (OpX.pick [5,5] (F:=(_::_::_::_::_::_)) U (Ar U Tryz.call100 (writeByte_spec fb 1037 hb wr rd full h H.len hwr v hv))) U ?_;rintro _ _⟨_,⟨rfl,rfl⟩,rfl⟩;refine Et8 U ?_
    refine Dd [2,2,2,2,2,0,0] U<|Et8 U<|Ek7 0 2 3 4 5 28 41 U<|Am<|Cr<|Em U U<|Aa (Ad U) U<|Aa (Ab U Fe) U ?_
    refine Ai (OpX.pick [5] (F:=(_::_::_::_::_::_::_)) U (Ar U Tryz.call101 (availWrite_spec fb 1037 hb (wr+1) rd full (by omega) (by omega)))) U ?_;rintro _ _⟨_,⟨rfl,rfl⟩,rfl⟩;refine Et8 U ?_
    refine Dd [1,1,1,1,1,0,0] U<|Et8 U<|Aa (Ef (b:=((0:Nat):Int)) U U) U<|Ek8 0 2 3 4 5 28 41 54 U<|Bf U (fun h54=>?_) (fun h54=>?_)
    ·refine Cr<|Em U U<|Em U U<|Aa (Ad U) U<|Aa (Ab U Fe) U ?_
     refine Ai (OpX.pick [5] (F:=(_::_::_::_::_::_::_)) U (Ar U Tryz.call95 (Fg fb 1037 hb (wr+1) rd full (by omega) (by omega)))) U ?_;rintro _ _⟨_,⟨Aw,hfl,rfl⟩,rfl⟩;refine Et8 U ?_
     refine Dd [1,1,1,1,1,0,0] U<|Et8 U<|Aa (Ad U) U<|Aa (Ab U Ge) U ?_
     refine Ao (Aq 4 (k:=4) U U U (Ji hfl) U Tz25) ?_;rintro _ _⟨rfl,rfl⟩;refine Et8 U ?_
     refine Ek8 0 2 3 4 5 28 41 54 U<|Cr<|Em U U<|Aa (Ad U) U<|Aa (Ab U Jb) U ?_
     refine Ao (Aq 4 (k:=0) U U U U U Tz183) ?_;rintro _ _⟨rfl,rfl⟩;refine Et8 U ?_
     refine Ek8 0 2 3 4 5 28 41 54 U<|Cr<|Em U U<|Aa (Ad U) U<|Aa (Ab U fa186_12) U ?_
     refine Ao (Aq 4 (k:=1) U U U U U Tz3) ?_;rintro _ _⟨rfl,rfl⟩;refine Et8 U ?_
     refine Ek8 0 2 3 4 5 28 41 54 U<|Bb ?_
     have hwn:wr+1=32768:=by omega
     obtain⟨wr5,full5,hW,hlen,hsz⟩:=WinSt.flush (gv:=gv) H1 (by omega) (by rw[List.length_append];simp only[List.length_cons,List.length_nil];omega) hfl
     exact⟨rfl,_,_,_,_,_,_,_,rfl,.inl ⟨_,(fun h=>by rw[h]at hlen;simp at hlen;omega),_,_,_,_,_,_,_,_,_,0,cl,cd,⟨hA2,_,_,hB2,rfl⟩,hnb2,hW,rfl,.inl ⟨.inl U,hR.trans (run_lit hsy hv)⟩⟩⟩
    refine Ap<|C.goto U ?_
    have hR2:=hR.trans (run_lit hsy hv)
    refine⟨_,?_,.inl ⟨rfl,_,_,_,_,_,_,_,_,_,_,wr+1,rd,full,ss,cl,cd,rfl,rfl,hA2,hB2,hnb2,by omega,H1,by omega,by omega,(by rw[List.length_append];simp only[List.length_cons,List.length_nil];omega),(ss_more hss (by unfold hsize;split<;>omega)),hR2,rfl⟩⟩
    omega
   refine Cr<|Em U U<|Aa (Ef (b:=((256:Nat):Int)) U U) U<|Ea U U<|Ek8 0 2 3 4 5 28 41 68 U<|Bf U (fun h68=>?_) (fun h68=>?_)
   ·have hv:v=256:=by omega
    subst hv
    have heb:=hL.eob.resolve_left (by omega)
    have hn8:nb2<8:=by omega
    have hq8:=hB2.at8
    have hRe:last=true→R=(out,.done q2):=fun e=>by rw[hR,(run_eob hsy).1 e,show(p+lenOf t.lit 256+7)/8=q2 by omega]
    refine Cr<|Em U U ?_
    refine Ai (OpX.pick [5,4] (F:=(_::_::_::_::_::_)) U (Ar U Tryz.call96 (finishBlock_spec hs fb hb wr rd full last hrd hwr _ _ _ _ _ _ _ _))) U ?_;rintro _ _⟨_,⟨rfl,ev2,tr2,Aw,rfl,hfin⟩,rfl⟩;refine Et8 U ?_
    refine Dd [2,2,2,2,1,0,0] U<|Et8 U<|Ek8 0 2 3 4 5 28 41 68 U<|Bb ?_
    rcases hfin with⟨hl5,rfl,rfl,rfl⟩|⟨hl5,rfl,⟨h1,rfl,rfl⟩|⟨_,hfl⟩⟩
    · exact⟨rfl,_,_,_,_,_,_,_,rfl,.inr (.inl ⟨_,by omega,_,_,out,_,h,wr,rd,full,ss,last,_,_,cl,cd,⟨hA2,_,_,hB2,rfl⟩,hn8,⟨H,hrd,hwr,by simpa using hsum,by simp,by rw[htr];exact TR.nil _ _ _ _,rfl,rfl⟩,rfl,hss,hR.trans ((run_eob hsy).2 hl5)⟩)⟩
    · exact⟨rfl,_,_,_,_,_,_,_,rfl,.inr (.inr ⟨[],out,_,.eof,_,h,wr,rd,full,.inl ⟨q2,rfl,rfl,hB2.le,hA2⟩,⟨_,_,_,rfl⟩,⟨H,hrd,hwr,by simpa using hsum,by simp,by rw[htr];exact TR.nil _ _ _ _,rfl,rfl⟩,⟨_,_,_,_,_,_,_,rfl⟩,hRe hl5,.inl U⟩)⟩
    · obtain⟨wr5,full5,hW,hlen,hsz⟩:=WinSt.flush (gv:=gv) H hrd hsum hfl
      exact⟨rfl,_,_,_,_,_,_,_,rfl,.inr (.inr ⟨_,out,_,.eof,_,h,wr5,wr5,full5,.inl ⟨q2,rfl,rfl,hB2.le,hA2⟩,⟨_,_,_,rfl⟩,hW,⟨_,_,_,_,_,_,_,rfl⟩,hRe hl5,.inr U⟩)⟩
   refine Cr<|Em U U<|Aa (Dl (b:=((265:Nat):Int)) U U) U<|Ea U U<|Ek9 0 2 3 4 5 28 41 68 73 U<|Bf U (fun h73=>?_) (fun h73=>?_)
   ·refine Cr<|Em U U<|Aa (Dr (b:=((254:Nat):Int)) U U (N.sub64 (by omega) (by omega))) U ?_
    refine An (v:=.int .i64 ((sizesL.getD (v-257) 0:Nat):Int)) (congrArg (fun y:Nat=>Value.int .i64 (y:Int)) (by have:=(size_tab0 (v:=v) (by omega) (by omega)).2;omega)) ?_
    refine Ea U U<|Ek9 0 2 3 4 5 28 41 68 73 U<|Al<|Ea U U<|An (v:=.int .u64 ((moreL.getD (v-257) 0:Nat):Int)) (congrArg (fun y:Nat=>Value.int .u64 (y:Int)) (by exact(size_tab0 (v:=v) (by omega) (by omega)).1.symm))<|Ek9 0 2 3 4 5 28 41 68 73 U ?_
    exact⟨rfl,rfl,by omega,by omega⟩
   refine Cr<|Em U U<|Aa (Dl (b:=((269:Nat):Int)) U U) U<|Ea U U<|Ek10 0 2 3 4 5 28 41 68 73 78 U<|Bf U (fun h78=>?_) (fun h78=>?_)
   ·refine Cr<|Em U U<|Aa (S.mul (b:=((2:Nat):Int)) U U (N.mul64 (by omega))) U<|Aa (Dr (b:=((519:Nat):Int)) U U (N.sub64 (by omega) (by omega))) U ?_
    refine An (v:=.int .i64 ((sizesL.getD (v-257) 0:Nat):Int)) (congrArg (fun y:Nat=>Value.int .i64 (y:Int)) (by have:=(size_tab1 (v:=v) (by omega) (by omega)).2;omega)) ?_
    refine Ea U U<|Ek10 0 2 3 4 5 28 41 68 73 78 U<|Al<|Ea U U<|An (v:=.int .u64 ((moreL.getD (v-257) 0:Nat):Int)) (congrArg (fun y:Nat=>Value.int .u64 (y:Int)) (by exact(size_tab1 (v:=v) (by omega) (by omega)).1.symm))<|Ek10 0 2 3 4 5 28 41 68 73 78 U ?_
    exact⟨rfl,rfl,by omega,by omega⟩
   refine Cr<|Em U U<|Aa (Dl (b:=((273:Nat):Int)) U U) U<|Ea U U<|Ek11 0 2 3 4 5 28 41 68 73 78 84 U<|Bf U (fun h84=>?_) (fun h84=>?_)
   ·refine Cr<|Em U U<|Aa (S.mul (b:=((4:Nat):Int)) U U (N.mul64 (by omega))) U<|Aa (Dr (b:=((1057:Nat):Int)) U U (N.sub64 (by omega) (by omega))) U ?_
    refine An (v:=.int .i64 ((sizesL.getD (v-257) 0:Nat):Int)) (congrArg (fun y:Nat=>Value.int .i64 (y:Int)) (by have:=(size_tab2 (v:=v) (by omega) (by omega)).2;omega)) ?_
    refine Ea U U<|Ek11 0 2 3 4 5 28 41 68 73 78 84 U<|Al<|Ea U U<|An (v:=.int .u64 ((moreL.getD (v-257) 0:Nat):Int)) (congrArg (fun y:Nat=>Value.int .u64 (y:Int)) (by exact(size_tab2 (v:=v) (by omega) (by omega)).1.symm))<|Ek11 0 2 3 4 5 28 41 68 73 78 84 U ?_
    exact⟨rfl,rfl,by omega,by omega⟩
   refine Cr<|Em U U<|Aa (Dl (b:=((277:Nat):Int)) U U) U<|Ea U U<|Ek12 0 2 3 4 5 28 41 68 73 78 84 90 U<|Bf U (fun h90=>?_) (fun h90=>?_)
   ·refine Cr<|Em U U<|Aa (S.mul (b:=((8:Nat):Int)) U U (N.mul64 (by omega))) U<|Aa (Dr (b:=((2149:Nat):Int)) U U (N.sub64 (by omega) (by omega))) U ?_
    refine An (v:=.int .i64 ((sizesL.getD (v-257) 0:Nat):Int)) (congrArg (fun y:Nat=>Value.int .i64 (y:Int)) (by have:=(size_tab3 (v:=v) (by omega) (by omega)).2;omega)) ?_
    refine Ea U U<|Ek12 0 2 3 4 5 28 41 68 73 78 84 90 U<|Al<|Ea U U<|An (v:=.int .u64 ((moreL.getD (v-257) 0:Nat):Int)) (congrArg (fun y:Nat=>Value.int .u64 (y:Int)) (by exact(size_tab3 (v:=v) (by omega) (by omega)).1.symm))<|Ek12 0 2 3 4 5 28 41 68 73 78 84 90 U ?_
    exact⟨rfl,rfl,by omega,by omega⟩
   refine Cr<|Em U U<|Aa (Dl (b:=((281:Nat):Int)) U U) U<|Ea U U<|Ek13 0 2 3 4 5 28 41 68 73 78 84 90 96 U<|Bf U (fun h96=>?_) (fun h96=>?_)
   ·refine Cr<|Em U U<|Aa (S.mul (b:=((16:Nat):Int)) U U (N.mul64 (by omega))) U<|Aa (Dr (b:=((4365:Nat):Int)) U U (N.sub64 (by omega) (by omega))) U ?_
    refine An (v:=.int .i64 ((sizesL.getD (v-257) 0:Nat):Int)) (congrArg (fun y:Nat=>Value.int .i64 (y:Int)) (by have:=(size_tab4 (v:=v) (by omega) (by omega)).2;omega)) ?_
    refine Ea U U<|Ek13 0 2 3 4 5 28 41 68 73 78 84 90 96 U<|Al<|Ea U U<|An (v:=.int .u64 ((moreL.getD (v-257) 0:Nat):Int)) (congrArg (fun y:Nat=>Value.int .u64 (y:Int)) (by exact(size_tab4 (v:=v) (by omega) (by omega)).1.symm))<|Ek13 0 2 3 4 5 28 41 68 73 78 84 90 96 U ?_
    exact⟨rfl,rfl,by omega,by omega⟩
   refine Cr<|Em U U<|Aa (Dl (b:=((285:Nat):Int)) U U) U<|Ea U U<|Ek14 0 2 3 4 5 28 41 68 73 78 84 90 96 102 U<|Bf U (fun h102=>?_) (fun h102=>?_)
   ·refine Cr<|Em U U<|Aa (S.mul (b:=((32:Nat):Int)) U U (N.mul64 (by omega))) U<|Aa (Dr (b:=((8861:Nat):Int)) U U (N.sub64 (by omega) (by omega))) U ?_
    refine An (v:=.int .i64 ((sizesL.getD (v-257) 0:Nat):Int)) (congrArg (fun y:Nat=>Value.int .i64 (y:Int)) (by have:=(size_tab5 (v:=v) (by omega) (by omega)).2;omega)) ?_
    refine Ea U U<|Ek14 0 2 3 4 5 28 41 68 73 78 84 90 96 102 U<|Al<|Ea U U<|An (v:=.int .u64 ((moreL.getD (v-257) 0:Nat):Int)) (congrArg (fun y:Nat=>Value.int .u64 (y:Int)) (by exact(size_tab5 (v:=v) (by omega) (by omega)).1.symm))<|Ek14 0 2 3 4 5 28 41 68 73 78 84 90 96 102 U ?_
    exact⟨rfl,rfl,by omega,by omega⟩
   refine Cr<|Em U U<|Aa (Dl (b:=((286:Nat):Int)) U U) U<|Ea U U<|Ek15 0 2 3 4 5 28 41 68 73 78 84 90 96 102 108 U<|Bf U (fun h108=>?_) (fun h108=>?_)
   ·refine Cr<|Ea U U<|An (v:=.int .i64 ((sizesL.getD (v-257) 0:Nat):Int)) (congrArg (fun y:Nat=>Value.int .i64 (y:Int)) (by exact(size_tab6 (v:=v) (by omega) (by omega)).2.symm))<|Ek15 0 2 3 4 5 28 41 68 73 78 84 90 96 102 108 U<|Al<|Ea U U<|An (v:=.int .u64 ((moreL.getD (v-257) 0:Nat):Int)) (congrArg (fun y:Nat=>Value.int .u64 (y:Int)) (by exact(size_tab6 (v:=v) (by omega) (by omega)).1.symm))<|Ek15 0 2 3 4 5 28 41 68 73 78 84 90 96 102 108 U ?_
    exact⟨rfl,rfl,by omega,by omega⟩
   refine Cr<|Em U U<|Em U U<|Aa (Ad U) U<|Aa (Ab U Ff) U<|Ag (Aj 3 (k:=2) U U U Ta2) U<|Aa (Eo U Hr) U<|An (v:=Er.val ea (.corrupt ro2)) (rfl)<|Aa (Ad U) U<|Aa (Ab U Ee) U ?_
   refine Ao (Aq 4 (k:=3) U U U U U Tz58) ?_;rintro _ _⟨rfl,rfl⟩;refine Et8 U ?_
   refine Ek15 0 2 3 4 5 28 41 68 73 78 84 90 96 102 108 U<|Bb ?_
   exact⟨rfl,hb_bad (hR.trans (run_big hsy (by omega))) (Ew _) hA2 H hrd hwr hsum htr⟩
  rintro _ _⟨hq38,rfl,hv1,hv2⟩
  refine Av _ hq38<|Du (M:=fun ee ll=>∃(q:Nat),∃(b:Nat),∃(nb:Nat),∃(ro:Int),∃(g1:Frag),∃(g2:Frag),∃(g3:Frag),∃(ln:Nat),keeps ee [0,5]=some [(0,.pointer (some ⟨fb,0,none⟩)),(5,.int .i64 ((ln:Nat):Int))]∧ll=[g1,g2,g3,⟨fb,0,[.iface src.t src.v,.pointer none,.int .i64 (ro),.int .u32 (((b):Nat):Int),.int .u64 (((nb):Nat):Int)]⟩,⟨fb,1045,[.func (.func stp) #[] #[],.int .i64 (((ss):Nat):Int),.bool last,.nilIface,trv,.pointer (some ⟨lb,lo,none⟩),.pointer hp,.int .i64 (((cl):Nat):Int),.int .i64 (((cd):Nat):Int)]⟩,⟨fb,1037,[.slice (some ⟨hb,0,none⟩) 32768 32768,.int .i64 (((wr):Nat):Int),.int .i64 (((rd):Nat):Int),.bool full]⟩,⟨hb,0,bytesV (h)⟩]++(HL++HD)∧(src.At (dt.drop q) g1 g2 g3)∧(BitsIn dt (p+lenOf t.lit v+moreL.getD (v-257) 0) q b nb)∧(nb<t.mn+8)∧(ln=sizesL.getD (v-257) 0+takeB dt (p+lenOf t.lit v) (moreL.getD (v-257) 0))∧(¬left dt (p+lenOf t.lit v)<moreL.getD (v-257) 0)) ?_ ?_
  ·refine Cr<|Em U U<|Aa (Fh (b:=((0:Nat):Int)) U U) U<|Ek4 0 4 5 112 U<|Bf U (fun h112=>?_) (fun h112=>?_)
   ·have hszb:=size_bound (D:=dt) (p:=p+lenOf t.lit v) hv2 hv1
    have h2M:2^(moreL.getD (v-257) 0)≤2^5:=Nat.pow_le_pow_right (by omega) hszb.2
    have h2M1:0<2^(moreL.getD (v-257) 0):=Nat.pow_pos (by omega)
    refine Am<|As<|Bw (fun mm ee ll=>∃(q:Nat),∃(b:Nat),∃(nb:Nat),∃(ro:Int),∃(g1:Frag),∃(g2:Frag),∃(g3:Frag),keeps ee [0,4,5]=some [(0,.pointer (some ⟨fb,0,none⟩)),(4,.int .u64 ((moreL.getD (v-257) 0:Nat):Int)),(5,.int .i64 ((sizesL.getD (v-257) 0:Nat):Int))]∧ll=[g1,g2,g3,⟨fb,0,[.iface src.t src.v,.pointer none,.int .i64 (ro),.int .u32 (((b):Nat):Int),.int .u64 (((nb):Nat):Int)]⟩,⟨fb,1045,[.func (.func stp) #[] #[],.int .i64 (((ss):Nat):Int),.bool last,.nilIface,trv,.pointer (some ⟨lb,lo,none⟩),.pointer hp,.int .i64 (((cl):Nat):Int),.int .i64 (((cd):Nat):Int)]⟩,⟨fb,1037,[.slice (some ⟨hb,0,none⟩) 32768 32768,.int .i64 (((wr):Nat):Int),.int .i64 (((rd):Nat):Int),.bool full]⟩,⟨hb,0,bytesV (h)⟩]++(HL++HD)∧(src.At (dt.drop q) g1 g2 g3)∧(BitsIn dt (p+lenOf t.lit v) q b nb)∧(nb<t.mn+8∨nb<moreL.getD (v-257) 0+8)∧mm=moreL.getD (v-257) 0-nb) (_) ⟨q2,b2,nb2,ro2,y1,y2,y3,rfl,rfl,hA2,hB2,.inl hnb2,rfl⟩ ?_
    rintro m0 _ _⟨q,b,nb,ro,g1,g2,g3,hk0,rfl,hA,hB,hnl,hm0⟩
    refine Av _ hk0<|Am<|Cr<|Em U U<|Aa (Ad U) U<|Aa (Ab U Ed) U<|Ag (Aj 3 (k:=4) U U U Ta137) U<|Em U U<|Aa (Dl U U) U<|Ek4 0 4 5 118 U<|Bf U (fun h118=>?_) (fun h118=>?_)
    ·refine Ap<|As<|Cr<|Em U U ?_
     refine Ai (OpX.pick [0,0,0,0] (F:=(_::_::_::_)) U (Ar U Tryz.call89 (Jf hs src _ _ _ fb _ dt _ _ _ _ hA hB (by omega)))) U ?_;rintro _ _⟨_,⟨k1,k2,k3,e4,b4,nb4,ro4,rfl,rfl,hE4⟩,rfl⟩;refine Et8 U ?_
     refine Dd [0,0,0,0,0,0,0] U<|Et8 U<|Ea U U<|Ek5 0 3 4 5 118 U<|Cr<|Em U U<|Ag (Df U) U<|Ek6 0 3 4 5 118 122 U<|Dn U (fun h122=>?_) (fun h122=>?_)
     ·obtain⟨hb5,hqe,lx,hAx⟩:=hE4.resolve_left fun h=>h122 h.1
      have hle:=hB.left_eq
      refine Cr<|Em U U<|Em U U<|Aa (Ad U) U<|Aa (Ab U Ee) U ?_
      refine Ao (Aq 4 (k:=3) U U U (one_er _) U Tz58) ?_;rintro _ _⟨rfl,rfl⟩;refine Et8 U ?_
      refine Ek6 0 3 4 5 118 122 U<|Bb ?_
      exact⟨rfl,hb_bad (hR.trans (run_bad hsy hv1 hv2 (copyR_more (by omega)))) (hb5) hAx H hrd hwr hsum htr⟩
     obtain⟨_,hA4,hB4,hn4⟩:=hE4.resolve_right fun h=>h.1.2 h122
     subst hn4
     refine Ap ?_
     refine⟨_,?_,_,_,_,_,_,_,_,rfl,rfl,hA4,hB4,.inr (by omega),rfl⟩;omega
    have hMn:moreL.getD (v-257) 0≤nb:=by omega
    have hb2:=hB.lt32 (by omega)
    have htk:=hB.take hMn
    have htl:=Fw dt (p+lenOf t.lit v) (moreL.getD (v-257) 0)
    have hle:=hB.left_eq
    refine Bu U<|Cr<|Em U U<|Em U U<|Aa (Ad U) U<|Aa (Ab U Dp) U<|Ag (Aj 3 (k:=3) U U U Ta69) U<|Em U U<|Aa (Fy (a:=((1:Nat):Int)) U U (by omega) (N.shl_u32 _ _)) U ?_
    refine An (v:=.int .u32 ((2^(moreL.getD (v-257) 0):Nat):Int)) (congrArg (fun y:Nat=>Value.int .u32 (y:Int)) (by rw[Nat.one_shiftLeft];exact Nat.mod_eq_of_lt (by omega))) ?_
    refine Aa (Dr (b:=((1:Nat):Int)) U U (N.sub_u32 (by omega) (by omega))) U<|Aa (Fa U U (N.and_u32 (by omega) (by omega))) U<|An (v:=.int .u32 ((takeB dt (p+lenOf t.lit v) (moreL.getD (v-257) 0):Nat):Int)) (congrArg (fun y:Nat=>Value.int .u32 (y:Int)) (by exact Hp hB (by omega)))<|Aa (Bv U Tu69 Tu3 (N.i64n (by omega))) U<|Aa (Bl U U (N.add64 (by omega))) U<|Ea U U<|Ek4 0 4 5 118 U<|Cr<|Em U U<|Aa (Ad U) U<|Aa (Ab U Dp) U<|Ag (Aj 3 (k:=3) U U U Ta69) U ?_
    refine Em U U<|Aa (Fl U U (by omega) (N.shr_u32 (by omega) _)) U<|An (v:=.int .u32 ((b/2^(moreL.getD (v-257) 0):Nat):Int)) (congrArg (fun y:Nat=>Value.int .u32 (y:Int)) (by rw[Nat.shiftRight_eq_div_pow]))<|Aa (Ad U) U<|Aa (Ab U Dp) U ?_
    refine Ao (Aq 3 (k:=3) U U U U U Tz69) ?_;rintro _ _⟨rfl,rfl⟩;refine Et8 U ?_
    refine Ek4 0 4 5 118 U<|Al<|Em U U<|Aa (Ad U) U<|Aa (Ab U Ed) U<|Ag (Aj 3 (k:=4) U U U Ta137) U<|Em U U<|Aa (Dr U U (N.sub_u64 (by omega) (by omega))) U<|Aa (Ad U) U<|Aa (Ab U Ed) U ?_
    refine Ao (Aq 3 (k:=4) U U U U U Tz137) ?_;rintro _ _⟨rfl,rfl⟩;refine Et8 U ?_
    refine Ek4 0 4 5 118 U ?_
    exact⟨_,_,_,_,_,_,_,_,rfl,rfl,hA,htk.2,by omega,rfl,by omega⟩
   have hM0:moreL.getD (v-257) 0=0:=by omega
   refine Ap ?_
   exact⟨_,_,_,_,_,_,_,sizesL.getD (v-257) 0,rfl,rfl,hA2,(by rw[hM0];exact hB2),hnb2,(by rw[hM0];simp[takeB,Nat.mod_one]),by omega⟩
  rintro _ _⟨q,b,nb,ro,g1,g2,g3,ln,hq46,rfl,hA,hB,hnb,hln,hml⟩
  refine Av _ hq46<|Cr<|Ea U U<|Ek3 0 5 6 U<|Du (M:=fun ee ll=>∃(q:Nat),∃(b:Nat),∃(nb:Nat),∃(ro:Int),∃(g1:Frag),∃(g2:Frag),∃(g3:Frag),∃(d:Nat),keeps ee [0,5,6]=some [(0,.pointer (some ⟨fb,0,none⟩)),(5,.int .i64 ((ln:Nat):Int)),(6,.int .i64 ((d:Nat):Int))]∧ll=[g1,g2,g3,⟨fb,0,[.iface src.t src.v,.pointer none,.int .i64 (ro),.int .u32 (((b):Nat):Int),.int .u64 (((nb):Nat):Int)]⟩,⟨fb,1045,[.func (.func stp) #[] #[],.int .i64 (((ss):Nat):Int),.bool last,.nilIface,trv,.pointer (some ⟨lb,lo,none⟩),.pointer hp,.int .i64 (((cl):Nat):Int),.int .i64 (((cd):Nat):Int)]⟩,⟨fb,1037,[.slice (some ⟨hb,0,none⟩) 32768 32768,.int .i64 (((wr):Nat):Int),.int .i64 (((rd):Nat):Int),.bool full]⟩,⟨hb,0,bytesV (h)⟩]++(HL++HD)∧(src.At (dt.drop q) g1 g2 g3)∧(BitsIn dt (p+lenOf t.lit v+moreL.getD (v-257) 0+lenOf t.dist d) q b nb)∧(nb<t.mn+8)∧(symR t.dist 0 dt (p+lenOf t.lit v+moreL.getD (v-257) 0)=some d)∧(d<320)) ?_ ?_
  ·refine Cr<|Em U U<|Aa (Ad U) U<|Aa (Ab U fa186_17) U<|Ag (Aj 4 (k:=6) U U U Tryz.isAgg184) U<|Aa (S.eqPtrNil U Tryz.underlying184) U<|Ek4 0 5 6 158 U<|Eg U (fun h158=>?_) (fun h158=>?_)
   ·have hdf:t.dist=Ex:=by
      rcases hD with h1|⟨db,dO,h1,_⟩
      · exact h1.2.1
      · rw[h1]at h158;cases h158
    refine Am<|As<|Bw (fun mm ee ll=>∃(q:Nat),∃(b:Nat),∃(nb:Nat),∃(ro:Int),∃(g1:Frag),∃(g2:Frag),∃(g3:Frag),keeps ee [0,5]=some [(0,.pointer (some ⟨fb,0,none⟩)),(5,.int .i64 ((ln:Nat):Int))]∧ll=[g1,g2,g3,⟨fb,0,[.iface src.t src.v,.pointer none,.int .i64 (ro),.int .u32 (((b):Nat):Int),.int .u64 (((nb):Nat):Int)]⟩,⟨fb,1045,[.func (.func stp) #[] #[],.int .i64 (((ss):Nat):Int),.bool last,.nilIface,trv,.pointer (some ⟨lb,lo,none⟩),.pointer hp,.int .i64 (((cl):Nat):Int),.int .i64 (((cd):Nat):Int)]⟩,⟨fb,1037,[.slice (some ⟨hb,0,none⟩) 32768 32768,.int .i64 (((wr):Nat):Int),.int .i64 (((rd):Nat):Int),.bool full]⟩,⟨hb,0,bytesV (h)⟩]++(HL++HD)∧(src.At (dt.drop q) g1 g2 g3)∧(BitsIn dt (p+lenOf t.lit v+moreL.getD (v-257) 0) q b nb)∧(nb<t.mn+8∨nb<5+8)∧mm=5-nb) (_) ⟨q,b,nb,ro,g1,g2,g3,rfl,rfl,hA,hB,.inl hnb,rfl⟩ ?_
    rintro m1 _ _⟨q,b,nb,ro,g1,g2,g3,hk1,rfl,hA,hB,hnl,hm1⟩
    refine Av _ hk1<|Am<|Cr<|Em U U<|Aa (Ad U) U<|Aa (Ab U Ed) U<|Ag (Aj 3 (k:=4) U U U Ta137) U<|Aa (Dl (b:=((5:Nat):Int)) U U) U<|Ek3 0 5 163 U<|Bf U (fun h163=>?_) (fun h163=>?_)
    ·refine Ap<|As<|Cr<|Em U U ?_
     refine Ai (OpX.pick [0,0,0,0] (F:=(_::_::_::_)) U (Ar U Tryz.call89 (Jf hs src _ _ _ fb _ dt _ _ _ _ hA hB (by omega)))) U ?_;rintro _ _⟨_,⟨k1,k2,k3,e4,b4,nb4,ro4,rfl,rfl,hE4⟩,rfl⟩;refine Et8 U ?_
     refine Dd [0,0,0,0,0,0,0] U<|Et8 U<|Ea U U<|Ek4 0 3 5 163 U<|Cr<|Em U U<|Ag (Df U) U<|Ek5 0 3 5 163 167 U<|Dn U (fun h167=>?_) (fun h167=>?_)
     ·obtain⟨hb5,hqe,lx,hAx⟩:=hE4.resolve_left fun h=>h167 h.1
      have hle:=hB.left_eq
      refine Cr<|Em U U<|Em U U<|Aa (Ad U) U<|Aa (Ab U Ee) U ?_
      refine Ao (Aq 4 (k:=3) U U U (one_er _) U Tz58) ?_;rintro _ _⟨rfl,rfl⟩;refine Et8 U ?_
      refine Ek5 0 3 5 163 167 U<|Bb ?_
      exact⟨rfl,hb_bad (hR.trans (run_bad hsy hv1 hv2 (copyR_nodist hml (by rw[hdf];exact sym_fix_none (by omega))))) (hb5) hAx H hrd hwr hsum htr⟩
     obtain⟨_,hA4,hB4,hn4⟩:=hE4.resolve_right fun h=>h.1.2 h167
     subst hn4
     refine Ap ?_
     refine⟨_,?_,_,_,_,_,_,_,_,rfl,rfl,hA4,hB4,.inr (by omega),rfl⟩;omega
    have h5n:5≤nb:=by omega
    have hb2:=hB.lt32 (by omega)
    have hle:=hB.left_eq
    have htk:=hB.take h5n
    have hf:=sym_fix (D:=dt) (p:=p+lenOf t.lit v+moreL.getD (v-257) 0) (by omega)
    have hdl:revB 5 (takeB dt (p+lenOf t.lit v+moreL.getD (v-257) 0) 5)<320:=by omega
    refine Bu U<|Cr<|Em U U<|Aa (Ad U) U<|Aa (Ab U Dp) U<|Ag (Aj 3 (k:=3) U U U Ta69) U<|Aa (Fa (b:=((31:Nat):Int)) U U (N.and_u32 (by omega) (by omega))) U<|An (v:=.int .u32 ((b%32:Nat):Int)) (congrArg (fun y:Nat=>Value.int .u32 (y:Int)) (by exact Nat.and_two_pow_sub_one_eq_mod b 5))<|Aa (Fy (b:=((3:Nat):Int)) U U (by omega) (N.shl_u32 _ _)) U ?_
    refine An (v:=.int .u32 ((b%32*8:Nat):Int)) (congrArg (fun y:Nat=>Value.int .u32 (y:Int)) (by rw[Nat.shiftLeft_eq];omega)) ?_
    refine Aa (Bv U Tu69 Tu5 (N.in_u8 (by omega))) U ?_
    refine Ai (OpX.pick [] (F:=(_::_::_::_::_::_::_::_)) U (Ar U Tryz.call102 (reverse8_spec _ (by omega)))) U ?_;rintro _ _⟨_,⟨rfl,rfl⟩,rfl⟩;refine Et8 U ?_
    have hr8:=Eh 8 (b%32*8)
    refine Aa (Bv U Tu5 Tu3 (N.i64n (by omega))) U ?_
    refine An (v:=.int .i64 ((revB 5 (takeB dt (p+lenOf t.lit v+moreL.getD (v-257) 0) 5):Nat):Int)) (congrArg (fun y:Nat=>Value.int .i64 (y:Int)) (by rw[rev85 (by omega)];exact congrArg (revB 5) (hB.take (n:=5) (by omega)).1)) ?_
    refine Ea U U<|Ek4 0 5 6 163 U<|Cr<|Em U U<|Aa (Ad U) U<|Aa (Ab U Dp) U<|Ag (Aj 3 (k:=3) U U U Ta69) U<|Aa (Fl (b:=((5:Nat):Int)) U U (by omega) (N.shr_u32 (by omega) _)) U<|An (v:=.int .u32 ((b/2^5:Nat):Int)) (congrArg (fun y:Nat=>Value.int .u32 (y:Int)) (by rw[Nat.shiftRight_eq_div_pow]))<|Aa (Ad U) U<|Aa (Ab U Dp) U ?_
    refine Ao (Aq 3 (k:=3) U U U U U Tz69) ?_;rintro _ _⟨rfl,rfl⟩;refine Et8 U ?_
    refine Ek4 0 5 6 163 U<|Al<|Em U U<|Aa (Ad U) U<|Aa (Ab U Ed) U<|Ag (Aj 3 (k:=4) U U U Ta137) U<|Aa (Dr (b:=((5:Nat):Int)) U U (N.sub_u64 (by omega) (by omega))) U<|Aa (Ad U) U<|Aa (Ab U Ed) U ?_
    refine Ao (Aq 3 (k:=4) U U U U U Tz137) ?_;rintro _ _⟨rfl,rfl⟩;refine Et8 U ?_
    refine Ek4 0 5 6 163 U ?_
    exact⟨_,_,_,_,_,_,_,revB 5 (takeB dt (p+lenOf t.lit v+moreL.getD (v-257) 0) 5),rfl,rfl,hA,(by rw[hdf,fix_len hf.2];exact htk.2),by omega,(by rw[hdf];exact hf.1),hdl⟩
   obtain⟨db,dO,hp1,hHd,hdok,hd15,hdlen⟩:=hD.resolve_left fun h1=>by rw[h1.1]at h158;cases h158
   subst hp1
   refine Cr<|Em U U<|Em U U<|Aa (Ad U) U<|Aa (Ab U fa186_17) U<|Ag (Aj 4 (k:=6) U U U Tryz.isAgg184) U ?_
   refine Ai (Ar U Tryz.call99 (huffSym_end hs src _ _ _ fb _ _ _ _ _ _ _ _ _ _ db dO dt _ _ _ _ hA hB (by have:=hL.mn15;omega) t.dist (minL t.dist) hdok hd15 (Nat.le_refl _) (min_15 hd15) HD (⟨fb,1037,[.slice (some ⟨hb,0,none⟩) 32768 32768,.int .i64 (((wr):Nat):Int),.int .i64 (((rd):Nat):Int),.bool full]⟩::⟨hb,0,bytesV (h)⟩::HL) hHd)) U ?_;rintro _ _⟨e5,vi5,k1,k2,k3,a5,b5,c5,ev5,rfl,hE5,rfl⟩;refine Et8 U ?_
   refine Em U U<|Aa (Bg U U) U<|Aa (Bg U U) U<|Ea U U<|Ea U U<|Ek5 0 3 5 6 158 U<|Cr<|Em U U<|Ag (Df U) U<|Ek6 0 3 5 6 158 205 U<|Dn U (fun h205=>?_) (fun h205=>?_)
   ·obtain⟨hb5,hsn,lx,hAx⟩:=hE5.resolve_left fun h=>h205 h.1
    refine Cr<|Em U U<|Em U U<|Aa (Ad U) U<|Aa (Ab U Ee) U ?_
    refine Ao (Aq 4 (k:=3) U U U (one_er _) U Tz58) ?_;rintro _ _⟨rfl,rfl⟩;refine Et8 U ?_
    refine Ek6 0 3 5 6 158 205 U<|Bb ?_
    exact⟨rfl,hb_bad (hR.trans (run_bad hsy hv1 hv2 (copyR_nodist hml (symR_min.symm.trans hsn)))) (hb5) hAx H hrd hwr hsum htr⟩
   obtain⟨_,d,rfl,hsyd0,hdl,q5,b5,nb5,ro5,hA5,hB5,hn5,hbd5,rfl,rfl,rfl,rfl⟩:=hE5.resolve_right fun h=>h.1.2 h205
   have hm5:=(symR_some hsyd0).1
   have hmin5:minL t.dist≤lenOf t.dist d:=by rw[Bp (Dx hm5.1)];exact(Fs _).2.1 _ (List.getElem_mem _) (by have:=hm5.1;rw[Bp (Dx hm5.1)]at this;omega)
   rw[Nat.max_eq_right hmin5]at hbd5
   refine Ap ?_
   exact⟨_,_,_,_,_,_,_,d,rfl,rfl,hA5,hB5,by omega,(symR_min.symm.trans hsyd0),by omega⟩
  rintro _ _⟨q,b,nb,ro,g1,g2,g3,d,hq59,rfl,hA,hB,hnb,hsyd,hdl⟩
  refine Av _ hq59<|Du (M:=fun ee ll=>∃(q:Nat),∃(b:Nat),∃(nb:Nat),∃(ro:Int),∃(g1:Frag),∃(g2:Frag),∃(g3:Frag),keeps ee [0,5,6]=some [(0,.pointer (some ⟨fb,0,none⟩)),(5,.int .i64 ((ln:Nat):Int)),(6,.int .i64 ((farL.getD d 0+takeB dt (p+lenOf t.lit v+moreL.getD (v-257) 0+lenOf t.dist d) (furL.getD d 0):Nat):Int))]∧ll=[g1,g2,g3,⟨fb,0,[.iface src.t src.v,.pointer none,.int .i64 (ro),.int .u32 (((b):Nat):Int),.int .u64 (((nb):Nat):Int)]⟩,⟨fb,1045,[.func (.func stp) #[] #[],.int .i64 (((ss):Nat):Int),.bool last,.nilIface,trv,.pointer (some ⟨lb,lo,none⟩),.pointer hp,.int .i64 (((cl):Nat):Int),.int .i64 (((cd):Nat):Int)]⟩,⟨fb,1037,[.slice (some ⟨hb,0,none⟩) 32768 32768,.int .i64 (((wr):Nat):Int),.int .i64 (((rd):Nat):Int),.bool full]⟩,⟨hb,0,bytesV (h)⟩]++(HL++HD)∧(src.At (dt.drop q) g1 g2 g3)∧(BitsIn dt (p+lenOf t.lit v+moreL.getD (v-257) 0+lenOf t.dist d+furL.getD d 0) q b nb)∧(nb<t.mn+8)∧(d<30)∧(¬left dt (p+lenOf t.lit v+moreL.getD (v-257) 0+lenOf t.dist d)<furL.getD d 0)) ?_ ?_
  ·refine As<|Cr<|Em U U<|Aa (Dl (b:=((4:Nat):Int)) U U) U<|Ea U U<|Ek4 0 5 6 218 U<|Bf U (fun h218=>?_) (fun h218=>?_)
   ·have hft:=(far_tab d (by omega)).1 (by omega)
    refine Al<|Em U U<|Aa (Bl (b:=((1:Nat):Int)) U U (N.add64 (by omega))) U ?_
    refine An (v:=.int .i64 ((farL.getD d 0+takeB dt (p+lenOf t.lit v+moreL.getD (v-257) 0+lenOf t.dist d) (furL.getD d 0):Nat):Int)) (congrArg (fun y:Nat=>Value.int .i64 (y:Int)) (by have hft:=(far_tab d (by omega)).1 (by omega);rw[hft.1,hft.2];simp[takeB,Nat.mod_one])) ?_
    refine Ea U U<|Ek4 0 5 6 218 U ?_
    exact⟨_,_,_,_,_,_,_,rfl,rfl,hA,(by rw[hft.1];exact hB),hnb,by omega,(by rw[hft.1];omega)⟩
   refine Cr<|Em U U<|Aa (Dl (b:=((30:Nat):Int)) U U) U<|Ea U U<|Ek5 0 5 6 218 223 U<|Bf U (fun h223=>?_) (fun h223=>?_)
   ·have hft:=(far_tab d (by omega)).2 (by omega)
    have h2E:2^((d-2)/2)≤2^13:=Nat.pow_le_pow_right (by omega) hft.2.2
    have h2E1:2^((d-2)/2+1)≤2^14:=Nat.pow_le_pow_right (by omega) (by omega)
    have h2E0:0<2^((d-2)/2):=Nat.pow_pos (by omega)
    have h2Em:d%2*2^((d-2)/2)≤1*2^13:=Nat.mul_le_mul (by omega) h2E
    refine Cr<|Em U U<|Aa (Dr (b:=((2:Nat):Int)) U U (N.sub64 (by omega) (by omega))) U<|Aa (Bv U Tu3 Tu137 (N.in_u64 (by omega))) U<|Aa (Fl (b:=((1:Nat):Int)) U U (by omega) (N.shr_u64 (by omega) _)) U<|An (v:=.int .u64 (((d-2)/2:Nat):Int)) (congrArg (fun y:Nat=>Value.int .u64 (y:Int)) (by rw[Nat.shiftRight_eq_div_pow]))<|Ea U U<|Ek6 0 5 6 7 218 223 U<|Cr<|Em U U<|Aa (Fa (b:=((1:Nat):Int)) U U (N.and64 (by omega) (by omega))) U<|An (v:=.int .i64 ((d%2:Nat):Int)) (congrArg (fun y:Nat=>Value.int .i64 (y:Int)) (by exact Nat.and_one_is_mod d)) ?_
    refine Em U U ?_
    refine Aa (Fy U U (by omega) (N.shl64 (by rw[Nat.shiftLeft_eq];omega))) U ?_
    refine An (v:=.int .i64 ((d%2*2^((d-2)/2):Nat):Int)) (congrArg (fun y:Nat=>Value.int .i64 (y:Int)) (by rw[Nat.shiftLeft_eq]))<|Ea U U<|Ek7 0 5 6 7 8 218 223 U<|Am<|As<|Bw (fun mm ee ll=>∃(q:Nat),∃(b:Nat),∃(nb:Nat),∃(ro:Int),∃(g1:Frag),∃(g2:Frag),∃(g3:Frag),keeps ee [0,5,6,7,8]=some [(0,.pointer (some ⟨fb,0,none⟩)),(5,.int .i64 ((ln:Nat):Int)),(6,.int .i64 ((d:Nat):Int)),(7,.int .u64 (((d-2)/2:Nat):Int)),(8,.int .i64 ((d%2*2^((d-2)/2):Nat):Int))]∧ll=[g1,g2,g3,⟨fb,0,[.iface src.t src.v,.pointer none,.int .i64 (ro),.int .u32 (((b):Nat):Int),.int .u64 (((nb):Nat):Int)]⟩,⟨fb,1045,[.func (.func stp) #[] #[],.int .i64 (((ss):Nat):Int),.bool last,.nilIface,trv,.pointer (some ⟨lb,lo,none⟩),.pointer hp,.int .i64 (((cl):Nat):Int),.int .i64 (((cd):Nat):Int)]⟩,⟨fb,1037,[.slice (some ⟨hb,0,none⟩) 32768 32768,.int .i64 (((wr):Nat):Int),.int .i64 (((rd):Nat):Int),.bool full]⟩,⟨hb,0,bytesV (h)⟩]++(HL++HD)∧(src.At (dt.drop q) g1 g2 g3)∧(BitsIn dt (p+lenOf t.lit v+moreL.getD (v-257) 0+lenOf t.dist d) q b nb)∧(nb<t.mn+8∨nb<(d-2)/2+8)∧mm=(d-2)/2-nb) (_) ⟨q,b,nb,ro,g1,g2,g3,rfl,rfl,hA,hB,.inl hnb,rfl⟩ ?_
    rintro m2 _ _⟨q,b,nb,ro,g1,g2,g3,hk2,rfl,hA,hB,hnl,hm2⟩
    refine Av _ hk2<|Am<|Cr<|Em U U<|Aa (Ad U) U<|Aa (Ab U Ed) U<|Ag (Aj 3 (k:=4) U U U Ta137) U<|Em U U<|Aa (Dl U U) U<|Ek6 0 5 6 7 8 239 U<|Bf U (fun h239=>?_) (fun h239=>?_)
    ·refine Ap<|As<|Cr<|Em U U ?_
     refine Ai (OpX.pick [0,0,0,0] (F:=(_::_::_::_)) U (Ar U Tryz.call89 (Jf hs src _ _ _ fb _ dt _ _ _ _ hA hB (by omega)))) U ?_;rintro _ _⟨_,⟨k1,k2,k3,e4,b4,nb4,ro4,rfl,rfl,hE4⟩,rfl⟩;refine Et8 U ?_
     refine Dd [0,0,0,0,0,0,0] U<|Et8 U<|Ea U U<|Ek7 0 3 5 6 7 8 239 U<|Cr<|Em U U<|Ag (Df U) U<|Ek8 0 3 5 6 7 8 239 243 U<|Dn U (fun h243=>?_) (fun h243=>?_)
     ·obtain⟨hb5,hqe,lx,hAx⟩:=hE4.resolve_left fun h=>h243 h.1
      have hle:=hB.left_eq
      refine Cr<|Em U U<|Em U U<|Aa (Ad U) U<|Aa (Ab U Ee) U ?_
      refine Ao (Aq 4 (k:=3) U U U (one_er _) U Tz58) ?_;rintro _ _⟨rfl,rfl⟩;refine Et8 U ?_
      refine Ek8 0 3 5 6 7 8 239 243 U<|Bb ?_
      exact⟨rfl,hb_bad (hR.trans (run_bad hsy hv1 hv2 (copyR_fur hml hsyd (by omega) (by rw[hft.1];omega)))) (hb5) hAx H hrd hwr hsum htr⟩
     obtain⟨_,hA4,hB4,hn4⟩:=hE4.resolve_right fun h=>h.1.2 h243
     subst hn4
     refine Ap ?_
     refine⟨_,?_,_,_,_,_,_,_,_,rfl,rfl,hA4,hB4,.inr (by omega),rfl⟩;omega
    have hEn:(d-2)/2≤nb:=by omega
    have hb2:=hB.lt32 (by omega)
    have hle:=hB.left_eq
    have htk:=hB.take hEn
    have htl:=Fw dt (p+lenOf t.lit v+moreL.getD (v-257) 0+lenOf t.dist d) ((d-2)/2)
    refine Bu U<|Cr<|Em U U<|Em U U<|Aa (Ad U) U<|Aa (Ab U Dp) U<|Ag (Aj 3 (k:=3) U U U Ta69) U<|Em U U<|Aa (Fy (a:=((1:Nat):Int)) U U (by omega) (N.shl_u32 _ _)) U ?_
    refine An (v:=.int .u32 ((2^((d-2)/2):Nat):Int)) (congrArg (fun y:Nat=>Value.int .u32 (y:Int)) (by rw[Nat.one_shiftLeft];exact Nat.mod_eq_of_lt (by omega))) ?_
    refine Aa (Dr (b:=((1:Nat):Int)) U U (N.sub_u32 (by omega) (by omega))) U<|Aa (Fa U U (N.and_u32 (by omega) (by omega))) U<|An (v:=.int .u32 ((takeB dt (p+lenOf t.lit v+moreL.getD (v-257) 0+lenOf t.dist d) ((d-2)/2):Nat):Int)) (congrArg (fun y:Nat=>Value.int .u32 (y:Int)) (by exact Hp hB (by omega)))<|Aa (Bv U Tu69 Tu3 (N.i64n (by omega))) U<|Aa (S.or U U (N.or64 (by omega) (by omega))) U<|An (v:=.int .i64 ((d%2*2^((d-2)/2)+takeB dt (p+lenOf t.lit v+moreL.getD (v-257) 0+lenOf t.dist d) ((d-2)/2):Nat):Int)) (congrArg (fun y:Nat=>Value.int .i64 (y:Int)) (by exact or_two (Fw _ _ _)))<|Ea U U<|Ek6 0 5 6 7 8 239 U<|Cr<|Em U U<|Aa (Ad U) U<|Aa (Ab U Dp) U ?_
    refine Ag (Aj 3 (k:=3) U U U Ta69) U<|Em U U<|Aa (Fl U U (by omega) (N.shr_u32 (by omega) _)) U<|An (v:=.int .u32 ((b/2^((d-2)/2):Nat):Int)) (congrArg (fun y:Nat=>Value.int .u32 (y:Int)) (by rw[Nat.shiftRight_eq_div_pow]))<|Aa (Ad U) U<|Aa (Ab U Dp) U ?_
    refine Ao (Aq 3 (k:=3) U U U U U Tz69) ?_;rintro _ _⟨rfl,rfl⟩;refine Et8 U ?_
    refine Ek6 0 5 6 7 8 239 U<|Cr<|Em U U<|Aa (Ad U) U<|Aa (Ab U Ed) U<|Ag (Aj 3 (k:=4) U U U Ta137) U<|Em U U<|Aa (Dr U U (N.sub_u64 (by omega) (by omega))) U<|Aa (Ad U) U<|Aa (Ab U Ed) U ?_
    refine Ao (Aq 3 (k:=4) U U U U U Tz137) ?_;rintro _ _⟨rfl,rfl⟩;refine Et8 U ?_
    refine Ek6 0 5 6 7 8 239 U<|Al<|Em U U<|Aa (Bl (b:=((1:Nat):Int)) U U (N.add_u64 (by omega))) U ?_
    refine Aa (Fy (a:=((1:Nat):Int)) U U (by omega) (N.shl64 (by rw[Nat.one_shiftLeft];omega))) U ?_
    refine An (v:=.int .i64 ((2^((d-2)/2+1):Nat):Int)) (congrArg (fun y:Nat=>Value.int .i64 (y:Int)) (by rw[Nat.one_shiftLeft]))<|Aa (Bl (b:=((1:Nat):Int)) U U (N.add64 (by omega))) U<|Em U U<|Aa (Bl U U (N.add64 (by omega))) U ?_
    refine An (v:=.int .i64 ((farL.getD d 0+takeB dt (p+lenOf t.lit v+moreL.getD (v-257) 0+lenOf t.dist d) (furL.getD d 0):Nat):Int)) (congrArg (fun y:Nat=>Value.int .i64 (y:Int)) (by rw[hft.1,hft.2.1];omega)) ?_
    refine Ea U U<|Ek6 0 5 6 7 8 239 U ?_
    exact⟨_,_,_,_,_,_,_,rfl,rfl,hA,(by rw[hft.1];exact htk.2),by omega,by omega,(by rw[hft.1];omega)⟩
   refine Cr<|Em U U<|Em U U<|Aa (Ad U) U<|Aa (Ab U Ff) U<|Ag (Aj 3 (k:=2) U U U Ta2) U<|Aa (Eo U Hr) U<|An (v:=Er.val ea (.corrupt ro)) (rfl)<|Aa (Ad U) U<|Aa (Ab U Ee) U ?_
   refine Ao (Aq 4 (k:=3) U U U U U Tz58) ?_;rintro _ _⟨rfl,rfl⟩;refine Et8 U ?_
   refine Ek5 0 5 6 218 223 U<|Bb ?_
   exact⟨rfl,hb_bad (hR.trans (run_bad hsy hv1 hv2 (copyR_30 hml hsyd (by omega)))) (Ew _) hA H hrd hwr hsum htr⟩
  rintro _ _⟨q,b,nb,ro,g1,g2,g3,hq72,rfl,hA,hB,hnb,hd30,hfl⟩
  refine Av _ hq72 ?_
  have hcp:=copyR_some (t:=t) hml hsyd hd30 hfl
  have hszb:=size_bound (D:=dt) (p:=p+lenOf t.lit v) hv2 hv1
  have hfb:=far_bound (D:=dt) (p:=p+lenOf t.lit v+moreL.getD (v-257) 0+lenOf t.dist d) hd30
  have hszH:=H.size_le
  refine Am<|Cr<|Em U U<|Em U U<|Aa (Ad U) U<|Aa (Ab U Fe) U ?_
  refine Ai (OpX.pick [5] (F:=(_::_::_::_::_::_::_)) U (Ar U Tryz.call103 (histSize_spec fb 1037 hb wr rd full (by omega) (by omega)))) U ?_;rintro _ _⟨_,⟨rfl,rfl⟩,rfl⟩;refine Et8 U ?_
  refine Dd [1,1,1,1,1,0,0] U<|Et8 U<|An (v:=.int .i64 ((hsize wr full:Nat):Int)) (rfl)<|Aa (Fh U U) U<|Ek4 0 5 6 286 U<|Bf U (fun h286=>?_) (fun h286=>?_)
  ·have hfar:out.length<farL.getD d 0+takeB dt (p+lenOf t.lit v+moreL.getD (v-257) 0+lenOf t.dist d) (furL.getD d 0):=by omega
   refine Cr<|Em U U<|Em U U<|Aa (Ad U) U<|Aa (Ab U Ff) U<|Ag (Aj 3 (k:=2) U U U Ta2) U<|Aa (Eo U Hr) U<|An (v:=Er.val ea (.corrupt ro)) (rfl)<|Aa (Ad U) U<|Aa (Ab U Ee) U ?_
   refine Ao (Aq 4 (k:=3) U U U U U Tz58) ?_;rintro _ _⟨rfl,rfl⟩;refine Et8 U ?_
   refine Ek4 0 5 6 286 U<|Bb ?_
   exact⟨rfl,hb_bad (hR.trans (run_far hsy hv1 hv2 hcp hfar)) (Ew _) hA H hrd hwr hsum htr⟩
  refine Ap<|Cr<|Em U U<|Em U U<|Em U U<|Em U U<|Aa (Ad U) U<|Aa (Ab U Gv) U ?_
  refine Ao (Aq 4 (k:=7) U U U U U Tz3) ?_;rintro _ _⟨rfl,rfl⟩;refine Et8 U ?_
  refine Aa (Ad U) U<|Aa (Ab U fa186_19) U ?_
  refine Ao (Aq 4 (k:=8) U U U U U Tz3) ?_;rintro _ _⟨rfl,rfl⟩;refine Et8 U ?_
  refine Ek4 0 5 6 286 U<|C.goto U ?_
  have hR2:=hR.trans (run_copy hsy hv1 hv2 hcp (by omega) (by omega) (by have:=hB.at8;have:=hB.le;omega))
  refine⟨_,?_,.inr ⟨rfl,p+lenOf t.lit v+moreL.getD (v-257) 0+lenOf t.dist d+furL.getD d 0,q,b,nb,ro,g1,g2,g3,out,h,wr,rd,full,ss,ln,farL.getD d 0+takeB dt (p+lenOf t.lit v+moreL.getD (v-257) 0+lenOf t.dist d) (furL.getD d 0),rfl,rfl,hA,hB,hnb,by omega,H,hrd,hwr,hsum,(hss.imp id And.left),(by rw[hln];exact hszb.1),hfb.1,by omega,(by rw[hln];exact hR2),rfl⟩⟩
  omega
 refine⟨_,rfl,?_⟩
 refine Av _ hg1<|Am<|Ap<|Am<|Bt [0,1,2,0,8,16,32,0,128,256,512,1092,4095] (.pure 0 2040 (.pure 1 2041 (.pure 2 2043 (.pure 3 1927 (.pure 4 1935 (.pure 5 1951 (.pure 7 127 (.pure 8 255 (.pure 9 511 (.seg [(6,1983),(10,1023)] (.alt 11 (.pure 12 4095 .done) .stop))))))))))) mixed (by decide+kernel)<|Dm U U U<|Ah U (Ad U) U<|Ah U (Ab U Fe) U<|Dm U U U<|Ah U (Ad U) U<|Ah U (Ab U fa186_19) U<|Dm U U U ?_
 refine Ah U (Ad U) U<|Ah U (Ab U Gv) U<|Dc (by decide)<|Au U (Aj 4 (k:=8) U U U Ta3) U<|Au U (Aj 4 (k:=7) U U U Ta3) U<|Da<|By ?_
 refine Bo U (OpX.pick [5,5] (F:=(_::_::_::_::_::_)) U (Ar U Tryz.call104 (tryWriteCopy_spec fb 1037 hb wr rd full h out H hwr cd cl hcd1 hcd2 (by omega)))) U ?_;rintro _ _⟨_,⟨n,h2,rfl,hn1,hn2,H2,rfl⟩,rfl⟩;refine Dt8 U ?_
 refine Hb [2,2,2,2,2,0,0] U<|Dt8 U<|Ah U (Az U) U<|Dk2 0 9 U<|Du (M:=fun ee ll=>∃(n:Nat),∃(h2:List UInt8),keeps ee [0,9]=some [(0,.pointer (some ⟨fb,0,none⟩)),(9,.int .i64 ((n:Nat):Int))]∧ll=[f1,f2,f3,⟨fb,0,[.iface src.t src.v,.pointer none,.int .i64 (ro),.int .u32 (((b):Nat):Int),.int .u64 (((nb):Nat):Int)]⟩,⟨fb,1045,[.func (.func stp) #[] #[],.int .i64 (((ss):Nat):Int),.bool last,.nilIface,trv,.pointer (some ⟨lb,lo,none⟩),.pointer hp,.int .i64 (((cl):Nat):Int),.int .i64 (((cd):Nat):Int)]⟩,⟨fb,1037,[.slice (some ⟨hb,0,none⟩) 32768 32768,.int .i64 (((wr+n):Nat):Int),.int .i64 (((rd):Nat):Int),.bool full]⟩,⟨hb,0,bytesV (h2)⟩]++(HL++HD)∧(n≤cl)∧(Hist h2 (wr+n) full (copyN out cd n))∧(n=cl∨wr+n=32768)) ?_ ?_
 ·refine Cr<|Em U U<|Aa (Ef (b:=((0:Nat):Int)) U U) U<|Ek3 0 9 316 U<|Bf U (fun h316=>?_) (fun h316=>?_)
  ·have hn0:n=0:=by omega
   subst hn0
   refine Bt [0,1,2,0,8,16,32,0,128,256,512,1092,4095] (.pure 0 2040 (.pure 1 2041 (.pure 2 2043 (.pure 3 1927 (.pure 4 1935 (.pure 5 1951 (.pure 7 127 (.pure 8 255 (.pure 9 511 (.seg [(6,1983),(10,1023)] (.alt 11 (.pure 12 4095 .done) .stop))))))))))) mixed (by decide+kernel)<|Dm U U U<|Ah U (Ad U) U<|Ah U (Ab U Fe) U<|Dm U U U<|Ah U (Ad U) U<|Ah U (Ab U fa186_19) U<|Dm U U U<|Ah U (Ad U) U<|Ah U (Ab U Gv) U<|Dc (by decide)<|Au U (Aj 4 (k:=8) U U U Ta3) U ?_
   refine Au U (Aj 4 (k:=7) U U U Ta3) U<|Da<|By ?_
   refine Bo U (OpX.pick [5,5] (F:=(_::_::_::_::_::_)) U (Ar U Tryz.call105 (writeCopy_spec fb 1037 hb (wr+0) rd full h2 (copyN out cd 0) H2 (by omega) cd cl hcd1 hcd2 (by omega)))) U ?_;rintro _ _⟨_,⟨n3,h3,rfl,hn3,hn4,H3,rfl⟩,rfl⟩;refine Dt8 U ?_
   refine Hb [2,2,2,2,2,0,0] U<|Dt8 U<|Ah U (Az U) U<|Dk3 0 9 316 U ?_
   exact⟨n3,h3,rfl,rfl,hn3,H3,by omega⟩
  refine Ap ?_
  exact⟨n,h2,rfl,rfl,hn1,H2,.inl (hn2.resolve_left (by omega))⟩
 rintro _ _⟨n,h2,hq78,rfl,hn1,H2,hn2⟩
 refine Av _ hq78 ?_
 have hwn2:=H2.wrLe
 have hcln:=Eu out cd n
 refine Cr<|Em U U<|Aa (Ad U) U<|Aa (Ab U Gv) U<|Ag (Aj 4 (k:=7) U U U Ta3) U<|Em U U<|Aa (Dr U U (N.sub64 (by omega) (by omega))) U<|Aa (Ad U) U<|Aa (Ab U Gv) U ?_
 refine Ao (Aq 4 (k:=7) U U U U U Tz3) ?_;rintro _ _⟨rfl,rfl⟩;refine Et8 U ?_
 refine Ek2 0 9 U<|Am<|Cr<|Em U U<|Aa (Ad U) U<|Aa (Ab U Fe) U ?_
 refine Ai (OpX.pick [5] (F:=(_::_::_::_::_::_::_)) U (Ar U Tryz.call101 (availWrite_spec fb 1037 hb (wr+n) rd full (by omega) (by omega)))) U ?_;rintro _ _⟨_,⟨rfl,rfl⟩,rfl⟩;refine Et8 U ?_
 refine Dd [1,1,1,1,1,0,0] U<|Et8 U<|Aa (Ef (b:=((0:Nat):Int)) U U) U<|Em U U<|Ek (fun g342=>?_) (fun g342=>?_)
 ·refine Ae 342 true U U U U<|Ae 342 true U U U U<|Ae 342 true U U U U<|Ae 342 true U U U U<|Ae 342 true U U U U<|Aa (Bz U U) U<|Ek3 0 9 348 U<|He U (rfl)<|Cr<|Em U U<|Em U U<|Aa (Ad U) U ?_
  refine Aa (Ab U Fe) U ?_
  refine Ai (OpX.pick [5] (F:=(_::_::_::_::_::_::_)) U (Ar U Tryz.call95 (Fg fb 1037 hb (wr+n) rd full (by omega) (by omega)))) U ?_;rintro _ _⟨_,⟨Aw,hfl,rfl⟩,rfl⟩;refine Et8 U ?_
  refine Dd [1,1,1,1,1,0,0] U<|Et8 U<|Aa (Ad U) U<|Aa (Ab U Ge) U ?_
  refine Ao (Aq 4 (k:=4) U U U (Ji hfl) U Tz25) ?_;rintro _ _⟨rfl,rfl⟩;refine Et8 U ?_
  refine Ek3 0 9 348 U<|Cr<|Em U U<|Aa (Ad U) U<|Aa (Ab U Jb) U ?_
  refine Ao (Aq 4 (k:=0) U U U U U Tz183) ?_;rintro _ _⟨rfl,rfl⟩;refine Et8 U ?_
  refine Ek3 0 9 348 U<|Cr<|Em U U<|Aa (Ad U) U<|Aa (Ab U fa186_12) U ?_
  refine Ao (Aq 4 (k:=1) U U U U U Tz3) ?_;rintro _ _⟨rfl,rfl⟩;refine Et8 U ?_
  refine Ek3 0 9 348 U<|Bb ?_
  have hwn:wr+n=32768:=by first|omega|(simp at g342;omega)
  obtain⟨wr5,full5,hW,hlen,hsz⟩:=WinSt.flush (gv:=gv) H2 (by omega) (by rw[Eu];omega) hfl
  have hs5:hsize wr full≤hsize (wr+n) full:=by unfold hsize;split<;>omega
  have hR5:R=run dt (.sym last t) (copyN (copyN out cd n) cd (cl-n)) p:=by rw[copyN_add,show n+(cl-n)=cl by omega];exact hR
  exact⟨rfl,_,_,_,_,_,_,_,rfl,.inl ⟨_,(fun h=>by rw[h]at hlen;simp at hlen;omega),p,q,nb,_,_,_,_,_,_,1,cl-n,cd,⟨hA,_,_,hB,rfl⟩,hnb,hW,rfl,.inr ⟨rfl,by omega,hcd1,by omega,hR5⟩⟩⟩
 refine Ak 342 U U<|Em U U<|Ak 342 U U<|Aa (Ad U) U<|Ak 342 U U<|Aa (Ab U Gv) U<|Ak 342 U U<|Ag (Aj 4 (k:=7) U U U Ta3) U<|Ak 342 U U<|Aa (Fh (b:=((0:Nat):Int)) U U) U<|Aa (Bk U U) U<|Ek3 0 9 348 U ?_
 refine Bf U (fun h348=>?_) (fun h348=>?_)
 ·refine Cr<|Em U U<|Em U U<|Aa (Ad U) U<|Aa (Ab U Fe) U ?_
  refine Ai (OpX.pick [5] (F:=(_::_::_::_::_::_::_)) U (Ar U Tryz.call95 (Fg fb 1037 hb (wr+n) rd full (by omega) (by omega)))) U ?_;rintro _ _⟨_,⟨Aw,hfl,rfl⟩,rfl⟩;refine Et8 U ?_
  refine Dd [1,1,1,1,1,0,0] U<|Et8 U<|Aa (Ad U) U<|Aa (Ab U Ge) U ?_
  refine Ao (Aq 4 (k:=4) U U U (Ji hfl) U Tz25) ?_;rintro _ _⟨rfl,rfl⟩;refine Et8 U ?_
  refine Ek3 0 9 348 U<|Cr<|Em U U<|Aa (Ad U) U<|Aa (Ab U Jb) U ?_
  refine Ao (Aq 4 (k:=0) U U U U U Tz183) ?_;rintro _ _⟨rfl,rfl⟩;refine Et8 U ?_
  refine Ek3 0 9 348 U<|Cr<|Em U U<|Aa (Ad U) U<|Aa (Ab U fa186_12) U ?_
  refine Ao (Aq 4 (k:=1) U U U U U Tz3) ?_;rintro _ _⟨rfl,rfl⟩;refine Et8 U ?_
  refine Ek3 0 9 348 U<|Bb ?_
  have hwn:wr+n=32768:=by first|omega|(simp at g342;omega)
  obtain⟨wr5,full5,hW,hlen,hsz⟩:=WinSt.flush (gv:=gv) H2 (by omega) (by rw[Eu];omega) hfl
  have hs5:hsize wr full≤hsize (wr+n) full:=by unfold hsize;split<;>omega
  have hR5:R=run dt (.sym last t) (copyN (copyN out cd n) cd (cl-n)) p:=by rw[copyN_add,show n+(cl-n)=cl by omega];exact hR
  exact⟨rfl,_,_,_,_,_,_,_,rfl,.inl ⟨_,(fun h=>by rw[h]at hlen;simp at hlen;omega),p,q,nb,_,_,_,_,_,_,1,cl-n,cd,⟨hA,_,_,hB,rfl⟩,hnb,hW,rfl,.inr ⟨rfl,by omega,hcd1,by omega,hR5⟩⟩⟩
 refine Ap<|C.goto U ?_
 have hncl:n=cl:=by first|omega|(simp at g342;omega)
 refine⟨_,?_,.inl ⟨rfl,p,q,b,nb,ro,f1,f2,f3,_,_,wr+n,rd,full,ss,cl-n,cd,rfl,rfl,hA,hB,hnb,hp0,H2,by omega,by first|omega|(simp at g342;omega),(by rw[Eu];omega),(hss.imp id fun h=>⟨h,by omega,hcd1,Nat.le_trans hcd2 (by unfold hsize;split<;>omega)⟩),(by rw[hncl];exact hR),rfl⟩⟩
 omega
set_option maxHeartbeats 1000000
def stored(D:List UInt8)(last:Bool)(n:Nat)(out:List UInt8)(q:Nat):ResR:=
  if D.length<q+n then(out++D.drop q,.bad)
  else if last then(out++(D.drop q).take n,.done (q+n))else run D .next (out++(D.drop q).take n) (8*(q+n))
theorem stored_step{D:List UInt8}{last:Bool}{n k:Nat}{out:List UInt8}{q:Nat}(hk:k≤n)(hq:q+k≤D.length):stored D last n out q=stored D last (n-k) (out++(D.drop q).take k) (q+k):=by
  unfold stored
  have e:q+k+(n-k)=q+n:=by omega
  have e2:(D.drop q).take k++(D.drop (q+k)).take (n-k)=(D.drop q).take n:=by
    rw[←List.drop_drop,←List.take_add,show k+(n-k)=n by omega]
  have e3:(D.drop q).take k++D.drop (q+k)=D.drop q:=by rw[←List.drop_drop,List.take_append_drop]
  rw[e,List.append_assoc,e3,List.append_assoc,e2]
def StorSt{K:Known}{ea:Fin 5→Addr}(src:Src K ea)(dt:List UInt8)(fb hb:Nat)(R:ResR)(gv:Nat)(pend:List UInt8)(q:Nat)(x1 x2 x3 A T W H:Frag):Prop:=
  ∃out trv h wr rd full ss last hl hd cl cd,HeadSt src dt fb (8*q) q 0 x1 x2 x3 A∧WinSt fb hb gv out pend trv h wr rd full W H∧T=ptF fb 97 ss last .nilIface trv hl hd cl cd∧(ss=0∨(ss=1∧1≤cd∧cd≤hsize wr full))∧cl≤65535∧R=stored dt last cl out q
def CdEnd{K:Known}{ea:Fin 5→Addr}(src:Src K ea)(dt:List UInt8)(fb hb:Nat)(R:ResR)(gv p0:Nat)(L:Frags):Prop:=
  ∃y1 y2 y3 A T W H,L=[y1,y2,y3,A,T,W,H]∧((∃pend q,pend≠[]∧StorSt src dt fb hb R gv pend q y1 y2 y3 A T W H)∨(∃p2,p0≤p2∧NextSt src dt fb hb R gv [] p2 y1 y2 y3 A T W H)∨∃pend,EndSt src dt fb hb R gv pend y1 y2 y3 A T W H)
theorem bad_full{l:List UInt8}{m:Nat}(h:Dg l m≠.none):Bad5 (noEof (Dg l m))∧l.length<m:=by
  unfold Dg at h⊢
  split at h
  · exact absurd U h
  · rename_i h1
    rw[if_neg h1]
    split
    · exact⟨⟨rfl,Dw (by simp)⟩,by omega⟩
    · exact⟨⟨rfl,Dw (by simp)⟩,by omega⟩
theorem full_none{l:List UInt8}{m:Nat}(h:Dg l m=.none):m≤l.length:=by
  unfold Dg at h
  split at h
  · assumption
  · split at h<;>cases h
theorem win_join(h l:List UInt8)(wr m:Nat)(hl:h.length=32768)(hm:wr+m≤32768):
    h.take wr++(l.take m++(((h.drop wr).take m).drop (Nat.min m l.length)++h.drop (wr+m)))=h.take wr++l.take m++h.drop (wr+(l.take m).length):=by
  rw[List.append_assoc]
  congr 2
  have e:(l.take m).length=Nat.min m l.length:=List.length_take
  have h1:Nat.min m l.length≤m:=Nat.min_le_left _ _
  rw[e,←List.drop_drop,←List.drop_drop]
  conv=>rhs;rw[←List.take_append_drop m (h.drop wr)]
  rw[List.drop_append_of_le_length]
  rw[List.length_take,List.length_drop];omega
theorem win_cut(h:List UInt8)(wr m:Nat):bytesV h=([bytesV (h.take wr),bytesV ((h.drop wr).take m),bytesV (h.drop (wr+m))]:List (List Value)).flatten:=by
  simp only[List.flatten_cons,List.flatten_nil,List.append_nil]
  rw[←Ei,←Ei,←List.drop_drop,List.take_append_drop,List.take_append_drop]
theorem win_ok(h:List UInt8)(wr m:Nat)(hl:h.length=32768)(hm:wr+m≤32768):Gw 0 [(0,bytesV (h.take wr)),(wr,bytesV ((h.drop wr).take m)),(wr+m,bytesV (h.drop (wr+m)))]:=by
  simp[Gw,Bh];omega
theorem win_glue(hb wr m:Nat)(h l:List UInt8)(F:Frags)(hl:h.length=32768)(hm:wr+m≤32768):
    Same ([⟨hb,0,bytesV (h.take wr)⟩,⟨hb,wr,bytesV (l.take m)++(bytesV ((h.drop wr).take m)).drop (Nat.min m l.length)⟩,⟨hb,wr+m,bytesV (h.drop (wr+m))⟩]++F) (⟨hb,0,bytesV (h.take wr++l.take m++h.drop (wr+(l.take m).length))⟩::F):=by
  have e:bytesV (h.take wr++l.take m++h.drop (wr+(l.take m).length))=([bytesV (h.take wr),bytesV (l.take m)++(bytesV ((h.drop wr).take m)).drop (Nat.min m l.length),bytesV (h.drop (wr+m))]:List (List Value)).flatten:=by
    simp only[List.flatten_cons,List.flatten_nil,List.append_nil]
    rw[←win_join h l wr m hl hm,←bytesV_drop,←Ei,←Ei,←Ei,List.append_assoc]
  rw[e]
  refine(Same.chunks hb F [(0,bytesV (h.take wr)),(wr,bytesV (l.take m)++(bytesV ((h.drop wr).take m)).drop (Nat.min m l.length)),(wr+m,bytesV (h.drop (wr+m)))] 0 ?_).symm
  have:Nat.min m l.length≤m:=Nat.min_le_left _ _
  have e1:(l.take m).length=Nat.min m l.length:=List.length_take
  simp[Gw,Bh,e1];omega
theorem copyData_spec{K:Known}{ea:Fin 5→Addr}(hs:Sents K ea)(src:Src K ea)(dt:List UInt8)(fb hb:Nat)(R:ResR)(gv:Nat)(last:Bool)(hlv hdv:Value)(stp:Nat)(a0:Option Addr)(c0:Nat)(trv:Value)(htr:trv=.slice a0 0 c0)(x1 x2 x3:Frag)(q:Nat)(ro:Int)(out h:List UInt8)(wr rd:Nat)(full:Bool)(ss cl cd:Nat)(hA:src.At (dt.drop q) x1 x2 x3)(hq:q≤dt.length)(H:Hist h wr full out)(hrd:rd≤wr)(hwr:wr<32768)(hsum:gv+(wr-rd)=out.length)(hss:ss=0∨(ss=1∧1≤cd∧cd≤hsize wr full))(hcl:cl≤65535)(hR:R=stored dt last cl out q):Fn Tryz.prog K 97 #[.pointer (some ⟨fb,0,none⟩)] ([x1,x2,x3,⟨fb,0,[.iface src.t src.v,.pointer none,.int .i64 (ro),.int .u32 0,.int .u64 0]⟩,⟨fb,1045,[.func (.func stp) #[] #[],.int .i64 (((ss):Nat):Int),.bool last,.nilIface,trv,hlv,hdv,.int .i64 (((cl):Nat):Int),.int .i64 (((cd):Nat):Int)]⟩,⟨fb,1037,[.slice (some ⟨hb,0,none⟩) 32768 32768,.int .i64 (((wr):Nat):Int),.int .i64 (((rd):Nat):Int),.bool full]⟩,⟨hb,0,bytesV (h)⟩]) (fun r L=>r=.tuple #[]∧CdEnd src dt fb hb R gv (8*q) L):=by
 refine Fn.intro (args:=[.pointer (some ⟨fb,0,none⟩)]) (RR:=Ret0 _) Tryz.func97 rfl rfl Tryz.ntmps97 (res0 Tryz.results97) ?_
 refine Bi (env2:=[(0,.pointer (some ⟨fb,0,none⟩))]) U<|Cr<|Em U U<|Aa (Ad U) U<|Aa (Ab U Fe) U ?_
 refine Ai (OpX.pick [5] (F:=[_,_,_,_,_,_]) U (Ar U Tryz.call107 (writeSlice_spec fb 1037 hb wr rd full hwr))) U ?_;rintro _ _⟨_,⟨rfl,rfl⟩,rfl⟩;refine Er7 U ?_
 refine Dd [1,1,1,1,1,0,0] U<|Er7 U<|Ea U U<|Ek2 0 2 U<|Du (M:=fun ee ll=>∃(m:Nat),∃(mc:Nat),keeps ee [0,2]=some [(0,.pointer (some ⟨fb,0,none⟩)),(2,.slice (some ⟨hb,wr,none⟩) m mc)]∧ll=[x1,x2,x3,⟨fb,0,[.iface src.t src.v,.pointer none,.int .i64 (ro),.int .u32 0,.int .u64 0]⟩,⟨fb,1045,[.func (.func stp) #[] #[],.int .i64 (((ss):Nat):Int),.bool last,.nilIface,trv,hlv,hdv,.int .i64 (((cl):Nat):Int),.int .i64 (((cd):Nat):Int)]⟩,⟨fb,1037,[.slice (some ⟨hb,0,none⟩) 32768 32768,.int .i64 (((wr):Nat):Int),.int .i64 (((rd):Nat):Int),.bool full]⟩,⟨hb,0,bytesV (h)⟩]∧(m≤cl)∧(m≤32768-wr)∧(m=cl∨m=32768-wr)∧(m≤mc)) ?_ ?_
 ·refine Cr<|Em U U<|Aa (Bc U Tu25) U<|Em U U<|Aa (Ad U) U<|Aa (Ab U Gv) U<|Ag (Aj 4 (k:=7) U U U Ta3) U<|Aa (Fh U U) U<|Ek3 0 2 15 U<|Bf U (fun h15=>?_) (fun h15=>?_)
  ·refine Al<|Em U U<|Em U U<|Aa (Ad U) U<|Aa (Ab U Gv) U<|Ag (Aj 4 (k:=7) U U U Ta3) U<|Aa (S.slH U U (by omega) Tu25 Tz5) U<|Ea U U<|Ek3 0 2 15 U ?_
   exact⟨cl,32768-wr,rfl,rfl,by omega,by omega,.inl U,by omega⟩
  refine Ap ?_
  exact⟨32768-wr,32768-wr,rfl,rfl,by omega,by omega,.inr U,by omega⟩
 rintro _ _⟨m,mc,hq3,rfl,hm1,hm2,hm3,hmc⟩
 refine Av _ hq3<|Am<|Hv [6] U<|Bx (L2:=⟨hb,0,bytesV h⟩::[x1,x2,x3,⟨fb,0,[.iface src.t src.v,.pointer none,.int .i64 (ro),.int .u32 0,.int .u64 0]⟩,⟨fb,1045,[.func (.func stp) #[] #[],.int .i64 (((ss):Nat):Int),.bool last,.nilIface,trv,hlv,hdv,.int .i64 (((cl):Nat):Int),.int .i64 (((cd):Nat):Int)]⟩,⟨fb,1037,[.slice (some ⟨hb,0,none⟩) 32768 32768,.int .i64 (((wr):Nat):Int),.int .i64 (((rd):Nat):Int),.bool full]⟩]) U<|Bx (L2:=⟨hb,0,([bytesV (h.take wr),bytesV ((h.drop wr).take m),bytesV (h.drop (wr+m))]:List (List Value)).flatten⟩::[x1,x2,x3,⟨fb,0,[.iface src.t src.v,.pointer none,.int .i64 (ro),.int .u32 0,.int .u64 0]⟩,⟨fb,1045,[.func (.func stp) #[] #[],.int .i64 (((ss):Nat):Int),.bool last,.nilIface,trv,hlv,hdv,.int .i64 (((cl):Nat):Int),.int .i64 (((cd):Nat):Int)]⟩,⟨fb,1037,[.slice (some ⟨hb,0,none⟩) 32768 32768,.int .i64 (((wr):Nat):Int),.int .i64 (((rd):Nat):Int),.bool full]⟩]) (by rw[win_cut h wr m])<|Ga (Same.chunks hb [x1,x2,x3,⟨fb,0,[.iface src.t src.v,.pointer none,.int .i64 (ro),.int .u32 0,.int .u64 0]⟩,⟨fb,1045,[.func (.func stp) #[] #[],.int .i64 (((ss):Nat):Int),.bool last,.nilIface,trv,hlv,hdv,.int .i64 (((cl):Nat):Int),.int .i64 (((cd):Nat):Int)]⟩,⟨fb,1037,[.slice (some ⟨hb,0,none⟩) 32768 32768,.int .i64 (((wr):Nat):Int),.int .i64 (((rd):Nat):Int),.bool full]⟩] [(0,bytesV (h.take wr)),(wr,bytesV ((h.drop wr).take m)),(wr+m,bytesV (h.drop (wr+m)))] 0 (win_ok h wr m H.len (by omega)))<|Bx (L2:=[⟨hb,0,bytesV (h.take wr)⟩,⟨hb,wr,bytesV ((h.drop wr).take m)⟩,⟨hb,wr+m,bytesV (h.drop (wr+m))⟩,x1,x2,x3,⟨fb,0,[.iface src.t src.v,.pointer none,.int .i64 (ro),.int .u32 0,.int .u64 0]⟩,⟨fb,1045,[.func (.func stp) #[] #[],.int .i64 (((ss):Nat):Int),.bool last,.nilIface,trv,hlv,hdv,.int .i64 (((cl):Nat):Int),.int .i64 (((cd):Nat):Int)]⟩,⟨fb,1037,[.slice (some ⟨hb,0,none⟩) 32768 32768,.int .i64 (((wr):Nat):Int),.int .i64 (((rd):Nat):Int),.bool full]⟩]) U<|Al<|Em U U<|Aa (Ad U) U<|Aa (Ab U fa186_0) U<|Ag (Aj 6 (k:=0) U U U Ta94) U ?_
 refine Em U U ?_
 refine Ai (OpX.pick [3,3,3,1] (F:=[_,_,_,_,_]) U (Ar U Tryz.call56 (Gh hs src (dt.drop q) x1 x2 x3 hb wr m mc (bytesV ((h.drop wr).take m)) hA (by rw[Bh,List.length_take,List.length_drop,H.len];omega) hmc (by omega)))) U ?_;rintro _ _⟨_,⟨f1,f2,f3,hF,rfl,rfl⟩,rfl⟩;refine Er9 U ?_
 refine Em U U<|Aa (Bg U U) U<|Aa (Bg U U) U<|Ea U U<|Ea U U<|Ek4 0 2 3 4 U<|Hv [4,3,3] U<|Ga (win_glue hb wr m h (dt.drop q) [f1,f2,f3,⟨fb,0,[.iface src.t src.v,.pointer none,.int .i64 (ro),.int .u32 0,.int .u64 0]⟩,⟨fb,1045,[.func (.func stp) #[] #[],.int .i64 (((ss):Nat):Int),.bool last,.nilIface,trv,hlv,hdv,.int .i64 (((cl):Nat):Int),.int .i64 (((cd):Nat):Int)]⟩,⟨fb,1037,[.slice (some ⟨hb,0,none⟩) 32768 32768,.int .i64 (((wr):Nat):Int),.int .i64 (((rd):Nat):Int),.bool full]⟩] H.len (by omega))<|Hv [1,1,1,1,1,1] U<|Bx (L2:=[f1,f2,f3,⟨fb,0,[.iface src.t src.v,.pointer none,.int .i64 (ro),.int .u32 0,.int .u64 0]⟩,⟨fb,1045,[.func (.func stp) #[] #[],.int .i64 (((ss):Nat):Int),.bool last,.nilIface,trv,hlv,hdv,.int .i64 (((cl):Nat):Int),.int .i64 (((cd):Nat):Int)]⟩,⟨fb,1037,[.slice (some ⟨hb,0,none⟩) 32768 32768,.int .i64 (((wr):Nat):Int),.int .i64 (((rd):Nat):Int),.bool full]⟩,⟨hb,0,bytesV (h.take wr++(dt.drop q).take m++h.drop (wr+((dt.drop q).take m).length))⟩]) U ?_
 have hdl:(dt.drop q).length=dt.length-q:=List.length_drop
 have hxl:((dt.drop q).take m).length=Nat.min m (dt.drop q).length:=List.length_take
 have hmn1:Nat.min m (dt.drop q).length≤m:=Nat.min_le_left _ _
 have hHW:=H.write ((dt.drop q).take m) (by rw[hxl];omega)
 refine Cr<|Em U U<|Aa (Ad U) U<|Aa (Ab U Ff) U<|Ag (Aj 3 (k:=2) U U U Ta2) U<|Em U U<|Aa (Bl U U U) U<|Aa (Ad U) U<|Aa (Ab U Ff) U ?_
 refine Ao (Aq 3 (k:=2) U U U U U Tz2) ?_;rintro _ _⟨rfl,rfl⟩;refine Er7 U ?_
 refine Ek4 0 2 3 4 U<|Cr<|Em U U<|Aa (Ad U) U<|Aa (Ab U Gv) U<|Ag (Aj 4 (k:=7) U U U Ta3) U<|Em U U<|Aa (Dr U U (N.sub64 (by omega) (by omega))) U<|Aa (Ad U) U<|Aa (Ab U Gv) U ?_
 refine Ao (Aq 4 (k:=7) U U U U U Tz3) ?_;rintro _ _⟨rfl,rfl⟩;refine Er7 U ?_
 refine Ek4 0 2 3 4 U<|Cr<|Em U U<|Aa (Ad U) U<|Aa (Ab U Fe) U<|Em U U ?_
 refine Ai (OpX.pick [5] (F:=[_,_,_,_,_,_]) U (Ar U Tryz.call108 (writeMark_spec fb 1037 hb wr rd full (by omega) _ (by omega)))) U ?_;rintro _ _⟨_,⟨rfl,rfl⟩,rfl⟩;refine Er7 U ?_
 refine Dd [1,1,1,1,1,0,0] U<|Er7 U<|Ek4 0 2 3 4 U<|Am<|Cr<|Em U U<|Ag (Df U) U<|Ek5 0 2 3 4 53 U<|Dn U (fun h53=>?_) (fun h53=>?_)
 ·obtain⟨hbf,hlt⟩:=bad_full h53
  have hmn:Nat.min m (dt.drop q).length=(dt.drop q).length:=Nat.min_eq_right (by omega)
  have HW:=hHW
  rw[hxl]at HW
  rw[hxl]
  refine Cr<|Em U U<|Em U U ?_
  refine Ai (OpX.pick [] (F:=[_,_,_,_,_,_,_]) U (Ar U Tryz.call94 (flate_noEOF (L:=[]) hs _))) U ?_;rintro _ _⟨_,⟨rfl,rfl⟩,rfl⟩;refine Er7 U ?_
  refine Aa (Ad U) U<|Aa (Ab U Ee) U ?_
  refine Ao (Aq 4 (k:=3) U U U (one_er _) U Tz58) ?_;rintro _ _⟨rfl,rfl⟩;refine Er7 U ?_
  refine Ek5 0 2 3 4 53 U<|Bb ?_
  refine⟨rfl,_,_,_,_,_,_,_,rfl,.inr (.inr ⟨[],_,.bad,_,trv,_,_,rd,full,.inr ⟨rfl,hbf,_,hF⟩,⟨_,_,_,rfl⟩,⟨HW,by omega,by omega,by simp only[List.length_nil,List.length_append];omega,by simp,by rw[htr];exact TR.nil _ _ _ _,rfl,rfl⟩,⟨_,_,_,_,_,_,_,rfl⟩,?_,.inl U⟩)⟩
  rw[hR,stored,if_pos (by omega),List.take_of_length_le (by omega)]
 have hge:=full_none h53
 have hmn:Nat.min m (dt.drop q).length=m:=Nat.min_eq_left hge
 rw[hmn]at hxl
 have HW:=hHW
 rw[hxl]at HW
 rw[hxl,hmn]
 rw[List.drop_drop]at hF
 refine Ap<|Am<|Cr<|Em U U<|Aa (Ad U) U<|Aa (Ab U Fe) U ?_
 refine Ai (OpX.pick [5] (F:=[_,_,_,_,_,_]) U (Ar U Tryz.call101 (availWrite_spec fb 1037 hb (wr+m) rd full (by omega) (by omega)))) U ?_;rintro _ _⟨_,⟨rfl,rfl⟩,rfl⟩;refine Er7 U ?_
 refine Dd [1,1,1,1,1,0,0] U<|Er7 U<|Aa (Ef (b:=((0:Nat):Int)) U U) U<|Em U U<|Ek (fun g64=>?_) (fun g64=>?_)
 ·refine Ae 64 true U U U U<|Ae 64 true U U U U<|Ae 64 true U U U U<|Ae 64 true U U U U<|Ae 64 true U U U U<|Aa (Bz U U) U<|Ek6 0 2 3 4 53 70 U<|He U (rfl)<|Cr<|Em U U<|Em U U<|Aa (Ad U) U ?_
  refine Aa (Ab U Fe) U ?_
  refine Ai (OpX.pick [5] (F:=[_,_,_,_,_,_]) U (Ar U Tryz.call95 (Fg fb 1037 hb (wr+m) rd full (by omega) (by omega)))) U ?_;rintro _ _⟨_,⟨Aw,hfl,rfl⟩,rfl⟩;refine Er7 U ?_
  refine Dd [1,1,1,1,1,0,0] U<|Er7 U<|Aa (Ad U) U<|Aa (Ab U Ge) U ?_
  refine Ao (Aq 4 (k:=4) U U U (Ji hfl) U Tz25) ?_;rintro _ _⟨rfl,rfl⟩;refine Er7 U ?_
  refine Ek6 0 2 3 4 53 70 U<|Cr<|Em U U<|Aa (Ad U) U<|Aa (Ab U Jb) U ?_
  refine Ao (Aq 4 (k:=0) U U U U U Tz183) ?_;rintro _ _⟨rfl,rfl⟩;refine Er7 U ?_
  refine Ek6 0 2 3 4 53 70 U<|Bb ?_
  have hR2:=hR.trans (stored_step (k:=m) hm1 (by omega))
  have hwm:wr+m=32768:=by omega
  obtain⟨wr5,full5,hW,hlen,hsz⟩:=WinSt.flush (gv:=gv) HW (by omega) (by rw[List.length_append];omega) hfl
  have hs5:hsize wr full≤hsize (wr+m) full:=by unfold hsize;split<;>omega
  exact⟨rfl,_,_,_,_,_,_,_,rfl,.inl ⟨_,q+m,(fun h=>by rw[h]at hlen;simp at hlen;omega),_,_,_,wr5,wr5,full5,ss,last,hlv,hdv,cl-m,cd,⟨hF,0,_,BitsIn.start dt (by omega),rfl⟩,hW,rfl,hss.imp id (fun h=>⟨h.1,h.2.1,by omega⟩),by omega,hR2⟩⟩
 refine Ak 64 U U<|Em U U<|Ak 64 U U<|Aa (Ad U) U<|Ak 64 U U<|Aa (Ab U Gv) U<|Ak 64 U U<|Ag (Aj 4 (k:=7) U U U Ta3) U<|Ak 64 U U<|Aa (Fh (b:=((0:Nat):Int)) U U) U<|Aa (Bk U U) U<|Ek6 0 2 3 4 53 70 U ?_
 refine Bf U (fun h70=>?_) (fun h70=>?_)
 ·refine Cr<|Em U U<|Em U U<|Aa (Ad U) U<|Aa (Ab U Fe) U ?_
  refine Ai (OpX.pick [5] (F:=[_,_,_,_,_,_]) U (Ar U Tryz.call95 (Fg fb 1037 hb (wr+m) rd full (by omega) (by omega)))) U ?_;rintro _ _⟨_,⟨Aw,hfl,rfl⟩,rfl⟩;refine Er7 U ?_
  refine Dd [1,1,1,1,1,0,0] U<|Er7 U<|Aa (Ad U) U<|Aa (Ab U Ge) U ?_
  refine Ao (Aq 4 (k:=4) U U U (Ji hfl) U Tz25) ?_;rintro _ _⟨rfl,rfl⟩;refine Er7 U ?_
  refine Ek6 0 2 3 4 53 70 U<|Cr<|Em U U<|Aa (Ad U) U<|Aa (Ab U Jb) U ?_
  refine Ao (Aq 4 (k:=0) U U U U U Tz183) ?_;rintro _ _⟨rfl,rfl⟩;refine Er7 U ?_
  refine Ek6 0 2 3 4 53 70 U<|Bb ?_
  have hR2:=hR.trans (stored_step (k:=m) hm1 (by omega))
  have hwm:wr+m=32768:=by omega
  obtain⟨wr5,full5,hW,hlen,hsz⟩:=WinSt.flush (gv:=gv) HW (by omega) (by rw[List.length_append];omega) hfl
  have hs5:hsize wr full≤hsize (wr+m) full:=by unfold hsize;split<;>omega
  exact⟨rfl,_,_,_,_,_,_,_,rfl,.inl ⟨_,q+m,(fun h=>by rw[h]at hlen;simp at hlen;omega),_,_,_,wr5,wr5,full5,ss,last,hlv,hdv,cl-m,cd,⟨hF,0,_,BitsIn.start dt (by omega),rfl⟩,hW,rfl,hss.imp id (fun h=>⟨h.1,h.2.1,by omega⟩),by omega,hR2⟩⟩
 refine Ap<|Al<|Em U U ?_
 refine Ai (OpX.pick [5,4] (F:=[_,_,_,_,_]) U (Ar U Tryz.call96 (finishBlock_spec hs fb hb (wr+m) rd full last (by omega) (by omega) _ _ _ _ _ _ _ _))) U ?_;rintro _ _⟨_,⟨rfl,ev2,tr2,Aw,rfl,hfin⟩,rfl⟩;refine Er7 U ?_
 refine Dd [2,2,2,2,1,0,0] U<|Er7 U<|Ek6 0 2 3 4 53 70 U ?_
 have hR2:=hR.trans (stored_step (k:=m) hm1 (by omega))
 have hmc:m=cl:=by omega
 have hwm:wr+m<32768:=by omega
 subst hmc
 rw[Nat.sub_self]at hR2
 have hs5:hsize wr full≤hsize (wr+m) full:=by unfold hsize;split<;>omega
 unfold stored at hR2
 rw[if_neg (by omega),List.take_zero,List.append_nil,Nat.add_zero]at hR2
 rcases hfin with⟨hl5,rfl,rfl,rfl⟩|⟨hl5,rfl,⟨h1,rfl,rfl⟩|⟨_,hfl⟩⟩
 · rw[hl5]at hR2
   refine⟨rfl,_,_,_,_,_,_,_,rfl,.inr (.inl ⟨8*(q+m),by omega,q+m,0,_,_,_,wr+m,rd,full,ss,last,_,_,m-m,cd,⟨hF,0,_,BitsIn.start dt (by omega),rfl⟩,by omega,⟨HW,by omega,hwm,by simp only[List.length_nil,List.length_append];omega,by simp,by rw[htr];exact TR.nil _ _ _ _,rfl,rfl⟩,rfl,hss.imp id (fun h=>⟨h.1,by omega,h.2.1,by omega⟩),hR2⟩)⟩
 · rw[hl5,if_pos rfl]at hR2
   exact⟨rfl,_,_,_,_,_,_,_,rfl,.inr (.inr ⟨[],_,_,.eof,_,_,wr+m,rd,full,.inl ⟨q+m,rfl,rfl,by omega,hF⟩,⟨_,_,_,rfl⟩,⟨HW,by omega,hwm,by simp only[List.length_nil,List.length_append];omega,by simp,by rw[htr];exact TR.nil _ _ _ _,rfl,rfl⟩,⟨_,_,_,_,_,_,_,rfl⟩,hR2,.inl U⟩)⟩
 · rw[hl5,if_pos rfl]at hR2
   obtain⟨wr5,full5,hW,hlen,hsz⟩:=WinSt.flush (gv:=gv) HW (by omega) (by rw[List.length_append];omega) hfl
   exact⟨rfl,_,_,_,_,_,_,_,rfl,.inr (.inr ⟨_,_,_,.eof,_,_,wr5,wr5,full5,.inl ⟨q+m,rfl,rfl,by omega,hF⟩,⟨_,_,_,rfl⟩,hW,⟨_,_,_,_,_,_,_,rfl⟩,hR2,.inr U⟩)⟩
set_option maxHeartbeats 1000000
theorem zc288:(Value.agg Tryz.zeroCells205).cells.toList=cellsI 288 (fun _=>0):=by kernel_rfl
theorem zcHufL:(Value.agg Tryz.zeroCells177).cells.toList=hufZ:=by rw[zcHuf]
def fixv(i:Nat):Nat:=if i<144 then 8 else if i<256 then 9 else if i<280 then 7 else 8
def fixTo(k i:Nat):Nat:=if i<k then fixv i else 0
theorem fix_zero:cellsI 288 (fun _=>0)=cellsI 288 (fixTo 0):=Ht fun o _=>by simp[fixTo]
theorem fix_next{k v:Nat}(hv:fixv k=v):(cellsI 288 (fixTo k)).set (k*1) (.int .i64 ((v:Nat):Int))=cellsI 288 (fixTo (k+1)):=
  Hj (by rw[fixTo,if_pos (by omega),hv]) fun o _ hne=>by
    unfold fixTo
    by_cases h:o<k
    · rw[if_pos h,if_pos (by omega)]
    · rw[if_neg h,if_neg (by omega)]
theorem fix_full:cellsI 288 (fixTo 288)=intsV fixLit++[]:=by
  rw[List.append_nil]
  have e:fixLit=(List.range 288).map fixv:=by decide+kernel
  rw[e,intsV,List.map_map,cellsI]
  refine List.map_congr_left fun i hi=>?_
  have:=List.mem_range.1 hi
  simp[fixTo,this]
theorem fix_ok:okLens fixLit:=by decide+kernel
theorem fix_min:minL fixLit=7:=by decide+kernel
theorem fix_15:∀x∈fixLit,x≤15:=by decide+kernel
theorem fix_lenL:fixLit.length=288:=by decide+kernel
theorem fixedHuffman_walk{K:Known}:Fn Tryz.prog K 91 #[] ([]) (fun r L=>∃qb L1 J,r=.pointer (some ⟨qb,0,none⟩)∧HufT fixLit 7 qb 0 L1∧Same L (L1++J)):=by
 refine Fn.intro (args:=[]) (RR:=Ret1 0 _) Tryz.func91 rfl rfl Tryz.ntmps91 (res1 Tryz.results91) ?_
 refine Bi (env2:=[]) U<|Cr<|Ea U U<|Ek1 0 U<|Cr ?_
 refine Ai (Dq Tryz.zeroValue205) U ?_;rintro _ _⟨b1,rfl,rfl⟩;refine Er1 U ?_
 refine Ax (L2:=[⟨b1,0,cellsI 288 (fixTo (0))⟩]) (by rw[zc288,fix_zero])<|Ek2 0 1 U<|Am<|Cr<|Ea U U<|Ek3 0 1 2 U<|As<|Bw (fun mm ee ll=>∃(k:Nat),keeps ee [1,2]=some [(1,.pointer (some ⟨b1,0,none⟩)),(2,.int .i64 ((k:Nat):Int))]∧ll=[⟨b1,0,cellsI 288 (fixTo (k))⟩]∧(0≤k)∧(k≤144)∧mm=144-k) (_) ⟨0,rfl,rfl,by omega,by omega,rfl⟩ ?_
 rintro m0 _ _⟨k,hk0,rfl,hj1,hj2,hm0⟩
 refine Av _ hk0<|Am<|Cr<|Em U U<|Aa (Dl (b:=((144:Nat):Int)) U U) U<|Ek3 1 2 8 U<|Bf U (fun h8=>?_) (fun h8=>?_)
 ·refine Ap<|Am<|As<|Al<|Em U U<|Aa (Bj U U (by omega) Tu205 Tz3) U ?_
  refine Ao (Aq 0 (k:=k*1) U U U U (by rw[Nat.blt_eq,Dk];omega) Tz3) ?_
  rintro _ _⟨rfl,rfl⟩
  refine Ax (L2:=[⟨b1,0,cellsI 288 (fixTo (k+1))⟩]) (congrArg (fun x=>([⟨b1,0,x⟩]:Frags)) (fix_next (v:=8) (by unfold fixv;repeat (first|rw[if_pos (by omega)]|rw[if_neg (by omega)])))) ?_
  refine Ek3 1 2 8 U<|Al<|Em U U<|Aa (Bl (b:=((1:Nat):Int)) U U (N.add64 (by omega))) U<|Ea U U<|Ek3 1 2 8 U ?_
  refine⟨_,?_,k+1,rfl,rfl,by omega,by omega,rfl⟩;omega
 have hk:k=144:=by omega
 subst hk
 refine Bu U<|Am<|Cr<|Ea U U<|Ek4 1 2 3 8 U<|As<|Bw (fun mm ee ll=>∃(k:Nat),keeps ee [1,3]=some [(1,.pointer (some ⟨b1,0,none⟩)),(3,.int .i64 ((k:Nat):Int))]∧ll=[⟨b1,0,cellsI 288 (fixTo (k))⟩]∧(144≤k)∧(k≤256)∧mm=256-k) (_) ⟨144,rfl,rfl,by omega,by omega,rfl⟩ ?_
 rintro m1 _ _⟨k,hk1,rfl,hj1,hj2,hm1⟩
 refine Av _ hk1<|Am<|Cr<|Em U U<|Aa (Dl (b:=((256:Nat):Int)) U U) U<|Ek3 1 3 14 U<|Bf U (fun h14=>?_) (fun h14=>?_)
 ·refine Ap<|Am<|As<|Al<|Em U U<|Aa (Bj U U (by omega) Tu205 Tz3) U ?_
  refine Ao (Aq 0 (k:=k*1) U U U U (by rw[Nat.blt_eq,Dk];omega) Tz3) ?_
  rintro _ _⟨rfl,rfl⟩
  refine Ax (L2:=[⟨b1,0,cellsI 288 (fixTo (k+1))⟩]) (congrArg (fun x=>([⟨b1,0,x⟩]:Frags)) (fix_next (v:=9) (by unfold fixv;repeat (first|rw[if_pos (by omega)]|rw[if_neg (by omega)])))) ?_
  refine Ek3 1 3 14 U<|Al<|Em U U<|Aa (Bl (b:=((1:Nat):Int)) U U (N.add64 (by omega))) U<|Ea U U<|Ek3 1 3 14 U ?_
  refine⟨_,?_,k+1,rfl,rfl,by omega,by omega,rfl⟩;omega
 have hk:k=256:=by omega
 subst hk
 refine Bu U<|Am<|Cr<|Ea U U<|Ek4 1 3 4 14 U<|As<|Bw (fun mm ee ll=>∃(k:Nat),keeps ee [1,4]=some [(1,.pointer (some ⟨b1,0,none⟩)),(4,.int .i64 ((k:Nat):Int))]∧ll=[⟨b1,0,cellsI 288 (fixTo (k))⟩]∧(256≤k)∧(k≤280)∧mm=280-k) (_) ⟨256,rfl,rfl,by omega,by omega,rfl⟩ ?_
 rintro m2 _ _⟨k,hk2,rfl,hj1,hj2,hm2⟩
 refine Av _ hk2<|Am<|Cr<|Em U U<|Aa (Dl (b:=((280:Nat):Int)) U U) U<|Ek3 1 4 20 U<|Bf U (fun h20=>?_) (fun h20=>?_)
 ·refine Ap<|Am<|As<|Al<|Em U U<|Aa (Bj U U (by omega) Tu205 Tz3) U ?_
  refine Ao (Aq 0 (k:=k*1) U U U U (by rw[Nat.blt_eq,Dk];omega) Tz3) ?_
  rintro _ _⟨rfl,rfl⟩
  refine Ax (L2:=[⟨b1,0,cellsI 288 (fixTo (k+1))⟩]) (congrArg (fun x=>([⟨b1,0,x⟩]:Frags)) (fix_next (v:=7) (by unfold fixv;repeat (first|rw[if_pos (by omega)]|rw[if_neg (by omega)])))) ?_
  refine Ek3 1 4 20 U<|Al<|Em U U<|Aa (Bl (b:=((1:Nat):Int)) U U (N.add64 (by omega))) U<|Ea U U<|Ek3 1 4 20 U ?_
  refine⟨_,?_,k+1,rfl,rfl,by omega,by omega,rfl⟩;omega
 have hk:k=280:=by omega
 subst hk
 refine Bu U<|Am<|Cr<|Ea U U<|Ek4 1 4 5 20 U<|As<|Bw (fun mm ee ll=>∃(k:Nat),keeps ee [1,5]=some [(1,.pointer (some ⟨b1,0,none⟩)),(5,.int .i64 ((k:Nat):Int))]∧ll=[⟨b1,0,cellsI 288 (fixTo (k))⟩]∧(280≤k)∧(k≤288)∧mm=288-k) (_) ⟨280,rfl,rfl,by omega,by omega,rfl⟩ ?_
 rintro m3 _ _⟨k,hk3,rfl,hj1,hj2,hm3⟩
 refine Av _ hk3<|Am<|Cr<|Em U U<|Aa (Dl (b:=((288:Nat):Int)) U U) U<|Ek3 1 5 26 U<|Bf U (fun h26=>?_) (fun h26=>?_)
 ·refine Ap<|Am<|As<|Al<|Em U U<|Aa (Bj U U (by omega) Tu205 Tz3) U ?_
  refine Ao (Aq 0 (k:=k*1) U U U U (by rw[Nat.blt_eq,Dk];omega) Tz3) ?_
  rintro _ _⟨rfl,rfl⟩
  refine Ax (L2:=[⟨b1,0,cellsI 288 (fixTo (k+1))⟩]) (congrArg (fun x=>([⟨b1,0,x⟩]:Frags)) (fix_next (v:=8) (by unfold fixv;repeat (first|rw[if_pos (by omega)]|rw[if_neg (by omega)])))) ?_
  refine Ek3 1 5 26 U<|Al<|Em U U<|Aa (Bl (b:=((1:Nat):Int)) U U (N.add64 (by omega))) U<|Ea U U<|Ek3 1 5 26 U ?_
  refine⟨_,?_,k+1,rfl,rfl,by omega,by omega,rfl⟩;omega
 have hk:k=288:=by omega
 subst hk
 refine Bu U<|Cr ?_
 refine Ai (Dq Tryz.zeroValue177) U ?_;rintro _ _⟨b31,rfl,rfl⟩;refine Er2 U ?_
 refine Ax (L2:=[⟨b31,0,.int .i64 ((0:Nat):Int)::(cellsU 512 (fun _=>0)++[.slice none 0 0,.int .u32 0])⟩,⟨b1,0,intsV fixLit++[]⟩]) (by rw[zcHufL,←fix_full];rfl) ?_
 refine Ea U U<|Ek4 1 5 6 26 U<|Cr<|Em U U<|Aa (Fo (l:=0) (k:=.i64) (h:=288) (k':=.i64) U U U (by omega) (by omega) Tu205 Tz3) U ?_
 refine An (v:=.slice (some ⟨b1,0,none⟩) (fixLit.length) (fixLit.length)) (by rw[fix_lenL];rfl) ?_
 refine Ai (Ar U Tryz.call98 (init_walk b31 0 b1 0 fixLit.length 0 (cellsU 512 (fun _=>0)++[.slice none 0 0,.int .u32 0]) [] fixLit (by simp[Es]) (fun _=>rfl) fix_15 (by rw[fix_lenL];decide))) U ?_
 rintro rI LI hI
 refine Ek4 1 5 6 26 U<|Cr<|Em U U<|Ea U U<|Ek5 0 1 5 6 26 U<|Bb ?_
 rcases hI with⟨_,_,L1,J,hH,hS⟩|⟨hno,_⟩
 · rw[fix_min]at hH
   exact⟨_,rfl,b31,L1,_::J,rfl,hH,hS.trans (Same.perm (List.perm_middle.symm))⟩
 · exact absurd fix_ok hno
theorem fixedHuffman_spec{K:Known}:Fn Tryz.prog K 91 #[] [] fun r L=>∃qb,r=.pointer (some ⟨qb,0,none⟩)∧HufT fixLit 7 qb 0 L:=
  Fn.lose fixedHuffman_walk fun v L' ⟨qb,L1,J,h1,h2,h3⟩=>⟨L1,J,h3,qb,h1,h2⟩
set_option maxHeartbeats 1000000
def DbEnd{K:Known}{ea:Fin 5→Addr}(src:Src K ea)(dt:List UInt8)(fb hb:Nat)(R:ResR)(gv p0:Nat)(L:Frags):Prop:=
  ∃y1 y2 y3 A T W H ws,ws.length=4∧L=[y1,y2,y3,A,T,W,H,⟨fb,1041,ws⟩]∧((∃pend q,pend≠[]∧StorSt src dt fb hb R gv pend q y1 y2 y3 A T W H)∨(∃pend p2,p0<p2∧NextSt src dt fb hb R gv pend p2 y1 y2 y3 A T W H)∨∃pend,EndSt src dt fb hb R gv pend y1 y2 y3 A T W H)
def storR(dt:List UInt8)(last:Bool)(out:List UInt8)(q:Nat):ResR:=match Gz dt q with
  |none=>(out,.bad)
  |some n=>stored dt last n out (q+4)
theorem storR_short{dt:List UInt8}{last:Bool}{out:List UInt8}{q:Nat}(h:dt.length<q+4):storR dt last out q=(out,.bad):=by
  unfold storR Gz;rw[if_pos h]
theorem compl16{n:Nat}(h:n<65536):IntKind.u16.wrap (-1-(n:Int))=((65535-n:Nat):Int):=by
  have e:IntKind.u16.wrap (-1-(n:Int))=(-1-(n:Int))%65536:=rfl
  rw[e];omega
theorem not_i64{a:Nat}(h:a<65536):IntKind.i64.wrap (((BitVec.ofInt 64 (-1)^^^BitVec.ofNat 64 a).toNat:Nat):Int)= -1-(a:Int):=by
  have e1:BitVec.ofInt 64 (-1)=BitVec.allOnes 64:=by decide
  rw[e1,BitVec.allOnes_xor,BitVec.toNat_not,BitVec.toNat_ofNat,Nat.mod_eq_of_lt (by omega)]
  rw[show(2:Nat)^64-1-a=18446744073709551615-a from rfl]
  rw[IntKind.wrap_i64];omega
theorem S.not64{n:Nat}{env:Env}{ty xT:TypeId}{x:Operand}{a:Nat}(hx:ev? env x=some (.int .i64 (a:Int)))(ha:a<65536):
    OpP Tryz.prog n (.unOp .xor xT x) ty env (.int .i64 (-1-(a:Int))):=by
  intro ac w hf
  simp only[exop,execOp,hf.eval hx,Op.unary]
  have e:IntKind.i64.signed=true:=rfl
  rw[e]
  simp only[if_true,intBits_xor]
  have:=not_i64 ha
  rw[←this]
  simp only[bits,N.ofInt_nat]
  rfl
theorem four_bytes{dt:List UInt8}{q:Nat}(h:q+4≤dt.length):∃b0 b1 b2 b3:UInt8,(dt.drop q).take 4=[b0,b1,b2,b3]∧(dt.getD q 0).toNat=b0.toNat∧(dt.getD (q+1) 0).toNat=b1.toNat∧(dt.getD (q+2) 0).toNat=b2.toNat∧(dt.getD (q+3) 0).toNat=b3.toNat:=by
  have g:∀i,(dt.drop q)[i]? =dt[q+i]? :=fun i=>List.getElem?_drop
  match hd:dt.drop q,(by rw[List.length_drop];omega:4≤(dt.drop q).length)with
  |b0::b1::b2::b3::r,_=>
    have g0:=g 0
    have g1:=g 1
    have g2:=g 2
    have g3:=g 3
    rw[hd]at g0 g1 g2 g3
    simp only[List.getElem?_cons_zero,List.getElem?_cons_succ,Nat.add_zero]at g0 g1 g2 g3
    exact⟨b0,b1,b2,b3,rfl,by rw[List.getD_eq_getElem?_getD,←g0];rfl,by rw[List.getD_eq_getElem?_getD,←g1];rfl,by rw[List.getD_eq_getElem?_getD,←g2];rfl,by rw[List.getD_eq_getElem?_getD,←g3];rfl⟩
theorem or8(a b:Nat)(ha:a<256):a|||b*256=a+256*b:=by
  rw[Nat.or_comm,show b*256=b<<<8 by rw[Nat.shiftLeft_eq],←Nat.shiftLeft_add_eq_or_of_lt (by simpa using ha),Nat.shiftLeft_eq];omega
theorem dataBlock_spec{K:Known}{ea:Fin 5→Addr}(hs:Sents K ea)(src:Src K ea)(dt:List UInt8)(fb hb:Nat)(R:ResR)(gv:Nat)(last:Bool)(hlv hdv:Value)(stp:Nat)(a0:Option Addr)(c0:Nat)(trv:Value)(htr:trv=.slice a0 0 c0)(x1 x2 x3:Frag)(p q b nb:Nat)(ro:Int)(out h:List UInt8)(wr rd:Nat)(full:Bool)(ss cl cd:Nat)(ws:List Value)(hwl:ws.length=4)(hA:src.At (dt.drop q) x1 x2 x3)(hB:BitsIn dt p q b nb)(hnb:nb<8)(H:Hist h wr full out)(hrd:rd≤wr)(hwr:wr<32768)(hsum:gv+(wr-rd)=out.length)(hss:SsOk ss cl cd (hsize wr full))(hR:R=storR dt last out q):Fn Tryz.prog K 90 #[.pointer (some ⟨fb,0,none⟩)] ([x1,x2,x3,⟨fb,0,[.iface src.t src.v,.pointer none,.int .i64 (ro),.int .u32 (((b):Nat):Int),.int .u64 (((nb):Nat):Int)]⟩,⟨fb,1045,[.func (.func stp) #[] #[],.int .i64 (((ss):Nat):Int),.bool last,.nilIface,trv,hlv,hdv,.int .i64 (((cl):Nat):Int),.int .i64 (((cd):Nat):Int)]⟩,⟨fb,1037,[.slice (some ⟨hb,0,none⟩) 32768 32768,.int .i64 (((wr):Nat):Int),.int .i64 (((rd):Nat):Int),.bool full]⟩,⟨hb,0,bytesV (h)⟩,⟨fb,1041,ws⟩]) (fun r L=>r=.tuple #[]∧DbEnd src dt fb hb R gv p L):=by
 refine Fn.intro (args:=[.pointer (some ⟨fb,0,none⟩)]) (RR:=Ret0 _) Tryz.func90 rfl rfl Tryz.ntmps90 (res0 Tryz.results90) ?_
 refine Bi (env2:=[(0,.pointer (some ⟨fb,0,none⟩))]) U<|Am ?_
 have hq:=hB.le
 have hat:=hB.at8
 have hdl:(dt.drop q).length=dt.length-q:=List.length_drop
 refine Al<|Em U U<|Aa (Ad U) U<|Aa (Ab U Ed) U ?_
 refine Ao (Aq 3 (k:=4) U U U U U Tz137) ?_;rintro _ _⟨rfl,rfl⟩;refine Er8 U ?_
 refine Ek1 0 U<|Cr<|Em U U<|Aa (Ad U) U<|Aa (Ab U Dp) U ?_
 refine Ao (Aq 3 (k:=3) U U U U U Tz69) ?_;rintro _ _⟨rfl,rfl⟩;refine Er8 U ?_
 refine Ek1 0 U<|Am<|Bt [0,1,2,4,0,16,32,64,136,256,512,512,2047,8191] (.pure 0 240 (.pure 1 241 (.pure 2 243 (.pure 4 15 (.pure 5 31 (.pure 6 63 (.pure 7 127 (.seg [(3,247)] (.alt 8 (.pure 9 511 (.pure 10 3071 (.pure 11 6143 (.pure 12 4095 (.pure 13 8191 .done))))) .stop))))))))) mixed (by decide+kernel)<|Dm U U U<|Ah U (Ad U) U<|Ah U (Ab U fa186_0) U<|Dm U U U<|Ah U (Ad U) U<|Ah U (Ab U fa186_10) U<|Ah U (Fo (l:=0) (h:=4) U U U (by omega) (by omega) Tu182 Tz5) U<|Fi (v:=.slice (some ⟨fb,1041,none⟩) (4) (4)) (Dj (by simp[part]) U U)<|Dc (by decide) ?_
 refine Au U (Aj 3 (k:=0) U U U Ta94) U<|Da<|By ?_
 refine Bo U (OpX.pick [0,0,0,4] (F:=[_,_,_,_]) U (Ar U Tryz.call56 (Gh hs src (dt.drop q) x1 x2 x3 fb 1041 4 4 ws hA hwl.symm (Nat.le_refl _) (by decide)))) U ?_;rintro _ _⟨_,⟨f1,f2,f3,hF,rfl,rfl⟩,rfl⟩;refine Dr8 U ?_
 refine Hb [0,0,0,1,1,1,1,0] U<|Dr8 U<|Dm U U U<|Ah U (Bg U U) U<|Ah U (Bg U U) U<|Ah U (Az U) U<|Ah U (Az U) U<|Dk3 0 2 3 U<|Cr<|Em U U<|Aa (Ad U) U<|Aa (Ab U Ff) U ?_
 refine Ag (Aj 3 (k:=2) U U U Ta2) U<|Em U U<|Aa (Bl U U U) U<|Aa (Ad U) U<|Aa (Ab U Ff) U ?_
 refine Ao (Aq 3 (k:=2) U U U U U Tz2) ?_;rintro _ _⟨rfl,rfl⟩;refine Er8 U ?_
 refine Ek3 0 2 3 U<|Am<|Cr<|Em U U<|Ag (Df U) U<|Ek4 0 2 3 33 U<|Dn U (fun h33=>?_) (fun h33=>?_)
 ·obtain⟨hbf,hlt⟩:=bad_full h33
  have hmn:Nat.min 4 (dt.drop q).length=(dt.drop q).length:=Nat.min_eq_right (by omega)
  refine Cr<|Em U U<|Em U U ?_
  refine Ai (OpX.pick [] (F:=[_,_,_,_,_,_,_,_]) U (Ar U Tryz.call94 (flate_noEOF (L:=[]) hs _))) U ?_;rintro _ _⟨_,⟨rfl,rfl⟩,rfl⟩;refine Er8 U ?_
  refine Aa (Ad U) U<|Aa (Ab U Ee) U ?_
  refine Ao (Aq 4 (k:=3) U U U (one_er _) U Tz58) ?_;rintro _ _⟨rfl,rfl⟩;refine Er8 U ?_
  refine Ek4 0 2 3 33 U<|Bb ?_
  refine⟨rfl,_,_,_,_,_,_,_,_,?_,rfl,.inr (.inr ⟨[],out,.bad,_,trv,h,wr,rd,full,.inr ⟨rfl,hbf,_,hF⟩,⟨_,_,_,rfl⟩,⟨H,hrd,hwr,by simpa using hsum,by simp,by rw[htr];exact TR.nil _ _ _ _,rfl,rfl⟩,⟨_,_,_,_,_,_,_,rfl⟩,?_,.inl U⟩)⟩
  · rw[hmn];simp only[List.length_append,Bh,List.length_take,List.length_drop,hwl];omega
  · rw[hR];exact storR_short (by omega)
 have hge:=full_none h33
 have hmn:Nat.min 4 (dt.drop q).length=4:=Nat.min_eq_left hge
 obtain⟨b0,b1,b2,b3,hb4,e0,e1,e2,e3⟩:=four_bytes (dt:=dt) (q:=q) (by omega)
 have w0:=b0.toNat_lt
 have w1:=b1.toNat_lt
 have w2:=b2.toNat_lt
 have w3:=b3.toNat_lt
 rw[hb4,hmn,show List.drop 4 ws=[]from List.drop_eq_nil_of_le (by omega)]
 rw[List.drop_drop]at hF
 refine Bx (L2:=[f1,f2,f3,⟨fb,0,[.iface src.t src.v,.pointer none,.int .i64 _,.int .u32 (((0):Nat):Int),.int .u64 (((0):Nat):Int)]⟩,⟨fb,1045,[.func (.func stp) #[] #[],.int .i64 (((ss):Nat):Int),.bool last,.nilIface,trv,hlv,hdv,.int .i64 (((cl):Nat):Int),.int .i64 (((cd):Nat):Int)]⟩,⟨fb,1037,[.slice (some ⟨hb,0,none⟩) 32768 32768,.int .i64 (((wr):Nat):Int),.int .i64 (((rd):Nat):Int),.bool full]⟩,⟨hb,0,bytesV (h)⟩,⟨fb,1041,[.int .u8 ((b0.toNat:Nat):Int),.int .u8 ((b1.toNat:Nat):Int),.int .u8 ((b2.toNat:Nat):Int),.int .u8 ((b3.toNat:Nat):Int)]⟩]) U<|Ap<|Am<|Bt [0,1,2,4,8,16,0,64,128,256,512,1024,2048,4128,16383] (.pure 0 8128 (.pure 1 8129 (.pure 2 8131 (.pure 3 8135 (.pure 6 63 (.pure 7 127 (.pure 8 255 (.pure 9 511 (.seg [(4,8143),(5,8159),(10,1023),(11,2047),(12,4095),(13,8191),(14,16383)] .done))))))))) mixed (by decide+kernel)<|Dm U U U<|Ah U (Ad U) U<|Ah U (Ab U fa186_10) U<|Ah U (Bj (i:=0) U U (by omega) Tu182 Tz5) U<|Dm U U U<|Ah U (Ad U) U<|Ah U (Ab U fa186_10) U<|Ah U (Bj (i:=1) U U (by omega) Tu182 Tz5) U ?_
 refine Dc (by decide)<|Au U (Aj 7 (k:=0) U U U Ta5) U<|Ba U (Bv U Tu5 Tu3 (N.i64n (by omega))) U<|Au U (Aj 7 (k:=1) U U U Ta5) U<|Ba U (Bv U Tu5 Tu3 (N.i64n (by omega))) U<|Ba U (Fy (b:=((8:Nat):Int)) U U (by omega) (N.shl64 (by omega))) U<|Dy (v:=.int .i64 ((b1.toNat*256:Nat):Int)) (congrArg (fun y:Nat=>Value.int .i64 (y:Int)) (by rw[Nat.shiftLeft_eq]))<|Ba U (S.or U U (N.or64 (by omega) (by omega))) U<|Dy (v:=.int .i64 ((b0.toNat+256*b1.toNat:Nat):Int)) (congrArg (fun y:Nat=>Value.int .i64 (y:Int)) (by exact or8 _ _ (by omega)))<|Ba U (Az U) U<|Da<|Dk5 0 2 3 4 33 U ?_
 refine Am<|Bt [0,1,2,4,8,16,0,64,128,256,512,1024,2048,4128,16383] (.pure 0 8128 (.pure 1 8129 (.pure 2 8131 (.pure 3 8135 (.pure 6 63 (.pure 7 127 (.pure 8 255 (.pure 9 511 (.seg [(4,8143),(5,8159),(10,1023),(11,2047),(12,4095),(13,8191),(14,16383)] .done))))))))) mixed (by decide+kernel)<|Dm U U U<|Ah U (Ad U) U<|Ah U (Ab U fa186_10) U<|Ah U (Bj (i:=2) U U (by omega) Tu182 Tz5) U<|Dm U U U<|Ah U (Ad U) U<|Ah U (Ab U fa186_10) U<|Ah U (Bj (i:=3) U U (by omega) Tu182 Tz5) U<|Dc (by decide)<|Au U (Aj 7 (k:=2) U U U Ta5) U ?_
 refine Ba U (Bv U Tu5 Tu3 (N.i64n (by omega))) U<|Au U (Aj 7 (k:=3) U U U Ta5) U<|Ba U (Bv U Tu5 Tu3 (N.i64n (by omega))) U<|Ba U (Fy (b:=((8:Nat):Int)) U U (by omega) (N.shl64 (by omega))) U<|Dy (v:=.int .i64 ((b3.toNat*256:Nat):Int)) (congrArg (fun y:Nat=>Value.int .i64 (y:Int)) (by rw[Nat.shiftLeft_eq]))<|Ba U (S.or U U (N.or64 (by omega) (by omega))) U<|Dy (v:=.int .i64 ((b2.toNat+256*b3.toNat:Nat):Int)) (congrArg (fun y:Nat=>Value.int .i64 (y:Int)) (by exact or8 _ _ (by omega)))<|Ba U (Az U) U<|Da<|Dk6 0 2 3 4 5 33 U<|Am<|Cr ?_
 refine Em U U<|Aa (Bv U Tu3 Tu153 (N.in_u16 (by omega))) U<|Em U U<|Aa (S.not64 U (by omega)) U<|Aa (Bv U Tu3 Tu153 (compl16 (by omega))) U<|Aa (S.ne U U) U<|Ek7 0 2 3 4 5 33 72 U<|Bf U (fun h72=>?_) (fun h72=>?_)
 ·refine Cr<|Em U U<|Em U U<|Aa (Ad U) U<|Aa (Ab U Ff) U<|Ag (Aj 3 (k:=2) U U U Ta2) U<|Aa (Eo U Hr) U<|An (v:=Er.val ea (.corrupt _)) (rfl)<|Aa (Ad U) U<|Aa (Ab U Ee) U ?_
  refine Ao (Aq 4 (k:=3) U U U U U Tz58) ?_;rintro _ _⟨rfl,rfl⟩;refine Er8 U ?_
  refine Ek7 0 2 3 4 5 33 72 U<|Bb ?_
  refine⟨rfl,_,_,_,_,_,_,_,_,?_,rfl,.inr (.inr ⟨[],out,.bad,_,trv,h,wr,rd,full,.inr ⟨rfl,Ew _,_,hF⟩,⟨_,_,_,rfl⟩,⟨H,hrd,hwr,by simpa using hsum,by simp,by rw[htr];exact TR.nil _ _ _ _,rfl,rfl⟩,⟨_,_,_,_,_,_,_,rfl⟩,?_,.inl U⟩)⟩
  · rfl
  · rw[hR,storR,Gz,if_neg (by omega),if_neg (by rw[e0,e1,e2,e3];omega)]
 refine Ap<|Am<|Cr<|Em U U<|Aa (Ef (b:=((0:Nat):Int)) U U) U<|Ek8 0 2 3 4 5 33 72 82 U<|Bf U (fun h82=>?_) (fun h82=>?_)
 ·have hn0:b0.toNat+256*b1.toNat=0:=by omega
  refine Cr<|Em U U<|Em U U<|Aa (Ad U) U<|Aa (Ab U Fe) U ?_
  refine Ai (OpX.pick [5] (F:=[_,_,_,_,_,_,_]) U (Ar U Tryz.call95 (Fg fb 1037 hb wr rd full hrd (by omega)))) U ?_;rintro _ _⟨_,⟨Aw,hfl,rfl⟩,rfl⟩;refine Er8 U ?_
  refine Dd [1,1,1,1,1,0,0,0] U<|Er8 U<|Aa (Ad U) U<|Aa (Ab U Ge) U ?_
  refine Ao (Aq 4 (k:=4) U U U (Ji hfl) U Tz25) ?_;rintro _ _⟨rfl,rfl⟩;refine Er8 U ?_
  refine Ek8 0 2 3 4 5 33 72 82 U ?_
  have hfl0:=hfl
  obtain⟨_,_,hA5⟩:=hfl
  have hA6:=(hA5.resolve_right fun h=>by omega).2
  subst hA6
  refine Cr<|Em U U ?_
  refine Ai (OpX.pick [5,4] (F:=[_,_,_,_,_,_]) U (Ar U Tryz.call96 (finishBlock_spec hs fb hb wr wr full last (Nat.le_refl _) hwr _ _ _ _ _ _ _ _))) U ?_;rintro _ _⟨_,⟨rfl,ev2,tr2,Aw2,rfl,hfin⟩,rfl⟩;refine Er8 U ?_
  refine Dd [2,2,2,2,1,0,0,0] U<|Er8 U<|Ek8 0 2 3 4 5 33 72 82 U<|Bb ?_
  have hst:Gz dt q=some (b0.toNat+256*b1.toNat):=by rw[Gz,if_neg (by omega),if_pos (by rw[e0,e1,e2,e3];omega),e0,e1]
  have hR2:R=stored dt last (b0.toNat+256*b1.toNat) out (q+4):=by rw[hR,storR,hst]
  obtain⟨wr5,full5,hW,hlen,hsz⟩:=WinSt.flush (gv:=gv) H hrd hsum hfl0
  rw[hn0]at hR2
  unfold stored at hR2
  rw[if_neg (by omega),List.take_zero,List.append_nil,Nat.add_zero]at hR2
  rcases hfin with⟨hl5,rfl,rfl,rfl⟩|⟨hl5,rfl,hfin⟩
  · rw[hl5]at hR2
    exact⟨rfl,_,_,_,_,_,_,_,_,rfl,rfl,.inr (.inl ⟨_,8*(q+4),by omega,q+4,0,_,_,_,wr5,wr5,full5,ss,last,_,_,cl,cd,⟨hF,0,_,BitsIn.start dt (by omega),rfl⟩,by omega,hW,rfl,ss_more hss hsz,hR2⟩)⟩
  · rw[hl5,if_pos rfl]at hR2
    obtain⟨_,rfl,rfl⟩:=hfin.resolve_right (fun h=>absurd h.1 (Nat.lt_irrefl _))
    exact⟨rfl,_,_,_,_,_,_,_,_,rfl,rfl,.inr (.inr ⟨_,_,_,.eof,_,_,wr5,wr5,full5,.inl ⟨q+4,rfl,rfl,by omega,hF⟩,⟨_,_,_,rfl⟩,hW,⟨_,_,_,_,_,_,_,rfl⟩,hR2,.inr U⟩)⟩
 refine Ap<|Cr<|Em U U<|Em U U<|Aa (Ad U) U<|Aa (Ab U Gv) U ?_
 refine Ao (Aq 4 (k:=7) U U U U U Tz3) ?_;rintro _ _⟨rfl,rfl⟩;refine Er8 U ?_
 refine Ek8 0 2 3 4 5 33 72 82 U<|Al<|Em U U ?_
 have hst:Gz dt q=some (b0.toNat+256*b1.toNat):=by rw[Gz,if_neg (by omega),if_pos (by rw[e0,e1,e2,e3];omega),e0,e1]
 have hR2:R=stored dt last (b0.toNat+256*b1.toNat) out (q+4):=by rw[hR,storR,hst]
 refine Ai (OpX.pick [0,0,0,0,0,0,0] (F:=[_]) U (Ar U Tryz.call97 (copyData_spec hs src dt fb hb R gv last hlv hdv stp a0 c0 trv htr f1 f2 f3 (q+4) _ out h wr rd full ss _ cd hF (by omega) H hrd hwr hsum (hss.imp id fun h=>⟨h.1,h.2.2.1,h.2.2.2⟩) (by omega) hR2))) U ?_;rintro _ _⟨_,⟨rfl,y1,y2,y3,Ay,Ty,Wy,Hy,rfl,hC⟩,rfl⟩;refine Er8 U ?_
 refine Ek8 0 2 3 4 5 33 72 82 U ?_
 have hst:Gz dt q=some (b0.toNat+256*b1.toNat):=by rw[Gz,if_neg (by omega),if_pos (by rw[e0,e1,e2,e3];omega),e0,e1]
 have hR2:R=stored dt last (b0.toNat+256*b1.toNat) out (q+4):=by rw[hR,storR,hst]
 rcases hC with⟨pend,q5,h1,h2⟩|⟨p2,h1,h2⟩|⟨pend,h2⟩
 · exact⟨rfl,_,_,_,_,_,_,_,_,rfl,rfl,.inl ⟨pend,q5,h1,h2⟩⟩
 · exact⟨rfl,_,_,_,_,_,_,_,_,rfl,rfl,.inr (.inl ⟨[],p2,by omega,h2⟩)⟩
 · exact⟨rfl,_,_,_,_,_,_,_,_,rfl,rfl,.inr (.inr ⟨pend,h2⟩)⟩
set_option maxHeartbeats 2000000
section
variable {P:Program}{H0:Known}{n:Nat}{ops:Array Oper}{ds:List Nat}
theorem O.skip{i j:Nat}{b:Bool}{dst:Option Nat}{op:Op}{ty:TypeId}{pos:String}{af:Array Edge}{r:Plan}{env:Env}{L:Frags}{N:Post}(t:Nat)(c:Bool)
    (hi:ops[i]? =some ⟨dst,op,ty,pos,af,some (j,b)⟩)(ht:(ops[j]?).bind (·.dst)=some t)(hv:get? env t=some (.bool c))(hc:c= !b)(hd:dstOk dst n=true)
    (k:wpD P H0 n ops ds r (ext dst undef env) L N):wpO P H0 n ops ds i r env L N:=by
  intro fuel listed l hrep hds hp hsel a w hf hw Nw hq
  have hy:=Je (ops:=ops) hf ht hv
  have hne:(some c==some b)=false:=by subst hc;cases b<;>rfl
  unfold wpOp
  simp only[hi,Region.wanted,hy,hne]
  exact⟨hw.base,k fuel _ _ hrep hds hp hsel _ w (hf.ext hd undef) hw Nw hq⟩
end
def HufE(lens:List Nat)(hb o:Nat)(ok:Bool)(LH:Frags):Prop:=(ok=true∧okLens lens∧HufT lens (minL lens) hb o LH)∨(ok=false∧¬okLens lens∧∃hz,hz.length=515∧LH=[⟨hb,o,hz⟩])
theorem init_in{K:Known}(hb o vb vo vc:Nat)(cs vs:List Value)(lens:List Nat)(hraw:RawH cs)(h15:∀x∈lens,x≤15)(hll:lens.length≤320)(G:Frags):
    Fn Tryz.prog K 98 #[.pointer (some ⟨hb,o,none⟩),.slice (some ⟨vb,vo,none⟩) lens.length vc] (⟨hb,o,cs⟩::⟨vb,vo,intsV lens++vs⟩::G)
      fun r L=>∃LH ok,r=.bool ok∧HufE lens hb o ok LH∧L=⟨vb,vo,intsV lens++vs⟩::(G++LH):=by
  obtain⟨mn0,rest,rfl,hl,hz⟩:=hraw
  refine Fn.lose (Fn.frame (F:=G) (init_walk hb o vb vo vc mn0 rest vs lens hl hz h15 hll)) ?_
  rintro v L⟨L1,hI,rfl⟩
  have pm:∀(A J:Frags) (x:Frag),(G++((x::A)++J)).Perm ((x::(G++A))++J):=fun A J x=>by
    rw[←List.append_assoc]
    exact(List.perm_middle).append_right J
  rcases hI with⟨hok,rfl,LH,J,hH,hS⟩|⟨hno,rfl,hz,J,hlen,hS⟩
  · exact⟨_,J,(Same.perm List.perm_append_comm).trans ((Same.appendL G hS).trans (Same.perm (pm LH J _))),LH,true,rfl,.inl ⟨rfl,hok,hH⟩,rfl⟩
  · exact⟨_,J,(Same.perm List.perm_append_comm).trans ((Same.appendL G hS).trans (Same.perm (pm _ J _))),_,false,rfl,.inr ⟨rfl,hno,hz,hlen,rfl⟩,rfl⟩
structure Codes(K:Known):Prop where
  cell:∀i,i<19→cellAt K 10 (0+i*1)=some (.int .i64 ((ordL.getD i 0:Nat):Int))
theorem left_add(D:List UInt8)(p n:Nat):left D (p+n)=left D p-n:=by unfold left;omega
def RhR{K:Known}{ea:Fin 5→Addr}(src:Src K ea)(dt:List UInt8)(fb ab cb p:Nat)(s0 s1 s2 s3 s4 s5 s6 s7 s8:Value)(r:Value)(L:Frags):Prop:=
  ∃e y1 y2 y3 a b c ev av cs J,r=Er.val ea e∧av.length=316∧cs.length=19∧
    L=y1::y2::y3::⟨fb,0,[.iface src.t src.v,.pointer none,a,b,c]⟩::⟨fb,1045,[s0,s1,s2,ev,s4,s5,s6,s7,s8]⟩::⟨fb,1035,[.pointer (some ⟨ab,0,none⟩),.pointer (some ⟨cb,0,none⟩)]⟩::⟨ab,0,av⟩::⟨cb,0,cs⟩::J∧
    ((e=.none∧∃t p2 q2 b2 nb2 ro2 HL HD,dynR dt p=some (t,p2)∧src.At (dt.drop q2) y1 y2 y3∧BitsIn dt p2 q2 b2 nb2∧nb2<8∧LitT t fb 5 HL∧DistT t (some ⟨fb,520,none⟩) HD∧a=.int .i64 ro2∧b=.int .u32 ((b2:Nat):Int)∧c=.int .u64 ((nb2:Nat):Int)∧ev=s3∧J=HL++HD)∨
     (Bad5 e∧dynR dt p=none∧(∃l,src.At l y1 y2 y3)∧∃h1 h2,h1.length=515∧h2.length=515∧J=[⟨fb,5,h1⟩,⟨fb,520,h2⟩]))
theorem Fm{cs:List Value}(h:RawH cs):cs.length=515:=by
  obtain⟨m,r,rfl,h1,_⟩:=h
  rw[List.length_cons,h1]
theorem Hh{l:List Nat}(h:∀x∈l,x≤15)(s:Nat):lenOf l s≤15:=by
  rcases Nat.lt_or_ge s l.length with h1|h1
  · rw[Bp h1];exact h _ (List.getElem_mem h1)
  · rw[lenOf,List.getD_eq_getElem?_getD,List.getElem?_eq_none h1];decide
theorem acc_set{acc:List Nat}{rest:List Value}(v:Nat)(h:0<rest.length):(intsV acc++rest).set (acc.length*1) (.int .i64 ((v:Nat):Int))=intsV (acc++[v])++rest.drop 1:=by
  match rest,h with
  |r::rs,_=>
    rw[Nat.mul_one,List.set_append_right _ _ (by rw[Db];exact Nat.le_refl _),Db,Nat.sub_self]
    simp[intsV]
theorem last_get{acc:List Nat}{rest:List Value}(h:acc≠[]):(intsV acc++rest)[(acc.length-1)*1]? =some (.int .i64 ((acc.getLastD 0:Nat):Int)):=by
  have hl:0<acc.length:=List.length_pos_iff.2 h
  rw[Ej (by omega),List.getLastD_eq_getLast?,List.getLast?_eq_getElem?,List.getElem?_eq_getElem (by omega)];rfl
theorem get_256{acc:List Nat}{rest:List Value}(h:256<acc.length):(intsV acc++rest)[256*1]? =some (.int .i64 ((acc.getD 256 0:Nat):Int)):=by
  rw[Ej h,List.getD_eq_getElem?_getD,List.getElem?_eq_getElem h];rfl
theorem last_le{acc:List Nat}(h:∀x∈acc,x≤15)(v:Nat):(if v=16 then acc.getLastD 0 else 0)≤15:=by
  split
  · rw[List.getLastD_eq_getLast?]
    cases hg:acc.getLast? with
    |none=>exact Nat.zero_le _
    |some x=>exact h x (List.mem_of_getLast? hg)
  · omega
theorem rep_set{acc:List Nat}{rest:List Value}{j bv:Nat}(h:0<(rest.drop j).length):(intsV (acc++List.replicate j bv)++rest.drop j).set ((acc.length+j)*1) (.int .i64 ((bv:Nat):Int))=intsV (acc++List.replicate (j+1) bv)++rest.drop (j+1):=by
  have e:acc.length+j=(acc++List.replicate j bv).length:=by rw[List.length_append,List.length_replicate]
  rw[e,acc_set bv h,List.drop_drop,List.append_assoc,←List.replicate_succ']
theorem rep_facts{v:Nat}(h:16≤v):repN v≤7∧repB v≤11:=⟨by unfold repN;split;omega;split<;>omega,by unfold repB;split<;>omega⟩
theorem same_raw{lens:List Nat}{mn hb o:Nat}{LC:Frags}(h:HufT lens mn hb o LC)(G:Frags):∃cs J,RawH cs∧Same (G++LC) ((⟨hb,o,cs⟩::G)++J):=by
  obtain⟨cs,J,hr,hs⟩:=huf_raw h
  exact⟨cs,J,hr,(Same.perm List.perm_append_comm).trans ((hs G).trans (Same.perm (.cons _ List.perm_append_comm)))⟩
theorem rh_bad2{K:Known}{ea:Fin 5→Addr}{src:Src K ea}{dt:List UInt8}{fb ab cb p:Nat}{s0 s1 s2 s3 s4 s5 s6 s7 s8:Value}{e:Er}{y1 y2 y3:Frag}{a b c ev:Value}{av cs cs2:List Value}{LC:Frags}{lens:List Nat}{mn:Nat}{l:List UInt8}
    (hC:HufT lens mn fb 5 LC)(h5:Bad5 e)(hd:dynR dt p=none)(hA:src.At l y1 y2 y3)(h1:av.length=316)(h2:cs.length=19)(h3:cs2.length=515):
    ∃L1 J,Same (y1::y2::y3::⟨fb,0,[.iface src.t src.v,.pointer none,a,b,c]⟩::⟨fb,1045,[s0,s1,s2,ev,s4,s5,s6,s7,s8]⟩::⟨fb,1035,[.pointer (some ⟨ab,0,none⟩),.pointer (some ⟨cb,0,none⟩)]⟩::⟨ab,0,av⟩::⟨cb,0,cs⟩::⟨fb,520,cs2⟩::LC) (L1++J)∧RhR src dt fb ab cb p s0 s1 s2 s3 s4 s5 s6 s7 s8 (Er.val ea e) L1:=by
  obtain⟨h1c,J,hr,hs⟩:=huf_raw hC
  refine⟨_,J,?_,e,y1,y2,y3,a,b,c,ev,av,cs,_,rfl,h1,h2,rfl,.inr ⟨h5,hd,⟨l,hA⟩,h1c,cs2,Fm hr,h3,rfl⟩⟩
  have q:∀G:Frags,Same (G++(⟨fb,520,cs2⟩::LC)) ((G++[⟨fb,5,h1c⟩,⟨fb,520,cs2⟩])++J):=fun G=>by
    have s1:=hs [⟨fb,520,cs2⟩]
    have s2:=Same.appendL G ((Same.perm (List.perm_append_comm (l₁:=[⟨fb,520,cs2⟩]) (l₂:=LC))).trans s1)
    refine s2.trans (Same.perm ?_)
    rw[List.append_assoc]
    refine List.Perm.append_left G (.cons _ ?_)
    exact List.perm_append_comm
  exact q [y1,y2,y3,⟨fb,0,[.iface src.t src.v,.pointer none,a,b,c]⟩,⟨fb,1045,[s0,s1,s2,ev,s4,s5,s6,s7,s8]⟩,⟨fb,1035,[.pointer (some ⟨ab,0,none⟩),.pointer (some ⟨cb,0,none⟩)]⟩,⟨ab,0,av⟩,⟨cb,0,cs⟩]
theorem rh_bad3{K:Known}{ea:Fin 5→Addr}{src:Src K ea}{dt:List UInt8}{fb ab cb p:Nat}{s0 s1 s2 s3 s4 s5 s6 s7 s8:Value}{e:Er}{y1 y2 y3:Frag}{a b c ev:Value}{av cs hz:List Value}{LC:Frags}{lens:List Nat}{mn:Nat}{l:List UInt8}
    (hC:HufT lens mn fb 5 LC)(h5:Bad5 e)(hd:dynR dt p=none)(hA:src.At l y1 y2 y3)(h1:av.length=316)(h2:cs.length=19)(h3:hz.length=515):
    ∃L1 J,Same (⟨ab,0,av⟩::y1::y2::y3::⟨fb,0,[.iface src.t src.v,.pointer none,a,b,c]⟩::⟨fb,1045,[s0,s1,s2,ev,s4,s5,s6,s7,s8]⟩::⟨fb,1035,[.pointer (some ⟨ab,0,none⟩),.pointer (some ⟨cb,0,none⟩)]⟩::⟨cb,0,cs⟩::(LC++[⟨fb,520,hz⟩])) (L1++J)∧RhR src dt fb ab cb p s0 s1 s2 s3 s4 s5 s6 s7 s8 (Er.val ea e) L1:=by
  obtain⟨L1,J,hs,hr⟩:=rh_bad2 (s0:=s0) (s1:=s1) (s2:=s2) (s3:=s3) (s4:=s4) (s5:=s5) (s6:=s6) (s7:=s7) (s8:=s8) (ev:=ev) (a:=a) (b:=b) (c:=c) (ab:=ab) (cb:=cb) hC h5 hd hA h1 h2 h3
  refine⟨L1,J,Same.trans (Same.perm ?_) hs,hr⟩
  refine(List.perm_middle (l₁:=[y1,y2,y3,_,_,_]) (l₂:=_::(LC++[_]))).symm.trans ?_
  refine .cons _ (.cons _ (.cons _ (.cons _ (.cons _ (.cons _ (.cons _ (.cons _ ?_)))))))
  exact List.perm_append_comm (l₂:=[_])
theorem readHuffman_walk{K:Known}{ea:Fin 5→Addr}(hs:Sents K ea)(hc:Codes K)(src:Src K ea)(dt:List UInt8)(fb ab cb:Nat)(s0 s1 s2 s3 s4 s5 s6 s7 s8:Value)(x1 x2 x3:Frag)(p q b nb:Nat)(ro:Int)(av cs cs1 cs2:List Value)(hasl:av.length=316)(hcsl:cs.length=19)(hraw1:RawH cs1)(hraw2:RawH cs2)(hA:src.At (dt.drop q) x1 x2 x3)(hB:BitsIn dt p q b nb)(hnb:nb<8):Fn Tryz.prog K 93 #[.pointer (some ⟨fb,0,none⟩)] ([x1,x2,x3,⟨fb,0,[.iface src.t src.v,.pointer none,.int .i64 (ro),.int .u32 (((b):Nat):Int),.int .u64 (((nb):Nat):Int)]⟩,⟨fb,1045,[s0,s1,s2,s3,s4,s5,s6,s7,s8]⟩,⟨fb,1035,[.pointer (some ⟨ab,0,none⟩),.pointer (some ⟨cb,0,none⟩)]⟩,⟨ab,0,av⟩,⟨cb,0,cs⟩,⟨fb,5,cs1⟩,⟨fb,520,cs2⟩]) (fun r L=>∃L1 J,Same L (L1++J)∧RhR src dt fb ab cb p s0 s1 s2 s3 s4 s5 s6 s7 s8 r L1):=by
 refine Fn.intro (args:=[.pointer (some ⟨fb,0,none⟩)]) (RR:=Ret1 2 _) Tryz.func93 rfl rfl Tryz.ntmps93 (res1 Tryz.results93) ?_
 refine Bi (env2:=[(0,.pointer (some ⟨fb,0,none⟩))]) U<|Cr<|Aa (Az (v:=Er.val ea .none) U) U<|Ek2 0 2 U<|Am<|As<|Bw (fun mm ee ll=>∃(q:Nat),∃(b:Nat),∃(nb:Nat),∃(ro:Int),∃(g1:Frag),∃(g2:Frag),∃(g3:Frag),keeps ee [0]=some [(0,.pointer (some ⟨fb,0,none⟩))]∧ll=[g1,g2,g3,⟨fb,0,[.iface src.t src.v,.pointer none,.int .i64 (ro),.int .u32 (((b):Nat):Int),.int .u64 (((nb):Nat):Int)]⟩,⟨fb,1045,[s0,s1,s2,s3,s4,s5,s6,s7,s8]⟩,⟨fb,1035,[.pointer (some ⟨ab,0,none⟩),.pointer (some ⟨cb,0,none⟩)]⟩,⟨ab,0,av⟩,⟨cb,0,cs⟩,⟨fb,5,cs1⟩,⟨fb,520,cs2⟩]∧(src.At (dt.drop q) g1 g2 g3)∧(BitsIn dt (p) q b nb)∧(nb<8∨nb<14+8)∧mm=14-nb) (_) ⟨q,b,nb,ro,x1,x2,x3,rfl,rfl,hA,hB,.inl hnb,rfl⟩ ?_
 rintro m0 _ _⟨q,b,nb,ro,g1,g2,g3,hk0,rfl,hA,hB,hnl,hm0⟩
 refine Av _ hk0<|Am<|Cr<|Em U U<|Aa (Ad U) U<|Aa (Ab U Ed) U<|Ag (Aj 3 (k:=4) U U U Ta137) U<|Aa (Dl (b:=((14:Nat):Int)) U U) U<|Ek2 0 23 U<|Bf U (fun h23=>?_) (fun h23=>?_)
 ·refine Ap<|As<|Cr<|Em U U ?_
  refine Ai (OpX.pick [0,0,0,0] (F:=[_,_,_,_,_,_]) U (Ar U Tryz.call89 (Jf hs src _ _ _ fb _ dt _ _ _ _ hA hB (by omega)))) U ?_;rintro _ _⟨_,⟨k1,k2,k3,e4,b4,nb4,ro4,rfl,rfl,hE4⟩,rfl⟩;refine Er10 U ?_
  refine Dd [0,0,0,0,0,0,0,0,0,0] U<|Er10 U<|Ea U U<|Ek3 0 3 23 U<|Cr<|Em U U<|Ag (Df U) U<|Ek4 0 3 23 27 U<|Dn U (fun h27=>?_) (fun h27=>?_)
  ·obtain⟨hb5,hqe,lx,hAx⟩:=hE4.resolve_left fun h=>h27 h.1
   have hle:=hB.left_eq
   refine Cr<|Em U U<|Ea U U<|Ek5 0 2 3 23 27 U<|Bb ?_
   refine⟨_,rfl,_,[],Same.of_eq (List.append_nil _).symm,_,_,_,_,_,_,_,_,_,_,_,rfl,hasl,?_,rfl,.inr ⟨hb5,dynR_14 (by omega),⟨_,hAx⟩,cs1,cs2,Fm hraw1,Fm hraw2,rfl⟩⟩
   exact hcsl
  obtain⟨_,hA4,hB4,hn4⟩:=hE4.resolve_right fun h=>h.1.2 h27
  subst hn4
  refine Ap ?_
  refine⟨_,?_,_,_,_,_,_,_,_,rfl,rfl,hA4,hB4,.inr (by omega),rfl⟩;omega
 have hn14:14≤nb:=by omega
 have hb2:=hB.lt32 (by omega)
 have hle:=hB.left_eq
 have h14:¬left dt p<14:=by omega
 have hB5:=hB.take (n:=5) (by omega)
 have hB10:=hB5.2.take (n:=5) (by omega)
 have hB14:=(hB10.2.take (n:=4) (by omega)).2
 have t5:=Fw dt p 5
 have t10:=Fw dt (p+5) 5
 have t14:=Fw dt (p+10) 4
 refine Bu U<|Cr<|Em U U<|Aa (Ad U) U<|Aa (Ab U Dp) U<|Ag (Aj 3 (k:=3) U U U Ta69) U<|Aa (Fa (b:=((31:Nat):Int)) U U (N.and_u32 (by omega) (by omega))) U<|An (v:=.int .u32 ((takeB dt p 5:Nat):Int)) (congrArg (fun y:Nat=>Value.int .u32 (y:Int)) (by exact Hp (n:=5) hB (by omega)))<|Aa (Bv U Tu69 Tu3 (N.i64n (by omega))) U<|Aa (Bl (b:=((257:Nat):Int)) U U (N.add64 (by omega))) U<|Ea U U<|Ek3 0 4 23 U ?_
 refine Am<|Cr<|Em U U<|Aa (Fh (b:=((286:Nat):Int)) U U) U<|Ek4 0 4 23 37 U<|Bf U (fun h37=>?_) (fun h37=>?_)
 ·refine Cr<|Em U U<|Aa (Ad U) U<|Aa (Ab U Ff) U<|Ag (Aj 3 (k:=2) U U U Ta2) U<|Aa (Eo U Hr) U<|An (v:=Er.val ea (.corrupt _)) (rfl)<|Ea U U<|Ek5 0 2 4 23 37 U<|Bb ?_
  refine⟨_,rfl,_,[],Same.of_eq (List.append_nil _).symm,_,_,_,_,_,_,_,_,_,_,_,rfl,hasl,?_,rfl,.inr ⟨Ew _,dynR_286 h14 (by omega),⟨_,hA⟩,cs1,cs2,Fm hraw1,Fm hraw2,rfl⟩⟩
  exact hcsl
 have h286:¬286<takeB dt p 5+257:=by omega
 refine Ap<|Cr<|Em U U<|Aa (Ad U) U<|Aa (Ab U Dp) U<|Ag (Aj 3 (k:=3) U U U Ta69) U<|Aa (Fl (b:=((5:Nat):Int)) U U (by omega) (N.shr_u32 (by omega) _)) U<|An (v:=.int .u32 ((b/2^5:Nat):Int)) (congrArg (fun y:Nat=>Value.int .u32 (y:Int)) (by rw[Nat.shiftRight_eq_div_pow]))<|Aa (Ad U) U<|Aa (Ab U Dp) U ?_
 refine Ao (Aq 3 (k:=3) U U U U U Tz69) ?_;rintro _ _⟨rfl,rfl⟩;refine Er10 U ?_
 refine Ek4 0 4 23 37 U<|Cr<|Em U U<|Aa (Ad U) U<|Aa (Ab U Dp) U<|Ag (Aj 3 (k:=3) U U U Ta69) U<|Aa (Fa (b:=((31:Nat):Int)) U U (N.and_u32 (by omega) (by omega))) U<|An (v:=.int .u32 ((takeB dt (p+5) 5:Nat):Int)) (congrArg (fun y:Nat=>Value.int .u32 (y:Int)) (by exact Hp (n:=5) hB5.2 (by omega)))<|Aa (Bv U Tu69 Tu3 (N.i64n (by omega))) U<|Aa (Bl (b:=((1:Nat):Int)) U U (N.add64 (by omega))) U<|Ea U U<|Ek5 0 4 5 23 37 U ?_
 refine Am<|Cr<|Em U U<|Aa (Fh (b:=((30:Nat):Int)) U U) U<|Ek6 0 4 5 23 37 58 U<|Bf U (fun h58=>?_) (fun h58=>?_)
 ·refine Cr<|Em U U<|Aa (Ad U) U<|Aa (Ab U Ff) U<|Ag (Aj 3 (k:=2) U U U Ta2) U<|Aa (Eo U Hr) U<|An (v:=Er.val ea (.corrupt _)) (rfl)<|Ea U U<|Ek7 0 2 4 5 23 37 58 U<|Bb ?_
  refine⟨_,rfl,_,[],Same.of_eq (List.append_nil _).symm,_,_,_,_,_,_,_,_,_,_,_,rfl,hasl,?_,rfl,.inr ⟨Ew _,dynR_30 h14 h286 (by omega),⟨_,hA⟩,cs1,cs2,Fm hraw1,Fm hraw2,rfl⟩⟩
  exact hcsl
 have h30:¬30<takeB dt (p+5) 5+1:=by omega
 refine Ap<|Cr<|Em U U<|Aa (Ad U) U<|Aa (Ab U Dp) U<|Ag (Aj 3 (k:=3) U U U Ta69) U<|Aa (Fl (b:=((5:Nat):Int)) U U (by omega) (N.shr_u32 (by omega) _)) U<|An (v:=.int .u32 ((b/2^5/2^5:Nat):Int)) (congrArg (fun y:Nat=>Value.int .u32 (y:Int)) (by rw[Nat.shiftRight_eq_div_pow]))<|Aa (Ad U) U<|Aa (Ab U Dp) U ?_
 refine Ao (Aq 3 (k:=3) U U U U U Tz69) ?_;rintro _ _⟨rfl,rfl⟩;refine Er10 U ?_
 refine Ek6 0 4 5 23 37 58 U<|Cr<|Em U U<|Aa (Ad U) U<|Aa (Ab U Dp) U<|Ag (Aj 3 (k:=3) U U U Ta69) U<|Aa (Fa (b:=((15:Nat):Int)) U U (N.and_u32 (by omega) (by omega))) U<|An (v:=.int .u32 ((takeB dt (p+10) 4:Nat):Int)) (congrArg (fun y:Nat=>Value.int .u32 (y:Int)) (by exact Hp (n:=4) hB10.2 (by omega)))<|Aa (Bv U Tu69 Tu3 (N.i64n (by omega))) U<|Aa (Bl (b:=((4:Nat):Int)) U U (N.add64 (by omega))) U<|Ea U U<|Ek7 0 4 5 6 23 37 58 U ?_
 refine Cr<|Em U U<|Aa (Ad U) U<|Aa (Ab U Dp) U<|Ag (Aj 3 (k:=3) U U U Ta69) U<|Aa (Fl (b:=((4:Nat):Int)) U U (by omega) (N.shr_u32 (by omega) _)) U<|An (v:=.int .u32 ((b/2^5/2^5/2^4:Nat):Int)) (congrArg (fun y:Nat=>Value.int .u32 (y:Int)) (by rw[Nat.shiftRight_eq_div_pow]))<|Aa (Ad U) U<|Aa (Ab U Dp) U ?_
 refine Ao (Aq 3 (k:=3) U U U U U Tz69) ?_;rintro _ _⟨rfl,rfl⟩;refine Er10 U ?_
 refine Ek7 0 4 5 6 23 37 58 U<|Cr<|Em U U<|Aa (Ad U) U<|Aa (Ab U Ed) U<|Ag (Aj 3 (k:=4) U U U Ta137) U<|Aa (Dr (b:=((14:Nat):Int)) U U (N.sub_u64 (by omega) (by omega))) U<|An (v:=.int .u64 ((nb-5-5-4:Nat):Int)) (congrArg (fun y:Nat=>Value.int .u64 (y:Int)) (by omega))<|Aa (Ad U) U<|Aa (Ab U Ed) U ?_
 refine Ao (Aq 3 (k:=4) U U U U U Tz137) ?_;rintro _ _⟨rfl,rfl⟩;refine Er10 U ?_
 refine Ek7 0 4 5 6 23 37 58 U<|Am<|Cr<|Ea U U<|Ek8 0 4 5 6 7 23 37 58 U<|As<|Bw (fun mm ee ll=>∃(i:Nat),∃(cs:List Value),∃(q:Nat),∃(b:Nat),∃(nb:Nat),∃(ro:Int),∃(g1:Frag),∃(g2:Frag),∃(g3:Frag),keeps ee [0,4,5,6,7]=some [(0,.pointer (some ⟨fb,0,none⟩)),(4,.int .i64 ((takeB dt p 5+257:Nat):Int)),(5,.int .i64 ((takeB dt (p+5) 5+1:Nat):Int)),(6,.int .i64 ((takeB dt (p+10) 4+4:Nat):Int)),(7,.int .i64 ((i:Nat):Int))]∧ll=[g1,g2,g3,⟨fb,0,[.iface src.t src.v,.pointer none,.int .i64 (ro),.int .u32 (((b):Nat):Int),.int .u64 (((nb):Nat):Int)]⟩,⟨fb,1045,[s0,s1,s2,s3,s4,s5,s6,s7,s8]⟩,⟨fb,1035,[.pointer (some ⟨ab,0,none⟩),.pointer (some ⟨cb,0,none⟩)]⟩,⟨ab,0,av⟩,⟨cb,0,cs⟩,⟨fb,5,cs1⟩,⟨fb,520,cs2⟩]∧(src.At (dt.drop q) g1 g2 g3)∧(BitsIn dt (p+14+3*i) q b nb)∧(nb<8)∧(i≤takeB dt (p+10) 4+4)∧(CbOk dt (p+14) (takeB dt (p+10) 4+4) i cs)∧mm=takeB dt (p+10) 4+4-i) (_) ⟨0,cs,q,_,_,_,_,_,_,rfl,rfl,hA,hB14,by omega,by omega,⟨hcsl,fun s _ h=>by omega⟩,rfl⟩ ?_
 rintro m1 _ _⟨i,cs,q,b,nb,ro,g1,g2,g3,hk1,rfl,hA,hB,hnb,hi,hcb,hm1⟩
 refine Av _ hk1<|Am<|Cr<|Em U U<|Em U U<|Aa (Dl U U) U<|Ek6 0 4 5 6 7 94 U<|Bf U (fun h94=>?_) (fun h94=>?_)
 ·have hi19:i<19:=by omega
  have hoi:=(ord_idx i hi19).2
  refine Ap<|Am<|As<|Am<|As<|Bw (fun mm ee ll=>∃(q:Nat),∃(b:Nat),∃(nb:Nat),∃(ro:Int),∃(g1:Frag),∃(g2:Frag),∃(g3:Frag),keeps ee [0,4,5,6,7]=some [(0,.pointer (some ⟨fb,0,none⟩)),(4,.int .i64 ((takeB dt p 5+257:Nat):Int)),(5,.int .i64 ((takeB dt (p+5) 5+1:Nat):Int)),(6,.int .i64 ((takeB dt (p+10) 4+4:Nat):Int)),(7,.int .i64 ((i:Nat):Int))]∧ll=[g1,g2,g3,⟨fb,0,[.iface src.t src.v,.pointer none,.int .i64 (ro),.int .u32 (((b):Nat):Int),.int .u64 (((nb):Nat):Int)]⟩,⟨fb,1045,[s0,s1,s2,s3,s4,s5,s6,s7,s8]⟩,⟨fb,1035,[.pointer (some ⟨ab,0,none⟩),.pointer (some ⟨cb,0,none⟩)]⟩,⟨ab,0,av⟩,⟨cb,0,cs⟩,⟨fb,5,cs1⟩,⟨fb,520,cs2⟩]∧(src.At (dt.drop q) g1 g2 g3)∧(BitsIn dt (p+14+3*i) q b nb)∧(nb<8∨nb<3+8)∧mm=3-nb) (_) ⟨q,b,nb,ro,g1,g2,g3,rfl,rfl,hA,hB,.inl hnb,rfl⟩ ?_
  rintro m2 _ _⟨q,b,nb,ro,g1,g2,g3,hk2,rfl,hA,hB,hnl,hm2⟩
  refine Av _ hk2<|Am<|Cr<|Em U U<|Aa (Ad U) U<|Aa (Ab U Ed) U<|Ag (Aj 3 (k:=4) U U U Ta137) U<|Aa (Dl (b:=((3:Nat):Int)) U U) U<|Ek6 0 4 5 6 7 101 U<|Bf U (fun h101=>?_) (fun h101=>?_)
  ·refine Ap<|As<|Cr<|Em U U ?_
   refine Ai (OpX.pick [0,0,0,0] (F:=[_,_,_,_,_,_]) U (Ar U Tryz.call89 (Jf hs src _ _ _ fb _ dt _ _ _ _ hA hB (by omega)))) U ?_;rintro _ _⟨_,⟨k1,k2,k3,e4,b4,nb4,ro4,rfl,rfl,hE4⟩,rfl⟩;refine Er10 U ?_
   refine Dd [0,0,0,0,0,0,0,0,0,0] U<|Er10 U<|Ea U U<|Ek7 0 4 5 6 7 8 101 U<|Cr<|Em U U<|Ag (Df U) U<|Ek8 0 4 5 6 7 8 101 105 U<|Dn U (fun h105=>?_) (fun h105=>?_)
   ·obtain⟨hb5,hqe,lx,hAx⟩:=hE4.resolve_left fun h=>h105 h.1
    have hle:=hB.left_eq
    refine Cr<|Em U U<|Ea U U<|Ek9 0 2 4 5 6 7 8 101 105 U<|Bb ?_
    refine⟨_,rfl,_,[],Same.of_eq (List.append_nil _).symm,_,_,_,_,_,_,_,_,_,_,_,rfl,hasl,?_,rfl,.inr ⟨hb5,dynR_cl h14 h286 h30 (by rw[left_add]at hle;omega),⟨_,hAx⟩,cs1,cs2,Fm hraw1,Fm hraw2,rfl⟩⟩
    exact hcb.len
   obtain⟨_,hA4,hB4,hn4⟩:=hE4.resolve_right fun h=>h.1.2 h105
   subst hn4
   refine Ap ?_
   refine⟨_,?_,_,_,_,_,_,_,_,rfl,rfl,hA4,hB4,.inr (by omega),rfl⟩;omega
  have hn3:3≤nb:=by omega
  have hb2:=hB.lt32 (by omega)
  have t3:=Fw dt (p+14+3*i) 3
  refine Bu U<|Am<|Bt [0,1,2,4,0,16,32,0,128,256,512,1024,2048,8,16383,24575] (.pure 0 8176 (.pure 1 8177 (.pure 2 8179 (.pure 4 16271 (.pure 5 16287 (.pure 7 8319 (.pure 8 8447 (.pure 9 8703 (.seg [(3,8183),(6,16319),(10,9215),(11,10239),(12,12287),(13,8191),(14,16383)] (.alt 15 .done .stop)))))))))) mixed (by decide+kernel)<|Dm U U U<|Ah U (Ad U) U<|Ah U (Ab U fa186_8) U<|Dm U U U<|Ah U (Bj U U (by omega) Tu189 Tz3) U<|Dm U U U<|Ah U (Ad U) U<|Ah U (Ab U Dp) U<|Dc (by decide) ?_
  refine Au U (Aj 5 (k:=1) U U U Tryz.isAgg179) U<|Au U (Be U (hc.cell i hi19) Ta3) U<|Au U (Aj 3 (k:=3) U U U Ta69) U<|Ba U (Fa (b:=((7:Nat):Int)) U U (N.and_u32 (by omega) (by omega))) U<|Dy (v:=.int .u32 ((takeB dt (p+14+3*i) 3:Nat):Int)) (congrArg (fun y:Nat=>Value.int .u32 (y:Int)) (by exact Hp (n:=3) hB (by omega)))<|Ba U (Bv U Tu69 Tu3 (N.i64n (by omega))) U<|Ba U (Ad U) U<|Ba U (Bj U U (by omega) Tu189 Tz3) U<|Da<|By ?_
  refine Di U (Aq 7 (k:=ordL.getD i 0*1) U U U U (by rw[Nat.blt_eq,hcb.len];omega) Tz3) ?_;rintro _ _⟨rfl,rfl⟩;refine Dr10 U ?_
  refine Dk6 0 4 5 6 7 101 U<|Cr<|Em U U<|Aa (Ad U) U<|Aa (Ab U Dp) U<|Ag (Aj 3 (k:=3) U U U Ta69) U<|Aa (Fl (b:=((3:Nat):Int)) U U (by omega) (N.shr_u32 (by omega) _)) U<|An (v:=.int .u32 ((b/2^3:Nat):Int)) (congrArg (fun y:Nat=>Value.int .u32 (y:Int)) (by rw[Nat.shiftRight_eq_div_pow]))<|Aa (Ad U) U<|Aa (Ab U Dp) U ?_
  refine Ao (Aq 3 (k:=3) U U U U U Tz69) ?_;rintro _ _⟨rfl,rfl⟩;refine Er10 U ?_
  refine Ek6 0 4 5 6 7 101 U<|Al<|Em U U<|Aa (Ad U) U<|Aa (Ab U Ed) U<|Ag (Aj 3 (k:=4) U U U Ta137) U<|Aa (Dr (b:=((3:Nat):Int)) U U (N.sub_u64 (by omega) (by omega))) U<|Aa (Ad U) U<|Aa (Ab U Ed) U ?_
  refine Ao (Aq 3 (k:=4) U U U U U Tz137) ?_;rintro _ _⟨rfl,rfl⟩;refine Er10 U ?_
  refine Ek6 0 4 5 6 7 101 U<|Al<|Em U U<|Aa (Bl (b:=((1:Nat):Int)) U U (N.add64 (by omega))) U<|Ea U U<|Ek6 0 4 5 6 7 101 U ?_
  refine⟨_,?_,i+1,_,_,_,_,_,_,_,_,rfl,rfl,hA,(by rw[show p+14+3*(i+1)=p+14+3*i+3 by omega];exact(hB.take (n:=3) (by omega)).2),by omega,by omega,(hcb.next hi19 (by rw[clv,(ord_idx i hi19).1,if_pos (by omega)])),rfl⟩;omega
 have hiN:i=takeB dt (p+10) 4+4:=by omega
 subst hiN
 have hcl3:¬left dt (p+14)<3*(takeB dt (p+10) 4+4):=by have:=hB.at8;have:=hB.le;unfold left;omega
 refine Bu U<|Am<|Cr<|Em U U<|Ea U U<|Ek7 0 4 5 6 7 9 94 U<|As<|Bw (fun mm ee ll=>∃(i:Nat),∃(cs:List Value),keeps ee [0,4,5,9]=some [(0,.pointer (some ⟨fb,0,none⟩)),(4,.int .i64 ((takeB dt p 5+257:Nat):Int)),(5,.int .i64 ((takeB dt (p+5) 5+1:Nat):Int)),(9,.int .i64 ((i:Nat):Int))]∧ll=[g1,g2,g3,⟨fb,0,[.iface src.t src.v,.pointer none,.int .i64 (ro),.int .u32 (((b):Nat):Int),.int .u64 (((nb):Nat):Int)]⟩,⟨fb,1045,[s0,s1,s2,s3,s4,s5,s6,s7,s8]⟩,⟨fb,1035,[.pointer (some ⟨ab,0,none⟩),.pointer (some ⟨cb,0,none⟩)]⟩,⟨ab,0,av⟩,⟨cb,0,cs⟩,⟨fb,5,cs1⟩,⟨fb,520,cs2⟩]∧(takeB dt (p+10) 4+4≤i)∧(i≤19)∧(CbOk dt (p+14) (takeB dt (p+10) 4+4) i cs)∧mm=19-i) (_) ⟨takeB dt (p+10) 4+4,cs,rfl,rfl,Nat.le_refl _,by omega,hcb,rfl⟩ ?_
 rintro m3 _ _⟨i,cs,hk3,rfl,hi,hi9,hcb,hm3⟩
 refine Av _ hk3<|Am<|Cr<|Em U U<|Aa (Dl (b:=((19:Nat):Int)) U U) U<|Ek5 0 4 5 9 138 U<|Bf U (fun h138=>?_) (fun h138=>?_)
 ·have hi19:i<19:=by omega
  have hoi:=(ord_idx i hi19).2
  refine Ap<|Am<|As<|Bt [0,1,2,4,0,16,32,8,255,383] (.pure 0 112 (.pure 1 113 (.pure 2 115 (.pure 4 143 (.pure 5 159 (.seg [(3,119),(6,191),(7,127),(8,255)] (.alt 9 .done .stop))))))) mixed (by decide+kernel)<|Dm U U U<|Ah U (Ad U) U<|Ah U (Ab U fa186_8) U<|Dm U U U<|Ah U (Bj U U (by omega) Tu189 Tz3) U<|Dc (by decide)<|Au U (Aj 5 (k:=1) U U U Tryz.isAgg179) U<|Au U (Be U (hc.cell i hi19) Ta3) U ?_
  refine Ba U (Ad U) U<|Ba U (Bj U U (by omega) Tu189 Tz3) U<|Da<|By ?_
  refine Di U (Aq 7 (k:=ordL.getD i 0*1) U U U U (by rw[Nat.blt_eq,hcb.len];omega) Tz3) ?_;rintro _ _⟨rfl,rfl⟩;refine Dr10 U ?_
  refine Dk5 0 4 5 9 138 U<|Al<|Em U U<|Aa (Bl (b:=((1:Nat):Int)) U U (N.add64 (by omega))) U<|Ea U U<|Ek5 0 4 5 9 138 U ?_
  refine⟨_,?_,i+1,_,rfl,rfl,by omega,by omega,(hcb.next hi19 (by rw[clv,(ord_idx i hi19).1,if_neg (by omega)])),rfl⟩;omega
 have hi19:i=19:=by omega
 subst hi19
 refine Bu U<|Am<|Am ?_
 have hcs:=hcb.full
 have hcl9:=hcb.len
 rw[hcs]at hcl9
 subst hcs
 refine Hv [8,7] U<|Bx (L2:=[_,_,_,_,_,_,_,_,_,_]) U<|Bt [0,1,2,0,8,16,32,64,128,260,512] (.pure 0 504 (.pure 1 505 (.pure 2 507 (.pure 3 7 (.pure 4 15 (.pure 5 31 (.seg [(6,63),(7,127),(8,255)] (.alt 9 (.pure 10 1023 .done) .stop)))))))) mixed (by decide+kernel)<|Dm U U U<|Ah U (Ad U) U<|Ah U (Ab U fa186_5) U<|Dm U U U<|Ah U (Ad U) U<|Ah U (Ab U fa186_8) U<|Dc (by decide)<|Au U (Aj 7 (k:=1) U U U Tryz.isAgg179) U<|Ba U (Ad U) U ?_
 refine Ba U (Fo (l:=0) (h:=19) (k':=.i64) U U U (by omega) (by omega) Tu189 Tz3) U<|Dy (v:=.slice (some ⟨cb,0,none⟩) ((clL dt (p+14) (takeB dt (p+10) 4+4)).length) (19)) (Dj (by simp[part]) (clL_len _ _ _).symm U)<|Da<|By ?_
 refine Bo U (Ar U Tryz.call98 (init_in fb 5 cb 0 19 _ [] (clL dt (p+14) (takeB dt (p+10) 4+4)) hraw1 (clL_le _ _ _) (by rw[clL_len];decide) _)) U ?_;rintro _ _⟨LC,ok1,rfl,hC,rfl⟩;refine Dt10 U ?_
 refine Ah U (Gc U) U<|Dk6 0 4 5 9 138 160 U<|Eg U (fun h160=>?_) (fun h160=>?_)
 ·obtain⟨_,hno,hz,hzl,rfl⟩:=hC.resolve_left (fun h=>by rw[h.1]at h160;cases h160)
  refine Cr<|Em U U<|Aa (Ad U) U<|Aa (Ab U Ff) U<|Ag (Aj 4 (k:=2) U U U Ta2) U<|Aa (Eo U Hr) U<|An (v:=Er.val ea (.corrupt _)) (rfl)<|Ea U U<|Ek7 0 2 4 5 9 138 160 U<|Bb ?_
  refine⟨_,rfl,_,[],(Same.perm (Br (A:=[_,_,_,_,_,_,_,_,_,_]) (F:=[]) (is:=[1,1,1,1,1,1,1,0,1,0]) U)).trans (Same.of_eq U),_,_,_,_,_,_,_,_,_,_,_,rfl,hasl,?_,rfl,.inr ⟨Ew _,?_,⟨_,hA⟩,hz,cs2,hzl,Fm hraw2,rfl⟩⟩
  · exact hcl9
  · rw[dynR_eq h14 h286 h30 hcl3,if_pos hno]
 obtain⟨_,hok,hC1⟩:=hC.resolve_right (fun h=>by rw[h.1]at h160;cases h160)
 have hmin15:=min_15 (Hh (clL_le dt (p+14) (takeB dt (p+10) 4+4)))
 have hdy:=dynR_eq h14 h286 h30 hcl3
 rw[if_neg (fun h=>h hok)]at hdy
 refine Ap<|Am<|Am<|Hv [1,1,1,1,1,1,1,0] U<|Bx (L2:=_::_::_::_::_::_::_::_::_::_) U<|Al<|Em U U<|Em U U<|Aa (Bl U U (N.add64 (by omega))) U<|Ea U U<|Ea U U<|Ek8 0 4 5 9 10 11 138 160 U ?_
 refine As<|Bw (fun mm ee ll=>∃(acc:List Nat),∃(rest:List Value),∃(pp:Nat),∃(i:Nat),∃(q:Nat),∃(b:Nat),∃(nb:Nat),∃(ro:Int),∃(g1:Frag),∃(g2:Frag),∃(g3:Frag),keeps ee [0,4,5,10,11]=some [(0,.pointer (some ⟨fb,0,none⟩)),(4,.int .i64 ((takeB dt p 5+257:Nat):Int)),(5,.int .i64 ((takeB dt (p+5) 5+1:Nat):Int)),(10,.int .i64 ((i:Nat):Int)),(11,.int .i64 ((takeB dt p 5+257+(takeB dt (p+5) 5+1):Nat):Int))]∧ll=[g1,g2,g3,⟨fb,0,[.iface src.t src.v,.pointer none,.int .i64 (ro),.int .u32 (((b):Nat):Int),.int .u64 (((nb):Nat):Int)]⟩,⟨fb,1045,[s0,s1,s2,s3,s4,s5,s6,s7,s8]⟩,⟨fb,1035,[.pointer (some ⟨ab,0,none⟩),.pointer (some ⟨cb,0,none⟩)]⟩,⟨ab,0,intsV acc++rest⟩,⟨cb,0,intsV (clL dt (p+14) (takeB dt (p+10) 4+4))++[]⟩,⟨fb,520,cs2⟩]++LC∧(src.At (dt.drop q) g1 g2 g3)∧(BitsIn dt pp q b nb)∧(nb<8)∧(lensGo dt (clL dt (p+14) (takeB dt (p+10) 4+4)) (takeB dt p 5+257+(takeB dt (p+5) 5+1)) [] (p+14+3*(takeB dt (p+10) 4+4))=lensGo dt (clL dt (p+14) (takeB dt (p+10) 4+4)) (takeB dt p 5+257+(takeB dt (p+5) 5+1)) acc pp)∧(i=acc.length)∧(acc.length≤takeB dt p 5+257+(takeB dt (p+5) 5+1))∧(acc.length+rest.length=316)∧(∀x∈acc,x≤15)∧mm=takeB dt p 5+257+(takeB dt (p+5) 5+1)-acc.length) (_) ⟨[],av,p+14+3*(takeB dt (p+10) 4+4),0,_,_,_,_,_,_,_,rfl,rfl,hA,hB,hnb,rfl,rfl,(by simp),(by simpa using hasl),(fun x h=>by cases h),rfl⟩ ?_
 rintro m4 _ _⟨acc,rest,pp,i,q,b,nb,ro,g1,g2,g3,hk4,rfl,hA,hB,hnb,hgo,hia,hal,hrl,ha15,hm4⟩
 refine Av _ hk4 ?_
 subst hia
 refine Am<|Cr<|Em U U<|Em U U<|Aa (Dl U U) U<|Ek6 0 4 5 10 11 171 U<|Bf U (fun h171=>?_) (fun h171=>?_)
 ·refine Ap<|As<|Cr<|Em U U<|Em U U<|Aa (Ad U) U<|Aa (Ab U fa186_5) U ?_
  refine Ai (Ar U Tryz.call99 (huffSym_end hs src _ _ _ fb _ _ _ _ _ _ _ _ _ _ fb 5 dt _ _ _ _ hA hB (by omega) (clL dt (p+14) (takeB dt (p+10) 4+4)) (minL (clL dt (p+14) (takeB dt (p+10) 4+4))) hok (Hh (clL_le _ _ _)) (Nat.le_refl _) hmin15 LC [⟨fb,1035,[.pointer (some ⟨ab,0,none⟩),.pointer (some ⟨cb,0,none⟩)]⟩,⟨ab,0,intsV acc++rest⟩,⟨cb,0,intsV (clL dt (p+14) (takeB dt (p+10) 4+4))++[]⟩,⟨fb,520,cs2⟩] hC1)) U ?_;rintro _ _⟨e,vi,y1,y2,y3,a1,b1,c1,ev2,rfl,hE,rfl⟩;refine Et10 U ?_
  refine Em U U<|Aa (Bg U U) U<|Aa (Bg U U) U<|Ea U U<|Ea U U<|Ek8 0 4 5 10 11 12 13 171 U<|Am<|Cr<|Em U U<|Ag (Df U) U<|Ek9 0 4 5 10 11 12 13 171 181 U<|Dn U (fun h181=>?_) (fun h181=>?_)
  ·obtain⟨hb5,hsn,lx,hAx⟩:=hE.resolve_left fun h=>h181 h.1
   refine Cr<|Em U U<|Ea U U<|Ek10 0 2 4 5 10 11 12 13 171 181 U<|Bb ?_
   exact⟨_,rfl,rh_bad2 hC1 (hb5) (hdy.trans (by rw[hgo,lensGo_none (by omega) hsn])) hAx (by rw[List.length_append,Db];exact hrl) hcl9 (Fm hraw2)⟩
  obtain⟨_,v,rfl,hsy,hvl,q2,b2,nb2,ro2,hA2,hB2,hn31,hbd,rfl,rfl,rfl,hev⟩:=hE.resolve_right fun h=>h.1.2 h181
  rw[hev]
  clear hev hE
  rw[clL_len]at hvl
  have hm5:=(symR_some hsy).1
  have hmin5:minL (clL dt (p+14) (takeB dt (p+10) 4+4))≤lenOf (clL dt (p+14) (takeB dt (p+10) 4+4)) v:=by rw[Bp (Dx hm5.1)];exact(Fs _).2.1 _ (List.getElem_mem _) (by have:=hm5.1;rw[Bp (Dx hm5.1)]at this;omega)
  rw[Nat.max_eq_right hmin5]at hbd
  have hn8:nb2<8:=by omega
  have hiN:acc.length<takeB dt p 5+257+(takeB dt (p+5) 5+1):=by omega
  refine Ap<|Am<|Cr<|Em U U<|Aa (Dl (b:=((16:Nat):Int)) U U) U<|Ek10 0 4 5 10 11 12 13 171 181 184 U<|Bf U (fun h184=>?_) (fun h184=>?_)
  ·have hv:v<16:=by omega
   refine Cr<|Em U U<|Aa (Ad U) U<|Aa (Ab U fa186_7) U<|Ag (Aj 5 (k:=0) U U U Ta178) U<|Em U U<|Em U U<|Aa (Ad U) U<|Aa (Bj U U (by omega) Tu188 Tz3) U ?_
   refine Ao (Aq 6 (k:=acc.length*1) U U U U (by rw[Nat.blt_eq,List.length_append,Db];omega) Tz3) ?_
   rintro _ _⟨rfl,rfl⟩
   refine Ax (L2:=[y1,y2,y3,⟨fb,0,[.iface src.t src.v,.pointer none,.int .i64 (ro2),.int .u32 (((b2):Nat):Int),.int .u64 (((nb2):Nat):Int)]⟩,⟨fb,1045,[s0,s1,s2,s3,s4,s5,s6,s7,s8]⟩,⟨fb,1035,[.pointer (some ⟨ab,0,none⟩),.pointer (some ⟨cb,0,none⟩)]⟩,⟨ab,0,intsV (acc++[v])++rest.drop 1⟩,⟨cb,0,intsV (clL dt (p+14) (takeB dt (p+10) 4+4))++[]⟩,⟨fb,520,cs2⟩]++LC) (congrArg (fun q=>([y1,y2,y3,⟨fb,0,[.iface src.t src.v,.pointer none,.int .i64 (ro2),.int .u32 (((b2):Nat):Int),.int .u64 (((nb2):Nat):Int)]⟩,⟨fb,1045,[s0,s1,s2,s3,s4,s5,s6,s7,s8]⟩,⟨fb,1035,[.pointer (some ⟨ab,0,none⟩),.pointer (some ⟨cb,0,none⟩)]⟩,⟨ab,0,q⟩,⟨cb,0,intsV (clL dt (p+14) (takeB dt (p+10) 4+4))++[]⟩,⟨fb,520,cs2⟩]++LC:Frags)) (acc_set v (by omega)))<|Ek10 0 4 5 10 11 12 13 171 181 184 U<|Cr<|Em U U<|Aa (Bl (b:=((1:Nat):Int)) U U (N.add64 (by omega))) U<|Ea U U<|Ek10 0 4 5 10 11 12 13 171 181 184 U<|Bu U ?_
   refine⟨_,?_,acc++[v],rest.drop 1,_,acc.length+1,_,_,_,_,_,_,_,rfl,rfl,hA2,hB2,hn8,(hgo.trans (lensGo_lit hiN hsy hv)),(by rw[List.length_append,List.length_singleton]),(by rw[List.length_append,List.length_singleton];omega),(by rw[List.length_append,List.length_singleton,List.length_drop];omega),(fun x hx=>(List.mem_append.1 hx).elim (ha15 x) fun h=>by rw[List.mem_singleton.1 h];omega),rfl⟩;rw[List.length_append,List.length_singleton];omega
  have hv16:16≤v:=by omega
  refine Ap<|Cr<|Ea U U<|Ek11 0 4 5 10 11 12 13 14 171 181 184 U<|Cr<|Ea U U<|Ek12 0 4 5 10 11 12 13 14 15 171 181 184 U<|Cr<|Ea U U<|Ek13 0 4 5 10 11 12 13 14 15 16 171 181 184 U<|Du (M:=fun ee ll=>keeps ee [0,4,5,10,11,14,15,16]=some [(0,.pointer (some ⟨fb,0,none⟩)),(4,.int .i64 ((takeB dt p 5+257:Nat):Int)),(5,.int .i64 ((takeB dt (p+5) 5+1:Nat):Int)),(10,.int .i64 ((acc.length:Nat):Int)),(11,.int .i64 ((takeB dt p 5+257+(takeB dt (p+5) 5+1):Nat):Int)),(14,.int .i64 ((repB v:Nat):Int)),(15,.int .u64 ((repN v:Nat):Int)),(16,.int .i64 (((if v=16 then acc.getLastD 0 else 0):Nat):Int))]∧ll=[y1,y2,y3,⟨fb,0,[.iface src.t src.v,.pointer none,.int .i64 (ro2),.int .u32 (((b2):Nat):Int),.int .u64 (((nb2):Nat):Int)]⟩,⟨fb,1045,[s0,s1,s2,s3,s4,s5,s6,s7,s8]⟩,⟨fb,1035,[.pointer (some ⟨ab,0,none⟩),.pointer (some ⟨cb,0,none⟩)]⟩,⟨ab,0,intsV acc++rest⟩,⟨cb,0,intsV (clL dt (p+14) (takeB dt (p+10) 4+4))++[]⟩,⟨fb,520,cs2⟩]++LC∧(¬(v=16∧acc=[]))) ?_ ?_
  ·refine Cr<|Em U U<|Ek14 0 4 5 10 11 12 13 14 15 16 171 181 184 195 U<|As<|Cr<|Aa (Ef (b:=((16:Nat):Int)) U U) U<|Ea U U<|Ek15 0 4 5 10 11 12 13 14 15 16 171 181 184 195 197 U<|Bf U (fun h197=>?_) (fun h197=>?_)
   ·have hv:v=16:=by omega
    refine Cr<|Ea U U ?_
    refine An (v:=.int .i64 ((repB v:Nat):Int)) (congrArg (fun y:Nat=>Value.int .i64 (y:Int)) (by subst hv;rfl)) ?_
    refine Ek15 0 4 5 10 11 12 13 14 15 16 171 181 184 195 197 U<|Cr<|Ea U U ?_
    refine An (v:=.int .u64 ((repN v:Nat):Int)) (congrArg (fun y:Nat=>Value.int .u64 (y:Int)) (by subst hv;rfl)) ?_
    refine Ek15 0 4 5 10 11 12 13 14 15 16 171 181 184 195 197 U<|Am<|Cr<|Em U U<|Aa (Ef (b:=((0:Nat):Int)) U U) U<|Ek16 0 4 5 10 11 12 13 14 15 16 171 181 184 195 197 200 U<|Bf U (fun h200=>?_) (fun h200=>?_)
    ·have hac:acc=[]:=List.eq_nil_of_length_eq_zero (by omega)
     refine Cr<|Em U U<|Aa (Ad U) U<|Aa (Ab U Ff) U<|Ag (Aj 3 (k:=2) U U U Ta2) U<|Aa (Eo U Hr) U<|An (v:=Er.val ea (.corrupt _)) (rfl)<|Ea U U<|Ek17 0 2 4 5 10 11 12 13 14 15 16 171 181 184 195 197 200 U<|Bb ?_
     exact⟨_,rfl,rh_bad2 hC1 (Ew _) (hdy.trans (by rw[hgo,lensGo_empty (by omega) (by rw[hsy,hv]) hac])) hA2 (by rw[List.length_append,Db];exact hrl) hcl9 (Fm hraw2)⟩
    have hac:acc≠[]:=fun h=>by subst h;simp at h200
    refine Ap<|Al<|Em U U<|Aa (Ad U) U<|Aa (Ab U fa186_7) U<|Ag (Aj 5 (k:=0) U U U Ta178) U<|Em U U<|Aa (Dr (b:=((1:Nat):Int)) U U (N.sub64 (by omega) (by omega))) U<|Aa (Ad U) U<|Aa (Bj U U (by omega) Tu188 Tz3) U<|Ag (Aj 6 (k:=(acc.length-1)*1) U U (last_get hac) Ta3) U<|An (v:=.int .i64 (((if v=16 then acc.getLastD 0 else 0):Nat):Int)) (congrArg (fun y:Nat=>Value.int .i64 (y:Int)) (by rw[if_pos hv])) ?_
    refine Ea U U<|Ek16 0 4 5 10 11 12 13 14 15 16 171 181 184 195 197 200 U ?_
    exact⟨rfl,rfl,by first|exact fun h=>hac h.2|(intro h;omega)⟩
   refine Cr<|Aa (Ef (b:=((17:Nat):Int)) U U) U<|Ea U U<|Ek16 0 4 5 10 11 12 13 14 15 16 171 181 184 195 197 215 U<|Bf U (fun h215=>?_) (fun h215=>?_)
   ·have hv:v=17:=by omega
    refine Cr<|Ea U U ?_
    refine An (v:=.int .i64 ((repB v:Nat):Int)) (congrArg (fun y:Nat=>Value.int .i64 (y:Int)) (by subst hv;rfl)) ?_
    refine Ek16 0 4 5 10 11 12 13 14 15 16 171 181 184 195 197 215 U<|Cr<|Ea U U ?_
    refine An (v:=.int .u64 ((repN v:Nat):Int)) (congrArg (fun y:Nat=>Value.int .u64 (y:Int)) (by subst hv;rfl)) ?_
    refine Ek16 0 4 5 10 11 12 13 14 15 16 171 181 184 195 197 215 U<|Al<|Ea U U<|An (v:=.int .i64 (((if v=16 then acc.getLastD 0 else 0):Nat):Int)) (congrArg (fun y:Nat=>Value.int .i64 (y:Int)) (by rw[if_neg (by omega)]))<|Ek16 0 4 5 10 11 12 13 14 15 16 171 181 184 195 197 215 U ?_
    exact⟨rfl,rfl,by first|exact fun h=>hac h.2|(intro h;omega)⟩
   refine Cr<|Aa (Ef (b:=((18:Nat):Int)) U U) U<|Ea U U<|Ek17 0 4 5 10 11 12 13 14 15 16 171 181 184 195 197 215 217 U<|Bf U (fun h217=>?_) (fun h217=>?_)
   ·have hv:v=18:=by omega
    refine Cr<|Ea U U ?_
    refine An (v:=.int .i64 ((repB v:Nat):Int)) (congrArg (fun y:Nat=>Value.int .i64 (y:Int)) (by subst hv;rfl)) ?_
    refine Ek17 0 4 5 10 11 12 13 14 15 16 171 181 184 195 197 215 217 U<|Cr<|Ea U U ?_
    refine An (v:=.int .u64 ((repN v:Nat):Int)) (congrArg (fun y:Nat=>Value.int .u64 (y:Int)) (by subst hv;rfl)) ?_
    refine Ek17 0 4 5 10 11 12 13 14 15 16 171 181 184 195 197 215 217 U<|Al<|Ea U U<|An (v:=.int .i64 (((if v=16 then acc.getLastD 0 else 0):Nat):Int)) (congrArg (fun y:Nat=>Value.int .i64 (y:Int)) (by rw[if_neg (by omega)]))<|Ek17 0 4 5 10 11 12 13 14 15 16 171 181 184 195 197 215 217 U ?_
    exact⟨rfl,rfl,by first|exact fun h=>hac h.2|(intro h;omega)⟩
   exfalso
   omega
  rintro _ _⟨hq59,rfl,hne⟩
  refine Av _ hq59 ?_
  obtain⟨hrn7,hrb11⟩:=rep_facts hv16
  refine Am<|As<|Bw (fun mm ee ll=>∃(q:Nat),∃(b:Nat),∃(nb:Nat),∃(ro:Int),∃(g1:Frag),∃(g2:Frag),∃(g3:Frag),keeps ee [0,4,5,10,11,14,15,16]=some [(0,.pointer (some ⟨fb,0,none⟩)),(4,.int .i64 ((takeB dt p 5+257:Nat):Int)),(5,.int .i64 ((takeB dt (p+5) 5+1:Nat):Int)),(10,.int .i64 ((acc.length:Nat):Int)),(11,.int .i64 ((takeB dt p 5+257+(takeB dt (p+5) 5+1):Nat):Int)),(14,.int .i64 ((repB v:Nat):Int)),(15,.int .u64 ((repN v:Nat):Int)),(16,.int .i64 (((if v=16 then acc.getLastD 0 else 0):Nat):Int))]∧ll=[g1,g2,g3,⟨fb,0,[.iface src.t src.v,.pointer none,.int .i64 (ro),.int .u32 (((b):Nat):Int),.int .u64 (((nb):Nat):Int)]⟩,⟨fb,1045,[s0,s1,s2,s3,s4,s5,s6,s7,s8]⟩,⟨fb,1035,[.pointer (some ⟨ab,0,none⟩),.pointer (some ⟨cb,0,none⟩)]⟩,⟨ab,0,intsV acc++rest⟩,⟨cb,0,intsV (clL dt (p+14) (takeB dt (p+10) 4+4))++[]⟩,⟨fb,520,cs2⟩]++LC∧(src.At (dt.drop q) g1 g2 g3)∧(BitsIn dt (pp+lenOf (clL dt (p+14) (takeB dt (p+10) 4+4)) v) q b nb)∧(nb<8∨nb<repN v+8)∧mm=repN v-nb) (_) ⟨q2,b2,nb2,ro2,y1,y2,y3,rfl,rfl,hA2,hB2,.inl hn8,rfl⟩ ?_
  rintro m5 _ _⟨q,b,nb,ro,g1,g2,g3,hk5,rfl,hA,hB,hnl,hm5⟩
  refine Av _ hk5<|Am<|Cr<|Em U U<|Aa (Ad U) U<|Aa (Ab U Ed) U<|Ag (Aj 3 (k:=4) U U U Ta137) U<|Em U U<|Aa (Dl U U) U<|Ek9 0 4 5 10 11 14 15 16 224 U<|Bf U (fun h224=>?_) (fun h224=>?_)
  ·refine Ap<|As<|Cr<|Em U U ?_
   refine Ai (OpX.pick [0,0,0,0] (F:=(_::_::_::_::_::_)) U (Ar U Tryz.call89 (Jf hs src _ _ _ fb _ dt _ _ _ _ hA hB (by omega)))) U ?_;rintro _ _⟨_,⟨k1,k2,k3,e4,b4,nb4,ro4,rfl,rfl,hE4⟩,rfl⟩;refine Et10 U ?_
   refine Dd [0,0,0,0,0,0,0,0,0] U<|Et10 U<|Ea U U<|Ek10 0 4 5 10 11 14 15 16 17 224 U<|Cr<|Em U U<|Ag (Df U) U<|Ek11 0 4 5 10 11 14 15 16 17 224 228 U<|Dn U (fun h228=>?_) (fun h228=>?_)
   ·obtain⟨hb5,hqe,lx,hAx⟩:=hE4.resolve_left fun h=>h228 h.1
    have hle:=hB.left_eq
    refine Cr<|Em U U<|Ea U U<|Ek12 0 2 4 5 10 11 14 15 16 17 224 228 U<|Bb ?_
    exact⟨_,rfl,rh_bad2 hC1 (hb5) (hdy.trans (by rw[hgo,lensGo_short (by omega) hsy hv16 hne (by omega)])) hAx (by rw[List.length_append,Db];exact hrl) hcl9 (Fm hraw2)⟩
   obtain⟨_,hA4,hB4,hn4⟩:=hE4.resolve_right fun h=>h.1.2 h228
   subst hn4
   refine Ap ?_
   refine⟨_,?_,_,_,_,_,_,_,_,rfl,rfl,hA4,hB4,.inr (by omega),rfl⟩;omega
  have hnn:repN v≤nb:=by omega
  have hb3:=hB.lt32 (by omega)
  have hle:=hB.left_eq
  have htk:=hB.take hnn
  have htl:=Fw dt (pp+lenOf (clL dt (p+14) (takeB dt (p+10) 4+4)) v) (repN v)
  have h2r:2^repN v≤2^7:=Nat.pow_le_pow_right (by omega) hrn7
  have h2r0:0<2^repN v:=Nat.pow_pos (by omega)
  have hrs:¬left dt (pp+lenOf (clL dt (p+14) (takeB dt (p+10) 4+4)) v)<repN v:=by omega
  refine Bu U<|Cr<|Em U U<|Em U U<|Aa (Ad U) U<|Aa (Ab U Dp) U<|Ag (Aj 3 (k:=3) U U U Ta69) U<|Em U U<|Aa (Fy (a:=((1:Nat):Int)) U U (by omega) (N.shl_u32 _ _)) U ?_
  refine An (v:=.int .u32 ((2^repN v:Nat):Int)) (congrArg (fun y:Nat=>Value.int .u32 (y:Int)) (by rw[Nat.one_shiftLeft];exact Nat.mod_eq_of_lt (by omega))) ?_
  refine Aa (Dr (b:=((1:Nat):Int)) U U (N.sub_u32 (by omega) (by omega))) U<|Aa (Fa U U (N.and_u32 (by omega) (by omega))) U<|An (v:=.int .u32 ((takeB dt (pp+lenOf (clL dt (p+14) (takeB dt (p+10) 4+4)) v) (repN v):Nat):Int)) (congrArg (fun y:Nat=>Value.int .u32 (y:Int)) (by exact Hp hB (by omega)))<|Aa (Bv U Tu69 Tu3 (N.i64n (by omega))) U<|Aa (Bl U U (N.add64 (by omega))) U<|Ea U U<|Ek9 0 4 5 10 11 14 15 16 224 U<|Cr<|Em U U<|Aa (Ad U) U<|Aa (Ab U Dp) U<|Ag (Aj 3 (k:=3) U U U Ta69) U ?_
  refine Em U U<|Aa (Fl U U (by omega) (N.shr_u32 (by omega) _)) U<|An (v:=.int .u32 ((b/2^repN v:Nat):Int)) (congrArg (fun y:Nat=>Value.int .u32 (y:Int)) (by rw[Nat.shiftRight_eq_div_pow]))<|Aa (Ad U) U<|Aa (Ab U Dp) U ?_
  refine Ao (Aq 3 (k:=3) U U U U U Tz69) ?_;rintro _ _⟨rfl,rfl⟩;refine Et10 U ?_
  refine Ek9 0 4 5 10 11 14 15 16 224 U<|Cr<|Em U U<|Aa (Ad U) U<|Aa (Ab U Ed) U<|Ag (Aj 3 (k:=4) U U U Ta137) U<|Em U U<|Aa (Dr U U (N.sub_u64 (by omega) (by omega))) U<|Aa (Ad U) U<|Aa (Ab U Ed) U ?_
  refine Ao (Aq 3 (k:=4) U U U U U Tz137) ?_;rintro _ _⟨rfl,rfl⟩;refine Et10 U ?_
  refine Ek9 0 4 5 10 11 14 15 16 224 U<|Am<|Cr<|Em U U<|Em U U<|Aa (Bl U U (N.add64 (by omega))) U<|Em U U<|Aa (Fh U U) U<|Ek10 0 4 5 10 11 14 15 16 224 261 U<|Bf U (fun h261=>?_) (fun h261=>?_)
  ·refine Cr<|Em U U<|Aa (Ad U) U<|Aa (Ab U Ff) U<|Ag (Aj 3 (k:=2) U U U Ta2) U<|Aa (Eo U Hr) U<|An (v:=Er.val ea (.corrupt _)) (rfl)<|Ea U U<|Ek11 0 2 4 5 10 11 14 15 16 224 261 U<|Bb ?_
   exact⟨_,rfl,rh_bad2 hC1 (Ew _) (hdy.trans (by rw[hgo,lensGo_over (by omega) hsy hv16 hne hrs (by omega)])) hA (by rw[List.length_append,Db];exact hrl) hcl9 (Fm hraw2)⟩
  have hro:¬takeB dt p 5+257+(takeB dt (p+5) 5+1)<acc.length+(repB v+takeB dt (pp+lenOf (clL dt (p+14) (takeB dt (p+10) 4+4)) v) (repN v)):=by omega
  refine Ap<|Cr<|Ea U U<|Ek11 0 4 5 10 11 14 15 16 18 224 261 U<|As<|Bw (fun mm ee ll=>∃(j:Nat),∃(i2:Nat),keeps ee [0,4,5,10,11,14,16,18]=some [(0,.pointer (some ⟨fb,0,none⟩)),(4,.int .i64 ((takeB dt p 5+257:Nat):Int)),(5,.int .i64 ((takeB dt (p+5) 5+1:Nat):Int)),(10,.int .i64 ((i2:Nat):Int)),(11,.int .i64 ((takeB dt p 5+257+(takeB dt (p+5) 5+1):Nat):Int)),(14,.int .i64 ((repB v+takeB dt (pp+lenOf (clL dt (p+14) (takeB dt (p+10) 4+4)) v) (repN v):Nat):Int)),(16,.int .i64 (((if v=16 then acc.getLastD 0 else 0):Nat):Int)),(18,.int .i64 ((j:Nat):Int))]∧ll=[g1,g2,g3,⟨fb,0,[.iface src.t src.v,.pointer none,.int .i64 (ro),.int .u32 ((((b/2^repN v)):Nat):Int),.int .u64 ((((nb-repN v)):Nat):Int)]⟩,⟨fb,1045,[s0,s1,s2,s3,s4,s5,s6,s7,s8]⟩,⟨fb,1035,[.pointer (some ⟨ab,0,none⟩),.pointer (some ⟨cb,0,none⟩)]⟩,⟨ab,0,intsV (acc++List.replicate j (if v=16 then acc.getLastD 0 else 0))++rest.drop j⟩,⟨cb,0,intsV (clL dt (p+14) (takeB dt (p+10) 4+4))++[]⟩,⟨fb,520,cs2⟩]++LC∧(i2=acc.length+j)∧(j≤repB v+takeB dt (pp+lenOf (clL dt (p+14) (takeB dt (p+10) 4+4)) v) (repN v))∧mm=(repB v+takeB dt (pp+lenOf (clL dt (p+14) (takeB dt (p+10) 4+4)) v) (repN v))-j) (_) ⟨0,acc.length,rfl,(by simp),by omega,by omega,rfl⟩ ?_
  rintro m6 _ _⟨j,i2,hk6,rfl,hi2,hj,hm6⟩
  refine Av _ hk6 ?_
  subst hi2
  refine Am<|Cr<|Em U U<|Em U U<|Aa (Dl U U) U<|Ek9 0 4 5 10 11 14 16 18 269 U<|Bf U (fun h269=>?_) (fun h269=>?_)
  ·have hjr:0<(rest.drop j).length:=by rw[List.length_drop];omega
   refine Ap<|Am<|As<|Cr<|Em U U<|Aa (Ad U) U<|Aa (Ab U fa186_7) U<|Ag (Aj 5 (k:=0) U U U Ta178) U<|Em U U<|Em U U<|Aa (Ad U) U<|Aa (Bj U U (by omega) Tu188 Tz3) U ?_
   refine Ao (Aq 6 (k:=(acc.length+j)*1) U U U U (by rw[Nat.blt_eq,List.length_append,Db,List.length_append,List.length_replicate];omega) Tz3) ?_
   rintro _ _⟨rfl,rfl⟩
   refine Ax (L2:=[g1,g2,g3,⟨fb,0,[.iface src.t src.v,.pointer none,.int .i64 (ro),.int .u32 ((((b/2^repN v)):Nat):Int),.int .u64 ((((nb-repN v)):Nat):Int)]⟩,⟨fb,1045,[s0,s1,s2,s3,s4,s5,s6,s7,s8]⟩,⟨fb,1035,[.pointer (some ⟨ab,0,none⟩),.pointer (some ⟨cb,0,none⟩)]⟩,⟨ab,0,intsV (acc++List.replicate (j+1) (if v=16 then acc.getLastD 0 else 0))++rest.drop (j+1)⟩,⟨cb,0,intsV (clL dt (p+14) (takeB dt (p+10) 4+4))++[]⟩,⟨fb,520,cs2⟩]++LC) (congrArg (fun q=>([g1,g2,g3,⟨fb,0,[.iface src.t src.v,.pointer none,.int .i64 (ro),.int .u32 ((((b/2^repN v)):Nat):Int),.int .u64 ((((nb-repN v)):Nat):Int)]⟩,⟨fb,1045,[s0,s1,s2,s3,s4,s5,s6,s7,s8]⟩,⟨fb,1035,[.pointer (some ⟨ab,0,none⟩),.pointer (some ⟨cb,0,none⟩)]⟩,⟨ab,0,q⟩,⟨cb,0,intsV (clL dt (p+14) (takeB dt (p+10) 4+4))++[]⟩,⟨fb,520,cs2⟩]++LC:Frags)) (rep_set hjr))<|Ek9 0 4 5 10 11 14 16 18 269 U<|Al<|Em U U<|Aa (Bl (b:=((1:Nat):Int)) U U (N.add64 (by omega))) U<|Ea U U<|Ek9 0 4 5 10 11 14 16 18 269 U<|Al<|Em U U<|Aa (Bl (b:=((1:Nat):Int)) U U (N.add64 (by omega))) U<|Ea U U<|Ek9 0 4 5 10 11 14 16 18 269 U ?_
   refine⟨_,?_,j+1,acc.length+j+1,rfl,rfl,by omega,by omega,rfl⟩;omega
  have hj2:j=repB v+takeB dt (pp+lenOf (clL dt (p+14) (takeB dt (p+10) 4+4)) v) (repN v):=by omega
  subst hj2
  have hgo2:=hgo.trans (lensGo_rep (by omega) hsy hv16 hne hrs hro)
  have hlen2:(acc++List.replicate (repB v+takeB dt (pp+lenOf (clL dt (p+14) (takeB dt (p+10) 4+4)) v) (repN v)) (if v=16 then acc.getLastD 0 else 0)).length=acc.length+(repB v+takeB dt (pp+lenOf (clL dt (p+14) (takeB dt (p+10) 4+4)) v) (repN v)):=by rw[List.length_append,List.length_replicate]
  have hi3:=hlen2.symm
  have hal2:(acc++List.replicate (repB v+takeB dt (pp+lenOf (clL dt (p+14) (takeB dt (p+10) 4+4)) v) (repN v)) (if v=16 then acc.getLastD 0 else 0)).length≤takeB dt p 5+257+(takeB dt (p+5) 5+1):=by rw[hlen2];omega
  have hrl2:(acc++List.replicate (repB v+takeB dt (pp+lenOf (clL dt (p+14) (takeB dt (p+10) 4+4)) v) (repN v)) (if v=16 then acc.getLastD 0 else 0)).length+(rest.drop (repB v+takeB dt (pp+lenOf (clL dt (p+14) (takeB dt (p+10) 4+4)) v) (repN v))).length=316:=by rw[hlen2,List.length_drop];omega
  have ha2:∀x∈acc++List.replicate (repB v+takeB dt (pp+lenOf (clL dt (p+14) (takeB dt (p+10) 4+4)) v) (repN v)) (if v=16 then acc.getLastD 0 else 0),x≤15:=fun x hx=>by
    rcases List.mem_append.1 hx with h|h
    · exact ha15 x h
    · rw[(List.mem_replicate.1 h).2];exact last_le ha15 v
  refine Bu U ?_
  refine⟨_,?_,acc++List.replicate (repB v+takeB dt (pp+lenOf (clL dt (p+14) (takeB dt (p+10) 4+4)) v) (repN v)) (if v=16 then acc.getLastD 0 else 0),rest.drop (repB v+takeB dt (pp+lenOf (clL dt (p+14) (takeB dt (p+10) 4+4)) v) (repN v)),_,acc.length+(repB v+takeB dt (pp+lenOf (clL dt (p+14) (takeB dt (p+10) 4+4)) v) (repN v)),_,_,_,_,_,_,_,rfl,rfl,hA,htk.2,by omega,hgo2,hi3,hal2,hrl2,ha2,rfl⟩;have hrb0:0<repB v:=(by unfold repB;split<;>omega);rw[hlen2];omega
 have haN:acc.length=takeB dt p 5+257+(takeB dt (p+5) 5+1):=by omega
 rw[hgo,lensGo_done (by omega)]at hdy
 simp only at hdy
 have htl:(acc.take (takeB dt p 5+257)).length=takeB dt p 5+257:=by rw[List.length_take];omega
 have hdl:(acc.drop (takeB dt p 5+257)).length=takeB dt (p+5) 5+1:=by rw[List.length_drop];omega
 refine Bu U<|Am<|Am ?_
 have hsp:intsV acc++rest=(intsV (acc.take (takeB dt p 5+257))++[])++(intsV (acc.drop (takeB dt p 5+257))++rest):=by
   rw[List.append_nil,←List.append_assoc,intsV,intsV,intsV,←List.map_append,List.take_append_drop]
 refine Ga (Same.splitAt (k:=takeB dt p 5+257) (o':=takeB dt p 5+257) 6 U U hsp (by rw[List.append_nil,Db,htl]) (by omega)) ?_
 obtain⟨c1,J,hraw3,hS⟩:=same_raw hC1 [⟨ab,0,intsV (acc.take (takeB dt p 5+257))++[]⟩,⟨ab,takeB dt p 5+257,intsV (acc.drop (takeB dt p 5+257))++rest⟩,g1,g2,g3,⟨fb,0,[.iface src.t src.v,.pointer none,.int .i64 (ro),.int .u32 (((b):Nat):Int),.int .u64 (((nb):Nat):Int)]⟩,⟨fb,1045,[s0,s1,s2,s3,s4,s5,s6,s7,s8]⟩,⟨fb,1035,[.pointer (some ⟨ab,0,none⟩),.pointer (some ⟨cb,0,none⟩)]⟩,⟨cb,0,intsV (clL dt (p+14) (takeB dt (p+10) 4+4))++[]⟩,⟨fb,520,cs2⟩]
 refine Ga hS<|C.forget [0,0,0,0,0,0,0,0,0,0,0] (A:=[_,_,_,_,_,_,_,_,_,_,_]) U<|Bx (L2:=[⟨fb,5,c1⟩,⟨ab,0,intsV (acc.take (takeB dt p 5+257))++[]⟩,⟨ab,takeB dt p 5+257,intsV (acc.drop (takeB dt p 5+257))++rest⟩,g1,g2,g3,⟨fb,0,[.iface src.t src.v,.pointer none,.int .i64 (ro),.int .u32 (((b):Nat):Int),.int .u64 (((nb):Nat):Int)]⟩,⟨fb,1045,[s0,s1,s2,s3,s4,s5,s6,s7,s8]⟩,⟨fb,1035,[.pointer (some ⟨ab,0,none⟩),.pointer (some ⟨cb,0,none⟩)]⟩,⟨cb,0,intsV (clL dt (p+14) (takeB dt (p+10) 4+4))++[]⟩,⟨fb,520,cs2⟩]) U<|Bt [0,1,2,0,8,16,32,64,0,384,516,1024,3072,4096,12288,20480,4096,69632,135168,266240,528384,4096,4096,4096,12587008,19927040,33591296,67112960,134221824] (.pure 0 1016 (.pure 1 1017 (.pure 2 1019 (.pure 3 263 (.pure 4 271 (.pure 5 287 (.pure 8 255 (.seg [(6,319),(7,383),(9,511)] (.alt 10 (.pure 11 2047 (.pure 12 4095 (.pure 13 67051519 (.pure 14 67059711 (.pure 15 67076095 (.pure 16 31522815 (.pure 17 31588351 (.pure 18 31719423 (.pure 21 31457279 (.pure 22 12582911 (.pure 23 8388607 (.pure 24 16777215 (.seg [(19,31981567),(20,32505855),(25,33554431)] (.alt 26 (.pure 27 134217727 (.pure 28 268435455 .done)) .stop)))))))))))))) .stop))))))))) mixed (by decide+kernel)<|Dm U U U<|Ah U (Ad U) U<|Ah U (Ab U fa186_5) U<|Dm U U U<|Ah U (Ad U) U<|Ah U (Ab U fa186_7) U<|Dm U U U<|Dc (by decide) ?_
 refine Au U (Aj 8 (k:=0) U U U Ta178) U<|Ba U (Ad U) U<|Ba U (Fo (l:=0) U U U (by omega) (by omega) Tu188 Tz3) U ?_
 refine Dy (v:=.slice (some ⟨ab,0,none⟩) ((acc.take (takeB dt p 5+257)).length) (316)) (Dj (by simp[part]) (by rw[htl];rfl) U) ?_
 refine Da<|By ?_
 refine Bo U (Ar U Tryz.call98 (init_in fb 5 ab 0 316 _ [] (acc.take (takeB dt p 5+257)) hraw3 (fun x h=>ha15 x (List.mem_of_mem_take h)) (by omega) _)) U ?_;rintro _ _⟨L1,ok2,rfl,hI1,rfl⟩;refine Dt11 U ?_
 refine Ah U (Gc U) U<|Dm U U U<|D.forkB (fun g294=>?_) (fun g294=>?_)
 ·refine Fb 294 true U U U U U<|Fb 294 true U U U U U<|Fb 294 true U U U U U<|Fb 294 true U U U U U<|Fb 294 true U U U U U<|Fb 294 true U U U U U<|Fb 294 true U U U U U<|Fb 294 true U U U U U<|Fb 294 true U U U U U<|Fb 294 true U U U U U<|Dc (by decide)<|Hz 294 true U U U U U ?_
  refine Hz 294 true U U U U U<|Hz 294 true U U U U U<|Da<|By<|O.skip 294 true U U U U U<|Fb 294 true U U U U U<|Ah U (Bz U U) U<|Dk7 0 4 5 10 11 171 310 U<|He U (rfl)<|Am ?_
  obtain⟨_,hno,hz,hzl,rfl⟩:=hI1.resolve_left (fun h=>by rw[h.1]at g294;cases g294)
  refine Ga (Same.joinAt 0 0 U U (by rw[List.append_nil,Db,htl,Nat.zero_add])) ?_
  refine Bx (L2:=[⟨ab,0,intsV acc++rest⟩,g1,g2,g3,⟨fb,0,[.iface src.t src.v,.pointer none,.int .i64 (ro),.int .u32 (((b):Nat):Int),.int .u64 (((nb):Nat):Int)]⟩,⟨fb,1045,[s0,s1,s2,s3,s4,s5,s6,s7,s8]⟩,⟨fb,1035,[.pointer (some ⟨ab,0,none⟩),.pointer (some ⟨cb,0,none⟩)]⟩,⟨cb,0,intsV (clL dt (p+14) (takeB dt (p+10) 4+4))++[]⟩,⟨fb,520,cs2⟩,⟨fb,5,hz⟩]) (by rw[hsp];rfl) ?_
  refine Al<|Em U U<|Aa (Ad U) U<|Aa (Ab U Ff) U<|Ag (Aj 4 (k:=2) U U U Ta2) U<|Aa (Eo U Hr) U<|An (v:=Er.val ea (.corrupt _)) (rfl)<|Ea U U<|Ek8 0 2 4 5 10 11 171 310 U<|Bb ?_
  refine⟨_,rfl,_,[],(Same.perm (Br (A:=[_,_,_,_,_,_,_,_,_,_]) (F:=[]) (is:=[1,1,1,1,1,1,0,0,1,0]) U)).trans (Same.of_eq U),_,_,_,_,_,_,_,_,_,_,_,rfl,?_,?_,rfl,.inr ⟨Ew _,?_,⟨_,hA⟩,hz,cs2,hzl,Fm hraw2,rfl⟩⟩
  · rw[List.length_append,Db];exact hrl
  · exact hcl9
  · rw[hdy,if_neg (fun h=>hno h.1)]
 refine Gq 294 U U U (OpP.toK (Fp U)) U<|Gq 294 U U U (OpP.toK (Ad U)) U<|Gq 294 U U U (OpP.toK (Ab U fa186_6)) U<|Gq 294 U U U (OpP.toK (Fp U)) U<|Gq 294 U U U (OpP.toK (Ad U)) U<|Gq 294 U U U (OpP.toK (Ab U fa186_7)) U<|Gq 294 U U U (OpP.toK (Fp U)) U<|Gq 294 U U U (OpP.toK (Fp U)) U<|Gq 294 U U U (OpP.toK (Fp U)) U<|Gq 294 U U U (OpP.toK (Bl U U (N.add64 (by omega)))) U<|Dc (by decide)<|W.yes 294 U U U (Aj 7 (k:=0) U U U Ta178) U ?_
 refine W.yes 294 U U U (fun a w hf _=>(Ad U) a w hf) U<|W.yes 294 U U U (fun a w hf _=>(Fo U U U (by omega) (by omega) Tu188 Tz3) a w hf) U ?_
 refine Dy (v:=.slice (some ⟨ab,takeB dt p 5+257,none⟩) ((acc.drop (takeB dt p 5+257)).length) (316-(takeB dt p 5+257))) (Dj (by rw[part,if_neg (by omega)];omega) (by rw[hdl];omega) U) ?_
 refine Da<|By ?_
 refine O.yes 294 U U U (OpX.perm (Br (is:=[9,1]) (A:=[_,_]) (F:=_::_::_::_::_::_::_::_::_) U) (Ar U Tryz.call98 (init_in fb 520 ab (takeB dt p 5+257) (316-(takeB dt p 5+257)) _ rest (acc.drop (takeB dt p 5+257)) hraw2 (fun x h=>ha15 x (List.mem_of_mem_drop h)) (by omega) _))) U ?_;rintro _ _⟨L2,ok3,rfl,hI2,rfl⟩;refine Dt10 U ?_
 refine Gq 294 U U U (OpP.toK (Gc U)) U<|Ah U (Bk U U) U<|Dk7 0 4 5 10 11 171 310 U<|Eg U (fun h310=>?_) (fun h310=>?_)
 ·obtain⟨_,hno,hz,hzl,rfl⟩:=hI2.resolve_left (fun h=>by rw[h.1]at h310;cases h310)
  obtain⟨_,hok1,hH1⟩:=hI1.resolve_right (fun h=>by rw[h.1]at g294;cases g294)
  refine Am<|Ga (Same.joinAt 1 0 U U (by rw[List.append_nil,Db,htl,Nat.zero_add])) ?_
  refine Bx (L2:=⟨ab,0,intsV acc++rest⟩::g1::g2::g3::⟨fb,0,[.iface src.t src.v,.pointer none,.int .i64 (ro),.int .u32 (((b):Nat):Int),.int .u64 (((nb):Nat):Int)]⟩::⟨fb,1045,[s0,s1,s2,s3,s4,s5,s6,s7,s8]⟩::⟨fb,1035,[.pointer (some ⟨ab,0,none⟩),.pointer (some ⟨cb,0,none⟩)]⟩::⟨cb,0,intsV (clL dt (p+14) (takeB dt (p+10) 4+4))++[]⟩::(L1++[⟨fb,520,hz⟩])) (by rw[hsp];rfl) ?_
  refine Al<|Em U U<|Aa (Ad U) U<|Aa (Ab U Ff) U<|Ag (Aj 4 (k:=2) U U U Ta2) U<|Aa (Eo U Hr) U<|An (v:=Er.val ea (.corrupt _)) (rfl)<|Ea U U<|Ek8 0 2 4 5 10 11 171 310 U<|Bb ?_
  exact⟨_,rfl,rh_bad3 hH1 (Ew _) (by rw[hdy,if_neg (fun h=>hno h.2)]) hA (by rw[List.length_append,Db];exact hrl) hcl9 hzl⟩
 obtain⟨_,hok2,hH2⟩:=hI2.resolve_right (fun h=>by rw[h.1]at h310;cases h310)
 obtain⟨_,hok1,hH1⟩:=hI1.resolve_right (fun h=>by rw[h.1]at g294;cases g294)
 refine Ap<|Am<|Am ?_
 obtain⟨f,g,nt,nk,lv,T1,hTab,hfb,hgb,hnk0,hnk64,hke,hz0,rfl,hT⟩:=hH1
 refine Ga (Same.joinAt 1 0 U U (by rw[List.append_nil,Db,htl,Nat.zero_add])) ?_
 refine Bx (L2:=⟨ab,0,intsV acc++rest⟩::g1::g2::g3::⟨fb,0,[.iface src.t src.v,.pointer none,.int .i64 (ro),.int .u32 (((b):Nat):Int),.int .u64 (((nb):Nat):Int)]⟩::⟨fb,1045,[s0,s1,s2,s3,s4,s5,s6,s7,s8]⟩::⟨fb,1035,[.pointer (some ⟨ab,0,none⟩),.pointer (some ⟨cb,0,none⟩)]⟩::⟨cb,0,intsV (clL dt (p+14) (takeB dt (p+10) 4+4))++[]⟩::⟨fb,5,[.int .i64 ((minL (acc.take (takeB dt p 5+257)):Nat):Int)]⟩::⟨fb,5+1,cellsU 512 f⟩::⟨fb,5+513,[lv,.int .u32 ((nk-1:Nat):Int)]⟩::(T1++L2)) (by rw[hsp];rfl) ?_
 refine Bt [0,1,2,4,8,0,32,64,128,256,512,1024,2064] (.pure 0 4064 (.pure 1 4065 (.pure 2 4067 (.pure 3 4071 (.pure 5 31 (.pure 6 63 (.pure 7 127 (.seg [(4,4079),(8,255),(9,511),(10,1023),(11,2047),(12,4095)] .done)))))))) mixed (by decide+kernel)<|Dm U U U<|Ah U (Ad U) U<|Ah U (Ab U fa186_5) U<|Ah U (Ab U fa177_0) U<|Dm U U U<|Ah U (Ad U) U<|Ah U (Ab U fa186_7) U<|Dc (by decide)<|Au U (Aj 8 (k:=0) U U U Ta3) U<|Au U (Aj 6 (k:=0) U U U Ta178) U<|Ba U (Ad U) U ?_
 refine Ba U (Bj (i:=256) U U (by omega) Tu188 Tz3) U<|Au U (Aj 0 (k:=256*1) U U (get_256 (by omega)) Ta3) U<|Ba U (Dl U U) U<|Da<|Dk8 0 4 5 10 11 171 310 328 U<|Bf U (fun h328=>?_) (fun h328=>?_)
 ·refine Al<|Em U U<|Em U U<|Aa (Ad U) U<|Aa (Ab U fa186_7) U<|Ag (Aj 6 (k:=0) U U U Ta178) U<|Aa (Ad U) U<|Aa (Bj (i:=256) U U (by omega) Tu188 Tz3) U<|Ag (Aj 0 (k:=256*1) U U (get_256 (by omega)) Ta3) U<|Aa (Ad U) U<|Aa (Ab U fa186_5) U<|Aa (Ab U fa177_0) U ?_
  refine Ao (Aq 8 (k:=0) U U U U U Tz3) ?_;rintro _ _⟨rfl,rfl⟩;refine Et12 U ?_
  refine Ek8 0 4 5 10 11 171 310 328 U<|Cr<|Aa (Az (v:=Er.val ea .none) U) U<|Ek9 0 2 4 5 10 11 171 310 328 U<|Bb ?_
  have h256:256<acc.length:=by omega
  have he:lenOf (acc.take (takeB dt p 5+257)) 256=acc.getD 256 0:=by rw[lenOf,List.getD_eq_getElem?_getD,List.getElem?_take,if_pos (by omega),←List.getD_eq_getElem?_getD]
  have hl15:∀s,lenOf (acc.take (takeB dt p 5+257)) s≤15:=Hh fun x h=>ha15 x (List.mem_of_mem_take h)
  have hd15:∀s,lenOf (acc.drop (takeB dt p 5+257)) s≤15:=Hh fun x h=>ha15 x (List.mem_of_mem_drop h)
  rw[if_pos ⟨hok1,hok2⟩,←he]at hdy
  have hm15:=min_15 hl15
  have hm256:=hl15 256
  have hmx:acc.getD 256 0=max (minL (acc.take (takeB dt p 5+257))) (lenOf (acc.take (takeB dt p 5+257)) 256):=by rw[he];omega
  have hH3:HufT (acc.take (takeB dt p 5+257)) (max (minL (acc.take (takeB dt p 5+257))) (lenOf (acc.take (takeB dt p 5+257)) 256)) fb 5 ([⟨fb,5,[.int .i64 ((acc.getD 256 0:Nat):Int)]⟩,⟨fb,5+1,cellsU 512 f⟩,⟨fb,5+513,[lv,.int .u32 ((nk-1:Nat):Int)]⟩]++T1):=by
    rw[←hmx];exact⟨f,g,nt,nk,lv,T1,hTab,hfb,hgb,hnk0,hnk64,hke,fun h=>by omega,rfl,hT⟩
  refine⟨_,rfl,_,[],(Same.perm (Br (A:=[_,_,_,_,_,_,_,_]) (F:=_) (is:=[1,1,1,1,1,1,0,0]) U)).trans (Same.of_eq (List.append_nil _).symm),_,_,_,_,_,_,_,_,_,_,_,rfl,?_,hcl9,rfl,.inl ⟨rfl,_,pp,q,b,nb,ro,_,L2,hdy,hA,hB,hnb,⟨hH3,hok1,hl15,Nat.le_max_left _ _,(by show max _ _≤15;omega),?_,by simp only;omega⟩,.inr ⟨fb,520,rfl,hH2,hok2,hd15,by simp only;omega⟩,rfl,rfl,rfl,rfl,rfl⟩⟩
  · rw[List.length_append,Db];exact hrl
  · simp only
    rcases Nat.eq_zero_or_pos (lenOf (acc.take (takeB dt p 5+257)) 256)with h0|h0
    · exact .inl h0
    · right
      have h6:minL (acc.take (takeB dt p 5+257))≤lenOf (acc.take (takeB dt p 5+257)) 256:=by have hlt0:=Dx h0;rw[Bp hlt0]at h0⊢;exact(Fs _).2.1 _ (List.getElem_mem _) (by omega)
      omega
 refine Ap<|Cr<|Aa (Az (v:=Er.val ea .none) U) U<|Ek9 0 2 4 5 10 11 171 310 328 U<|Bb ?_
 have h256:256<acc.length:=by omega
 have he:lenOf (acc.take (takeB dt p 5+257)) 256=acc.getD 256 0:=by rw[lenOf,List.getD_eq_getElem?_getD,List.getElem?_take,if_pos (by omega),←List.getD_eq_getElem?_getD]
 have hl15:∀s,lenOf (acc.take (takeB dt p 5+257)) s≤15:=Hh fun x h=>ha15 x (List.mem_of_mem_take h)
 have hd15:∀s,lenOf (acc.drop (takeB dt p 5+257)) s≤15:=Hh fun x h=>ha15 x (List.mem_of_mem_drop h)
 rw[if_pos ⟨hok1,hok2⟩,←he]at hdy
 have hm15:=min_15 hl15
 have hm256:=hl15 256
 have hmx:minL (acc.take (takeB dt p 5+257))=max (minL (acc.take (takeB dt p 5+257))) (lenOf (acc.take (takeB dt p 5+257)) 256):=by rw[he];omega
 have hH3:HufT (acc.take (takeB dt p 5+257)) (max (minL (acc.take (takeB dt p 5+257))) (lenOf (acc.take (takeB dt p 5+257)) 256)) fb 5 ([⟨fb,5,[.int .i64 ((minL (acc.take (takeB dt p 5+257)):Nat):Int)]⟩,⟨fb,5+1,cellsU 512 f⟩,⟨fb,5+513,[lv,.int .u32 ((nk-1:Nat):Int)]⟩]++T1):=by
   rw[←hmx];exact⟨f,g,nt,nk,lv,T1,hTab,hfb,hgb,hnk0,hnk64,hke,hz0,rfl,hT⟩
 refine⟨_,rfl,_,[],(Same.perm (Br (A:=[_,_,_,_,_,_,_,_]) (F:=_) (is:=[1,1,1,1,1,1,0,0]) U)).trans (Same.of_eq (List.append_nil _).symm),_,_,_,_,_,_,_,_,_,_,_,rfl,?_,hcl9,rfl,.inl ⟨rfl,_,pp,q,b,nb,ro,_,L2,hdy,hA,hB,hnb,⟨hH3,hok1,hl15,Nat.le_max_left _ _,(by show max _ _≤15;omega),?_,by simp only;omega⟩,.inr ⟨fb,520,rfl,hH2,hok2,hd15,by simp only;omega⟩,rfl,rfl,rfl,rfl,rfl⟩⟩
 · rw[List.length_append,Db];exact hrl
 · simp only
   rcases Nat.eq_zero_or_pos (lenOf (acc.take (takeB dt p 5+257)) 256)with h0|h0
   · exact .inl h0
   · right
     have h6:minL (acc.take (takeB dt p 5+257))≤lenOf (acc.take (takeB dt p 5+257)) 256:=by have hlt0:=Dx h0;rw[Bp hlt0]at h0⊢;exact(Fs _).2.1 _ (List.getElem_mem _) (by omega)
     omega
theorem copyN_pre(out:List UInt8)(d:Nat):∀n,∃s,copyN out d n=out++s
  |0=>⟨[],(List.append_nil _).symm⟩
  |n+1=>by
    obtain⟨s,hs⟩:=copyN_pre out d n
    exact⟨s++[(copyN out d n).getD ((copyN out d n).length-d) 0],by rw[copyN,hs,List.append_assoc]⟩
theorem run_pre_aux(D:List UInt8):∀k ph out p,8*D.length-p<k→∃s,(run D ph out p).1=out++s:=by
  intro k
  induction k with
  |zero=>exact fun ph out p hk=>absurd hk (Nat.not_lt_zero _)
  |succ k ih=>
    intro ph out p hk
    have nl:∀s,∃s',out++s=out++s':=fun s=>⟨s,rfl⟩
    have n0:∃s',out=out++s':=⟨[],(List.append_nil _).symm⟩
    have st:∀ph s p2,p<p2∧p2≤8*D.length→∃s',(run D ph (out++s) p2).1=out++s':=fun ph s p2 h=>by
      obtain⟨s',hs⟩:=ih ph (out++s) p2 (by omega)
      exact⟨s++s',by rw[hs,List.append_assoc]⟩
    have s0:∀ph p2,p<p2∧p2≤8*D.length→∃s',(run D ph out p2).1=out++s':=fun ph p2 h=>ih ph out p2 (by omega)
    have cp:∀ph d n p2,p<p2∧p2≤8*D.length→∃s',(run D ph (copyN out d n) p2).1=out++s':=fun ph d n p2 h=>by
      obtain⟨s,hs⟩:=copyN_pre out d n
      rw[hs];exact st _ _ _ h
    rw[run.eq_def]
    repeat (first
      |exact n0
      |exact nl _
      |(rename_i h;exact st _ _ _ h)
      |(rename_i h;exact s0 _ _ h)
      |(rename_i h;exact cp _ _ _ _ h)
      |split)
theorem run_pre(D:List UInt8)(ph:Ph)(out:List UInt8)(p:Nat):∃s,(run D ph out p).1=out++s:=run_pre_aux D _ ph out p (Nat.le_refl _)
theorem stored_pre(D:List UInt8)(last:Bool)(n:Nat)(out:List UInt8)(q:Nat):∃s,(stored D last n out q).1=out++s:=by
  unfold stored
  split
  · exact⟨_,rfl⟩
  · split
    · exact⟨_,rfl⟩
    · obtain⟨s,hs⟩:=run_pre D .next (out++(D.drop q).take n) (8*(q+n))
      exact⟨(D.drop q).take n++s,by rw[hs,List.append_assoc]⟩
theorem TR.drop{hb n:Nat}{h pend:List UInt8}{a:Option Addr}{c:Nat}(t:TR hb h pend (.slice a pend.length c))(hn:n≤pend.length){a2:Option Addr}{c2:Nat}(ha:∀off,a=some ⟨hb,off,none⟩→n<pend.length→pend.length≤c→a2=some ⟨hb,off+n,none⟩∧pend.length-n≤c2):
    TR hb h (pend.drop n) (.slice a2 (pend.length-n) c2):=by
  obtain⟨a',c',e,h1,h2⟩:=t
  cases e
  refine⟨a2,c2,by rw[List.length_drop],by rw[List.length_drop];omega,?_⟩
  rcases Nat.lt_or_ge n pend.length with hlt|hge
  · right
    rcases h2 with rfl|⟨off,e2,h3,h5⟩
    · simp at hlt
    · refine⟨off+n,(ha off e2 hlt h5).1,?_,by rw[List.length_drop];exact(ha off e2 hlt h5).2⟩
      have h4:((h.drop off).take pend.length).drop n=pend.drop n:=by rw[h3]
      rw[List.drop_take]at h4
      rw[List.length_drop,←List.drop_drop]
      exact h4
  · exact .inl (List.drop_eq_nil_of_le hge)
theorem WinSt.give{fb hb gv n:Nat}{out pend:List UInt8}{trv trv2:Value}{h:List UInt8}{wr rd:Nat}{full:Bool}{A B:Frag}(W:WinSt fb hb gv out pend trv h wr rd full A B)(hn:n≤pend.length)(ht:TR hb h (pend.drop n) trv2):
    WinSt fb hb (gv+n) out (pend.drop n) trv2 h wr rd full A B:=by
  refine⟨W.hist,W.rdLe,W.wrLt,?_,?_,ht,W.isA,W.isB⟩
  · have:=W.sum
    rw[List.length_drop];omega
  · have:=W.pendIs
    rw[List.length_drop,←List.drop_drop,←List.drop_take,←this]
def RawTL(fb:Nat)(TL:Frags):Prop:=
  ∃ab cb ws av cs c1 c2,ws.length=4∧av.length=316∧cs.length=19∧RawH c1∧RawH c2∧TL=[⟨fb,1041,ws⟩,⟨fb,1035,[.pointer (some ⟨ab,0,none⟩),.pointer (some ⟨cb,0,none⟩)]⟩,⟨ab,0,av⟩,⟨cb,0,cs⟩,⟨fb,5,c1⟩,⟨fb,520,c2⟩]
def JunkTL(fb:Nat)(TL:Frags):Prop:=
  ∃ab cb ws av cs c1 c2,ws.length=4∧av.length=316∧cs.length=19∧c1.length=515∧c2.length=515∧TL=[⟨fb,1041,ws⟩,⟨fb,1035,[.pointer (some ⟨ab,0,none⟩),.pointer (some ⟨cb,0,none⟩)]⟩,⟨ab,0,av⟩,⟨cb,0,cs⟩,⟨fb,5,c1⟩,⟨fb,520,c2⟩]
def SymTL(fb:Nat)(t:Tabs)(hl hd:Value)(TL:Frags):Prop:=
  ∃ab cb ws av cs lb lo hp HL HD RT,ws.length=4∧av.length=316∧cs.length=19∧hl=.pointer (some ⟨lb,lo,none⟩)∧hd=.pointer hp∧LitT t lb lo HL∧DistT t hp HD∧
    TL=⟨fb,1041,ws⟩::⟨fb,1035,[.pointer (some ⟨ab,0,none⟩),.pointer (some ⟨cb,0,none⟩)]⟩::⟨ab,0,av⟩::⟨cb,0,cs⟩::(RT++(HL++HD))∧
    ∃c1 c2 J,RawH c1∧RawH c2∧∀G,Same (G++(RT++(HL++HD))) ((G++[⟨fb,5,c1⟩,⟨fb,520,c2⟩])++J)
theorem RawTL.junk{fb:Nat}{TL:Frags}(h:RawTL fb TL):JunkTL fb TL:=by
  obtain⟨ab,cb,ws,av,cs,c1,c2,h1,h2,h3,h4,h5,h6⟩:=h
  exact⟨ab,cb,ws,av,cs,c1,c2,h1,h2,h3,Fm h4,Fm h5,h6⟩
theorem SymTL.raw{fb:Nat}{t:Tabs}{hl hd:Value}{TL:Frags}(h:SymTL fb t hl hd TL)(G:Frags):∃TL2 J,RawTL fb TL2∧Same (G++TL) ((G++TL2)++J):=by
  obtain⟨ab,cb,ws,av,cs,lb,lo,hp,HL,HD,RT,h1,h2,h3,h4,h5,h6,h7,rfl,c1,c2,J,h8,h9,hS⟩:=h
  refine⟨[_,_,_,_,_,_],J,⟨ab,cb,ws,av,cs,c1,c2,h1,h2,h3,h8,h9,rfl⟩,?_⟩
  have:=hS (G++[⟨fb,1041,ws⟩,⟨fb,1035,[.pointer (some ⟨ab,0,none⟩),.pointer (some ⟨cb,0,none⟩)]⟩,⟨ab,0,av⟩,⟨cb,0,cs⟩])
  simpa only[List.append_assoc,List.cons_append,List.nil_append]using this
theorem symTL_own{fb ab cb:Nat}{t:Tabs}{HL HD:Frags}{ws av cs:List Value}(h1:ws.length=4)(h2:av.length=316)(h3:cs.length=19)(hL:LitT t fb 5 HL)(hD:DistT t (some ⟨fb,520,none⟩) HD):
    SymTL fb t (.pointer (some ⟨fb,5,none⟩)) (.pointer (some ⟨fb,520,none⟩)) (⟨fb,1041,ws⟩::⟨fb,1035,[.pointer (some ⟨ab,0,none⟩),.pointer (some ⟨cb,0,none⟩)]⟩::⟨ab,0,av⟩::⟨cb,0,cs⟩::(HL++HD)):=by
  obtain⟨c1,J1,r1,s1⟩:=huf_raw hL.huf
  obtain⟨c2,J2,r2,s2⟩:∃c2 J2,RawH c2∧∀F,Same (HD++F) (⟨fb,520,c2⟩::(J2++F)):=by
    rcases hD with⟨h,_⟩|⟨db,dO,e,hh,_⟩
    · cases h
    · cases e;exact huf_raw hh
  refine⟨ab,cb,ws,av,cs,fb,5,_,HL,HD,[],h1,h2,h3,rfl,rfl,hL,hD,rfl,c1,c2,J1++J2,r1,r2,fun G=>?_⟩
  refine(Same.appendL G (s1 HD)).trans ?_
  have p1:(G++(⟨fb,5,c1⟩::(J1++HD))).Perm (HD++(G++(⟨fb,5,c1⟩::J1))):=by
    rw[show G++(⟨fb,5,c1⟩::(J1++HD))=(G++(⟨fb,5,c1⟩::J1))++HD by simp]
    exact List.perm_append_comm
  refine(Same.perm p1).trans ((s2 _).trans (Same.perm ?_))
  have p2:(⟨fb,520,c2⟩::(J2++(G++(⟨fb,5,c1⟩::J1)))).Perm (⟨fb,520,c2⟩::((G++(⟨fb,5,c1⟩::J1))++J2)):=.cons _ List.perm_append_comm
  refine p2.trans ?_
  rw[show((G++[⟨fb,5,c1⟩,⟨fb,520,c2⟩])++(J1++J2))=(G++[⟨fb,5,c1⟩])++(⟨fb,520,c2⟩::(J1++J2)) by simp]
  refine List.Perm.trans ?_ List.perm_middle.symm
  rw[show(G++(⟨fb,5,c1⟩::J1))++J2=(G++[⟨fb,5,c1⟩])++(J1++J2) by simp]
theorem symTL_fix{fb ab cb qb:Nat}{HL:Frags}{t:Tabs}{ws av cs c1 c2:List Value}(h1:ws.length=4)(h2:av.length=316)(h3:cs.length=19)(r1:RawH c1)(r2:RawH c2)(hL:LitT t qb 0 HL)(hD:DistT t none []):
    SymTL fb t (.pointer (some ⟨qb,0,none⟩)) (.pointer none) (⟨fb,1041,ws⟩::⟨fb,1035,[.pointer (some ⟨ab,0,none⟩),.pointer (some ⟨cb,0,none⟩)]⟩::⟨ab,0,av⟩::⟨cb,0,cs⟩::⟨fb,5,c1⟩::⟨fb,520,c2⟩::HL):=
  ⟨ab,cb,ws,av,cs,qb,0,_,HL,[],[⟨fb,5,c1⟩,⟨fb,520,c2⟩],h1,h2,h3,rfl,rfl,hL,hD,by rw[List.append_nil];rfl,c1,c2,HL,r1,r2,fun G=>by
    rw[List.append_nil,List.append_assoc];exact Same.refl _⟩
def DecSt{K:Known}{ea:Fin 5→Addr}(src:Src K ea)(dt:List UInt8)(fb hb:Nat)(R:ResR)(gv:Nat)(pend:List UInt8)(m:Nat)(x1 x2 x3 A T W H:Frag)(TL:Frags):Prop:=
  (∃p,m=8*dt.length-p+1∧NextSt src dt fb hb R gv pend p x1 x2 x3 A T W H∧RawTL fb TL)∨
  (m=8*dt.length+2∧∃t last hl hd,SymSt src dt fb hb R gv pend t last hl hd 92 x1 x2 x3 A T W H∧SymTL fb t hl hd TL)∨
  (m=8*dt.length+2∧∃q,StorSt src dt fb hb R gv pend q x1 x2 x3 A T W H∧RawTL fb TL)∨
  (m=0∧EndSt src dt fb hb R gv pend x1 x2 x3 A T W H∧JunkTL fb TL)
def StepEnd{K:Known}{ea:Fin 5→Addr}(src:Src K ea)(dt:List UInt8)(fb hb:Nat)(R:ResR)(gv m:Nat)(r:Value)(L:Frags):Prop:=
  r=.tuple #[]∧∃pend m2 y1 y2 y3 A T W H TL,(pend≠[]∨m2<m)∧DecSt src dt fb hb R gv pend m2 y1 y2 y3 A T W H TL∧L=y1::y2::y3::A::T::W::H::TL
structure DecV{K:Known}{ea:Fin 5→Addr}(src:Src K ea)(dt:List UInt8)(fb hb:Nat)(R:ResR)(gv:Nat)(pend:List UInt8)(m:Nat)(x1 x2 x3 A T W H:Frag)(TL:Frags)(er:Er)(fv c1 c2 c5 c6 c7 c8 trv:Value)(h:List UInt8)(wr rd:Nat)(full:Bool):Prop where
  isT:T=⟨fb,1045,[fv,c1,c2,Er.val ea er,trv,c5,c6,c7,c8]⟩
  isW:W=⟨fb,1037,[.slice (some ⟨hb,0,none⟩) 32768 32768,.int .i64 ((wr:Nat):Int),.int .i64 ((rd:Nat):Int),.bool full]⟩
  isH:H=⟨hb,0,bytesV h⟩
  len:h.length=32768
  rdLe:rd≤wr
  wrLt:wr<32768
  tr:TR hb h pend trv
  gvLe:gv+pend.length≤R.1.length
  pendIs:pend=(R.1.drop gv).take pend.length
  kind:(er=.none∧0<m∧∃k,fv=.func (.func k) #[] #[]∧(k=82∨k=92∨k=97))∨(er≠.none∧m=0∧EndOk src dt R.2 er x1 x2 x3∧(pend=[]∨gv+pend.length=R.1.length))
  give:∀n trv2,n≤pend.length→TR hb h (pend.drop n) trv2→DecSt src dt fb hb R (gv+n) (pend.drop n) m x1 x2 x3 A ⟨fb,1045,[fv,c1,c2,Er.val ea er,trv2,c5,c6,c7,c8]⟩ W H TL
  flush:∀v A2,er≠.none→pend=[]→FlushEnd fb 1037 hb wr rd full v A2→DecSt src dt fb hb R gv (R.1.drop gv) 0 x1 x2 x3 A ⟨fb,1045,[fv,c1,c2,Er.val ea er,v,c5,c6,c7,c8]⟩ A2 H TL
theorem WinSt.facts{fb hb gv:Nat}{out pend:List UInt8}{trv:Value}{h:List UInt8}{wr rd:Nat}{full:Bool}{A B:Frag}(W:WinSt fb hb gv out pend trv h wr rd full A B){r s:List UInt8}(hr:r=out++s):
    h.length=32768∧gv+pend.length≤r.length∧pend=(r.drop gv).take pend.length:=by
  have hs:=W.sum
  have hl:=W.hist.len
  refine⟨hl,by rw[hr,List.length_append];omega,?_⟩
  have:=W.pendIs
  rw[hr,List.drop_append_of_le_length (by omega),List.take_append_of_le_length (by rw[List.length_drop];omega),←this]
theorem endOk_ne{K:Known}{ea:Fin 5→Addr}{src:Src K ea}{dt:List UInt8}{e:EndR}{er:Er}{x1 x2 x3:Frag}(h:EndOk src dt e er x1 x2 x3):er≠.none:=by
  rcases h with⟨q,_,rfl,_⟩|⟨_,h,_⟩
  · intro h;cases h
  · exact h.2
theorem DecSt.view{K:Known}{ea:Fin 5→Addr}{src:Src K ea}{dt:List UInt8}{fb hb:Nat}{R:ResR}{gv:Nat}{pend:List UInt8}{m:Nat}{x1 x2 x3 A T W H:Frag}{TL:Frags}(D:DecSt src dt fb hb R gv pend m x1 x2 x3 A T W H TL):
    ∃er fv c1 c2 c5 c6 c7 c8 trv h wr rd full,DecV src dt fb hb R gv pend m x1 x2 x3 A T W H TL er fv c1 c2 c5 c6 c7 c8 trv h wr rd full:=by
  rcases D with⟨p,rfl,⟨q,nb,out,trv,h,wr,rd,full,ss,fin,hl,hd,cl,cd,hh,hn,hW,rfl,hss,hR⟩,hT⟩|⟨rfl,t,last,hl,hd,⟨p,q,nb,out,trv,h,wr,rd,full,ss,cl,cd,hh,hn,hW,rfl,hR⟩,hT⟩|⟨rfl,q,⟨out,trv,h,wr,rd,full,ss,last,hl,hd,cl,cd,hh,hW,rfl,hss,hcl,hR⟩,hT⟩|⟨rfl,⟨out,e,er,trv,h,wr,rd,full,hE,hA,hW,⟨a,b,c,d,f,g,i,rfl⟩,hR,hall⟩,hT⟩
  · obtain⟨s,hs⟩:=run_pre dt .next out p
    rw[←hR]at hs
    have hf:=hW.facts hs
    exact⟨.none,_,_,_,_,_,_,_,trv,h,wr,rd,full,rfl,hW.isA,hW.isB,hf.1,hW.rdLe,hW.wrLt,hW.tr,hf.2.1,hf.2.2,.inl ⟨rfl,by omega,_,rfl,.inl U⟩,
      fun n trv2 hn2 ht=>.inl ⟨p,rfl,⟨q,nb,out,trv2,h,wr,rd,full,ss,fin,hl,hd,cl,cd,hh,hn,hW.give hn2 ht,rfl,hss,hR⟩,hT⟩,fun v A2 h1=>absurd rfl h1⟩
  · obtain⟨s,hs⟩:∃s,R.1=out++s:=by
      rcases hR with⟨_,hR⟩|⟨_,_,_,_,hR⟩
      · rw[hR];exact run_pre _ _ _ _
      · rw[hR]
        obtain⟨s1,h1⟩:=copyN_pre out cd cl
        obtain⟨s2,h2⟩:=run_pre dt (.sym last t) (copyN out cd cl) p
        exact⟨s1++s2,by rw[h2,h1,List.append_assoc]⟩
    have hf:=hW.facts hs
    exact⟨.none,_,_,_,_,_,_,_,trv,h,wr,rd,full,rfl,hW.isA,hW.isB,hf.1,hW.rdLe,hW.wrLt,hW.tr,hf.2.1,hf.2.2,.inl ⟨rfl,by omega,_,rfl,.inr (.inl U)⟩,
      fun n trv2 hn2 ht=>.inr (.inl ⟨rfl,t,last,hl,hd,⟨p,q,nb,out,trv2,h,wr,rd,full,ss,cl,cd,hh,hn,hW.give hn2 ht,rfl,hR⟩,hT⟩),fun v A2 h1=>absurd rfl h1⟩
  · obtain⟨s,hs⟩:=stored_pre dt last cl out q
    rw[←hR]at hs
    have hf:=hW.facts hs
    exact⟨.none,_,_,_,_,_,_,_,trv,h,wr,rd,full,rfl,hW.isA,hW.isB,hf.1,hW.rdLe,hW.wrLt,hW.tr,hf.2.1,hf.2.2,.inl ⟨rfl,by omega,_,rfl,.inr (.inr U)⟩,
      fun n trv2 hn2 ht=>.inr (.inr (.inl ⟨rfl,q,⟨out,trv2,h,wr,rd,full,ss,last,hl,hd,cl,cd,hh,hW.give hn2 ht,rfl,hss,hcl,hR⟩,hT⟩)),fun v A2 h1=>absurd rfl h1⟩
  · subst hR
    have hf:=hW.facts (r:=out) (s:=[]) (List.append_nil _).symm
    have hsum:=hW.sum
    have hrd:=hW.rdLe
    refine⟨er,_,_,_,_,_,_,_,trv,h,wr,rd,full,rfl,hW.isA,hW.isB,hf.1,hW.rdLe,hW.wrLt,hW.tr,hf.2.1,hf.2.2,.inr ⟨endOk_ne hE,rfl,hE,hall.imp id fun h=>by subst h;simp only;omega⟩,
      fun n trv2 hn2 ht=>.inr (.inr (.inr ⟨rfl,⟨out,e,er,trv2,h,wr,rd,full,hE,hA,hW.give hn2 ht,⟨_,_,_,_,_,_,_,rfl⟩,rfl,hall.imp (fun h=>by rw[h];exact List.drop_nil) id⟩,hT⟩)),fun v A2 h1 h2 hfl=>?_⟩
    subst h2
    obtain⟨wr2,full2,hW2,_,_⟩:=WinSt.flush (gv:=gv) hW.hist hrd (by simpa using hsum) hfl
    exact .inr (.inr (.inr ⟨rfl,⟨out,e,er,v,h,wr2,wr2,full2,hE,hA,by rw[hW.isB];exact hW2,⟨_,_,_,_,_,_,_,rfl⟩,rfl,.inr U⟩,hT⟩))
set_option maxHeartbeats 1000000
theorem TR.nilv{hb:Nat}{h:List UInt8}{v:Value}(t:TR hb h [] v):∃a c,v=.slice a 0 c:=by
  obtain⟨a,c,e,_⟩:=t
  exact⟨a,c,e⟩
section
variable {D:List UInt8}{out:List UInt8}{p:Nat}
theorem run_next_short(h:left D p<3):run D .next out p=(out,.bad):=by rw[run,if_pos h]
theorem run_next0(h3:¬left D p<3)(h:takeB D (p+1) 2=0):run D .next out p=storR D (decide (takeB D p 1=1)) out ((p+3+7)/8):=by
  rw[run,storR,if_neg h3,if_pos h]
  cases hs:Gz D ((p+3+7)/8)with
  |none=>rfl
  |some n=>
    simp only[stored]
    split
    · rfl
    · rename_i h4
      by_cases h1:takeB D p 1=1
      · simp only[h1,decide_true,if_true]
      · rw[if_neg h1,dif_pos ⟨by omega,by omega⟩]
        simp[h1]
theorem run_next1(h3:¬left D p<3)(h:takeB D (p+1) 2=1):run D .next out p=run D (.sym (decide (takeB D p 1=1)) fixT) out (p+3):=by
  have hg:p<p+3∧p+3≤8*D.length:=by unfold left at h3;omega
  obtain⟨r,hr⟩:∃r,r=run D (.sym (decide (takeB D p 1=1)) fixT) out (p+3):=⟨_,rfl⟩
  rw[←hr,run]
  rw[if_neg h3,if_neg (by omega),if_pos h,dif_pos hg,hr]
theorem run_next2n(h3:¬left D p<3)(h:takeB D (p+1) 2=2)(hd:dynR D (p+3)=none):run D .next out p=(out,.bad):=by
  rw[run]
  rw[if_neg h3,if_neg (by omega),if_neg (by omega),if_pos h,hd]
theorem run_next2(h3:¬left D p<3)(h:takeB D (p+1) 2=2){t:Tabs}{p2:Nat}(hd:dynR D (p+3)=some (t,p2))(hg:p<p2∧p2≤8*D.length):run D .next out p=run D (.sym (decide (takeB D p 1=1)) t) out p2:=by
  obtain⟨r,hr⟩:∃r,r=run D (.sym (decide (takeB D p 1=1)) t) out p2:=⟨_,rfl⟩
  rw[←hr,run]
  rw[if_neg h3,if_neg (by omega),if_neg (by omega),if_pos h,hd]
  simp only
  rw[dif_pos hg,hr]
theorem run_next3(h3:¬left D p<3)(h0:takeB D (p+1) 2≠0)(h1:takeB D (p+1) 2≠1)(h2:takeB D (p+1) 2≠2):run D .next out p=(out,.bad):=by
  rw[run]
  rw[if_neg h3,if_neg h0,if_neg h1,if_neg h2]
end
theorem lensGo_ge{D:List UInt8}{cl:List Nat}{n:Nat}:∀k acc p all p2,n-acc.length≤k→lensGo D cl n acc p=some (all,p2)→p≤p2:=by
  intro k
  induction k with
  |zero=>
    intro acc p all p2 hk h
    rw[lensGo,dif_neg (by omega)]at h
    simp only[Option.some.injEq,Prod.mk.injEq]at h
    omega
  |succ k ih=>
    intro acc p all p2 hk h
    rw[lensGo]at h
    split at h
    · split at h
      · cases h
      · rename_i x hx
        split at h
        · have:=ih _ _ _ _ (by rw[List.length_append,List.length_singleton];omega) h
          omega
        · split at h
          · cases h
          · split at h
            · cases h
            · split at h
              · cases h
              · have hb:0<repB x:=by unfold repB;split<;>omega
                have:=ih _ _ _ _ (by rw[List.length_append,List.length_replicate];omega) h
                omega
    · simp only[Option.some.injEq,Prod.mk.injEq]at h
      omega
theorem dynR_lt{D:List UInt8}{p:Nat}{t:Tabs}{p2:Nat}(h:dynR D p=some (t,p2)):p<p2:=by
  unfold dynR at h
  split at h
  · cases h
  split at h
  · cases h
  split at h
  · cases h
  split at h
  · cases h
  split at h
  · cases h
  split at h
  · cases h
  · rename_i all p3 hg
    have:=lensGo_ge _ _ _ _ _ (Nat.le_refl _) hg
    split at h
    · simp only[Option.some.injEq,Prod.mk.injEq]at h
      omega
    · cases h
theorem sym_step{K:Known}{ea:Fin 5→Addr}(hs:Sents K ea){src:Src K ea}{dt:List UInt8}{fb hb:Nat}{R:ResR}{gv m stp:Nat}{t:Tabs}{last:Bool}{hl hd trv:Value}{x1 x2 x3:Frag}{p q b nb:Nat}{ro:Int}{out h:List UInt8}{wr rd:Nat}{full:Bool}{ss cl cd:Nat}{TL:Frags}
    (hA:src.At (dt.drop q) x1 x2 x3)(hB:BitsIn dt p q b nb)(hn:nb<t.mn+8)(hW:WinSt fb hb gv out [] trv h wr rd full ⟨fb,1037,[.slice (some ⟨hb,0,none⟩) 32768 32768,.int .i64 (((wr):Nat):Int),.int .i64 (((rd):Nat):Int),.bool full]⟩ ⟨hb,0,bytesV (h)⟩)
    (hR:(SsOk ss cl cd (hsize wr full)∧R=run dt (.sym last t) out p)∨(ss=1∧cl≤258∧1≤cd∧cd≤hsize wr full∧R=run dt (.sym last t) (copyN out cd cl) p))(hTL:SymTL fb t hl hd TL)(hm:8*dt.length-p+1≤m)(hm1:0<m):
    Fn Tryz.prog K 92 #[.pointer (some ⟨fb,0,none⟩)] (x1::x2::x3::⟨fb,0,[.iface src.t src.v,.pointer none,.int .i64 (ro),.int .u32 (((b):Nat):Int),.int .u64 (((nb):Nat):Int)]⟩::⟨fb,1045,[.func (.func stp) #[] #[],.int .i64 (((ss):Nat):Int),.bool last,.nilIface,trv,hl,hd,.int .i64 (((cl):Nat):Int),.int .i64 (((cd):Nat):Int)]⟩::⟨fb,1037,[.slice (some ⟨hb,0,none⟩) 32768 32768,.int .i64 (((wr):Nat):Int),.int .i64 (((rd):Nat):Int),.bool full]⟩::⟨hb,0,bytesV (h)⟩::TL) (StepEnd src dt fb hb R gv m):=by
  have hsum:=hW.sum
  obtain⟨a0,c0,htr⟩:=hW.tr.nilv
  have hTL0:=hTL
  obtain⟨ab,cb,ws,av,cs,lb,lo,hp,HL,HD,RT,h1,h2,h3,rfl,rfl,h6,h7,rfl,hraw⟩:=hTL
  have pm:∀(X4 RT X:Frags) (X7:Frags),(X7++(X4++(RT++X))).Perm ((X7++X)++(X4++RT)):=fun X4 RT X X7=>by
    rw[List.append_assoc,←List.append_assoc X4]
    exact List.perm_append_comm.append_left _
  refine Fn.lose (Fn.perm (pm [_,_,_,_] RT (HL++HD) [_,_,_,_,_,_,_]) (Fn.frame (huffmanBlock_walk hs src dt fb hb R gv t last lb lo hp _ HL HD h6 h7 a0 c0 trv htr x1 x2 x3 p q b nb ro out h wr rd full ss cl cd hA hB hn hW.hist hW.rdLe hW.wrLt (by simpa using hsum) hR))) ?_
  rintro v L'⟨L1,⟨rfl,y1,y2,y3,A,T,W,H,rfl,hE⟩,rfl⟩
  have hback:Same ((y1::y2::y3::A::T::W::H::(HL++HD))++([⟨fb,1041,ws⟩,⟨fb,1035,[.pointer (some ⟨ab,0,none⟩),.pointer (some ⟨cb,0,none⟩)]⟩,⟨ab,0,av⟩,⟨cb,0,cs⟩]++RT)) ([y1,y2,y3,A,T,W,H]++([⟨fb,1041,ws⟩,⟨fb,1035,[.pointer (some ⟨ab,0,none⟩),.pointer (some ⟨cb,0,none⟩)]⟩,⟨ab,0,av⟩,⟨cb,0,cs⟩]++(RT++(HL++HD)))):=Same.perm (pm [_,_,_,_] RT (HL++HD) [_,_,_,_,_,_,_]).symm
  obtain⟨TL2,J,hr2,hS2⟩:=hTL0.raw [y1,y2,y3,A,T,W,H]
  rcases hE with⟨pend,hne,hS⟩|⟨p2,hlt,hN⟩|⟨pend,hE⟩
  · exact⟨_,[],hback.trans (Same.of_eq (List.append_nil _).symm),rfl,pend,_,y1,y2,y3,A,T,W,H,_,.inl hne,.inr (.inl ⟨rfl,t,last,_,_,hS,hTL0⟩),rfl⟩
  · refine⟨_,J,hback.trans hS2,rfl,[],_,y1,y2,y3,A,T,W,H,TL2,.inr ?_,.inl ⟨p2,rfl,hN,hr2⟩,rfl⟩
    obtain⟨q2,nb2,_,_,_,_,_,_,_,_,_,_,_,_,⟨_,b2,ro2,hB2,_⟩,_⟩:=hN
    have:=hB2.at8
    have:=hB2.le
    omega
  · exact⟨_,J,hback.trans hS2,rfl,pend,_,y1,y2,y3,A,T,W,H,TL2,.inr hm1,.inr (.inr (.inr ⟨rfl,hE,hr2.junk⟩)),rfl⟩
theorem readHuffman_in{K:Known}{ea:Fin 5→Addr}(hs:Sents K ea)(hc:Codes K)(src:Src K ea)(dt:List UInt8)(fb ab cb:Nat)(s0 s1 s2 s3 s4 s5 s6 s7 s8:Value)(x1 x2 x3:Frag)(p q b nb:Nat)(ro:Int)(av cs c1 c2:List Value)(hasl:av.length=316)(hcsl:cs.length=19)(hraw1:RawH c1)(hraw2:RawH c2)(hA:src.At (dt.drop q) x1 x2 x3)(hB:BitsIn dt p q b nb)(hnb:nb<8)(W H X:Frag):
    Fn Tryz.prog K 93 #[.pointer (some ⟨fb,0,none⟩)] [x1,x2,x3,⟨fb,0,[.iface src.t src.v,.pointer none,.int .i64 (ro),.int .u32 (((b):Nat):Int),.int .u64 (((nb):Nat):Int)]⟩,⟨fb,1045,[s0,s1,s2,s3,s4,s5,s6,s7,s8]⟩,W,H,X,⟨fb,1035,[.pointer (some ⟨ab,0,none⟩),.pointer (some ⟨cb,0,none⟩)]⟩,⟨ab,0,av⟩,⟨cb,0,cs⟩,⟨fb,5,c1⟩,⟨fb,520,c2⟩]
      fun r L=>∃e y1 y2 y3 a b c ev av cs J,r=Er.val ea e∧av.length=316∧cs.length=19∧
    L=y1::y2::y3::⟨fb,0,[.iface src.t src.v,.pointer none,a,b,c]⟩::⟨fb,1045,[s0,s1,s2,ev,s4,s5,s6,s7,s8]⟩::W::H::X::⟨fb,1035,[.pointer (some ⟨ab,0,none⟩),.pointer (some ⟨cb,0,none⟩)]⟩::⟨ab,0,av⟩::⟨cb,0,cs⟩::J∧
    ((e=.none∧∃t p2 q2 b2 nb2 ro2 HL HD,dynR dt p=some (t,p2)∧src.At (dt.drop q2) y1 y2 y3∧BitsIn dt p2 q2 b2 nb2∧nb2<8∧LitT t fb 5 HL∧DistT t (some ⟨fb,520,none⟩) HD∧a=.int .i64 ro2∧b=.int .u32 ((b2:Nat):Int)∧c=.int .u64 ((nb2:Nat):Int)∧ev=s3∧J=HL++HD)∨
     (Bad5 e∧dynR dt p=none∧(∃l,src.At l y1 y2 y3)∧∃h1 h2,h1.length=515∧h2.length=515∧J=[⟨fb,5,h1⟩,⟨fb,520,h2⟩])):=by
  refine Fn.lose (Fn.pick [0,0,0,0,0,3,3,3,3,3] (A:=[_,_,_,_,_,_,_,_,_,_]) (F:=[W,H,X]) U (readHuffman_walk hs hc src dt fb ab cb s0 s1 s2 s3 s4 s5 s6 s7 s8 x1 x2 x3 p q b nb ro av cs c1 c2 hasl hcsl hraw1 hraw2 hA hB hnb)) ?_
  rintro v L⟨L1,⟨L2,J0,hS,e,y1,y2,y3,a,b',c,ev,av',cs',J,rfl,h1,h2,rfl,hE⟩,rfl⟩
  refine⟨_,J0,?_,e,y1,y2,y3,a,b',c,ev,av',cs',J,rfl,h1,h2,rfl,hE⟩
  have s1:=Same.appendL [W,H,X] hS
  refine(Same.perm List.perm_append_comm).trans (s1.trans (Same.perm ?_))
  rw[←List.append_assoc]
  refine List.Perm.append_right _ ?_
  exact Br (is:=[3,3,3,3,3,0,0,0]) (A:=[_,_,_,_,_,_,_,_]) U
theorem fixed_in{K:Known}(G:Frags):Fn Tryz.prog K 91 #[] G fun r L=>∃qb HL,r=.pointer (some ⟨qb,0,none⟩)∧HufT fixLit 7 qb 0 HL∧L=G++HL:=by
  refine Fn.lose (Fn.frame (L:=[]) (F:=G) fixedHuffman_spec) ?_
  rintro v L⟨L1,⟨qb,rfl,hH⟩,rfl⟩
  exact⟨_,[],(Same.perm List.perm_append_comm).trans (Same.of_eq (List.append_nil _).symm),qb,L1,rfl,hH,rfl⟩
theorem fixTabs{qb:Nat}{HL:Frags}(h:HufT fixLit 7 qb 0 HL):LitT fixT qb 0 HL∧DistT fixT none []:=
  ⟨⟨h,fix_ok,Hh fix_15,by show minL fixLit≤7;rw[fix_min];exact Nat.le_refl _,by decide,by right;decide,by rw[show fixT.lit=fixLit from rfl,fix_lenL];decide⟩,.inl ⟨rfl,rfl,rfl⟩⟩
theorem nextBlock_walk{K:Known}{ea:Fin 5→Addr}(hs:Sents K ea)(hc:Codes K)(src:Src K ea)(dt:List UInt8)(fb hb:Nat)(R:ResR)(gv:Nat)(fin:Bool)(hlv hdv trv:Value)(x1 x2 x3:Frag)(p q b nb:Nat)(ro:Int)(out h:List UInt8)(wr rd:Nat)(full:Bool)(ss cl cd ab cb:Nat)(ws av cs c1 c2:List Value)(hws:ws.length=4)(hav:av.length=316)(hcs:cs.length=19)(hr1:RawH c1)(hr2:RawH c2)(hA:src.At (dt.drop q) x1 x2 x3)(hB:BitsIn dt p q b nb)(hnb:nb<8)(hW:WinSt fb hb gv out [] trv h wr rd full ⟨fb,1037,[.slice (some ⟨hb,0,none⟩) 32768 32768,.int .i64 (((wr):Nat):Int),.int .i64 (((rd):Nat):Int),.bool full]⟩ ⟨hb,0,bytesV (h)⟩)(hss:SsOk ss cl cd (hsize wr full))(hR:R=run dt .next out p):Fn Tryz.prog K 82 #[.pointer (some ⟨fb,0,none⟩)] ([x1,x2,x3,⟨fb,0,[.iface src.t src.v,.pointer none,.int .i64 (ro),.int .u32 (((b):Nat):Int),.int .u64 (((nb):Nat):Int)]⟩,⟨fb,1045,[.func (.func 82) #[] #[],.int .i64 (((ss):Nat):Int),.bool fin,.nilIface,trv,hlv,hdv,.int .i64 (((cl):Nat):Int),.int .i64 (((cd):Nat):Int)]⟩,⟨fb,1037,[.slice (some ⟨hb,0,none⟩) 32768 32768,.int .i64 (((wr):Nat):Int),.int .i64 (((rd):Nat):Int),.bool full]⟩,⟨hb,0,bytesV (h)⟩,⟨fb,1041,ws⟩,⟨fb,1035,[.pointer (some ⟨ab,0,none⟩),.pointer (some ⟨cb,0,none⟩)]⟩,⟨ab,0,av⟩,⟨cb,0,cs⟩,⟨fb,5,c1⟩,⟨fb,520,c2⟩]) (StepEnd src dt fb hb R gv (8*dt.length-p+1)):=by
 refine Fn.intro (args:=[.pointer (some ⟨fb,0,none⟩)]) (RR:=Ret0 _) Tryz.func82 rfl rfl Tryz.ntmps82 (res0 Tryz.results82) ?_
 refine Bi (env2:=[(0,.pointer (some ⟨fb,0,none⟩))]) U<|Am<|As<|Bw (fun mm ee ll=>∃(q:Nat),∃(b:Nat),∃(nb:Nat),∃(ro:Int),∃(g1:Frag),∃(g2:Frag),∃(g3:Frag),keeps ee [0]=some [(0,.pointer (some ⟨fb,0,none⟩))]∧ll=[g1,g2,g3,⟨fb,0,[.iface src.t src.v,.pointer none,.int .i64 (ro),.int .u32 (((b):Nat):Int),.int .u64 (((nb):Nat):Int)]⟩,⟨fb,1045,[.func (.func 82) #[] #[],.int .i64 (((ss):Nat):Int),.bool fin,.nilIface,trv,hlv,hdv,.int .i64 (((cl):Nat):Int),.int .i64 (((cd):Nat):Int)]⟩,⟨fb,1037,[.slice (some ⟨hb,0,none⟩) 32768 32768,.int .i64 (((wr):Nat):Int),.int .i64 (((rd):Nat):Int),.bool full]⟩,⟨hb,0,bytesV (h)⟩,⟨fb,1041,ws⟩,⟨fb,1035,[.pointer (some ⟨ab,0,none⟩),.pointer (some ⟨cb,0,none⟩)]⟩,⟨ab,0,av⟩,⟨cb,0,cs⟩,⟨fb,5,c1⟩,⟨fb,520,c2⟩]∧(src.At (dt.drop q) g1 g2 g3)∧(BitsIn dt (p) q b nb)∧(nb<8∨nb<3+8)∧mm=3-nb) (_) ⟨q,b,nb,ro,x1,x2,x3,rfl,rfl,hA,hB,.inl hnb,rfl⟩ ?_
 rintro m0 _ _⟨q,b,nb,ro,g1,g2,g3,hk0,rfl,hA,hB,hnl,hm0⟩
 refine Av _ hk0<|Am<|Cr<|Em U U<|Aa (Ad U) U<|Aa (Ab U Ed) U<|Ag (Aj 3 (k:=4) U U U Ta137) U<|Aa (Dl (b:=((3:Nat):Int)) U U) U<|Ek2 0 7 U<|Bf U (fun h7=>?_) (fun h7=>?_)
 ·refine Ap<|As<|Cr<|Em U U<|Em U U ?_
  refine Ai (OpX.pick [0,0,0,0] (F:=[_,_,_,_,_,_,_,_,_]) U (Ar U Tryz.call89 (Jf hs src _ _ _ fb _ dt _ _ _ _ hA hB (by omega)))) U ?_;rintro _ _⟨_,⟨k1,k2,k3,e4,b4,nb4,ro4,rfl,rfl,hE4⟩,rfl⟩;refine Er13 U ?_
  refine Dd [0,0,0,0,0,0,0,0,0,0,0,0,0] U<|Er13 U<|Aa (Ad U) U<|Aa (Ab U Ee) U ?_
  refine Ao (Aq 4 (k:=3) U U U (one_er _) U Tz58) ?_;rintro _ _⟨rfl,rfl⟩;refine Er13 U ?_
  refine Ek2 0 7 U<|Cr<|Em U U<|Aa (Ad U) U<|Aa (Ab U Ee) U<|Ag (Aj 4 (k:=3) U U U Ta58) U<|Ag (Df U) U<|Ek3 0 7 17 U<|Dn U (fun h17=>?_) (fun h17=>?_)
  ·obtain⟨hb5,hqe,lx,hAx⟩:=hE4.resolve_left fun h=>h17 h.1
   have hle:=hB.left_eq
   refine Bb ?_
   exact⟨rfl,[],0,_,_,_,_,_,_,_,_,.inr (by omega),.inr (.inr (.inr ⟨rfl,⟨out,.bad,_,trv,h,wr,rd,full,.inr ⟨rfl,hb5,_,hAx⟩,⟨_,_,_,rfl⟩,hW,⟨_,_,_,_,_,_,_,rfl⟩,hR.trans (run_next_short (by omega)),.inl U⟩,RawTL.junk ⟨ab,cb,ws,av,cs,c1,c2,hws,hav,hcs,hr1,hr2,rfl⟩⟩)),rfl⟩
  obtain⟨_,hA4,hB4,hn4⟩:=hE4.resolve_right fun h=>h.1.2 h17
  subst hn4
  subst h17
  refine Ap ?_
  refine⟨_,?_,_,_,_,_,_,_,_,rfl,rfl,hA4,hB4,.inr (by omega),rfl⟩;omega
 have hn3:3≤nb:=by omega
 have hb2:=hB.lt32 (by omega)
 have hle:=hB.left_eq
 have h3:¬left dt p<3:=by omega
 have hB1:=(hB.take (n:=1) (by omega)).2
 have hB3:=(hB1.take (n:=2) (by omega)).2
 have t1:=Fw dt p 1
 have t2:=Fw dt (p+1) 2
 have ht8:=hB3.at8
 have htl:=hB3.le
 obtain⟨last,hlast⟩:∃last,last=decide (takeB dt p 1=1):=⟨_,rfl⟩
 refine Bu U<|Cr<|Em U U<|Em U U<|Aa (Ad U) U<|Aa (Ab U Dp) U<|Ag (Aj 3 (k:=3) U U U Ta69) U<|Aa (Fa (b:=((1:Nat):Int)) U U (N.and_u32 (by omega) (by omega))) U<|An (v:=.int .u32 ((takeB dt p 1:Nat):Int)) (congrArg (fun y:Nat=>Value.int .u32 (y:Int)) (by exact Hp (n:=1) hB (by omega)))<|Aa (Ef (b:=((1:Nat):Int)) U U) U ?_
 refine An (v:=.bool last) (congrArg Value.bool (by rw[hlast];exact decide_eq_decide.2 (by omega))) ?_
 refine Aa (Ad U) U<|Aa (Ab U fa186_13) U ?_
 refine Ao (Aq 4 (k:=2) U U U U U Tz4) ?_;rintro _ _⟨rfl,rfl⟩;refine Er13 U ?_
 refine Ek2 0 7 U<|Cr<|Em U U<|Aa (Ad U) U<|Aa (Ab U Dp) U<|Ag (Aj 3 (k:=3) U U U Ta69) U<|Aa (Fl (b:=((1:Nat):Int)) U U (by omega) (N.shr_u32 (by omega) _)) U<|An (v:=.int .u32 ((b/2^1:Nat):Int)) (congrArg (fun y:Nat=>Value.int .u32 (y:Int)) (by rw[Nat.shiftRight_eq_div_pow]))<|Aa (Ad U) U<|Aa (Ab U Dp) U ?_
 refine Ao (Aq 3 (k:=3) U U U U U Tz69) ?_;rintro _ _⟨rfl,rfl⟩;refine Er13 U ?_
 refine Ek2 0 7 U<|Cr<|Em U U<|Aa (Ad U) U<|Aa (Ab U Dp) U<|Ag (Aj 3 (k:=3) U U U Ta69) U<|Aa (Fa (b:=((3:Nat):Int)) U U (N.and_u32 (by omega) (by omega))) U<|An (v:=.int .u32 ((takeB dt (p+1) 2:Nat):Int)) (congrArg (fun y:Nat=>Value.int .u32 (y:Int)) (by exact Hp (n:=2) hB1 (by omega)))<|Ea U U<|Ek3 0 2 7 U<|Cr<|Em U U ?_
 refine Aa (Ad U) U<|Aa (Ab U Dp) U<|Ag (Aj 3 (k:=3) U U U Ta69) U<|Aa (Fl (b:=((2:Nat):Int)) U U (by omega) (N.shr_u32 (by omega) _)) U<|An (v:=.int .u32 ((b/2^1/2^2:Nat):Int)) (congrArg (fun y:Nat=>Value.int .u32 (y:Int)) (by rw[Nat.shiftRight_eq_div_pow]))<|Aa (Ad U) U<|Aa (Ab U Dp) U ?_
 refine Ao (Aq 3 (k:=3) U U U U U Tz69) ?_;rintro _ _⟨rfl,rfl⟩;refine Er13 U ?_
 refine Ek3 0 2 7 U<|Cr<|Em U U<|Aa (Ad U) U<|Aa (Ab U Ed) U<|Ag (Aj 3 (k:=4) U U U Ta137) U<|Aa (Dr (b:=((3:Nat):Int)) U U (N.sub_u64 (by omega) (by omega))) U<|An (v:=.int .u64 ((nb-1-2:Nat):Int)) (congrArg (fun y:Nat=>Value.int .u64 (y:Int)) (by omega))<|Aa (Ad U) U<|Aa (Ab U Ed) U ?_
 refine Ao (Aq 3 (k:=4) U U U U U Tz137) ?_;rintro _ _⟨rfl,rfl⟩;refine Er13 U ?_
 refine Ek3 0 2 7 U<|Cr<|Em U U<|Ek4 0 2 7 53 U<|As<|Cr<|Aa (Ef (b:=((0:Nat):Int)) U U) U<|Ea U U<|Ek5 0 2 7 53 62 U<|Bf U (fun h62=>?_) (fun h62=>?_)
 ·have hty:takeB dt (p+1) 2=0:=by omega
  have hsum:=hW.sum
  obtain⟨a0,c0,htr⟩:=hW.tr.nilv
  have hR0:R=storR dt last out q:=by rw[hR,run_next0 h3 hty,←hlast,show(p+3+7)/8=q by omega]
  refine Al<|Em U U ?_
  refine Ai (OpX.pick [0,0,0,0,0,0,0,0] (F:=[_,_,_,_,_]) U (Ar U Tryz.call90 (dataBlock_spec hs src dt fb hb R gv last hlv hdv _ a0 c0 trv htr g1 g2 g3 (p+1+2) q _ _ _ out h wr rd full ss cl cd ws hws hA hB3 (by omega) hW.hist hW.rdLe hW.wrLt (by simpa using hsum) hss hR0))) U ?_;rintro _ _⟨_,⟨rfl,y1,y2,y3,Ay,Ty,Wy,Hy,ws2,hw2,rfl,hDb⟩,rfl⟩;refine Er13 U ?_
  refine Ek5 0 2 7 53 62 U ?_
  rcases hDb with⟨pend,q5,hne,hS⟩|⟨pend,p2,hlt,hN⟩|⟨pend,hE⟩
  · exact⟨rfl,pend,_,_,_,_,_,_,_,_,_,.inl hne,.inr (.inr (.inl ⟨rfl,q5,hS,⟨ab,cb,ws2,av,cs,c1,c2,hw2,hav,hcs,hr1,hr2,rfl⟩⟩)),rfl⟩
  · refine⟨rfl,pend,_,_,_,_,_,_,_,_,_,.inr ?_,.inl ⟨p2,rfl,hN,⟨ab,cb,ws2,av,cs,c1,c2,hw2,hav,hcs,hr1,hr2,rfl⟩⟩,rfl⟩
    obtain⟨q2,nb2,_,_,_,_,_,_,_,_,_,_,_,_,⟨_,b2,ro2,hB2,_⟩,_⟩:=hN
    have:=hB2.at8
    have:=hB2.le
    omega
  · exact⟨rfl,pend,0,_,_,_,_,_,_,_,_,.inr (by omega),.inr (.inr (.inr ⟨rfl,hE,RawTL.junk ⟨ab,cb,ws2,av,cs,c1,c2,hw2,hav,hcs,hr1,hr2,rfl⟩⟩)),rfl⟩
 refine Cr<|Aa (Ef (b:=((1:Nat):Int)) U U) U<|Ea U U<|Ek6 0 2 7 53 62 66 U<|Bf U (fun h66=>?_) (fun h66=>?_)
 ·have hty:takeB dt (p+1) 2=1:=by omega
  have hR1:R=run dt (.sym last fixT) out (p+1+2):=by rw[hR,run_next1 h3 hty,←hlast]
  refine Cr<|Em U U ?_
  refine Ai (Ar U Tryz.call91 (fixed_in _)) U ?_;rintro _ _⟨qb,HL,rfl,hHL,rfl⟩;refine Et14 U ?_
  refine Aa (Ad U) U<|Aa (Ab U fa186_16) U ?_
  refine Ao (Aq 4 (k:=5) U U U U U Tryz.sizeOf184) ?_;rintro _ _⟨rfl,rfl⟩;refine Et14 U ?_
  refine Ek6 0 2 7 53 62 66 U<|Cr<|Em U U<|Aa (Ad U) U<|Aa (Ab U fa186_17) U ?_
  refine Ao (Aq 4 (k:=6) U U U U U Tryz.sizeOf184) ?_;rintro _ _⟨rfl,rfl⟩;refine Et14 U ?_
  refine Ek6 0 2 7 53 62 66 U<|Al<|Em U U ?_
  refine Ai (Ar U Tryz.call92 (sym_step (m:=8*dt.length-p+1) hs hA hB3 (by show nb-1-2<7+8;omega) hW (.inl ⟨hss,hR1⟩) (symTL_fix hws hav hcs hr1 hr2 (fixTabs hHL).1 (fixTabs hHL).2) (by omega) (by omega))) U ?_;rintro _ _⟨rfl,pend,m2,y1,y2,y3,Ay,Ty,Wy,Hy,TL2,hlt,hD2,rfl⟩;refine Et8 U ?_
  refine Ek6 0 2 7 53 62 66 U ?_
  exact⟨rfl,pend,m2,_,_,_,_,_,_,_,_,hlt,hD2,rfl⟩
 refine Cr<|Aa (Ef (b:=((2:Nat):Int)) U U) U<|Ea U U<|Ek7 0 2 7 53 62 66 77 U<|Bf U (fun h77=>?_) (fun h77=>?_)
 ·have hty:takeB dt (p+1) 2=2:=by omega
  refine Am<|Cr<|Em U U<|Em U U ?_
  refine Ai (Ar U Tryz.call93 (readHuffman_in hs hc src dt fb ab cb _ _ _ _ _ _ _ _ _ g1 g2 g3 (p+1+2) q _ _ _ av cs c1 c2 hav hcs hr1 hr2 hA hB3 (by omega) _ _ _)) U ?_;rintro _ _⟨e5,y1,y2,y3,a5,b5,cc5,ev5,av2,cs2,J5,rfl,hav2,hcs2,rfl,hRh⟩;refine Et12 U ?_
  refine Aa (Ad U) U<|Aa (Ab U Ee) U ?_
  refine Ao (Aq 4 (k:=3) U U U (one_er _) U Tz58) ?_;rintro _ _⟨rfl,rfl⟩;refine Et12 U ?_
  refine Ek7 0 2 7 53 62 66 77 U<|Cr<|Em U U<|Aa (Ad U) U<|Aa (Ab U Ee) U<|Ag (Aj 4 (k:=3) U U U Ta58) U<|Ag (Df U) U<|Ek8 0 2 7 53 62 66 77 88 U<|Dn U (fun h88=>?_) (fun h88=>?_)
  ·obtain⟨hb5,hdn,⟨lx,hAx⟩,z1,z2,hz1,hz2,rfl⟩:=hRh.resolve_left fun h=>h88 h.1
   refine Bu U ?_
   exact⟨rfl,[],0,_,_,_,_,_,_,_,_,.inr (by omega),.inr (.inr (.inr ⟨rfl,⟨out,.bad,_,trv,h,wr,rd,full,.inr ⟨rfl,hb5,_,hAx⟩,⟨_,_,_,rfl⟩,hW,⟨_,_,_,_,_,_,_,rfl⟩,hR.trans (run_next2n h3 hty hdn),.inl U⟩,⟨ab,cb,ws,av2,cs2,z1,z2,hws,hav2,hcs2,hz1,hz2,rfl⟩⟩)),rfl⟩
  obtain⟨_,t,p2,q2,b2,nb2,ro2,HL,HD,hdy,hA2,hB2,hn2,hLt,hDt,rfl,rfl,rfl,rfl,rfl⟩:=hRh.resolve_right fun h=>h.1.2 h88
  subst h88
  have hp2:=dynR_lt hdy
  have h28:=hB2.at8
  have h2l:=hB2.le
  have hR1:R=run dt (.sym last t) out p2:=by rw[hR,run_next2 h3 hty hdy (by omega),←hlast]
  refine Ap<|Cr<|Em U U<|Em U U<|Aa (Ad U) U<|Aa (Ab U fa186_5) U<|Aa (Ad U) U<|Aa (Ab U fa186_16) U ?_
  refine Ao (Aq 4 (k:=5) U U U U U Tryz.sizeOf184) ?_;rintro _ _⟨rfl,rfl⟩;refine Et12 U ?_
  refine Ek8 0 2 7 53 62 66 77 88 U<|Cr<|Em U U<|Em U U<|Aa (Ad U) U<|Aa (Ab U fa186_6) U<|Aa (Ad U) U<|Aa (Ab U fa186_17) U ?_
  refine Ao (Aq 4 (k:=6) U U U U U Tryz.sizeOf184) ?_;rintro _ _⟨rfl,rfl⟩;refine Et12 U ?_
  refine Ek8 0 2 7 53 62 66 77 88 U<|Al<|Em U U ?_
  refine Ai (Ar U Tryz.call92 (sym_step (m:=8*dt.length-p+1) hs hA2 hB2 (by omega) hW (.inl ⟨hss,hR1⟩) (symTL_own hws hav2 hcs2 hLt hDt) (by omega) (by omega))) U ?_;rintro _ _⟨rfl,pend,m2,y1,y2,y3,Ay,Ty,Wy,Hy,TL2,hlt,hD2,rfl⟩;refine Et8 U ?_
  refine Ek8 0 2 7 53 62 66 77 88 U ?_
  exact⟨rfl,pend,m2,_,_,_,_,_,_,_,_,hlt,hD2,rfl⟩
 have hty:takeB dt (p+1) 2=3:=by omega
 refine Al<|Em U U<|Em U U<|Aa (Ad U) U<|Aa (Ab U Ff) U<|Ag (Aj 3 (k:=2) U U U Ta2) U<|Aa (Eo U Hr) U<|An (v:=Er.val ea (.corrupt _)) (rfl)<|Aa (Ad U) U<|Aa (Ab U Ee) U ?_
 refine Ao (Aq 4 (k:=3) U U U U U Tz58) ?_;rintro _ _⟨rfl,rfl⟩;refine Er13 U ?_
 refine Ek7 0 2 7 53 62 66 77 U ?_
 exact⟨rfl,[],0,_,_,_,_,_,_,_,_,.inr (by omega),.inr (.inr (.inr ⟨rfl,⟨out,.bad,_,trv,h,wr,rd,full,.inr ⟨rfl,Ew _,_,hA⟩,⟨_,_,_,rfl⟩,hW,⟨_,_,_,_,_,_,_,rfl⟩,hR.trans (run_next3 h3 (by omega) (by omega) (by omega)),.inl U⟩,RawTL.junk ⟨ab,cb,ws,av,cs,c1,c2,hws,hav,hcs,hr1,hr2,rfl⟩⟩)),rfl⟩
theorem nextBlock_step{K:Known}{ea:Fin 5→Addr}(hs:Sents K ea)(hc:Codes K){src:Src K ea}{dt:List UInt8}{fb hb:Nat}{R:ResR}{gv p:Nat}{x1 x2 x3 A T W H:Frag}{TL:Frags}
    (hN:NextSt src dt fb hb R gv [] p x1 x2 x3 A T W H)(hTL:RawTL fb TL):Fn Tryz.prog K 82 #[.pointer (some ⟨fb,0,none⟩)] (x1::x2::x3::A::T::W::H::TL) (StepEnd src dt fb hb R gv (8*dt.length-p+1)):=by
  obtain⟨q,nb,out,trv,h,wr,rd,full,ss,fin,hl,hd,cl,cd,⟨hA,b,ro,hB,rfl⟩,hn,hW,rfl,hss,hR⟩:=hN
  obtain⟨ab,cb,ws,av,cs,c1,c2,h1,h2,h3,h4,h5,rfl⟩:=hTL
  have hWA:=hW.isA
  have hWB:=hW.isB
  subst hWA hWB
  exact nextBlock_walk hs hc src dt fb hb R gv fin hl hd trv x1 x2 x3 p q b nb ro out h wr rd full ss cl cd ab cb ws av cs c1 c2 h1 h2 h3 h4 h5 hA hB hn hW hss hR
theorem leN_append:∀(a b:List UInt8),leN (a++b)=leN a+2^(8*a.length)*leN b
  | [],b=>by simp[leN]
  |c::r,b=>by
    rw[List.cons_append,leN,leN,leN_append r b,List.length_cons,show 8*(r.length+1)=8+8*r.length by omega,Nat.pow_add,show(2:Nat)^8=256 from rfl,Nat.mul_add,Nat.mul_assoc]
    omega
theorem leN_inj:∀{a b:List UInt8},a.length=b.length→leN a=leN b→a=b
  | [],[],_,_=>rfl
  | [],c::r,h,_=>by simp at h
  |c::r,[],h,_=>by simp at h
  |c::r,d::q,h,e=>by
    rw[leN,leN]at e
    have h1:=c.toNat_lt
    have h2:=d.toNat_lt
    have e1:c.toNat=d.toNat:=by omega
    have e2:=leN_inj (a:=r) (b:=q) (by simpa using h) (by omega)
    rw[e2,UInt8.toNat_inj.1 e1]
theorem leN_take(D:List UInt8)(n:Nat)(h:n≤D.length):leN (D.take n)=leN D%2^(8*n):=by
  have e:=leN_append (D.take n) (D.drop n)
  rw[List.take_append_drop]at e
  have h1:=leN_lt (D.take n)
  have hl:(D.take n).length=n:=by rw[List.length_take];omega
  rw[hl]at e h1
  rw[e,Nat.add_mul_mod_self_left,Nat.mod_eq_of_lt h1]
def wbytes(s:Wr)(bs:List UInt8):Wr:=(s.1+2^s.2*leN bs,s.2+8*bs.length)
theorem wbytes_ok{s:Wr}(h:WrOk s)(bs:List UInt8):WrOk (wbytes s bs):=add_mul_lt h (leN_lt bs)
theorem ext_bytes{D:List UInt8}{s:Wr}{bs:List UInt8}{q:Nat}(hq:s.2=8*q)(hs:WrOk s)(h:Ext D (wbytes s bs)):Ext D s∧(D.drop q).take bs.length=bs∧q+bs.length≤D.length:=by
  obtain⟨h1,h2⟩:=h
  simp only[wbytes]at h1 h2
  rw[Hg]at h1
  obtain⟨e1,e2⟩:=split_eq (Nat.mod_lt _ (Nat.pow_pos (by decide))) hs h1
  rw[hq]at e2
  rw[hq]at h2
  refine⟨⟨e1,by omega⟩,?_,by omega⟩
  refine leN_inj (by rw[List.length_take,List.length_drop];omega) ?_
  rw[leN_take _ _ (by rw[List.length_drop];omega),←leN_drop,e2]
def walign(s:Wr):Wr:=(s.1,8*((s.2+7)/8))
theorem walign_ok{s:Wr}(h:WrOk s):WrOk (walign s):=Nat.lt_of_lt_of_le h (Nat.pow_le_pow_right (by decide) (by show s.2≤8*((s.2+7)/8);omega))
theorem ext_align{D:List UInt8}{s:Wr}(hs:WrOk s)(h:Ext D (walign s)):Ext D s:=by
  obtain⟨h1,h2⟩:=h
  simp only[walign]at h1 h2
  refine⟨?_,by omega⟩
  have e:(2:Nat)^s.2∣2^(8*((s.2+7)/8)):=Nat.pow_dvd_pow 2 (by omega)
  rw[←Nat.mod_mod_of_dvd _ e,h1,Nat.mod_eq_of_lt hs]
def lastN(b:Bool):Nat:=if b then 1 else 0
def whead(s:Wr)(last:Bool)(w:Nat):Wr:=wput (wput s (lastN last) 1) w 2
theorem whead_ok{s:Wr}(h:WrOk s)(last:Bool)(w:Nat):WrOk (whead s last w):=Fc (Fc h _ _) _ _
theorem head_ext{D:List UInt8}{s:Wr}{last:Bool}{w:Nat}(hs:WrOk s)(hw:w<4)(h:Ext D (whead s last w)):Ext D s∧¬left D s.2<3∧decide (takeB D s.2 1=1)=last∧takeB D (s.2+1) 2=w:=by
  obtain⟨h1,h2,h3⟩:=Fk (Fc hs _ _) h
  obtain⟨h4,h5,h6⟩:=Fk hs h1
  simp only[wput]at h2 h3
  refine⟨h4,by unfold left at h3 h6⊢;omega,?_,?_⟩
  · rw[h5];cases last<;>rfl
  · rw[h2];exact Nat.mod_eq_of_lt hw
def BlkR(last:Bool)(s s2:Wr)(out out2:List UInt8):Prop:=∀D,Ext D s2→Ext D s∧run D .next out s.2=if last=true then(out2,.done ((s2.2+7)/8))else run D .next out2 s2.2
def wstored(s:Wr)(bs:List UInt8):Wr:=wbytes (wput (wput (walign s) bs.length 16) (65535-bs.length) 16) bs
theorem wstored_ok{s:Wr}(h:WrOk s)(bs:List UInt8):WrOk (wstored s bs):=wbytes_ok (Fc (Fc (walign_ok h) _ _) _ _) _
theorem blk_stored{s:Wr}{last:Bool}{bs out:List UInt8}(hs:WrOk s)(hb:bs.length≤65535):BlkR last s (wstored (whead s last 0) bs) out (out++bs):=by
  intro D h
  have o0:=whead_ok hs last 0
  have o1:=walign_ok o0
  have o2:=Fc o1 bs.length 16
  have o3:=Fc o2 (65535-bs.length) 16
  obtain⟨q,hq⟩:∃q,(s.2+3+7)/8=q:=⟨_,rfl⟩
  have e0:(whead s last 0).2=s.2+3:=by simp only[whead,wput]
  have ea:(walign (whead s last 0)).2=8*q:=by simp only[walign,e0];omega
  have eb:(wput (walign (whead s last 0)) bs.length 16).2=8*(q+2):=by show(walign (whead s last 0)).2+16=_;rw[ea];omega
  have ec:(wput (wput (walign (whead s last 0)) bs.length 16) (65535-bs.length) 16).2=8*(q+4):=by show(wput (walign (whead s last 0)) bs.length 16).2+16=_;rw[eb];omega
  obtain⟨h1,h2,h3⟩:=ext_bytes ec o3 h
  obtain⟨h4,h5,_⟩:=Fk o2 h1
  obtain⟨h6,h7,_⟩:=Fk o1 h4
  rw[eb,Nat.mod_eq_of_lt (by omega)]at h5
  rw[ea,Nat.mod_eq_of_lt (by omega)]at h7
  obtain⟨g1,g2,g3,g4⟩:=head_ext hs (by decide) (ext_align o0 h6)
  refine⟨g1,?_⟩
  have t16:∀k,k+1<D.length→takeB D (8*k) 16=(D.getD k 0).toNat+256*(D.getD (k+1) 0).toNat:=by
    intro k hk
    have e1:(D.getD k 0)=D[k]'(by omega):=by rw[List.getD_eq_getElem?_getD,List.getElem?_eq_getElem (by omega)];rfl
    have e2:(D.getD (k+1) 0)=D[k+1]:=by rw[List.getD_eq_getElem?_getD,List.getElem?_eq_getElem hk];rfl
    rw[e1,e2,←leN_get (show k<D.length by omega),←leN_get hk]
    unfold takeB bitsAt
    rw[show(16:Nat)=8+8 from rfl,Hg,Nat.div_div_eq_div_mul,←Nat.pow_add,show 8*k+8=8*(k+1) by omega]
  rw[t16 q (by omega)]at h7
  rw[t16 (q+2) (by omega)]at h5
  have hst:Gz D q=some bs.length:=by
    unfold Gz
    rw[if_neg (by omega),if_pos (by rw[h7,h5];omega),h7]
  have hfin:(wstored (whead s last 0) bs).2=8*(q+4+bs.length):=by
    show(wput (wput (walign (whead s last 0)) bs.length 16) (65535-bs.length) 16).2+8*bs.length=_
    rw[ec];omega
  rw[run_next0 g2 g4,g3,hq,storR,hst]
  simp only[stored]
  rw[if_neg (by omega),h2,hfin,show(8*(q+4+bs.length)+7)/8=q+4+bs.length by omega]
theorem fixF1:FitL fixLit (maxL fixLit):=Jj (by decide+kernel)
theorem fixF2:FitL Ex (maxL Ex):=Jj (by decide+kernel)
theorem fix_mn:fixT.mn≤max (minL fixT.lit) (lenOf fixT.lit 256):=by decide+kernel
theorem fix_used:∀v,v<288→0<lenOf fixLit v:=by decide+kernel
theorem fix_usedD:∀v,v<32→0<lenOf Ex v:=by decide+kernel
theorem tks_fixed{l:List Tk}{out:List UInt8}(h:tksOk out l):∀k∈l,tkUse fixLit Ex k:=by
  intro k hk
  have key:∀(l:List Tk) (out:List UInt8),tksOk out l→k∈l→∃o,tkOk o k:=by
    intro l
    induction l with
    |nil=>intro _ _ h;cases h
    |cons a r ih=>
      intro out h hk
      rcases List.mem_cons.1 hk with rfl|hk
      · exact⟨out,h.1⟩
      · exact ih _ h.2 hk
  obtain⟨o,ho⟩:=key l out h hk
  cases k with
  |lit c=>have:=c.toNat_lt;exact fix_used _ (by omega)
  |copy n d=>
    obtain⟨o1,o2,o3,o4,_⟩:=ho
    have h1:=(place_size o1 o2).1
    have h2:=(place_far o3 o4).1
    exact⟨fix_used _ (by omega),fix_usedD _ (by omega)⟩
theorem blk_fixed{s:Wr}{last:Bool}{l:List Tk}{out:List UInt8}(hs:WrOk s)(hok:tksOk out l):BlkR last s (wcode (tksPut fixLit Ex (whead s last 1) l) fixLit 256) out (tksOut out l):=by
  intro D h
  have o0:=whead_ok hs last 1
  have h1:=(ext_code fixF1 (fix_used 256 (by decide)) (tksPut_ok o0) h).1
  obtain⟨g1,g2,g3,g4⟩:=head_ext hs (by decide) (tksPut_ext o0 h1)
  refine⟨g1,?_⟩
  rw[run_next1 g2 g4,g3]
  exact run_tks (t:=fixT) fixF1 fixF2 (fix_used 256 (by decide)) fix_mn hok (tks_fixed hok) o0 h
def OwnR(s s2:Wr)(lit dist:List Nat):Prop:=WrOk s2∧s.2<s2.2∧∀D,Ext D s2→Ext D s∧dynR D s.2=some (⟨lit,max (minL lit) (lit.getD 256 0),dist⟩,s2.2)
theorem blk_own{s s2:Wr}{last:Bool}{l:List Tk}{lit dist:List Nat}{out:List UInt8}(hs:WrOk s)(hw:OwnR (whead s last 2) s2 lit dist)(hl1:okLens lit)(hl2:okLens dist)(h256:0<lenOf lit 256)(hok:tksOk out l)(hu:∀k∈l,tkUse lit dist k):
    BlkR last s (wcode (tksPut lit dist s2 l) lit 256) out (tksOut out l):=by
  obtain⟨w1,w2,w3⟩:=hw
  intro D h
  have h1:=(ext_code (Jj hl1) h256 (tksPut_ok w1) h).1
  have h2:=tksPut_ext w1 h1
  obtain⟨h3,hd⟩:=w3 D h2
  obtain⟨g1,g2,g3,g4⟩:=head_ext hs (by decide) h3
  refine⟨g1,?_⟩
  have e3:(whead s last 2).2=s.2+3:=by simp only[whead,wput]
  rw[e3]at hd w2
  rw[run_next2 g2 g4 hd ⟨by omega,h2.2⟩,g3]
  exact run_tks (t:=⟨lit,max (minL lit) (lit.getD 256 0),dist⟩) (Jj hl1) (Jj hl2) h256 (Nat.le_refl _) hok hu w1 h
def tPut(cl:List Nat)(s:Wr)(t:Nat×Nat):Wr:=if t.1<16 then wcode s cl t.1 else wput (wcode s cl t.1) t.2 (repN t.1)
def tExp(acc:List Nat)(t:Nat×Nat):List Nat:=if t.1<16 then acc++[t.1]else acc++List.replicate (repB t.1+t.2) (if t.1=16 then acc.getLastD 0 else 0)
def tOk(acc:List Nat)(t:Nat×Nat):Prop:=t.1<16∨(16≤t.1∧t.1<19∧t.2<2^repN t.1∧¬(t.1=16∧acc=[]))
def tsOk:List Nat→List (Nat×Nat)→Prop
  |_,[]=>True
  |acc,t::r=>tOk acc t∧tsOk (tExp acc t) r
theorem tsOk_snoc:∀{l:List (Nat×Nat)} {acc:List Nat} {t:Nat×Nat},tsOk acc l→tOk (l.foldl tExp acc) t→tsOk acc (l++[t])
  | [],_,_,_,h=>⟨h,trivial⟩
  |a::r,acc,t,⟨h1,h2⟩,h=>⟨h1,tsOk_snoc (l:=r) h2 h⟩
theorem repB_pos(x:Nat):3≤repB x:=by unfold repB;split<;>omega
theorem tExp_lt(acc:List Nat)(t:Nat×Nat):acc.length<(tExp acc t).length:=by
  unfold tExp
  split
  · simp
  · rw[List.length_append,List.length_replicate]
    have:=repB_pos t.1
    omega
theorem tExp_le:∀(l:List (Nat×Nat)) (acc:List Nat),acc.length≤(l.foldl tExp acc).length
  | [],acc=>Nat.le_refl _
  |t::r,acc=>by
    have h1:=tExp_lt acc t
    have h2:=tExp_le r (tExp acc t)
    rw[List.foldl_cons];omega
theorem tPut_ok{cl:List Nat}{s:Wr}(hs:WrOk s)(t:Nat×Nat):WrOk (tPut cl s t):=by
  unfold tPut;split
  · exact Gm hs _ _
  · exact Fc (Gm hs _ _) _ _
theorem tsPut_ok{cl:List Nat}:∀{l:List (Nat×Nat)} {s:Wr},WrOk s→WrOk (l.foldl (tPut cl) s)
  | [],_,h=>h
  |t::r,_,h=>tsPut_ok (l:=r) (tPut_ok h t)
theorem tPut_ext{D:List UInt8}{cl:List Nat}{s:Wr}(hs:WrOk s){t:Nat×Nat}(h:Ext D (tPut cl s t)):Ext D s:=by
  unfold tPut at h;split at h
  · exact(Fk hs h).1
  · exact(Fk hs (Fk (Gm hs _ _) h).1).1
theorem tsPut_ext{D:List UInt8}{cl:List Nat}:∀{l:List (Nat×Nat)} {s:Wr},WrOk s→Ext D (l.foldl (tPut cl) s)→Ext D s
  | [],_,_,h=>h
  |t::r,_,hs,h=>tPut_ext hs (tsPut_ext (l:=r) (tPut_ok hs t) h)
theorem tsPut_le{cl:List Nat}:∀{l:List (Nat×Nat)} {s:Wr},s.2≤(l.foldl (tPut cl) s).2
  | [],_=>Nat.le_refl _
  |t::r,s=>by
    have h:=tsPut_le (cl:=cl) (l:=r) (s:=tPut cl s t)
    have h2:s.2≤(tPut cl s t).2:=by unfold tPut;split<;>(simp only[wcode,wput];omega)
    rw[List.foldl_cons];omega
theorem lens_told{D:List UInt8}{cl:List Nat}{M n:Nat}(hf:FitL cl M):∀{l:List (Nat×Nat)} {acc:List Nat} {s:Wr},WrOk s→(∀t∈l,0<lenOf cl t.1)→tsOk acc l→Ext D (l.foldl (tPut cl) s)→(l.foldl tExp acc).length=n→
    lensGo D cl n acc s.2=some (l.foldl tExp acc,(l.foldl (tPut cl) s).2)
  | [],acc,s,_,_,_,_,hn=>lensGo_done (by rw[←hn];exact Nat.le_refl _)
  |t::r,acc,s,hs,hu,⟨ho,hor⟩,h,hn=>by
    have h1:=tsPut_ext (l:=r) (tPut_ok hs t) h
    have hlt:=tExp_lt acc t
    have hle:=tExp_le r (tExp acc t)
    rw[List.foldl_cons]at hn
    have ih:=lens_told hf (n:=n) (tPut_ok (cl:=cl) hs t) (fun x hx=>hu x (.tail _ hx)) hor h hn
    rw[List.foldl_cons,List.foldl_cons,←ih]
    have h0:=hu t (.head _)
    by_cases h16:t.1<16
    · have et:tPut cl s t=wcode s cl t.1:=by unfold tPut;rw[if_pos h16]
      have ee:tExp acc t=acc++[t.1]:=by unfold tExp;rw[if_pos h16]
      rw[et]at h1⊢
      obtain⟨_,h2,_⟩:=ext_code hf h0 hs h1
      rw[lensGo_lit (by omega) (sym_of h2 (findS_min h2).1) h16,ee];rfl
    · have et:tPut cl s t=wput (wcode s cl t.1) t.2 (repN t.1):=by unfold tPut;rw[if_neg h16]
      have ee:tExp acc t=acc++List.replicate (repB t.1+t.2) (if t.1=16 then acc.getLastD 0 else 0):=by unfold tExp;rw[if_neg h16]
      rw[et]at h1⊢
      obtain⟨h2,h3,h4⟩:=Fk (Gm hs _ _) h1
      obtain⟨_,h5,_⟩:=ext_code hf h0 hs h2
      obtain⟨o1,o2,o3,o4⟩:=ho.resolve_left h16
      rw[Nat.mod_eq_of_lt o3]at h3
      have e1:(wcode s cl t.1).2=s.2+lenOf cl t.1:=rfl
      rw[e1]at h3 h4
      have hel:(tExp acc t).length=acc.length+(repB t.1+t.2):=by rw[ee,List.length_append,List.length_replicate]
      rw[lensGo_rep (by omega) (sym_of h5 (findS_min h5).1) (by omega) o4 (by omega) (by rw[h3];omega),h3,ee];rfl
def clPut(f:Nat→Nat)(l:List Nat)(s:Wr):Wr:=l.foldl (fun s i=>wput s (f i) 3) s
theorem clPut_ok{f:Nat→Nat}:∀{l:List Nat} {s:Wr},WrOk s→WrOk (clPut f l s)
  | [],_,h=>h
  |i::r,_,h=>clPut_ok (l:=r) (Fc h _ _)
theorem clPut_at{f:Nat→Nat}:∀{l:List Nat} {s:Wr},(clPut f l s).2=s.2+3*l.length
  | [],_=>rfl
  |i::r,s=>by rw[show clPut f (i::r) s=clPut f r (wput s (f i) 3)from rfl,clPut_at,List.length_cons];show s.2+3+_=_;omega
theorem clPut_read{D:List UInt8}{f:Nat→Nat}:∀{l:List Nat} {s:Wr},WrOk s→Ext D (clPut f l s)→Ext D s∧∀j,j<l.length→takeB D (s.2+3*j) 3=f (l.getD j 0)%8
  | [],_,_,h=>⟨h,fun j hj=>by simp at hj⟩
  |i::r,s,hs,h=>by
    obtain⟨h1,h2⟩:=clPut_read (l:=r) (Fc hs (f i) 3) h
    obtain⟨h3,h4,_⟩:=Fk hs h1
    refine⟨h3,fun j hj=>?_⟩
    cases j with
    |zero=>exact h4
    |succ j=>
      have:=h2 j (by simpa using hj)
      rw[show s.2+3*(j+1)=(wput s (f i) 3).2+3*j by show _=s.2+3+_;omega,this];rfl
theorem cl_read{D:List UInt8}{cl:List Nat}{count:Nat}{s:Wr}(hl:cl.length=19)(h7:∀x∈cl,x≤7)(hc:count≤19)(hz:∀i,count≤i→i<19→lenOf cl (ordL.getD i 0)=0)(hs:WrOk s)(h:Ext D (clPut (lenOf cl) (ordL.take count) s)):
    Ext D s∧clL D s.2 count=cl:=by
  obtain⟨h1,h2⟩:=clPut_read hs h
  refine⟨h1,?_⟩
  have hlen:(ordL.take count).length=count:=by rw[List.length_take,show ordL.length=19 from rfl];omega
  apply List.ext_getElem
  · rw[clL_len,hl]
  · intro i hi1 hi2
    rw[clL_len]at hi1
    obtain⟨e1,e2⟩:=idx_ord i hi1
    have e3:cl[i]=lenOf cl i:=(Bp hi2).symm
    have h8:=h7 cl[i] (List.getElem_mem hi2)
    simp only[clL,List.getElem_map,List.getElem_range]
    split
    · rename_i hlt
      rw[h2 _ (by omega)]
      have:(ordL.take count).getD (ordL.idxOf i) 0=ordL.getD (ordL.idxOf i) 0:=by rw[List.getD_eq_getElem?_getD,List.getElem?_take,if_pos hlt,←List.getD_eq_getElem?_getD]
      rw[this,e1,←e3];omega
    · rename_i hge
      have:=hz _ (by omega) e2
      rw[e1]at this
      rw[e3,this]
theorem own_read{lit dist cl:List Nat}{count:Nat}{told:List (Nat×Nat)}{s:Wr}(hs:WrOk s)(h257:257≤lit.length)(h286:lit.length≤286)(h1:1≤dist.length)(h30:dist.length≤30)(ok1:okLens lit)(ok2:okLens dist)(okc:okLens cl)
    (hl:cl.length=19)(h7:∀x∈cl,x≤7)(hc4:4≤count)(hc:count≤19)(hz:∀i,count≤i→i<19→lenOf cl (ordL.getD i 0)=0)(hu:∀t∈told,0<lenOf cl t.1)(hto:tsOk [] told)(hte:told.foldl tExp []=lit++dist):
    OwnR s (told.foldl (tPut cl) (clPut (lenOf cl) (ordL.take count) (wput (wput (wput s (lit.length-257) 5) (dist.length-1) 5) (count-4) 4))) lit dist:=by
  have o1:=Fc hs (lit.length-257) 5
  have o2:=Fc o1 (dist.length-1) 5
  have o3:=Fc o2 (count-4) 4
  have o4:=clPut_ok (f:=lenOf cl) (l:=ordL.take count) o3
  have e3:(wput (wput (wput s (lit.length-257) 5) (dist.length-1) 5) (count-4) 4).2=s.2+14:=by simp only[wput]
  have hlen:(ordL.take count).length=count:=by rw[List.length_take,show ordL.length=19 from rfl];omega
  have e4:(clPut (lenOf cl) (ordL.take count) (wput (wput (wput s (lit.length-257) 5) (dist.length-1) 5) (count-4) 4)).2=s.2+14+3*count:=by rw[clPut_at,e3,hlen]
  refine⟨tsPut_ok o4,?_,fun D h=>?_⟩
  · have:=tsPut_le (cl:=cl) (l:=told) (s:=clPut (lenOf cl) (ordL.take count) (wput (wput (wput s (lit.length-257) 5) (dist.length-1) 5) (count-4) 4))
    omega
  · have h4:=tsPut_ext o4 h
    obtain⟨h3,hcl⟩:=cl_read hl h7 hc hz o3 h4
    have hle4:=h4.2
    obtain⟨h2,t3,l3⟩:=Fk o2 h3
    obtain⟨h1',t2,l2⟩:=Fk o1 h2
    obtain⟨h0,t1,l1⟩:=Fk hs h1'
    simp only[wput]at t2 t3 l2 l3
    rw[Nat.mod_eq_of_lt (by omega)]at t1 t2 t3
    have hgo:=lens_told (Jj okc) o4 hu hto h (n:=(lit++dist).length) (by rw[hte])
    rw[hte]at hgo
    rw[e4]at hgo hle4
    rw[e3]at hcl
    refine⟨h0,?_⟩
    have a1:takeB D s.2 5+257=lit.length:=by rw[t1];omega
    have a2:takeB D (s.2+5) 5+1=dist.length:=by rw[t2];omega
    have a3:takeB D (s.2+10) 4+4=count:=by rw[show s.2+10=s.2+5+5 by omega,t3];omega
    rw[dynR_eq (by unfold left;omega) (by omega) (by omega) (by rw[a3];unfold left;omega),a1,a2,a3,hcl,if_neg (fun h=>h okc),←List.length_append,hgo]
    simp only
    rw[List.take_left' rfl,List.drop_left' rfl,if_pos ⟨ok1,ok2⟩,show(lit++dist).getD 256 0=lit.getD 256 0 by rw[List.getD_eq_getElem?_getD,List.getElem?_append_left (by omega),←List.getD_eq_getElem?_getD]]
def PreR(s:Wr)(out:List UInt8):Prop:=WrOk s∧∀D,Ext D s→run D .next [] 0=run D .next out s.2
theorem PreR.zero:PreR (0,0) []:=⟨by show(0:Nat)<1;decide,fun _ _=>rfl⟩
theorem PreR.blk{s s2:Wr}{out out2:List UInt8}(h:PreR s out)(hw:WrOk s2)(hb:BlkR false s s2 out out2):PreR s2 out2:=
  ⟨hw,fun D hD=>by obtain⟨h1,h2⟩:=hb D hD;rw[h.2 D h1,h2];rfl⟩
def DeflOk(b data:List UInt8):Prop:=∀rest,run (b++rest) .next [] 0=(data,.done b.length)
theorem PreR.defl{s s2:Wr}{out out2 b:List UInt8}(h:PreR s out)(hb:BlkR true s s2 out out2)(hv:leN b=s2.1)(hl:b.length=(s2.2+7)/8)(hw:WrOk s2):DeflOk b out2:=by
  intro rest
  have hE:Ext (b++rest) s2:=by
    refine⟨?_,by rw[List.length_append];omega⟩
    rw[leN_append]
    have e:(2:Nat)^(8*b.length)=2^s2.2*2^(8*b.length-s2.2):=by rw[←Nat.pow_add];congr 1;omega
    rw[e,Nat.mul_assoc,Nat.add_mul_mod_self_left,hv]
    exact Nat.mod_eq_of_lt hw
  obtain⟨h1,h2⟩:=hb _ hE
  rw[h.2 _ h1,h2,hl]
  rfl
def zip10(rd dec:Value):List Value:=[.string ⟨#[]⟩,.slice none 0 0,.int .u64 0,.int .i64 0,.string ⟨#[]⟩,.int .u8 0,rd,dec,.int .u32 0,.int .u32 0]
def buf0:List Value:=List.replicate 512 (.int .u8 0)
def zipEnd(e:Value)(ms:Bool):List Value:=[e,.bool ms]
theorem Hl:buf0.length=512:=List.length_replicate
theorem zipZero:(Value.agg Tryz.zeroCells99).cells=(zip10 .nilIface .nilIface++(buf0++zipEnd .nilIface false)).toArray:=by kernel_rfl
theorem zipSize:(Value.agg Tryz.zeroCells99).cells.size=524:=by kernel_rfl
theorem zipSet(dec:Value):((Value.agg Tryz.zeroCells99).cells.setIfInBounds 7 dec).setIfInBounds 523 (.bool true)=(zip10 .nilIface dec++(buf0++zipEnd .nilIface true)).toArray:=by
  rw[zipZero]
  apply Array.ext'
  simp only[Array.toList_setIfInBounds]
  have h1:(zip10 .nilIface .nilIface).set 7 dec=zip10 .nilIface dec:=rfl
  have h2:(zip10 .nilIface dec).length=10:=rfl
  have h3:(zip10 .nilIface .nilIface).length=10:=rfl
  rw[List.set_append_left _ _ (by rw[h3];decide),h1,List.set_append_right _ _ (by rw[h2];decide),List.set_append_right _ _ (by rw[h2,Hl];decide),h2,Hl]
  rfl
theorem zipBuild(dec:Value)(h:one dec=true)(w:World):(Instr.build 99 [(2,dec),(7,.bool true)].toArray).run Tryz.prog w=.ok (.agg (zip10 .nilIface dec++(buf0++zipEnd .nilIface true)).toArray) w:=by
  simp[Instr.build,Tryz.zeroValue99]
  rw[fill_one (off:=7) rfl h (by rw[zipSize];decide),fill_one (off:=523) rfl rfl (by rw[Array.size_setIfInBounds,zipSize];decide),fill_nil]
  simp[zipSet]
theorem zipSame(b:Nat)(F:Frags)(p0 p1 p2:List Value)(h0:p0.length=10)(h1:p1.length=512):Same (⟨b,0,p0++(p1++p2)⟩::F) ([⟨b,0,p0⟩,⟨b,10,p1⟩,⟨b,522,p2⟩]++F):=by
  have:=Same.chunks b F [(0,p0),(10,p1),(522,p2)] 0 (by simp[Gw,h0,h1])
  simpa using this
theorem zip_one(dec:Value)(h:one dec=true):(zip10 .nilIface dec++(buf0++zipEnd .nilIface true)).all one=true:=by
  rw[List.all_append,List.all_append]
  have h1:(zip10 .nilIface dec).all one=true:=by simp only[zip10,List.all_cons,List.all_nil,h];rfl
  have h2:buf0.all one=true:=by rw[List.all_eq_true];intro v hv;rw[List.eq_of_mem_replicate hv];rfl
  rw[h1,h2];rfl
theorem zip_len(dec:Value):(zip10 .nilIface dec++(buf0++zipEnd .nilIface true)).length=524:=by
  rw[List.length_append,List.length_append,Hl];rfl
theorem six{hs:List Value}(h:hs.length=6):∃a0 a1 a2 a3 a4 a5,hs=[a0,a1,a2,a3,a4,a5]:=by
  match hs,h with
  | [a0,a1,a2,a3,a4,a5],_=>exact⟨_,_,_,_,_,_,rfl⟩
theorem Reads.mem{K:Known}{L:Frags}{b o k:Nat}{cs vs:List Value}(hL:⟨b,o,cs⟩∈L)(h:(cs.drop k).take vs.length=vs):Reads K L b (o+k) vs:=by
  obtain⟨i,hi⟩:=List.mem_iff_getElem?.1 hL
  exact Reads.frag hi h
theorem divide_spec{K:Known}(poly c0:Nat)(hp:poly<4294967296)(hc0:c0<4294967296):Fn Tryz.prog K 64 #[.int .u32 ((poly:Nat):Int),.int .u32 ((c0:Nat):Int)] ([]) (fun v L=>v=u32 (divN poly 8 c0)∧L=[]):=by
 refine Fn.intro (args:=[.int .u32 ((poly:Nat):Int),.int .u32 ((c0:Nat):Int)]) (RR:=Ret1 4 _) Tryz.func64 rfl rfl Tryz.ntmps64 (res1 Tryz.results64) ?_
 refine Bi (env2:=[(0,.int .u32 ((poly:Nat):Int)),(1,.int .u32 ((c0:Nat):Int))]) U<|Cr<|Ea U U<|Ek3 0 1 4 U<|Am<|Cr<|Em U U<|Ek4 0 1 4 5 U<|As<|Bw (fun mm ee ll=>∃(j:Nat),∃(c:Nat),keeps ee [0,1,5]=some [(0,.int .u32 ((poly:Nat):Int)),(1,.int .u32 ((c:Nat):Int)),(5,.int .i64 ((j:Nat):Int))]∧ll=[]∧(j≤8)∧(c=divN poly j c0)∧(c<4294967296)∧mm=8-j) (_) ⟨0,c0,rfl,rfl,by omega,rfl,hc0,rfl⟩ ?_
 rintro m0 _ _⟨j,c,hk0,rfl,hj,hc,hb,hm0⟩
 refine Av _ hk0<|Cr<|Aa (Dl (b:=((8:Nat):Int)) U U) U<|Ek4 0 1 5 6 U<|Am<|Bf U (fun h6=>?_) (fun h6=>?_)
 ·refine Ap<|Am<|As<|Cr<|Em U U<|Aa (Fa (b:=((1:Nat):Int)) U U (N.and_u32 (by omega) (by omega))) U<|Aa (Ef (b:=((1:Nat):Int)) U U) U<|Ek5 0 1 5 6 9 U<|Bf U (fun h9=>?_) (fun h9=>?_)
  ·have q1:=divN_odd hc h9
   have q2:c>>>1^^^poly<4294967296:=xor32 (by omega) hp
   refine Al<|Em U U<|Aa (Fl (b:=((1:Nat):Int)) U U (by omega) (N.shr_u32 (by omega) _)) U<|Em U U<|Aa (S.xor U U (N.xor_u32 (by omega) (by omega))) U<|Ea U U<|Ek5 0 1 5 6 9 U<|Al<|Aa (Bl (b:=((1:Nat):Int)) U U (N.add64 (by omega))) U<|Em U U<|Ek5 0 1 5 6 9 U ?_
   refine⟨_,?_,j+1,_,rfl,rfl,by omega,q1,q2,rfl⟩;omega
  have q1:=divN_even hc h9
  have q2:c>>>1<4294967296:=by omega
  refine Al<|Em U U<|Aa (Fl (b:=((1:Nat):Int)) U U (by omega) (N.shr_u32 (by omega) _)) U<|Ea U U<|Ek5 0 1 5 6 9 U<|Al<|Aa (Bl (b:=((1:Nat):Int)) U U (N.add64 (by omega))) U<|Em U U<|Ek5 0 1 5 6 9 U ?_
  refine⟨_,?_,j+1,_,rfl,rfl,by omega,q1,q2,rfl⟩;omega
 have hj8:j=8:=by omega
 subst hj8
 subst hc
 refine Bu U<|Cr<|Em U U<|Ea U U<|Ek5 0 1 4 5 6 U<|Bb ?_
 exact⟨_,rfl,rfl,rfl⟩
theorem update_spec{K:Known}(poly sum pb po cap:Nat)(l:List UInt8)(hpoly:poly<4294967296)(hsum:sum<4294967296)(hp:KB K pb po l)(hl:l.length≤9223372036854775806):Fn Tryz.prog K 45 #[.int .u32 ((poly:Nat):Int),.int .u32 ((sum:Nat):Int),.slice (some ⟨pb,po,none⟩) (l.length) (cap)] ([]) (fun v L=>v=u32 (crcOn poly sum l)∧L=[]):=by
 refine Fn.intro (args:=[.int .u32 ((poly:Nat):Int),.int .u32 ((sum:Nat):Int),.slice (some ⟨pb,po,none⟩) (l.length) (cap)]) (RR:=Ret1 6 _) Tryz.func45 rfl rfl Tryz.ntmps45 (res1 Tryz.results45) ?_
 refine Bi (env2:=[(0,.int .u32 ((poly:Nat):Int)),(1,.int .u32 ((sum:Nat):Int)),(2,.slice (some ⟨pb,po,none⟩) (l.length) (cap))]) U<|Cr<|Ea U U<|Ek4 0 1 2 6 U<|Cr<|Em U U<|Aa (S.not32 U (by omega)) U<|Ea U U<|Ek4 0 2 6 7 U<|Am<|Cr<|Em U U ?_
 refine Aa (Bc U Tu25) U<|Em U U<|Ek6 0 6 7 12 13 14 U<|As<|Bw (fun mm ee ll=>∃(i:Nat),∃(c:Nat),keeps ee [0,7,12,13,14]=some [(0,.int .u32 ((poly:Nat):Int)),(7,.int .u32 ((c:Nat):Int)),(12,.slice (some ⟨pb,po,none⟩) (l.length) (cap)),(13,.int .i64 ((l.length:Nat):Int)),(14,.int .i64 ((i:Nat):Int))]∧ll=[]∧(i≤l.length)∧(c=(nats (l.take i)).foldl (step poly) (not32 sum))∧(c<4294967296)∧mm=l.length-i) (_) ⟨0,_,rfl,rfl,by omega,rfl,not32_lt hsum,rfl⟩ ?_
 rintro m0 _ _⟨i,c,hk0,rfl,hi,hc,hb,hm0⟩
 refine Av _ hk0<|Cr<|Aa (Dl U U) U<|Ek6 0 7 12 13 14 15 U<|Am<|Bf U (fun h15=>?_) (fun h15=>?_)
 ·have hi2:i<l.length:=by omega
  have hv:=l[i].toNat_lt
  have hc2:=(fold_take (poly:=poly) (c0:=not32 sum) hi2).trans (by rw[←hc])
  refine Ap<|Am<|As<|Cr<|Aa (Bm U U (by omega) Tu25 Tz5) U<|Ag (Be U (hp.at hi2) Ta5) U<|Ea U U<|Ek7 0 7 9 12 13 14 15 U<|Al<|Em U U<|Em U U<|Em U U ?_
  refine Aa (Bv U Tu5 Tu69 (N.in_u32 (by omega))) U<|Aa (S.xor U U (N.xor_u32 (by omega) (by omega))) U ?_
  refine Ai (OpX.pick [] (F:=[]) U (Ar U Tryz.call64 (divide_spec poly (c^^^l[i].toNat) hpoly (xor32 hb (by omega))))) U ?_;rintro _ _⟨_,⟨rfl,rfl⟩,rfl⟩;refine Ax (L2:=[]) U ?_
  refine Ea U U<|Ek7 0 7 9 12 13 14 15 U<|Al<|Aa (Bl (b:=((1:Nat):Int)) U U (N.add64 (by omega))) U<|Em U U<|Ek7 0 7 9 12 13 14 15 U ?_
  refine⟨_,?_,i+1,_,rfl,rfl,by omega,hc2.symm,step_lt hpoly hb l[i].toNat_lt,rfl⟩;omega
 have hi2:i=l.length:=by omega
 subst hi2
 rw[fold_take_all]at hc
 refine Bu U<|Cr<|Em U U<|Aa (S.not32 U (by omega)) U<|Ea U U<|Ek7 0 6 7 12 13 14 15 U<|Bb ?_
 exact⟨_,rfl,by rw[hc];rfl,rfl⟩
theorem check_spec{K:Known}(pb po cap:Nat)(l:List UInt8)(hp:KB K pb po l)(hl:l.length≤9223372036854775806):Fn Tryz.prog K 28 #[.slice (some ⟨pb,po,none⟩) (l.length) (cap)] ([]) (fun v L=>v=u32 (crcOn IEEE 0 l)∧L=[]):=by
 refine Fn.intro (args:=[.slice (some ⟨pb,po,none⟩) (l.length) (cap)]) (RR:=Ret1 2 _) Tryz.func28 rfl rfl Tryz.ntmps28 (res1 Tryz.results28) ?_
 refine Bi (env2:=[(0,.slice (some ⟨pb,po,none⟩) (l.length) (cap))]) U<|Cr<|Ea U U<|Ek2 0 2 U<|Cr<|Em U U ?_
 refine Ai (OpX.pick [] (F:=[]) U (Ar U Tryz.call45 (update_spec IEEE 0 pb po cap l (by decide) (by decide) hp hl))) U ?_;rintro _ _⟨_,⟨rfl,rfl⟩,rfl⟩;refine Ax (L2:=[]) U ?_
 refine Ea U U<|Ek1 2 U<|Bb ?_
 exact⟨_,rfl,rfl,rfl⟩
section
variable {P:Program}{K:Known}{n:Nat}{env:Env}{L:Frags}
theorem Gk{ops:Array Oper}{l:List Oper}{A F:Frags}{N:Post}(s:Same L (A++F))(h:wpE P K n ops l env A N):wpE P K n ops l env L N:=by
  refine Ev s ?_
  intro a w hf hw Q q
  exact h a w hf hw.drop Q fun e l a' w' h f t=>q e l a' w' h f (To.frame hw t).drop
end
theorem arr2(f:Nat→Value)(u v:Value):(((Array.range 2).map f).setIfInBounds 0 u).setIfInBounds 1 v=#[u,v]:=by
  rw[show Array.range 2=#[0,1] by decide];simp
def encB(c:UInt8):List UInt8:=if c.toNat<128 then [c]else [UInt8.ofNat (192+c.toNat/64),UInt8.ofNat (128+c.toNat%64)]
def latinB(l:List UInt8):List UInt8:=l.flatMap encB
theorem encode_enc(c:UInt8):Utf8.encode ((c.toNat:Nat):Int)=⟨(encB c).toArray⟩:=by
  rw[encode_byte,encB];split<;>rfl
theorem latinB_go:∀(l:List UInt8) (s:ByteArray),(l.map fun c=>((c.toNat:Nat):Int)).foldl (fun r n=>r++Utf8.encode n) s=⟨s.data++(latinB l).toArray⟩
  | [],s=>by simp[latinB]
  |c::r,s=>by
    rw[List.map_cons,List.foldl_cons,encode_enc,latinB_go r _]
    simp[latinB]
theorem latin_eq(l:List UInt8):latin l=⟨(latinB l).toArray⟩:=by
  unfold latin runesBytes
  rw[latinB_go l _];simp
theorem le32_val{a b c d:Nat}(ha:a<256)(hb:b<256)(hc:c<256)(hd:d<256):le32 a b c d=a+256*b+65536*c+16777216*d:=by
  unfold le32
  rw[show(b<<<8)%4294967296=b<<<8 by rw[Nat.shiftLeft_eq];omega,show(c<<<16)%4294967296=c<<<16 by rw[Nat.shiftLeft_eq];omega,show(d<<<24)%4294967296=d<<<24 by rw[Nat.shiftLeft_eq];omega]
  have h1:=Nat.shiftLeft_add_eq_or_of_lt (b:=a) (i:=8) (by omega) b
  have h2:=Nat.shiftLeft_add_eq_or_of_lt (b:=a|||b<<<8) (i:=16) (by rw[Nat.or_comm,←h1,Nat.shiftLeft_eq];omega) c
  have h3:=Nat.shiftLeft_add_eq_or_of_lt (b:=a|||b<<<8|||c<<<16) (i:=24) (by rw[Nat.or_comm,←h2,Nat.or_comm a,←h1,Nat.shiftLeft_eq,Nat.shiftLeft_eq];omega) d
  rw[Nat.or_comm _ (d<<<24),←h3,Nat.or_comm _ (c<<<16),←h2,Nat.or_comm a,←h1]
  simp only[Nat.shiftLeft_eq];omega
set_option maxHeartbeats 4000000
open Go Go.Proofs Go.ChangeShapes Go.WideShapes Go.RowKit
theorem starName: "*" ++ "errors.errorString" = "*errors.errorString" :=by decide
theorem errRow(u:TypeId)(h:Tryz.prog.typeName? 3 u=some "*errors.errorString"):u=215:=
  typeName_ptr_named (nm:= "errors.errorString") (by rw[starName];kernel_rfl) (by kernel_rfl) (by decide) u (by rw[starName];exact h)
theorem cellsErr:Tryz.prog.cellsOf 234=1:=by kernel_rfl
theorem cellsStr:Tryz.prog.cellsOf 9=1:=by kernel_rfl
theorem cellsU8:Tryz.prog.cellsOf 5=1:=by kernel_rfl
abbrev laidErr(text:List UInt8):DataW Unit:=.iface "*errors.errorString" (.ptr (.agg [.lit (.string text)]))
theorem Hu{W:World}{b o:Nat}{v:Value}(h:W.cell? ⟨b,o,none⟩=some v):cellAt (fun b=>W.heap[b]?) b o=some v:=by
  unfold World.cell? at h
  unfold cellAt
  dsimp only at h⊢
  split at h
  · rename_i c t fr hb
    rw[hb];simpa using h
  · cases h
theorem laid_err{W:World}{n:String}{text:List UInt8}{r:List (String×DataW Unit)}{ps:List MemPlace}{g:Nat}(hg:Tryz.prog.globalNamed n=some g)(ht:(Tryz.prog.globals[g]?).map (·.type)=some 58)
    (h:DataW.LaidVars Tryz.prog W ((n,laidErr text)::r) ps)
    (hrows:∀b off,MemPlace.cell b off∈ps→(∃c t,W.heap[b]? =some (.cells c t (0,0)))∧∀u v,W.cell? ⟨b,off,none⟩=some (.iface u v)→Value.okWide Tryz.prog W .any 0 u v):
    ∃a q,cellAt (fun b=>W.heap[b]?) g 0=some (.iface 215 (.pointer (some a)))∧DataW.LaidVars Tryz.prog W r q∧ps=MemPlace.cell g 0::(MemPlace.row a 1++q):=by
  obtain⟨g',t,cs,fuel,p,q,hg',ht',hv,hd,hr,rfl⟩:=h
  obtain rfl:=Option.some.inj (hg.symm.trans hg')
  obtain rfl:=Option.some.inj (ht.symm.trans ht')
  obtain⟨l⟩:=cs
  obtain⟨a,s,rfl,hc,hs,hz,rfl⟩:=errorString_of_trod Tu58 errRow Tryz.underlying215 Tryz.underlying234 rfl rfl Tu9 cellsErr cellsStr hd (fun u v e=>by
    subst e
    exact(hrows g 0 (by simp[MemPlace.row])).2 u v (by simpa using World.var?_cell hg hv 0))
  refine⟨a,q,?_,hr,by simp[MemPlace.row]⟩
  exact Hu (by simpa using World.var?_cell hg hv 0)
theorem arg_bytes{H:Type}{enc:TypeId×Value→H}{W:World}{base:Nat}{v1:Value}{d1:DataW H}{p1:List MemPlace}(hval:Value.okWide Tryz.prog W .any base 25 v1)
    (h1:DataW.Trod enc Tryz.prog W 0 (fun _=>true) true 25 v1 d1 p1):
    v1=.slice none 0 0∨(∃a c,v1=.slice (some a) 0 c)∨∃pb po cap,∃l:List UInt8,v1=.slice (some ⟨pb,po,none⟩) l.length cap∧l.length≤cap∧KB (fun b=>W.heap[b]?) pb po l:=by
  obtain⟨a1,len,cap,rfl⟩:=okWide_slice Tu25 hval
  obtain⟨fuel,hf⟩:=h1
  rcases open_ints Tu25 Tu5 cellsU8 hf with⟨hcs,hx⟩|⟨a,len',cap',zs,hcs,_,hl,hm,hz,hx,hcell,hwz⟩
  · simp[Value.cells]at hcs
    obtain⟨rfl,rfl,rfl⟩:=hcs
    exact .inl U
  · simp[Value.cells]at hcs
    obtain⟨rfl,rfl,rfl⟩:=hcs
    simp only[if_true]at hz
    by_cases h0:len=0
    · subst h0;exact .inr (.inl ⟨_,_,rfl⟩)
    · right;right
      obtain⟨ab,ao,spot⟩:=a
      have hspot:spot=none:=by simpa[Addr.add]using World.cell?_spot (hcell 0 (by omega))
      subst hspot
      have hlen:((zs.take len).map fun n=>UInt8.ofNat n.toNat).length=len:=by simp;omega
      refine⟨ab,ao,cap,(zs.take len).map fun n=>UInt8.ofNat n.toNat,by rw[hlen],by rw[hlen];exact hl,fun j hj=>?_⟩
      rw[hlen]at hj
      have hcj:=hcell j (by omega)
      rw[Addr.add_lit]at hcj
      have hb:=range_u8 hwz j
      have e:zs.getD j 0=zs[j]'(by omega):=by simp[List.getD,List.getElem?_eq_getElem (show j<zs.length by omega)]
      rw[e]at hcj
      rw[←List.getD_eq_getElem?_getD,e]at hb
      have hv:(u8 (((zs.take len).map fun n=>UInt8.ofNat n.toNat)[j]'(by rw[hlen];exact hj)))=.int .u8 zs[j]:=by
        have e3:((zs.take len).map fun n=>UInt8.ofNat n.toNat)[j]'(by rw[hlen];exact hj)=UInt8.ofNat (zs[j]'(by omega)).toNat:=by simp
        have e4:((UInt8.ofNat (zs[j]'(by omega)).toNat).toNat:Int)=zs[j]'(by omega):=by rw[UInt8.toNat_ofNat'];omega
        show Value.int .u8 _=_
        rw[e3,e4]
      rw[hv]
      exact Hu hcj
end Go.Eng
