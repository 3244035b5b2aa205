/-
  Texts of this proof,merged: WFl4,WFl5,WFl6,WFl7,Dyn,WFl8.
-/
import Derived.Test.YtbjbmpcgiokdaaaDoorMp3
import Derived.Test.YtbjbmpcgiokdaaaDoorMp2
set_option linter.unusedVariables false
set_option linter.unusedSimpArgs false
namespace Go.Eng
open Go Go.Proofs
set_option maxRecDepth 100000

set_option maxHeartbeats 2000000
/-- How moreBits ends. -/
theorem moreBits_e {K : Known} {ea : Fin 5 → Addr} (hs : Sents K ea) (src : Src K ea) (x1 x2 x3 : Frag) (fb : Nat) (ro : Int) (dt : List UInt8) (p q b nb : Nat) (hA : src.At (dt.drop q) x1 x2 x3) (hB : BitsIn dt p q b nb) (hn : nb ≤ 24) :
    Fn Tryd.prog K 71 #[.pointer (some ⟨fb,0,none⟩)] [x1,x2,x3,⟨fb,0,[.iface src.t src.v,.pointer none,.int .i64 (ro),.int .u32 (((b) : Nat) : Int),.int .u64 (((nb) : Nat) : Int)]⟩] fun r L => ∃ f1 f2 f3 e b2 nb2 ro2,r = Er.val ea e ∧ L = [f1,f2,f3,⟨fb,0,[.iface src.t src.v,.pointer none,.int .i64 (ro2),.int .u32 (((b2) : Nat) : Int),.int .u64 (((nb2) : Nat) : Int)]⟩] ∧
      ((e = .none ∧ src.At (dt.drop (q + 1)) f1 f2 f3 ∧ BitsIn dt p (q + 1) b2 nb2 ∧ nb2 = nb + 8) ∨ (Bad5 e ∧ q = dt.length ∧ ∃ l,src.At l f1 f2 f3)) := by
  refine (moreBits_spec hs src x1 x2 x3 fb (.pointer none) ro dt p q b nb hA hB hn).mono ?_
  rintro v L ⟨f1,f2,f3,⟨hq,ro2,rfl,h1,h2,rfl⟩ | ⟨hq,⟨e,he,rfl⟩,h1,rfl⟩⟩
  · exact ⟨_,_,_,_,_,_,_,rfl,rfl,.inl ⟨rfl,h1,h2,rfl⟩⟩
  · exact ⟨_,_,_,_,_,_,_,rfl,rfl,.inr ⟨he,hq,_,h1⟩⟩
/-- huffSym among other memory. -/
def SymE {K : Known} {ea : Fin 5 → Addr} (src : Src K ea) (dt : List UInt8) (p q nb : Nat) (lens : List Nat) (mn : Nat) (ev : Value) (e : Er) (vi : Int) (y1 y2 y3 : Frag) (a b c ev2 : Value) : Prop :=
  (e = .none ∧ ∃ v,vi = ((v : Nat) : Int) ∧ symR lens mn dt p = some v ∧ v < lens.length ∧ ∃ q2 b2 nb2 ro2,src.At (dt.drop q2) y1 y2 y3 ∧ BitsIn dt (p + lenOf lens v) q2 b2 nb2 ∧ nb2 ≤ 31 ∧ ((q2 = q ∧ nb2 + lenOf lens v = nb) ∨ nb2 + lenOf lens v < max mn (lenOf lens v) + 8) ∧ a = .int .i64 ro2 ∧ b = .int .u32 ((b2 : Nat) : Int) ∧ c = .int .u64 ((nb2 : Nat) : Int) ∧ ev2 = ev) ∨
  (Bad5 e ∧ symR lens mn dt p = none ∧ ∃ l,src.At l y1 y2 y3)
theorem huffSym_in {K : Known} {ea : Fin 5 → Addr} (hs : Sents K ea) (src : Src K ea) (x1 x2 x3 : Frag) (fb : Nat) (ro : Int) (s0 s1 s2 ev s4 s5 s6 s7 s8 : Value) (hb o : Nat) (dt : List UInt8) (p q b nb : Nat) (hA : src.At (dt.drop q) x1 x2 x3) (hB : BitsIn dt p q b nb) (hn : nb ≤ 31) (lens : List Nat) (mn : Nat) (hok : okLens lens) (h15 : ∀ s,lenOf lens s ≤ 15) (hmn : minL lens ≤ mn) (hm15 : mn ≤ 15)
    (LH G J : Frags) (hH : HufT lens mn hb o LH) :
    Fn Tryd.prog K 81 #[.pointer (some ⟨fb,0,none⟩),.pointer (some ⟨hb,o,none⟩)] (x1::x2::x3::⟨fb,0,[.iface src.t src.v,.pointer none,.int .i64 (ro),.int .u32 (((b) : Nat) : Int),.int .u64 (((nb) : Nat) : Int)]⟩::⟨fb,1045,[s0,s1,s2,ev,s4,s5,s6,s7,s8]⟩::(G ++ (LH ++ J)))
      fun r L => ∃ e vi y1 y2 y3 a b c ev2,r = .tuple #[.int .i64 vi,Er.val ea e] ∧ SymE src dt p q nb lens mn ev e vi y1 y2 y3 a b c ev2 ∧ L = y1::y2::y3::⟨fb,0,[.iface src.t src.v,.pointer none,a,b,c]⟩::⟨fb,1045,[s0,s1,s2,ev2,s4,s5,s6,s7,s8]⟩::(G ++ (LH ++ J)) := by
  have h := Fn.frame (F := G ++ J) (huffSym_spec hs src x1 x2 x3 fb (.pointer none) ro s0 s1 s2 ev s4 s5 s6 s7 s8 hb o dt p q b nb hA hB hn lens mn hok h15 hmn hm15 LH hH)
  have pm : ∀ a b c d e : Frag,(a::b::c::d::e::(G ++ (LH ++ J))).Perm ((a::b::c::d::e::LH) ++ (G ++ J)) := fun a b c d e => by
    simp only [List.cons_append]
    refine .cons _ (.cons _ (.cons _ (.cons _ (.cons _ ?_))))
    rw [← List.append_assoc,← List.append_assoc]
    exact List.perm_append_comm.append_right J
  refine Fn.sameR (Fn.perm (pm _ _ _ _ _) h) ?_
  rintro v L ⟨L1,⟨y1,y2,y3,A,B,hS,rfl⟩,rfl⟩
  rcases hS with ⟨v,h1,h2,_,rfl,q2,b2,nb2,ro2,h3,h4,h5,h6,rfl,rfl⟩ | ⟨h1,⟨e,v,he,rfl⟩,l,a,b,c,ev2,h3,rfl,rfl⟩
  · exact ⟨_,Same.perm (pm _ _ _ _ _).symm,_,_,_,_,_,_,_,_,_,rfl,.inl ⟨rfl,v,rfl,h1,h2,q2,b2,nb2,ro2,h3,h4,h5,h6,rfl,rfl,rfl,rfl⟩,rfl⟩
  · exact ⟨_,Same.perm (pm _ _ _ _ _).symm,_,_,_,_,_,_,_,_,_,rfl,.inr ⟨he,h1,l,h3⟩,rfl⟩
theorem huffSym_end {K : Known} {ea : Fin 5 → Addr} (hs : Sents K ea) (src : Src K ea) (x1 x2 x3 : Frag) (fb : Nat) (ro : Int) (s0 s1 s2 ev s4 s5 s6 s7 s8 : Value) (hb o : Nat) (dt : List UInt8) (p q b nb : Nat) (hA : src.At (dt.drop q) x1 x2 x3) (hB : BitsIn dt p q b nb) (hn : nb ≤ 31) (lens : List Nat) (mn : Nat) (hok : okLens lens) (h15 : ∀ s,lenOf lens s ≤ 15) (hmn : minL lens ≤ mn) (hm15 : mn ≤ 15)
    (LH G : Frags) (hH : HufT lens mn hb o LH) :
    Fn Tryd.prog K 81 #[.pointer (some ⟨fb,0,none⟩),.pointer (some ⟨hb,o,none⟩)] (x1::x2::x3::⟨fb,0,[.iface src.t src.v,.pointer none,.int .i64 (ro),.int .u32 (((b) : Nat) : Int),.int .u64 (((nb) : Nat) : Int)]⟩::⟨fb,1045,[s0,s1,s2,ev,s4,s5,s6,s7,s8]⟩::(G ++ LH))
      fun r L => ∃ e vi y1 y2 y3 a b c ev2,r = .tuple #[.int .i64 vi,Er.val ea e] ∧ SymE src dt p q nb lens mn ev e vi y1 y2 y3 a b c ev2 ∧ L = y1::y2::y3::⟨fb,0,[.iface src.t src.v,.pointer none,a,b,c]⟩::⟨fb,1045,[s0,s1,s2,ev2,s4,s5,s6,s7,s8]⟩::(G ++ LH) := by
  have h := huffSym_in hs src x1 x2 x3 fb ro s0 s1 s2 ev s4 s5 s6 s7 s8 hb o dt p q b nb hA hB hn lens mn hok h15 hmn hm15 LH G [] hH
  rw [List.append_nil] at h
  exact h
theorem symR_min {lens : List Nat} {dt : List UInt8} {p : Nat} : symR lens (minL lens) dt p = symR lens 0 dt p := by
  unfold symR
  rw [if_neg (Nat.not_lt_zero _)]
  split
  · rename_i h
    refine (findS_none fun i hi => ?_).symm
    have h1 := lenOf_get (lenOf_lt hi.1)
    have h2 := (minL_spec lens).2.1 _ (List.getElem_mem (lenOf_lt hi.1)) (by have := hi.1; omega)
    omega
  · rfl
theorem min_15 {l : List Nat} (h : ∀ s,lenOf l s ≤ 15) : minL l ≤ 15 := by
  by_cases h0 : minL l = 0
  · omega
  · obtain ⟨i,hi,e⟩ := List.getElem_of_mem ((minL_spec l).2.2 h0)
    have := h i
    rw [lenOf_get hi,e] at this; exact this
theorem rev85 {x : Nat} (h : x < 32) : revB 8 (x * 8) = revB 5 x := by
  have e := revB_split 3 5 (x * 8)
  rw [show x * 8 / 2 ^ 3 = x by omega,← revB_mod 3 (x * 8),show x * 8 % 2 ^ 3 = 0 by omega] at e
  have z : revB 3 0 = 0 := by decide
  rw [z] at e
  simpa using e
theorem mask_take {dt : List UInt8} {p q b nb n : Nat} (hB : BitsIn dt p q b nb) (hn : n ≤ nb) : b &&& (2 ^ n - 1) = takeB dt p n := by rw [Nat.and_two_pow_sub_one_eq_mod,(hB.take hn).1]
theorem or_two {x y n : Nat} (h : y < 2 ^ n) : x * 2 ^ n ||| y = x * 2 ^ n + y := by rw [← Nat.shiftLeft_eq,Nat.shiftLeft_add_eq_or_of_lt h]
/-- The table of a block's literals. -/
structure LitT (t : Tabs) (lb lo : Nat) (HL : Frags) : Prop where
  huf : HufT t.lit t.mn lb lo HL
  ok : okLens t.lit
  le15 : ∀ s,lenOf t.lit s ≤ 15
  min : minL t.lit ≤ t.mn
  mn15 : t.mn ≤ 15
  eob : lenOf t.lit 256 = 0 ∨ lenOf t.lit 256 = t.mn
  len : t.lit.length ≤ 320
/-- The table of its distances. -/
def DistT (t : Tabs) (hp : Option Addr) (HD : Frags) : Prop := (hp = none ∧ t.dist = fixDist ∧ HD = []) ∨ ∃ db dO,hp = some ⟨db,dO,none⟩ ∧ HufT t.dist (minL t.dist) db dO HD ∧ okLens t.dist ∧ (∀ s,lenOf t.dist s ≤ 15) ∧ t.dist.length ≤ 320
/-- How huffmanBlock ends. -/
def HbEnd {K : Known} {ea : Fin 5 → Addr} (src : Src K ea) (dt : List UInt8) (fb hb : Nat) (R : ResR) (gv p0 : Nat) (t : Tabs) (last : Bool) (hl hd : Value) (J L : Frags) : Prop :=
  ∃ y1 y2 y3 A T W H,L = y1::y2::y3::A::T::W::H::J ∧ ((∃ pend,pend ≠ [] ∧ SymSt src dt fb hb R gv pend t last hl hd 74 y1 y2 y3 A T W H) ∨ (∃ p2,p0 < p2 ∧ NextSt src dt fb hb R gv [] p2 y1 y2 y3 A T W H) ∨ ∃ pend,EndSt src dt fb hb R gv pend y1 y2 y3 A T W H)
theorem hb_bad {K : Known} {ea : Fin 5 → Addr} {src : Src K ea} {dt : List UInt8} {fb hb : Nat} {R : ResR} {gv p0 : Nat} {t : Tabs} {last : Bool} {hl hd : Value} {J : Frags} {er : Er} {l out h : List UInt8} {y1 y2 y3 : Frag} {wr rd c0 : Nat} {full : Bool} {a0 : Option Addr} {a b c d e f g i j k trv : Value}
    (hR : R = (out,.bad)) (h5 : Bad5 er) (hA : src.At l y1 y2 y3) (H : Hist h wr full out) (hrd : rd ≤ wr) (hwr : wr < 32768) (hsum : gv + (wr - rd) = out.length) (htr : trv = .slice a0 0 c0) :
    HbEnd src dt fb hb R gv p0 t last hl hd J (y1::y2::y3::⟨fb,0,[.iface src.t src.v,.pointer none,a,b,c]⟩::⟨fb,1045,[d,e,f,Er.val ea er,trv,g,i,j,k]⟩::⟨fb,1037,[.slice (some ⟨hb,0,none⟩) 32768 32768,.int .i64 (((wr) : Nat) : Int),.int .i64 (((rd) : Nat) : Int),.bool full]⟩::⟨hb,0,bytesV (h)⟩::J) :=
  ⟨_,_,_,_,_,_,_,rfl,.inr (.inr ⟨[],out,.bad,er,trv,h,wr,rd,full,.inr ⟨rfl,h5,l,hA⟩,⟨a,b,c,rfl⟩,⟨H,hrd,hwr,by simpa using hsum,by simp,by rw [htr]; exact TR.nil _ _ _ _,rfl,rfl⟩,⟨d,e,f,g,i,j,k,rfl⟩,hR,.inl rfl⟩)⟩

theorem ss_more {ss cl cd a b : Nat} (h : SsOk ss cl cd a) (hab : a ≤ b) : SsOk ss cl cd b := h.imp id fun h => ⟨h.1,h.2.1,h.2.2.1,by omega⟩
theorem huffmanBlock_walk {K : Known} {ea : Fin 5 → Addr} (hs : Sents K ea) (src : Src K ea) (dt : List UInt8) (fb hb : Nat) (R : ResR) (gv : Nat) (t : Tabs) (last : Bool) (lb lo : Nat) (hp : Option Addr) (stp : Nat) (HL HD : Frags) (hL : LitT t lb lo HL) (hD : DistT t hp HD) (a0 : Option Addr) (c0 : Nat) (trv : Value) (htr : trv = .slice a0 0 c0) (x1 x2 x3 : Frag) (p0 q b nb : Nat) (ro : Int) (out h : List UInt8) (wr rd : Nat) (full : Bool) (ss cl cd : Nat) (hA : src.At (dt.drop q) x1 x2 x3) (hB : BitsIn dt p0 q b nb) (hnb : nb < t.mn + 8) (H : Hist h wr full out) (hrd : rd ≤ wr) (hwr : wr < 32768) (hsum : gv + (wr - rd) = out.length) (hst : (SsOk ss cl cd (hsize wr full) ∧ R = run dt (.sym last t) out p0) ∨ (ss = 1 ∧ cl ≤ 258 ∧ 1 ≤ cd ∧ cd ≤ hsize wr full ∧ R = run dt (.sym last t) (copyN out cd cl) p0)) : Fn Tryd.prog K 74 #[.pointer (some ⟨fb,0,none⟩)] ([x1,x2,x3,⟨fb,0,[.iface src.t src.v,.pointer none,.int .i64 (ro),.int .u32 (((b) : Nat) : Int),.int .u64 (((nb) : Nat) : Int)]⟩,⟨fb,1045,[.func (.func stp) #[] #[],.int .i64 (((ss) : Nat) : Int),.bool last,.nilIface,trv,.pointer (some ⟨lb,lo,none⟩),.pointer hp,.int .i64 (((cl) : Nat) : Int),.int .i64 (((cd) : Nat) : Int)]⟩,⟨fb,1037,[.slice (some ⟨hb,0,none⟩) 32768 32768,.int .i64 (((wr) : Nat) : Int),.int .i64 (((rd) : Nat) : Int),.bool full]⟩,⟨hb,0,bytesV (h)⟩] ++ (HL ++ HD)) (fun r L => r = .tuple #[] ∧ HbEnd src dt fb hb R gv p0 t last (.pointer (some ⟨lb,lo,none⟩)) (.pointer hp) (HL ++ HD) L) := by
 refine Fn.intro (args := [.pointer (some ⟨fb,0,none⟩)]) (RR := Ret0 _) Tryd.func74 rfl rfl Tryd.ntmps74 (res0 Tryd.results74) ?_
 refine C.reenv (env2 := [(0,.pointer (some ⟨fb,0,none⟩))]) rfl ?_
 refine C.scope 0 1 (fun lbl mm ee ll => (lbl = 0 ∧ ∃ (p : Nat),∃ (q : Nat),∃ (b : Nat),∃ (nb : Nat),∃ (ro : Int),∃ (f1 : Frag),∃ (f2 : Frag),∃ (f3 : Frag),∃ (out : List UInt8),∃ (h : List UInt8),∃ (wr : Nat),∃ (rd : Nat),∃ (full : Bool),∃ (ss : Nat),∃ (cl : Nat),∃ (cd : Nat),keeps ee [0] = some [(0,.pointer (some ⟨fb,0,none⟩))] ∧ ll = [f1,f2,f3,⟨fb,0,[.iface src.t src.v,.pointer none,.int .i64 (ro),.int .u32 (((b) : Nat) : Int),.int .u64 (((nb) : Nat) : Int)]⟩,⟨fb,1045,[.func (.func stp) #[] #[],.int .i64 (((ss) : Nat) : Int),.bool last,.nilIface,trv,.pointer (some ⟨lb,lo,none⟩),.pointer hp,.int .i64 (((cl) : Nat) : Int),.int .i64 (((cd) : Nat) : Int)]⟩,⟨fb,1037,[.slice (some ⟨hb,0,none⟩) 32768 32768,.int .i64 (((wr) : Nat) : Int),.int .i64 (((rd) : Nat) : Int),.bool full]⟩,⟨hb,0,bytesV (h)⟩] ++ (HL ++ HD) ∧ (src.At (dt.drop q) f1 f2 f3) ∧ (BitsIn dt p q b nb) ∧ (nb < t.mn + 8) ∧ (p0 ≤ p) ∧ (Hist h wr full out) ∧ (rd ≤ wr) ∧ (wr < 32768) ∧ (gv + (wr - rd) = out.length) ∧ (SsOk ss cl cd (hsize wr full)) ∧ (R = run dt (.sym last t) out p) ∧ mm = 2 * (8 * dt.length - p)) ∨ (lbl = 1 ∧ ∃ (p : Nat),∃ (q : Nat),∃ (b : Nat),∃ (nb : Nat),∃ (ro : Int),∃ (f1 : Frag),∃ (f2 : Frag),∃ (f3 : Frag),∃ (out : List UInt8),∃ (h : List UInt8),∃ (wr : Nat),∃ (rd : Nat),∃ (full : Bool),∃ (ss : Nat),∃ (cl : Nat),∃ (cd : Nat),keeps ee [0] = some [(0,.pointer (some ⟨fb,0,none⟩))] ∧ ll = [f1,f2,f3,⟨fb,0,[.iface src.t src.v,.pointer none,.int .i64 (ro),.int .u32 (((b) : Nat) : Int),.int .u64 (((nb) : Nat) : Int)]⟩,⟨fb,1045,[.func (.func stp) #[] #[],.int .i64 (((ss) : Nat) : Int),.bool last,.nilIface,trv,.pointer (some ⟨lb,lo,none⟩),.pointer hp,.int .i64 (((cl) : Nat) : Int),.int .i64 (((cd) : Nat) : Int)]⟩,⟨fb,1037,[.slice (some ⟨hb,0,none⟩) 32768 32768,.int .i64 (((wr) : Nat) : Int),.int .i64 (((rd) : Nat) : Int),.bool full]⟩,⟨hb,0,bytesV (h)⟩] ++ (HL ++ HD) ∧ (src.At (dt.drop q) f1 f2 f3) ∧ (BitsIn dt p q b nb) ∧ (nb < t.mn + 8) ∧ (p0 ≤ p) ∧ (Hist h wr full out) ∧ (rd ≤ wr) ∧ (wr < 32768) ∧ (gv + (wr - rd) = out.length) ∧ (ss = 0 ∨ ss = 1) ∧ (cl ≤ 258) ∧ (1 ≤ cd) ∧ (cd ≤ hsize wr full) ∧ (R = run dt (.sym last t) (copyN out cd cl) p) ∧ mm = 2 * (8 * dt.length - p) + 1)) ?_ ?_ (fun _ => rfl)
 ·
  refine C.seq ?_
  refine C.sr ?_
  refine E.pure (S.move rfl) rfl ?_
  refine E.pure (S.nilPtr rfl) rfl ?_
  refine E.pure (S.field rfl fa153_12) rfl ?_
  refine E.still (S.load 4 (k := 1) rfl rfl rfl Tryd.isAgg3) rfl ?_
  refine E.kp [(0,_),(13,_)] rfl ?_
  refine C.block ?_
  refine C.sr ?_
  refine E.pure (S.eq (b := ((0 : Nat) : Int)) rfl rfl) rfl ?_
  refine E.pure (S.assign rfl) rfl ?_
  refine E.kp [(0,_),(13,_),(14,_)] rfl ?_
  refine C.ifp rfl (fun h14 => ?_) (fun h14 => ?_)
  ·
   have hss0 : ss = 0 := by omega
   refine C.goto rfl ?_
   obtain ⟨hss,hR⟩ := hst.resolve_right fun h => by omega
   exact ⟨_,.inl ⟨rfl,p0,q,b,nb,ro,x1,x2,x3,out,h,wr,rd,full,ss,cl,cd,rfl,rfl,hA,hB,hnb,Nat.le_refl _,H,hrd,hwr,hsum,hss,hR,rfl⟩⟩
  refine C.sr ?_
  refine E.pure (S.eq (b := ((1 : Nat) : Int)) rfl rfl) rfl ?_
  refine E.pure (S.assign rfl) rfl ?_
  refine E.kp [(0,_),(13,_),(14,_),(16,_)] rfl ?_
  refine C.ifp rfl (fun h16 => ?_) (fun h16 => ?_)
  ·
   have hss1 : ss = 1 := by omega
   refine C.goto rfl ?_
   have hj : cl ≤ 258 ∧ 1 ≤ cd ∧ cd ≤ hsize wr full ∧ R = run dt (.sym last t) (copyN out cd cl) p0 := by
     rcases hst with ⟨h1 | ⟨_,h2,h3,h4⟩,h5⟩ | h1
     · omega
     · subst h2; exact ⟨by omega,h3,h4,h5⟩
     · exact h1.2
   exact ⟨_,.inr ⟨rfl,p0,q,b,nb,ro,x1,x2,x3,out,h,wr,rd,full,ss,cl,cd,rfl,rfl,hA,hB,hnb,Nat.le_refl _,H,hrd,hwr,hsum,.inr (by omega),hj.1,hj.2.1,hj.2.2.1,hj.2.2.2,rfl⟩⟩
  exfalso
  rcases hst with ⟨h1 | h1,_⟩ | h1 <;> omega
 rintro lbl mg _ _ - hJ
 rcases hJ with ⟨rfl,p,q,b,nb,ro,f1,f2,f3,out,h,wr,rd,full,ss,cl,cd,hg0,rfl,hA,hB,hnb,hp0,H,hrd,hwr,hsum,hss,hR,hmg0⟩ | ⟨rfl,p,q,b,nb,ro,f1,f2,f3,out,h,wr,rd,full,ss,cl,cd,hg1,rfl,hA,hB,hnb,hp0,H,hrd,hwr,hsum,hss,hcl,hcd1,hcd2,hR,hmg1⟩
 ·
  refine ⟨_,rfl,?_⟩
  refine C.weaken _ hg0 ?_
  refine C.seq ?_
  refine C.skip ?_
  refine C.seq ?_
  refine C.sr ?_
  refine E.pure (S.move rfl) rfl ?_
  refine E.pure (S.move rfl) rfl ?_
  refine E.pure (S.nilPtr rfl) rfl ?_
  refine E.pure (S.field rfl fa153_16) rfl ?_
  refine E.still (S.load 4 (k := 5) rfl rfl rfl Tryd.isAgg151) rfl ?_
  refine E.loud1 (X.call rfl Tryd.call81 (huffSym_in hs src _ _ _ fb _ _ _ _ _ _ _ _ _ _ lb lo dt _ _ _ _ hA hB (by have := hL.mn15; omega) t.lit t.mn hL.ok hL.le15 hL.min hL.mn15 HL [⟨fb,1037,[.slice (some ⟨hb,0,none⟩) 32768 32768,.int .i64 (((wr) : Nat) : Int),.int .i64 (((rd) : Nat) : Int),.bool full]⟩,⟨hb,0,bytesV (h)⟩] HD hL.huf)) rfl ?_; rintro _ _ ⟨e,vi,y1,y2,y3,a1,b1,c1,ev2,rfl,hE,rfl⟩; refine E.relist (L2 := (_::_::_::_::_::_::_::_)) rfl ?_
  refine E.pure (S.move rfl) rfl ?_
  refine E.pure (S.extract rfl rfl) rfl ?_
  refine E.pure (S.extract rfl rfl) rfl ?_
  refine E.pure (S.assign rfl) rfl ?_
  refine E.pure (S.assign rfl) rfl ?_
  refine E.kp [(0,_),(2,_),(3,_)] rfl ?_
  refine C.seq ?_
  refine C.sr ?_
  refine E.pure (S.move rfl) rfl ?_
  refine E.still (S.neErNil rfl) rfl ?_
  refine E.kp [(0,_),(2,_),(3,_),(28,_)] rfl ?_
  first | refine C.ifp rfl (fun h28 => ?_) (fun h28 => ?_) | refine C.ifNone rfl (fun h28 => ?_) (fun h28 => ?_) | refine C.ifSome rfl (fun h28 => ?_) (fun h28 => ?_) | refine C.ifSe rfl (fun h28 => ?_) (fun h28 => ?_) | refine C.ifNotSe rfl (fun h28 => ?_) (fun h28 => ?_) | refine C.cond rfl (fun h28 => ?_) (fun h28 => ?_)
  ·
   obtain ⟨hb5,hsn,lx,hAx⟩ := hE.resolve_left fun h => h28 h.1
   refine C.sr ?_
   refine E.pure (S.move rfl) rfl ?_
   refine E.pure (S.move rfl) rfl ?_
   refine E.pure (S.nilPtr rfl) rfl ?_
   refine E.pure (S.field rfl fa153_14) rfl ?_
   refine E.loud0 (X.store 4 (k := 3) rfl rfl rfl (one_er _) rfl Tryd.sizeOf59) ?_; rintro _ _ ⟨rfl,rfl⟩; refine E.relist (L2 := (_::_::_::_::_::_::_::_)) rfl ?_
   refine E.kp [(0,_),(2,_),(3,_),(28,_)] rfl ?_
   refine C.ret ?_
   exact ⟨rfl,hb_bad (hR.trans (run_none hsn)) (hb5) hAx H hrd hwr hsum htr⟩
  obtain ⟨_,v,rfl,hsy,hvl,q2,b2,nb2,ro2,hA2,hB2,hn31,hbd,rfl,rfl,rfl,rfl⟩ := hE.resolve_right fun h => h.1.2 h28
  have hm := symR_some hsy
  have hm0 := hm.1.1
  have hll := hL.len
  have hmn15 := hL.mn15
  have hnb2 : nb2 < t.mn + 8 := by have := Nat.le_max_left t.mn (lenOf t.lit v); omega
  clear hE
  refine C.skip ?_
  refine C.sr ?_
  refine E.pure (S.assign rfl) rfl ?_
  refine E.kp [(0,_),(2,_),(3,_),(4,_),(28,_)] rfl ?_
  refine C.sr ?_
  refine E.pure (S.assign rfl) rfl ?_
  refine E.kp [(0,_),(2,_),(3,_),(4,_),(5,_),(28,_)] rfl ?_
  refine C.cut (M := fun ee ll => keeps ee [0,4,5] = some [(0,.pointer (some ⟨fb,0,none⟩)),(4,.int .u64 ((moreL.getD (v - 257) 0 : Nat) : Int)),(5,.int .i64 ((sizesL.getD (v - 257) 0 : Nat) : Int))] ∧ ll = [y1,y2,y3,⟨fb,0,[.iface src.t src.v,.pointer none,.int .i64 (ro2),.int .u32 (((b2) : Nat) : Int),.int .u64 (((nb2) : Nat) : Int)]⟩,⟨fb,1045,[.func (.func stp) #[] #[],.int .i64 (((ss) : Nat) : Int),.bool last,.nilIface,trv,.pointer (some ⟨lb,lo,none⟩),.pointer hp,.int .i64 (((cl) : Nat) : Int),.int .i64 (((cd) : Nat) : Int)]⟩,⟨fb,1037,[.slice (some ⟨hb,0,none⟩) 32768 32768,.int .i64 (((wr) : Nat) : Int),.int .i64 (((rd) : Nat) : Int),.bool full]⟩,⟨hb,0,bytesV (h)⟩] ++ (HL ++ HD) ∧ (257 ≤ v) ∧ (v < 286)) ?_ ?_
  ·
   refine C.block ?_
   refine C.sr ?_
   refine E.pure (S.move rfl) rfl ?_
   refine E.pure (S.lt (b := ((256 : Nat) : Int)) rfl rfl) rfl ?_
   refine E.pure (S.assign rfl) rfl ?_
   refine E.kp [(0,_),(2,_),(3,_),(4,_),(5,_),(28,_),(41,_)] rfl ?_
   refine C.ifp rfl (fun h41 => ?_) (fun h41 => ?_)
   ·
    have hv : v < 256 := by omega
    have H1 := H.write [UInt8.ofNat v] (by simp only [List.length_cons,List.length_nil]; omega)
    simp only [List.length_cons,List.length_nil,Nat.zero_add] at H1
    refine C.sr ?_
    refine E.pure (S.move rfl) rfl ?_
    refine E.pure (S.nilPtr rfl) rfl ?_
    refine E.pure (S.field rfl fa153_9) rfl ?_
    refine E.pure (S.move rfl) rfl ?_
    refine E.pure (S.conv rfl Tryd.underlying3 Tryd.underlying5 (N.in_u8 (by omega))) rfl ?_
    refine E.loud1 (OpX.pick [5,5] (F := (_::_::_::_::_::_)) rfl (X.call rfl Tryd.call82 (writeByte_spec fb 1037 hb wr rd full h H.len hwr v hv))) rfl ?_; rintro _ _ ⟨_,⟨rfl,rfl⟩,rfl⟩; refine E.relist (L2 := (_::_::_::_::_::_::_::_)) rfl ?_
    refine E.perml [2,2,2,2,2,0,0] rfl ?_
    refine E.relist (L2 := (_::_::_::_::_::_::_::_)) rfl ?_
    refine E.kp [(0,_),(2,_),(3,_),(4,_),(5,_),(28,_),(41,_)] rfl ?_
    refine C.seq ?_
    refine C.sr ?_
    refine E.pure (S.move rfl) rfl ?_
    refine E.pure (S.nilPtr rfl) rfl ?_
    refine E.pure (S.field rfl fa153_9) rfl ?_
    refine E.loud1 (OpX.pick [5] (F := (_::_::_::_::_::_::_)) rfl (X.call rfl Tryd.call83 (availWrite_spec fb 1037 hb (wr + 1) rd full (by omega) (by omega)))) rfl ?_; rintro _ _ ⟨_,⟨rfl,rfl⟩,rfl⟩; refine E.relist (L2 := (_::_::_::_::_::_::_::_)) rfl ?_
    refine E.perml [1,1,1,1,1,0,0] rfl ?_
    refine E.relist (L2 := (_::_::_::_::_::_::_::_)) rfl ?_
    refine E.pure (S.eq (b := ((0 : Nat) : Int)) rfl rfl) rfl ?_
    refine E.kp [(0,_),(2,_),(3,_),(4,_),(5,_),(28,_),(41,_),(54,_)] rfl ?_
    refine C.ifp rfl (fun h54 => ?_) (fun h54 => ?_)
    ·
     refine C.sr ?_
     refine E.pure (S.move rfl) rfl ?_
     refine E.pure (S.move rfl) rfl ?_
     refine E.pure (S.nilPtr rfl) rfl ?_
     refine E.pure (S.field rfl fa153_9) rfl ?_
     refine E.loud1 (OpX.pick [5] (F := (_::_::_::_::_::_::_)) rfl (X.call rfl Tryd.call77 (readFlush_spec fb 1037 hb (wr + 1) rd full (by omega) (by omega)))) rfl ?_; rintro _ _ ⟨_,⟨Aw,hfl,rfl⟩,rfl⟩; refine E.relist (L2 := (_::_::_::_::_::_::_::_)) rfl ?_
     refine E.perml [1,1,1,1,1,0,0] rfl ?_
     refine E.relist (L2 := (_::_::_::_::_::_::_::_)) rfl ?_
     refine E.pure (S.nilPtr rfl) rfl ?_
     refine E.pure (S.field rfl fa153_15) rfl ?_
     refine E.loud0 (X.store 4 (k := 4) rfl rfl rfl (flush_one hfl) rfl Tryd.sizeOf22) ?_; rintro _ _ ⟨rfl,rfl⟩; refine E.relist (L2 := (_::_::_::_::_::_::_::_)) rfl ?_
     refine E.kp [(0,_),(2,_),(3,_),(4,_),(5,_),(28,_),(41,_),(54,_)] rfl ?_
     refine C.sr ?_
     refine E.pure (S.move rfl) rfl ?_
     refine E.pure (S.nilPtr rfl) rfl ?_
     refine E.pure (S.field rfl fa153_11) rfl ?_
     refine E.loud0 (X.store 4 (k := 0) rfl rfl rfl rfl rfl Tryd.sizeOf150) ?_; rintro _ _ ⟨rfl,rfl⟩; refine E.relist (L2 := (_::_::_::_::_::_::_::_)) rfl ?_
     refine E.kp [(0,_),(2,_),(3,_),(4,_),(5,_),(28,_),(41,_),(54,_)] rfl ?_
     refine C.sr ?_
     refine E.pure (S.move rfl) rfl ?_
     refine E.pure (S.nilPtr rfl) rfl ?_
     refine E.pure (S.field rfl fa153_12) rfl ?_
     refine E.loud0 (X.store 4 (k := 1) rfl rfl rfl rfl rfl Tryd.sizeOf3) ?_; rintro _ _ ⟨rfl,rfl⟩; refine E.relist (L2 := (_::_::_::_::_::_::_::_)) rfl ?_
     refine E.kp [(0,_),(2,_),(3,_),(4,_),(5,_),(28,_),(41,_),(54,_)] rfl ?_
     refine C.ret ?_
     have hwn : wr + 1 = 32768 := by omega
     obtain ⟨wr5,full5,hW,hlen,hsz⟩ := WinSt.flush (gv := gv) H1 (by omega) (by rw [List.length_append]; simp only [List.length_cons,List.length_nil]; omega) hfl
     exact ⟨rfl,_,_,_,_,_,_,_,rfl,.inl ⟨_,(fun h => by rw [h] at hlen; simp at hlen; omega),_,_,_,_,_,_,_,_,_,0,cl,cd,⟨hA2,_,_,hB2,rfl⟩,hnb2,hW,rfl,.inl ⟨.inl rfl,hR.trans (run_lit hsy hv)⟩⟩⟩
    refine C.skip ?_
    refine C.goto rfl ?_
    have hR2 := hR.trans (run_lit hsy hv)
    refine ⟨_,?_,.inl ⟨rfl,_,_,_,_,_,_,_,_,_,_,wr + 1,rd,full,ss,cl,cd,rfl,rfl,hA2,hB2,hnb2,by omega,H1,by omega,by omega,(by rw [List.length_append]; simp only [List.length_cons,List.length_nil]; omega),(ss_more hss (by unfold hsize; split <;> omega)),hR2,rfl⟩⟩
    omega
   refine C.sr ?_
   refine E.pure (S.move rfl) rfl ?_
   refine E.pure (S.eq (b := ((256 : Nat) : Int)) rfl rfl) rfl ?_
   refine E.pure (S.assign rfl) rfl ?_
   refine E.kp [(0,_),(2,_),(3,_),(4,_),(5,_),(28,_),(41,_),(68,_)] rfl ?_
   refine C.ifp rfl (fun h68 => ?_) (fun h68 => ?_)
   ·
    have hv : v = 256 := by omega
    subst hv
    have heb := hL.eob.resolve_left (by omega)
    have hn8 : nb2 < 8 := by omega
    have hq8 := hB2.at8
    have hRe : last = true → R = (out,.done q2) := fun e => by rw [hR,(run_eob hsy).1 e,show (p + lenOf t.lit 256 + 7) / 8 = q2 by omega]
    refine C.sr ?_
    refine E.pure (S.move rfl) rfl ?_
    refine E.loud1 (OpX.pick [5,4] (F := (_::_::_::_::_::_)) rfl (X.call rfl Tryd.call78 (finishBlock_spec hs fb hb wr rd full last hrd hwr _ _ _ _ _ _ _ _))) rfl ?_; rintro _ _ ⟨_,⟨rfl,ev2,tr2,Aw,rfl,hfin⟩,rfl⟩; refine E.relist (L2 := (_::_::_::_::_::_::_::_)) rfl ?_
    refine E.perml [2,2,2,2,1,0,0] rfl ?_
    refine E.relist (L2 := (_::_::_::_::_::_::_::_)) rfl ?_
    refine E.kp [(0,_),(2,_),(3,_),(4,_),(5,_),(28,_),(41,_),(68,_)] rfl ?_
    refine C.ret ?_
    rcases hfin with ⟨hl5,rfl,rfl,rfl⟩ | ⟨hl5,rfl,⟨h1,rfl,rfl⟩ | ⟨_,hfl⟩⟩
    · exact ⟨rfl,_,_,_,_,_,_,_,rfl,.inr (.inl ⟨_,by omega,_,_,out,_,h,wr,rd,full,ss,last,_,_,cl,cd,⟨hA2,_,_,hB2,rfl⟩,hn8,⟨H,hrd,hwr,by simpa using hsum,by simp,by rw [htr]; exact TR.nil _ _ _ _,rfl,rfl⟩,rfl,hss,hR.trans ((run_eob hsy).2 hl5)⟩)⟩
    · exact ⟨rfl,_,_,_,_,_,_,_,rfl,.inr (.inr ⟨[],out,_,.eof,_,h,wr,rd,full,.inl ⟨q2,rfl,rfl,hB2.le,hA2⟩,⟨_,_,_,rfl⟩,⟨H,hrd,hwr,by simpa using hsum,by simp,by rw [htr]; exact TR.nil _ _ _ _,rfl,rfl⟩,⟨_,_,_,_,_,_,_,rfl⟩,hRe hl5,.inl rfl⟩)⟩
    · obtain ⟨wr5,full5,hW,hlen,hsz⟩ := WinSt.flush (gv := gv) H hrd hsum hfl
      exact ⟨rfl,_,_,_,_,_,_,_,rfl,.inr (.inr ⟨_,out,_,.eof,_,h,wr5,wr5,full5,.inl ⟨q2,rfl,rfl,hB2.le,hA2⟩,⟨_,_,_,rfl⟩,hW,⟨_,_,_,_,_,_,_,rfl⟩,hRe hl5,.inr rfl⟩)⟩
   refine C.sr ?_
   refine E.pure (S.move rfl) rfl ?_
   refine E.pure (S.lt (b := ((265 : Nat) : Int)) rfl rfl) rfl ?_
   refine E.pure (S.assign rfl) rfl ?_
   refine E.kp [(0,_),(2,_),(3,_),(4,_),(5,_),(28,_),(41,_),(68,_),(73,_)] rfl ?_
   refine C.ifp rfl (fun h73 => ?_) (fun h73 => ?_)
   ·
    refine C.sr ?_
    refine E.pure (S.move rfl) rfl ?_
    refine E.pure (S.sub (b := ((254 : Nat) : Int)) rfl rfl (N.sub64 (by omega) (by omega))) rfl ?_
    refine E.reslot (v := .int .i64 ((sizesL.getD (v - 257) 0 : Nat) : Int)) (congrArg (fun y : Nat => Value.int .i64 (y : Int)) (by have := (size_tab0 (v := v) (by omega) (by omega)).2; omega)) ?_
    refine E.pure (S.assign rfl) rfl ?_
    refine E.kp [(0,_),(2,_),(3,_),(4,_),(5,_),(28,_),(41,_),(68,_),(73,_)] rfl ?_
    refine C.region ?_
    refine E.pure (S.assign rfl) rfl ?_
    refine E.reslot (v := .int .u64 ((moreL.getD (v - 257) 0 : Nat) : Int)) (congrArg (fun y : Nat => Value.int .u64 (y : Int)) (by exact (size_tab0 (v := v) (by omega) (by omega)).1.symm)) ?_
    refine E.kp [(0,_),(2,_),(3,_),(4,_),(5,_),(28,_),(41,_),(68,_),(73,_)] rfl ?_
    exact ⟨rfl,rfl,by omega,by omega⟩
   refine C.sr ?_
   refine E.pure (S.move rfl) rfl ?_
   refine E.pure (S.lt (b := ((269 : Nat) : Int)) rfl rfl) rfl ?_
   refine E.pure (S.assign rfl) rfl ?_
   refine E.kp [(0,_),(2,_),(3,_),(4,_),(5,_),(28,_),(41,_),(68,_),(73,_),(78,_)] rfl ?_
   refine C.ifp rfl (fun h78 => ?_) (fun h78 => ?_)
   ·
    refine C.sr ?_
    refine E.pure (S.move rfl) rfl ?_
    refine E.pure (S.mul (b := ((2 : Nat) : Int)) rfl rfl (N.mul64 (by omega))) rfl ?_
    refine E.pure (S.sub (b := ((519 : Nat) : Int)) rfl rfl (N.sub64 (by omega) (by omega))) rfl ?_
    refine E.reslot (v := .int .i64 ((sizesL.getD (v - 257) 0 : Nat) : Int)) (congrArg (fun y : Nat => Value.int .i64 (y : Int)) (by have := (size_tab1 (v := v) (by omega) (by omega)).2; omega)) ?_
    refine E.pure (S.assign rfl) rfl ?_
    refine E.kp [(0,_),(2,_),(3,_),(4,_),(5,_),(28,_),(41,_),(68,_),(73,_),(78,_)] rfl ?_
    refine C.region ?_
    refine E.pure (S.assign rfl) rfl ?_
    refine E.reslot (v := .int .u64 ((moreL.getD (v - 257) 0 : Nat) : Int)) (congrArg (fun y : Nat => Value.int .u64 (y : Int)) (by exact (size_tab1 (v := v) (by omega) (by omega)).1.symm)) ?_
    refine E.kp [(0,_),(2,_),(3,_),(4,_),(5,_),(28,_),(41,_),(68,_),(73,_),(78,_)] rfl ?_
    exact ⟨rfl,rfl,by omega,by omega⟩
   refine C.sr ?_
   refine E.pure (S.move rfl) rfl ?_
   refine E.pure (S.lt (b := ((273 : Nat) : Int)) rfl rfl) rfl ?_
   refine E.pure (S.assign rfl) rfl ?_
   refine E.kp [(0,_),(2,_),(3,_),(4,_),(5,_),(28,_),(41,_),(68,_),(73,_),(78,_),(84,_)] rfl ?_
   refine C.ifp rfl (fun h84 => ?_) (fun h84 => ?_)
   ·
    refine C.sr ?_
    refine E.pure (S.move rfl) rfl ?_
    refine E.pure (S.mul (b := ((4 : Nat) : Int)) rfl rfl (N.mul64 (by omega))) rfl ?_
    refine E.pure (S.sub (b := ((1057 : Nat) : Int)) rfl rfl (N.sub64 (by omega) (by omega))) rfl ?_
    refine E.reslot (v := .int .i64 ((sizesL.getD (v - 257) 0 : Nat) : Int)) (congrArg (fun y : Nat => Value.int .i64 (y : Int)) (by have := (size_tab2 (v := v) (by omega) (by omega)).2; omega)) ?_
    refine E.pure (S.assign rfl) rfl ?_
    refine E.kp [(0,_),(2,_),(3,_),(4,_),(5,_),(28,_),(41,_),(68,_),(73,_),(78,_),(84,_)] rfl ?_
    refine C.region ?_
    refine E.pure (S.assign rfl) rfl ?_
    refine E.reslot (v := .int .u64 ((moreL.getD (v - 257) 0 : Nat) : Int)) (congrArg (fun y : Nat => Value.int .u64 (y : Int)) (by exact (size_tab2 (v := v) (by omega) (by omega)).1.symm)) ?_
    refine E.kp [(0,_),(2,_),(3,_),(4,_),(5,_),(28,_),(41,_),(68,_),(73,_),(78,_),(84,_)] rfl ?_
    exact ⟨rfl,rfl,by omega,by omega⟩
   refine C.sr ?_
   refine E.pure (S.move rfl) rfl ?_
   refine E.pure (S.lt (b := ((277 : Nat) : Int)) rfl rfl) rfl ?_
   refine E.pure (S.assign rfl) rfl ?_
   refine E.kp [(0,_),(2,_),(3,_),(4,_),(5,_),(28,_),(41,_),(68,_),(73,_),(78,_),(84,_),(90,_)] rfl ?_
   refine C.ifp rfl (fun h90 => ?_) (fun h90 => ?_)
   ·
    refine C.sr ?_
    refine E.pure (S.move rfl) rfl ?_
    refine E.pure (S.mul (b := ((8 : Nat) : Int)) rfl rfl (N.mul64 (by omega))) rfl ?_
    refine E.pure (S.sub (b := ((2149 : Nat) : Int)) rfl rfl (N.sub64 (by omega) (by omega))) rfl ?_
    refine E.reslot (v := .int .i64 ((sizesL.getD (v - 257) 0 : Nat) : Int)) (congrArg (fun y : Nat => Value.int .i64 (y : Int)) (by have := (size_tab3 (v := v) (by omega) (by omega)).2; omega)) ?_
    refine E.pure (S.assign rfl) rfl ?_
    refine E.kp [(0,_),(2,_),(3,_),(4,_),(5,_),(28,_),(41,_),(68,_),(73,_),(78,_),(84,_),(90,_)] rfl ?_
    refine C.region ?_
    refine E.pure (S.assign rfl) rfl ?_
    refine E.reslot (v := .int .u64 ((moreL.getD (v - 257) 0 : Nat) : Int)) (congrArg (fun y : Nat => Value.int .u64 (y : Int)) (by exact (size_tab3 (v := v) (by omega) (by omega)).1.symm)) ?_
    refine E.kp [(0,_),(2,_),(3,_),(4,_),(5,_),(28,_),(41,_),(68,_),(73,_),(78,_),(84,_),(90,_)] rfl ?_
    exact ⟨rfl,rfl,by omega,by omega⟩
   refine C.sr ?_
   refine E.pure (S.move rfl) rfl ?_
   refine E.pure (S.lt (b := ((281 : Nat) : Int)) rfl rfl) rfl ?_
   refine E.pure (S.assign rfl) rfl ?_
   refine E.kp [(0,_),(2,_),(3,_),(4,_),(5,_),(28,_),(41,_),(68,_),(73,_),(78,_),(84,_),(90,_),(96,_)] rfl ?_
   refine C.ifp rfl (fun h96 => ?_) (fun h96 => ?_)
   ·
    refine C.sr ?_
    refine E.pure (S.move rfl) rfl ?_
    refine E.pure (S.mul (b := ((16 : Nat) : Int)) rfl rfl (N.mul64 (by omega))) rfl ?_
    refine E.pure (S.sub (b := ((4365 : Nat) : Int)) rfl rfl (N.sub64 (by omega) (by omega))) rfl ?_
    refine E.reslot (v := .int .i64 ((sizesL.getD (v - 257) 0 : Nat) : Int)) (congrArg (fun y : Nat => Value.int .i64 (y : Int)) (by have := (size_tab4 (v := v) (by omega) (by omega)).2; omega)) ?_
    refine E.pure (S.assign rfl) rfl ?_
    refine E.kp [(0,_),(2,_),(3,_),(4,_),(5,_),(28,_),(41,_),(68,_),(73,_),(78,_),(84,_),(90,_),(96,_)] rfl ?_
    refine C.region ?_
    refine E.pure (S.assign rfl) rfl ?_
    refine E.reslot (v := .int .u64 ((moreL.getD (v - 257) 0 : Nat) : Int)) (congrArg (fun y : Nat => Value.int .u64 (y : Int)) (by exact (size_tab4 (v := v) (by omega) (by omega)).1.symm)) ?_
    refine E.kp [(0,_),(2,_),(3,_),(4,_),(5,_),(28,_),(41,_),(68,_),(73,_),(78,_),(84,_),(90,_),(96,_)] rfl ?_
    exact ⟨rfl,rfl,by omega,by omega⟩
   refine C.sr ?_
   refine E.pure (S.move rfl) rfl ?_
   refine E.pure (S.lt (b := ((285 : Nat) : Int)) rfl rfl) rfl ?_
   refine E.pure (S.assign rfl) rfl ?_
   refine E.kp [(0,_),(2,_),(3,_),(4,_),(5,_),(28,_),(41,_),(68,_),(73,_),(78,_),(84,_),(90,_),(96,_),(102,_)] rfl ?_
   refine C.ifp rfl (fun h102 => ?_) (fun h102 => ?_)
   ·
    refine C.sr ?_
    refine E.pure (S.move rfl) rfl ?_
    refine E.pure (S.mul (b := ((32 : Nat) : Int)) rfl rfl (N.mul64 (by omega))) rfl ?_
    refine E.pure (S.sub (b := ((8861 : Nat) : Int)) rfl rfl (N.sub64 (by omega) (by omega))) rfl ?_
    refine E.reslot (v := .int .i64 ((sizesL.getD (v - 257) 0 : Nat) : Int)) (congrArg (fun y : Nat => Value.int .i64 (y : Int)) (by have := (size_tab5 (v := v) (by omega) (by omega)).2; omega)) ?_
    refine E.pure (S.assign rfl) rfl ?_
    refine E.kp [(0,_),(2,_),(3,_),(4,_),(5,_),(28,_),(41,_),(68,_),(73,_),(78,_),(84,_),(90,_),(96,_),(102,_)] rfl ?_
    refine C.region ?_
    refine E.pure (S.assign rfl) rfl ?_
    refine E.reslot (v := .int .u64 ((moreL.getD (v - 257) 0 : Nat) : Int)) (congrArg (fun y : Nat => Value.int .u64 (y : Int)) (by exact (size_tab5 (v := v) (by omega) (by omega)).1.symm)) ?_
    refine E.kp [(0,_),(2,_),(3,_),(4,_),(5,_),(28,_),(41,_),(68,_),(73,_),(78,_),(84,_),(90,_),(96,_),(102,_)] rfl ?_
    exact ⟨rfl,rfl,by omega,by omega⟩
   refine C.sr ?_
   refine E.pure (S.move rfl) rfl ?_
   refine E.pure (S.lt (b := ((286 : Nat) : Int)) rfl rfl) rfl ?_
   refine E.pure (S.assign rfl) rfl ?_
   refine E.kp [(0,_),(2,_),(3,_),(4,_),(5,_),(28,_),(41,_),(68,_),(73,_),(78,_),(84,_),(90,_),(96,_),(102,_),(108,_)] rfl ?_
   refine C.ifp rfl (fun h108 => ?_) (fun h108 => ?_)
   ·
    refine C.sr ?_
    refine E.pure (S.assign rfl) rfl ?_
    refine E.reslot (v := .int .i64 ((sizesL.getD (v - 257) 0 : Nat) : Int)) (congrArg (fun y : Nat => Value.int .i64 (y : Int)) (by exact (size_tab6 (v := v) (by omega) (by omega)).2.symm)) ?_
    refine E.kp [(0,_),(2,_),(3,_),(4,_),(5,_),(28,_),(41,_),(68,_),(73,_),(78,_),(84,_),(90,_),(96,_),(102,_),(108,_)] rfl ?_
    refine C.region ?_
    refine E.pure (S.assign rfl) rfl ?_
    refine E.reslot (v := .int .u64 ((moreL.getD (v - 257) 0 : Nat) : Int)) (congrArg (fun y : Nat => Value.int .u64 (y : Int)) (by exact (size_tab6 (v := v) (by omega) (by omega)).1.symm)) ?_
    refine E.kp [(0,_),(2,_),(3,_),(4,_),(5,_),(28,_),(41,_),(68,_),(73,_),(78,_),(84,_),(90,_),(96,_),(102,_),(108,_)] rfl ?_
    exact ⟨rfl,rfl,by omega,by omega⟩
   refine C.sr ?_
   refine E.pure (S.move rfl) rfl ?_
   refine E.pure (S.move rfl) rfl ?_
   refine E.pure (S.nilPtr rfl) rfl ?_
   refine E.pure (S.field rfl fa153_2) rfl ?_
   refine E.still (S.load 3 (k := 2) rfl rfl rfl Tryd.isAgg2) rfl ?_
   refine E.pure (S.mkIface rfl conc165) rfl ?_
   refine E.reslot (v := Er.val ea (.corrupt ro2)) (rfl) ?_
   refine E.pure (S.nilPtr rfl) rfl ?_
   refine E.pure (S.field rfl fa153_14) rfl ?_
   refine E.loud0 (X.store 4 (k := 3) rfl rfl rfl rfl rfl Tryd.sizeOf59) ?_; rintro _ _ ⟨rfl,rfl⟩; refine E.relist (L2 := (_::_::_::_::_::_::_::_)) rfl ?_
   refine E.kp [(0,_),(2,_),(3,_),(4,_),(5,_),(28,_),(41,_),(68,_),(73,_),(78,_),(84,_),(90,_),(96,_),(102,_),(108,_)] rfl ?_
   refine C.ret ?_
   exact ⟨rfl,hb_bad (hR.trans (run_big hsy (by omega))) (bad_corrupt _) hA2 H hrd hwr hsum htr⟩
  rintro _ _ ⟨hq38,rfl,hv1,hv2⟩
  refine C.weaken _ hq38 ?_
  refine C.cut (M := fun ee ll => ∃ (q : Nat),∃ (b : Nat),∃ (nb : Nat),∃ (ro : Int),∃ (g1 : Frag),∃ (g2 : Frag),∃ (g3 : Frag),∃ (ln : Nat),keeps ee [0,5] = some [(0,.pointer (some ⟨fb,0,none⟩)),(5,.int .i64 ((ln : Nat) : Int))] ∧ ll = [g1,g2,g3,⟨fb,0,[.iface src.t src.v,.pointer none,.int .i64 (ro),.int .u32 (((b) : Nat) : Int),.int .u64 (((nb) : Nat) : Int)]⟩,⟨fb,1045,[.func (.func stp) #[] #[],.int .i64 (((ss) : Nat) : Int),.bool last,.nilIface,trv,.pointer (some ⟨lb,lo,none⟩),.pointer hp,.int .i64 (((cl) : Nat) : Int),.int .i64 (((cd) : Nat) : Int)]⟩,⟨fb,1037,[.slice (some ⟨hb,0,none⟩) 32768 32768,.int .i64 (((wr) : Nat) : Int),.int .i64 (((rd) : Nat) : Int),.bool full]⟩,⟨hb,0,bytesV (h)⟩] ++ (HL ++ HD) ∧ (src.At (dt.drop q) g1 g2 g3) ∧ (BitsIn dt (p + lenOf t.lit v + moreL.getD (v - 257) 0) q b nb) ∧ (nb < t.mn + 8) ∧ (ln = sizesL.getD (v - 257) 0 + takeB dt (p + lenOf t.lit v) (moreL.getD (v - 257) 0)) ∧ (¬ left dt (p + lenOf t.lit v) < moreL.getD (v - 257) 0)) ?_ ?_
  ·
   refine C.sr ?_
   refine E.pure (S.move rfl) rfl ?_
   refine E.pure (S.gt (b := ((0 : Nat) : Int)) rfl rfl) rfl ?_
   refine E.kp [(0,_),(4,_),(5,_),(112,_)] rfl ?_
   refine C.ifp rfl (fun h112 => ?_) (fun h112 => ?_)
   ·
    have hszb := size_bound (D := dt) (p := p + lenOf t.lit v) hv2 hv1
    have h2M : 2 ^ (moreL.getD (v - 257) 0) ≤ 2 ^ 5 := Nat.pow_le_pow_right (by omega) hszb.2
    have h2M1 : 0 < 2 ^ (moreL.getD (v - 257) 0) := Nat.pow_pos (by omega)
    refine C.seq ?_
    refine C.block ?_
    refine C.loop (fun mm ee ll => ∃ (q : Nat),∃ (b : Nat),∃ (nb : Nat),∃ (ro : Int),∃ (g1 : Frag),∃ (g2 : Frag),∃ (g3 : Frag),keeps ee [0,4,5] = some [(0,.pointer (some ⟨fb,0,none⟩)),(4,.int .u64 ((moreL.getD (v - 257) 0 : Nat) : Int)),(5,.int .i64 ((sizesL.getD (v - 257) 0 : Nat) : Int))] ∧ ll = [g1,g2,g3,⟨fb,0,[.iface src.t src.v,.pointer none,.int .i64 (ro),.int .u32 (((b) : Nat) : Int),.int .u64 (((nb) : Nat) : Int)]⟩,⟨fb,1045,[.func (.func stp) #[] #[],.int .i64 (((ss) : Nat) : Int),.bool last,.nilIface,trv,.pointer (some ⟨lb,lo,none⟩),.pointer hp,.int .i64 (((cl) : Nat) : Int),.int .i64 (((cd) : Nat) : Int)]⟩,⟨fb,1037,[.slice (some ⟨hb,0,none⟩) 32768 32768,.int .i64 (((wr) : Nat) : Int),.int .i64 (((rd) : Nat) : Int),.bool full]⟩,⟨hb,0,bytesV (h)⟩] ++ (HL ++ HD) ∧ (src.At (dt.drop q) g1 g2 g3) ∧ (BitsIn dt (p + lenOf t.lit v) q b nb) ∧ (nb < t.mn + 8 ∨ nb < moreL.getD (v - 257) 0 + 8) ∧ mm = moreL.getD (v - 257) 0 - nb) (_) ⟨q2,b2,nb2,ro2,y1,y2,y3,rfl,rfl,hA2,hB2,.inl hnb2,rfl⟩ ?_
    rintro m0 _ _ ⟨q,b,nb,ro,g1,g2,g3,hk0,rfl,hA,hB,hnl,hm0⟩
    refine C.weaken _ hk0 ?_
    refine C.seq ?_
    refine C.sr ?_
    refine E.pure (S.move rfl) rfl ?_
    refine E.pure (S.nilPtr rfl) rfl ?_
    refine E.pure (S.field rfl fa153_4) rfl ?_
    refine E.still (S.load 3 (k := 4) rfl rfl rfl Tryd.isAgg92) rfl ?_
    refine E.pure (S.move rfl) rfl ?_
    refine E.pure (S.lt rfl rfl) rfl ?_
    refine E.kp [(0,_),(4,_),(5,_),(118,_)] rfl ?_
    refine C.ifp rfl (fun h118 => ?_) (fun h118 => ?_)
    ·
     refine C.skip ?_
     refine C.block ?_
     refine C.sr ?_
     refine E.pure (S.move rfl) rfl ?_
     refine E.loud1 (OpX.pick [0,0,0,0] (F := (_::_::_::_)) rfl (X.call rfl Tryd.call71 (moreBits_e hs src _ _ _ fb _ dt _ _ _ _ hA hB (by omega)))) rfl ?_; rintro _ _ ⟨_,⟨k1,k2,k3,e4,b4,nb4,ro4,rfl,rfl,hE4⟩,rfl⟩; refine E.relist (L2 := (_::_::_::_::_::_::_::_)) rfl ?_
     refine E.perml [0,0,0,0,0,0,0] rfl ?_
     refine E.relist (L2 := (_::_::_::_::_::_::_::_)) rfl ?_
     refine E.pure (S.assign rfl) rfl ?_
     refine E.kp [(0,_),(3,_),(4,_),(5,_),(118,_)] rfl ?_
     refine C.sr ?_
     refine E.pure (S.move rfl) rfl ?_
     refine E.still (S.neErNil rfl) rfl ?_
     refine E.kp [(0,_),(3,_),(4,_),(5,_),(118,_),(122,_)] rfl ?_
     first | refine C.ifp rfl (fun h122 => ?_) (fun h122 => ?_) | refine C.ifNone rfl (fun h122 => ?_) (fun h122 => ?_) | refine C.ifSome rfl (fun h122 => ?_) (fun h122 => ?_) | refine C.ifSe rfl (fun h122 => ?_) (fun h122 => ?_) | refine C.ifNotSe rfl (fun h122 => ?_) (fun h122 => ?_) | refine C.cond rfl (fun h122 => ?_) (fun h122 => ?_)
     ·
      obtain ⟨hb5,hqe,lx,hAx⟩ := hE4.resolve_left fun h => h122 h.1
      have hle := hB.left_eq
      refine C.sr ?_
      refine E.pure (S.move rfl) rfl ?_
      refine E.pure (S.move rfl) rfl ?_
      refine E.pure (S.nilPtr rfl) rfl ?_
      refine E.pure (S.field rfl fa153_14) rfl ?_
      refine E.loud0 (X.store 4 (k := 3) rfl rfl rfl (one_er _) rfl Tryd.sizeOf59) ?_; rintro _ _ ⟨rfl,rfl⟩; refine E.relist (L2 := (_::_::_::_::_::_::_::_)) rfl ?_
      refine E.kp [(0,_),(3,_),(4,_),(5,_),(118,_),(122,_)] rfl ?_
      refine C.ret ?_
      exact ⟨rfl,hb_bad (hR.trans (run_bad hsy hv1 hv2 (copyR_more (by omega)))) (hb5) hAx H hrd hwr hsum htr⟩
     obtain ⟨_,hA4,hB4,hn4⟩ := hE4.resolve_right fun h => h.1.2 h122
     subst hn4
     refine C.skip ?_
     refine ⟨_,?_,_,_,_,_,_,_,_,rfl,rfl,hA4,hB4,.inr (by omega),rfl⟩; omega
    have hMn : moreL.getD (v - 257) 0 ≤ nb := by omega
    have hb2 := hB.lt32 (by omega)
    have htk := hB.take hMn
    have htl := takeB_lt dt (p + lenOf t.lit v) (moreL.getD (v - 257) 0)
    have hle := hB.left_eq
    refine C.exit rfl ?_
    refine C.sr ?_
    refine E.pure (S.move rfl) rfl ?_
    refine E.pure (S.move rfl) rfl ?_
    refine E.pure (S.nilPtr rfl) rfl ?_
    refine E.pure (S.field rfl fa153_3) rfl ?_
    refine E.still (S.load 3 (k := 3) rfl rfl rfl Tryd.isAgg52) rfl ?_
    refine E.pure (S.move rfl) rfl ?_
    refine E.pure (S.shl (a := ((1 : Nat) : Int)) rfl rfl (by omega) (N.shl_u32 _ _)) rfl ?_
    refine E.reslot (v := .int .u32 ((2 ^ (moreL.getD (v - 257) 0) : Nat) : Int)) (congrArg (fun y : Nat => Value.int .u32 (y : Int)) (by rw [Nat.one_shiftLeft]; exact Nat.mod_eq_of_lt (by omega))) ?_
    refine E.pure (S.sub (b := ((1 : Nat) : Int)) rfl rfl (N.sub_u32 (by omega) (by omega))) rfl ?_
    refine E.pure (S.and rfl rfl (N.and_u32 (by omega) (by omega))) rfl ?_
    refine E.reslot (v := .int .u32 ((takeB dt (p + lenOf t.lit v) (moreL.getD (v - 257) 0) : Nat) : Int)) (congrArg (fun y : Nat => Value.int .u32 (y : Int)) (by exact mask_take hB (by omega))) ?_
    refine E.pure (S.conv rfl Tryd.underlying52 Tryd.underlying3 (N.i64n (by omega))) rfl ?_
    refine E.pure (S.add rfl rfl (N.add64 (by omega))) rfl ?_
    refine E.pure (S.assign rfl) rfl ?_
    refine E.kp [(0,_),(4,_),(5,_),(118,_)] rfl ?_
    refine C.sr ?_
    refine E.pure (S.move rfl) rfl ?_
    refine E.pure (S.nilPtr rfl) rfl ?_
    refine E.pure (S.field rfl fa153_3) rfl ?_
    refine E.still (S.load 3 (k := 3) rfl rfl rfl Tryd.isAgg52) rfl ?_
    refine E.pure (S.move rfl) rfl ?_
    refine E.pure (S.shr rfl rfl (by omega) (N.shr_u32 (by omega) _)) rfl ?_
    refine E.reslot (v := .int .u32 ((b / 2 ^ (moreL.getD (v - 257) 0) : Nat) : Int)) (congrArg (fun y : Nat => Value.int .u32 (y : Int)) (by rw [Nat.shiftRight_eq_div_pow])) ?_
    refine E.pure (S.nilPtr rfl) rfl ?_
    refine E.pure (S.field rfl fa153_3) rfl ?_
    refine E.loud0 (X.store 3 (k := 3) rfl rfl rfl rfl rfl Tryd.sizeOf52) ?_; rintro _ _ ⟨rfl,rfl⟩; refine E.relist (L2 := (_::_::_::_::_::_::_::_)) rfl ?_
    refine E.kp [(0,_),(4,_),(5,_),(118,_)] rfl ?_
    refine C.region ?_
    refine E.pure (S.move rfl) rfl ?_
    refine E.pure (S.nilPtr rfl) rfl ?_
    refine E.pure (S.field rfl fa153_4) rfl ?_
    refine E.still (S.load 3 (k := 4) rfl rfl rfl Tryd.isAgg92) rfl ?_
    refine E.pure (S.move rfl) rfl ?_
    refine E.pure (S.sub rfl rfl (N.sub_u64 (by omega) (by omega))) rfl ?_
    refine E.pure (S.nilPtr rfl) rfl ?_
    refine E.pure (S.field rfl fa153_4) rfl ?_
    refine E.loud0 (X.store 3 (k := 4) rfl rfl rfl rfl rfl Tryd.sizeOf92) ?_; rintro _ _ ⟨rfl,rfl⟩; refine E.relist (L2 := (_::_::_::_::_::_::_::_)) rfl ?_
    refine E.kp [(0,_),(4,_),(5,_),(118,_)] rfl ?_
    exact ⟨_,_,_,_,_,_,_,_,rfl,rfl,hA,htk.2,by omega,rfl,by omega⟩
   have hM0 : moreL.getD (v - 257) 0 = 0 := by omega
   refine C.skip ?_
   first | exact ⟨_,_,_,_,_,_,_,_,rfl,rfl,hA,htk.2,by omega,rfl,by omega⟩ | exact ⟨_,_,_,_,_,_,_,sizesL.getD (v - 257) 0,rfl,rfl,hA2,(by rw [hM0]; exact hB2),hnb2,(by rw [hM0]; simp [takeB,Nat.mod_one]),by omega⟩
  rintro _ _ ⟨q,b,nb,ro,g1,g2,g3,ln,hq46,rfl,hA,hB,hnb,hln,hml⟩
  refine C.weaken _ hq46 ?_
  refine C.sr ?_
  refine E.pure (S.assign rfl) rfl ?_
  refine E.kp [(0,_),(5,_),(6,_)] rfl ?_
  refine C.cut (M := fun ee ll => ∃ (q : Nat),∃ (b : Nat),∃ (nb : Nat),∃ (ro : Int),∃ (g1 : Frag),∃ (g2 : Frag),∃ (g3 : Frag),∃ (d : Nat),keeps ee [0,5,6] = some [(0,.pointer (some ⟨fb,0,none⟩)),(5,.int .i64 ((ln : Nat) : Int)),(6,.int .i64 ((d : Nat) : Int))] ∧ ll = [g1,g2,g3,⟨fb,0,[.iface src.t src.v,.pointer none,.int .i64 (ro),.int .u32 (((b) : Nat) : Int),.int .u64 (((nb) : Nat) : Int)]⟩,⟨fb,1045,[.func (.func stp) #[] #[],.int .i64 (((ss) : Nat) : Int),.bool last,.nilIface,trv,.pointer (some ⟨lb,lo,none⟩),.pointer hp,.int .i64 (((cl) : Nat) : Int),.int .i64 (((cd) : Nat) : Int)]⟩,⟨fb,1037,[.slice (some ⟨hb,0,none⟩) 32768 32768,.int .i64 (((wr) : Nat) : Int),.int .i64 (((rd) : Nat) : Int),.bool full]⟩,⟨hb,0,bytesV (h)⟩] ++ (HL ++ HD) ∧ (src.At (dt.drop q) g1 g2 g3) ∧ (BitsIn dt (p + lenOf t.lit v + moreL.getD (v - 257) 0 + lenOf t.dist d) q b nb) ∧ (nb < t.mn + 8) ∧ (symR t.dist 0 dt (p + lenOf t.lit v + moreL.getD (v - 257) 0) = some d) ∧ (d < 320)) ?_ ?_
  ·
   refine C.sr ?_
   refine E.pure (S.move rfl) rfl ?_
   refine E.pure (S.nilPtr rfl) rfl ?_
   refine E.pure (S.field rfl fa153_17) rfl ?_
   refine E.still (S.load 4 (k := 6) rfl rfl rfl Tryd.isAgg151) rfl ?_
   refine E.pure (S.eqPtrNil rfl Tryd.underlying151) rfl ?_
   refine E.kp [(0,_),(5,_),(6,_),(158,_)] rfl ?_
   first | refine C.ifp rfl (fun h158 => ?_) (fun h158 => ?_) | refine C.ifNone rfl (fun h158 => ?_) (fun h158 => ?_) | refine C.ifSome rfl (fun h158 => ?_) (fun h158 => ?_) | refine C.ifSe rfl (fun h158 => ?_) (fun h158 => ?_) | refine C.ifNotSe rfl (fun h158 => ?_) (fun h158 => ?_) | refine C.cond rfl (fun h158 => ?_) (fun h158 => ?_)
   ·
    have hdf : t.dist = fixDist := by
      rcases hD with h1 | ⟨db,dO,h1,_⟩
      · exact h1.2.1
      · rw [h1] at h158; cases h158
    refine C.seq ?_
    refine C.block ?_
    refine C.loop (fun mm ee ll => ∃ (q : Nat),∃ (b : Nat),∃ (nb : Nat),∃ (ro : Int),∃ (g1 : Frag),∃ (g2 : Frag),∃ (g3 : Frag),keeps ee [0,5] = some [(0,.pointer (some ⟨fb,0,none⟩)),(5,.int .i64 ((ln : Nat) : Int))] ∧ ll = [g1,g2,g3,⟨fb,0,[.iface src.t src.v,.pointer none,.int .i64 (ro),.int .u32 (((b) : Nat) : Int),.int .u64 (((nb) : Nat) : Int)]⟩,⟨fb,1045,[.func (.func stp) #[] #[],.int .i64 (((ss) : Nat) : Int),.bool last,.nilIface,trv,.pointer (some ⟨lb,lo,none⟩),.pointer hp,.int .i64 (((cl) : Nat) : Int),.int .i64 (((cd) : Nat) : Int)]⟩,⟨fb,1037,[.slice (some ⟨hb,0,none⟩) 32768 32768,.int .i64 (((wr) : Nat) : Int),.int .i64 (((rd) : Nat) : Int),.bool full]⟩,⟨hb,0,bytesV (h)⟩] ++ (HL ++ HD) ∧ (src.At (dt.drop q) g1 g2 g3) ∧ (BitsIn dt (p + lenOf t.lit v + moreL.getD (v - 257) 0) q b nb) ∧ (nb < t.mn + 8 ∨ nb < 5 + 8) ∧ mm = 5 - nb) (_) ⟨q,b,nb,ro,g1,g2,g3,rfl,rfl,hA,hB,.inl hnb,rfl⟩ ?_
    rintro m1 _ _ ⟨q,b,nb,ro,g1,g2,g3,hk1,rfl,hA,hB,hnl,hm1⟩
    refine C.weaken _ hk1 ?_
    refine C.seq ?_
    refine C.sr ?_
    refine E.pure (S.move rfl) rfl ?_
    refine E.pure (S.nilPtr rfl) rfl ?_
    refine E.pure (S.field rfl fa153_4) rfl ?_
    refine E.still (S.load 3 (k := 4) rfl rfl rfl Tryd.isAgg92) rfl ?_
    refine E.pure (S.lt (b := ((5 : Nat) : Int)) rfl rfl) rfl ?_
    refine E.kp [(0,_),(5,_),(163,_)] rfl ?_
    refine C.ifp rfl (fun h163 => ?_) (fun h163 => ?_)
    ·
     refine C.skip ?_
     refine C.block ?_
     refine C.sr ?_
     refine E.pure (S.move rfl) rfl ?_
     refine E.loud1 (OpX.pick [0,0,0,0] (F := (_::_::_::_)) rfl (X.call rfl Tryd.call71 (moreBits_e hs src _ _ _ fb _ dt _ _ _ _ hA hB (by omega)))) rfl ?_; rintro _ _ ⟨_,⟨k1,k2,k3,e4,b4,nb4,ro4,rfl,rfl,hE4⟩,rfl⟩; refine E.relist (L2 := (_::_::_::_::_::_::_::_)) rfl ?_
     refine E.perml [0,0,0,0,0,0,0] rfl ?_
     refine E.relist (L2 := (_::_::_::_::_::_::_::_)) rfl ?_
     refine E.pure (S.assign rfl) rfl ?_
     refine E.kp [(0,_),(3,_),(5,_),(163,_)] rfl ?_
     refine C.sr ?_
     refine E.pure (S.move rfl) rfl ?_
     refine E.still (S.neErNil rfl) rfl ?_
     refine E.kp [(0,_),(3,_),(5,_),(163,_),(167,_)] rfl ?_
     first | refine C.ifp rfl (fun h167 => ?_) (fun h167 => ?_) | refine C.ifNone rfl (fun h167 => ?_) (fun h167 => ?_) | refine C.ifSome rfl (fun h167 => ?_) (fun h167 => ?_) | refine C.ifSe rfl (fun h167 => ?_) (fun h167 => ?_) | refine C.ifNotSe rfl (fun h167 => ?_) (fun h167 => ?_) | refine C.cond rfl (fun h167 => ?_) (fun h167 => ?_)
     ·
      obtain ⟨hb5,hqe,lx,hAx⟩ := hE4.resolve_left fun h => h167 h.1
      have hle := hB.left_eq
      refine C.sr ?_
      refine E.pure (S.move rfl) rfl ?_
      refine E.pure (S.move rfl) rfl ?_
      refine E.pure (S.nilPtr rfl) rfl ?_
      refine E.pure (S.field rfl fa153_14) rfl ?_
      refine E.loud0 (X.store 4 (k := 3) rfl rfl rfl (one_er _) rfl Tryd.sizeOf59) ?_; rintro _ _ ⟨rfl,rfl⟩; refine E.relist (L2 := (_::_::_::_::_::_::_::_)) rfl ?_
      refine E.kp [(0,_),(3,_),(5,_),(163,_),(167,_)] rfl ?_
      refine C.ret ?_
      exact ⟨rfl,hb_bad (hR.trans (run_bad hsy hv1 hv2 (copyR_nodist hml (by rw [hdf]; exact sym_fix_none (by omega))))) (hb5) hAx H hrd hwr hsum htr⟩
     obtain ⟨_,hA4,hB4,hn4⟩ := hE4.resolve_right fun h => h.1.2 h167
     subst hn4
     refine C.skip ?_
     refine ⟨_,?_,_,_,_,_,_,_,_,rfl,rfl,hA4,hB4,.inr (by omega),rfl⟩; omega
    have h5n : 5 ≤ nb := by omega
    have hb2 := hB.lt32 (by omega)
    have hle := hB.left_eq
    have htk := hB.take h5n
    have hf := sym_fix (D := dt) (p := p + lenOf t.lit v + moreL.getD (v - 257) 0) (by omega)
    have hdl : revB 5 (takeB dt (p + lenOf t.lit v + moreL.getD (v - 257) 0) 5) < 320 := by omega
    refine C.exit rfl ?_
    refine C.sr ?_
    refine E.pure (S.move rfl) rfl ?_
    refine E.pure (S.nilPtr rfl) rfl ?_
    refine E.pure (S.field rfl fa153_3) rfl ?_
    refine E.still (S.load 3 (k := 3) rfl rfl rfl Tryd.isAgg52) rfl ?_
    refine E.pure (S.and (b := ((31 : Nat) : Int)) rfl rfl (N.and_u32 (by omega) (by omega))) rfl ?_
    refine E.reslot (v := .int .u32 ((b % 32 : Nat) : Int)) (congrArg (fun y : Nat => Value.int .u32 (y : Int)) (by exact Nat.and_two_pow_sub_one_eq_mod b 5)) ?_
    refine E.pure (S.shl (b := ((3 : Nat) : Int)) rfl rfl (by omega) (N.shl_u32 _ _)) rfl ?_
    refine E.reslot (v := .int .u32 ((b % 32 * 8 : Nat) : Int)) (congrArg (fun y : Nat => Value.int .u32 (y : Int)) (by rw [Nat.shiftLeft_eq]; omega)) ?_
    refine E.pure (S.conv rfl Tryd.underlying52 Tryd.underlying5 (N.in_u8 (by omega))) rfl ?_
    refine E.loud1 (OpX.pick [] (F := (_::_::_::_::_::_::_::_)) rfl (X.call rfl Tryd.call84 (reverse8_spec _ (by omega)))) rfl ?_; rintro _ _ ⟨_,⟨rfl,rfl⟩,rfl⟩; refine E.relist (L2 := (_::_::_::_::_::_::_::_)) rfl ?_
    have hr8 := revB_lt 8 (b % 32 * 8)
    refine E.pure (S.conv rfl Tryd.underlying5 Tryd.underlying3 (N.i64n (by omega))) rfl ?_
    refine E.reslot (v := .int .i64 ((revB 5 (takeB dt (p + lenOf t.lit v + moreL.getD (v - 257) 0) 5) : Nat) : Int)) (congrArg (fun y : Nat => Value.int .i64 (y : Int)) (by rw [rev85 (by omega)]; exact congrArg (revB 5) (hB.take (n := 5) (by omega)).1)) ?_
    refine E.pure (S.assign rfl) rfl ?_
    refine E.kp [(0,_),(5,_),(6,_),(163,_)] rfl ?_
    refine C.sr ?_
    refine E.pure (S.move rfl) rfl ?_
    refine E.pure (S.nilPtr rfl) rfl ?_
    refine E.pure (S.field rfl fa153_3) rfl ?_
    refine E.still (S.load 3 (k := 3) rfl rfl rfl Tryd.isAgg52) rfl ?_
    refine E.pure (S.shr (b := ((5 : Nat) : Int)) rfl rfl (by omega) (N.shr_u32 (by omega) _)) rfl ?_
    refine E.reslot (v := .int .u32 ((b / 2 ^ 5 : Nat) : Int)) (congrArg (fun y : Nat => Value.int .u32 (y : Int)) (by rw [Nat.shiftRight_eq_div_pow])) ?_
    refine E.pure (S.nilPtr rfl) rfl ?_
    refine E.pure (S.field rfl fa153_3) rfl ?_
    refine E.loud0 (X.store 3 (k := 3) rfl rfl rfl rfl rfl Tryd.sizeOf52) ?_; rintro _ _ ⟨rfl,rfl⟩; refine E.relist (L2 := (_::_::_::_::_::_::_::_)) rfl ?_
    refine E.kp [(0,_),(5,_),(6,_),(163,_)] rfl ?_
    refine C.region ?_
    refine E.pure (S.move rfl) rfl ?_
    refine E.pure (S.nilPtr rfl) rfl ?_
    refine E.pure (S.field rfl fa153_4) rfl ?_
    refine E.still (S.load 3 (k := 4) rfl rfl rfl Tryd.isAgg92) rfl ?_
    refine E.pure (S.sub (b := ((5 : Nat) : Int)) rfl rfl (N.sub_u64 (by omega) (by omega))) rfl ?_
    refine E.pure (S.nilPtr rfl) rfl ?_
    refine E.pure (S.field rfl fa153_4) rfl ?_
    refine E.loud0 (X.store 3 (k := 4) rfl rfl rfl rfl rfl Tryd.sizeOf92) ?_; rintro _ _ ⟨rfl,rfl⟩; refine E.relist (L2 := (_::_::_::_::_::_::_::_)) rfl ?_
    refine E.kp [(0,_),(5,_),(6,_),(163,_)] rfl ?_
    exact ⟨_,_,_,_,_,_,_,revB 5 (takeB dt (p + lenOf t.lit v + moreL.getD (v - 257) 0) 5),rfl,rfl,hA,(by rw [hdf,fix_len hf.2]; exact htk.2),by omega,(by rw [hdf]; exact hf.1),hdl⟩
   obtain ⟨db,dO,hp1,hHd,hdok,hd15,hdlen⟩ := hD.resolve_left fun h1 => by rw [h1.1] at h158; cases h158
   subst hp1
   refine C.sr ?_
   refine E.pure (S.move rfl) rfl ?_
   refine E.pure (S.move rfl) rfl ?_
   refine E.pure (S.nilPtr rfl) rfl ?_
   refine E.pure (S.field rfl fa153_17) rfl ?_
   refine E.still (S.load 4 (k := 6) rfl rfl rfl Tryd.isAgg151) rfl ?_
   refine E.loud1 (X.call rfl Tryd.call81 (huffSym_end hs src _ _ _ fb _ _ _ _ _ _ _ _ _ _ db dO dt _ _ _ _ hA hB (by have := hL.mn15; omega) t.dist (minL t.dist) hdok hd15 (Nat.le_refl _) (min_15 hd15) HD (⟨fb,1037,[.slice (some ⟨hb,0,none⟩) 32768 32768,.int .i64 (((wr) : Nat) : Int),.int .i64 (((rd) : Nat) : Int),.bool full]⟩::⟨hb,0,bytesV (h)⟩::HL) hHd)) rfl ?_; rintro _ _ ⟨e5,vi5,k1,k2,k3,a5,b5,c5,ev5,rfl,hE5,rfl⟩; refine E.relist (L2 := (_::_::_::_::_::_::_::_)) rfl ?_
   refine E.pure (S.move rfl) rfl ?_
   refine E.pure (S.extract rfl rfl) rfl ?_
   refine E.pure (S.extract rfl rfl) rfl ?_
   refine E.pure (S.assign rfl) rfl ?_
   refine E.pure (S.assign rfl) rfl ?_
   refine E.kp [(0,_),(3,_),(5,_),(6,_),(158,_)] rfl ?_
   refine C.sr ?_
   refine E.pure (S.move rfl) rfl ?_
   refine E.still (S.neErNil rfl) rfl ?_
   refine E.kp [(0,_),(3,_),(5,_),(6,_),(158,_),(205,_)] rfl ?_
   first | refine C.ifp rfl (fun h205 => ?_) (fun h205 => ?_) | refine C.ifNone rfl (fun h205 => ?_) (fun h205 => ?_) | refine C.ifSome rfl (fun h205 => ?_) (fun h205 => ?_) | refine C.ifSe rfl (fun h205 => ?_) (fun h205 => ?_) | refine C.ifNotSe rfl (fun h205 => ?_) (fun h205 => ?_) | refine C.cond rfl (fun h205 => ?_) (fun h205 => ?_)
   ·
    obtain ⟨hb5,hsn,lx,hAx⟩ := hE5.resolve_left fun h => h205 h.1
    refine C.sr ?_
    refine E.pure (S.move rfl) rfl ?_
    refine E.pure (S.move rfl) rfl ?_
    refine E.pure (S.nilPtr rfl) rfl ?_
    refine E.pure (S.field rfl fa153_14) rfl ?_
    refine E.loud0 (X.store 4 (k := 3) rfl rfl rfl (one_er _) rfl Tryd.sizeOf59) ?_; rintro _ _ ⟨rfl,rfl⟩; refine E.relist (L2 := (_::_::_::_::_::_::_::_)) rfl ?_
    refine E.kp [(0,_),(3,_),(5,_),(6,_),(158,_),(205,_)] rfl ?_
    refine C.ret ?_
    exact ⟨rfl,hb_bad (hR.trans (run_bad hsy hv1 hv2 (copyR_nodist hml (symR_min.symm.trans hsn)))) (hb5) hAx H hrd hwr hsum htr⟩
   obtain ⟨_,d,rfl,hsyd0,hdl,q5,b5,nb5,ro5,hA5,hB5,hn5,hbd5,rfl,rfl,rfl,rfl⟩ := hE5.resolve_right fun h => h.1.2 h205
   have hm5 := (symR_some hsyd0).1
   have hmin5 : minL t.dist ≤ lenOf t.dist d := by rw [lenOf_get (lenOf_lt hm5.1)]; exact (minL_spec _).2.1 _ (List.getElem_mem _) (by have := hm5.1; rw [lenOf_get (lenOf_lt hm5.1)] at this; omega)
   rw [Nat.max_eq_right hmin5] at hbd5
   refine C.skip ?_
   first | exact ⟨_,_,_,_,_,_,_,revB 5 (takeB dt (p + lenOf t.lit v + moreL.getD (v - 257) 0) 5),rfl,rfl,hA,(by rw [hdf,fix_len hf.2]; exact htk.2),by omega,(by rw [hdf]; exact hf.1),hdl⟩ | exact ⟨_,_,_,_,_,_,_,d,rfl,rfl,hA5,hB5,by omega,(symR_min.symm.trans hsyd0),by omega⟩
  rintro _ _ ⟨q,b,nb,ro,g1,g2,g3,d,hq59,rfl,hA,hB,hnb,hsyd,hdl⟩
  refine C.weaken _ hq59 ?_
  refine C.cut (M := fun ee ll => ∃ (q : Nat),∃ (b : Nat),∃ (nb : Nat),∃ (ro : Int),∃ (g1 : Frag),∃ (g2 : Frag),∃ (g3 : Frag),keeps ee [0,5,6] = some [(0,.pointer (some ⟨fb,0,none⟩)),(5,.int .i64 ((ln : Nat) : Int)),(6,.int .i64 ((farL.getD d 0 + takeB dt (p + lenOf t.lit v + moreL.getD (v - 257) 0 + lenOf t.dist d) (furL.getD d 0) : Nat) : Int))] ∧ ll = [g1,g2,g3,⟨fb,0,[.iface src.t src.v,.pointer none,.int .i64 (ro),.int .u32 (((b) : Nat) : Int),.int .u64 (((nb) : Nat) : Int)]⟩,⟨fb,1045,[.func (.func stp) #[] #[],.int .i64 (((ss) : Nat) : Int),.bool last,.nilIface,trv,.pointer (some ⟨lb,lo,none⟩),.pointer hp,.int .i64 (((cl) : Nat) : Int),.int .i64 (((cd) : Nat) : Int)]⟩,⟨fb,1037,[.slice (some ⟨hb,0,none⟩) 32768 32768,.int .i64 (((wr) : Nat) : Int),.int .i64 (((rd) : Nat) : Int),.bool full]⟩,⟨hb,0,bytesV (h)⟩] ++ (HL ++ HD) ∧ (src.At (dt.drop q) g1 g2 g3) ∧ (BitsIn dt (p + lenOf t.lit v + moreL.getD (v - 257) 0 + lenOf t.dist d + furL.getD d 0) q b nb) ∧ (nb < t.mn + 8) ∧ (d < 30) ∧ (¬ left dt (p + lenOf t.lit v + moreL.getD (v - 257) 0 + lenOf t.dist d) < furL.getD d 0)) ?_ ?_
  ·
   refine C.block ?_
   refine C.sr ?_
   refine E.pure (S.move rfl) rfl ?_
   refine E.pure (S.lt (b := ((4 : Nat) : Int)) rfl rfl) rfl ?_
   refine E.pure (S.assign rfl) rfl ?_
   refine E.kp [(0,_),(5,_),(6,_),(218,_)] rfl ?_
   refine C.ifp rfl (fun h218 => ?_) (fun h218 => ?_)
   ·
    have hft := (far_tab d (by omega)).1 (by omega)
    refine C.region ?_
    refine E.pure (S.move rfl) rfl ?_
    refine E.pure (S.add (b := ((1 : Nat) : Int)) rfl rfl (N.add64 (by omega))) rfl ?_
    refine E.reslot (v := .int .i64 ((farL.getD d 0 + takeB dt (p + lenOf t.lit v + moreL.getD (v - 257) 0 + lenOf t.dist d) (furL.getD d 0) : Nat) : Int)) (congrArg (fun y : Nat => Value.int .i64 (y : Int)) (by have hft := (far_tab d (by omega)).1 (by omega); rw [hft.1,hft.2]; simp [takeB,Nat.mod_one])) ?_
    refine E.pure (S.assign rfl) rfl ?_
    refine E.kp [(0,_),(5,_),(6,_),(218,_)] rfl ?_
    first | exact ⟨_,_,_,_,_,_,_,rfl,rfl,hA,(by rw [hft.1]; exact htk.2),by omega,by omega,(by rw [hft.1]; omega)⟩ | exact ⟨_,_,_,_,_,_,_,rfl,rfl,hA,(by rw [hft.1]; exact hB),hnb,by omega,(by rw [hft.1]; omega)⟩
   refine C.sr ?_
   refine E.pure (S.move rfl) rfl ?_
   refine E.pure (S.lt (b := ((30 : Nat) : Int)) rfl rfl) rfl ?_
   refine E.pure (S.assign rfl) rfl ?_
   refine E.kp [(0,_),(5,_),(6,_),(218,_),(223,_)] rfl ?_
   refine C.ifp rfl (fun h223 => ?_) (fun h223 => ?_)
   ·
    have hft := (far_tab d (by omega)).2 (by omega)
    have h2E : 2 ^ ((d - 2) / 2) ≤ 2 ^ 13 := Nat.pow_le_pow_right (by omega) hft.2.2
    have h2E1 : 2 ^ ((d - 2) / 2 + 1) ≤ 2 ^ 14 := Nat.pow_le_pow_right (by omega) (by omega)
    have h2E0 : 0 < 2 ^ ((d - 2) / 2) := Nat.pow_pos (by omega)
    have h2Em : d % 2 * 2 ^ ((d - 2) / 2) ≤ 1 * 2 ^ 13 := Nat.mul_le_mul (by omega) h2E
    refine C.sr ?_
    refine E.pure (S.move rfl) rfl ?_
    refine E.pure (S.sub (b := ((2 : Nat) : Int)) rfl rfl (N.sub64 (by omega) (by omega))) rfl ?_
    refine E.pure (S.conv rfl Tryd.underlying3 Tryd.underlying92 (N.in_u64 (by omega))) rfl ?_
    refine E.pure (S.shr (b := ((1 : Nat) : Int)) rfl rfl (by omega) (N.shr_u64 (by omega) _)) rfl ?_
    refine E.reslot (v := .int .u64 (((d - 2) / 2 : Nat) : Int)) (congrArg (fun y : Nat => Value.int .u64 (y : Int)) (by rw [Nat.shiftRight_eq_div_pow])) ?_
    refine E.pure (S.assign rfl) rfl ?_
    refine E.kp [(0,_),(5,_),(6,_),(7,_),(218,_),(223,_)] rfl ?_
    refine C.sr ?_
    refine E.pure (S.move rfl) rfl ?_
    refine E.pure (S.and (b := ((1 : Nat) : Int)) rfl rfl (N.and64 (by omega) (by omega))) rfl ?_
    refine E.reslot (v := .int .i64 ((d % 2 : Nat) : Int)) (congrArg (fun y : Nat => Value.int .i64 (y : Int)) (by exact Nat.and_one_is_mod d)) ?_
    refine E.pure (S.move rfl) rfl ?_
    refine E.pure (S.shl rfl rfl (by omega) (N.shl64 (by rw [Nat.shiftLeft_eq]; omega))) rfl ?_
    refine E.reslot (v := .int .i64 ((d % 2 * 2 ^ ((d - 2) / 2) : Nat) : Int)) (congrArg (fun y : Nat => Value.int .i64 (y : Int)) (by rw [Nat.shiftLeft_eq])) ?_
    refine E.pure (S.assign rfl) rfl ?_
    refine E.kp [(0,_),(5,_),(6,_),(7,_),(8,_),(218,_),(223,_)] rfl ?_
    refine C.seq ?_
    refine C.block ?_
    refine C.loop (fun mm ee ll => ∃ (q : Nat),∃ (b : Nat),∃ (nb : Nat),∃ (ro : Int),∃ (g1 : Frag),∃ (g2 : Frag),∃ (g3 : Frag),keeps ee [0,5,6,7,8] = some [(0,.pointer (some ⟨fb,0,none⟩)),(5,.int .i64 ((ln : Nat) : Int)),(6,.int .i64 ((d : Nat) : Int)),(7,.int .u64 (((d - 2) / 2 : Nat) : Int)),(8,.int .i64 ((d % 2 * 2 ^ ((d - 2) / 2) : Nat) : Int))] ∧ ll = [g1,g2,g3,⟨fb,0,[.iface src.t src.v,.pointer none,.int .i64 (ro),.int .u32 (((b) : Nat) : Int),.int .u64 (((nb) : Nat) : Int)]⟩,⟨fb,1045,[.func (.func stp) #[] #[],.int .i64 (((ss) : Nat) : Int),.bool last,.nilIface,trv,.pointer (some ⟨lb,lo,none⟩),.pointer hp,.int .i64 (((cl) : Nat) : Int),.int .i64 (((cd) : Nat) : Int)]⟩,⟨fb,1037,[.slice (some ⟨hb,0,none⟩) 32768 32768,.int .i64 (((wr) : Nat) : Int),.int .i64 (((rd) : Nat) : Int),.bool full]⟩,⟨hb,0,bytesV (h)⟩] ++ (HL ++ HD) ∧ (src.At (dt.drop q) g1 g2 g3) ∧ (BitsIn dt (p + lenOf t.lit v + moreL.getD (v - 257) 0 + lenOf t.dist d) q b nb) ∧ (nb < t.mn + 8 ∨ nb < (d - 2) / 2 + 8) ∧ mm = (d - 2) / 2 - nb) (_) ⟨q,b,nb,ro,g1,g2,g3,rfl,rfl,hA,hB,.inl hnb,rfl⟩ ?_
    rintro m2 _ _ ⟨q,b,nb,ro,g1,g2,g3,hk2,rfl,hA,hB,hnl,hm2⟩
    refine C.weaken _ hk2 ?_
    refine C.seq ?_
    refine C.sr ?_
    refine E.pure (S.move rfl) rfl ?_
    refine E.pure (S.nilPtr rfl) rfl ?_
    refine E.pure (S.field rfl fa153_4) rfl ?_
    refine E.still (S.load 3 (k := 4) rfl rfl rfl Tryd.isAgg92) rfl ?_
    refine E.pure (S.move rfl) rfl ?_
    refine E.pure (S.lt rfl rfl) rfl ?_
    refine E.kp [(0,_),(5,_),(6,_),(7,_),(8,_),(239,_)] rfl ?_
    refine C.ifp rfl (fun h239 => ?_) (fun h239 => ?_)
    ·
     refine C.skip ?_
     refine C.block ?_
     refine C.sr ?_
     refine E.pure (S.move rfl) rfl ?_
     refine E.loud1 (OpX.pick [0,0,0,0] (F := (_::_::_::_)) rfl (X.call rfl Tryd.call71 (moreBits_e hs src _ _ _ fb _ dt _ _ _ _ hA hB (by omega)))) rfl ?_; rintro _ _ ⟨_,⟨k1,k2,k3,e4,b4,nb4,ro4,rfl,rfl,hE4⟩,rfl⟩; refine E.relist (L2 := (_::_::_::_::_::_::_::_)) rfl ?_
     refine E.perml [0,0,0,0,0,0,0] rfl ?_
     refine E.relist (L2 := (_::_::_::_::_::_::_::_)) rfl ?_
     refine E.pure (S.assign rfl) rfl ?_
     refine E.kp [(0,_),(3,_),(5,_),(6,_),(7,_),(8,_),(239,_)] rfl ?_
     refine C.sr ?_
     refine E.pure (S.move rfl) rfl ?_
     refine E.still (S.neErNil rfl) rfl ?_
     refine E.kp [(0,_),(3,_),(5,_),(6,_),(7,_),(8,_),(239,_),(243,_)] rfl ?_
     first | refine C.ifp rfl (fun h243 => ?_) (fun h243 => ?_) | refine C.ifNone rfl (fun h243 => ?_) (fun h243 => ?_) | refine C.ifSome rfl (fun h243 => ?_) (fun h243 => ?_) | refine C.ifSe rfl (fun h243 => ?_) (fun h243 => ?_) | refine C.ifNotSe rfl (fun h243 => ?_) (fun h243 => ?_) | refine C.cond rfl (fun h243 => ?_) (fun h243 => ?_)
     ·
      obtain ⟨hb5,hqe,lx,hAx⟩ := hE4.resolve_left fun h => h243 h.1
      have hle := hB.left_eq
      refine C.sr ?_
      refine E.pure (S.move rfl) rfl ?_
      refine E.pure (S.move rfl) rfl ?_
      refine E.pure (S.nilPtr rfl) rfl ?_
      refine E.pure (S.field rfl fa153_14) rfl ?_
      refine E.loud0 (X.store 4 (k := 3) rfl rfl rfl (one_er _) rfl Tryd.sizeOf59) ?_; rintro _ _ ⟨rfl,rfl⟩; refine E.relist (L2 := (_::_::_::_::_::_::_::_)) rfl ?_
      refine E.kp [(0,_),(3,_),(5,_),(6,_),(7,_),(8,_),(239,_),(243,_)] rfl ?_
      refine C.ret ?_
      exact ⟨rfl,hb_bad (hR.trans (run_bad hsy hv1 hv2 (copyR_fur hml hsyd (by omega) (by rw [hft.1]; omega)))) (hb5) hAx H hrd hwr hsum htr⟩
     obtain ⟨_,hA4,hB4,hn4⟩ := hE4.resolve_right fun h => h.1.2 h243
     subst hn4
     refine C.skip ?_
     refine ⟨_,?_,_,_,_,_,_,_,_,rfl,rfl,hA4,hB4,.inr (by omega),rfl⟩; omega
    have hEn : (d - 2) / 2 ≤ nb := by omega
    have hb2 := hB.lt32 (by omega)
    have hle := hB.left_eq
    have htk := hB.take hEn
    have htl := takeB_lt dt (p + lenOf t.lit v + moreL.getD (v - 257) 0 + lenOf t.dist d) ((d - 2) / 2)
    refine C.exit rfl ?_
    refine C.sr ?_
    refine E.pure (S.move rfl) rfl ?_
    refine E.pure (S.move rfl) rfl ?_
    refine E.pure (S.nilPtr rfl) rfl ?_
    refine E.pure (S.field rfl fa153_3) rfl ?_
    refine E.still (S.load 3 (k := 3) rfl rfl rfl Tryd.isAgg52) rfl ?_
    refine E.pure (S.move rfl) rfl ?_
    refine E.pure (S.shl (a := ((1 : Nat) : Int)) rfl rfl (by omega) (N.shl_u32 _ _)) rfl ?_
    refine E.reslot (v := .int .u32 ((2 ^ ((d - 2) / 2) : Nat) : Int)) (congrArg (fun y : Nat => Value.int .u32 (y : Int)) (by rw [Nat.one_shiftLeft]; exact Nat.mod_eq_of_lt (by omega))) ?_
    refine E.pure (S.sub (b := ((1 : Nat) : Int)) rfl rfl (N.sub_u32 (by omega) (by omega))) rfl ?_
    refine E.pure (S.and rfl rfl (N.and_u32 (by omega) (by omega))) rfl ?_
    refine E.reslot (v := .int .u32 ((takeB dt (p + lenOf t.lit v + moreL.getD (v - 257) 0 + lenOf t.dist d) ((d - 2) / 2) : Nat) : Int)) (congrArg (fun y : Nat => Value.int .u32 (y : Int)) (by exact mask_take hB (by omega))) ?_
    refine E.pure (S.conv rfl Tryd.underlying52 Tryd.underlying3 (N.i64n (by omega))) rfl ?_
    refine E.pure (S.or rfl rfl (N.or64 (by omega) (by omega))) rfl ?_
    refine E.reslot (v := .int .i64 ((d % 2 * 2 ^ ((d - 2) / 2) + takeB dt (p + lenOf t.lit v + moreL.getD (v - 257) 0 + lenOf t.dist d) ((d - 2) / 2) : Nat) : Int)) (congrArg (fun y : Nat => Value.int .i64 (y : Int)) (by exact or_two (takeB_lt _ _ _))) ?_
    refine E.pure (S.assign rfl) rfl ?_
    refine E.kp [(0,_),(5,_),(6,_),(7,_),(8,_),(239,_)] rfl ?_
    refine C.sr ?_
    refine E.pure (S.move rfl) rfl ?_
    refine E.pure (S.nilPtr rfl) rfl ?_
    refine E.pure (S.field rfl fa153_3) rfl ?_
    refine E.still (S.load 3 (k := 3) rfl rfl rfl Tryd.isAgg52) rfl ?_
    refine E.pure (S.move rfl) rfl ?_
    refine E.pure (S.shr rfl rfl (by omega) (N.shr_u32 (by omega) _)) rfl ?_
    refine E.reslot (v := .int .u32 ((b / 2 ^ ((d - 2) / 2) : Nat) : Int)) (congrArg (fun y : Nat => Value.int .u32 (y : Int)) (by rw [Nat.shiftRight_eq_div_pow])) ?_
    refine E.pure (S.nilPtr rfl) rfl ?_
    refine E.pure (S.field rfl fa153_3) rfl ?_
    refine E.loud0 (X.store 3 (k := 3) rfl rfl rfl rfl rfl Tryd.sizeOf52) ?_; rintro _ _ ⟨rfl,rfl⟩; refine E.relist (L2 := (_::_::_::_::_::_::_::_)) rfl ?_
    refine E.kp [(0,_),(5,_),(6,_),(7,_),(8,_),(239,_)] rfl ?_
    refine C.sr ?_
    refine E.pure (S.move rfl) rfl ?_
    refine E.pure (S.nilPtr rfl) rfl ?_
    refine E.pure (S.field rfl fa153_4) rfl ?_
    refine E.still (S.load 3 (k := 4) rfl rfl rfl Tryd.isAgg92) rfl ?_
    refine E.pure (S.move rfl) rfl ?_
    refine E.pure (S.sub rfl rfl (N.sub_u64 (by omega) (by omega))) rfl ?_
    refine E.pure (S.nilPtr rfl) rfl ?_
    refine E.pure (S.field rfl fa153_4) rfl ?_
    refine E.loud0 (X.store 3 (k := 4) rfl rfl rfl rfl rfl Tryd.sizeOf92) ?_; rintro _ _ ⟨rfl,rfl⟩; refine E.relist (L2 := (_::_::_::_::_::_::_::_)) rfl ?_
    refine E.kp [(0,_),(5,_),(6,_),(7,_),(8,_),(239,_)] rfl ?_
    refine C.region ?_
    refine E.pure (S.move rfl) rfl ?_
    refine E.pure (S.add (b := ((1 : Nat) : Int)) rfl rfl (N.add_u64 (by omega))) rfl ?_
    refine E.pure (S.shl (a := ((1 : Nat) : Int)) rfl rfl (by omega) (N.shl64 (by rw [Nat.one_shiftLeft]; omega))) rfl ?_
    refine E.reslot (v := .int .i64 ((2 ^ ((d - 2) / 2 + 1) : Nat) : Int)) (congrArg (fun y : Nat => Value.int .i64 (y : Int)) (by rw [Nat.one_shiftLeft])) ?_
    refine E.pure (S.add (b := ((1 : Nat) : Int)) rfl rfl (N.add64 (by omega))) rfl ?_
    refine E.pure (S.move rfl) rfl ?_
    refine E.pure (S.add rfl rfl (N.add64 (by omega))) rfl ?_
    refine E.reslot (v := .int .i64 ((farL.getD d 0 + takeB dt (p + lenOf t.lit v + moreL.getD (v - 257) 0 + lenOf t.dist d) (furL.getD d 0) : Nat) : Int)) (congrArg (fun y : Nat => Value.int .i64 (y : Int)) (by rw [hft.1,hft.2.1]; omega)) ?_
    refine E.pure (S.assign rfl) rfl ?_
    refine E.kp [(0,_),(5,_),(6,_),(7,_),(8,_),(239,_)] rfl ?_
    exact ⟨_,_,_,_,_,_,_,rfl,rfl,hA,(by rw [hft.1]; exact htk.2),by omega,by omega,(by rw [hft.1]; omega)⟩
   refine C.sr ?_
   refine E.pure (S.move rfl) rfl ?_
   refine E.pure (S.move rfl) rfl ?_
   refine E.pure (S.nilPtr rfl) rfl ?_
   refine E.pure (S.field rfl fa153_2) rfl ?_
   refine E.still (S.load 3 (k := 2) rfl rfl rfl Tryd.isAgg2) rfl ?_
   refine E.pure (S.mkIface rfl conc165) rfl ?_
   refine E.reslot (v := Er.val ea (.corrupt ro)) (rfl) ?_
   refine E.pure (S.nilPtr rfl) rfl ?_
   refine E.pure (S.field rfl fa153_14) rfl ?_
   refine E.loud0 (X.store 4 (k := 3) rfl rfl rfl rfl rfl Tryd.sizeOf59) ?_; rintro _ _ ⟨rfl,rfl⟩; refine E.relist (L2 := (_::_::_::_::_::_::_::_)) rfl ?_
   refine E.kp [(0,_),(5,_),(6,_),(218,_),(223,_)] rfl ?_
   refine C.ret ?_
   exact ⟨rfl,hb_bad (hR.trans (run_bad hsy hv1 hv2 (copyR_30 hml hsyd (by omega)))) (bad_corrupt _) hA H hrd hwr hsum htr⟩
  rintro _ _ ⟨q,b,nb,ro,g1,g2,g3,hq72,rfl,hA,hB,hnb,hd30,hfl⟩
  refine C.weaken _ hq72 ?_
  have hcp := copyR_some (t := t) hml hsyd hd30 hfl
  have hszb := size_bound (D := dt) (p := p + lenOf t.lit v) hv2 hv1
  have hfb := far_bound (D := dt) (p := p + lenOf t.lit v + moreL.getD (v - 257) 0 + lenOf t.dist d) hd30
  have hszH := H.size_le
  refine C.seq ?_
  refine C.sr ?_
  refine E.pure (S.move rfl) rfl ?_
  refine E.pure (S.move rfl) rfl ?_
  refine E.pure (S.nilPtr rfl) rfl ?_
  refine E.pure (S.field rfl fa153_9) rfl ?_
  refine E.loud1 (OpX.pick [5] (F := (_::_::_::_::_::_::_)) rfl (X.call rfl Tryd.call85 (histSize_spec fb 1037 hb wr rd full (by omega) (by omega)))) rfl ?_; rintro _ _ ⟨_,⟨rfl,rfl⟩,rfl⟩; refine E.relist (L2 := (_::_::_::_::_::_::_::_)) rfl ?_
  refine E.perml [1,1,1,1,1,0,0] rfl ?_
  refine E.relist (L2 := (_::_::_::_::_::_::_::_)) rfl ?_
  refine E.reslot (v := .int .i64 ((hsize wr full : Nat) : Int)) (rfl) ?_
  refine E.pure (S.gt rfl rfl) rfl ?_
  refine E.kp [(0,_),(5,_),(6,_),(286,_)] rfl ?_
  refine C.ifp rfl (fun h286 => ?_) (fun h286 => ?_)
  ·
   have hfar : out.length < farL.getD d 0 + takeB dt (p + lenOf t.lit v + moreL.getD (v - 257) 0 + lenOf t.dist d) (furL.getD d 0) := by omega
   refine C.sr ?_
   refine E.pure (S.move rfl) rfl ?_
   refine E.pure (S.move rfl) rfl ?_
   refine E.pure (S.nilPtr rfl) rfl ?_
   refine E.pure (S.field rfl fa153_2) rfl ?_
   refine E.still (S.load 3 (k := 2) rfl rfl rfl Tryd.isAgg2) rfl ?_
   refine E.pure (S.mkIface rfl conc165) rfl ?_
   refine E.reslot (v := Er.val ea (.corrupt ro)) (rfl) ?_
   refine E.pure (S.nilPtr rfl) rfl ?_
   refine E.pure (S.field rfl fa153_14) rfl ?_
   refine E.loud0 (X.store 4 (k := 3) rfl rfl rfl rfl rfl Tryd.sizeOf59) ?_; rintro _ _ ⟨rfl,rfl⟩; refine E.relist (L2 := (_::_::_::_::_::_::_::_)) rfl ?_
   refine E.kp [(0,_),(5,_),(6,_),(286,_)] rfl ?_
   refine C.ret ?_
   exact ⟨rfl,hb_bad (hR.trans (run_far hsy hv1 hv2 hcp hfar)) (bad_corrupt _) hA H hrd hwr hsum htr⟩
  refine C.skip ?_
  refine C.sr ?_
  refine E.pure (S.move rfl) rfl ?_
  refine E.pure (S.move rfl) rfl ?_
  refine E.pure (S.move rfl) rfl ?_
  refine E.pure (S.move rfl) rfl ?_
  refine E.pure (S.nilPtr rfl) rfl ?_
  refine E.pure (S.field rfl fa153_18) rfl ?_
  refine E.loud0 (X.store 4 (k := 7) rfl rfl rfl rfl rfl Tryd.sizeOf3) ?_; rintro _ _ ⟨rfl,rfl⟩; refine E.relist (L2 := (_::_::_::_::_::_::_::_)) rfl ?_
  refine E.pure (S.nilPtr rfl) rfl ?_
  refine E.pure (S.field rfl fa153_19) rfl ?_
  refine E.loud0 (X.store 4 (k := 8) rfl rfl rfl rfl rfl Tryd.sizeOf3) ?_; rintro _ _ ⟨rfl,rfl⟩; refine E.relist (L2 := (_::_::_::_::_::_::_::_)) rfl ?_
  refine E.kp [(0,_),(5,_),(6,_),(286,_)] rfl ?_
  refine C.goto rfl ?_
  have hR2 := hR.trans (run_copy hsy hv1 hv2 hcp (by omega) (by omega) (by have := hB.at8; have := hB.le; omega))
  refine ⟨_,?_,.inr ⟨rfl,p + lenOf t.lit v + moreL.getD (v - 257) 0 + lenOf t.dist d + furL.getD d 0,q,b,nb,ro,g1,g2,g3,out,h,wr,rd,full,ss,ln,farL.getD d 0 + takeB dt (p + lenOf t.lit v + moreL.getD (v - 257) 0 + lenOf t.dist d) (furL.getD d 0),rfl,rfl,hA,hB,hnb,by omega,H,hrd,hwr,hsum,(hss.imp id And.left),(by rw [hln]; exact hszb.1),hfb.1,by omega,(by rw [hln]; exact hR2),rfl⟩⟩
  omega
 refine ⟨_,rfl,?_⟩
 refine C.weaken _ hg1 ?_
 refine C.seq ?_
 refine C.skip ?_
 refine C.seq ?_
 refine C.draw [0,1,2,0,8,16,32,0,128,256,512,1092,4095] (.pure 0 2040 (.pure 1 2041 (.pure 2 2043 (.pure 3 1927 (.pure 4 1935 (.pure 5 1951 (.pure 7 127 (.pure 8 255 (.pure 9 511 (.seg [(6,1983),(10,1023)] (.alt 11 (.pure 12 4095 .done) .stop))))))))))) mixed (by decide +kernel) ?_
 refine D.pure rfl (S.move rfl) rfl ?_
 refine D.pure rfl (S.nilPtr rfl) rfl ?_
 refine D.pure rfl (S.field rfl fa153_9) rfl ?_
 refine D.pure rfl (S.move rfl) rfl ?_
 refine D.pure rfl (S.nilPtr rfl) rfl ?_
 refine D.pure rfl (S.field rfl fa153_19) rfl ?_
 refine D.pure rfl (S.move rfl) rfl ?_
 refine D.pure rfl (S.nilPtr rfl) rfl ?_
 refine D.pure rfl (S.field rfl fa153_18) rfl ?_
 refine D.seg (by decide) ?_
 refine W.still rfl (S.load 4 (k := 8) rfl rfl rfl Tryd.isAgg3) rfl ?_
 refine W.still rfl (S.load 4 (k := 7) rfl rfl rfl Tryd.isAgg3) rfl ?_
 refine W.nil ?_
 refine D.one ?_
 refine O.loud1 rfl (OpX.pick [5,5] (F := (_::_::_::_::_::_)) rfl (X.call rfl Tryd.call86 (tryWriteCopy_spec fb 1037 hb wr rd full h out H hwr cd cl hcd1 hcd2 (by omega)))) rfl ?_; rintro _ _ ⟨_,⟨n,h2,rfl,hn1,hn2,H2,rfl⟩,rfl⟩; refine D.relist (L2 := (_::_::_::_::_::_::_::_)) rfl ?_
 refine D.perml [2,2,2,2,2,0,0] rfl ?_
 refine D.relist (L2 := (_::_::_::_::_::_::_::_)) rfl ?_
 refine D.pure rfl (S.assign rfl) rfl ?_
 refine D.kp [(0,_),(9,_)] rfl ?_
 refine C.cut (M := fun ee ll => ∃ (n : Nat),∃ (h2 : List UInt8),keeps ee [0,9] = some [(0,.pointer (some ⟨fb,0,none⟩)),(9,.int .i64 ((n : Nat) : Int))] ∧ ll = [f1,f2,f3,⟨fb,0,[.iface src.t src.v,.pointer none,.int .i64 (ro),.int .u32 (((b) : Nat) : Int),.int .u64 (((nb) : Nat) : Int)]⟩,⟨fb,1045,[.func (.func stp) #[] #[],.int .i64 (((ss) : Nat) : Int),.bool last,.nilIface,trv,.pointer (some ⟨lb,lo,none⟩),.pointer hp,.int .i64 (((cl) : Nat) : Int),.int .i64 (((cd) : Nat) : Int)]⟩,⟨fb,1037,[.slice (some ⟨hb,0,none⟩) 32768 32768,.int .i64 (((wr + n) : Nat) : Int),.int .i64 (((rd) : Nat) : Int),.bool full]⟩,⟨hb,0,bytesV (h2)⟩] ++ (HL ++ HD) ∧ (n ≤ cl) ∧ (Hist h2 (wr + n) full (copyN out cd n)) ∧ (n = cl ∨ wr + n = 32768)) ?_ ?_
 ·
  refine C.sr ?_
  refine E.pure (S.move rfl) rfl ?_
  refine E.pure (S.eq (b := ((0 : Nat) : Int)) rfl rfl) rfl ?_
  refine E.kp [(0,_),(9,_),(316,_)] rfl ?_
  refine C.ifp rfl (fun h316 => ?_) (fun h316 => ?_)
  ·
   have hn0 : n = 0 := by omega
   subst hn0
   refine C.draw [0,1,2,0,8,16,32,0,128,256,512,1092,4095] (.pure 0 2040 (.pure 1 2041 (.pure 2 2043 (.pure 3 1927 (.pure 4 1935 (.pure 5 1951 (.pure 7 127 (.pure 8 255 (.pure 9 511 (.seg [(6,1983),(10,1023)] (.alt 11 (.pure 12 4095 .done) .stop))))))))))) mixed (by decide +kernel) ?_
   refine D.pure rfl (S.move rfl) rfl ?_
   refine D.pure rfl (S.nilPtr rfl) rfl ?_
   refine D.pure rfl (S.field rfl fa153_9) rfl ?_
   refine D.pure rfl (S.move rfl) rfl ?_
   refine D.pure rfl (S.nilPtr rfl) rfl ?_
   refine D.pure rfl (S.field rfl fa153_19) rfl ?_
   refine D.pure rfl (S.move rfl) rfl ?_
   refine D.pure rfl (S.nilPtr rfl) rfl ?_
   refine D.pure rfl (S.field rfl fa153_18) rfl ?_
   refine D.seg (by decide) ?_
   refine W.still rfl (S.load 4 (k := 8) rfl rfl rfl Tryd.isAgg3) rfl ?_
   refine W.still rfl (S.load 4 (k := 7) rfl rfl rfl Tryd.isAgg3) rfl ?_
   refine W.nil ?_
   refine D.one ?_
   refine O.loud1 rfl (OpX.pick [5,5] (F := (_::_::_::_::_::_)) rfl (X.call rfl Tryd.call87 (writeCopy_spec fb 1037 hb (wr + 0) rd full h2 (copyN out cd 0) H2 (by omega) cd cl hcd1 hcd2 (by omega)))) rfl ?_; rintro _ _ ⟨_,⟨n3,h3,rfl,hn3,hn4,H3,rfl⟩,rfl⟩; refine D.relist (L2 := (_::_::_::_::_::_::_::_)) rfl ?_
   refine D.perml [2,2,2,2,2,0,0] rfl ?_
   refine D.relist (L2 := (_::_::_::_::_::_::_::_)) rfl ?_
   refine D.pure rfl (S.assign rfl) rfl ?_
   refine D.kp [(0,_),(9,_),(316,_)] rfl ?_
   first | exact ⟨n,h2,rfl,rfl,hn1,H2,.inl (hn2.resolve_left (by omega))⟩ | exact ⟨n3,h3,rfl,rfl,hn3,H3,by omega⟩
  refine C.skip ?_
  exact ⟨n,h2,rfl,rfl,hn1,H2,.inl (hn2.resolve_left (by omega))⟩
 rintro _ _ ⟨n,h2,hq78,rfl,hn1,H2,hn2⟩
 refine C.weaken _ hq78 ?_
 have hwn2 := H2.wrLe
 have hcln := copyN_length out cd n
 refine C.sr ?_
 refine E.pure (S.move rfl) rfl ?_
 refine E.pure (S.nilPtr rfl) rfl ?_
 refine E.pure (S.field rfl fa153_18) rfl ?_
 refine E.still (S.load 4 (k := 7) rfl rfl rfl Tryd.isAgg3) rfl ?_
 refine E.pure (S.move rfl) rfl ?_
 refine E.pure (S.sub rfl rfl (N.sub64 (by omega) (by omega))) rfl ?_
 refine E.pure (S.nilPtr rfl) rfl ?_
 refine E.pure (S.field rfl fa153_18) rfl ?_
 refine E.loud0 (X.store 4 (k := 7) rfl rfl rfl rfl rfl Tryd.sizeOf3) ?_; rintro _ _ ⟨rfl,rfl⟩; refine E.relist (L2 := (_::_::_::_::_::_::_::_)) rfl ?_
 refine E.kp [(0,_),(9,_)] rfl ?_
 refine C.seq ?_
 refine C.sr ?_
 refine E.pure (S.move rfl) rfl ?_
 refine E.pure (S.nilPtr rfl) rfl ?_
 refine E.pure (S.field rfl fa153_9) rfl ?_
 refine E.loud1 (OpX.pick [5] (F := (_::_::_::_::_::_::_)) rfl (X.call rfl Tryd.call83 (availWrite_spec fb 1037 hb (wr + n) rd full (by omega) (by omega)))) rfl ?_; rintro _ _ ⟨_,⟨rfl,rfl⟩,rfl⟩; refine E.relist (L2 := (_::_::_::_::_::_::_::_)) rfl ?_
 refine E.perml [1,1,1,1,1,0,0] rfl ?_
 refine E.relist (L2 := (_::_::_::_::_::_::_::_)) rfl ?_
 refine E.pure (S.eq (b := ((0 : Nat) : Int)) rfl rfl) rfl ?_
 refine E.pure (S.move rfl) rfl ?_
 refine E.fork (fun g342 => ?_) (fun g342 => ?_)
 ·
  refine E.guardNo 342 true rfl rfl rfl rfl ?_
  refine E.guardNo 342 true rfl rfl rfl rfl ?_
  refine E.guardNo 342 true rfl rfl rfl rfl ?_
  refine E.guardNo 342 true rfl rfl rfl rfl ?_
  refine E.guardNo 342 true rfl rfl rfl rfl ?_
  refine E.pure (S.pickT rfl rfl) rfl ?_
  refine E.kp [(0,_),(9,_),(348,_)] rfl ?_
  refine C.yes rfl (rfl) ?_
  refine C.sr ?_
  refine E.pure (S.move rfl) rfl ?_
  refine E.pure (S.move rfl) rfl ?_
  refine E.pure (S.nilPtr rfl) rfl ?_
  refine E.pure (S.field rfl fa153_9) rfl ?_
  refine E.loud1 (OpX.pick [5] (F := (_::_::_::_::_::_::_)) rfl (X.call rfl Tryd.call77 (readFlush_spec fb 1037 hb (wr + n) rd full (by omega) (by omega)))) rfl ?_; rintro _ _ ⟨_,⟨Aw,hfl,rfl⟩,rfl⟩; refine E.relist (L2 := (_::_::_::_::_::_::_::_)) rfl ?_
  refine E.perml [1,1,1,1,1,0,0] rfl ?_
  refine E.relist (L2 := (_::_::_::_::_::_::_::_)) rfl ?_
  refine E.pure (S.nilPtr rfl) rfl ?_
  refine E.pure (S.field rfl fa153_15) rfl ?_
  refine E.loud0 (X.store 4 (k := 4) rfl rfl rfl (flush_one hfl) rfl Tryd.sizeOf22) ?_; rintro _ _ ⟨rfl,rfl⟩; refine E.relist (L2 := (_::_::_::_::_::_::_::_)) rfl ?_
  refine E.kp [(0,_),(9,_),(348,_)] rfl ?_
  refine C.sr ?_
  refine E.pure (S.move rfl) rfl ?_
  refine E.pure (S.nilPtr rfl) rfl ?_
  refine E.pure (S.field rfl fa153_11) rfl ?_
  refine E.loud0 (X.store 4 (k := 0) rfl rfl rfl rfl rfl Tryd.sizeOf150) ?_; rintro _ _ ⟨rfl,rfl⟩; refine E.relist (L2 := (_::_::_::_::_::_::_::_)) rfl ?_
  refine E.kp [(0,_),(9,_),(348,_)] rfl ?_
  refine C.sr ?_
  refine E.pure (S.move rfl) rfl ?_
  refine E.pure (S.nilPtr rfl) rfl ?_
  refine E.pure (S.field rfl fa153_12) rfl ?_
  refine E.loud0 (X.store 4 (k := 1) rfl rfl rfl rfl rfl Tryd.sizeOf3) ?_; rintro _ _ ⟨rfl,rfl⟩; refine E.relist (L2 := (_::_::_::_::_::_::_::_)) rfl ?_
  refine E.kp [(0,_),(9,_),(348,_)] rfl ?_
  refine C.ret ?_
  have hwn : wr + n = 32768 := by first | omega | (simp at g342; omega)
  obtain ⟨wr5,full5,hW,hlen,hsz⟩ := WinSt.flush (gv := gv) H2 (by omega) (by rw [copyN_length]; omega) hfl
  have hs5 : hsize wr full ≤ hsize (wr + n) full := by unfold hsize; split <;> omega
  have hR5 : R = run dt (.sym last t) (copyN (copyN out cd n) cd (cl - n)) p := by rw [copyN_add,show n + (cl - n) = cl by omega]; exact hR
  exact ⟨rfl,_,_,_,_,_,_,_,rfl,.inl ⟨_,(fun h => by rw [h] at hlen; simp at hlen; omega),p,q,nb,_,_,_,_,_,_,1,cl - n,cd,⟨hA,_,_,hB,rfl⟩,hnb,hW,rfl,.inr ⟨rfl,by omega,hcd1,by omega,hR5⟩⟩⟩
 refine E.wanted 342 rfl rfl ?_
 refine E.pure (S.move rfl) rfl ?_
 refine E.wanted 342 rfl rfl ?_
 refine E.pure (S.nilPtr rfl) rfl ?_
 refine E.wanted 342 rfl rfl ?_
 refine E.pure (S.field rfl fa153_18) rfl ?_
 refine E.wanted 342 rfl rfl ?_
 refine E.still (S.load 4 (k := 7) rfl rfl rfl Tryd.isAgg3) rfl ?_
 refine E.wanted 342 rfl rfl ?_
 refine E.pure (S.gt (b := ((0 : Nat) : Int)) rfl rfl) rfl ?_
 refine E.pure (S.pickF rfl rfl) rfl ?_
 refine E.kp [(0,_),(9,_),(348,_)] rfl ?_
 refine C.ifp rfl (fun h348 => ?_) (fun h348 => ?_)
 ·
  refine C.sr ?_
  refine E.pure (S.move rfl) rfl ?_
  refine E.pure (S.move rfl) rfl ?_
  refine E.pure (S.nilPtr rfl) rfl ?_
  refine E.pure (S.field rfl fa153_9) rfl ?_
  refine E.loud1 (OpX.pick [5] (F := (_::_::_::_::_::_::_)) rfl (X.call rfl Tryd.call77 (readFlush_spec fb 1037 hb (wr + n) rd full (by omega) (by omega)))) rfl ?_; rintro _ _ ⟨_,⟨Aw,hfl,rfl⟩,rfl⟩; refine E.relist (L2 := (_::_::_::_::_::_::_::_)) rfl ?_
  refine E.perml [1,1,1,1,1,0,0] rfl ?_
  refine E.relist (L2 := (_::_::_::_::_::_::_::_)) rfl ?_
  refine E.pure (S.nilPtr rfl) rfl ?_
  refine E.pure (S.field rfl fa153_15) rfl ?_
  refine E.loud0 (X.store 4 (k := 4) rfl rfl rfl (flush_one hfl) rfl Tryd.sizeOf22) ?_; rintro _ _ ⟨rfl,rfl⟩; refine E.relist (L2 := (_::_::_::_::_::_::_::_)) rfl ?_
  refine E.kp [(0,_),(9,_),(348,_)] rfl ?_
  refine C.sr ?_
  refine E.pure (S.move rfl) rfl ?_
  refine E.pure (S.nilPtr rfl) rfl ?_
  refine E.pure (S.field rfl fa153_11) rfl ?_
  refine E.loud0 (X.store 4 (k := 0) rfl rfl rfl rfl rfl Tryd.sizeOf150) ?_; rintro _ _ ⟨rfl,rfl⟩; refine E.relist (L2 := (_::_::_::_::_::_::_::_)) rfl ?_
  refine E.kp [(0,_),(9,_),(348,_)] rfl ?_
  refine C.sr ?_
  refine E.pure (S.move rfl) rfl ?_
  refine E.pure (S.nilPtr rfl) rfl ?_
  refine E.pure (S.field rfl fa153_12) rfl ?_
  refine E.loud0 (X.store 4 (k := 1) rfl rfl rfl rfl rfl Tryd.sizeOf3) ?_; rintro _ _ ⟨rfl,rfl⟩; refine E.relist (L2 := (_::_::_::_::_::_::_::_)) rfl ?_
  refine E.kp [(0,_),(9,_),(348,_)] rfl ?_
  refine C.ret ?_
  have hwn : wr + n = 32768 := by first | omega | (simp at g342; omega)
  obtain ⟨wr5,full5,hW,hlen,hsz⟩ := WinSt.flush (gv := gv) H2 (by omega) (by rw [copyN_length]; omega) hfl
  have hs5 : hsize wr full ≤ hsize (wr + n) full := by unfold hsize; split <;> omega
  have hR5 : R = run dt (.sym last t) (copyN (copyN out cd n) cd (cl - n)) p := by rw [copyN_add,show n + (cl - n) = cl by omega]; exact hR
  exact ⟨rfl,_,_,_,_,_,_,_,rfl,.inl ⟨_,(fun h => by rw [h] at hlen; simp at hlen; omega),p,q,nb,_,_,_,_,_,_,1,cl - n,cd,⟨hA,_,_,hB,rfl⟩,hnb,hW,rfl,.inr ⟨rfl,by omega,hcd1,by omega,hR5⟩⟩⟩
 refine C.skip ?_
 refine C.goto rfl ?_
 have hncl : n = cl := by first | omega | (simp at g342; omega)
 refine ⟨_,?_,.inl ⟨rfl,p,q,b,nb,ro,f1,f2,f3,_,_,wr + n,rd,full,ss,cl - n,cd,rfl,rfl,hA,hB,hnb,hp0,H2,by omega,by first | omega | (simp at g342; omega),(by rw [copyN_length]; omega),(hss.imp id fun h => ⟨h,by omega,hcd1,Nat.le_trans hcd2 (by unfold hsize; split <;> omega)⟩),(by rw [hncl]; exact hR),rfl⟩⟩
 omega
end Go.Eng
namespace Go.Eng
open Go Go.Proofs
set_option maxRecDepth 100000

set_option maxHeartbeats 1000000
/-- What a stored block gives of which n bytes are left. -/
def stored (D : List UInt8) (last : Bool) (n : Nat) (out : List UInt8) (q : Nat) : ResR :=
  if D.length < q + n then (out ++ D.drop q,.bad)
  else if last then (out ++ (D.drop q).take n,.done (q + n)) else run D .next (out ++ (D.drop q).take n) (8 * (q + n))
theorem stored_step {D : List UInt8} {last : Bool} {n k : Nat} {out : List UInt8} {q : Nat} (hk : k ≤ n) (hq : q + k ≤ D.length) : stored D last n out q = stored D last (n - k) (out ++ (D.drop q).take k) (q + k) := by
  unfold stored
  have e : q + k + (n - k) = q + n := by omega
  have e2 : (D.drop q).take k ++ (D.drop (q + k)).take (n - k) = (D.drop q).take n := by
    rw [← List.drop_drop,← List.take_add,show k + (n - k) = n by omega]
  have e3 : (D.drop q).take k ++ D.drop (q + k) = D.drop q := by rw [← List.drop_drop,List.take_append_drop]
  rw [e,List.append_assoc,e3,List.append_assoc,e2]
/-- Within a stored block. -/
def StorSt {K : Known} {ea : Fin 5 → Addr} (src : Src K ea) (dt : List UInt8) (fb hb : Nat) (R : ResR) (gv : Nat) (pend : List UInt8) (q : Nat) (x1 x2 x3 A T W H : Frag) : Prop :=
  ∃ out trv h wr rd full ss last hl hd cl cd,HeadSt src dt fb (8 * q) q 0 x1 x2 x3 A ∧ WinSt fb hb gv out pend trv h wr rd full W H ∧ T = ptF fb 79 ss last .nilIface trv hl hd cl cd ∧ (ss = 0 ∨ (ss = 1 ∧ 1 ≤ cd ∧ cd ≤ hsize wr full)) ∧ cl ≤ 65535 ∧ R = stored dt last cl out q
/-- How copyData ends. -/
def CdEnd {K : Known} {ea : Fin 5 → Addr} (src : Src K ea) (dt : List UInt8) (fb hb : Nat) (R : ResR) (gv p0 : Nat) (L : Frags) : Prop :=
  ∃ y1 y2 y3 A T W H,L = [y1,y2,y3,A,T,W,H] ∧ ((∃ pend q,pend ≠ [] ∧ StorSt src dt fb hb R gv pend q y1 y2 y3 A T W H) ∨ (∃ p2,p0 ≤ p2 ∧ NextSt src dt fb hb R gv [] p2 y1 y2 y3 A T W H) ∨ ∃ pend,EndSt src dt fb hb R gv pend y1 y2 y3 A T W H)
theorem bad_full {l : List UInt8} {m : Nat} (h : fullErr l m ≠ .none) : Bad5 (noEof (fullErr l m)) ∧ l.length < m := by
  unfold fullErr at h ⊢
  split at h
  · exact absurd rfl h
  · rename_i h1
    rw [if_neg h1]
    split
    · exact ⟨⟨rfl,noEof_ne (by simp)⟩,by omega⟩
    · exact ⟨⟨rfl,noEof_ne (by simp)⟩,by omega⟩
theorem full_none {l : List UInt8} {m : Nat} (h : fullErr l m = .none) : m ≤ l.length := by
  unfold fullErr at h
  split at h
  · assumption
  · split at h <;> cases h
theorem win_join (h l : List UInt8) (wr m : Nat) (hl : h.length = 32768) (hm : wr + m ≤ 32768) :
    h.take wr ++ (l.take m ++ (((h.drop wr).take m).drop (Nat.min m l.length) ++ h.drop (wr + m))) = h.take wr ++ l.take m ++ h.drop (wr + (l.take m).length) := by
  rw [List.append_assoc]
  congr 2
  have e : (l.take m).length = Nat.min m l.length := List.length_take
  have h1 : Nat.min m l.length ≤ m := Nat.min_le_left _ _
  rw [e,← List.drop_drop,← List.drop_drop]
  conv => rhs; rw [← List.take_append_drop m (h.drop wr)]
  rw [List.drop_append_of_le_length]
  rw [List.length_take,List.length_drop]; omega

theorem win_cut (h : List UInt8) (wr m : Nat) : bytesV h = ([bytesV (h.take wr),bytesV ((h.drop wr).take m),bytesV (h.drop (wr + m))] : List (List Value)).flatten := by
  simp only [List.flatten_cons,List.flatten_nil,List.append_nil]
  rw [← bytesV_append,← bytesV_append,← List.drop_drop,List.take_append_drop,List.take_append_drop]
theorem win_ok (h : List UInt8) (wr m : Nat) (hl : h.length = 32768) (hm : wr + m ≤ 32768) : chunksOk 0 [(0,bytesV (h.take wr)),(wr,bytesV ((h.drop wr).take m)),(wr + m,bytesV (h.drop (wr + m)))] := by
  simp [chunksOk,bytesV_length]; omega
theorem win_glue (hb wr m : Nat) (h l : List UInt8) (F : Frags) (hl : h.length = 32768) (hm : wr + m ≤ 32768) :
    Same ([⟨hb,0,bytesV (h.take wr)⟩,⟨hb,wr,bytesV (l.take m) ++ (bytesV ((h.drop wr).take m)).drop (Nat.min m l.length)⟩,⟨hb,wr + m,bytesV (h.drop (wr + m))⟩] ++ F) (⟨hb,0,bytesV (h.take wr ++ l.take m ++ h.drop (wr + (l.take m).length))⟩::F) := by
  have e : bytesV (h.take wr ++ l.take m ++ h.drop (wr + (l.take m).length)) = ([bytesV (h.take wr),bytesV (l.take m) ++ (bytesV ((h.drop wr).take m)).drop (Nat.min m l.length),bytesV (h.drop (wr + m))] : List (List Value)).flatten := by
    simp only [List.flatten_cons,List.flatten_nil,List.append_nil]
    rw [← win_join h l wr m hl hm,← bytesV_drop,← bytesV_append,← bytesV_append,← bytesV_append,List.append_assoc]
  rw [e]
  refine (Same.chunks hb F [(0,bytesV (h.take wr)),(wr,bytesV (l.take m) ++ (bytesV ((h.drop wr).take m)).drop (Nat.min m l.length)),(wr + m,bytesV (h.drop (wr + m)))] 0 ?_).symm
  have : Nat.min m l.length ≤ m := Nat.min_le_left _ _
  have e1 : (l.take m).length = Nat.min m l.length := List.length_take
  simp [chunksOk,bytesV_length,e1]; omega

theorem copyData_spec {K : Known} {ea : Fin 5 → Addr} (hs : Sents K ea) (src : Src K ea) (dt : List UInt8) (fb hb : Nat) (R : ResR) (gv : Nat) (last : Bool) (hlv hdv : Value) (stp : Nat) (a0 : Option Addr) (c0 : Nat) (trv : Value) (htr : trv = .slice a0 0 c0) (x1 x2 x3 : Frag) (q : Nat) (ro : Int) (out h : List UInt8) (wr rd : Nat) (full : Bool) (ss cl cd : Nat) (hA : src.At (dt.drop q) x1 x2 x3) (hq : q ≤ dt.length) (H : Hist h wr full out) (hrd : rd ≤ wr) (hwr : wr < 32768) (hsum : gv + (wr - rd) = out.length) (hss : ss = 0 ∨ (ss = 1 ∧ 1 ≤ cd ∧ cd ≤ hsize wr full)) (hcl : cl ≤ 65535) (hR : R = stored dt last cl out q) : Fn Tryd.prog K 79 #[.pointer (some ⟨fb,0,none⟩)] ([x1,x2,x3,⟨fb,0,[.iface src.t src.v,.pointer none,.int .i64 (ro),.int .u32 0,.int .u64 0]⟩,⟨fb,1045,[.func (.func stp) #[] #[],.int .i64 (((ss) : Nat) : Int),.bool last,.nilIface,trv,hlv,hdv,.int .i64 (((cl) : Nat) : Int),.int .i64 (((cd) : Nat) : Int)]⟩,⟨fb,1037,[.slice (some ⟨hb,0,none⟩) 32768 32768,.int .i64 (((wr) : Nat) : Int),.int .i64 (((rd) : Nat) : Int),.bool full]⟩,⟨hb,0,bytesV (h)⟩]) (fun r L => r = .tuple #[] ∧ CdEnd src dt fb hb R gv (8 * q) L) := by
 refine Fn.intro (args := [.pointer (some ⟨fb,0,none⟩)]) (RR := Ret0 _) Tryd.func79 rfl rfl Tryd.ntmps79 (res0 Tryd.results79) ?_
 refine C.reenv (env2 := [(0,.pointer (some ⟨fb,0,none⟩))]) rfl ?_
 refine C.sr ?_
 refine E.pure (S.move rfl) rfl ?_
 refine E.pure (S.nilPtr rfl) rfl ?_
 refine E.pure (S.field rfl fa153_9) rfl ?_
 refine E.loud1 (OpX.pick [5] (F := [_,_,_,_,_,_]) rfl (X.call rfl Tryd.call89 (writeSlice_spec fb 1037 hb wr rd full hwr))) rfl ?_; rintro _ _ ⟨_,⟨rfl,rfl⟩,rfl⟩; refine E.relist (L2 := [_,_,_,_,_,_,_]) rfl ?_
 refine E.perml [1,1,1,1,1,0,0] rfl ?_
 refine E.relist (L2 := [_,_,_,_,_,_,_]) rfl ?_
 refine E.pure (S.assign rfl) rfl ?_
 refine E.kp [(0,_),(2,_)] rfl ?_
 refine C.cut (M := fun ee ll => ∃ (m : Nat),∃ (mc : Nat),keeps ee [0,2] = some [(0,.pointer (some ⟨fb,0,none⟩)),(2,.slice (some ⟨hb,wr,none⟩) m mc)] ∧ ll = [x1,x2,x3,⟨fb,0,[.iface src.t src.v,.pointer none,.int .i64 (ro),.int .u32 0,.int .u64 0]⟩,⟨fb,1045,[.func (.func stp) #[] #[],.int .i64 (((ss) : Nat) : Int),.bool last,.nilIface,trv,hlv,hdv,.int .i64 (((cl) : Nat) : Int),.int .i64 (((cd) : Nat) : Int)]⟩,⟨fb,1037,[.slice (some ⟨hb,0,none⟩) 32768 32768,.int .i64 (((wr) : Nat) : Int),.int .i64 (((rd) : Nat) : Int),.bool full]⟩,⟨hb,0,bytesV (h)⟩] ∧ (m ≤ cl) ∧ (m ≤ 32768 - wr) ∧ (m = cl ∨ m = 32768 - wr) ∧ (m ≤ mc)) ?_ ?_
 ·
  refine C.sr ?_
  refine E.pure (S.move rfl) rfl ?_
  refine E.pure (S.lenSl rfl Tryd.underlying22) rfl ?_
  refine E.pure (S.move rfl) rfl ?_
  refine E.pure (S.nilPtr rfl) rfl ?_
  refine E.pure (S.field rfl fa153_18) rfl ?_
  refine E.still (S.load 4 (k := 7) rfl rfl rfl Tryd.isAgg3) rfl ?_
  refine E.pure (S.gt rfl rfl) rfl ?_
  refine E.kp [(0,_),(2,_),(15,_)] rfl ?_
  refine C.ifp rfl (fun h15 => ?_) (fun h15 => ?_)
  ·
   refine C.region ?_
   refine E.pure (S.move rfl) rfl ?_
   refine E.pure (S.move rfl) rfl ?_
   refine E.pure (S.nilPtr rfl) rfl ?_
   refine E.pure (S.field rfl fa153_18) rfl ?_
   refine E.still (S.load 4 (k := 7) rfl rfl rfl Tryd.isAgg3) rfl ?_
   refine E.pure (S.slH rfl rfl (by omega) Tryd.underlying22 Tryd.sizeOf5) rfl ?_
   refine E.pure (S.assign rfl) rfl ?_
   refine E.kp [(0,_),(2,_),(15,_)] rfl ?_
   exact ⟨cl,32768 - wr,rfl,rfl,by omega,by omega,.inl rfl,by omega⟩
  refine C.skip ?_
  first | exact ⟨cl,32768 - wr,rfl,rfl,by omega,by omega,.inl rfl,by omega⟩ | exact ⟨32768 - wr,32768 - wr,rfl,rfl,by omega,by omega,.inr rfl,by omega⟩
 rintro _ _ ⟨m,mc,hq3,rfl,hm1,hm2,hm3,hmc⟩
 refine C.weaken _ hq3 ?_
 refine C.seq ?_
 refine C.perml [6] rfl ?_
 refine C.relist (L2 := ⟨hb,0,bytesV h⟩::[x1,x2,x3,⟨fb,0,[.iface src.t src.v,.pointer none,.int .i64 (ro),.int .u32 0,.int .u64 0]⟩,⟨fb,1045,[.func (.func stp) #[] #[],.int .i64 (((ss) : Nat) : Int),.bool last,.nilIface,trv,hlv,hdv,.int .i64 (((cl) : Nat) : Int),.int .i64 (((cd) : Nat) : Int)]⟩,⟨fb,1037,[.slice (some ⟨hb,0,none⟩) 32768 32768,.int .i64 (((wr) : Nat) : Int),.int .i64 (((rd) : Nat) : Int),.bool full]⟩]) rfl ?_
 refine C.relist (L2 := ⟨hb,0,([bytesV (h.take wr),bytesV ((h.drop wr).take m),bytesV (h.drop (wr + m))] : List (List Value)).flatten⟩::[x1,x2,x3,⟨fb,0,[.iface src.t src.v,.pointer none,.int .i64 (ro),.int .u32 0,.int .u64 0]⟩,⟨fb,1045,[.func (.func stp) #[] #[],.int .i64 (((ss) : Nat) : Int),.bool last,.nilIface,trv,hlv,hdv,.int .i64 (((cl) : Nat) : Int),.int .i64 (((cd) : Nat) : Int)]⟩,⟨fb,1037,[.slice (some ⟨hb,0,none⟩) 32768 32768,.int .i64 (((wr) : Nat) : Int),.int .i64 (((rd) : Nat) : Int),.bool full]⟩]) (by rw [win_cut h wr m]) ?_
 refine C.same (Same.chunks hb [x1,x2,x3,⟨fb,0,[.iface src.t src.v,.pointer none,.int .i64 (ro),.int .u32 0,.int .u64 0]⟩,⟨fb,1045,[.func (.func stp) #[] #[],.int .i64 (((ss) : Nat) : Int),.bool last,.nilIface,trv,hlv,hdv,.int .i64 (((cl) : Nat) : Int),.int .i64 (((cd) : Nat) : Int)]⟩,⟨fb,1037,[.slice (some ⟨hb,0,none⟩) 32768 32768,.int .i64 (((wr) : Nat) : Int),.int .i64 (((rd) : Nat) : Int),.bool full]⟩] [(0,bytesV (h.take wr)),(wr,bytesV ((h.drop wr).take m)),(wr + m,bytesV (h.drop (wr + m)))] 0 (win_ok h wr m H.len (by omega))) ?_
 refine C.relist (L2 := [⟨hb,0,bytesV (h.take wr)⟩,⟨hb,wr,bytesV ((h.drop wr).take m)⟩,⟨hb,wr + m,bytesV (h.drop (wr + m))⟩,x1,x2,x3,⟨fb,0,[.iface src.t src.v,.pointer none,.int .i64 (ro),.int .u32 0,.int .u64 0]⟩,⟨fb,1045,[.func (.func stp) #[] #[],.int .i64 (((ss) : Nat) : Int),.bool last,.nilIface,trv,hlv,hdv,.int .i64 (((cl) : Nat) : Int),.int .i64 (((cd) : Nat) : Int)]⟩,⟨fb,1037,[.slice (some ⟨hb,0,none⟩) 32768 32768,.int .i64 (((wr) : Nat) : Int),.int .i64 (((rd) : Nat) : Int),.bool full]⟩]) rfl ?_
 refine C.region ?_
 refine E.pure (S.move rfl) rfl ?_
 refine E.pure (S.nilPtr rfl) rfl ?_
 refine E.pure (S.field rfl fa153_0) rfl ?_
 refine E.still (S.load 6 (k := 0) rfl rfl rfl Tryd.isAgg71) rfl ?_
 refine E.pure (S.move rfl) rfl ?_
 refine E.loud1 (OpX.pick [3,3,3,1] (F := [_,_,_,_,_]) rfl (X.call rfl Tryd.call45 (readFull_spec hs src (dt.drop q) x1 x2 x3 hb wr m mc (bytesV ((h.drop wr).take m)) hA (by rw [bytesV_length,List.length_take,List.length_drop,H.len]; omega) hmc (by omega)))) rfl ?_; rintro _ _ ⟨_,⟨f1,f2,f3,hF,rfl,rfl⟩,rfl⟩; refine E.relist (L2 := [_,_,_,_,_,_,_,_,_]) rfl ?_
 refine E.pure (S.move rfl) rfl ?_
 refine E.pure (S.extract rfl rfl) rfl ?_
 refine E.pure (S.extract rfl rfl) rfl ?_
 refine E.pure (S.assign rfl) rfl ?_
 refine E.pure (S.assign rfl) rfl ?_
 refine E.kp [(0,_),(2,_),(3,_),(4,_)] rfl ?_
 refine C.perml [4,3,3] rfl ?_
 refine C.same (win_glue hb wr m h (dt.drop q) [f1,f2,f3,⟨fb,0,[.iface src.t src.v,.pointer none,.int .i64 (ro),.int .u32 0,.int .u64 0]⟩,⟨fb,1045,[.func (.func stp) #[] #[],.int .i64 (((ss) : Nat) : Int),.bool last,.nilIface,trv,hlv,hdv,.int .i64 (((cl) : Nat) : Int),.int .i64 (((cd) : Nat) : Int)]⟩,⟨fb,1037,[.slice (some ⟨hb,0,none⟩) 32768 32768,.int .i64 (((wr) : Nat) : Int),.int .i64 (((rd) : Nat) : Int),.bool full]⟩] H.len (by omega)) ?_
 refine C.perml [1,1,1,1,1,1] rfl ?_
 refine C.relist (L2 := [f1,f2,f3,⟨fb,0,[.iface src.t src.v,.pointer none,.int .i64 (ro),.int .u32 0,.int .u64 0]⟩,⟨fb,1045,[.func (.func stp) #[] #[],.int .i64 (((ss) : Nat) : Int),.bool last,.nilIface,trv,hlv,hdv,.int .i64 (((cl) : Nat) : Int),.int .i64 (((cd) : Nat) : Int)]⟩,⟨fb,1037,[.slice (some ⟨hb,0,none⟩) 32768 32768,.int .i64 (((wr) : Nat) : Int),.int .i64 (((rd) : Nat) : Int),.bool full]⟩,⟨hb,0,bytesV (h.take wr ++ (dt.drop q).take m ++ h.drop (wr + ((dt.drop q).take m).length))⟩]) rfl ?_
 have hdl : (dt.drop q).length = dt.length - q := List.length_drop
 have hxl : ((dt.drop q).take m).length = Nat.min m (dt.drop q).length := List.length_take
 have hmn1 : Nat.min m (dt.drop q).length ≤ m := Nat.min_le_left _ _
 have hHW := H.write ((dt.drop q).take m) (by rw [hxl]; omega)
 refine C.sr ?_
 refine E.pure (S.move rfl) rfl ?_
 refine E.pure (S.nilPtr rfl) rfl ?_
 refine E.pure (S.field rfl fa153_2) rfl ?_
 refine E.still (S.load 3 (k := 2) rfl rfl rfl Tryd.isAgg2) rfl ?_
 refine E.pure (S.move rfl) rfl ?_
 refine E.pure (S.add rfl rfl rfl) rfl ?_
 refine E.pure (S.nilPtr rfl) rfl ?_
 refine E.pure (S.field rfl fa153_2) rfl ?_
 refine E.loud0 (X.store 3 (k := 2) rfl rfl rfl rfl rfl Tryd.sizeOf2) ?_; rintro _ _ ⟨rfl,rfl⟩; refine E.relist (L2 := [_,_,_,_,_,_,_]) rfl ?_
 refine E.kp [(0,_),(2,_),(3,_),(4,_)] rfl ?_
 refine C.sr ?_
 refine E.pure (S.move rfl) rfl ?_
 refine E.pure (S.nilPtr rfl) rfl ?_
 refine E.pure (S.field rfl fa153_18) rfl ?_
 refine E.still (S.load 4 (k := 7) rfl rfl rfl Tryd.isAgg3) rfl ?_
 refine E.pure (S.move rfl) rfl ?_
 refine E.pure (S.sub rfl rfl (N.sub64 (by omega) (by omega))) rfl ?_
 refine E.pure (S.nilPtr rfl) rfl ?_
 refine E.pure (S.field rfl fa153_18) rfl ?_
 refine E.loud0 (X.store 4 (k := 7) rfl rfl rfl rfl rfl Tryd.sizeOf3) ?_; rintro _ _ ⟨rfl,rfl⟩; refine E.relist (L2 := [_,_,_,_,_,_,_]) rfl ?_
 refine E.kp [(0,_),(2,_),(3,_),(4,_)] rfl ?_
 refine C.sr ?_
 refine E.pure (S.move rfl) rfl ?_
 refine E.pure (S.nilPtr rfl) rfl ?_
 refine E.pure (S.field rfl fa153_9) rfl ?_
 refine E.pure (S.move rfl) rfl ?_
 refine E.loud1 (OpX.pick [5] (F := [_,_,_,_,_,_]) rfl (X.call rfl Tryd.call90 (writeMark_spec fb 1037 hb wr rd full (by omega) _ (by omega)))) rfl ?_; rintro _ _ ⟨_,⟨rfl,rfl⟩,rfl⟩; refine E.relist (L2 := [_,_,_,_,_,_,_]) rfl ?_
 refine E.perml [1,1,1,1,1,0,0] rfl ?_
 refine E.relist (L2 := [_,_,_,_,_,_,_]) rfl ?_
 refine E.kp [(0,_),(2,_),(3,_),(4,_)] rfl ?_
 refine C.seq ?_
 refine C.sr ?_
 refine E.pure (S.move rfl) rfl ?_
 refine E.still (S.neErNil rfl) rfl ?_
 refine E.kp [(0,_),(2,_),(3,_),(4,_),(53,_)] rfl ?_
 first | refine C.ifp rfl (fun h53 => ?_) (fun h53 => ?_) | refine C.ifNone rfl (fun h53 => ?_) (fun h53 => ?_) | refine C.ifSome rfl (fun h53 => ?_) (fun h53 => ?_) | refine C.ifSe rfl (fun h53 => ?_) (fun h53 => ?_) | refine C.ifNotSe rfl (fun h53 => ?_) (fun h53 => ?_) | refine C.cond rfl (fun h53 => ?_) (fun h53 => ?_)
 ·
  obtain ⟨hbf,hlt⟩ := bad_full h53
  have hmn : Nat.min m (dt.drop q).length = (dt.drop q).length := Nat.min_eq_right (by omega)
  have HW := hHW
  rw [hxl] at HW
  rw [hxl]
  refine C.sr ?_
  refine E.pure (S.move rfl) rfl ?_
  refine E.pure (S.move rfl) rfl ?_
  refine E.loud1 (OpX.pick [] (F := [_,_,_,_,_,_,_]) rfl (X.call rfl Tryd.call76 (flate_noEOF (L := []) hs _))) rfl ?_; rintro _ _ ⟨_,⟨rfl,rfl⟩,rfl⟩; refine E.relist (L2 := [_,_,_,_,_,_,_]) rfl ?_
  refine E.pure (S.nilPtr rfl) rfl ?_
  refine E.pure (S.field rfl fa153_14) rfl ?_
  refine E.loud0 (X.store 4 (k := 3) rfl rfl rfl (one_er _) rfl Tryd.sizeOf59) ?_; rintro _ _ ⟨rfl,rfl⟩; refine E.relist (L2 := [_,_,_,_,_,_,_]) rfl ?_
  refine E.kp [(0,_),(2,_),(3,_),(4,_),(53,_)] rfl ?_
  refine C.ret ?_
  refine ⟨rfl,_,_,_,_,_,_,_,rfl,.inr (.inr ⟨[],_,.bad,_,trv,_,_,rd,full,.inr ⟨rfl,hbf,_,hF⟩,⟨_,_,_,rfl⟩,⟨HW,by omega,by omega,by simp only [List.length_nil,List.length_append]; omega,by simp,by rw [htr]; exact TR.nil _ _ _ _,rfl,rfl⟩,⟨_,_,_,_,_,_,_,rfl⟩,?_,.inl rfl⟩)⟩
  rw [hR,stored,if_pos (by omega),List.take_of_length_le (by omega)]
 have hge := full_none h53
 have hmn : Nat.min m (dt.drop q).length = m := Nat.min_eq_left hge
 rw [hmn] at hxl
 have HW := hHW
 rw [hxl] at HW
 rw [hxl,hmn]
 rw [List.drop_drop] at hF
 refine C.skip ?_
 refine C.seq ?_
 refine C.sr ?_
 refine E.pure (S.move rfl) rfl ?_
 refine E.pure (S.nilPtr rfl) rfl ?_
 refine E.pure (S.field rfl fa153_9) rfl ?_
 refine E.loud1 (OpX.pick [5] (F := [_,_,_,_,_,_]) rfl (X.call rfl Tryd.call83 (availWrite_spec fb 1037 hb (wr + m) rd full (by omega) (by omega)))) rfl ?_; rintro _ _ ⟨_,⟨rfl,rfl⟩,rfl⟩; refine E.relist (L2 := [_,_,_,_,_,_,_]) rfl ?_
 refine E.perml [1,1,1,1,1,0,0] rfl ?_
 refine E.relist (L2 := [_,_,_,_,_,_,_]) rfl ?_
 refine E.pure (S.eq (b := ((0 : Nat) : Int)) rfl rfl) rfl ?_
 refine E.pure (S.move rfl) rfl ?_
 refine E.fork (fun g64 => ?_) (fun g64 => ?_)
 ·
  refine E.guardNo 64 true rfl rfl rfl rfl ?_
  refine E.guardNo 64 true rfl rfl rfl rfl ?_
  refine E.guardNo 64 true rfl rfl rfl rfl ?_
  refine E.guardNo 64 true rfl rfl rfl rfl ?_
  refine E.guardNo 64 true rfl rfl rfl rfl ?_
  refine E.pure (S.pickT rfl rfl) rfl ?_
  refine E.kp [(0,_),(2,_),(3,_),(4,_),(53,_),(70,_)] rfl ?_
  refine C.yes rfl (rfl) ?_
  refine C.sr ?_
  refine E.pure (S.move rfl) rfl ?_
  refine E.pure (S.move rfl) rfl ?_
  refine E.pure (S.nilPtr rfl) rfl ?_
  refine E.pure (S.field rfl fa153_9) rfl ?_
  refine E.loud1 (OpX.pick [5] (F := [_,_,_,_,_,_]) rfl (X.call rfl Tryd.call77 (readFlush_spec fb 1037 hb (wr + m) rd full (by omega) (by omega)))) rfl ?_; rintro _ _ ⟨_,⟨Aw,hfl,rfl⟩,rfl⟩; refine E.relist (L2 := [_,_,_,_,_,_,_]) rfl ?_
  refine E.perml [1,1,1,1,1,0,0] rfl ?_
  refine E.relist (L2 := [_,_,_,_,_,_,_]) rfl ?_
  refine E.pure (S.nilPtr rfl) rfl ?_
  refine E.pure (S.field rfl fa153_15) rfl ?_
  refine E.loud0 (X.store 4 (k := 4) rfl rfl rfl (flush_one hfl) rfl Tryd.sizeOf22) ?_; rintro _ _ ⟨rfl,rfl⟩; refine E.relist (L2 := [_,_,_,_,_,_,_]) rfl ?_
  refine E.kp [(0,_),(2,_),(3,_),(4,_),(53,_),(70,_)] rfl ?_
  refine C.sr ?_
  refine E.pure (S.move rfl) rfl ?_
  refine E.pure (S.nilPtr rfl) rfl ?_
  refine E.pure (S.field rfl fa153_11) rfl ?_
  refine E.loud0 (X.store 4 (k := 0) rfl rfl rfl rfl rfl Tryd.sizeOf150) ?_; rintro _ _ ⟨rfl,rfl⟩; refine E.relist (L2 := [_,_,_,_,_,_,_]) rfl ?_
  refine E.kp [(0,_),(2,_),(3,_),(4,_),(53,_),(70,_)] rfl ?_
  refine C.ret ?_
  have hR2 := hR.trans (stored_step (k := m) hm1 (by omega))
  have hwm : wr + m = 32768 := by omega
  obtain ⟨wr5,full5,hW,hlen,hsz⟩ := WinSt.flush (gv := gv) HW (by omega) (by rw [List.length_append]; omega) hfl
  have hs5 : hsize wr full ≤ hsize (wr + m) full := by unfold hsize; split <;> omega
  exact ⟨rfl,_,_,_,_,_,_,_,rfl,.inl ⟨_,q + m,(fun h => by rw [h] at hlen; simp at hlen; omega),_,_,_,wr5,wr5,full5,ss,last,hlv,hdv,cl - m,cd,⟨hF,0,_,BitsIn.start dt (by omega),rfl⟩,hW,rfl,hss.imp id (fun h => ⟨h.1,h.2.1,by omega⟩),by omega,hR2⟩⟩
 refine E.wanted 64 rfl rfl ?_
 refine E.pure (S.move rfl) rfl ?_
 refine E.wanted 64 rfl rfl ?_
 refine E.pure (S.nilPtr rfl) rfl ?_
 refine E.wanted 64 rfl rfl ?_
 refine E.pure (S.field rfl fa153_18) rfl ?_
 refine E.wanted 64 rfl rfl ?_
 refine E.still (S.load 4 (k := 7) rfl rfl rfl Tryd.isAgg3) rfl ?_
 refine E.wanted 64 rfl rfl ?_
 refine E.pure (S.gt (b := ((0 : Nat) : Int)) rfl rfl) rfl ?_
 refine E.pure (S.pickF rfl rfl) rfl ?_
 refine E.kp [(0,_),(2,_),(3,_),(4,_),(53,_),(70,_)] rfl ?_
 refine C.ifp rfl (fun h70 => ?_) (fun h70 => ?_)
 ·
  refine C.sr ?_
  refine E.pure (S.move rfl) rfl ?_
  refine E.pure (S.move rfl) rfl ?_
  refine E.pure (S.nilPtr rfl) rfl ?_
  refine E.pure (S.field rfl fa153_9) rfl ?_
  refine E.loud1 (OpX.pick [5] (F := [_,_,_,_,_,_]) rfl (X.call rfl Tryd.call77 (readFlush_spec fb 1037 hb (wr + m) rd full (by omega) (by omega)))) rfl ?_; rintro _ _ ⟨_,⟨Aw,hfl,rfl⟩,rfl⟩; refine E.relist (L2 := [_,_,_,_,_,_,_]) rfl ?_
  refine E.perml [1,1,1,1,1,0,0] rfl ?_
  refine E.relist (L2 := [_,_,_,_,_,_,_]) rfl ?_
  refine E.pure (S.nilPtr rfl) rfl ?_
  refine E.pure (S.field rfl fa153_15) rfl ?_
  refine E.loud0 (X.store 4 (k := 4) rfl rfl rfl (flush_one hfl) rfl Tryd.sizeOf22) ?_; rintro _ _ ⟨rfl,rfl⟩; refine E.relist (L2 := [_,_,_,_,_,_,_]) rfl ?_
  refine E.kp [(0,_),(2,_),(3,_),(4,_),(53,_),(70,_)] rfl ?_
  refine C.sr ?_
  refine E.pure (S.move rfl) rfl ?_
  refine E.pure (S.nilPtr rfl) rfl ?_
  refine E.pure (S.field rfl fa153_11) rfl ?_
  refine E.loud0 (X.store 4 (k := 0) rfl rfl rfl rfl rfl Tryd.sizeOf150) ?_; rintro _ _ ⟨rfl,rfl⟩; refine E.relist (L2 := [_,_,_,_,_,_,_]) rfl ?_
  refine E.kp [(0,_),(2,_),(3,_),(4,_),(53,_),(70,_)] rfl ?_
  refine C.ret ?_
  have hR2 := hR.trans (stored_step (k := m) hm1 (by omega))
  have hwm : wr + m = 32768 := by omega
  obtain ⟨wr5,full5,hW,hlen,hsz⟩ := WinSt.flush (gv := gv) HW (by omega) (by rw [List.length_append]; omega) hfl
  have hs5 : hsize wr full ≤ hsize (wr + m) full := by unfold hsize; split <;> omega
  exact ⟨rfl,_,_,_,_,_,_,_,rfl,.inl ⟨_,q + m,(fun h => by rw [h] at hlen; simp at hlen; omega),_,_,_,wr5,wr5,full5,ss,last,hlv,hdv,cl - m,cd,⟨hF,0,_,BitsIn.start dt (by omega),rfl⟩,hW,rfl,hss.imp id (fun h => ⟨h.1,h.2.1,by omega⟩),by omega,hR2⟩⟩
 refine C.skip ?_
 refine C.region ?_
 refine E.pure (S.move rfl) rfl ?_
 refine E.loud1 (OpX.pick [5,4] (F := [_,_,_,_,_]) rfl (X.call rfl Tryd.call78 (finishBlock_spec hs fb hb (wr + m) rd full last (by omega) (by omega) _ _ _ _ _ _ _ _))) rfl ?_; rintro _ _ ⟨_,⟨rfl,ev2,tr2,Aw,rfl,hfin⟩,rfl⟩; refine E.relist (L2 := [_,_,_,_,_,_,_]) rfl ?_
 refine E.perml [2,2,2,2,1,0,0] rfl ?_
 refine E.relist (L2 := [_,_,_,_,_,_,_]) rfl ?_
 refine E.kp [(0,_),(2,_),(3,_),(4,_),(53,_),(70,_)] rfl ?_
 have hR2 := hR.trans (stored_step (k := m) hm1 (by omega))
 have hmc : m = cl := by omega
 have hwm : wr + m < 32768 := by omega
 subst hmc
 rw [Nat.sub_self] at hR2
 have hs5 : hsize wr full ≤ hsize (wr + m) full := by unfold hsize; split <;> omega
 unfold stored at hR2
 rw [if_neg (by omega),List.take_zero,List.append_nil,Nat.add_zero] at hR2
 rcases hfin with ⟨hl5,rfl,rfl,rfl⟩ | ⟨hl5,rfl,⟨h1,rfl,rfl⟩ | ⟨_,hfl⟩⟩
 · rw [hl5] at hR2
   refine ⟨rfl,_,_,_,_,_,_,_,rfl,.inr (.inl ⟨8 * (q + m),by omega,q + m,0,_,_,_,wr + m,rd,full,ss,last,_,_,m - m,cd,⟨hF,0,_,BitsIn.start dt (by omega),rfl⟩,by omega,⟨HW,by omega,hwm,by simp only [List.length_nil,List.length_append]; omega,by simp,by rw [htr]; exact TR.nil _ _ _ _,rfl,rfl⟩,rfl,hss.imp id (fun h => ⟨h.1,by omega,h.2.1,by omega⟩),hR2⟩)⟩
 · rw [hl5,if_pos rfl] at hR2
   exact ⟨rfl,_,_,_,_,_,_,_,rfl,.inr (.inr ⟨[],_,_,.eof,_,_,wr + m,rd,full,.inl ⟨q + m,rfl,rfl,by omega,hF⟩,⟨_,_,_,rfl⟩,⟨HW,by omega,hwm,by simp only [List.length_nil,List.length_append]; omega,by simp,by rw [htr]; exact TR.nil _ _ _ _,rfl,rfl⟩,⟨_,_,_,_,_,_,_,rfl⟩,hR2,.inl rfl⟩)⟩
 · rw [hl5,if_pos rfl] at hR2
   obtain ⟨wr5,full5,hW,hlen,hsz⟩ := WinSt.flush (gv := gv) HW (by omega) (by rw [List.length_append]; omega) hfl
   exact ⟨rfl,_,_,_,_,_,_,_,rfl,.inr (.inr ⟨_,_,_,.eof,_,_,wr5,wr5,full5,.inl ⟨q + m,rfl,rfl,by omega,hF⟩,⟨_,_,_,rfl⟩,hW,⟨_,_,_,_,_,_,_,rfl⟩,hR2,.inr rfl⟩)⟩
end Go.Eng
namespace Go.Eng
open Go Go.Proofs
set_option maxRecDepth 100000

set_option maxHeartbeats 1000000
theorem zc288 : (Value.agg Tryd.zeroCells168).cells.toList = cellsI 288 (fun _ => 0) := by kernel_rfl
theorem zcHufL : (Value.agg Tryd.zeroCells144).cells.toList = hufZ := by rw [zcHuf]
def fixv (i : Nat) : Nat := if i < 144 then 8 else if i < 256 then 9 else if i < 280 then 7 else 8
def fixTo (k i : Nat) : Nat := if i < k then fixv i else 0
theorem fix_zero : cellsI 288 (fun _ => 0) = cellsI 288 (fixTo 0) := cellsI_congr fun o _ => by simp [fixTo]
theorem fix_next {k v : Nat} (hv : fixv k = v) : (cellsI 288 (fixTo k)).set (k * 1) (.int .i64 ((v : Nat) : Int)) = cellsI 288 (fixTo (k + 1)) :=
  cellsI_set (by rw [fixTo,if_pos (by omega),hv]) fun o _ hne => by
    unfold fixTo
    by_cases h : o < k
    · rw [if_pos h,if_pos (by omega)]
    · rw [if_neg h,if_neg (by omega)]
theorem fix_full : cellsI 288 (fixTo 288) = intsV fixLit ++ [] := by
  rw [List.append_nil]
  have e : fixLit = (List.range 288).map fixv := by decide +kernel
  rw [e,intsV,List.map_map,cellsI]
  refine List.map_congr_left fun i hi => ?_
  have := List.mem_range.1 hi
  simp [fixTo,this]
theorem fix_ok : okLens fixLit := by decide +kernel
theorem fix_min : minL fixLit = 7 := by decide +kernel
theorem fix_15 : ∀ x ∈ fixLit,x ≤ 15 := by decide +kernel
theorem fix_lenL : fixLit.length = 288 := by decide +kernel

theorem fixedHuffman_walk {K : Known} : Fn Tryd.prog K 73 #[] ([]) (fun r L => ∃ qb L1 J,r = .pointer (some ⟨qb,0,none⟩) ∧ HufT fixLit 7 qb 0 L1 ∧ Same L (L1 ++ J)) := by
 refine Fn.intro (args := []) (RR := Ret1 0 _) Tryd.func73 rfl rfl Tryd.ntmps73 (res1 Tryd.results73) ?_
 refine C.reenv (env2 := []) rfl ?_
 refine C.sr ?_
 refine E.pure (S.assign rfl) rfl ?_
 refine E.kp [(0,_)] rfl ?_
 refine C.sr ?_
 refine E.loud1 (X.alloc Tryd.zeroValue168) rfl ?_; rintro _ _ ⟨b1,rfl,rfl⟩; refine E.relist (L2 := [_]) rfl ?_
 refine E.relist (L2 := [⟨b1,0,cellsI 288 (fixTo (0))⟩]) (by rw [zc288,fix_zero]) ?_
 refine E.kp [(0,_),(1,_)] rfl ?_
 refine C.seq ?_
 refine C.sr ?_
 refine E.pure (S.assign rfl) rfl ?_
 refine E.kp [(0,_),(1,_),(2,_)] rfl ?_
 refine C.block ?_
 refine C.loop (fun mm ee ll => ∃ (k : Nat),keeps ee [1,2] = some [(1,.pointer (some ⟨b1,0,none⟩)),(2,.int .i64 ((k : Nat) : Int))] ∧ ll = [⟨b1,0,cellsI 288 (fixTo (k))⟩] ∧ (0 ≤ k) ∧ (k ≤ 144) ∧ mm = 144 - k) (_) ⟨0,rfl,rfl,by omega,by omega,rfl⟩ ?_
 rintro m0 _ _ ⟨k,hk0,rfl,hj1,hj2,hm0⟩
 refine C.weaken _ hk0 ?_
 refine C.seq ?_
 refine C.sr ?_
 refine E.pure (S.move rfl) rfl ?_
 refine E.pure (S.lt (b := ((144 : Nat) : Int)) rfl rfl) rfl ?_
 refine E.kp [(1,_),(2,_),(8,_)] rfl ?_
 refine C.ifp rfl (fun h8 => ?_) (fun h8 => ?_)
 ·
  refine C.skip ?_
  refine C.seq ?_
  refine C.block ?_
  refine C.region ?_
  refine E.pure (S.move rfl) rfl ?_
  refine E.pure (S.ixArr rfl rfl (by omega) Tryd.underlying168 Tryd.sizeOf3) rfl ?_
  refine E.loud0 (X.store 0 (k := k * 1) rfl rfl rfl rfl (by rw [Nat.blt_eq,cellsI_length]; omega) Tryd.sizeOf3) ?_
  rintro _ _ ⟨rfl,rfl⟩
  refine E.relist (L2 := [⟨b1,0,cellsI 288 (fixTo (k + 1))⟩]) (congrArg (fun x => ([⟨b1,0,x⟩] : Frags)) (fix_next (v := 8) (by unfold fixv; repeat (first | rw [if_pos (by omega)] | rw [if_neg (by omega)])))) ?_
  refine E.kp [(1,_),(2,_),(8,_)] rfl ?_
  refine C.region ?_
  refine E.pure (S.move rfl) rfl ?_
  refine E.pure (S.add (b := ((1 : Nat) : Int)) rfl rfl (N.add64 (by omega))) rfl ?_
  refine E.pure (S.assign rfl) rfl ?_
  refine E.kp [(1,_),(2,_),(8,_)] rfl ?_
  refine ⟨_,?_,k + 1,rfl,rfl,by omega,by omega,rfl⟩; omega
 have hk : k = 144 := by omega
 subst hk
 refine C.exit rfl ?_
 refine C.seq ?_
 refine C.sr ?_
 refine E.pure (S.assign rfl) rfl ?_
 refine E.kp [(1,_),(2,_),(3,_),(8,_)] rfl ?_
 refine C.block ?_
 refine C.loop (fun mm ee ll => ∃ (k : Nat),keeps ee [1,3] = some [(1,.pointer (some ⟨b1,0,none⟩)),(3,.int .i64 ((k : Nat) : Int))] ∧ ll = [⟨b1,0,cellsI 288 (fixTo (k))⟩] ∧ (144 ≤ k) ∧ (k ≤ 256) ∧ mm = 256 - k) (_) ⟨144,rfl,rfl,by omega,by omega,rfl⟩ ?_
 rintro m1 _ _ ⟨k,hk1,rfl,hj1,hj2,hm1⟩
 refine C.weaken _ hk1 ?_
 refine C.seq ?_
 refine C.sr ?_
 refine E.pure (S.move rfl) rfl ?_
 refine E.pure (S.lt (b := ((256 : Nat) : Int)) rfl rfl) rfl ?_
 refine E.kp [(1,_),(3,_),(14,_)] rfl ?_
 refine C.ifp rfl (fun h14 => ?_) (fun h14 => ?_)
 ·
  refine C.skip ?_
  refine C.seq ?_
  refine C.block ?_
  refine C.region ?_
  refine E.pure (S.move rfl) rfl ?_
  refine E.pure (S.ixArr rfl rfl (by omega) Tryd.underlying168 Tryd.sizeOf3) rfl ?_
  refine E.loud0 (X.store 0 (k := k * 1) rfl rfl rfl rfl (by rw [Nat.blt_eq,cellsI_length]; omega) Tryd.sizeOf3) ?_
  rintro _ _ ⟨rfl,rfl⟩
  refine E.relist (L2 := [⟨b1,0,cellsI 288 (fixTo (k + 1))⟩]) (congrArg (fun x => ([⟨b1,0,x⟩] : Frags)) (fix_next (v := 9) (by unfold fixv; repeat (first | rw [if_pos (by omega)] | rw [if_neg (by omega)])))) ?_
  refine E.kp [(1,_),(3,_),(14,_)] rfl ?_
  refine C.region ?_
  refine E.pure (S.move rfl) rfl ?_
  refine E.pure (S.add (b := ((1 : Nat) : Int)) rfl rfl (N.add64 (by omega))) rfl ?_
  refine E.pure (S.assign rfl) rfl ?_
  refine E.kp [(1,_),(3,_),(14,_)] rfl ?_
  refine ⟨_,?_,k + 1,rfl,rfl,by omega,by omega,rfl⟩; omega
 have hk : k = 256 := by omega
 subst hk
 refine C.exit rfl ?_
 refine C.seq ?_
 refine C.sr ?_
 refine E.pure (S.assign rfl) rfl ?_
 refine E.kp [(1,_),(3,_),(4,_),(14,_)] rfl ?_
 refine C.block ?_
 refine C.loop (fun mm ee ll => ∃ (k : Nat),keeps ee [1,4] = some [(1,.pointer (some ⟨b1,0,none⟩)),(4,.int .i64 ((k : Nat) : Int))] ∧ ll = [⟨b1,0,cellsI 288 (fixTo (k))⟩] ∧ (256 ≤ k) ∧ (k ≤ 280) ∧ mm = 280 - k) (_) ⟨256,rfl,rfl,by omega,by omega,rfl⟩ ?_
 rintro m2 _ _ ⟨k,hk2,rfl,hj1,hj2,hm2⟩
 refine C.weaken _ hk2 ?_
 refine C.seq ?_
 refine C.sr ?_
 refine E.pure (S.move rfl) rfl ?_
 refine E.pure (S.lt (b := ((280 : Nat) : Int)) rfl rfl) rfl ?_
 refine E.kp [(1,_),(4,_),(20,_)] rfl ?_
 refine C.ifp rfl (fun h20 => ?_) (fun h20 => ?_)
 ·
  refine C.skip ?_
  refine C.seq ?_
  refine C.block ?_
  refine C.region ?_
  refine E.pure (S.move rfl) rfl ?_
  refine E.pure (S.ixArr rfl rfl (by omega) Tryd.underlying168 Tryd.sizeOf3) rfl ?_
  refine E.loud0 (X.store 0 (k := k * 1) rfl rfl rfl rfl (by rw [Nat.blt_eq,cellsI_length]; omega) Tryd.sizeOf3) ?_
  rintro _ _ ⟨rfl,rfl⟩
  refine E.relist (L2 := [⟨b1,0,cellsI 288 (fixTo (k + 1))⟩]) (congrArg (fun x => ([⟨b1,0,x⟩] : Frags)) (fix_next (v := 7) (by unfold fixv; repeat (first | rw [if_pos (by omega)] | rw [if_neg (by omega)])))) ?_
  refine E.kp [(1,_),(4,_),(20,_)] rfl ?_
  refine C.region ?_
  refine E.pure (S.move rfl) rfl ?_
  refine E.pure (S.add (b := ((1 : Nat) : Int)) rfl rfl (N.add64 (by omega))) rfl ?_
  refine E.pure (S.assign rfl) rfl ?_
  refine E.kp [(1,_),(4,_),(20,_)] rfl ?_
  refine ⟨_,?_,k + 1,rfl,rfl,by omega,by omega,rfl⟩; omega
 have hk : k = 280 := by omega
 subst hk
 refine C.exit rfl ?_
 refine C.seq ?_
 refine C.sr ?_
 refine E.pure (S.assign rfl) rfl ?_
 refine E.kp [(1,_),(4,_),(5,_),(20,_)] rfl ?_
 refine C.block ?_
 refine C.loop (fun mm ee ll => ∃ (k : Nat),keeps ee [1,5] = some [(1,.pointer (some ⟨b1,0,none⟩)),(5,.int .i64 ((k : Nat) : Int))] ∧ ll = [⟨b1,0,cellsI 288 (fixTo (k))⟩] ∧ (280 ≤ k) ∧ (k ≤ 288) ∧ mm = 288 - k) (_) ⟨280,rfl,rfl,by omega,by omega,rfl⟩ ?_
 rintro m3 _ _ ⟨k,hk3,rfl,hj1,hj2,hm3⟩
 refine C.weaken _ hk3 ?_
 refine C.seq ?_
 refine C.sr ?_
 refine E.pure (S.move rfl) rfl ?_
 refine E.pure (S.lt (b := ((288 : Nat) : Int)) rfl rfl) rfl ?_
 refine E.kp [(1,_),(5,_),(26,_)] rfl ?_
 refine C.ifp rfl (fun h26 => ?_) (fun h26 => ?_)
 ·
  refine C.skip ?_
  refine C.seq ?_
  refine C.block ?_
  refine C.region ?_
  refine E.pure (S.move rfl) rfl ?_
  refine E.pure (S.ixArr rfl rfl (by omega) Tryd.underlying168 Tryd.sizeOf3) rfl ?_
  refine E.loud0 (X.store 0 (k := k * 1) rfl rfl rfl rfl (by rw [Nat.blt_eq,cellsI_length]; omega) Tryd.sizeOf3) ?_
  rintro _ _ ⟨rfl,rfl⟩
  refine E.relist (L2 := [⟨b1,0,cellsI 288 (fixTo (k + 1))⟩]) (congrArg (fun x => ([⟨b1,0,x⟩] : Frags)) (fix_next (v := 8) (by unfold fixv; repeat (first | rw [if_pos (by omega)] | rw [if_neg (by omega)])))) ?_
  refine E.kp [(1,_),(5,_),(26,_)] rfl ?_
  refine C.region ?_
  refine E.pure (S.move rfl) rfl ?_
  refine E.pure (S.add (b := ((1 : Nat) : Int)) rfl rfl (N.add64 (by omega))) rfl ?_
  refine E.pure (S.assign rfl) rfl ?_
  refine E.kp [(1,_),(5,_),(26,_)] rfl ?_
  refine ⟨_,?_,k + 1,rfl,rfl,by omega,by omega,rfl⟩; omega
 have hk : k = 288 := by omega
 subst hk
 refine C.exit rfl ?_
 refine C.sr ?_
 refine E.loud1 (X.alloc Tryd.zeroValue144) rfl ?_; rintro _ _ ⟨b31,rfl,rfl⟩; refine E.relist (L2 := [_,_]) rfl ?_
 refine E.relist (L2 := [⟨b31,0,.int .i64 ((0 : Nat) : Int)::(cellsU 512 (fun _ => 0) ++ [.slice none 0 0,.int .u32 0])⟩,⟨b1,0,intsV fixLit ++ []⟩]) (by rw [zcHufL,← fix_full]; rfl) ?_
 refine E.pure (S.assign rfl) rfl ?_
 refine E.kp [(1,_),(5,_),(6,_),(26,_)] rfl ?_
 refine C.sr ?_
 refine E.pure (S.move rfl) rfl ?_
 refine E.pure (S.slArr (l := 0) (k := .i64) (h := 288) (k' := .i64) rfl rfl rfl (by omega) (by omega) Tryd.underlying168 Tryd.sizeOf3) rfl ?_
 refine E.reslot (v := .slice (some ⟨b1,0,none⟩) (fixLit.length) (fixLit.length)) (by rw [fix_lenL]; rfl) ?_
 refine E.loud1 (X.call rfl Tryd.call80 (init_walk b31 0 b1 0 fixLit.length 0 (cellsU 512 (fun _ => 0) ++ [.slice none 0 0,.int .u32 0]) [] fixLit (by simp [cellsU_length]) (fun _ => rfl) fix_15 (by rw [fix_lenL]; decide))) rfl ?_
 rintro rI LI hI
 refine E.kp [(1,_),(5,_),(6,_),(26,_)] rfl ?_
 refine C.sr ?_
 refine E.pure (S.move rfl) rfl ?_
 refine E.pure (S.assign rfl) rfl ?_
 refine E.kp [(0,_),(1,_),(5,_),(6,_),(26,_)] rfl ?_
 refine C.ret ?_
 rcases hI with ⟨_,_,L1,J,hH,hS⟩ | ⟨hno,_⟩
 · rw [fix_min] at hH
   exact ⟨_,rfl,b31,L1,_::J,rfl,hH,hS.trans (Same.perm (List.perm_middle.symm))⟩
 · exact absurd fix_ok hno
theorem fixedHuffman_spec {K : Known} : Fn Tryd.prog K 73 #[] [] fun r L => ∃ qb,r = .pointer (some ⟨qb,0,none⟩) ∧ HufT fixLit 7 qb 0 L :=
  Fn.lose fixedHuffman_walk fun v L' ⟨qb,L1,J,h1,h2,h3⟩ => ⟨L1,J,h3,qb,h1,h2⟩

end Go.Eng
namespace Go.Eng
open Go Go.Proofs
set_option maxRecDepth 100000

set_option maxHeartbeats 1000000
/-- How dataBlock ends. -/
def DbEnd {K : Known} {ea : Fin 5 → Addr} (src : Src K ea) (dt : List UInt8) (fb hb : Nat) (R : ResR) (gv p0 : Nat) (L : Frags) : Prop :=
  ∃ y1 y2 y3 A T W H ws,ws.length = 4 ∧ L = [y1,y2,y3,A,T,W,H,⟨fb,1041,ws⟩] ∧ ((∃ pend q,pend ≠ [] ∧ StorSt src dt fb hb R gv pend q y1 y2 y3 A T W H) ∨ (∃ pend p2,p0 < p2 ∧ NextSt src dt fb hb R gv pend p2 y1 y2 y3 A T W H) ∨ ∃ pend,EndSt src dt fb hb R gv pend y1 y2 y3 A T W H)
/-- What comes of a stored block whose lengths stand at byte q. -/
def storR (dt : List UInt8) (last : Bool) (out : List UInt8) (q : Nat) : ResR := match storedN dt q with
  | none => (out,.bad)
  | some n => stored dt last n out (q + 4)
theorem storR_short {dt : List UInt8} {last : Bool} {out : List UInt8} {q : Nat} (h : dt.length < q + 4) : storR dt last out q = (out,.bad) := by
  unfold storR storedN; rw [if_pos h]
theorem compl16 {n : Nat} (h : n < 65536) : IntKind.u16.wrap (-1 - (n : Int)) = ((65535 - n : Nat) : Int) := by
  have e : IntKind.u16.wrap (-1 - (n : Int)) = (-1 - (n : Int)) % 65536 := rfl
  rw [e]; omega
theorem not_i64 {a : Nat} (h : a < 65536) : IntKind.i64.wrap (((BitVec.ofInt 64 (-1) ^^^ BitVec.ofNat 64 a).toNat : Nat) : Int) = -1 - (a : Int) := by
  have e1 : BitVec.ofInt 64 (-1) = BitVec.allOnes 64 := by decide
  rw [e1,BitVec.allOnes_xor,BitVec.toNat_not,BitVec.toNat_ofNat,Nat.mod_eq_of_lt (by omega)]
  rw [show (2 : Nat) ^ 64 - 1 - a = 18446744073709551615 - a from rfl]
  rw [IntKind.wrap_i64]; omega
theorem S.not64 {n : Nat} {env : Env} {ty xT : TypeId} {x : Operand} {a : Nat} (hx : ev? env x = some (.int .i64 (a : Int))) (ha : a < 65536) :
    OpP Tryd.prog n (.unOp .xor xT x) ty env (.int .i64 (-1 - (a : Int))) := by
  intro ac w hf
  simp only [exop,execOp,hf.eval hx,Op.unary]
  have e : IntKind.i64.signed = true := rfl
  rw [e]
  simp only [if_true,intBits_xor]
  have := not_i64 ha
  rw [← this]
  simp only [bits,N.ofInt_nat]
  rfl
theorem four_bytes {dt : List UInt8} {q : Nat} (h : q + 4 ≤ dt.length) : ∃ b0 b1 b2 b3 : UInt8,(dt.drop q).take 4 = [b0,b1,b2,b3] ∧ (dt.getD q 0).toNat = b0.toNat ∧ (dt.getD (q + 1) 0).toNat = b1.toNat ∧ (dt.getD (q + 2) 0).toNat = b2.toNat ∧ (dt.getD (q + 3) 0).toNat = b3.toNat := by
  have g : ∀ i,(dt.drop q)[i]? = dt[q + i]? := fun i => List.getElem?_drop
  match hd : dt.drop q,(by rw [List.length_drop]; omega : 4 ≤ (dt.drop q).length) with
  | b0::b1::b2::b3::r,_ =>
    have g0 := g 0
    have g1 := g 1
    have g2 := g 2
    have g3 := g 3
    rw [hd] at g0 g1 g2 g3
    simp only [List.getElem?_cons_zero,List.getElem?_cons_succ,Nat.add_zero] at g0 g1 g2 g3
    exact ⟨b0,b1,b2,b3,rfl,by rw [List.getD_eq_getElem?_getD,← g0]; rfl,by rw [List.getD_eq_getElem?_getD,← g1]; rfl,by rw [List.getD_eq_getElem?_getD,← g2]; rfl,by rw [List.getD_eq_getElem?_getD,← g3]; rfl⟩
theorem or8 (a b : Nat) (ha : a < 256) : a ||| b * 256 = a + 256 * b := by
  rw [Nat.or_comm,show b * 256 = b <<< 8 by rw [Nat.shiftLeft_eq],← Nat.shiftLeft_add_eq_or_of_lt (by simpa using ha),Nat.shiftLeft_eq]; omega

theorem dataBlock_spec {K : Known} {ea : Fin 5 → Addr} (hs : Sents K ea) (src : Src K ea) (dt : List UInt8) (fb hb : Nat) (R : ResR) (gv : Nat) (last : Bool) (hlv hdv : Value) (stp : Nat) (a0 : Option Addr) (c0 : Nat) (trv : Value) (htr : trv = .slice a0 0 c0) (x1 x2 x3 : Frag) (p q b nb : Nat) (ro : Int) (out h : List UInt8) (wr rd : Nat) (full : Bool) (ss cl cd : Nat) (ws : List Value) (hwl : ws.length = 4) (hA : src.At (dt.drop q) x1 x2 x3) (hB : BitsIn dt p q b nb) (hnb : nb < 8) (H : Hist h wr full out) (hrd : rd ≤ wr) (hwr : wr < 32768) (hsum : gv + (wr - rd) = out.length) (hss : SsOk ss cl cd (hsize wr full)) (hR : R = storR dt last out q) : Fn Tryd.prog K 72 #[.pointer (some ⟨fb,0,none⟩)] ([x1,x2,x3,⟨fb,0,[.iface src.t src.v,.pointer none,.int .i64 (ro),.int .u32 (((b) : Nat) : Int),.int .u64 (((nb) : Nat) : Int)]⟩,⟨fb,1045,[.func (.func stp) #[] #[],.int .i64 (((ss) : Nat) : Int),.bool last,.nilIface,trv,hlv,hdv,.int .i64 (((cl) : Nat) : Int),.int .i64 (((cd) : Nat) : Int)]⟩,⟨fb,1037,[.slice (some ⟨hb,0,none⟩) 32768 32768,.int .i64 (((wr) : Nat) : Int),.int .i64 (((rd) : Nat) : Int),.bool full]⟩,⟨hb,0,bytesV (h)⟩,⟨fb,1041,ws⟩]) (fun r L => r = .tuple #[] ∧ DbEnd src dt fb hb R gv p L) := by
 refine Fn.intro (args := [.pointer (some ⟨fb,0,none⟩)]) (RR := Ret0 _) Tryd.func72 rfl rfl Tryd.ntmps72 (res0 Tryd.results72) ?_
 refine C.reenv (env2 := [(0,.pointer (some ⟨fb,0,none⟩))]) rfl ?_
 refine C.seq ?_
 have hq := hB.le
 have hat := hB.at8
 have hdl : (dt.drop q).length = dt.length - q := List.length_drop
 refine C.region ?_
 refine E.pure (S.move rfl) rfl ?_
 refine E.pure (S.nilPtr rfl) rfl ?_
 refine E.pure (S.field rfl fa153_4) rfl ?_
 refine E.loud0 (X.store 3 (k := 4) rfl rfl rfl rfl rfl Tryd.sizeOf92) ?_; rintro _ _ ⟨rfl,rfl⟩; refine E.relist (L2 := [_,_,_,_,_,_,_,_]) rfl ?_
 refine E.kp [(0,_)] rfl ?_
 refine C.sr ?_
 refine E.pure (S.move rfl) rfl ?_
 refine E.pure (S.nilPtr rfl) rfl ?_
 refine E.pure (S.field rfl fa153_3) rfl ?_
 refine E.loud0 (X.store 3 (k := 3) rfl rfl rfl rfl rfl Tryd.sizeOf52) ?_; rintro _ _ ⟨rfl,rfl⟩; refine E.relist (L2 := [_,_,_,_,_,_,_,_]) rfl ?_
 refine E.kp [(0,_)] rfl ?_
 refine C.seq ?_
 refine C.draw [0,1,2,4,0,16,32,64,136,256,512,512,2047,8191] (.pure 0 240 (.pure 1 241 (.pure 2 243 (.pure 4 15 (.pure 5 31 (.pure 6 63 (.pure 7 127 (.seg [(3,247)] (.alt 8 (.pure 9 511 (.pure 10 3071 (.pure 11 6143 (.pure 12 4095 (.pure 13 8191 .done))))) .stop))))))))) mixed (by decide +kernel) ?_
 refine D.pure rfl (S.move rfl) rfl ?_
 refine D.pure rfl (S.nilPtr rfl) rfl ?_
 refine D.pure rfl (S.field rfl fa153_0) rfl ?_
 refine D.pure rfl (S.move rfl) rfl ?_
 refine D.pure rfl (S.nilPtr rfl) rfl ?_
 refine D.pure rfl (S.field rfl fa153_10) rfl ?_
 refine D.pure rfl (S.slArr (l := 0) (h := 4) rfl rfl rfl (by omega) (by omega) Tryd.underlying149 Tryd.sizeOf5) rfl ?_
 refine D.reslot (v := .slice (some ⟨fb,1041,none⟩) (4) (4)) (slice_to (by simp [part]) rfl rfl) ?_
 refine D.seg (by decide) ?_
 refine W.still rfl (S.load 3 (k := 0) rfl rfl rfl Tryd.isAgg71) rfl ?_
 refine W.nil ?_
 refine D.one ?_
 refine O.loud1 rfl (OpX.pick [0,0,0,4] (F := [_,_,_,_]) rfl (X.call rfl Tryd.call45 (readFull_spec hs src (dt.drop q) x1 x2 x3 fb 1041 4 4 ws hA hwl.symm (Nat.le_refl _) (by decide)))) rfl ?_; rintro _ _ ⟨_,⟨f1,f2,f3,hF,rfl,rfl⟩,rfl⟩; refine D.relist (L2 := [_,_,_,_,_,_,_,_]) rfl ?_
 refine D.perml [0,0,0,1,1,1,1,0] rfl ?_
 refine D.relist (L2 := [_,_,_,_,_,_,_,_]) rfl ?_
 refine D.pure rfl (S.move rfl) rfl ?_
 refine D.pure rfl (S.extract rfl rfl) rfl ?_
 refine D.pure rfl (S.extract rfl rfl) rfl ?_
 refine D.pure rfl (S.assign rfl) rfl ?_
 refine D.pure rfl (S.assign rfl) rfl ?_
 refine D.kp [(0,_),(2,_),(3,_)] rfl ?_
 refine C.sr ?_
 refine E.pure (S.move rfl) rfl ?_
 refine E.pure (S.nilPtr rfl) rfl ?_
 refine E.pure (S.field rfl fa153_2) rfl ?_
 refine E.still (S.load 3 (k := 2) rfl rfl rfl Tryd.isAgg2) rfl ?_
 refine E.pure (S.move rfl) rfl ?_
 refine E.pure (S.add rfl rfl rfl) rfl ?_
 refine E.pure (S.nilPtr rfl) rfl ?_
 refine E.pure (S.field rfl fa153_2) rfl ?_
 refine E.loud0 (X.store 3 (k := 2) rfl rfl rfl rfl rfl Tryd.sizeOf2) ?_; rintro _ _ ⟨rfl,rfl⟩; refine E.relist (L2 := [_,_,_,_,_,_,_,_]) rfl ?_
 refine E.kp [(0,_),(2,_),(3,_)] rfl ?_
 refine C.seq ?_
 refine C.sr ?_
 refine E.pure (S.move rfl) rfl ?_
 refine E.still (S.neErNil rfl) rfl ?_
 refine E.kp [(0,_),(2,_),(3,_),(33,_)] rfl ?_
 first | refine C.ifp rfl (fun h33 => ?_) (fun h33 => ?_) | refine C.ifNone rfl (fun h33 => ?_) (fun h33 => ?_) | refine C.ifSome rfl (fun h33 => ?_) (fun h33 => ?_) | refine C.ifSe rfl (fun h33 => ?_) (fun h33 => ?_) | refine C.ifNotSe rfl (fun h33 => ?_) (fun h33 => ?_) | refine C.cond rfl (fun h33 => ?_) (fun h33 => ?_)
 ·
  obtain ⟨hbf,hlt⟩ := bad_full h33
  have hmn : Nat.min 4 (dt.drop q).length = (dt.drop q).length := Nat.min_eq_right (by omega)
  refine C.sr ?_
  refine E.pure (S.move rfl) rfl ?_
  refine E.pure (S.move rfl) rfl ?_
  refine E.loud1 (OpX.pick [] (F := [_,_,_,_,_,_,_,_]) rfl (X.call rfl Tryd.call76 (flate_noEOF (L := []) hs _))) rfl ?_; rintro _ _ ⟨_,⟨rfl,rfl⟩,rfl⟩; refine E.relist (L2 := [_,_,_,_,_,_,_,_]) rfl ?_
  refine E.pure (S.nilPtr rfl) rfl ?_
  refine E.pure (S.field rfl fa153_14) rfl ?_
  refine E.loud0 (X.store 4 (k := 3) rfl rfl rfl (one_er _) rfl Tryd.sizeOf59) ?_; rintro _ _ ⟨rfl,rfl⟩; refine E.relist (L2 := [_,_,_,_,_,_,_,_]) rfl ?_
  refine E.kp [(0,_),(2,_),(3,_),(33,_)] rfl ?_
  refine C.ret ?_
  refine ⟨rfl,_,_,_,_,_,_,_,_,?_,rfl,.inr (.inr ⟨[],out,.bad,_,trv,h,wr,rd,full,.inr ⟨rfl,hbf,_,hF⟩,⟨_,_,_,rfl⟩,⟨H,hrd,hwr,by simpa using hsum,by simp,by rw [htr]; exact TR.nil _ _ _ _,rfl,rfl⟩,⟨_,_,_,_,_,_,_,rfl⟩,?_,.inl rfl⟩)⟩
  · rw [hmn]; simp only [List.length_append,bytesV_length,List.length_take,List.length_drop,hwl]; omega
  · rw [hR]; exact storR_short (by omega)
 have hge := full_none h33
 have hmn : Nat.min 4 (dt.drop q).length = 4 := Nat.min_eq_left hge
 obtain ⟨b0,b1,b2,b3,hb4,e0,e1,e2,e3⟩ := four_bytes (dt := dt) (q := q) (by omega)
 have w0 := b0.toNat_lt
 have w1 := b1.toNat_lt
 have w2 := b2.toNat_lt
 have w3 := b3.toNat_lt
 rw [hb4,hmn,show List.drop 4 ws = [] from List.drop_eq_nil_of_le (by omega)]
 rw [List.drop_drop] at hF
 refine C.relist (L2 := [f1,f2,f3,⟨fb,0,[.iface src.t src.v,.pointer none,.int .i64 _,.int .u32 (((0) : Nat) : Int),.int .u64 (((0) : Nat) : Int)]⟩,⟨fb,1045,[.func (.func stp) #[] #[],.int .i64 (((ss) : Nat) : Int),.bool last,.nilIface,trv,hlv,hdv,.int .i64 (((cl) : Nat) : Int),.int .i64 (((cd) : Nat) : Int)]⟩,⟨fb,1037,[.slice (some ⟨hb,0,none⟩) 32768 32768,.int .i64 (((wr) : Nat) : Int),.int .i64 (((rd) : Nat) : Int),.bool full]⟩,⟨hb,0,bytesV (h)⟩,⟨fb,1041,[.int .u8 ((b0.toNat : Nat) : Int),.int .u8 ((b1.toNat : Nat) : Int),.int .u8 ((b2.toNat : Nat) : Int),.int .u8 ((b3.toNat : Nat) : Int)]⟩]) rfl ?_
 refine C.skip ?_
 refine C.seq ?_
 refine C.draw [0,1,2,4,8,16,0,64,128,256,512,1024,2048,4128,16383] (.pure 0 8128 (.pure 1 8129 (.pure 2 8131 (.pure 3 8135 (.pure 6 63 (.pure 7 127 (.pure 8 255 (.pure 9 511 (.seg [(4,8143),(5,8159),(10,1023),(11,2047),(12,4095),(13,8191),(14,16383)] .done))))))))) mixed (by decide +kernel) ?_
 refine D.pure rfl (S.move rfl) rfl ?_
 refine D.pure rfl (S.nilPtr rfl) rfl ?_
 refine D.pure rfl (S.field rfl fa153_10) rfl ?_
 refine D.pure rfl (S.ixArr (i := 0) rfl rfl (by omega) Tryd.underlying149 Tryd.sizeOf5) rfl ?_
 refine D.pure rfl (S.move rfl) rfl ?_
 refine D.pure rfl (S.nilPtr rfl) rfl ?_
 refine D.pure rfl (S.field rfl fa153_10) rfl ?_
 refine D.pure rfl (S.ixArr (i := 1) rfl rfl (by omega) Tryd.underlying149 Tryd.sizeOf5) rfl ?_
 refine D.seg (by decide) ?_
 refine W.still rfl (S.load 7 (k := 0) rfl rfl rfl Tryd.isAgg5) rfl ?_
 refine W.pure rfl (S.conv rfl Tryd.underlying5 Tryd.underlying3 (N.i64n (by omega))) rfl ?_
 refine W.still rfl (S.load 7 (k := 1) rfl rfl rfl Tryd.isAgg5) rfl ?_
 refine W.pure rfl (S.conv rfl Tryd.underlying5 Tryd.underlying3 (N.i64n (by omega))) rfl ?_
 refine W.pure rfl (S.shl (b := ((8 : Nat) : Int)) rfl rfl (by omega) (N.shl64 (by omega))) rfl ?_
 refine W.reslot (v := .int .i64 ((b1.toNat * 256 : Nat) : Int)) (congrArg (fun y : Nat => Value.int .i64 (y : Int)) (by rw [Nat.shiftLeft_eq])) ?_
 refine W.pure rfl (S.or rfl rfl (N.or64 (by omega) (by omega))) rfl ?_
 refine W.reslot (v := .int .i64 ((b0.toNat + 256 * b1.toNat : Nat) : Int)) (congrArg (fun y : Nat => Value.int .i64 (y : Int)) (by exact or8 _ _ (by omega))) ?_
 refine W.pure rfl (S.assign rfl) rfl ?_
 refine W.nil ?_
 refine D.kp [(0,_),(2,_),(3,_),(4,_),(33,_)] rfl ?_
 refine C.seq ?_
 refine C.draw [0,1,2,4,8,16,0,64,128,256,512,1024,2048,4128,16383] (.pure 0 8128 (.pure 1 8129 (.pure 2 8131 (.pure 3 8135 (.pure 6 63 (.pure 7 127 (.pure 8 255 (.pure 9 511 (.seg [(4,8143),(5,8159),(10,1023),(11,2047),(12,4095),(13,8191),(14,16383)] .done))))))))) mixed (by decide +kernel) ?_
 refine D.pure rfl (S.move rfl) rfl ?_
 refine D.pure rfl (S.nilPtr rfl) rfl ?_
 refine D.pure rfl (S.field rfl fa153_10) rfl ?_
 refine D.pure rfl (S.ixArr (i := 2) rfl rfl (by omega) Tryd.underlying149 Tryd.sizeOf5) rfl ?_
 refine D.pure rfl (S.move rfl) rfl ?_
 refine D.pure rfl (S.nilPtr rfl) rfl ?_
 refine D.pure rfl (S.field rfl fa153_10) rfl ?_
 refine D.pure rfl (S.ixArr (i := 3) rfl rfl (by omega) Tryd.underlying149 Tryd.sizeOf5) rfl ?_
 refine D.seg (by decide) ?_
 refine W.still rfl (S.load 7 (k := 2) rfl rfl rfl Tryd.isAgg5) rfl ?_
 refine W.pure rfl (S.conv rfl Tryd.underlying5 Tryd.underlying3 (N.i64n (by omega))) rfl ?_
 refine W.still rfl (S.load 7 (k := 3) rfl rfl rfl Tryd.isAgg5) rfl ?_
 refine W.pure rfl (S.conv rfl Tryd.underlying5 Tryd.underlying3 (N.i64n (by omega))) rfl ?_
 refine W.pure rfl (S.shl (b := ((8 : Nat) : Int)) rfl rfl (by omega) (N.shl64 (by omega))) rfl ?_
 refine W.reslot (v := .int .i64 ((b3.toNat * 256 : Nat) : Int)) (congrArg (fun y : Nat => Value.int .i64 (y : Int)) (by rw [Nat.shiftLeft_eq])) ?_
 refine W.pure rfl (S.or rfl rfl (N.or64 (by omega) (by omega))) rfl ?_
 refine W.reslot (v := .int .i64 ((b2.toNat + 256 * b3.toNat : Nat) : Int)) (congrArg (fun y : Nat => Value.int .i64 (y : Int)) (by exact or8 _ _ (by omega))) ?_
 refine W.pure rfl (S.assign rfl) rfl ?_
 refine W.nil ?_
 refine D.kp [(0,_),(2,_),(3,_),(4,_),(5,_),(33,_)] rfl ?_
 refine C.seq ?_
 refine C.sr ?_
 refine E.pure (S.move rfl) rfl ?_
 refine E.pure (S.conv rfl Tryd.underlying3 Tryd.underlying120 (N.in_u16 (by omega))) rfl ?_
 refine E.pure (S.move rfl) rfl ?_
 refine E.pure (S.not64 rfl (by omega)) rfl ?_
 refine E.pure (S.conv rfl Tryd.underlying3 Tryd.underlying120 (compl16 (by omega))) rfl ?_
 refine E.pure (S.ne rfl rfl) rfl ?_
 refine E.kp [(0,_),(2,_),(3,_),(4,_),(5,_),(33,_),(72,_)] rfl ?_
 refine C.ifp rfl (fun h72 => ?_) (fun h72 => ?_)
 ·
  refine C.sr ?_
  refine E.pure (S.move rfl) rfl ?_
  refine E.pure (S.move rfl) rfl ?_
  refine E.pure (S.nilPtr rfl) rfl ?_
  refine E.pure (S.field rfl fa153_2) rfl ?_
  refine E.still (S.load 3 (k := 2) rfl rfl rfl Tryd.isAgg2) rfl ?_
  refine E.pure (S.mkIface rfl conc165) rfl ?_
  refine E.reslot (v := Er.val ea (.corrupt _)) (rfl) ?_
  refine E.pure (S.nilPtr rfl) rfl ?_
  refine E.pure (S.field rfl fa153_14) rfl ?_
  refine E.loud0 (X.store 4 (k := 3) rfl rfl rfl rfl rfl Tryd.sizeOf59) ?_; rintro _ _ ⟨rfl,rfl⟩; refine E.relist (L2 := [_,_,_,_,_,_,_,_]) rfl ?_
  refine E.kp [(0,_),(2,_),(3,_),(4,_),(5,_),(33,_),(72,_)] rfl ?_
  refine C.ret ?_
  refine ⟨rfl,_,_,_,_,_,_,_,_,?_,rfl,.inr (.inr ⟨[],out,.bad,_,trv,h,wr,rd,full,.inr ⟨rfl,bad_corrupt _,_,hF⟩,⟨_,_,_,rfl⟩,⟨H,hrd,hwr,by simpa using hsum,by simp,by rw [htr]; exact TR.nil _ _ _ _,rfl,rfl⟩,⟨_,_,_,_,_,_,_,rfl⟩,?_,.inl rfl⟩)⟩
  · rfl
  · rw [hR,storR,storedN,if_neg (by omega),if_neg (by rw [e0,e1,e2,e3]; omega)]
 refine C.skip ?_
 refine C.seq ?_
 refine C.sr ?_
 refine E.pure (S.move rfl) rfl ?_
 refine E.pure (S.eq (b := ((0 : Nat) : Int)) rfl rfl) rfl ?_
 refine E.kp [(0,_),(2,_),(3,_),(4,_),(5,_),(33,_),(72,_),(82,_)] rfl ?_
 refine C.ifp rfl (fun h82 => ?_) (fun h82 => ?_)
 ·
  have hn0 : b0.toNat + 256 * b1.toNat = 0 := by omega
  refine C.sr ?_
  refine E.pure (S.move rfl) rfl ?_
  refine E.pure (S.move rfl) rfl ?_
  refine E.pure (S.nilPtr rfl) rfl ?_
  refine E.pure (S.field rfl fa153_9) rfl ?_
  refine E.loud1 (OpX.pick [5] (F := [_,_,_,_,_,_,_]) rfl (X.call rfl Tryd.call77 (readFlush_spec fb 1037 hb wr rd full hrd (by omega)))) rfl ?_; rintro _ _ ⟨_,⟨Aw,hfl,rfl⟩,rfl⟩; refine E.relist (L2 := [_,_,_,_,_,_,_,_]) rfl ?_
  refine E.perml [1,1,1,1,1,0,0,0] rfl ?_
  refine E.relist (L2 := [_,_,_,_,_,_,_,_]) rfl ?_
  refine E.pure (S.nilPtr rfl) rfl ?_
  refine E.pure (S.field rfl fa153_15) rfl ?_
  refine E.loud0 (X.store 4 (k := 4) rfl rfl rfl (flush_one hfl) rfl Tryd.sizeOf22) ?_; rintro _ _ ⟨rfl,rfl⟩; refine E.relist (L2 := [_,_,_,_,_,_,_,_]) rfl ?_
  refine E.kp [(0,_),(2,_),(3,_),(4,_),(5,_),(33,_),(72,_),(82,_)] rfl ?_
  have hfl0 := hfl
  obtain ⟨_,_,hA5⟩ := hfl
  have hA6 := (hA5.resolve_right fun h => by omega).2
  subst hA6
  refine C.sr ?_
  refine E.pure (S.move rfl) rfl ?_
  refine E.loud1 (OpX.pick [5,4] (F := [_,_,_,_,_,_]) rfl (X.call rfl Tryd.call78 (finishBlock_spec hs fb hb wr wr full last (Nat.le_refl _) hwr _ _ _ _ _ _ _ _))) rfl ?_; rintro _ _ ⟨_,⟨rfl,ev2,tr2,Aw2,rfl,hfin⟩,rfl⟩; refine E.relist (L2 := [_,_,_,_,_,_,_,_]) rfl ?_
  refine E.perml [2,2,2,2,1,0,0,0] rfl ?_
  refine E.relist (L2 := [_,_,_,_,_,_,_,_]) rfl ?_
  refine E.kp [(0,_),(2,_),(3,_),(4,_),(5,_),(33,_),(72,_),(82,_)] rfl ?_
  refine C.ret ?_
  have hst : storedN dt q = some (b0.toNat + 256 * b1.toNat) := by rw [storedN,if_neg (by omega),if_pos (by rw [e0,e1,e2,e3]; omega),e0,e1]
  have hR2 : R = stored dt last (b0.toNat + 256 * b1.toNat) out (q + 4) := by rw [hR,storR,hst]
  obtain ⟨wr5,full5,hW,hlen,hsz⟩ := WinSt.flush (gv := gv) H hrd hsum hfl0
  rw [hn0] at hR2
  unfold stored at hR2
  rw [if_neg (by omega),List.take_zero,List.append_nil,Nat.add_zero] at hR2
  rcases hfin with ⟨hl5,rfl,rfl,rfl⟩ | ⟨hl5,rfl,hfin⟩
  · rw [hl5] at hR2
    exact ⟨rfl,_,_,_,_,_,_,_,_,rfl,rfl,.inr (.inl ⟨_,8 * (q + 4),by omega,q + 4,0,_,_,_,wr5,wr5,full5,ss,last,_,_,cl,cd,⟨hF,0,_,BitsIn.start dt (by omega),rfl⟩,by omega,hW,rfl,ss_more hss hsz,hR2⟩)⟩
  · rw [hl5,if_pos rfl] at hR2
    obtain ⟨_,rfl,rfl⟩ := hfin.resolve_right (fun h => absurd h.1 (Nat.lt_irrefl _))
    exact ⟨rfl,_,_,_,_,_,_,_,_,rfl,rfl,.inr (.inr ⟨_,_,_,.eof,_,_,wr5,wr5,full5,.inl ⟨q + 4,rfl,rfl,by omega,hF⟩,⟨_,_,_,rfl⟩,hW,⟨_,_,_,_,_,_,_,rfl⟩,hR2,.inr rfl⟩)⟩
 refine C.skip ?_
 refine C.sr ?_
 refine E.pure (S.move rfl) rfl ?_
 refine E.pure (S.move rfl) rfl ?_
 refine E.pure (S.nilPtr rfl) rfl ?_
 refine E.pure (S.field rfl fa153_18) rfl ?_
 refine E.loud0 (X.store 4 (k := 7) rfl rfl rfl rfl rfl Tryd.sizeOf3) ?_; rintro _ _ ⟨rfl,rfl⟩; refine E.relist (L2 := [_,_,_,_,_,_,_,_]) rfl ?_
 refine E.kp [(0,_),(2,_),(3,_),(4,_),(5,_),(33,_),(72,_),(82,_)] rfl ?_
 refine C.region ?_
 refine E.pure (S.move rfl) rfl ?_
 have hst : storedN dt q = some (b0.toNat + 256 * b1.toNat) := by rw [storedN,if_neg (by omega),if_pos (by rw [e0,e1,e2,e3]; omega),e0,e1]
 have hR2 : R = stored dt last (b0.toNat + 256 * b1.toNat) out (q + 4) := by rw [hR,storR,hst]
 refine E.loud1 (OpX.pick [0,0,0,0,0,0,0] (F := [_]) rfl (X.call rfl Tryd.call79 (copyData_spec hs src dt fb hb R gv last hlv hdv stp a0 c0 trv htr f1 f2 f3 (q + 4) _ out h wr rd full ss _ cd hF (by omega) H hrd hwr hsum (hss.imp id fun h => ⟨h.1,h.2.2.1,h.2.2.2⟩) (by omega) hR2))) rfl ?_; rintro _ _ ⟨_,⟨rfl,y1,y2,y3,Ay,Ty,Wy,Hy,rfl,hC⟩,rfl⟩; refine E.relist (L2 := [_,_,_,_,_,_,_,_]) rfl ?_
 refine E.kp [(0,_),(2,_),(3,_),(4,_),(5,_),(33,_),(72,_),(82,_)] rfl ?_
 have hst : storedN dt q = some (b0.toNat + 256 * b1.toNat) := by rw [storedN,if_neg (by omega),if_pos (by rw [e0,e1,e2,e3]; omega),e0,e1]
 have hR2 : R = stored dt last (b0.toNat + 256 * b1.toNat) out (q + 4) := by rw [hR,storR,hst]
 rcases hC with ⟨pend,q5,h1,h2⟩ | ⟨p2,h1,h2⟩ | ⟨pend,h2⟩
 · exact ⟨rfl,_,_,_,_,_,_,_,_,rfl,rfl,.inl ⟨pend,q5,h1,h2⟩⟩
 · exact ⟨rfl,_,_,_,_,_,_,_,_,rfl,rfl,.inr (.inl ⟨[],p2,by omega,h2⟩)⟩
 · exact ⟨rfl,_,_,_,_,_,_,_,_,rfl,rfl,.inr (.inr ⟨pend,h2⟩)⟩
end Go.Eng
namespace Go.Eng
open Go Go.Proofs
set_option maxRecDepth 100000

section
variable {D : List UInt8} {cl acc : List Nat} {n p x : Nat}
theorem lensGo_done (h : n ≤ acc.length) : lensGo D cl n acc p = some (acc,p) := by rw [lensGo,dif_neg (by omega)]
theorem lensGo_none (h : acc.length < n) (hs : symR cl (minL cl) D p = none) : lensGo D cl n acc p = none := by rw [lensGo,dif_pos h]; simp only [hs]
theorem lensGo_lit (h : acc.length < n) (hs : symR cl (minL cl) D p = some x) (hx : x < 16) : lensGo D cl n acc p = lensGo D cl n (acc ++ [x]) (p + lenOf cl x) := by
  rw [lensGo,dif_pos h]; simp only [hs]; rw [if_pos hx]
theorem lensGo_empty (h : acc.length < n) (hs : symR cl (minL cl) D p = some 16) (h0 : acc = []) : lensGo D cl n acc p = none := by
  rw [lensGo,dif_pos h]; simp only [hs]
  rw [if_neg (by decide),if_pos ⟨trivial,h0⟩]
theorem lensGo_short (h : acc.length < n) (hs : symR cl (minL cl) D p = some x) (hx : 16 ≤ x) (h0 : ¬ (x = 16 ∧ acc = [])) (hl : left D (p + lenOf cl x) < repN x) : lensGo D cl n acc p = none := by
  rw [lensGo,dif_pos h]; simp only [hs]
  rw [if_neg (by omega),if_neg h0,if_pos hl]
theorem lensGo_over (h : acc.length < n) (hs : symR cl (minL cl) D p = some x) (hx : 16 ≤ x) (h0 : ¬ (x = 16 ∧ acc = [])) (hl : ¬ left D (p + lenOf cl x) < repN x) (ho : n < acc.length + (repB x + takeB D (p + lenOf cl x) (repN x))) : lensGo D cl n acc p = none := by
  rw [lensGo,dif_pos h]; simp only [hs]
  rw [if_neg (by omega),if_neg h0,if_neg hl,dif_pos ho]
theorem lensGo_rep (h : acc.length < n) (hs : symR cl (minL cl) D p = some x) (hx : 16 ≤ x) (h0 : ¬ (x = 16 ∧ acc = [])) (hl : ¬ left D (p + lenOf cl x) < repN x) (ho : ¬ n < acc.length + (repB x + takeB D (p + lenOf cl x) (repN x))) :
    lensGo D cl n acc p = lensGo D cl n (acc ++ List.replicate (repB x + takeB D (p + lenOf cl x) (repN x)) (if x = 16 then acc.getLastD 0 else 0)) (p + lenOf cl x + repN x) := by
  rw [lensGo,dif_pos h]; simp only [hs]
  rw [if_neg (by omega),if_neg h0,if_neg hl,dif_neg ho]
end

def clv (D : List UInt8) (p k s : Nat) : Nat := if ordL.idxOf s < k then takeB D (p + 3 * ordL.idxOf s) 3 else 0
/-- What the lengths of the code of lengths hold when i of them are told. -/
structure CbOk (D : List UInt8) (p k i : Nat) (cs : List Value) : Prop where
  len : cs.length = 19
  at_ : ∀ s,s < 19 → ordL.idxOf s < i → cs[s]? = some (.int .i64 ((clv D p k s : Nat) : Int))
theorem ord_idx : ∀ i,i < 19 → ordL.idxOf (ordL.getD i 0) = i ∧ ordL.getD i 0 < 19 := by decide
theorem idx_ord : ∀ s,s < 19 → ordL.getD (ordL.idxOf s) 0 = s ∧ ordL.idxOf s < 19 := by decide
theorem CbOk.next {D : List UInt8} {p k i v : Nat} {cs : List Value} (h : CbOk D p k i cs) (hi : i < 19) (hv : clv D p k (ordL.getD i 0) = v) : CbOk D p k (i + 1) (cs.set (ordL.getD i 0 * 1) (.int .i64 ((v : Nat) : Int))) := by
  refine ⟨by rw [List.length_set]; exact h.len,fun s hs hsi => ?_⟩
  rw [Nat.mul_one,List.getElem?_set]
  have ho := ord_idx i hi
  have hx := idx_ord s hs
  split
  · rename_i e
    rw [if_pos (by rw [h.len]; exact ho.2),← e,hv]
  · rename_i e
    refine h.at_ s hs ?_
    rcases Nat.lt_or_ge (ordL.idxOf s) i with h1 | h1
    · exact h1
    · have : ordL.idxOf s = i := by omega
      rw [this] at hx
      exact absurd hx.1 e
theorem CbOk.full {D : List UInt8} {p k : Nat} {cs : List Value} (h : CbOk D p k 19 cs) : cs = intsV (clL D p k) ++ [] := by
  rw [List.append_nil]
  apply List.ext_getElem?
  intro s
  rcases Nat.lt_or_ge s 19 with hs | hs
  · rw [h.at_ s hs (idx_ord s hs).2,intsV,clL,List.map_map,List.getElem?_map,List.getElem?_range hs]; rfl
  · rw [List.getElem?_eq_none (by rw [h.len]; exact hs),List.getElem?_eq_none (by rw [intsV_length,clL,List.length_map,List.length_range]; exact hs)]
theorem clL_len (D : List UInt8) (p k : Nat) : (clL D p k).length = 19 := by simp [clL]
theorem clL_le (D : List UInt8) (p k : Nat) : ∀ x ∈ clL D p k,x ≤ 15 := by
  intro x hx
  obtain ⟨s,_,rfl⟩ := List.mem_map.1 hx
  split
  · have := takeB_lt D (p + 3 * ordL.idxOf s) 3
    omega
  · omega

/-! ### Why there is no code -/
section
variable {D : List UInt8} {p : Nat}
theorem dynR_14 (h : left D p < 14) : dynR D p = none := by unfold dynR; rw [if_pos h]
theorem dynR_286 (h : ¬ left D p < 14) (h1 : 286 < takeB D p 5 + 257) : dynR D p = none := by unfold dynR; rw [if_neg h,if_pos h1]
theorem dynR_30 (h : ¬ left D p < 14) (h1 : ¬ 286 < takeB D p 5 + 257) (h2 : 30 < takeB D (p + 5) 5 + 1) : dynR D p = none := by unfold dynR; rw [if_neg h,if_neg h1,if_pos h2]
theorem dynR_cl (h : ¬ left D p < 14) (h1 : ¬ 286 < takeB D p 5 + 257) (h2 : ¬ 30 < takeB D (p + 5) 5 + 1) (h3 : left D (p + 14) < 3 * (takeB D (p + 10) 4 + 4)) : dynR D p = none := by unfold dynR; rw [if_neg h,if_neg h1,if_neg h2,if_pos h3]
theorem dynR_eq (h : ¬ left D p < 14) (h1 : ¬ 286 < takeB D p 5 + 257) (h2 : ¬ 30 < takeB D (p + 5) 5 + 1) (h3 : ¬ left D (p + 14) < 3 * (takeB D (p + 10) 4 + 4)) : dynR D p =
    if ¬ okLens (clL D (p + 14) (takeB D (p + 10) 4 + 4)) then none
    else match lensGo D (clL D (p + 14) (takeB D (p + 10) 4 + 4)) (takeB D p 5 + 257 + (takeB D (p + 5) 5 + 1)) [] (p + 14 + 3 * (takeB D (p + 10) 4 + 4)) with
      | none => none
      | some (all,p2) => if okLens (all.take (takeB D p 5 + 257)) ∧ okLens (all.drop (takeB D p 5 + 257)) then some (⟨all.take (takeB D p 5 + 257),max (minL (all.take (takeB D p 5 + 257))) (all.getD 256 0),all.drop (takeB D p 5 + 257)⟩,p2) else none := by
  conv => lhs; unfold dynR
  rw [if_neg h,if_neg h1,if_neg h2,if_neg h3]
  rfl
end
end Go.Eng
namespace Go.Eng
open Go Go.Proofs
set_option maxRecDepth 100000

set_option maxHeartbeats 2000000
section
variable {P : Program} {H0 : Known} {n : Nat} {ops : Array Oper} {ds : List Nat}
/-- A guarded call whose guard says no. -/
theorem O.skip {i j : Nat} {b : Bool} {dst : Option Nat} {op : Op} {ty : TypeId} {pos : String} {af : Array Edge} {r : Plan} {env : Env} {L : Frags} {N : Post} (t : Nat) (c : Bool)
    (hi : ops[i]? = some ⟨dst,op,ty,pos,af,some (j,b)⟩) (ht : (ops[j]?).bind (·.dst) = some t) (hv : get? env t = some (.bool c)) (hc : c = !b) (hd : dstOk dst n = true)
    (k : wpD P H0 n ops ds r (ext dst undef env) L N) : wpO P H0 n ops ds i r env L N := by
  intro fuel listed l hrep hds hp hsel a w hf hw Nw hq
  have hy := yielded_of (ops := ops) hf ht hv
  have hne : (some c == some b) = false := by subst hc; cases b <;> rfl
  unfold wpOp
  simp only [hi,Region.wanted,hy,hne]
  exact ⟨hw.base,k fuel _ _ hrep hds hp hsel _ w (hf.ext hd undef) hw Nw hq⟩
end

/-- How a decoder is after its making. -/
def HufE (lens : List Nat) (hb o : Nat) (ok : Bool) (LH : Frags) : Prop := (ok = true ∧ okLens lens ∧ HufT lens (minL lens) hb o LH) ∨ (ok = false ∧ ¬ okLens lens ∧ ∃ hz,hz.length = 515 ∧ LH = [⟨hb,o,hz⟩])
theorem init_in {K : Known} (hb o vb vo vc : Nat) (cs vs : List Value) (lens : List Nat) (hraw : RawH cs) (h15 : ∀ x ∈ lens,x ≤ 15) (hll : lens.length ≤ 320) (G : Frags) :
    Fn Tryd.prog K 80 #[.pointer (some ⟨hb,o,none⟩),.slice (some ⟨vb,vo,none⟩) lens.length vc] (⟨hb,o,cs⟩::⟨vb,vo,intsV lens ++ vs⟩::G)
      fun r L => ∃ LH ok,r = .bool ok ∧ HufE lens hb o ok LH ∧ L = ⟨vb,vo,intsV lens ++ vs⟩::(G ++ LH) := by
  obtain ⟨mn0,rest,rfl,hl,hz⟩ := hraw
  refine Fn.lose (Fn.frame (F := G) (init_walk hb o vb vo vc mn0 rest vs lens hl hz h15 hll)) ?_
  rintro v L ⟨L1,hI,rfl⟩
  have pm : ∀ (A J : Frags) (x : Frag),(G ++ ((x::A) ++ J)).Perm ((x::(G ++ A)) ++ J) := fun A J x => by
    rw [← List.append_assoc]
    exact (List.perm_middle).append_right J
  rcases hI with ⟨hok,rfl,LH,J,hH,hS⟩ | ⟨hno,rfl,hz,J,hlen,hS⟩
  · exact ⟨_,J,(Same.perm List.perm_append_comm).trans ((Same.appendL G hS).trans (Same.perm (pm LH J _))),LH,true,rfl,.inl ⟨rfl,hok,hH⟩,rfl⟩
  · exact ⟨_,J,(Same.perm List.perm_append_comm).trans ((Same.appendL G hS).trans (Same.perm (pm _ J _))),_,false,rfl,.inr ⟨rfl,hno,hz,hlen,rfl⟩,rfl⟩
/-- The order in which the lengths of the code of lengths are told,as the program's own memory has it. -/
structure Codes (K : Known) : Prop where
  cell : ∀ i,i < 19 → cellAt K 5 (0 + i * 1) = some (.int .i64 ((ordL.getD i 0 : Nat) : Int))

theorem left_add (D : List UInt8) (p n : Nat) : left D (p + n) = left D p - n := by unfold left; omega
/-- How readHuffman ends. -/
def RhR {K : Known} {ea : Fin 5 → Addr} (src : Src K ea) (dt : List UInt8) (fb ab cb p : Nat) (s0 s1 s2 s3 s4 s5 s6 s7 s8 : Value) (r : Value) (L : Frags) : Prop :=
  ∃ e y1 y2 y3 a b c ev av cs J,r = Er.val ea e ∧ av.length = 316 ∧ cs.length = 19 ∧
    L = y1::y2::y3::⟨fb,0,[.iface src.t src.v,.pointer none,a,b,c]⟩::⟨fb,1045,[s0,s1,s2,ev,s4,s5,s6,s7,s8]⟩::⟨fb,1035,[.pointer (some ⟨ab,0,none⟩),.pointer (some ⟨cb,0,none⟩)]⟩::⟨ab,0,av⟩::⟨cb,0,cs⟩::J ∧
    ((e = .none ∧ ∃ t p2 q2 b2 nb2 ro2 HL HD,dynR dt p = some (t,p2) ∧ src.At (dt.drop q2) y1 y2 y3 ∧ BitsIn dt p2 q2 b2 nb2 ∧ nb2 < 8 ∧ LitT t fb 5 HL ∧ DistT t (some ⟨fb,520,none⟩) HD ∧ a = .int .i64 ro2 ∧ b = .int .u32 ((b2 : Nat) : Int) ∧ c = .int .u64 ((nb2 : Nat) : Int) ∧ ev = s3 ∧ J = HL ++ HD) ∨
     (Bad5 e ∧ dynR dt p = none ∧ (∃ l,src.At l y1 y2 y3) ∧ ∃ h1 h2,h1.length = 515 ∧ h2.length = 515 ∧ J = [⟨fb,5,h1⟩,⟨fb,520,h2⟩]))
theorem raw_len {cs : List Value} (h : RawH cs) : cs.length = 515 := by
  obtain ⟨m,r,rfl,h1,_⟩ := h
  rw [List.length_cons,h1]

theorem le_lenOf {l : List Nat} (h : ∀ x ∈ l,x ≤ 15) (s : Nat) : lenOf l s ≤ 15 := by
  rcases Nat.lt_or_ge s l.length with h1 | h1
  · rw [lenOf_get h1]; exact h _ (List.getElem_mem h1)
  · rw [lenOf,List.getD_eq_getElem?_getD,List.getElem?_eq_none h1]; decide
theorem acc_set {acc : List Nat} {rest : List Value} (v : Nat) (h : 0 < rest.length) : (intsV acc ++ rest).set (acc.length * 1) (.int .i64 ((v : Nat) : Int)) = intsV (acc ++ [v]) ++ rest.drop 1 := by
  match rest,h with
  | r::rs,_ =>
    rw [Nat.mul_one,List.set_append_right _ _ (by rw [intsV_length]; exact Nat.le_refl _),intsV_length,Nat.sub_self]
    simp [intsV]
theorem last_get {acc : List Nat} {rest : List Value} (h : acc ≠ []) : (intsV acc ++ rest)[(acc.length - 1) * 1]? = some (.int .i64 ((acc.getLastD 0 : Nat) : Int)) := by
  have hl : 0 < acc.length := List.length_pos_iff.2 h
  rw [intsV_get (by omega),List.getLastD_eq_getLast?,List.getLast?_eq_getElem?,List.getElem?_eq_getElem (by omega)]; rfl
theorem get_256 {acc : List Nat} {rest : List Value} (h : 256 < acc.length) : (intsV acc ++ rest)[256 * 1]? = some (.int .i64 ((acc.getD 256 0 : Nat) : Int)) := by
  rw [intsV_get h,List.getD_eq_getElem?_getD,List.getElem?_eq_getElem h]; rfl
theorem last_le {acc : List Nat} (h : ∀ x ∈ acc,x ≤ 15) (v : Nat) : (if v = 16 then acc.getLastD 0 else 0) ≤ 15 := by
  split
  · rw [List.getLastD_eq_getLast?]
    cases hg : acc.getLast? with
    | none => exact Nat.zero_le _
    | some x => exact h x (List.mem_of_getLast? hg)
  · omega
theorem rep_set {acc : List Nat} {rest : List Value} {j bv : Nat} (h : 0 < (rest.drop j).length) : (intsV (acc ++ List.replicate j bv) ++ rest.drop j).set ((acc.length + j) * 1) (.int .i64 ((bv : Nat) : Int)) = intsV (acc ++ List.replicate (j + 1) bv) ++ rest.drop (j + 1) := by
  have e : acc.length + j = (acc ++ List.replicate j bv).length := by rw [List.length_append,List.length_replicate]
  rw [e,acc_set bv h,List.drop_drop,List.append_assoc,← List.replicate_succ']
theorem rep_facts {v : Nat} (h : 16 ≤ v) : repN v ≤ 7 ∧ repB v ≤ 11 := ⟨by unfold repN; split; omega; split <;> omega,by unfold repB; split <;> omega⟩
theorem same_raw {lens : List Nat} {mn hb o : Nat} {LC : Frags} (h : HufT lens mn hb o LC) (G : Frags) : ∃ cs J,RawH cs ∧ Same (G ++ LC) ((⟨hb,o,cs⟩::G) ++ J) := by
  obtain ⟨cs,J,hr,hs⟩ := huf_raw h
  exact ⟨cs,J,hr,(Same.perm List.perm_append_comm).trans ((hs G).trans (Same.perm (.cons _ List.perm_append_comm)))⟩
theorem rh_bad2 {K : Known} {ea : Fin 5 → Addr} {src : Src K ea} {dt : List UInt8} {fb ab cb p : Nat} {s0 s1 s2 s3 s4 s5 s6 s7 s8 : Value} {e : Er} {y1 y2 y3 : Frag} {a b c ev : Value} {av cs cs2 : List Value} {LC : Frags} {lens : List Nat} {mn : Nat} {l : List UInt8}
    (hC : HufT lens mn fb 5 LC) (h5 : Bad5 e) (hd : dynR dt p = none) (hA : src.At l y1 y2 y3) (h1 : av.length = 316) (h2 : cs.length = 19) (h3 : cs2.length = 515) :
    ∃ L1 J,Same (y1::y2::y3::⟨fb,0,[.iface src.t src.v,.pointer none,a,b,c]⟩::⟨fb,1045,[s0,s1,s2,ev,s4,s5,s6,s7,s8]⟩::⟨fb,1035,[.pointer (some ⟨ab,0,none⟩),.pointer (some ⟨cb,0,none⟩)]⟩::⟨ab,0,av⟩::⟨cb,0,cs⟩::⟨fb,520,cs2⟩::LC) (L1 ++ J) ∧ RhR src dt fb ab cb p s0 s1 s2 s3 s4 s5 s6 s7 s8 (Er.val ea e) L1 := by
  obtain ⟨h1c,J,hr,hs⟩ := huf_raw hC
  refine ⟨_,J,?_,e,y1,y2,y3,a,b,c,ev,av,cs,_,rfl,h1,h2,rfl,.inr ⟨h5,hd,⟨l,hA⟩,h1c,cs2,raw_len hr,h3,rfl⟩⟩
  have q : ∀ G : Frags,Same (G ++ (⟨fb,520,cs2⟩::LC)) ((G ++ [⟨fb,5,h1c⟩,⟨fb,520,cs2⟩]) ++ J) := fun G => by
    have s1 := hs [⟨fb,520,cs2⟩]
    have s2 := Same.appendL G ((Same.perm (List.perm_append_comm (l₁ := [⟨fb,520,cs2⟩]) (l₂ := LC))).trans s1)
    refine s2.trans (Same.perm ?_)
    rw [List.append_assoc]
    refine List.Perm.append_left G (.cons _ ?_)
    exact List.perm_append_comm
  exact q [y1,y2,y3,⟨fb,0,[.iface src.t src.v,.pointer none,a,b,c]⟩,⟨fb,1045,[s0,s1,s2,ev,s4,s5,s6,s7,s8]⟩,⟨fb,1035,[.pointer (some ⟨ab,0,none⟩),.pointer (some ⟨cb,0,none⟩)]⟩,⟨ab,0,av⟩,⟨cb,0,cs⟩]
theorem rh_bad3 {K : Known} {ea : Fin 5 → Addr} {src : Src K ea} {dt : List UInt8} {fb ab cb p : Nat} {s0 s1 s2 s3 s4 s5 s6 s7 s8 : Value} {e : Er} {y1 y2 y3 : Frag} {a b c ev : Value} {av cs hz : List Value} {LC : Frags} {lens : List Nat} {mn : Nat} {l : List UInt8}
    (hC : HufT lens mn fb 5 LC) (h5 : Bad5 e) (hd : dynR dt p = none) (hA : src.At l y1 y2 y3) (h1 : av.length = 316) (h2 : cs.length = 19) (h3 : hz.length = 515) :
    ∃ L1 J,Same (⟨ab,0,av⟩::y1::y2::y3::⟨fb,0,[.iface src.t src.v,.pointer none,a,b,c]⟩::⟨fb,1045,[s0,s1,s2,ev,s4,s5,s6,s7,s8]⟩::⟨fb,1035,[.pointer (some ⟨ab,0,none⟩),.pointer (some ⟨cb,0,none⟩)]⟩::⟨cb,0,cs⟩::(LC ++ [⟨fb,520,hz⟩])) (L1 ++ J) ∧ RhR src dt fb ab cb p s0 s1 s2 s3 s4 s5 s6 s7 s8 (Er.val ea e) L1 := by
  obtain ⟨L1,J,hs,hr⟩ := rh_bad2 (s0 := s0) (s1 := s1) (s2 := s2) (s3 := s3) (s4 := s4) (s5 := s5) (s6 := s6) (s7 := s7) (s8 := s8) (ev := ev) (a := a) (b := b) (c := c) (ab := ab) (cb := cb) hC h5 hd hA h1 h2 h3
  refine ⟨L1,J,Same.trans (Same.perm ?_) hs,hr⟩
  refine (List.perm_middle (l₁ := [y1,y2,y3,_,_,_]) (l₂ := _::(LC ++ [_]))).symm.trans ?_
  refine .cons _ (.cons _ (.cons _ (.cons _ (.cons _ (.cons _ (.cons _ (.cons _ ?_)))))))
  exact List.perm_append_comm (l₂ := [_])

theorem readHuffman_walk {K : Known} {ea : Fin 5 → Addr} (hs : Sents K ea) (hc : Codes K) (src : Src K ea) (dt : List UInt8) (fb ab cb : Nat) (s0 s1 s2 s3 s4 s5 s6 s7 s8 : Value) (x1 x2 x3 : Frag) (p q b nb : Nat) (ro : Int) (av cs cs1 cs2 : List Value) (hasl : av.length = 316) (hcsl : cs.length = 19) (hraw1 : RawH cs1) (hraw2 : RawH cs2) (hA : src.At (dt.drop q) x1 x2 x3) (hB : BitsIn dt p q b nb) (hnb : nb < 8) : Fn Tryd.prog K 75 #[.pointer (some ⟨fb,0,none⟩)] ([x1,x2,x3,⟨fb,0,[.iface src.t src.v,.pointer none,.int .i64 (ro),.int .u32 (((b) : Nat) : Int),.int .u64 (((nb) : Nat) : Int)]⟩,⟨fb,1045,[s0,s1,s2,s3,s4,s5,s6,s7,s8]⟩,⟨fb,1035,[.pointer (some ⟨ab,0,none⟩),.pointer (some ⟨cb,0,none⟩)]⟩,⟨ab,0,av⟩,⟨cb,0,cs⟩,⟨fb,5,cs1⟩,⟨fb,520,cs2⟩]) (fun r L => ∃ L1 J,Same L (L1 ++ J) ∧ RhR src dt fb ab cb p s0 s1 s2 s3 s4 s5 s6 s7 s8 r L1) := by
 refine Fn.intro (args := [.pointer (some ⟨fb,0,none⟩)]) (RR := Ret1 2 _) Tryd.func75 rfl rfl Tryd.ntmps75 (res1 Tryd.results75) ?_
 refine C.reenv (env2 := [(0,.pointer (some ⟨fb,0,none⟩))]) rfl ?_
 refine C.sr ?_
 refine E.pure (S.assign (v := Er.val ea .none) rfl) rfl ?_
 refine E.kp [(0,_),(2,_)] rfl ?_
 refine C.seq ?_
 refine C.block ?_
 refine C.loop (fun mm ee ll => ∃ (q : Nat),∃ (b : Nat),∃ (nb : Nat),∃ (ro : Int),∃ (g1 : Frag),∃ (g2 : Frag),∃ (g3 : Frag),keeps ee [0] = some [(0,.pointer (some ⟨fb,0,none⟩))] ∧ ll = [g1,g2,g3,⟨fb,0,[.iface src.t src.v,.pointer none,.int .i64 (ro),.int .u32 (((b) : Nat) : Int),.int .u64 (((nb) : Nat) : Int)]⟩,⟨fb,1045,[s0,s1,s2,s3,s4,s5,s6,s7,s8]⟩,⟨fb,1035,[.pointer (some ⟨ab,0,none⟩),.pointer (some ⟨cb,0,none⟩)]⟩,⟨ab,0,av⟩,⟨cb,0,cs⟩,⟨fb,5,cs1⟩,⟨fb,520,cs2⟩] ∧ (src.At (dt.drop q) g1 g2 g3) ∧ (BitsIn dt (p) q b nb) ∧ (nb < 8 ∨ nb < 14 + 8) ∧ mm = 14 - nb) (_) ⟨q,b,nb,ro,x1,x2,x3,rfl,rfl,hA,hB,.inl hnb,rfl⟩ ?_
 rintro m0 _ _ ⟨q,b,nb,ro,g1,g2,g3,hk0,rfl,hA,hB,hnl,hm0⟩
 refine C.weaken _ hk0 ?_
 refine C.seq ?_
 refine C.sr ?_
 refine E.pure (S.move rfl) rfl ?_
 refine E.pure (S.nilPtr rfl) rfl ?_
 refine E.pure (S.field rfl fa153_4) rfl ?_
 refine E.still (S.load 3 (k := 4) rfl rfl rfl Tryd.isAgg92) rfl ?_
 refine E.pure (S.lt (b := ((14 : Nat) : Int)) rfl rfl) rfl ?_
 refine E.kp [(0,_),(23,_)] rfl ?_
 refine C.ifp rfl (fun h23 => ?_) (fun h23 => ?_)
 ·
  refine C.skip ?_
  refine C.block ?_
  refine C.sr ?_
  refine E.pure (S.move rfl) rfl ?_
  refine E.loud1 (OpX.pick [0,0,0,0] (F := [_,_,_,_,_,_]) rfl (X.call rfl Tryd.call71 (moreBits_e hs src _ _ _ fb _ dt _ _ _ _ hA hB (by omega)))) rfl ?_; rintro _ _ ⟨_,⟨k1,k2,k3,e4,b4,nb4,ro4,rfl,rfl,hE4⟩,rfl⟩; refine E.relist (L2 := [_,_,_,_,_,_,_,_,_,_]) rfl ?_
  refine E.perml [0,0,0,0,0,0,0,0,0,0] rfl ?_
  refine E.relist (L2 := [_,_,_,_,_,_,_,_,_,_]) rfl ?_
  refine E.pure (S.assign rfl) rfl ?_
  refine E.kp [(0,_),(3,_),(23,_)] rfl ?_
  refine C.sr ?_
  refine E.pure (S.move rfl) rfl ?_
  refine E.still (S.neErNil rfl) rfl ?_
  refine E.kp [(0,_),(3,_),(23,_),(27,_)] rfl ?_
  first | refine C.ifp rfl (fun h27 => ?_) (fun h27 => ?_) | refine C.ifNone rfl (fun h27 => ?_) (fun h27 => ?_) | refine C.ifSome rfl (fun h27 => ?_) (fun h27 => ?_) | refine C.ifSe rfl (fun h27 => ?_) (fun h27 => ?_) | refine C.ifNotSe rfl (fun h27 => ?_) (fun h27 => ?_) | refine C.cond rfl (fun h27 => ?_) (fun h27 => ?_)
  ·
   obtain ⟨hb5,hqe,lx,hAx⟩ := hE4.resolve_left fun h => h27 h.1
   have hle := hB.left_eq
   refine C.sr ?_
   refine E.pure (S.move rfl) rfl ?_
   refine E.pure (S.assign rfl) rfl ?_
   refine E.kp [(0,_),(2,_),(3,_),(23,_),(27,_)] rfl ?_
   refine C.ret ?_
   refine ⟨_,rfl,_,[],Same.of_eq (List.append_nil _).symm,_,_,_,_,_,_,_,_,_,_,_,rfl,hasl,?_,rfl,.inr ⟨hb5,dynR_14 (by omega),⟨_,hAx⟩,cs1,cs2,raw_len hraw1,raw_len hraw2,rfl⟩⟩
   exact hcsl
  obtain ⟨_,hA4,hB4,hn4⟩ := hE4.resolve_right fun h => h.1.2 h27
  subst hn4
  refine C.skip ?_
  refine ⟨_,?_,_,_,_,_,_,_,_,rfl,rfl,hA4,hB4,.inr (by omega),rfl⟩; omega
 have hn14 : 14 ≤ nb := by omega
 have hb2 := hB.lt32 (by omega)
 have hle := hB.left_eq
 have h14 : ¬ left dt p < 14 := by omega
 have hB5 := hB.take (n := 5) (by omega)
 have hB10 := hB5.2.take (n := 5) (by omega)
 have hB14 := (hB10.2.take (n := 4) (by omega)).2
 have t5 := takeB_lt dt p 5
 have t10 := takeB_lt dt (p + 5) 5
 have t14 := takeB_lt dt (p + 10) 4
 refine C.exit rfl ?_
 refine C.sr ?_
 refine E.pure (S.move rfl) rfl ?_
 refine E.pure (S.nilPtr rfl) rfl ?_
 refine E.pure (S.field rfl fa153_3) rfl ?_
 refine E.still (S.load 3 (k := 3) rfl rfl rfl Tryd.isAgg52) rfl ?_
 refine E.pure (S.and (b := ((31 : Nat) : Int)) rfl rfl (N.and_u32 (by omega) (by omega))) rfl ?_
 refine E.reslot (v := .int .u32 ((takeB dt p 5 : Nat) : Int)) (congrArg (fun y : Nat => Value.int .u32 (y : Int)) (by exact mask_take (n := 5) hB (by omega))) ?_
 refine E.pure (S.conv rfl Tryd.underlying52 Tryd.underlying3 (N.i64n (by omega))) rfl ?_
 refine E.pure (S.add (b := ((257 : Nat) : Int)) rfl rfl (N.add64 (by omega))) rfl ?_
 refine E.pure (S.assign rfl) rfl ?_
 refine E.kp [(0,_),(4,_),(23,_)] rfl ?_
 refine C.seq ?_
 refine C.sr ?_
 refine E.pure (S.move rfl) rfl ?_
 refine E.pure (S.gt (b := ((286 : Nat) : Int)) rfl rfl) rfl ?_
 refine E.kp [(0,_),(4,_),(23,_),(37,_)] rfl ?_
 refine C.ifp rfl (fun h37 => ?_) (fun h37 => ?_)
 ·
  refine C.sr ?_
  refine E.pure (S.move rfl) rfl ?_
  refine E.pure (S.nilPtr rfl) rfl ?_
  refine E.pure (S.field rfl fa153_2) rfl ?_
  refine E.still (S.load 3 (k := 2) rfl rfl rfl Tryd.isAgg2) rfl ?_
  refine E.pure (S.mkIface rfl conc165) rfl ?_
  refine E.reslot (v := Er.val ea (.corrupt _)) (rfl) ?_
  refine E.pure (S.assign rfl) rfl ?_
  refine E.kp [(0,_),(2,_),(4,_),(23,_),(37,_)] rfl ?_
  refine C.ret ?_
  refine ⟨_,rfl,_,[],Same.of_eq (List.append_nil _).symm,_,_,_,_,_,_,_,_,_,_,_,rfl,hasl,?_,rfl,.inr ⟨bad_corrupt _,dynR_286 h14 (by omega),⟨_,hA⟩,cs1,cs2,raw_len hraw1,raw_len hraw2,rfl⟩⟩
  exact hcsl
 have h286 : ¬ 286 < takeB dt p 5 + 257 := by omega
 refine C.skip ?_
 refine C.sr ?_
 refine E.pure (S.move rfl) rfl ?_
 refine E.pure (S.nilPtr rfl) rfl ?_
 refine E.pure (S.field rfl fa153_3) rfl ?_
 refine E.still (S.load 3 (k := 3) rfl rfl rfl Tryd.isAgg52) rfl ?_
 refine E.pure (S.shr (b := ((5 : Nat) : Int)) rfl rfl (by omega) (N.shr_u32 (by omega) _)) rfl ?_
 refine E.reslot (v := .int .u32 ((b / 2 ^ 5 : Nat) : Int)) (congrArg (fun y : Nat => Value.int .u32 (y : Int)) (by rw [Nat.shiftRight_eq_div_pow])) ?_
 refine E.pure (S.nilPtr rfl) rfl ?_
 refine E.pure (S.field rfl fa153_3) rfl ?_
 refine E.loud0 (X.store 3 (k := 3) rfl rfl rfl rfl rfl Tryd.sizeOf52) ?_; rintro _ _ ⟨rfl,rfl⟩; refine E.relist (L2 := [_,_,_,_,_,_,_,_,_,_]) rfl ?_
 refine E.kp [(0,_),(4,_),(23,_),(37,_)] rfl ?_
 refine C.sr ?_
 refine E.pure (S.move rfl) rfl ?_
 refine E.pure (S.nilPtr rfl) rfl ?_
 refine E.pure (S.field rfl fa153_3) rfl ?_
 refine E.still (S.load 3 (k := 3) rfl rfl rfl Tryd.isAgg52) rfl ?_
 refine E.pure (S.and (b := ((31 : Nat) : Int)) rfl rfl (N.and_u32 (by omega) (by omega))) rfl ?_
 refine E.reslot (v := .int .u32 ((takeB dt (p + 5) 5 : Nat) : Int)) (congrArg (fun y : Nat => Value.int .u32 (y : Int)) (by exact mask_take (n := 5) hB5.2 (by omega))) ?_
 refine E.pure (S.conv rfl Tryd.underlying52 Tryd.underlying3 (N.i64n (by omega))) rfl ?_
 refine E.pure (S.add (b := ((1 : Nat) : Int)) rfl rfl (N.add64 (by omega))) rfl ?_
 refine E.pure (S.assign rfl) rfl ?_
 refine E.kp [(0,_),(4,_),(5,_),(23,_),(37,_)] rfl ?_
 refine C.seq ?_
 refine C.sr ?_
 refine E.pure (S.move rfl) rfl ?_
 refine E.pure (S.gt (b := ((30 : Nat) : Int)) rfl rfl) rfl ?_
 refine E.kp [(0,_),(4,_),(5,_),(23,_),(37,_),(58,_)] rfl ?_
 refine C.ifp rfl (fun h58 => ?_) (fun h58 => ?_)
 ·
  refine C.sr ?_
  refine E.pure (S.move rfl) rfl ?_
  refine E.pure (S.nilPtr rfl) rfl ?_
  refine E.pure (S.field rfl fa153_2) rfl ?_
  refine E.still (S.load 3 (k := 2) rfl rfl rfl Tryd.isAgg2) rfl ?_
  refine E.pure (S.mkIface rfl conc165) rfl ?_
  refine E.reslot (v := Er.val ea (.corrupt _)) (rfl) ?_
  refine E.pure (S.assign rfl) rfl ?_
  refine E.kp [(0,_),(2,_),(4,_),(5,_),(23,_),(37,_),(58,_)] rfl ?_
  refine C.ret ?_
  refine ⟨_,rfl,_,[],Same.of_eq (List.append_nil _).symm,_,_,_,_,_,_,_,_,_,_,_,rfl,hasl,?_,rfl,.inr ⟨bad_corrupt _,dynR_30 h14 h286 (by omega),⟨_,hA⟩,cs1,cs2,raw_len hraw1,raw_len hraw2,rfl⟩⟩
  exact hcsl
 have h30 : ¬ 30 < takeB dt (p + 5) 5 + 1 := by omega
 refine C.skip ?_
 refine C.sr ?_
 refine E.pure (S.move rfl) rfl ?_
 refine E.pure (S.nilPtr rfl) rfl ?_
 refine E.pure (S.field rfl fa153_3) rfl ?_
 refine E.still (S.load 3 (k := 3) rfl rfl rfl Tryd.isAgg52) rfl ?_
 refine E.pure (S.shr (b := ((5 : Nat) : Int)) rfl rfl (by omega) (N.shr_u32 (by omega) _)) rfl ?_
 refine E.reslot (v := .int .u32 ((b / 2 ^ 5 / 2 ^ 5 : Nat) : Int)) (congrArg (fun y : Nat => Value.int .u32 (y : Int)) (by rw [Nat.shiftRight_eq_div_pow])) ?_
 refine E.pure (S.nilPtr rfl) rfl ?_
 refine E.pure (S.field rfl fa153_3) rfl ?_
 refine E.loud0 (X.store 3 (k := 3) rfl rfl rfl rfl rfl Tryd.sizeOf52) ?_; rintro _ _ ⟨rfl,rfl⟩; refine E.relist (L2 := [_,_,_,_,_,_,_,_,_,_]) rfl ?_
 refine E.kp [(0,_),(4,_),(5,_),(23,_),(37,_),(58,_)] rfl ?_
 refine C.sr ?_
 refine E.pure (S.move rfl) rfl ?_
 refine E.pure (S.nilPtr rfl) rfl ?_
 refine E.pure (S.field rfl fa153_3) rfl ?_
 refine E.still (S.load 3 (k := 3) rfl rfl rfl Tryd.isAgg52) rfl ?_
 refine E.pure (S.and (b := ((15 : Nat) : Int)) rfl rfl (N.and_u32 (by omega) (by omega))) rfl ?_
 refine E.reslot (v := .int .u32 ((takeB dt (p + 10) 4 : Nat) : Int)) (congrArg (fun y : Nat => Value.int .u32 (y : Int)) (by exact mask_take (n := 4) hB10.2 (by omega))) ?_
 refine E.pure (S.conv rfl Tryd.underlying52 Tryd.underlying3 (N.i64n (by omega))) rfl ?_
 refine E.pure (S.add (b := ((4 : Nat) : Int)) rfl rfl (N.add64 (by omega))) rfl ?_
 refine E.pure (S.assign rfl) rfl ?_
 refine E.kp [(0,_),(4,_),(5,_),(6,_),(23,_),(37,_),(58,_)] rfl ?_
 refine C.sr ?_
 refine E.pure (S.move rfl) rfl ?_
 refine E.pure (S.nilPtr rfl) rfl ?_
 refine E.pure (S.field rfl fa153_3) rfl ?_
 refine E.still (S.load 3 (k := 3) rfl rfl rfl Tryd.isAgg52) rfl ?_
 refine E.pure (S.shr (b := ((4 : Nat) : Int)) rfl rfl (by omega) (N.shr_u32 (by omega) _)) rfl ?_
 refine E.reslot (v := .int .u32 ((b / 2 ^ 5 / 2 ^ 5 / 2 ^ 4 : Nat) : Int)) (congrArg (fun y : Nat => Value.int .u32 (y : Int)) (by rw [Nat.shiftRight_eq_div_pow])) ?_
 refine E.pure (S.nilPtr rfl) rfl ?_
 refine E.pure (S.field rfl fa153_3) rfl ?_
 refine E.loud0 (X.store 3 (k := 3) rfl rfl rfl rfl rfl Tryd.sizeOf52) ?_; rintro _ _ ⟨rfl,rfl⟩; refine E.relist (L2 := [_,_,_,_,_,_,_,_,_,_]) rfl ?_
 refine E.kp [(0,_),(4,_),(5,_),(6,_),(23,_),(37,_),(58,_)] rfl ?_
 refine C.sr ?_
 refine E.pure (S.move rfl) rfl ?_
 refine E.pure (S.nilPtr rfl) rfl ?_
 refine E.pure (S.field rfl fa153_4) rfl ?_
 refine E.still (S.load 3 (k := 4) rfl rfl rfl Tryd.isAgg92) rfl ?_
 refine E.pure (S.sub (b := ((14 : Nat) : Int)) rfl rfl (N.sub_u64 (by omega) (by omega))) rfl ?_
 refine E.reslot (v := .int .u64 ((nb - 5 - 5 - 4 : Nat) : Int)) (congrArg (fun y : Nat => Value.int .u64 (y : Int)) (by omega)) ?_
 refine E.pure (S.nilPtr rfl) rfl ?_
 refine E.pure (S.field rfl fa153_4) rfl ?_
 refine E.loud0 (X.store 3 (k := 4) rfl rfl rfl rfl rfl Tryd.sizeOf92) ?_; rintro _ _ ⟨rfl,rfl⟩; refine E.relist (L2 := [_,_,_,_,_,_,_,_,_,_]) rfl ?_
 refine E.kp [(0,_),(4,_),(5,_),(6,_),(23,_),(37,_),(58,_)] rfl ?_
 refine C.seq ?_
 refine C.sr ?_
 refine E.pure (S.assign rfl) rfl ?_
 refine E.kp [(0,_),(4,_),(5,_),(6,_),(7,_),(23,_),(37,_),(58,_)] rfl ?_
 refine C.block ?_
 refine C.loop (fun mm ee ll => ∃ (i : Nat),∃ (cs : List Value),∃ (q : Nat),∃ (b : Nat),∃ (nb : Nat),∃ (ro : Int),∃ (g1 : Frag),∃ (g2 : Frag),∃ (g3 : Frag),keeps ee [0,4,5,6,7] = some [(0,.pointer (some ⟨fb,0,none⟩)),(4,.int .i64 ((takeB dt p 5 + 257 : Nat) : Int)),(5,.int .i64 ((takeB dt (p + 5) 5 + 1 : Nat) : Int)),(6,.int .i64 ((takeB dt (p + 10) 4 + 4 : Nat) : Int)),(7,.int .i64 ((i : Nat) : Int))] ∧ ll = [g1,g2,g3,⟨fb,0,[.iface src.t src.v,.pointer none,.int .i64 (ro),.int .u32 (((b) : Nat) : Int),.int .u64 (((nb) : Nat) : Int)]⟩,⟨fb,1045,[s0,s1,s2,s3,s4,s5,s6,s7,s8]⟩,⟨fb,1035,[.pointer (some ⟨ab,0,none⟩),.pointer (some ⟨cb,0,none⟩)]⟩,⟨ab,0,av⟩,⟨cb,0,cs⟩,⟨fb,5,cs1⟩,⟨fb,520,cs2⟩] ∧ (src.At (dt.drop q) g1 g2 g3) ∧ (BitsIn dt (p + 14 + 3 * i) q b nb) ∧ (nb < 8) ∧ (i ≤ takeB dt (p + 10) 4 + 4) ∧ (CbOk dt (p + 14) (takeB dt (p + 10) 4 + 4) i cs) ∧ mm = takeB dt (p + 10) 4 + 4 - i) (_) ⟨0,cs,q,_,_,_,_,_,_,rfl,rfl,hA,hB14,by omega,by omega,⟨hcsl,fun s _ h => by omega⟩,rfl⟩ ?_
 rintro m1 _ _ ⟨i,cs,q,b,nb,ro,g1,g2,g3,hk1,rfl,hA,hB,hnb,hi,hcb,hm1⟩
 refine C.weaken _ hk1 ?_
 refine C.seq ?_
 refine C.sr ?_
 refine E.pure (S.move rfl) rfl ?_
 refine E.pure (S.move rfl) rfl ?_
 refine E.pure (S.lt rfl rfl) rfl ?_
 refine E.kp [(0,_),(4,_),(5,_),(6,_),(7,_),(94,_)] rfl ?_
 refine C.ifp rfl (fun h94 => ?_) (fun h94 => ?_)
 ·
  have hi19 : i < 19 := by omega
  have hoi := (ord_idx i hi19).2
  refine C.skip ?_
  refine C.seq ?_
  refine C.block ?_
  refine C.seq ?_
  refine C.block ?_
  refine C.loop (fun mm ee ll => ∃ (q : Nat),∃ (b : Nat),∃ (nb : Nat),∃ (ro : Int),∃ (g1 : Frag),∃ (g2 : Frag),∃ (g3 : Frag),keeps ee [0,4,5,6,7] = some [(0,.pointer (some ⟨fb,0,none⟩)),(4,.int .i64 ((takeB dt p 5 + 257 : Nat) : Int)),(5,.int .i64 ((takeB dt (p + 5) 5 + 1 : Nat) : Int)),(6,.int .i64 ((takeB dt (p + 10) 4 + 4 : Nat) : Int)),(7,.int .i64 ((i : Nat) : Int))] ∧ ll = [g1,g2,g3,⟨fb,0,[.iface src.t src.v,.pointer none,.int .i64 (ro),.int .u32 (((b) : Nat) : Int),.int .u64 (((nb) : Nat) : Int)]⟩,⟨fb,1045,[s0,s1,s2,s3,s4,s5,s6,s7,s8]⟩,⟨fb,1035,[.pointer (some ⟨ab,0,none⟩),.pointer (some ⟨cb,0,none⟩)]⟩,⟨ab,0,av⟩,⟨cb,0,cs⟩,⟨fb,5,cs1⟩,⟨fb,520,cs2⟩] ∧ (src.At (dt.drop q) g1 g2 g3) ∧ (BitsIn dt (p + 14 + 3 * i) q b nb) ∧ (nb < 8 ∨ nb < 3 + 8) ∧ mm = 3 - nb) (_) ⟨q,b,nb,ro,g1,g2,g3,rfl,rfl,hA,hB,.inl hnb,rfl⟩ ?_
  rintro m2 _ _ ⟨q,b,nb,ro,g1,g2,g3,hk2,rfl,hA,hB,hnl,hm2⟩
  refine C.weaken _ hk2 ?_
  refine C.seq ?_
  refine C.sr ?_
  refine E.pure (S.move rfl) rfl ?_
  refine E.pure (S.nilPtr rfl) rfl ?_
  refine E.pure (S.field rfl fa153_4) rfl ?_
  refine E.still (S.load 3 (k := 4) rfl rfl rfl Tryd.isAgg92) rfl ?_
  refine E.pure (S.lt (b := ((3 : Nat) : Int)) rfl rfl) rfl ?_
  refine E.kp [(0,_),(4,_),(5,_),(6,_),(7,_),(101,_)] rfl ?_
  refine C.ifp rfl (fun h101 => ?_) (fun h101 => ?_)
  ·
   refine C.skip ?_
   refine C.block ?_
   refine C.sr ?_
   refine E.pure (S.move rfl) rfl ?_
   refine E.loud1 (OpX.pick [0,0,0,0] (F := [_,_,_,_,_,_]) rfl (X.call rfl Tryd.call71 (moreBits_e hs src _ _ _ fb _ dt _ _ _ _ hA hB (by omega)))) rfl ?_; rintro _ _ ⟨_,⟨k1,k2,k3,e4,b4,nb4,ro4,rfl,rfl,hE4⟩,rfl⟩; refine E.relist (L2 := [_,_,_,_,_,_,_,_,_,_]) rfl ?_
   refine E.perml [0,0,0,0,0,0,0,0,0,0] rfl ?_
   refine E.relist (L2 := [_,_,_,_,_,_,_,_,_,_]) rfl ?_
   refine E.pure (S.assign rfl) rfl ?_
   refine E.kp [(0,_),(4,_),(5,_),(6,_),(7,_),(8,_),(101,_)] rfl ?_
   refine C.sr ?_
   refine E.pure (S.move rfl) rfl ?_
   refine E.still (S.neErNil rfl) rfl ?_
   refine E.kp [(0,_),(4,_),(5,_),(6,_),(7,_),(8,_),(101,_),(105,_)] rfl ?_
   first | refine C.ifp rfl (fun h105 => ?_) (fun h105 => ?_) | refine C.ifNone rfl (fun h105 => ?_) (fun h105 => ?_) | refine C.ifSome rfl (fun h105 => ?_) (fun h105 => ?_) | refine C.ifSe rfl (fun h105 => ?_) (fun h105 => ?_) | refine C.ifNotSe rfl (fun h105 => ?_) (fun h105 => ?_) | refine C.cond rfl (fun h105 => ?_) (fun h105 => ?_)
   ·
    obtain ⟨hb5,hqe,lx,hAx⟩ := hE4.resolve_left fun h => h105 h.1
    have hle := hB.left_eq
    refine C.sr ?_
    refine E.pure (S.move rfl) rfl ?_
    refine E.pure (S.assign rfl) rfl ?_
    refine E.kp [(0,_),(2,_),(4,_),(5,_),(6,_),(7,_),(8,_),(101,_),(105,_)] rfl ?_
    refine C.ret ?_
    refine ⟨_,rfl,_,[],Same.of_eq (List.append_nil _).symm,_,_,_,_,_,_,_,_,_,_,_,rfl,hasl,?_,rfl,.inr ⟨hb5,dynR_cl h14 h286 h30 (by rw [left_add] at hle; omega),⟨_,hAx⟩,cs1,cs2,raw_len hraw1,raw_len hraw2,rfl⟩⟩
    first | exact hcsl | exact hcb.len
   obtain ⟨_,hA4,hB4,hn4⟩ := hE4.resolve_right fun h => h.1.2 h105
   subst hn4
   refine C.skip ?_
   refine ⟨_,?_,_,_,_,_,_,_,_,rfl,rfl,hA4,hB4,.inr (by omega),rfl⟩; omega
  have hn3 : 3 ≤ nb := by omega
  have hb2 := hB.lt32 (by omega)
  have t3 := takeB_lt dt (p + 14 + 3 * i) 3
  refine C.exit rfl ?_
  refine C.seq ?_
  refine C.draw [0,1,2,4,0,16,32,0,128,256,512,1024,2048,8,16383,24575] (.pure 0 8176 (.pure 1 8177 (.pure 2 8179 (.pure 4 16271 (.pure 5 16287 (.pure 7 8319 (.pure 8 8447 (.pure 9 8703 (.seg [(3,8183),(6,16319),(10,9215),(11,10239),(12,12287),(13,8191),(14,16383)] (.alt 15 .done .stop)))))))))) mixed (by decide +kernel) ?_
  refine D.pure rfl (S.move rfl) rfl ?_
  refine D.pure rfl (S.nilPtr rfl) rfl ?_
  refine D.pure rfl (S.field rfl fa153_8) rfl ?_
  refine D.pure rfl (S.move rfl) rfl ?_
  refine D.pure rfl (S.ixArr rfl rfl (by omega) Tryd.underlying156 Tryd.sizeOf3) rfl ?_
  refine D.pure rfl (S.move rfl) rfl ?_
  refine D.pure rfl (S.nilPtr rfl) rfl ?_
  refine D.pure rfl (S.field rfl fa153_3) rfl ?_
  refine D.seg (by decide) ?_
  refine W.still rfl (S.load 5 (k := 1) rfl rfl rfl Tryd.isAgg146) rfl ?_
  refine W.still rfl (S.loadBase rfl (hc.cell i hi19) Tryd.isAgg3) rfl ?_
  refine W.still rfl (S.load 3 (k := 3) rfl rfl rfl Tryd.isAgg52) rfl ?_
  refine W.pure rfl (S.and (b := ((7 : Nat) : Int)) rfl rfl (N.and_u32 (by omega) (by omega))) rfl ?_
  refine W.reslot (v := .int .u32 ((takeB dt (p + 14 + 3 * i) 3 : Nat) : Int)) (congrArg (fun y : Nat => Value.int .u32 (y : Int)) (by exact mask_take (n := 3) hB (by omega))) ?_
  refine W.pure rfl (S.conv rfl Tryd.underlying52 Tryd.underlying3 (N.i64n (by omega))) rfl ?_
  refine W.pure rfl (S.nilPtr rfl) rfl ?_
  refine W.pure rfl (S.ixArr rfl rfl (by omega) Tryd.underlying156 Tryd.sizeOf3) rfl ?_
  refine W.nil ?_
  refine D.one ?_
  refine O.loud0 rfl (X.store 7 (k := ordL.getD i 0 * 1) rfl rfl rfl rfl (by rw [Nat.blt_eq,hcb.len]; omega) Tryd.sizeOf3) ?_; rintro _ _ ⟨rfl,rfl⟩; refine D.relist (L2 := [_,_,_,_,_,_,_,_,_,_]) rfl ?_
  refine D.kp [(0,_),(4,_),(5,_),(6,_),(7,_),(101,_)] rfl ?_
  refine C.sr ?_
  refine E.pure (S.move rfl) rfl ?_
  refine E.pure (S.nilPtr rfl) rfl ?_
  refine E.pure (S.field rfl fa153_3) rfl ?_
  refine E.still (S.load 3 (k := 3) rfl rfl rfl Tryd.isAgg52) rfl ?_
  refine E.pure (S.shr (b := ((3 : Nat) : Int)) rfl rfl (by omega) (N.shr_u32 (by omega) _)) rfl ?_
  refine E.reslot (v := .int .u32 ((b / 2 ^ 3 : Nat) : Int)) (congrArg (fun y : Nat => Value.int .u32 (y : Int)) (by rw [Nat.shiftRight_eq_div_pow])) ?_
  refine E.pure (S.nilPtr rfl) rfl ?_
  refine E.pure (S.field rfl fa153_3) rfl ?_
  refine E.loud0 (X.store 3 (k := 3) rfl rfl rfl rfl rfl Tryd.sizeOf52) ?_; rintro _ _ ⟨rfl,rfl⟩; refine E.relist (L2 := [_,_,_,_,_,_,_,_,_,_]) rfl ?_
  refine E.kp [(0,_),(4,_),(5,_),(6,_),(7,_),(101,_)] rfl ?_
  refine C.region ?_
  refine E.pure (S.move rfl) rfl ?_
  refine E.pure (S.nilPtr rfl) rfl ?_
  refine E.pure (S.field rfl fa153_4) rfl ?_
  refine E.still (S.load 3 (k := 4) rfl rfl rfl Tryd.isAgg92) rfl ?_
  refine E.pure (S.sub (b := ((3 : Nat) : Int)) rfl rfl (N.sub_u64 (by omega) (by omega))) rfl ?_
  refine E.pure (S.nilPtr rfl) rfl ?_
  refine E.pure (S.field rfl fa153_4) rfl ?_
  refine E.loud0 (X.store 3 (k := 4) rfl rfl rfl rfl rfl Tryd.sizeOf92) ?_; rintro _ _ ⟨rfl,rfl⟩; refine E.relist (L2 := [_,_,_,_,_,_,_,_,_,_]) rfl ?_
  refine E.kp [(0,_),(4,_),(5,_),(6,_),(7,_),(101,_)] rfl ?_
  refine C.region ?_
  refine E.pure (S.move rfl) rfl ?_
  refine E.pure (S.add (b := ((1 : Nat) : Int)) rfl rfl (N.add64 (by omega))) rfl ?_
  refine E.pure (S.assign rfl) rfl ?_
  refine E.kp [(0,_),(4,_),(5,_),(6,_),(7,_),(101,_)] rfl ?_
  refine ⟨_,?_,i + 1,_,_,_,_,_,_,_,_,rfl,rfl,hA,(by rw [show p + 14 + 3 * (i + 1) = p + 14 + 3 * i + 3 by omega]; exact (hB.take (n := 3) (by omega)).2),by omega,by omega,(hcb.next hi19 (by rw [clv,(ord_idx i hi19).1,if_pos (by omega)])),rfl⟩; omega
 have hiN : i = takeB dt (p + 10) 4 + 4 := by omega
 subst hiN
 have hcl3 : ¬ left dt (p + 14) < 3 * (takeB dt (p + 10) 4 + 4) := by have := hB.at8; have := hB.le; unfold left; omega
 refine C.exit rfl ?_
 refine C.seq ?_
 refine C.sr ?_
 refine E.pure (S.move rfl) rfl ?_
 refine E.pure (S.assign rfl) rfl ?_
 refine E.kp [(0,_),(4,_),(5,_),(6,_),(7,_),(9,_),(94,_)] rfl ?_
 refine C.block ?_
 refine C.loop (fun mm ee ll => ∃ (i : Nat),∃ (cs : List Value),keeps ee [0,4,5,9] = some [(0,.pointer (some ⟨fb,0,none⟩)),(4,.int .i64 ((takeB dt p 5 + 257 : Nat) : Int)),(5,.int .i64 ((takeB dt (p + 5) 5 + 1 : Nat) : Int)),(9,.int .i64 ((i : Nat) : Int))] ∧ ll = [g1,g2,g3,⟨fb,0,[.iface src.t src.v,.pointer none,.int .i64 (ro),.int .u32 (((b) : Nat) : Int),.int .u64 (((nb) : Nat) : Int)]⟩,⟨fb,1045,[s0,s1,s2,s3,s4,s5,s6,s7,s8]⟩,⟨fb,1035,[.pointer (some ⟨ab,0,none⟩),.pointer (some ⟨cb,0,none⟩)]⟩,⟨ab,0,av⟩,⟨cb,0,cs⟩,⟨fb,5,cs1⟩,⟨fb,520,cs2⟩] ∧ (takeB dt (p + 10) 4 + 4 ≤ i) ∧ (i ≤ 19) ∧ (CbOk dt (p + 14) (takeB dt (p + 10) 4 + 4) i cs) ∧ mm = 19 - i) (_) ⟨takeB dt (p + 10) 4 + 4,cs,rfl,rfl,Nat.le_refl _,by omega,hcb,rfl⟩ ?_
 rintro m3 _ _ ⟨i,cs,hk3,rfl,hi,hi9,hcb,hm3⟩
 refine C.weaken _ hk3 ?_
 refine C.seq ?_
 refine C.sr ?_
 refine E.pure (S.move rfl) rfl ?_
 refine E.pure (S.lt (b := ((19 : Nat) : Int)) rfl rfl) rfl ?_
 refine E.kp [(0,_),(4,_),(5,_),(9,_),(138,_)] rfl ?_
 refine C.ifp rfl (fun h138 => ?_) (fun h138 => ?_)
 ·
  have hi19 : i < 19 := by omega
  have hoi := (ord_idx i hi19).2
  refine C.skip ?_
  refine C.seq ?_
  refine C.block ?_
  refine C.draw [0,1,2,4,0,16,32,8,255,383] (.pure 0 112 (.pure 1 113 (.pure 2 115 (.pure 4 143 (.pure 5 159 (.seg [(3,119),(6,191),(7,127),(8,255)] (.alt 9 .done .stop))))))) mixed (by decide +kernel) ?_
  refine D.pure rfl (S.move rfl) rfl ?_
  refine D.pure rfl (S.nilPtr rfl) rfl ?_
  refine D.pure rfl (S.field rfl fa153_8) rfl ?_
  refine D.pure rfl (S.move rfl) rfl ?_
  refine D.pure rfl (S.ixArr rfl rfl (by omega) Tryd.underlying156 Tryd.sizeOf3) rfl ?_
  refine D.seg (by decide) ?_
  refine W.still rfl (S.load 5 (k := 1) rfl rfl rfl Tryd.isAgg146) rfl ?_
  refine W.still rfl (S.loadBase rfl (hc.cell i hi19) Tryd.isAgg3) rfl ?_
  refine W.pure rfl (S.nilPtr rfl) rfl ?_
  refine W.pure rfl (S.ixArr rfl rfl (by omega) Tryd.underlying156 Tryd.sizeOf3) rfl ?_
  refine W.nil ?_
  refine D.one ?_
  refine O.loud0 rfl (X.store 7 (k := ordL.getD i 0 * 1) rfl rfl rfl rfl (by rw [Nat.blt_eq,hcb.len]; omega) Tryd.sizeOf3) ?_; rintro _ _ ⟨rfl,rfl⟩; refine D.relist (L2 := [_,_,_,_,_,_,_,_,_,_]) rfl ?_
  refine D.kp [(0,_),(4,_),(5,_),(9,_),(138,_)] rfl ?_
  refine C.region ?_
  refine E.pure (S.move rfl) rfl ?_
  refine E.pure (S.add (b := ((1 : Nat) : Int)) rfl rfl (N.add64 (by omega))) rfl ?_
  refine E.pure (S.assign rfl) rfl ?_
  refine E.kp [(0,_),(4,_),(5,_),(9,_),(138,_)] rfl ?_
  refine ⟨_,?_,i + 1,_,rfl,rfl,by omega,by omega,(hcb.next hi19 (by rw [clv,(ord_idx i hi19).1,if_neg (by omega)])),rfl⟩; omega
 have hi19 : i = 19 := by omega
 subst hi19
 refine C.exit rfl ?_
 refine C.seq ?_
 refine C.seq ?_
 have hcs := hcb.full
 have hcl9 := hcb.len
 rw [hcs] at hcl9
 subst hcs
 refine C.perml [8,7] rfl ?_
 refine C.relist (L2 := [_,_,_,_,_,_,_,_,_,_]) rfl ?_
 refine C.draw [0,1,2,0,8,16,32,64,128,260,512] (.pure 0 504 (.pure 1 505 (.pure 2 507 (.pure 3 7 (.pure 4 15 (.pure 5 31 (.seg [(6,63),(7,127),(8,255)] (.alt 9 (.pure 10 1023 .done) .stop)))))))) mixed (by decide +kernel) ?_
 refine D.pure rfl (S.move rfl) rfl ?_
 refine D.pure rfl (S.nilPtr rfl) rfl ?_
 refine D.pure rfl (S.field rfl fa153_5) rfl ?_
 refine D.pure rfl (S.move rfl) rfl ?_
 refine D.pure rfl (S.nilPtr rfl) rfl ?_
 refine D.pure rfl (S.field rfl fa153_8) rfl ?_
 refine D.seg (by decide) ?_
 refine W.still rfl (S.load 7 (k := 1) rfl rfl rfl Tryd.isAgg146) rfl ?_
 refine W.pure rfl (S.nilPtr rfl) rfl ?_
 refine W.pure rfl (S.slArr (l := 0) (h := 19) (k' := .i64) rfl rfl rfl (by omega) (by omega) Tryd.underlying156 Tryd.sizeOf3) rfl ?_
 refine W.reslot (v := .slice (some ⟨cb,0,none⟩) ((clL dt (p + 14) (takeB dt (p + 10) 4 + 4)).length) (19)) (slice_to (by simp [part]) (clL_len _ _ _).symm rfl) ?_
 refine W.nil ?_
 refine D.one ?_
 refine O.loud1 rfl (X.call rfl Tryd.call80 (init_in fb 5 cb 0 19 _ [] (clL dt (p + 14) (takeB dt (p + 10) 4 + 4)) hraw1 (clL_le _ _ _) (by rw [clL_len]; decide) _)) rfl ?_; rintro _ _ ⟨LC,ok1,rfl,hC,rfl⟩; refine D.relist (L2 := (_::_::_::_::_::_::_::_::_::_)) rfl ?_
 refine D.pure rfl (S.notB rfl) rfl ?_
 refine D.kp [(0,_),(4,_),(5,_),(9,_),(138,_),(160,_)] rfl ?_
 first | refine C.ifp rfl (fun h160 => ?_) (fun h160 => ?_) | refine C.ifNone rfl (fun h160 => ?_) (fun h160 => ?_) | refine C.ifSome rfl (fun h160 => ?_) (fun h160 => ?_) | refine C.ifSe rfl (fun h160 => ?_) (fun h160 => ?_) | refine C.ifNotSe rfl (fun h160 => ?_) (fun h160 => ?_) | refine C.cond rfl (fun h160 => ?_) (fun h160 => ?_)
 ·
  obtain ⟨_,hno,hz,hzl,rfl⟩ := hC.resolve_left (fun h => by rw [h.1] at h160; cases h160)
  refine C.sr ?_
  refine E.pure (S.move rfl) rfl ?_
  refine E.pure (S.nilPtr rfl) rfl ?_
  refine E.pure (S.field rfl fa153_2) rfl ?_
  refine E.still (S.load 4 (k := 2) rfl rfl rfl Tryd.isAgg2) rfl ?_
  refine E.pure (S.mkIface rfl conc165) rfl ?_
  refine E.reslot (v := Er.val ea (.corrupt _)) (rfl) ?_
  refine E.pure (S.assign rfl) rfl ?_
  refine E.kp [(0,_),(2,_),(4,_),(5,_),(9,_),(138,_),(160,_)] rfl ?_
  refine C.ret ?_
  refine ⟨_,rfl,_,[],(Same.perm (picks_perm (A := [_,_,_,_,_,_,_,_,_,_]) (F := []) (is := [1,1,1,1,1,1,1,0,1,0]) rfl)).trans (Same.of_eq rfl),_,_,_,_,_,_,_,_,_,_,_,rfl,hasl,?_,rfl,.inr ⟨bad_corrupt _,?_,⟨_,hA⟩,hz,cs2,hzl,raw_len hraw2,rfl⟩⟩
  · exact hcl9
  · rw [dynR_eq h14 h286 h30 hcl3,if_pos hno]
 obtain ⟨_,hok,hC1⟩ := hC.resolve_right (fun h => by rw [h.1] at h160; cases h160)
 have hmin15 := min_15 (le_lenOf (clL_le dt (p + 14) (takeB dt (p + 10) 4 + 4)))
 have hdy := dynR_eq h14 h286 h30 hcl3
 rw [if_neg (fun h => h hok)] at hdy
 refine C.skip ?_
 refine C.seq ?_
 refine C.seq ?_
 refine C.perml [1,1,1,1,1,1,1,0] rfl ?_
 refine C.relist (L2 := _::_::_::_::_::_::_::_::_::_) rfl ?_
 refine C.region ?_
 refine E.pure (S.move rfl) rfl ?_
 refine E.pure (S.move rfl) rfl ?_
 refine E.pure (S.add rfl rfl (N.add64 (by omega))) rfl ?_
 refine E.pure (S.assign rfl) rfl ?_
 refine E.pure (S.assign rfl) rfl ?_
 refine E.kp [(0,_),(4,_),(5,_),(9,_),(10,_),(11,_),(138,_),(160,_)] rfl ?_
 refine C.block ?_
 refine C.loop (fun mm ee ll => ∃ (acc : List Nat),∃ (rest : List Value),∃ (pp : Nat),∃ (i : Nat),∃ (q : Nat),∃ (b : Nat),∃ (nb : Nat),∃ (ro : Int),∃ (g1 : Frag),∃ (g2 : Frag),∃ (g3 : Frag),keeps ee [0,4,5,10,11] = some [(0,.pointer (some ⟨fb,0,none⟩)),(4,.int .i64 ((takeB dt p 5 + 257 : Nat) : Int)),(5,.int .i64 ((takeB dt (p + 5) 5 + 1 : Nat) : Int)),(10,.int .i64 ((i : Nat) : Int)),(11,.int .i64 ((takeB dt p 5 + 257 + (takeB dt (p + 5) 5 + 1) : Nat) : Int))] ∧ ll = [g1,g2,g3,⟨fb,0,[.iface src.t src.v,.pointer none,.int .i64 (ro),.int .u32 (((b) : Nat) : Int),.int .u64 (((nb) : Nat) : Int)]⟩,⟨fb,1045,[s0,s1,s2,s3,s4,s5,s6,s7,s8]⟩,⟨fb,1035,[.pointer (some ⟨ab,0,none⟩),.pointer (some ⟨cb,0,none⟩)]⟩,⟨ab,0,intsV acc ++ rest⟩,⟨cb,0,intsV (clL dt (p + 14) (takeB dt (p + 10) 4 + 4)) ++ []⟩,⟨fb,520,cs2⟩] ++ LC ∧ (src.At (dt.drop q) g1 g2 g3) ∧ (BitsIn dt pp q b nb) ∧ (nb < 8) ∧ (lensGo dt (clL dt (p + 14) (takeB dt (p + 10) 4 + 4)) (takeB dt p 5 + 257 + (takeB dt (p + 5) 5 + 1)) [] (p + 14 + 3 * (takeB dt (p + 10) 4 + 4)) = lensGo dt (clL dt (p + 14) (takeB dt (p + 10) 4 + 4)) (takeB dt p 5 + 257 + (takeB dt (p + 5) 5 + 1)) acc pp) ∧ (i = acc.length) ∧ (acc.length ≤ takeB dt p 5 + 257 + (takeB dt (p + 5) 5 + 1)) ∧ (acc.length + rest.length = 316) ∧ (∀ x ∈ acc,x ≤ 15) ∧ mm = takeB dt p 5 + 257 + (takeB dt (p + 5) 5 + 1) - acc.length) (_) ⟨[],av,p + 14 + 3 * (takeB dt (p + 10) 4 + 4),0,_,_,_,_,_,_,_,rfl,rfl,hA,hB,hnb,rfl,rfl,(by simp),(by simpa using hasl),(fun x h => by cases h),rfl⟩ ?_
 rintro m4 _ _ ⟨acc,rest,pp,i,q,b,nb,ro,g1,g2,g3,hk4,rfl,hA,hB,hnb,hgo,hia,hal,hrl,ha15,hm4⟩
 refine C.weaken _ hk4 ?_
 subst hia
 refine C.seq ?_
 refine C.sr ?_
 refine E.pure (S.move rfl) rfl ?_
 refine E.pure (S.move rfl) rfl ?_
 refine E.pure (S.lt rfl rfl) rfl ?_
 refine E.kp [(0,_),(4,_),(5,_),(10,_),(11,_),(171,_)] rfl ?_
 refine C.ifp rfl (fun h171 => ?_) (fun h171 => ?_)
 ·
  refine C.skip ?_
  refine C.block ?_
  refine C.sr ?_
  refine E.pure (S.move rfl) rfl ?_
  refine E.pure (S.move rfl) rfl ?_
  refine E.pure (S.nilPtr rfl) rfl ?_
  refine E.pure (S.field rfl fa153_5) rfl ?_
  refine E.loud1 (X.call rfl Tryd.call81 (huffSym_end hs src _ _ _ fb _ _ _ _ _ _ _ _ _ _ fb 5 dt _ _ _ _ hA hB (by omega) (clL dt (p + 14) (takeB dt (p + 10) 4 + 4)) (minL (clL dt (p + 14) (takeB dt (p + 10) 4 + 4))) hok (le_lenOf (clL_le _ _ _)) (Nat.le_refl _) hmin15 LC [⟨fb,1035,[.pointer (some ⟨ab,0,none⟩),.pointer (some ⟨cb,0,none⟩)]⟩,⟨ab,0,intsV acc ++ rest⟩,⟨cb,0,intsV (clL dt (p + 14) (takeB dt (p + 10) 4 + 4)) ++ []⟩,⟨fb,520,cs2⟩] hC1)) rfl ?_; rintro _ _ ⟨e,vi,y1,y2,y3,a1,b1,c1,ev2,rfl,hE,rfl⟩; refine E.relist (L2 := (_::_::_::_::_::_::_::_::_::_)) rfl ?_
  refine E.pure (S.move rfl) rfl ?_
  refine E.pure (S.extract rfl rfl) rfl ?_
  refine E.pure (S.extract rfl rfl) rfl ?_
  refine E.pure (S.assign rfl) rfl ?_
  refine E.pure (S.assign rfl) rfl ?_
  refine E.kp [(0,_),(4,_),(5,_),(10,_),(11,_),(12,_),(13,_),(171,_)] rfl ?_
  refine C.seq ?_
  refine C.sr ?_
  refine E.pure (S.move rfl) rfl ?_
  refine E.still (S.neErNil rfl) rfl ?_
  refine E.kp [(0,_),(4,_),(5,_),(10,_),(11,_),(12,_),(13,_),(171,_),(181,_)] rfl ?_
  first | refine C.ifp rfl (fun h181 => ?_) (fun h181 => ?_) | refine C.ifNone rfl (fun h181 => ?_) (fun h181 => ?_) | refine C.ifSome rfl (fun h181 => ?_) (fun h181 => ?_) | refine C.ifSe rfl (fun h181 => ?_) (fun h181 => ?_) | refine C.ifNotSe rfl (fun h181 => ?_) (fun h181 => ?_) | refine C.cond rfl (fun h181 => ?_) (fun h181 => ?_)
  ·
   obtain ⟨hb5,hsn,lx,hAx⟩ := hE.resolve_left fun h => h181 h.1
   refine C.sr ?_
   refine E.pure (S.move rfl) rfl ?_
   refine E.pure (S.assign rfl) rfl ?_
   refine E.kp [(0,_),(2,_),(4,_),(5,_),(10,_),(11,_),(12,_),(13,_),(171,_),(181,_)] rfl ?_
   refine C.ret ?_
   exact ⟨_,rfl,rh_bad2 hC1 (hb5) (hdy.trans (by rw [hgo,lensGo_none (by omega) hsn])) hAx (by rw [List.length_append,intsV_length]; exact hrl) hcl9 (raw_len hraw2)⟩
  obtain ⟨_,v,rfl,hsy,hvl,q2,b2,nb2,ro2,hA2,hB2,hn31,hbd,rfl,rfl,rfl,hev⟩ := hE.resolve_right fun h => h.1.2 h181
  rw [hev]
  clear hev hE
  rw [clL_len] at hvl
  have hm5 := (symR_some hsy).1
  have hmin5 : minL (clL dt (p + 14) (takeB dt (p + 10) 4 + 4)) ≤ lenOf (clL dt (p + 14) (takeB dt (p + 10) 4 + 4)) v := by rw [lenOf_get (lenOf_lt hm5.1)]; exact (minL_spec _).2.1 _ (List.getElem_mem _) (by have := hm5.1; rw [lenOf_get (lenOf_lt hm5.1)] at this; omega)
  rw [Nat.max_eq_right hmin5] at hbd
  have hn8 : nb2 < 8 := by omega
  have hiN : acc.length < takeB dt p 5 + 257 + (takeB dt (p + 5) 5 + 1) := by omega
  refine C.skip ?_
  refine C.seq ?_
  refine C.sr ?_
  refine E.pure (S.move rfl) rfl ?_
  refine E.pure (S.lt (b := ((16 : Nat) : Int)) rfl rfl) rfl ?_
  refine E.kp [(0,_),(4,_),(5,_),(10,_),(11,_),(12,_),(13,_),(171,_),(181,_),(184,_)] rfl ?_
  refine C.ifp rfl (fun h184 => ?_) (fun h184 => ?_)
  ·
   have hv : v < 16 := by omega
   refine C.sr ?_
   refine E.pure (S.move rfl) rfl ?_
   refine E.pure (S.nilPtr rfl) rfl ?_
   refine E.pure (S.field rfl fa153_7) rfl ?_
   refine E.still (S.load 5 (k := 0) rfl rfl rfl Tryd.isAgg145) rfl ?_
   refine E.pure (S.move rfl) rfl ?_
   refine E.pure (S.move rfl) rfl ?_
   refine E.pure (S.nilPtr rfl) rfl ?_
   refine E.pure (S.ixArr rfl rfl (by omega) Tryd.underlying155 Tryd.sizeOf3) rfl ?_
   refine E.loud0 (X.store 6 (k := acc.length * 1) rfl rfl rfl rfl (by rw [Nat.blt_eq,List.length_append,intsV_length]; omega) Tryd.sizeOf3) ?_
   rintro _ _ ⟨rfl,rfl⟩
   refine E.relist (L2 := [y1,y2,y3,⟨fb,0,[.iface src.t src.v,.pointer none,.int .i64 (ro2),.int .u32 (((b2) : Nat) : Int),.int .u64 (((nb2) : Nat) : Int)]⟩,⟨fb,1045,[s0,s1,s2,s3,s4,s5,s6,s7,s8]⟩,⟨fb,1035,[.pointer (some ⟨ab,0,none⟩),.pointer (some ⟨cb,0,none⟩)]⟩,⟨ab,0,intsV (acc ++ [v]) ++ rest.drop 1⟩,⟨cb,0,intsV (clL dt (p + 14) (takeB dt (p + 10) 4 + 4)) ++ []⟩,⟨fb,520,cs2⟩] ++ LC) (congrArg (fun q => ([y1,y2,y3,⟨fb,0,[.iface src.t src.v,.pointer none,.int .i64 (ro2),.int .u32 (((b2) : Nat) : Int),.int .u64 (((nb2) : Nat) : Int)]⟩,⟨fb,1045,[s0,s1,s2,s3,s4,s5,s6,s7,s8]⟩,⟨fb,1035,[.pointer (some ⟨ab,0,none⟩),.pointer (some ⟨cb,0,none⟩)]⟩,⟨ab,0,q⟩,⟨cb,0,intsV (clL dt (p + 14) (takeB dt (p + 10) 4 + 4)) ++ []⟩,⟨fb,520,cs2⟩] ++ LC : Frags)) (acc_set v (by omega))) ?_
   refine E.kp [(0,_),(4,_),(5,_),(10,_),(11,_),(12,_),(13,_),(171,_),(181,_),(184,_)] rfl ?_
   refine C.sr ?_
   refine E.pure (S.move rfl) rfl ?_
   refine E.pure (S.add (b := ((1 : Nat) : Int)) rfl rfl (N.add64 (by omega))) rfl ?_
   refine E.pure (S.assign rfl) rfl ?_
   refine E.kp [(0,_),(4,_),(5,_),(10,_),(11,_),(12,_),(13,_),(171,_),(181,_),(184,_)] rfl ?_
   refine C.exit rfl ?_
   refine ⟨_,?_,acc ++ [v],rest.drop 1,_,acc.length + 1,_,_,_,_,_,_,_,rfl,rfl,hA2,hB2,hn8,(hgo.trans (lensGo_lit hiN hsy hv)),(by rw [List.length_append,List.length_singleton]),(by rw [List.length_append,List.length_singleton]; omega),(by rw [List.length_append,List.length_singleton,List.length_drop]; omega),(fun x hx => (List.mem_append.1 hx).elim (ha15 x) fun h => by rw [List.mem_singleton.1 h]; omega),rfl⟩; rw [List.length_append,List.length_singleton]; omega
  have hv16 : 16 ≤ v := by omega
  refine C.skip ?_
  refine C.sr ?_
  refine E.pure (S.assign rfl) rfl ?_
  refine E.kp [(0,_),(4,_),(5,_),(10,_),(11,_),(12,_),(13,_),(14,_),(171,_),(181,_),(184,_)] rfl ?_
  refine C.sr ?_
  refine E.pure (S.assign rfl) rfl ?_
  refine E.kp [(0,_),(4,_),(5,_),(10,_),(11,_),(12,_),(13,_),(14,_),(15,_),(171,_),(181,_),(184,_)] rfl ?_
  refine C.sr ?_
  refine E.pure (S.assign rfl) rfl ?_
  refine E.kp [(0,_),(4,_),(5,_),(10,_),(11,_),(12,_),(13,_),(14,_),(15,_),(16,_),(171,_),(181,_),(184,_)] rfl ?_
  refine C.cut (M := fun ee ll => keeps ee [0,4,5,10,11,14,15,16] = some [(0,.pointer (some ⟨fb,0,none⟩)),(4,.int .i64 ((takeB dt p 5 + 257 : Nat) : Int)),(5,.int .i64 ((takeB dt (p + 5) 5 + 1 : Nat) : Int)),(10,.int .i64 ((acc.length : Nat) : Int)),(11,.int .i64 ((takeB dt p 5 + 257 + (takeB dt (p + 5) 5 + 1) : Nat) : Int)),(14,.int .i64 ((repB v : Nat) : Int)),(15,.int .u64 ((repN v : Nat) : Int)),(16,.int .i64 (((if v = 16 then acc.getLastD 0 else 0) : Nat) : Int))] ∧ ll = [y1,y2,y3,⟨fb,0,[.iface src.t src.v,.pointer none,.int .i64 (ro2),.int .u32 (((b2) : Nat) : Int),.int .u64 (((nb2) : Nat) : Int)]⟩,⟨fb,1045,[s0,s1,s2,s3,s4,s5,s6,s7,s8]⟩,⟨fb,1035,[.pointer (some ⟨ab,0,none⟩),.pointer (some ⟨cb,0,none⟩)]⟩,⟨ab,0,intsV acc ++ rest⟩,⟨cb,0,intsV (clL dt (p + 14) (takeB dt (p + 10) 4 + 4)) ++ []⟩,⟨fb,520,cs2⟩] ++ LC ∧ (¬ (v = 16 ∧ acc = []))) ?_ ?_
  ·
   refine C.sr ?_
   refine E.pure (S.move rfl) rfl ?_
   refine E.kp [(0,_),(4,_),(5,_),(10,_),(11,_),(12,_),(13,_),(14,_),(15,_),(16,_),(171,_),(181,_),(184,_),(195,_)] rfl ?_
   refine C.block ?_
   refine C.sr ?_
   refine E.pure (S.eq (b := ((16 : Nat) : Int)) rfl rfl) rfl ?_
   refine E.pure (S.assign rfl) rfl ?_
   refine E.kp [(0,_),(4,_),(5,_),(10,_),(11,_),(12,_),(13,_),(14,_),(15,_),(16,_),(171,_),(181,_),(184,_),(195,_),(197,_)] rfl ?_
   refine C.ifp rfl (fun h197 => ?_) (fun h197 => ?_)
   ·
    have hv : v = 16 := by omega
    refine C.sr ?_
    refine E.pure (S.assign rfl) rfl ?_
    refine E.reslot (v := .int .i64 ((repB v : Nat) : Int)) (congrArg (fun y : Nat => Value.int .i64 (y : Int)) (by subst hv; rfl)) ?_
    refine E.kp [(0,_),(4,_),(5,_),(10,_),(11,_),(12,_),(13,_),(14,_),(15,_),(16,_),(171,_),(181,_),(184,_),(195,_),(197,_)] rfl ?_
    refine C.sr ?_
    refine E.pure (S.assign rfl) rfl ?_
    refine E.reslot (v := .int .u64 ((repN v : Nat) : Int)) (congrArg (fun y : Nat => Value.int .u64 (y : Int)) (by subst hv; rfl)) ?_
    refine E.kp [(0,_),(4,_),(5,_),(10,_),(11,_),(12,_),(13,_),(14,_),(15,_),(16,_),(171,_),(181,_),(184,_),(195,_),(197,_)] rfl ?_
    refine C.seq ?_
    refine C.sr ?_
    refine E.pure (S.move rfl) rfl ?_
    refine E.pure (S.eq (b := ((0 : Nat) : Int)) rfl rfl) rfl ?_
    refine E.kp [(0,_),(4,_),(5,_),(10,_),(11,_),(12,_),(13,_),(14,_),(15,_),(16,_),(171,_),(181,_),(184,_),(195,_),(197,_),(200,_)] rfl ?_
    refine C.ifp rfl (fun h200 => ?_) (fun h200 => ?_)
    ·
     have hac : acc = [] := List.eq_nil_of_length_eq_zero (by omega)
     refine C.sr ?_
     refine E.pure (S.move rfl) rfl ?_
     refine E.pure (S.nilPtr rfl) rfl ?_
     refine E.pure (S.field rfl fa153_2) rfl ?_
     refine E.still (S.load 3 (k := 2) rfl rfl rfl Tryd.isAgg2) rfl ?_
     refine E.pure (S.mkIface rfl conc165) rfl ?_
     refine E.reslot (v := Er.val ea (.corrupt _)) (rfl) ?_
     refine E.pure (S.assign rfl) rfl ?_
     refine E.kp [(0,_),(2,_),(4,_),(5,_),(10,_),(11,_),(12,_),(13,_),(14,_),(15,_),(16,_),(171,_),(181,_),(184,_),(195,_),(197,_),(200,_)] rfl ?_
     refine C.ret ?_
     exact ⟨_,rfl,rh_bad2 hC1 (bad_corrupt _) (hdy.trans (by rw [hgo,lensGo_empty (by omega) (by rw [hsy,hv]) hac])) hA2 (by rw [List.length_append,intsV_length]; exact hrl) hcl9 (raw_len hraw2)⟩
    have hac : acc ≠ [] := fun h => by subst h; simp at h200
    refine C.skip ?_
    refine C.region ?_
    refine E.pure (S.move rfl) rfl ?_
    refine E.pure (S.nilPtr rfl) rfl ?_
    refine E.pure (S.field rfl fa153_7) rfl ?_
    refine E.still (S.load 5 (k := 0) rfl rfl rfl Tryd.isAgg145) rfl ?_
    refine E.pure (S.move rfl) rfl ?_
    refine E.pure (S.sub (b := ((1 : Nat) : Int)) rfl rfl (N.sub64 (by omega) (by omega))) rfl ?_
    refine E.pure (S.nilPtr rfl) rfl ?_
    refine E.pure (S.ixArr rfl rfl (by omega) Tryd.underlying155 Tryd.sizeOf3) rfl ?_
    refine E.still (S.load 6 (k := (acc.length - 1) * 1) rfl rfl (last_get hac) Tryd.isAgg3) rfl ?_
    refine E.reslot (v := .int .i64 (((if v = 16 then acc.getLastD 0 else 0) : Nat) : Int)) (congrArg (fun y : Nat => Value.int .i64 (y : Int)) (by rw [if_pos hv])) ?_
    refine E.pure (S.assign rfl) rfl ?_
    refine E.kp [(0,_),(4,_),(5,_),(10,_),(11,_),(12,_),(13,_),(14,_),(15,_),(16,_),(171,_),(181,_),(184,_),(195,_),(197,_),(200,_)] rfl ?_
    exact ⟨rfl,rfl,by first | exact fun h => hac h.2 | (intro h; omega)⟩
   refine C.sr ?_
   refine E.pure (S.eq (b := ((17 : Nat) : Int)) rfl rfl) rfl ?_
   refine E.pure (S.assign rfl) rfl ?_
   refine E.kp [(0,_),(4,_),(5,_),(10,_),(11,_),(12,_),(13,_),(14,_),(15,_),(16,_),(171,_),(181,_),(184,_),(195,_),(197,_),(215,_)] rfl ?_
   refine C.ifp rfl (fun h215 => ?_) (fun h215 => ?_)
   ·
    have hv : v = 17 := by omega
    refine C.sr ?_
    refine E.pure (S.assign rfl) rfl ?_
    refine E.reslot (v := .int .i64 ((repB v : Nat) : Int)) (congrArg (fun y : Nat => Value.int .i64 (y : Int)) (by subst hv; rfl)) ?_
    refine E.kp [(0,_),(4,_),(5,_),(10,_),(11,_),(12,_),(13,_),(14,_),(15,_),(16,_),(171,_),(181,_),(184,_),(195,_),(197,_),(215,_)] rfl ?_
    refine C.sr ?_
    refine E.pure (S.assign rfl) rfl ?_
    refine E.reslot (v := .int .u64 ((repN v : Nat) : Int)) (congrArg (fun y : Nat => Value.int .u64 (y : Int)) (by subst hv; rfl)) ?_
    refine E.kp [(0,_),(4,_),(5,_),(10,_),(11,_),(12,_),(13,_),(14,_),(15,_),(16,_),(171,_),(181,_),(184,_),(195,_),(197,_),(215,_)] rfl ?_
    refine C.region ?_
    refine E.pure (S.assign rfl) rfl ?_
    refine E.reslot (v := .int .i64 (((if v = 16 then acc.getLastD 0 else 0) : Nat) : Int)) (congrArg (fun y : Nat => Value.int .i64 (y : Int)) (by rw [if_neg (by omega)])) ?_
    refine E.kp [(0,_),(4,_),(5,_),(10,_),(11,_),(12,_),(13,_),(14,_),(15,_),(16,_),(171,_),(181,_),(184,_),(195,_),(197,_),(215,_)] rfl ?_
    exact ⟨rfl,rfl,by first | exact fun h => hac h.2 | (intro h; omega)⟩
   refine C.sr ?_
   refine E.pure (S.eq (b := ((18 : Nat) : Int)) rfl rfl) rfl ?_
   refine E.pure (S.assign rfl) rfl ?_
   refine E.kp [(0,_),(4,_),(5,_),(10,_),(11,_),(12,_),(13,_),(14,_),(15,_),(16,_),(171,_),(181,_),(184,_),(195,_),(197,_),(215,_),(217,_)] rfl ?_
   refine C.ifp rfl (fun h217 => ?_) (fun h217 => ?_)
   ·
    have hv : v = 18 := by omega
    refine C.sr ?_
    refine E.pure (S.assign rfl) rfl ?_
    refine E.reslot (v := .int .i64 ((repB v : Nat) : Int)) (congrArg (fun y : Nat => Value.int .i64 (y : Int)) (by subst hv; rfl)) ?_
    refine E.kp [(0,_),(4,_),(5,_),(10,_),(11,_),(12,_),(13,_),(14,_),(15,_),(16,_),(171,_),(181,_),(184,_),(195,_),(197,_),(215,_),(217,_)] rfl ?_
    refine C.sr ?_
    refine E.pure (S.assign rfl) rfl ?_
    refine E.reslot (v := .int .u64 ((repN v : Nat) : Int)) (congrArg (fun y : Nat => Value.int .u64 (y : Int)) (by subst hv; rfl)) ?_
    refine E.kp [(0,_),(4,_),(5,_),(10,_),(11,_),(12,_),(13,_),(14,_),(15,_),(16,_),(171,_),(181,_),(184,_),(195,_),(197,_),(215,_),(217,_)] rfl ?_
    refine C.region ?_
    refine E.pure (S.assign rfl) rfl ?_
    refine E.reslot (v := .int .i64 (((if v = 16 then acc.getLastD 0 else 0) : Nat) : Int)) (congrArg (fun y : Nat => Value.int .i64 (y : Int)) (by rw [if_neg (by omega)])) ?_
    refine E.kp [(0,_),(4,_),(5,_),(10,_),(11,_),(12,_),(13,_),(14,_),(15,_),(16,_),(171,_),(181,_),(184,_),(195,_),(197,_),(215,_),(217,_)] rfl ?_
    exact ⟨rfl,rfl,by first | exact fun h => hac h.2 | (intro h; omega)⟩
   exfalso
   omega
  rintro _ _ ⟨hq59,rfl,hne⟩
  refine C.weaken _ hq59 ?_
  obtain ⟨hrn7,hrb11⟩ := rep_facts hv16
  refine C.seq ?_
  refine C.block ?_
  refine C.loop (fun mm ee ll => ∃ (q : Nat),∃ (b : Nat),∃ (nb : Nat),∃ (ro : Int),∃ (g1 : Frag),∃ (g2 : Frag),∃ (g3 : Frag),keeps ee [0,4,5,10,11,14,15,16] = some [(0,.pointer (some ⟨fb,0,none⟩)),(4,.int .i64 ((takeB dt p 5 + 257 : Nat) : Int)),(5,.int .i64 ((takeB dt (p + 5) 5 + 1 : Nat) : Int)),(10,.int .i64 ((acc.length : Nat) : Int)),(11,.int .i64 ((takeB dt p 5 + 257 + (takeB dt (p + 5) 5 + 1) : Nat) : Int)),(14,.int .i64 ((repB v : Nat) : Int)),(15,.int .u64 ((repN v : Nat) : Int)),(16,.int .i64 (((if v = 16 then acc.getLastD 0 else 0) : Nat) : Int))] ∧ ll = [g1,g2,g3,⟨fb,0,[.iface src.t src.v,.pointer none,.int .i64 (ro),.int .u32 (((b) : Nat) : Int),.int .u64 (((nb) : Nat) : Int)]⟩,⟨fb,1045,[s0,s1,s2,s3,s4,s5,s6,s7,s8]⟩,⟨fb,1035,[.pointer (some ⟨ab,0,none⟩),.pointer (some ⟨cb,0,none⟩)]⟩,⟨ab,0,intsV acc ++ rest⟩,⟨cb,0,intsV (clL dt (p + 14) (takeB dt (p + 10) 4 + 4)) ++ []⟩,⟨fb,520,cs2⟩] ++ LC ∧ (src.At (dt.drop q) g1 g2 g3) ∧ (BitsIn dt (pp + lenOf (clL dt (p + 14) (takeB dt (p + 10) 4 + 4)) v) q b nb) ∧ (nb < 8 ∨ nb < repN v + 8) ∧ mm = repN v - nb) (_) ⟨q2,b2,nb2,ro2,y1,y2,y3,rfl,rfl,hA2,hB2,.inl hn8,rfl⟩ ?_
  rintro m5 _ _ ⟨q,b,nb,ro,g1,g2,g3,hk5,rfl,hA,hB,hnl,hm5⟩
  refine C.weaken _ hk5 ?_
  refine C.seq ?_
  refine C.sr ?_
  refine E.pure (S.move rfl) rfl ?_
  refine E.pure (S.nilPtr rfl) rfl ?_
  refine E.pure (S.field rfl fa153_4) rfl ?_
  refine E.still (S.load 3 (k := 4) rfl rfl rfl Tryd.isAgg92) rfl ?_
  refine E.pure (S.move rfl) rfl ?_
  refine E.pure (S.lt rfl rfl) rfl ?_
  refine E.kp [(0,_),(4,_),(5,_),(10,_),(11,_),(14,_),(15,_),(16,_),(224,_)] rfl ?_
  refine C.ifp rfl (fun h224 => ?_) (fun h224 => ?_)
  ·
   refine C.skip ?_
   refine C.block ?_
   refine C.sr ?_
   refine E.pure (S.move rfl) rfl ?_
   refine E.loud1 (OpX.pick [0,0,0,0] (F := (_::_::_::_::_::_)) rfl (X.call rfl Tryd.call71 (moreBits_e hs src _ _ _ fb _ dt _ _ _ _ hA hB (by omega)))) rfl ?_; rintro _ _ ⟨_,⟨k1,k2,k3,e4,b4,nb4,ro4,rfl,rfl,hE4⟩,rfl⟩; refine E.relist (L2 := (_::_::_::_::_::_::_::_::_::_)) rfl ?_
   refine E.perml [0,0,0,0,0,0,0,0,0] rfl ?_
   refine E.relist (L2 := (_::_::_::_::_::_::_::_::_::_)) rfl ?_
   refine E.pure (S.assign rfl) rfl ?_
   refine E.kp [(0,_),(4,_),(5,_),(10,_),(11,_),(14,_),(15,_),(16,_),(17,_),(224,_)] rfl ?_
   refine C.sr ?_
   refine E.pure (S.move rfl) rfl ?_
   refine E.still (S.neErNil rfl) rfl ?_
   refine E.kp [(0,_),(4,_),(5,_),(10,_),(11,_),(14,_),(15,_),(16,_),(17,_),(224,_),(228,_)] rfl ?_
   first | refine C.ifp rfl (fun h228 => ?_) (fun h228 => ?_) | refine C.ifNone rfl (fun h228 => ?_) (fun h228 => ?_) | refine C.ifSome rfl (fun h228 => ?_) (fun h228 => ?_) | refine C.ifSe rfl (fun h228 => ?_) (fun h228 => ?_) | refine C.ifNotSe rfl (fun h228 => ?_) (fun h228 => ?_) | refine C.cond rfl (fun h228 => ?_) (fun h228 => ?_)
   ·
    obtain ⟨hb5,hqe,lx,hAx⟩ := hE4.resolve_left fun h => h228 h.1
    have hle := hB.left_eq
    refine C.sr ?_
    refine E.pure (S.move rfl) rfl ?_
    refine E.pure (S.assign rfl) rfl ?_
    refine E.kp [(0,_),(2,_),(4,_),(5,_),(10,_),(11,_),(14,_),(15,_),(16,_),(17,_),(224,_),(228,_)] rfl ?_
    refine C.ret ?_
    exact ⟨_,rfl,rh_bad2 hC1 (hb5) (hdy.trans (by rw [hgo,lensGo_short (by omega) hsy hv16 hne (by omega)])) hAx (by rw [List.length_append,intsV_length]; exact hrl) hcl9 (raw_len hraw2)⟩
   obtain ⟨_,hA4,hB4,hn4⟩ := hE4.resolve_right fun h => h.1.2 h228
   subst hn4
   refine C.skip ?_
   refine ⟨_,?_,_,_,_,_,_,_,_,rfl,rfl,hA4,hB4,.inr (by omega),rfl⟩; omega
  have hnn : repN v ≤ nb := by omega
  have hb3 := hB.lt32 (by omega)
  have hle := hB.left_eq
  have htk := hB.take hnn
  have htl := takeB_lt dt (pp + lenOf (clL dt (p + 14) (takeB dt (p + 10) 4 + 4)) v) (repN v)
  have h2r : 2 ^ repN v ≤ 2 ^ 7 := Nat.pow_le_pow_right (by omega) hrn7
  have h2r0 : 0 < 2 ^ repN v := Nat.pow_pos (by omega)
  have hrs : ¬ left dt (pp + lenOf (clL dt (p + 14) (takeB dt (p + 10) 4 + 4)) v) < repN v := by omega
  refine C.exit rfl ?_
  refine C.sr ?_
  refine E.pure (S.move rfl) rfl ?_
  refine E.pure (S.move rfl) rfl ?_
  refine E.pure (S.nilPtr rfl) rfl ?_
  refine E.pure (S.field rfl fa153_3) rfl ?_
  refine E.still (S.load 3 (k := 3) rfl rfl rfl Tryd.isAgg52) rfl ?_
  refine E.pure (S.move rfl) rfl ?_
  refine E.pure (S.shl (a := ((1 : Nat) : Int)) rfl rfl (by omega) (N.shl_u32 _ _)) rfl ?_
  refine E.reslot (v := .int .u32 ((2 ^ repN v : Nat) : Int)) (congrArg (fun y : Nat => Value.int .u32 (y : Int)) (by rw [Nat.one_shiftLeft]; exact Nat.mod_eq_of_lt (by omega))) ?_
  refine E.pure (S.sub (b := ((1 : Nat) : Int)) rfl rfl (N.sub_u32 (by omega) (by omega))) rfl ?_
  refine E.pure (S.and rfl rfl (N.and_u32 (by omega) (by omega))) rfl ?_
  refine E.reslot (v := .int .u32 ((takeB dt (pp + lenOf (clL dt (p + 14) (takeB dt (p + 10) 4 + 4)) v) (repN v) : Nat) : Int)) (congrArg (fun y : Nat => Value.int .u32 (y : Int)) (by exact mask_take hB (by omega))) ?_
  refine E.pure (S.conv rfl Tryd.underlying52 Tryd.underlying3 (N.i64n (by omega))) rfl ?_
  refine E.pure (S.add rfl rfl (N.add64 (by omega))) rfl ?_
  refine E.pure (S.assign rfl) rfl ?_
  refine E.kp [(0,_),(4,_),(5,_),(10,_),(11,_),(14,_),(15,_),(16,_),(224,_)] rfl ?_
  refine C.sr ?_
  refine E.pure (S.move rfl) rfl ?_
  refine E.pure (S.nilPtr rfl) rfl ?_
  refine E.pure (S.field rfl fa153_3) rfl ?_
  refine E.still (S.load 3 (k := 3) rfl rfl rfl Tryd.isAgg52) rfl ?_
  refine E.pure (S.move rfl) rfl ?_
  refine E.pure (S.shr rfl rfl (by omega) (N.shr_u32 (by omega) _)) rfl ?_
  refine E.reslot (v := .int .u32 ((b / 2 ^ repN v : Nat) : Int)) (congrArg (fun y : Nat => Value.int .u32 (y : Int)) (by rw [Nat.shiftRight_eq_div_pow])) ?_
  refine E.pure (S.nilPtr rfl) rfl ?_
  refine E.pure (S.field rfl fa153_3) rfl ?_
  refine E.loud0 (X.store 3 (k := 3) rfl rfl rfl rfl rfl Tryd.sizeOf52) ?_; rintro _ _ ⟨rfl,rfl⟩; refine E.relist (L2 := (_::_::_::_::_::_::_::_::_::_)) rfl ?_
  refine E.kp [(0,_),(4,_),(5,_),(10,_),(11,_),(14,_),(15,_),(16,_),(224,_)] rfl ?_
  refine C.sr ?_
  refine E.pure (S.move rfl) rfl ?_
  refine E.pure (S.nilPtr rfl) rfl ?_
  refine E.pure (S.field rfl fa153_4) rfl ?_
  refine E.still (S.load 3 (k := 4) rfl rfl rfl Tryd.isAgg92) rfl ?_
  refine E.pure (S.move rfl) rfl ?_
  refine E.pure (S.sub rfl rfl (N.sub_u64 (by omega) (by omega))) rfl ?_
  refine E.pure (S.nilPtr rfl) rfl ?_
  refine E.pure (S.field rfl fa153_4) rfl ?_
  refine E.loud0 (X.store 3 (k := 4) rfl rfl rfl rfl rfl Tryd.sizeOf92) ?_; rintro _ _ ⟨rfl,rfl⟩; refine E.relist (L2 := (_::_::_::_::_::_::_::_::_::_)) rfl ?_
  refine E.kp [(0,_),(4,_),(5,_),(10,_),(11,_),(14,_),(15,_),(16,_),(224,_)] rfl ?_
  refine C.seq ?_
  refine C.sr ?_
  refine E.pure (S.move rfl) rfl ?_
  refine E.pure (S.move rfl) rfl ?_
  refine E.pure (S.add rfl rfl (N.add64 (by omega))) rfl ?_
  refine E.pure (S.move rfl) rfl ?_
  refine E.pure (S.gt rfl rfl) rfl ?_
  refine E.kp [(0,_),(4,_),(5,_),(10,_),(11,_),(14,_),(15,_),(16,_),(224,_),(261,_)] rfl ?_
  refine C.ifp rfl (fun h261 => ?_) (fun h261 => ?_)
  ·
   refine C.sr ?_
   refine E.pure (S.move rfl) rfl ?_
   refine E.pure (S.nilPtr rfl) rfl ?_
   refine E.pure (S.field rfl fa153_2) rfl ?_
   refine E.still (S.load 3 (k := 2) rfl rfl rfl Tryd.isAgg2) rfl ?_
   refine E.pure (S.mkIface rfl conc165) rfl ?_
   refine E.reslot (v := Er.val ea (.corrupt _)) (rfl) ?_
   refine E.pure (S.assign rfl) rfl ?_
   refine E.kp [(0,_),(2,_),(4,_),(5,_),(10,_),(11,_),(14,_),(15,_),(16,_),(224,_),(261,_)] rfl ?_
   refine C.ret ?_
   exact ⟨_,rfl,rh_bad2 hC1 (bad_corrupt _) (hdy.trans (by rw [hgo,lensGo_over (by omega) hsy hv16 hne hrs (by omega)])) hA (by rw [List.length_append,intsV_length]; exact hrl) hcl9 (raw_len hraw2)⟩
  have hro : ¬ takeB dt p 5 + 257 + (takeB dt (p + 5) 5 + 1) < acc.length + (repB v + takeB dt (pp + lenOf (clL dt (p + 14) (takeB dt (p + 10) 4 + 4)) v) (repN v)) := by omega
  refine C.skip ?_
  refine C.sr ?_
  refine E.pure (S.assign rfl) rfl ?_
  refine E.kp [(0,_),(4,_),(5,_),(10,_),(11,_),(14,_),(15,_),(16,_),(18,_),(224,_),(261,_)] rfl ?_
  refine C.block ?_
  refine C.loop (fun mm ee ll => ∃ (j : Nat),∃ (i2 : Nat),keeps ee [0,4,5,10,11,14,16,18] = some [(0,.pointer (some ⟨fb,0,none⟩)),(4,.int .i64 ((takeB dt p 5 + 257 : Nat) : Int)),(5,.int .i64 ((takeB dt (p + 5) 5 + 1 : Nat) : Int)),(10,.int .i64 ((i2 : Nat) : Int)),(11,.int .i64 ((takeB dt p 5 + 257 + (takeB dt (p + 5) 5 + 1) : Nat) : Int)),(14,.int .i64 ((repB v + takeB dt (pp + lenOf (clL dt (p + 14) (takeB dt (p + 10) 4 + 4)) v) (repN v) : Nat) : Int)),(16,.int .i64 (((if v = 16 then acc.getLastD 0 else 0) : Nat) : Int)),(18,.int .i64 ((j : Nat) : Int))] ∧ ll = [g1,g2,g3,⟨fb,0,[.iface src.t src.v,.pointer none,.int .i64 (ro),.int .u32 ((((b / 2 ^ repN v)) : Nat) : Int),.int .u64 ((((nb - repN v)) : Nat) : Int)]⟩,⟨fb,1045,[s0,s1,s2,s3,s4,s5,s6,s7,s8]⟩,⟨fb,1035,[.pointer (some ⟨ab,0,none⟩),.pointer (some ⟨cb,0,none⟩)]⟩,⟨ab,0,intsV (acc ++ List.replicate j (if v = 16 then acc.getLastD 0 else 0)) ++ rest.drop j⟩,⟨cb,0,intsV (clL dt (p + 14) (takeB dt (p + 10) 4 + 4)) ++ []⟩,⟨fb,520,cs2⟩] ++ LC ∧ (i2 = acc.length + j) ∧ (j ≤ repB v + takeB dt (pp + lenOf (clL dt (p + 14) (takeB dt (p + 10) 4 + 4)) v) (repN v)) ∧ mm = (repB v + takeB dt (pp + lenOf (clL dt (p + 14) (takeB dt (p + 10) 4 + 4)) v) (repN v)) - j) (_) ⟨0,acc.length,rfl,(by simp),by omega,by omega,rfl⟩ ?_
  rintro m6 _ _ ⟨j,i2,hk6,rfl,hi2,hj,hm6⟩
  refine C.weaken _ hk6 ?_
  subst hi2
  refine C.seq ?_
  refine C.sr ?_
  refine E.pure (S.move rfl) rfl ?_
  refine E.pure (S.move rfl) rfl ?_
  refine E.pure (S.lt rfl rfl) rfl ?_
  refine E.kp [(0,_),(4,_),(5,_),(10,_),(11,_),(14,_),(16,_),(18,_),(269,_)] rfl ?_
  refine C.ifp rfl (fun h269 => ?_) (fun h269 => ?_)
  ·
   have hjr : 0 < (rest.drop j).length := by rw [List.length_drop]; omega
   refine C.skip ?_
   refine C.seq ?_
   refine C.block ?_
   refine C.sr ?_
   refine E.pure (S.move rfl) rfl ?_
   refine E.pure (S.nilPtr rfl) rfl ?_
   refine E.pure (S.field rfl fa153_7) rfl ?_
   refine E.still (S.load 5 (k := 0) rfl rfl rfl Tryd.isAgg145) rfl ?_
   refine E.pure (S.move rfl) rfl ?_
   refine E.pure (S.move rfl) rfl ?_
   refine E.pure (S.nilPtr rfl) rfl ?_
   refine E.pure (S.ixArr rfl rfl (by omega) Tryd.underlying155 Tryd.sizeOf3) rfl ?_
   refine E.loud0 (X.store 6 (k := (acc.length + j) * 1) rfl rfl rfl rfl (by rw [Nat.blt_eq,List.length_append,intsV_length,List.length_append,List.length_replicate]; omega) Tryd.sizeOf3) ?_
   rintro _ _ ⟨rfl,rfl⟩
   refine E.relist (L2 := [g1,g2,g3,⟨fb,0,[.iface src.t src.v,.pointer none,.int .i64 (ro),.int .u32 ((((b / 2 ^ repN v)) : Nat) : Int),.int .u64 ((((nb - repN v)) : Nat) : Int)]⟩,⟨fb,1045,[s0,s1,s2,s3,s4,s5,s6,s7,s8]⟩,⟨fb,1035,[.pointer (some ⟨ab,0,none⟩),.pointer (some ⟨cb,0,none⟩)]⟩,⟨ab,0,intsV (acc ++ List.replicate (j + 1) (if v = 16 then acc.getLastD 0 else 0)) ++ rest.drop (j + 1)⟩,⟨cb,0,intsV (clL dt (p + 14) (takeB dt (p + 10) 4 + 4)) ++ []⟩,⟨fb,520,cs2⟩] ++ LC) (congrArg (fun q => ([g1,g2,g3,⟨fb,0,[.iface src.t src.v,.pointer none,.int .i64 (ro),.int .u32 ((((b / 2 ^ repN v)) : Nat) : Int),.int .u64 ((((nb - repN v)) : Nat) : Int)]⟩,⟨fb,1045,[s0,s1,s2,s3,s4,s5,s6,s7,s8]⟩,⟨fb,1035,[.pointer (some ⟨ab,0,none⟩),.pointer (some ⟨cb,0,none⟩)]⟩,⟨ab,0,q⟩,⟨cb,0,intsV (clL dt (p + 14) (takeB dt (p + 10) 4 + 4)) ++ []⟩,⟨fb,520,cs2⟩] ++ LC : Frags)) (rep_set hjr)) ?_
   refine E.kp [(0,_),(4,_),(5,_),(10,_),(11,_),(14,_),(16,_),(18,_),(269,_)] rfl ?_
   refine C.region ?_
   refine E.pure (S.move rfl) rfl ?_
   refine E.pure (S.add (b := ((1 : Nat) : Int)) rfl rfl (N.add64 (by omega))) rfl ?_
   refine E.pure (S.assign rfl) rfl ?_
   refine E.kp [(0,_),(4,_),(5,_),(10,_),(11,_),(14,_),(16,_),(18,_),(269,_)] rfl ?_
   refine C.region ?_
   refine E.pure (S.move rfl) rfl ?_
   refine E.pure (S.add (b := ((1 : Nat) : Int)) rfl rfl (N.add64 (by omega))) rfl ?_
   refine E.pure (S.assign rfl) rfl ?_
   refine E.kp [(0,_),(4,_),(5,_),(10,_),(11,_),(14,_),(16,_),(18,_),(269,_)] rfl ?_
   refine ⟨_,?_,j + 1,acc.length + j + 1,rfl,rfl,by omega,by omega,rfl⟩; omega
  have hj2 : j = repB v + takeB dt (pp + lenOf (clL dt (p + 14) (takeB dt (p + 10) 4 + 4)) v) (repN v) := by omega
  subst hj2
  have hgo2 := hgo.trans (lensGo_rep (by omega) hsy hv16 hne hrs hro)
  have hlen2 : (acc ++ List.replicate (repB v + takeB dt (pp + lenOf (clL dt (p + 14) (takeB dt (p + 10) 4 + 4)) v) (repN v)) (if v = 16 then acc.getLastD 0 else 0)).length = acc.length + (repB v + takeB dt (pp + lenOf (clL dt (p + 14) (takeB dt (p + 10) 4 + 4)) v) (repN v)) := by rw [List.length_append,List.length_replicate]
  have hi3 := hlen2.symm
  have hal2 : (acc ++ List.replicate (repB v + takeB dt (pp + lenOf (clL dt (p + 14) (takeB dt (p + 10) 4 + 4)) v) (repN v)) (if v = 16 then acc.getLastD 0 else 0)).length ≤ takeB dt p 5 + 257 + (takeB dt (p + 5) 5 + 1) := by rw [hlen2]; omega
  have hrl2 : (acc ++ List.replicate (repB v + takeB dt (pp + lenOf (clL dt (p + 14) (takeB dt (p + 10) 4 + 4)) v) (repN v)) (if v = 16 then acc.getLastD 0 else 0)).length + (rest.drop (repB v + takeB dt (pp + lenOf (clL dt (p + 14) (takeB dt (p + 10) 4 + 4)) v) (repN v))).length = 316 := by rw [hlen2,List.length_drop]; omega
  have ha2 : ∀ x ∈ acc ++ List.replicate (repB v + takeB dt (pp + lenOf (clL dt (p + 14) (takeB dt (p + 10) 4 + 4)) v) (repN v)) (if v = 16 then acc.getLastD 0 else 0),x ≤ 15 := fun x hx => by
    rcases List.mem_append.1 hx with h | h
    · exact ha15 x h
    · rw [(List.mem_replicate.1 h).2]; exact last_le ha15 v
  refine C.exit rfl ?_
  refine ⟨_,?_,acc ++ List.replicate (repB v + takeB dt (pp + lenOf (clL dt (p + 14) (takeB dt (p + 10) 4 + 4)) v) (repN v)) (if v = 16 then acc.getLastD 0 else 0),rest.drop (repB v + takeB dt (pp + lenOf (clL dt (p + 14) (takeB dt (p + 10) 4 + 4)) v) (repN v)),_,acc.length + (repB v + takeB dt (pp + lenOf (clL dt (p + 14) (takeB dt (p + 10) 4 + 4)) v) (repN v)),_,_,_,_,_,_,_,rfl,rfl,hA,htk.2,by omega,hgo2,hi3,hal2,hrl2,ha2,rfl⟩; have hrb0 : 0 < repB v := (by unfold repB; split <;> omega); rw [hlen2]; omega
 have haN : acc.length = takeB dt p 5 + 257 + (takeB dt (p + 5) 5 + 1) := by omega
 rw [hgo,lensGo_done (by omega)] at hdy
 simp only at hdy
 have htl : (acc.take (takeB dt p 5 + 257)).length = takeB dt p 5 + 257 := by rw [List.length_take]; omega
 have hdl : (acc.drop (takeB dt p 5 + 257)).length = takeB dt (p + 5) 5 + 1 := by rw [List.length_drop]; omega
 refine C.exit rfl ?_
 refine C.seq ?_
 refine C.seq ?_
 have hsp : intsV acc ++ rest = (intsV (acc.take (takeB dt p 5 + 257)) ++ []) ++ (intsV (acc.drop (takeB dt p 5 + 257)) ++ rest) := by
   rw [List.append_nil,← List.append_assoc,intsV,intsV,intsV,← List.map_append,List.take_append_drop]
 refine C.same (Same.splitAt (k := takeB dt p 5 + 257) (o' := takeB dt p 5 + 257) 6 rfl rfl hsp (by rw [List.append_nil,intsV_length,htl]) (by omega)) ?_
 obtain ⟨c1,J,hraw3,hS⟩ := same_raw hC1 [⟨ab,0,intsV (acc.take (takeB dt p 5 + 257)) ++ []⟩,⟨ab,takeB dt p 5 + 257,intsV (acc.drop (takeB dt p 5 + 257)) ++ rest⟩,g1,g2,g3,⟨fb,0,[.iface src.t src.v,.pointer none,.int .i64 (ro),.int .u32 (((b) : Nat) : Int),.int .u64 (((nb) : Nat) : Int)]⟩,⟨fb,1045,[s0,s1,s2,s3,s4,s5,s6,s7,s8]⟩,⟨fb,1035,[.pointer (some ⟨ab,0,none⟩),.pointer (some ⟨cb,0,none⟩)]⟩,⟨cb,0,intsV (clL dt (p + 14) (takeB dt (p + 10) 4 + 4)) ++ []⟩,⟨fb,520,cs2⟩]
 refine C.same hS ?_
 refine C.forget [0,0,0,0,0,0,0,0,0,0,0] (A := [_,_,_,_,_,_,_,_,_,_,_]) rfl ?_
 refine C.relist (L2 := [⟨fb,5,c1⟩,⟨ab,0,intsV (acc.take (takeB dt p 5 + 257)) ++ []⟩,⟨ab,takeB dt p 5 + 257,intsV (acc.drop (takeB dt p 5 + 257)) ++ rest⟩,g1,g2,g3,⟨fb,0,[.iface src.t src.v,.pointer none,.int .i64 (ro),.int .u32 (((b) : Nat) : Int),.int .u64 (((nb) : Nat) : Int)]⟩,⟨fb,1045,[s0,s1,s2,s3,s4,s5,s6,s7,s8]⟩,⟨fb,1035,[.pointer (some ⟨ab,0,none⟩),.pointer (some ⟨cb,0,none⟩)]⟩,⟨cb,0,intsV (clL dt (p + 14) (takeB dt (p + 10) 4 + 4)) ++ []⟩,⟨fb,520,cs2⟩]) rfl ?_
 refine C.draw [0,1,2,0,8,16,32,64,0,384,516,1024,3072,4096,12288,20480,4096,69632,135168,266240,528384,4096,4096,4096,12587008,19927040,33591296,67112960,134221824] (.pure 0 1016 (.pure 1 1017 (.pure 2 1019 (.pure 3 263 (.pure 4 271 (.pure 5 287 (.pure 8 255 (.seg [(6,319),(7,383),(9,511)] (.alt 10 (.pure 11 2047 (.pure 12 4095 (.pure 13 67051519 (.pure 14 67059711 (.pure 15 67076095 (.pure 16 31522815 (.pure 17 31588351 (.pure 18 31719423 (.pure 21 31457279 (.pure 22 12582911 (.pure 23 8388607 (.pure 24 16777215 (.seg [(19,31981567),(20,32505855),(25,33554431)] (.alt 26 (.pure 27 134217727 (.pure 28 268435455 .done)) .stop)))))))))))))) .stop))))))))) mixed (by decide +kernel) ?_
 refine D.pure rfl (S.move rfl) rfl ?_
 refine D.pure rfl (S.nilPtr rfl) rfl ?_
 refine D.pure rfl (S.field rfl fa153_5) rfl ?_
 refine D.pure rfl (S.move rfl) rfl ?_
 refine D.pure rfl (S.nilPtr rfl) rfl ?_
 refine D.pure rfl (S.field rfl fa153_7) rfl ?_
 refine D.pure rfl (S.move rfl) rfl ?_
 refine D.seg (by decide) ?_
 refine W.still rfl (S.load 8 (k := 0) rfl rfl rfl Tryd.isAgg145) rfl ?_
 refine W.pure rfl (S.nilPtr rfl) rfl ?_
 refine W.pure rfl (S.slArr (l := 0) rfl rfl rfl (by omega) (by omega) Tryd.underlying155 Tryd.sizeOf3) rfl ?_
 refine W.reslot (v := .slice (some ⟨ab,0,none⟩) ((acc.take (takeB dt p 5 + 257)).length) (316)) (slice_to (by simp [part]) (by rw [htl]; rfl) rfl) ?_
 refine W.nil ?_
 refine D.one ?_
 refine O.loud1 rfl (X.call rfl Tryd.call80 (init_in fb 5 ab 0 316 _ [] (acc.take (takeB dt p 5 + 257)) hraw3 (fun x h => ha15 x (List.mem_of_mem_take h)) (by omega) _)) rfl ?_; rintro _ _ ⟨L1,ok2,rfl,hI1,rfl⟩; refine D.relist (L2 := (_::_::_::_::_::_::_::_::_::_::_)) rfl ?_
 refine D.pure rfl (S.notB rfl) rfl ?_
 refine D.pure rfl (S.move rfl) rfl ?_
 first | refine D.fork (fun g294 => ?_) (fun g294 => ?_) | refine D.forkB (fun g294 => ?_) (fun g294 => ?_)
 ·
  refine D.skip 294 true rfl rfl rfl rfl rfl ?_
  refine D.skip 294 true rfl rfl rfl rfl rfl ?_
  refine D.skip 294 true rfl rfl rfl rfl rfl ?_
  refine D.skip 294 true rfl rfl rfl rfl rfl ?_
  refine D.skip 294 true rfl rfl rfl rfl rfl ?_
  refine D.skip 294 true rfl rfl rfl rfl rfl ?_
  refine D.skip 294 true rfl rfl rfl rfl rfl ?_
  refine D.skip 294 true rfl rfl rfl rfl rfl ?_
  refine D.skip 294 true rfl rfl rfl rfl rfl ?_
  refine D.skip 294 true rfl rfl rfl rfl rfl ?_
  refine D.seg (by decide) ?_
  refine W.skip 294 true rfl rfl rfl rfl rfl ?_
  refine W.skip 294 true rfl rfl rfl rfl rfl ?_
  refine W.skip 294 true rfl rfl rfl rfl rfl ?_
  refine W.nil ?_
  refine D.one ?_
  refine O.skip 294 true rfl rfl rfl rfl rfl ?_
  refine D.skip 294 true rfl rfl rfl rfl rfl ?_
  refine D.pure rfl (S.pickT rfl rfl) rfl ?_
  refine D.kp [(0,_),(4,_),(5,_),(10,_),(11,_),(171,_),(310,_)] rfl ?_
  refine C.yes rfl (rfl) ?_
  refine C.seq ?_
  obtain ⟨_,hno,hz,hzl,rfl⟩ := hI1.resolve_left (fun h => by rw [h.1] at g294; cases g294)
  refine C.same (Same.joinAt 0 0 rfl rfl (by rw [List.append_nil,intsV_length,htl,Nat.zero_add])) ?_
  refine C.relist (L2 := [⟨ab,0,intsV acc ++ rest⟩,g1,g2,g3,⟨fb,0,[.iface src.t src.v,.pointer none,.int .i64 (ro),.int .u32 (((b) : Nat) : Int),.int .u64 (((nb) : Nat) : Int)]⟩,⟨fb,1045,[s0,s1,s2,s3,s4,s5,s6,s7,s8]⟩,⟨fb,1035,[.pointer (some ⟨ab,0,none⟩),.pointer (some ⟨cb,0,none⟩)]⟩,⟨cb,0,intsV (clL dt (p + 14) (takeB dt (p + 10) 4 + 4)) ++ []⟩,⟨fb,520,cs2⟩,⟨fb,5,hz⟩]) (by rw [hsp]; rfl) ?_
  refine C.region ?_
  refine E.pure (S.move rfl) rfl ?_
  refine E.pure (S.nilPtr rfl) rfl ?_
  refine E.pure (S.field rfl fa153_2) rfl ?_
  refine E.still (S.load 4 (k := 2) rfl rfl rfl Tryd.isAgg2) rfl ?_
  refine E.pure (S.mkIface rfl conc165) rfl ?_
  refine E.reslot (v := Er.val ea (.corrupt _)) (rfl) ?_
  refine E.pure (S.assign rfl) rfl ?_
  refine E.kp [(0,_),(2,_),(4,_),(5,_),(10,_),(11,_),(171,_),(310,_)] rfl ?_
  refine C.ret ?_
  refine ⟨_,rfl,_,[],(Same.perm (picks_perm (A := [_,_,_,_,_,_,_,_,_,_]) (F := []) (is := [1,1,1,1,1,1,0,0,1,0]) rfl)).trans (Same.of_eq rfl),_,_,_,_,_,_,_,_,_,_,_,rfl,?_,?_,rfl,.inr ⟨bad_corrupt _,?_,⟨_,hA⟩,hz,cs2,hzl,raw_len hraw2,rfl⟩⟩
  · rw [List.length_append,intsV_length]; exact hrl
  · exact hcl9
  · rw [hdy,if_neg (fun h => hno h.1)]
 refine D.yes 294 rfl rfl rfl (OpP.toK (S.move rfl)) rfl ?_
 refine D.yes 294 rfl rfl rfl (OpP.toK (S.nilPtr rfl)) rfl ?_
 refine D.yes 294 rfl rfl rfl (OpP.toK (S.field rfl fa153_6)) rfl ?_
 refine D.yes 294 rfl rfl rfl (OpP.toK (S.move rfl)) rfl ?_
 refine D.yes 294 rfl rfl rfl (OpP.toK (S.nilPtr rfl)) rfl ?_
 refine D.yes 294 rfl rfl rfl (OpP.toK (S.field rfl fa153_7)) rfl ?_
 refine D.yes 294 rfl rfl rfl (OpP.toK (S.move rfl)) rfl ?_
 refine D.yes 294 rfl rfl rfl (OpP.toK (S.move rfl)) rfl ?_
 refine D.yes 294 rfl rfl rfl (OpP.toK (S.move rfl)) rfl ?_
 refine D.yes 294 rfl rfl rfl (OpP.toK (S.add rfl rfl (N.add64 (by omega)))) rfl ?_
 refine D.seg (by decide) ?_
 refine W.yes 294 rfl rfl rfl (S.load 7 (k := 0) rfl rfl rfl Tryd.isAgg145) rfl ?_
 refine W.yes 294 rfl rfl rfl (fun a w hf _ => (S.nilPtr rfl) a w hf) rfl ?_
 refine W.yes 294 rfl rfl rfl (fun a w hf _ => (S.slArr rfl rfl rfl (by omega) (by omega) Tryd.underlying155 Tryd.sizeOf3) a w hf) rfl ?_
 refine W.reslot (v := .slice (some ⟨ab,takeB dt p 5 + 257,none⟩) ((acc.drop (takeB dt p 5 + 257)).length) (316 - (takeB dt p 5 + 257))) (slice_to (by rw [part,if_neg (by omega)]; omega) (by rw [hdl]; omega) rfl) ?_
 refine W.nil ?_
 refine D.one ?_
 refine O.yes 294 rfl rfl rfl (OpX.perm (picks_perm (is := [9,1]) (A := [_,_]) (F := _::_::_::_::_::_::_::_::_) rfl) (X.call rfl Tryd.call80 (init_in fb 520 ab (takeB dt p 5 + 257) (316 - (takeB dt p 5 + 257)) _ rest (acc.drop (takeB dt p 5 + 257)) hraw2 (fun x h => ha15 x (List.mem_of_mem_drop h)) (by omega) _))) rfl ?_; rintro _ _ ⟨L2,ok3,rfl,hI2,rfl⟩; refine D.relist (L2 := (_::_::_::_::_::_::_::_::_::_)) rfl ?_
 refine D.yes 294 rfl rfl rfl (OpP.toK (S.notB rfl)) rfl ?_
 refine D.pure rfl (S.pickF rfl rfl) rfl ?_
 refine D.kp [(0,_),(4,_),(5,_),(10,_),(11,_),(171,_),(310,_)] rfl ?_
 first | refine C.ifp rfl (fun h310 => ?_) (fun h310 => ?_) | refine C.ifNone rfl (fun h310 => ?_) (fun h310 => ?_) | refine C.ifSome rfl (fun h310 => ?_) (fun h310 => ?_) | refine C.ifSe rfl (fun h310 => ?_) (fun h310 => ?_) | refine C.ifNotSe rfl (fun h310 => ?_) (fun h310 => ?_) | refine C.cond rfl (fun h310 => ?_) (fun h310 => ?_)
 ·
  obtain ⟨_,hno,hz,hzl,rfl⟩ := hI2.resolve_left (fun h => by rw [h.1] at h310; cases h310)
  obtain ⟨_,hok1,hH1⟩ := hI1.resolve_right (fun h => by rw [h.1] at g294; cases g294)
  refine C.seq ?_
  refine C.same (Same.joinAt 1 0 rfl rfl (by rw [List.append_nil,intsV_length,htl,Nat.zero_add])) ?_
  refine C.relist (L2 := ⟨ab,0,intsV acc ++ rest⟩::g1::g2::g3::⟨fb,0,[.iface src.t src.v,.pointer none,.int .i64 (ro),.int .u32 (((b) : Nat) : Int),.int .u64 (((nb) : Nat) : Int)]⟩::⟨fb,1045,[s0,s1,s2,s3,s4,s5,s6,s7,s8]⟩::⟨fb,1035,[.pointer (some ⟨ab,0,none⟩),.pointer (some ⟨cb,0,none⟩)]⟩::⟨cb,0,intsV (clL dt (p + 14) (takeB dt (p + 10) 4 + 4)) ++ []⟩::(L1 ++ [⟨fb,520,hz⟩])) (by rw [hsp]; rfl) ?_
  refine C.region ?_
  refine E.pure (S.move rfl) rfl ?_
  refine E.pure (S.nilPtr rfl) rfl ?_
  refine E.pure (S.field rfl fa153_2) rfl ?_
  refine E.still (S.load 4 (k := 2) rfl rfl rfl Tryd.isAgg2) rfl ?_
  refine E.pure (S.mkIface rfl conc165) rfl ?_
  refine E.reslot (v := Er.val ea (.corrupt _)) (rfl) ?_
  refine E.pure (S.assign rfl) rfl ?_
  refine E.kp [(0,_),(2,_),(4,_),(5,_),(10,_),(11,_),(171,_),(310,_)] rfl ?_
  refine C.ret ?_
  exact ⟨_,rfl,rh_bad3 hH1 (bad_corrupt _) (by rw [hdy,if_neg (fun h => hno h.2)]) hA (by rw [List.length_append,intsV_length]; exact hrl) hcl9 hzl⟩
 obtain ⟨_,hok2,hH2⟩ := hI2.resolve_right (fun h => by rw [h.1] at h310; cases h310)
 obtain ⟨_,hok1,hH1⟩ := hI1.resolve_right (fun h => by rw [h.1] at g294; cases g294)
 refine C.skip ?_
 refine C.seq ?_
 refine C.seq ?_
 obtain ⟨f,g,nt,nk,lv,T1,hTab,hfb,hgb,hnk0,hnk64,hke,hz0,rfl,hT⟩ := hH1
 refine C.same (Same.joinAt 1 0 rfl rfl (by rw [List.append_nil,intsV_length,htl,Nat.zero_add])) ?_
 refine C.relist (L2 := ⟨ab,0,intsV acc ++ rest⟩::g1::g2::g3::⟨fb,0,[.iface src.t src.v,.pointer none,.int .i64 (ro),.int .u32 (((b) : Nat) : Int),.int .u64 (((nb) : Nat) : Int)]⟩::⟨fb,1045,[s0,s1,s2,s3,s4,s5,s6,s7,s8]⟩::⟨fb,1035,[.pointer (some ⟨ab,0,none⟩),.pointer (some ⟨cb,0,none⟩)]⟩::⟨cb,0,intsV (clL dt (p + 14) (takeB dt (p + 10) 4 + 4)) ++ []⟩::⟨fb,5,[.int .i64 ((minL (acc.take (takeB dt p 5 + 257)) : Nat) : Int)]⟩::⟨fb,5 + 1,cellsU 512 f⟩::⟨fb,5 + 513,[lv,.int .u32 ((nk - 1 : Nat) : Int)]⟩::(T1 ++ L2)) (by rw [hsp]; rfl) ?_
 refine C.draw [0,1,2,4,8,0,32,64,128,256,512,1024,2064] (.pure 0 4064 (.pure 1 4065 (.pure 2 4067 (.pure 3 4071 (.pure 5 31 (.pure 6 63 (.pure 7 127 (.seg [(4,4079),(8,255),(9,511),(10,1023),(11,2047),(12,4095)] .done)))))))) mixed (by decide +kernel) ?_
 refine D.pure rfl (S.move rfl) rfl ?_
 refine D.pure rfl (S.nilPtr rfl) rfl ?_
 refine D.pure rfl (S.field rfl fa153_5) rfl ?_
 refine D.pure rfl (S.field rfl fa144_0) rfl ?_
 refine D.pure rfl (S.move rfl) rfl ?_
 refine D.pure rfl (S.nilPtr rfl) rfl ?_
 refine D.pure rfl (S.field rfl fa153_7) rfl ?_
 refine D.seg (by decide) ?_
 refine W.still rfl (S.load 8 (k := 0) rfl rfl rfl Tryd.isAgg3) rfl ?_
 refine W.still rfl (S.load 6 (k := 0) rfl rfl rfl Tryd.isAgg145) rfl ?_
 refine W.pure rfl (S.nilPtr rfl) rfl ?_
 refine W.pure rfl (S.ixArr (i := 256) rfl rfl (by omega) Tryd.underlying155 Tryd.sizeOf3) rfl ?_
 refine W.still rfl (S.load 0 (k := 256 * 1) rfl rfl (get_256 (by omega)) Tryd.isAgg3) rfl ?_
 refine W.pure rfl (S.lt rfl rfl) rfl ?_
 refine W.nil ?_
 refine D.kp [(0,_),(4,_),(5,_),(10,_),(11,_),(171,_),(310,_),(328,_)] rfl ?_
 refine C.ifp rfl (fun h328 => ?_) (fun h328 => ?_)
 ·
  refine C.region ?_
  refine E.pure (S.move rfl) rfl ?_
  refine E.pure (S.move rfl) rfl ?_
  refine E.pure (S.nilPtr rfl) rfl ?_
  refine E.pure (S.field rfl fa153_7) rfl ?_
  refine E.still (S.load 6 (k := 0) rfl rfl rfl Tryd.isAgg145) rfl ?_
  refine E.pure (S.nilPtr rfl) rfl ?_
  refine E.pure (S.ixArr (i := 256) rfl rfl (by omega) Tryd.underlying155 Tryd.sizeOf3) rfl ?_
  refine E.still (S.load 0 (k := 256 * 1) rfl rfl (get_256 (by omega)) Tryd.isAgg3) rfl ?_
  refine E.pure (S.nilPtr rfl) rfl ?_
  refine E.pure (S.field rfl fa153_5) rfl ?_
  refine E.pure (S.field rfl fa144_0) rfl ?_
  refine E.loud0 (X.store 8 (k := 0) rfl rfl rfl rfl rfl Tryd.sizeOf3) ?_; rintro _ _ ⟨rfl,rfl⟩; refine E.relist (L2 := (_::_::_::_::_::_::_::_::_::_::_::_)) rfl ?_
  refine E.kp [(0,_),(4,_),(5,_),(10,_),(11,_),(171,_),(310,_),(328,_)] rfl ?_
  refine C.sr ?_
  refine E.pure (S.assign (v := Er.val ea .none) rfl) rfl ?_
  refine E.kp [(0,_),(2,_),(4,_),(5,_),(10,_),(11,_),(171,_),(310,_),(328,_)] rfl ?_
  refine C.ret ?_
  have h256 : 256 < acc.length := by omega
  have he : lenOf (acc.take (takeB dt p 5 + 257)) 256 = acc.getD 256 0 := by rw [lenOf,List.getD_eq_getElem?_getD,List.getElem?_take,if_pos (by omega),← List.getD_eq_getElem?_getD]
  have hl15 : ∀ s,lenOf (acc.take (takeB dt p 5 + 257)) s ≤ 15 := le_lenOf fun x h => ha15 x (List.mem_of_mem_take h)
  have hd15 : ∀ s,lenOf (acc.drop (takeB dt p 5 + 257)) s ≤ 15 := le_lenOf fun x h => ha15 x (List.mem_of_mem_drop h)
  rw [if_pos ⟨hok1,hok2⟩,← he] at hdy
  have hm15 := min_15 hl15
  have hm256 := hl15 256
  have hmx : acc.getD 256 0 = max (minL (acc.take (takeB dt p 5 + 257))) (lenOf (acc.take (takeB dt p 5 + 257)) 256) := by rw [he]; omega
  have hH3 : HufT (acc.take (takeB dt p 5 + 257)) (max (minL (acc.take (takeB dt p 5 + 257))) (lenOf (acc.take (takeB dt p 5 + 257)) 256)) fb 5 ([⟨fb,5,[.int .i64 ((acc.getD 256 0 : Nat) : Int)]⟩,⟨fb,5 + 1,cellsU 512 f⟩,⟨fb,5 + 513,[lv,.int .u32 ((nk - 1 : Nat) : Int)]⟩] ++ T1) := by
    rw [← hmx]; exact ⟨f,g,nt,nk,lv,T1,hTab,hfb,hgb,hnk0,hnk64,hke,fun h => by omega,rfl,hT⟩
  refine ⟨_,rfl,_,[],(Same.perm (picks_perm (A := [_,_,_,_,_,_,_,_]) (F := _) (is := [1,1,1,1,1,1,0,0]) rfl)).trans (Same.of_eq (List.append_nil _).symm),_,_,_,_,_,_,_,_,_,_,_,rfl,?_,hcl9,rfl,.inl ⟨rfl,_,pp,q,b,nb,ro,_,L2,hdy,hA,hB,hnb,⟨hH3,hok1,hl15,Nat.le_max_left _ _,(by show max _ _ ≤ 15; omega),?_,by simp only; omega⟩,.inr ⟨fb,520,rfl,hH2,hok2,hd15,by simp only; omega⟩,rfl,rfl,rfl,rfl,rfl⟩⟩
  · rw [List.length_append,intsV_length]; exact hrl
  · simp only
    rcases Nat.eq_zero_or_pos (lenOf (acc.take (takeB dt p 5 + 257)) 256) with h0 | h0
    · exact .inl h0
    · right
      have h6 : minL (acc.take (takeB dt p 5 + 257)) ≤ lenOf (acc.take (takeB dt p 5 + 257)) 256 := by have hlt0 := lenOf_lt h0; rw [lenOf_get hlt0] at h0 ⊢; exact (minL_spec _).2.1 _ (List.getElem_mem _) (by omega)
      omega
 refine C.skip ?_
 refine C.sr ?_
 refine E.pure (S.assign (v := Er.val ea .none) rfl) rfl ?_
 refine E.kp [(0,_),(2,_),(4,_),(5,_),(10,_),(11,_),(171,_),(310,_),(328,_)] rfl ?_
 refine C.ret ?_
 have h256 : 256 < acc.length := by omega
 have he : lenOf (acc.take (takeB dt p 5 + 257)) 256 = acc.getD 256 0 := by rw [lenOf,List.getD_eq_getElem?_getD,List.getElem?_take,if_pos (by omega),← List.getD_eq_getElem?_getD]
 have hl15 : ∀ s,lenOf (acc.take (takeB dt p 5 + 257)) s ≤ 15 := le_lenOf fun x h => ha15 x (List.mem_of_mem_take h)
 have hd15 : ∀ s,lenOf (acc.drop (takeB dt p 5 + 257)) s ≤ 15 := le_lenOf fun x h => ha15 x (List.mem_of_mem_drop h)
 rw [if_pos ⟨hok1,hok2⟩,← he] at hdy
 have hm15 := min_15 hl15
 have hm256 := hl15 256
 have hmx : minL (acc.take (takeB dt p 5 + 257)) = max (minL (acc.take (takeB dt p 5 + 257))) (lenOf (acc.take (takeB dt p 5 + 257)) 256) := by rw [he]; omega
 have hH3 : HufT (acc.take (takeB dt p 5 + 257)) (max (minL (acc.take (takeB dt p 5 + 257))) (lenOf (acc.take (takeB dt p 5 + 257)) 256)) fb 5 ([⟨fb,5,[.int .i64 ((minL (acc.take (takeB dt p 5 + 257)) : Nat) : Int)]⟩,⟨fb,5 + 1,cellsU 512 f⟩,⟨fb,5 + 513,[lv,.int .u32 ((nk - 1 : Nat) : Int)]⟩] ++ T1) := by
   rw [← hmx]; exact ⟨f,g,nt,nk,lv,T1,hTab,hfb,hgb,hnk0,hnk64,hke,hz0,rfl,hT⟩
 refine ⟨_,rfl,_,[],(Same.perm (picks_perm (A := [_,_,_,_,_,_,_,_]) (F := _) (is := [1,1,1,1,1,1,0,0]) rfl)).trans (Same.of_eq (List.append_nil _).symm),_,_,_,_,_,_,_,_,_,_,_,rfl,?_,hcl9,rfl,.inl ⟨rfl,_,pp,q,b,nb,ro,_,L2,hdy,hA,hB,hnb,⟨hH3,hok1,hl15,Nat.le_max_left _ _,(by show max _ _ ≤ 15; omega),?_,by simp only; omega⟩,.inr ⟨fb,520,rfl,hH2,hok2,hd15,by simp only; omega⟩,rfl,rfl,rfl,rfl,rfl⟩⟩
 · rw [List.length_append,intsV_length]; exact hrl
 · simp only
   rcases Nat.eq_zero_or_pos (lenOf (acc.take (takeB dt p 5 + 257)) 256) with h0 | h0
   · exact .inl h0
   · right
     have h6 : minL (acc.take (takeB dt p 5 + 257)) ≤ lenOf (acc.take (takeB dt p 5 + 257)) 256 := by have hlt0 := lenOf_lt h0; rw [lenOf_get hlt0] at h0 ⊢; exact (minL_spec _).2.1 _ (List.getElem_mem _) (by omega)
     omega
end Go.Eng
