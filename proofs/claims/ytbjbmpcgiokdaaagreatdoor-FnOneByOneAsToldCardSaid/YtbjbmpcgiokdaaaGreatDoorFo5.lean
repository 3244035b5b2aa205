/-
  Texts of this proof, merged: WGh, Zip, WGi, WGj, WKd, Bnd, WUn, WRf1, WRf2, WSp1, WSp2, WRf3, WRf4.
-/
import Derived.Test.YtbjbmpcgiokdaaaGreatDoorFo2
import Derived.Test.YtbjbmpcgiokdaaaGreatDoorFo4
import Derived.Test.YtbjbmpcgiokdaaaGreatDoorFo3
set_option linter.unusedVariables false
set_option linter.unusedSimpArgs false
namespace Go.Eng
open Go Go.Proofs
set_option maxRecDepth 100000
theorem dmRead (b : Nat) (w : World) : (method (Tryz.prog.types.size + Made.depth) 190 (.pointer (some ⟨b,0,none⟩)) "Read").run Tryz.prog w = .ok (135,.pointer (some ⟨b,0,none⟩)) w := by
  obtain ⟨d,hd⟩ := depthS
  rw [hd]
  simp [method,Tryz.typeInfo190,Tryz.t190,Tryz.runUnderlying190,follow,receiverAt,Place.get]
theorem dmReset (b : Nat) (w : World) : (method (Tryz.prog.types.size + Made.depth) 190 (.pointer (some ⟨b,0,none⟩)) "Reset").run Tryz.prog w = .ok (136,.pointer (some ⟨b,0,none⟩)) w := by
  obtain ⟨d,hd⟩ := depthS
  rw [hd]
  simp [method,Tryz.typeInfo190,Tryz.t190,Tryz.runUnderlying190,follow,receiverAt,Place.get]
theorem dmBoth0 : (Tryz.prog.info? 190).map (fun i => (lacking #[("Reset",160)] i.methods).isEmpty) = some true := by kernel_rfl
theorem dmBoth (want : Array (String × TypeId)) (h : Tryz.prog.underlying 159 = some (.interface want)) : (Tryz.prog.info? 190).map (fun i => (lacking want i.methods).isEmpty) = some true := by
  have h2 := (Tryz.underlying159).symm.trans h
  simp only [Option.some.injEq,TypeDesc.interface.injEq] at h2
  rw [← h2]
  exact dmBoth0
def isNilV : Value → Bool
  | .nilIface => true
  | _ => false
theorem DcIn.nil {dcv : Value} {DL : Frags} (h : DcIn dcv DL) (hn : isNilV dcv = true) : dcv = .nilIface ∧ DL = [] := by
  rcases h with h | ⟨fb,rfl,_⟩
  · exact h
  · exact absurd hn (by simp [isNilV])
theorem DcIn.dec {dcv : Value} {DL : Frags} (h : DcIn dcv DL) (hn : isNilV dcv = false) : ∃ fb,dcv = .iface 190 (.pointer (some ⟨fb,0,none⟩)) ∧ DecRaw fb DL := by
  rcases h with ⟨rfl,_⟩ | h
  · exact absurd hn (by simp [isNilV])
  · exact h
theorem S.eqDc {K : Known} {n : Nat} {env : Env} {L : Frags} {ty t yT : TypeId} {x : Operand} {dcv : Value} {DL : Frags} {want : Array (String × TypeId)} (h : DcIn dcv DL) (hx : ev? env x = some dcv) (hu : Tryz.prog.underlying t = some (.interface want)) :
    OpS Tryz.prog K n (.binOp .eql t x (.const .nilIface) yT) ty env L (.bool (isNilV dcv)) := by
  rcases h with ⟨rfl,_⟩ | ⟨fb,rfl,_⟩
  · exact S.eqNilN hx hu
  · exact S.eqNilI hx hu
theorem E.shed {P : Program} {H0 : Known} {n : Nat} {ops : Array Oper} {l : List Oper} {env : Env} {L A F : Frags} {N : Post} (is : List Nat) (hp : picks is L = some (A,F)) (h : wpE P H0 n ops l env F N) : wpE P H0 n ops l env L N := by
  intro a w hf hw Q s
  have p := (Bj hp).trans List.perm_append_comm
  have hA : Agree H0 (F ++ A) w.heap := hw.perm p
  exact h a w hf hA.drop Q fun e l a' w' h f t => s e l a' w' h f ((To.frame hA t).drop.permL p)
def HeadEnd {K : Known} {ea : Fin 5 → Addr} (src : Src K ea) (l : List UInt8) (zb : Nat) (c0 c1 c2 c3 c4 c5 c9 dcv : Value) (DL : Frags) (r : Value) (L : Frags) : Prop :=
  ∃ hs f1 f2 f3 d2 bs2 hb,hs.length = 6 ∧ hs.all one = true ∧ r = .tuple #[.agg hs.toArray,Er.val ea (Ac l).1] ∧ src.At (Ac l).2.1 f1 f2 f3 ∧ bs2.length = 512 ∧ d2 < 4294967296 ∧
    (((Ac l).1 ≠ .none ∧ ∃ T,L = [f1,f2,f3,⟨zb,0,[c0,c1,c2,c3,c4,c5,.iface src.t src.v,dcv,.int .u32 ((d2 : Nat) : Int),c9]⟩,⟨zb,10,bs2⟩,⟨hb,0,hs⟩] ++ (T ++ DL)) ∨
     ((Ac l).1 = .none ∧ ∃ xa xn X fb DN,ExAt (Ac l).2.2.extra xa xn X ∧ hs = headV (Ac l).2.2 xa xn ∧ d2 = 0 ∧ DecNew src fb DN ∧
        L = [f1,f2,f3,⟨zb,0,[c0,c1,c2,c3,c4,c5,.iface src.t src.v,.iface 190 (.pointer (some ⟨fb,0,none⟩)),.int .u32 ((d2 : Nat) : Int),c9]⟩,⟨zb,10,bs2⟩,⟨hb,0,hs⟩,X] ++ DN))
theorem readHeader_first {K : Known} {ea : Fin 5 → Addr} (hs : Sents K ea) (src : Src K ea) (l : List UInt8) (x1 x2 x3 : Frag) (zb d0 : Nat) (c0 c1 c2 c3 c4 c5 c9 dcv : Value) (bs0 : List Value) (DL : Frags) (hDL : DcIn dcv DL) (hA : src.At l x1 x2 x3) (hbs0 : bs0.length = 512) (hd0 : d0 < 4294967296) : Fn Tryz.prog K 51 #[.pointer (some ⟨zb,0,none⟩)] ([x1,x2,x3,⟨zb,0,[c0,c1,c2,c3,c4,c5,.iface src.t src.v,dcv,.int .u32 ((d0 : Nat) : Int),c9]⟩,⟨zb,10,bs0⟩] ++ DL) (HeadEnd src l zb c0 c1 c2 c3 c4 c5 c9 dcv DL) := by
 refine Fn.intro (args:=[.pointer (some ⟨zb,0,none⟩)]) (RR:=RetC1 2 6 3 _) Tryz.func51 rfl rfl Tryz.ntmps51 (resC1 Tryz.results51 Ta92 Tz92) ?_
 refine Bl (env2:=[(0,.pointer (some ⟨zb,0,none⟩))]) rfl<|Cr ?_
 refine Ak (Dy Tryz.zeroValue92) rfl ?_; rintro _ _ ⟨b2,rfl,rfl⟩; refine Ab (L2:=(_::_::_::_::_::_::_)) rfl ?_
 refine Aa (Bc (v:=Er.val ea .none) rfl) rfl<|Eb (Same.addEmpty (f:=⟨zb,10,bs0⟩) (by simp) 0)<|Bt [2,2,2,2,2,1,0] (A:=[_,_,_,_,_,_,_]) (F:=DL) rfl<|Ab (L2:=[x1,x2,x3,⟨zb,0,[c0,c1,c2,c3,c4,c5,.iface src.t src.v,dcv,.int .u32 ((d0 : Nat) : Int),c9]⟩,⟨zb,10,bs0⟩,⟨b2,0,[.string ⟨#[]⟩,.slice none 0 0,.int .u64 0,.int .i64 (0),.string ⟨#[]⟩,.int .u8 0]⟩,⟨zb,0,[]⟩] ++ DL) rfl<|Ek3 0 2 3 rfl<|Ap<|Ap ?_
 refine Ez (Same.splitAt (k:=10) 4 rfl rfl (List.take_append_drop 10 _).symm (by rw [List.length_take]; omega) rfl) ?_
 refine Bq (L2:=[_,_,_,_,_,_,_,_] ++ DL) rfl<|Br [0,1,2,4,0,16,32,64,136,256,512,512,4095] (.pure 0 240 (.pure 1 241 (.pure 2 243 (.pure 4 15 (.pure 5 31 (.pure 6 63 (.pure 7 127 (.seg [(3,247)] (.alt 8 (.pure 9 511 (.pure 10 3071 (.pure 11 2047 (.pure 12 4095 .done)))) .stop))))))))) mixed (by decide +kernel)<|Dm rfl rfl rfl<|Ai rfl (Ad rfl) rfl<|Ai rfl (Ae rfl fa99_1) rfl<|Dm rfl rfl rfl<|Ai rfl (Ad rfl) rfl<|Ai rfl (Ae rfl fa99_5) rfl<|Ai rfl (Fo (l:=0) (k:=.i64) (h:=10) rfl rfl rfl (by omega) (by omega) Tu97 Tz5) rfl<|Dn (v:=.slice (some ⟨zb,10,none⟩) (10) (512)) (Bo (by simp [part]) rfl rfl)<|Dc (by decide)<|Az rfl (An 5 (k:=6) rfl rfl rfl Ta94) rfl ?_
 refine Db<|Da ?_
 refine Df rfl (OpX.pick [2,2,2,0] (F:=(_::_::_::_::_)) rfl (Au rfl Tryz.call56 (Gf hs src l x1 x2 x3 zb 10 10 512 (List.take 10 _) hA (by rw [List.length_take]; omega) (by omega) (by omega)))) rfl ?_; rintro _ _ ⟨_,⟨f1,f2,f3,hF,rfl,rfl⟩,rfl⟩; refine Bf (L2:=(_::_::_::_::_::_::_::_::_)) rfl ?_
 refine Dm rfl rfl rfl<|Ai rfl (Bb rfl rfl) rfl<|Ai rfl (Bb rfl rfl) rfl<|Ai rfl (Bc rfl) rfl<|Dk3 0 2 3 rfl ?_
 refine Ez (Same.joinAt 3 3 rfl rfl (by rw [show 10 + 10 = 10 + (10 : Nat) from rfl]; congr 1; simp only [List.length_append,Bp,List.length_take,List.length_drop,min_i]; omega)) ?_
 refine Ge [1,1,1,1,0,0,0] (A:=[_,_,_,_,_,_,_]) (F:=DL) rfl<|Bq (L2:=[_,_,_,_,_,_,_] ++ DL) rfl<|Cr<|Em rfl rfl<|Ah (Dg rfl) rfl<|Ek4 0 2 3 22 rfl<|Dp rfl (fun h22 => ?_) (fun h22 => ?_)
 ·refine Cr<|Ah (Bn 5 (k:=0) rfl rfl rfl rfl Ta92 Tz92) rfl<|Em rfl rfl ?_
  refine Ao (Bi 5 (k:=0) rfl rfl rfl rfl rfl rfl Tz92 rfl) ?_; rintro _ _ ⟨rfl,rfl⟩; refine Ab (L2:=(_::_::_::_::_::_::_::_)) rfl ?_
  refine Ea rfl rfl<|Ek4 0 2 3 22 rfl<|Av ?_
  have hRR := readHead_bad h22
  refine ⟨_,_,⟨_,_,5,rfl,rfl,rfl⟩,rfl,_,_,_,_,_,_,_,rfl,rfl,?_,?_,?_,?_,.inl ⟨?_,[_],rfl⟩⟩
  · rw [hRR]; rfl
  · rw [hRR]; exact hF
  · rw [buf_join (by omega)]; exact hbs0
  · assumption
  · rw [hRR]; first | assumption | (exact Dl (by assumption)) | simp
 rw [h22]
 obtain ⟨v0,v1,v2,v3,v4,v5,v6,v7,v8,v9,r,hl⟩ := ten h22
 have hv0 := v0.toNat_lt
 have hv1 := v1.toNat_lt
 have hv2 := v2.toNat_lt
 have hv3 := v3.toNat_lt
 have hv4 := v4.toNat_lt
 have hv5 := v5.toNat_lt
 have hv6 := v6.toNat_lt
 have hv7 := v7.toNat_lt
 have hv8 := v8.toNat_lt
 have hv9 := v9.toNat_lt
 have hle := le32_lt hv4 hv5 hv6 hv7
 refine Bq (L2:=[f1,f2,f3,⟨zb,0,[c0,c1,c2,c3,c4,c5,.iface src.t src.v,dcv,.int .u32 ((d0 : Nat) : Int),c9]⟩,⟨zb,10,u8 v0::u8 v1::u8 v2::u8 v3::u8 v4::u8 v5::u8 v6::u8 v7::u8 v8::u8 v9::bs0.drop 10⟩,⟨b2,0,[.string ⟨#[]⟩,.slice none 0 0,.int .u64 0,.int .i64 (0),.string ⟨#[]⟩,.int .u8 0]⟩,⟨zb,0,[]⟩] ++ DL) (by rw [buf_full (full_len h22),hl]; rfl) ?_
 rw [show l.drop 10 = r by rw [hl]; rfl] at hF
 refine Ar<|Ap<|Cr<|Em rfl rfl<|Aa (Ad rfl) rfl<|Aa (Ae rfl fa99_5) rfl<|Aa (Bm (i:=0) rfl rfl (by omega) Tu97 Tz5) rfl<|Ah (An 4 (k:=0) rfl rfl rfl Ta5) rfl<|Aa (Fq (b:=((31 : Nat) : Int)) rfl rfl) rfl<|Em rfl rfl<|Ec (fun g31 => ?_) (fun g31 => ?_)
 ·refine Ag 31 true rfl rfl rfl rfl<|Ag 31 true rfl rfl rfl rfl<|Ag 31 true rfl rfl rfl rfl<|Ag 31 true rfl rfl rfl rfl<|Ag 31 true rfl rfl rfl rfl<|Ag 31 true rfl rfl rfl rfl<|Aa (By rfl rfl) rfl<|Em rfl rfl<|Ag 39 true rfl rfl rfl rfl<|Ag 39 true rfl rfl rfl rfl<|Ag 39 true rfl rfl rfl rfl<|Ag 39 true rfl rfl rfl rfl ?_
  refine Ag 39 true rfl rfl rfl rfl<|Ag 39 true rfl rfl rfl rfl<|Aa (By rfl rfl) rfl<|Ek5 0 2 3 22 46 rfl<|Ft rfl (rfl)<|Ap<|Br [0,0,1,7] (.alt 0 (.alt 1 (.alt 2 (.pure 3 7 .done) .stop) (.alt 2 (.seg [(1,5),(3,7)] .done) .stop)) (.alt 1 (.seg [(0,2)] (.alt 2 (.pure 3 7 .done) .stop)) .stop)) mixed (by decide +kernel)<|Hr ?_ ⟨?_,trivial⟩
  ·refine Fc rfl (Bn 5 (k:=0) rfl rfl rfl rfl Ta92 Tz92) rfl<|Hr ?_ ⟨?_,trivial⟩
   ·refine Fc rfl (Bd rfl hs.g1 Ta58) rfl<|Da ?_
    refine Bz rfl (Bi 5 (k:=0) rfl rfl rfl rfl rfl rfl Tz92 rfl) ?_; rintro _ _ ⟨rfl,rfl⟩; refine Bf (L2:=(_::_::_::_::_::_::_::_)) rfl ?_
    refine Ai rfl (Bc rfl) rfl<|Dk5 0 2 3 22 46 rfl<|Av ?_
    have hRR : Ac l = (.header,r,noHd) := by rw [hl,Ev,if_neg (by omega)]
    refine ⟨_,_,⟨_,_,5,rfl,rfl,rfl⟩,rfl,_,_,_,_,_,_,_,rfl,rfl,?_,?_,?_,?_,.inl ⟨?_,[_],rfl⟩⟩
    · rw [hRR]; done
    · rw [hRR]; exact hF
    · simp only [List.length_cons,List.length_drop]; omega
    · assumption
    · rw [hRR]; first | assumption | (exact Dl (by assumption)) | simp
   refine Bz rfl (Bi 5 (k:=0) rfl rfl rfl rfl rfl rfl Tz92 rfl) ?_; rintro _ _ ⟨rfl,rfl⟩; refine Bf (L2:=(_::_::_::_::_::_::_::_)) rfl ?_
   refine Dc (by decide)<|Az rfl (Bd rfl hs.g1 Ta58) rfl<|Bg rfl (Bc rfl) rfl<|Db<|Dk5 0 2 3 22 46 rfl<|Av ?_
   have hRR : Ac l = (.header,r,noHd) := by rw [hl,Ev,if_neg (by omega)]
   refine ⟨_,_,⟨_,_,5,rfl,rfl,rfl⟩,rfl,_,_,_,_,_,_,_,rfl,rfl,?_,?_,?_,?_,.inl ⟨?_,[_],rfl⟩⟩
   · rw [hRR]; done
   · rw [hRR]; exact hF
   · simp only [List.length_cons,List.length_drop]; omega
   · assumption
   · rw [hRR]; first | assumption | (exact Dl (by assumption)) | simp
  refine Fc rfl (Bd rfl hs.g1 Ta58) rfl<|Dc (by decide)<|Az rfl (Bn 5 (k:=0) rfl rfl rfl rfl Ta92 Tz92) rfl<|Db<|Da ?_
  refine Bz rfl (Bi 5 (k:=0) rfl rfl rfl rfl rfl rfl Tz92 rfl) ?_; rintro _ _ ⟨rfl,rfl⟩; refine Bf (L2:=(_::_::_::_::_::_::_::_)) rfl ?_
  refine Ai rfl (Bc rfl) rfl<|Dk5 0 2 3 22 46 rfl<|Av ?_
  have hRR : Ac l = (.header,r,noHd) := by rw [hl,Ev,if_neg (by omega)]
  refine ⟨_,_,⟨_,_,5,rfl,rfl,rfl⟩,rfl,_,_,_,_,_,_,_,rfl,rfl,?_,?_,?_,?_,.inl ⟨?_,[_],rfl⟩⟩
  · rw [hRR]; done
  · rw [hRR]; exact hF
  · simp only [List.length_cons,List.length_drop]; omega
  · assumption
  · rw [hRR]; first | assumption | (exact Dl (by assumption)) | simp
 refine Aj 31 rfl rfl<|Em rfl rfl<|Aj 31 rfl rfl<|Aa (Ad rfl) rfl<|Aj 31 rfl rfl<|Aa (Ae rfl fa99_5) rfl<|Aj 31 rfl rfl<|Aa (Bm (i:=1) rfl rfl (by omega) Tu97 Tz5) rfl<|Aj 31 rfl rfl<|Ah (An 4 (k:=1) rfl rfl rfl Ta5) rfl<|Aj 31 rfl rfl<|Aa (Fq (b:=((139 : Nat) : Int)) rfl rfl) rfl ?_
 refine Aa (Bs rfl rfl) rfl<|Em rfl rfl<|Ec (fun g39 => ?_) (fun g39 => ?_)
 ·refine Ag 39 true rfl rfl rfl rfl<|Ag 39 true rfl rfl rfl rfl<|Ag 39 true rfl rfl rfl rfl<|Ag 39 true rfl rfl rfl rfl<|Ag 39 true rfl rfl rfl rfl<|Ag 39 true rfl rfl rfl rfl<|Aa (By rfl rfl) rfl<|Ek5 0 2 3 22 46 rfl<|Ft rfl (rfl)<|Ap<|Br [0,0,1,7] (.alt 0 (.alt 1 (.alt 2 (.pure 3 7 .done) .stop) (.alt 2 (.seg [(1,5),(3,7)] .done) .stop)) (.alt 1 (.seg [(0,2)] (.alt 2 (.pure 3 7 .done) .stop)) .stop)) mixed (by decide +kernel)<|Hr ?_ ⟨?_,trivial⟩
  ·refine Fc rfl (Bn 5 (k:=0) rfl rfl rfl rfl Ta92 Tz92) rfl<|Hr ?_ ⟨?_,trivial⟩
   ·refine Fc rfl (Bd rfl hs.g1 Ta58) rfl<|Da ?_
    refine Bz rfl (Bi 5 (k:=0) rfl rfl rfl rfl rfl rfl Tz92 rfl) ?_; rintro _ _ ⟨rfl,rfl⟩; refine Bf (L2:=(_::_::_::_::_::_::_::_)) rfl ?_
    refine Ai rfl (Bc rfl) rfl<|Dk5 0 2 3 22 46 rfl<|Av ?_
    have hRR : Ac l = (.header,r,noHd) := by rw [hl,Ev,if_neg (by omega)]
    refine ⟨_,_,⟨_,_,5,rfl,rfl,rfl⟩,rfl,_,_,_,_,_,_,_,rfl,rfl,?_,?_,?_,?_,.inl ⟨?_,[_],rfl⟩⟩
    · rw [hRR]; done
    · rw [hRR]; exact hF
    · simp only [List.length_cons,List.length_drop]; omega
    · assumption
    · rw [hRR]; first | assumption | (exact Dl (by assumption)) | simp
   refine Bz rfl (Bi 5 (k:=0) rfl rfl rfl rfl rfl rfl Tz92 rfl) ?_; rintro _ _ ⟨rfl,rfl⟩; refine Bf (L2:=(_::_::_::_::_::_::_::_)) rfl ?_
   refine Dc (by decide)<|Az rfl (Bd rfl hs.g1 Ta58) rfl<|Bg rfl (Bc rfl) rfl<|Db<|Dk5 0 2 3 22 46 rfl<|Av ?_
   have hRR : Ac l = (.header,r,noHd) := by rw [hl,Ev,if_neg (by omega)]
   refine ⟨_,_,⟨_,_,5,rfl,rfl,rfl⟩,rfl,_,_,_,_,_,_,_,rfl,rfl,?_,?_,?_,?_,.inl ⟨?_,[_],rfl⟩⟩
   · rw [hRR]; done
   · rw [hRR]; exact hF
   · simp only [List.length_cons,List.length_drop]; omega
   · assumption
   · rw [hRR]; first | assumption | (exact Dl (by assumption)) | simp
  refine Fc rfl (Bd rfl hs.g1 Ta58) rfl<|Dc (by decide)<|Az rfl (Bn 5 (k:=0) rfl rfl rfl rfl Ta92 Tz92) rfl<|Db<|Da ?_
  refine Bz rfl (Bi 5 (k:=0) rfl rfl rfl rfl rfl rfl Tz92 rfl) ?_; rintro _ _ ⟨rfl,rfl⟩; refine Bf (L2:=(_::_::_::_::_::_::_::_)) rfl ?_
  refine Ai rfl (Bc rfl) rfl<|Dk5 0 2 3 22 46 rfl<|Av ?_
  have hRR : Ac l = (.header,r,noHd) := by rw [hl,Ev,if_neg (by omega)]
  refine ⟨_,_,⟨_,_,5,rfl,rfl,rfl⟩,rfl,_,_,_,_,_,_,_,rfl,rfl,?_,?_,?_,?_,.inl ⟨?_,[_],rfl⟩⟩
  · rw [hRR]; done
  · rw [hRR]; exact hF
  · simp only [List.length_cons,List.length_drop]; omega
  · assumption
  · rw [hRR]; first | assumption | (exact Dl (by assumption)) | simp
 refine Aj 39 rfl rfl<|Em rfl rfl<|Aj 39 rfl rfl<|Aa (Ad rfl) rfl<|Aj 39 rfl rfl<|Aa (Ae rfl fa99_5) rfl<|Aj 39 rfl rfl<|Aa (Bm (i:=2) rfl rfl (by omega) Tu97 Tz5) rfl<|Aj 39 rfl rfl<|Ah (An 4 (k:=2) rfl rfl rfl Ta5) rfl<|Aj 39 rfl rfl<|Aa (Fq (b:=((8 : Nat) : Int)) rfl rfl) rfl ?_
 refine Aa (Bs rfl rfl) rfl<|Ek5 0 2 3 22 46 rfl<|Be rfl (fun h46 => ?_) (fun h46 => ?_)
 ·refine Ap<|Br [0,0,1,7] (.alt 0 (.alt 1 (.alt 2 (.pure 3 7 .done) .stop) (.alt 2 (.seg [(1,5),(3,7)] .done) .stop)) (.alt 1 (.seg [(0,2)] (.alt 2 (.pure 3 7 .done) .stop)) .stop)) mixed (by decide +kernel)<|Hr ?_ ⟨?_,trivial⟩
  ·refine Fc rfl (Bn 5 (k:=0) rfl rfl rfl rfl Ta92 Tz92) rfl<|Hr ?_ ⟨?_,trivial⟩
   ·refine Fc rfl (Bd rfl hs.g1 Ta58) rfl<|Da ?_
    refine Bz rfl (Bi 5 (k:=0) rfl rfl rfl rfl rfl rfl Tz92 rfl) ?_; rintro _ _ ⟨rfl,rfl⟩; refine Bf (L2:=(_::_::_::_::_::_::_::_)) rfl ?_
    refine Ai rfl (Bc rfl) rfl<|Dk5 0 2 3 22 46 rfl<|Av ?_
    have hRR : Ac l = (.header,r,noHd) := by rw [hl,Ev,if_neg (by omega)]
    refine ⟨_,_,⟨_,_,5,rfl,rfl,rfl⟩,rfl,_,_,_,_,_,_,_,rfl,rfl,?_,?_,?_,?_,.inl ⟨?_,[_],rfl⟩⟩
    · rw [hRR]; done
    · rw [hRR]; exact hF
    · simp only [List.length_cons,List.length_drop]; omega
    · assumption
    · rw [hRR]; first | assumption | (exact Dl (by assumption)) | simp
   refine Bz rfl (Bi 5 (k:=0) rfl rfl rfl rfl rfl rfl Tz92 rfl) ?_; rintro _ _ ⟨rfl,rfl⟩; refine Bf (L2:=(_::_::_::_::_::_::_::_)) rfl ?_
   refine Dc (by decide)<|Az rfl (Bd rfl hs.g1 Ta58) rfl<|Bg rfl (Bc rfl) rfl<|Db<|Dk5 0 2 3 22 46 rfl<|Av ?_
   have hRR : Ac l = (.header,r,noHd) := by rw [hl,Ev,if_neg (by omega)]
   refine ⟨_,_,⟨_,_,5,rfl,rfl,rfl⟩,rfl,_,_,_,_,_,_,_,rfl,rfl,?_,?_,?_,?_,.inl ⟨?_,[_],rfl⟩⟩
   · rw [hRR]; done
   · rw [hRR]; exact hF
   · simp only [List.length_cons,List.length_drop]; omega
   · assumption
   · rw [hRR]; first | assumption | (exact Dl (by assumption)) | simp
  refine Fc rfl (Bd rfl hs.g1 Ta58) rfl<|Dc (by decide)<|Az rfl (Bn 5 (k:=0) rfl rfl rfl rfl Ta92 Tz92) rfl<|Db<|Da ?_
  refine Bz rfl (Bi 5 (k:=0) rfl rfl rfl rfl rfl rfl Tz92 rfl) ?_; rintro _ _ ⟨rfl,rfl⟩; refine Bf (L2:=(_::_::_::_::_::_::_::_)) rfl ?_
  refine Ai rfl (Bc rfl) rfl<|Dk5 0 2 3 22 46 rfl<|Av ?_
  have hRR : Ac l = (.header,r,noHd) := by rw [hl,Ev,if_neg (by omega)]
  refine ⟨_,_,⟨_,_,5,rfl,rfl,rfl⟩,rfl,_,_,_,_,_,_,_,rfl,rfl,?_,?_,?_,?_,.inl ⟨?_,[_],rfl⟩⟩
  · rw [hRR]; done
  · rw [hRR]; exact hF
  · simp only [List.length_cons,List.length_drop]; omega
  · assumption
  · rw [hRR]; first | assumption | (exact Dl (by assumption)) | simp
 refine Ar<|Cr<|Em rfl rfl<|Aa (Ad rfl) rfl<|Aa (Ae rfl fa99_5) rfl<|Aa (Bm (i:=3) rfl rfl (by omega) Tu97 Tz5) rfl<|Ah (An 4 (k:=3) rfl rfl rfl Ta5) rfl<|Ea rfl rfl<|Ek6 0 2 3 4 22 46 rfl<|Eg (M:=fun ee ll => keeps ee [0,2,3,4] = some [(0,.pointer (some ⟨zb,0,none⟩)),(2,.pointer (some ⟨b2,0,none⟩)),(3,Er.val ea .none),(4,.int .u8 ((v3.toNat : Nat) : Int))] ∧ ll = [f1,f2,f3,⟨zb,0,[c0,c1,c2,c3,c4,c5,.iface src.t src.v,dcv,.int .u32 ((d0 : Nat) : Int),c9]⟩,⟨zb,10,u8 v0::u8 v1::u8 v2::u8 v3::u8 v4::u8 v5::u8 v6::u8 v7::u8 v8::u8 v9::bs0.drop 10⟩,⟨b2,0,[.string ⟨#[]⟩,.slice none 0 0,.int .u64 0,.int .i64 (timeV (le32 v4.toNat v5.toNat v6.toNat v7.toNat)),.string ⟨#[]⟩,.int .u8 0]⟩,⟨zb,0,[]⟩] ++ DL) ?_ ?_
 ·refine Cr<|Em rfl rfl<|Aa (Ad rfl) rfl<|Aa (Ae rfl fa99_5) rfl<|Aa (Fo (l:=4) (h:=8) rfl rfl rfl (by omega) (by omega) Tu97 Tz5) rfl<|Am (v:=.slice (some ⟨zb,14,none⟩) (4) (508)) (Bo (by simp [part]) rfl rfl) ?_
  refine Ak (Au rfl Tryz.call58 (le32_spec zb 14 4 508 v4 v5 v6 v7 [] (by omega) (Reads.frag (i:=4) (k:=4) rfl rfl))) rfl ?_; rintro _ _ ⟨rfl,rfl⟩; refine Ab (L2:=(_::_::_::_::_::_::_::_)) rfl ?_
  refine Aa (Bv rfl Tu69 Tu2 (N.i64n (by omega))) rfl<|Ea rfl rfl<|Ek7 0 2 3 4 5 22 46 rfl<|Cr<|Em rfl rfl<|Aa (Gg (b:=((0 : Nat) : Int)) rfl rfl) rfl<|Ek8 0 2 3 4 5 22 46 61 rfl<|Be rfl (fun h61 => ?_) (fun h61 => ?_)
  ·refine Al<|Em rfl rfl ?_
   refine Ak (OpX.pick [] (F:=(_::_::_::_::_::_::_::_)) rfl (Au rfl Tryz.call70 (unix_spec (le32 v4.toNat v5.toNat v6.toNat v7.toNat) (by omega)))) rfl ?_; rintro _ _ ⟨_,⟨q1,q2,rfl,rfl⟩,rfl⟩; refine Ab (L2:=(_::_::_::_::_::_::_::_::_::_)) rfl ?_
   refine Bt [2,2,2,2,2,2,2] (A:=[_,_,_,_,_,_,_]) (F:=[_,_] ++ DL) rfl<|E.shed [7,7] (A:=[_,_]) (F:=[_,_,_,_,_,_,_] ++ DL) rfl<|Aa (Ae rfl fa92_2) rfl ?_
   refine Ao (Bi 5 (k:=2) rfl rfl rfl rfl rfl rfl Tz90 rfl) ?_; rintro _ _ ⟨rfl,rfl⟩; refine Ab (L2:=(_::_::_::_::_::_::_::_)) rfl ?_
   refine Ek8 0 2 3 4 5 22 46 61 rfl ?_
   exact ⟨rfl,congrArg (fun x : Int => [f1,f2,f3,⟨zb,0,[c0,c1,c2,c3,c4,c5,.iface src.t src.v,dcv,.int .u32 ((d0 : Nat) : Int),c9]⟩,⟨zb,10,u8 v0::u8 v1::u8 v2::u8 v3::u8 v4::u8 v5::u8 v6::u8 v7::u8 v8::u8 v9::bs0.drop 10⟩,(⟨b2,0,[.string ⟨#[]⟩,.slice none 0 0,.int .u64 0,.int .i64 (x),.string ⟨#[]⟩,.int .u8 0]⟩ : Frag),⟨zb,0,[]⟩] ++ DL) (timeV_pos h61)⟩
  refine Ar ?_
  exact ⟨rfl,congrArg (fun x : Int => [f1,f2,f3,⟨zb,0,[c0,c1,c2,c3,c4,c5,.iface src.t src.v,dcv,.int .u32 ((d0 : Nat) : Int),c9]⟩,⟨zb,10,u8 v0::u8 v1::u8 v2::u8 v3::u8 v4::u8 v5::u8 v6::u8 v7::u8 v8::u8 v9::bs0.drop 10⟩,(⟨b2,0,[.string ⟨#[]⟩,.slice none 0 0,.int .u64 0,.int .i64 (x),.string ⟨#[]⟩,.int .u8 0]⟩ : Frag),⟨zb,0,[]⟩] ++ DL) (timeV_zero h61)⟩
 rintro _ _ ⟨hq10,rfl⟩
 refine Ba _ hq10<|Cr<|Em rfl rfl<|Aa (Ad rfl) rfl<|Aa (Ae rfl fa99_5) rfl<|Aa (Bm (i:=9) rfl rfl (by omega) Tu97 Tz5) rfl<|Ah (An 4 (k:=9) rfl rfl rfl Ta5) rfl<|Aa (Ae rfl fa92_4) rfl ?_
 refine Ao (Aq 5 (k:=5) rfl rfl rfl rfl rfl Tz5) ?_; rintro _ _ ⟨rfl,rfl⟩; refine Ab (L2:=(_::_::_::_::_::_::_::_)) rfl ?_
 refine Ek4 0 2 3 4 rfl<|Eg (M:=fun ee ll => ∃ (l2 : List UInt8),∃ (d : Nat),∃ (h : Hd),∃ (bs : List Value),∃ (hb : Nat),∃ (xa : Option Addr),∃ (xn : Nat),∃ (xf : Frag),∃ (f1 : Frag),∃ (f2 : Frag),∃ (f3 : Frag),keeps ee [0,2,3,4] = some [(0,.pointer (some ⟨zb,0,none⟩)),(2,.pointer (some ⟨hb,0,none⟩)),(3,Er.val ea .none),(4,.int .u8 ((v3.toNat : Nat) : Int))] ∧ ll = [f1,f2,f3,⟨zb,0,[c0,c1,c2,c3,c4,c5,.iface src.t src.v,dcv,.int .u32 ((d : Nat) : Int),c9]⟩,⟨zb,10,bs⟩,⟨hb,0,[.string h.comment,.slice xa xn xn,.int .u64 0,.int .i64 (timeV h.mod),.string h.name,.int .u8 ((h.os : Nat) : Int)]⟩,xf] ++ DL ∧ (Ac l = rd1 l2 v3.toNat d h) ∧ (src.At l2 f1 f2 f3) ∧ (bs.length = 512) ∧ (d < 4294967296) ∧ (ExAt h.extra xa xn xf)) ?_ ?_
 ·refine Al<|Em rfl rfl<|Em rfl rfl<|Aa (Ad rfl) rfl<|Aa (Ae rfl fa99_5) rfl<|Aa (Fo (l:=0) (k:=.i64) (h:=10) rfl rfl rfl (by omega) (by omega) Tu97 Tz5) rfl<|Am (v:=.slice (some ⟨zb,10,none⟩) (10) (512)) (Bo (by simp [part]) rfl rfl) ?_
  refine Ak (Au rfl Tryz.call71 (ChecksumIEEE_spec zb 10 512 [v0,v1,v2,v3,v4,v5,v6,v7,v8,v9] (Reads.frag (i:=4) (k:=0) rfl rfl) (by simp) (by simp))) rfl ?_; rintro _ _ ⟨rfl,rfl⟩; refine Ab (L2:=(_::_::_::_::_::_::_::_)) rfl ?_
  refine Aa (Ad rfl) rfl<|Aa (Ae rfl fa99_3) rfl ?_
  refine Ao (Aq 3 (k:=8) rfl rfl rfl rfl rfl Tz69) ?_; rintro _ _ ⟨rfl,rfl⟩; refine Ab (L2:=(_::_::_::_::_::_::_::_)) rfl ?_
  refine Ek4 0 2 3 4 rfl ?_
  exact ⟨r,crcOn IEEE 0 [v0,v1,v2,v3,v4,v5,v6,v7,v8,v9],{ noHd with mod := le32 v4.toNat v5.toNat v6.toNat v7.toNat,os := v9.toNat },_,b2,none,0,⟨zb,0,[]⟩,f1,f2,f3,rfl,rfl,by rw [hl,Ev,if_pos (by omega)],hF,by simp only [List.length_cons,List.length_drop]; omega,Gr (by decide) (by decide) _,⟨rfl,rfl,rfl⟩⟩
 rintro _ _ ⟨l2,d,h,bs,hb,xa,xn,xf,f1,f2,f3,hq12,rfl,hR,hG,hbs,hd,hX⟩
 refine Ba _ hq12<|Eg (M:=fun ee ll => ∃ (l2 : List UInt8),∃ (d : Nat),∃ (h : Hd),∃ (bs : List Value),∃ (hb : Nat),∃ (xa : Option Addr),∃ (xn : Nat),∃ (xf : Frag),∃ (f1 : Frag),∃ (f2 : Frag),∃ (f3 : Frag),keeps ee [0,2,3,4] = some [(0,.pointer (some ⟨zb,0,none⟩)),(2,.pointer (some ⟨hb,0,none⟩)),(3,Er.val ea .none),(4,.int .u8 ((v3.toNat : Nat) : Int))] ∧ ll = [f1,f2,f3,⟨zb,0,[c0,c1,c2,c3,c4,c5,.iface src.t src.v,dcv,.int .u32 ((d : Nat) : Int),c9]⟩,⟨zb,10,bs⟩,⟨hb,0,[.string h.comment,.slice xa xn xn,.int .u64 0,.int .i64 (timeV h.mod),.string h.name,.int .u8 ((h.os : Nat) : Int)]⟩,xf] ++ DL ∧ (Ac l = rd2 l2 v3.toNat d h) ∧ (src.At l2 f1 f2 f3) ∧ (bs.length = 512) ∧ (d < 4294967296) ∧ (ExAt h.extra xa xn xf)) ?_ ?_
 ·refine Cr<|Em rfl rfl<|Aa (Ei (b:=((4 : Nat) : Int)) rfl rfl (N.and_u8 (by omega) (by omega))) rfl<|Aa (Fq (b:=((0 : Nat) : Int)) rfl rfl) rfl<|Ek5 0 2 3 4 81 rfl<|Be rfl (fun h81 => ?_) (fun h81 => ?_)
  ·refine Ap<|Ap ?_
   refine Ez (Same.splitAt (k:=2) 4 rfl rfl (List.take_append_drop 2 _).symm (by rw [List.length_take]; omega) rfl) ?_
   refine Bq (L2:=[_,_,_,_,_,_,_,_] ++ DL) rfl<|Br [0,1,2,4,0,16,32,64,136,256,512,512,4095] (.pure 0 240 (.pure 1 241 (.pure 2 243 (.pure 4 15 (.pure 5 31 (.pure 6 63 (.pure 7 127 (.seg [(3,247)] (.alt 8 (.pure 9 511 (.pure 10 3071 (.pure 11 2047 (.pure 12 4095 .done)))) .stop))))))))) mixed (by decide +kernel)<|Dm rfl rfl rfl<|Ai rfl (Ad rfl) rfl<|Ai rfl (Ae rfl fa99_1) rfl<|Dm rfl rfl rfl<|Ai rfl (Ad rfl) rfl<|Ai rfl (Ae rfl fa99_5) rfl<|Ai rfl (Fo (l:=0) (k:=.i64) (h:=2) rfl rfl rfl (by omega) (by omega) Tu97 Tz5) rfl<|Dn (v:=.slice (some ⟨zb,10,none⟩) (2) (512)) (Bo (by simp [part]) rfl rfl)<|Dc (by decide)<|Az rfl (An 5 (k:=6) rfl rfl rfl Ta94) rfl ?_
   refine Db<|Da ?_
   refine Df rfl (OpX.pick [2,2,2,0] (F:=(_::_::_::_::_)) rfl (Au rfl Tryz.call56 (Gf hs src l2 f1 f2 f3 zb 10 2 512 (List.take 2 _) hG (by rw [List.length_take]; omega) (by omega) (by omega)))) rfl ?_; rintro _ _ ⟨_,⟨k1,k2,k3,hF,rfl,rfl⟩,rfl⟩; refine Bf (L2:=(_::_::_::_::_::_::_::_::_)) rfl ?_
   refine Dm rfl rfl rfl<|Ai rfl (Bb rfl rfl) rfl<|Ai rfl (Bb rfl rfl) rfl<|Ai rfl (Bc rfl) rfl<|Dk5 0 2 3 4 81 rfl ?_
   refine Ez (Same.joinAt 3 3 rfl rfl (by rw [show 10 + 2 = 10 + (2 : Nat) from rfl]; congr 1; simp only [List.length_append,Bp,List.length_take,List.length_drop,min_i]; omega)) ?_
   refine Ge [1,1,1,1,0,0,0] (A:=[_,_,_,_,_,_,_]) (F:=DL) rfl<|Bq (L2:=[_,_,_,_,_,_,_] ++ DL) rfl<|Cr<|Em rfl rfl<|Ah (Dg rfl) rfl<|Ek6 0 2 3 4 81 95 rfl<|Dp rfl (fun h95 => ?_) (fun h95 => ?_)
   ·refine Ap<|Br [0,0,2,5,15] (.pure 1 1 (.alt 0 (.alt 2 (.alt 3 (.pure 4 15 .done) .stop) .stop) (.alt 2 (.seg [(0,6)] (.alt 3 (.pure 4 15 .done) .stop)) .stop))) mixed (by decide +kernel)<|Dm rfl rfl rfl<|Hr ?_ ⟨?_,trivial⟩
    ·refine Fc rfl (Bn 5 (k:=0) rfl rfl rfl rfl Ta92 Tz92) rfl<|Da ?_
     refine Df rfl (OpX.pick [] (F:=(_::_::_::_::_::_::_::_)) rfl (Au rfl Tryz.call57 (Ew (L:=[]) hs _))) rfl ?_; rintro _ _ ⟨_,⟨rfl,rfl⟩,rfl⟩; refine Bf (L2:=(_::_::_::_::_::_::_::_)) rfl ?_
     refine Da ?_
     refine Bz rfl (Bi 5 (k:=0) rfl rfl rfl rfl rfl rfl Tz92 rfl) ?_; rintro _ _ ⟨rfl,rfl⟩; refine Bf (L2:=(_::_::_::_::_::_::_::_)) rfl ?_
     refine Ai rfl (Bc rfl) rfl<|Dk6 0 2 3 4 81 95 rfl<|Av ?_
     have hRR : Ac l = (noEof (De l2 2),l2.drop 2,h) := by rw [hR,rd1,if_neg (by omega),if_pos h95]
     refine ⟨_,_,⟨_,_,5,rfl,rfl,rfl⟩,rfl,_,_,_,_,_,_,_,rfl,rfl,?_,?_,?_,?_,.inl ⟨?_,[_],rfl⟩⟩
     · rw [hRR]; done
     · rw [hRR]; exact hF
     · rw [buf_join (by omega)]; exact hbs
     · assumption
     · rw [hRR]; first | assumption | (exact Dl (by assumption)) | simp
    refine Df rfl (OpX.pick [] (F:=(_::_::_::_::_::_::_::_)) rfl (Au rfl Tryz.call57 (Ew (L:=[]) hs _))) rfl ?_; rintro _ _ ⟨_,⟨rfl,rfl⟩,rfl⟩; refine Bf (L2:=(_::_::_::_::_::_::_::_)) rfl ?_
    refine Dc (by decide)<|Az rfl (Bn 5 (k:=0) rfl rfl rfl rfl Ta92 Tz92) rfl<|Db<|Da ?_
    refine Bz rfl (Bi 5 (k:=0) rfl rfl rfl rfl rfl rfl Tz92 rfl) ?_; rintro _ _ ⟨rfl,rfl⟩; refine Bf (L2:=(_::_::_::_::_::_::_::_)) rfl ?_
    refine Ai rfl (Bc rfl) rfl<|Dk6 0 2 3 4 81 95 rfl<|Av ?_
    have hRR : Ac l = (noEof (De l2 2),l2.drop 2,h) := by rw [hR,rd1,if_neg (by omega),if_pos h95]
    refine ⟨_,_,⟨_,_,5,rfl,rfl,rfl⟩,rfl,_,_,_,_,_,_,_,rfl,rfl,?_,?_,?_,?_,.inl ⟨?_,[_],rfl⟩⟩
    · rw [hRR]; done
    · rw [hRR]; exact hF
    · rw [buf_join (by omega)]; exact hbs
    · assumption
    · rw [hRR]; first | assumption | (exact Dl (by assumption)) | simp
   rw [h95]
   obtain ⟨w0,w1,r2,hl2⟩ := two h95
   have hw0 := w0.toNat_lt
   have hw1 := w1.toNat_lt
   have h16 := le16_lt hw0 hw1
   have e1 : l2.drop 2 = r2 := by rw [hl2]; rfl
   have e2 : le16of l2 = le16 w0.toNat w1.toNat := by rw [hl2]; rfl
   refine Bq (L2:=[k1,k2,k3,⟨zb,0,[c0,c1,c2,c3,c4,c5,.iface src.t src.v,dcv,.int .u32 ((d : Nat) : Int),c9]⟩,⟨zb,10,u8 w0::u8 w1::bs.drop 2⟩,⟨hb,0,[.string h.comment,.slice xa xn xn,.int .u64 0,.int .i64 (timeV h.mod),.string h.name,.int .u8 ((h.os : Nat) : Int)]⟩,xf] ++ DL) (by rw [buf_full (full_len h95),hl2]; rfl) ?_
   rw [e1] at hF
   refine Ar<|Ap<|Br [0,0,2,4,8,0,32,64,128,272,1023,2047,3071] (.pure 0 1022 (.pure 1 481 (.pure 2 483 (.pure 3 487 (.pure 5 31 (.pure 6 63 (.pure 7 127 (.pure 8 255 (.seg [(4,495)] (.alt 9 (.pure 10 1023 (.pure 11 2047 (.alt 12 .done .stop))) .stop)))))))))) mixed (by decide +kernel)<|Dm rfl rfl rfl<|Dm rfl rfl rfl<|Ai rfl (Ad rfl) rfl<|Ai rfl (Ae rfl fa99_3) rfl<|Dm rfl rfl rfl<|Ai rfl (Ad rfl) rfl<|Ai rfl (Ae rfl fa99_5) rfl<|Ai rfl (Fo (l:=0) (k:=.i64) (h:=2) rfl rfl rfl (by omega) (by omega) Tu97 Tz5) rfl<|Dn (v:=.slice (some ⟨zb,10,none⟩) (2) (512)) (Bo (by simp [part]) rfl rfl) ?_
   refine Dc (by decide)<|Az rfl (An 3 (k:=8) rfl rfl rfl Ta69) rfl<|Db<|Da ?_
   refine Df rfl (Au rfl Tryz.call55 (Gt d zb 10 512 [w0,w1] hd (Reads.frag (i:=4) (k:=0) rfl rfl) (by simp) (by simp))) rfl ?_; rintro _ _ ⟨rfl,rfl⟩; refine Bf (L2:=(_::_::_::_::_::_::_::_)) rfl ?_
   refine Ai rfl (Ad rfl) rfl<|Ai rfl (Ae rfl fa99_3) rfl<|Da ?_
   refine Bz rfl (Aq 3 (k:=8) rfl rfl rfl rfl rfl Tz69) ?_; rintro _ _ ⟨rfl,rfl⟩; refine Bf (L2:=(_::_::_::_::_::_::_::_)) rfl ?_
   refine Dk6 0 2 3 4 81 95 rfl<|Cr<|Em rfl rfl<|Aa (Ad rfl) rfl<|Aa (Ae rfl fa99_5) rfl<|Aa (Fo (l:=0) (k:=.i64) (h:=2) rfl rfl rfl (by omega) (by omega) Tu97 Tz5) rfl<|Am (v:=.slice (some ⟨zb,10,none⟩) (2) (512)) (Bo (by simp [part]) rfl rfl) ?_
   refine Ak (Au rfl Tryz.call72 (le16_spec zb 10 2 512 w0 w1 [] (by omega) (Reads.frag (i:=4) (k:=0) rfl rfl))) rfl ?_; rintro _ _ ⟨rfl,rfl⟩; refine Ab (L2:=(_::_::_::_::_::_::_::_)) rfl ?_
   refine Ak (X.make (l:=le16 w0.toNat w1.toNat) (c:=le16 w0.toNat w1.toNat) (bytes:=1) Tu25 infoB (z:=.int .u8 0) rfl rfl rfl rfl rfl rfl (Nat.le_refl _) (by omega) (by omega)) rfl ?_; rintro _ _ ⟨eb,rfl,rfl⟩; refine Ab (L2:=(_::_::_::_::_::_::_::_::_)) rfl ?_
   refine Bt [1,1,1,1,1,1,0] (A:=[_,_,_,_,_,_,_]) (F:=[_] ++ DL) rfl<|E.shed [7] (A:=[_]) (F:=[_,_,_,_,_,_,_] ++ DL) rfl<|Ea rfl rfl<|Ek7 0 2 3 4 6 81 95 rfl<|Ap<|Cr<|Em rfl rfl<|Aa (Ad rfl) rfl<|Aa (Ae rfl fa99_1) rfl<|Ah (An 3 (k:=6) rfl rfl rfl Ta94) rfl<|Em rfl rfl ?_
   refine Ak (OpX.pick [0,0,0,3] (F:=(_::_::_::_)) rfl (Au rfl Tryz.call56 (Gf hs src r2 k1 k2 k3 eb 0 (le16 w0.toNat w1.toNat) (le16 w0.toNat w1.toNat) (List.replicate (le16 w0.toNat w1.toNat) (.int .u8 0)) hF (by rw [List.length_replicate]) (Nat.le_refl _) (by omega)))) rfl ?_; rintro _ _ ⟨_,⟨j1,j2,j3,hJ,rfl,rfl⟩,rfl⟩; refine Ab (L2:=(_::_::_::_::_::_::_::_)) rfl ?_
   refine Bt [0,0,0,1,1,1,0] (A:=[_,_,_,_,_,_,_]) (F:=DL) rfl<|Ab (L2:=[_,_,_,_,_,_,_] ++ DL) rfl<|Em rfl rfl<|Aa (Bb rfl rfl) rfl<|Aa (Bb rfl rfl) rfl<|Ea rfl rfl<|Ek7 0 2 3 4 6 81 95 rfl<|Cr<|Em rfl rfl<|Ah (Dg rfl) rfl<|Ek8 0 2 3 4 6 81 95 127 rfl<|Dp rfl (fun h127 => ?_) (fun h127 => ?_)
   ·refine Ap<|Br [0,0,2,5,15] (.pure 1 1 (.alt 0 (.alt 2 (.alt 3 (.pure 4 15 .done) .stop) .stop) (.alt 2 (.seg [(0,6)] (.alt 3 (.pure 4 15 .done) .stop)) .stop))) mixed (by decide +kernel)<|Dm rfl rfl rfl<|Hr ?_ ⟨?_,trivial⟩
    ·refine Fc rfl (Bn 5 (k:=0) rfl rfl rfl rfl Ta92 Tz92) rfl<|Da ?_
     refine Df rfl (OpX.pick [] (F:=(_::_::_::_::_::_::_::_)) rfl (Au rfl Tryz.call57 (Ew (L:=[]) hs _))) rfl ?_; rintro _ _ ⟨_,⟨rfl,rfl⟩,rfl⟩; refine Bf (L2:=(_::_::_::_::_::_::_::_)) rfl ?_
     refine Da ?_
     refine Bz rfl (Bi 5 (k:=0) rfl rfl rfl rfl rfl rfl Tz92 rfl) ?_; rintro _ _ ⟨rfl,rfl⟩; refine Bf (L2:=(_::_::_::_::_::_::_::_)) rfl ?_
     refine Ai rfl (Bc rfl) rfl<|Dk8 0 2 3 4 6 81 95 127 rfl<|Av ?_
     have hRR : Ac l = (noEof (De r2 (le16 w0.toNat w1.toNat)),r2.drop (le16 w0.toNat w1.toNat),h) := by rw [hR,rd1,if_neg (by omega),if_neg (by simpa using h95),e1,e2,if_pos h127]
     refine ⟨_,_,⟨_,_,5,rfl,rfl,rfl⟩,rfl,_,_,_,_,_,_,_,rfl,rfl,?_,?_,?_,?_,.inl ⟨?_,[_],rfl⟩⟩
     · rw [hRR]; done
     · rw [hRR]; exact hJ
     · simp only [List.length_cons,List.length_drop]; omega
     · exact Gr (by decide) hd _
     · rw [hRR]; first | assumption | (exact Dl (by assumption)) | simp
    refine Df rfl (OpX.pick [] (F:=(_::_::_::_::_::_::_::_)) rfl (Au rfl Tryz.call57 (Ew (L:=[]) hs _))) rfl ?_; rintro _ _ ⟨_,⟨rfl,rfl⟩,rfl⟩; refine Bf (L2:=(_::_::_::_::_::_::_::_)) rfl ?_
    refine Dc (by decide)<|Az rfl (Bn 5 (k:=0) rfl rfl rfl rfl Ta92 Tz92) rfl<|Db<|Da ?_
    refine Bz rfl (Bi 5 (k:=0) rfl rfl rfl rfl rfl rfl Tz92 rfl) ?_; rintro _ _ ⟨rfl,rfl⟩; refine Bf (L2:=(_::_::_::_::_::_::_::_)) rfl ?_
    refine Ai rfl (Bc rfl) rfl<|Dk8 0 2 3 4 6 81 95 127 rfl<|Av ?_
    have hRR : Ac l = (noEof (De r2 (le16 w0.toNat w1.toNat)),r2.drop (le16 w0.toNat w1.toNat),h) := by rw [hR,rd1,if_neg (by omega),if_neg (by simpa using h95),e1,e2,if_pos h127]
    refine ⟨_,_,⟨_,_,5,rfl,rfl,rfl⟩,rfl,_,_,_,_,_,_,_,rfl,rfl,?_,?_,?_,?_,.inl ⟨?_,[_],rfl⟩⟩
    · rw [hRR]; done
    · rw [hRR]; exact hJ
    · simp only [List.length_cons,List.length_drop]; omega
    · exact Gr (by decide) hd _
    · rw [hRR]; first | assumption | (exact Dl (by assumption)) | simp
   rw [h127]
   have hn := full_len h127
   refine Bq (L2:=[j1,j2,j3,⟨zb,0,[c0,c1,c2,c3,c4,c5,.iface src.t src.v,dcv,.int .u32 ((crcOn IEEE d [w0,w1] : Nat) : Int),c9]⟩,⟨zb,10,u8 w0::u8 w1::bs.drop 2⟩,⟨hb,0,[.string h.comment,.slice xa xn xn,.int .u64 0,.int .i64 (timeV h.mod),.string h.name,.int .u8 ((h.os : Nat) : Int)]⟩,⟨eb,0,bytesV (r2.take (le16 w0.toNat w1.toNat))⟩] ++ DL) (by rw [full_all hn List.length_replicate]; rfl) ?_
   refine Ar<|Cr<|Em rfl rfl<|Em rfl rfl<|Aa (Ad rfl) rfl<|Aa (Ae rfl fa99_3) rfl<|Ah (An 3 (k:=8) rfl rfl rfl Ta69) rfl<|Em rfl rfl ?_
   refine Am (v:=.slice (some ⟨eb,0,none⟩) ((r2.take (le16 w0.toNat w1.toNat)).length) (le16 w0.toNat w1.toNat)) (Bo rfl (by rw [List.length_take]; omega) rfl) ?_
   refine Ak (Au rfl Tryz.call55 (Gt (crcOn IEEE d [w0,w1]) eb 0 (le16 w0.toNat w1.toNat) (r2.take (le16 w0.toNat w1.toNat)) (Gr (by decide) hd _) (Reads.frag (i:=6) (k:=0) rfl part_all) (by rw [List.length_take]; omega) (by rw [List.length_take]; omega))) rfl ?_; rintro _ _ ⟨rfl,rfl⟩; refine Ab (L2:=(_::_::_::_::_::_::_::_)) rfl ?_
   refine Aa (Ad rfl) rfl<|Aa (Ae rfl fa99_3) rfl ?_
   refine Ao (Aq 3 (k:=8) rfl rfl rfl rfl rfl Tz69) ?_; rintro _ _ ⟨rfl,rfl⟩; refine Ab (L2:=(_::_::_::_::_::_::_::_)) rfl ?_
   refine Ek8 0 2 3 4 6 81 95 127 rfl<|Al<|Em rfl rfl<|Aa (Ae rfl fa92_1) rfl ?_
   refine Ao (Aq 5 (k:=1) rfl rfl rfl rfl rfl Tz25) ?_; rintro _ _ ⟨rfl,rfl⟩; refine Ab (L2:=(_::_::_::_::_::_::_::_)) rfl ?_
   refine Ek8 0 2 3 4 6 81 95 127 rfl ?_
   exact ⟨r2.drop (le16 w0.toNat w1.toNat),crcOn IEEE (crcOn IEEE d [w0,w1]) (r2.take (le16 w0.toNat w1.toNat)),{ h with extra := some (r2.take (le16 w0.toNat w1.toNat)) },_,hb,some ⟨eb,0,none⟩,le16 w0.toNat w1.toNat,_,j1,j2,j3,rfl,rfl,by rw [hR,rd1,if_neg (by omega),if_neg (by simpa using h95),e1,e2,if_neg (by simpa using h127),hl2]; rfl,hJ,by simp only [List.length_cons,List.length_drop]; omega,Gr (by decide) (Gr (by decide) hd _) _,⟨eb,rfl,by rw [List.length_take,Nat.min_eq_left hn],rfl,by rw [List.length_take]; omega⟩⟩
  refine Ar ?_
  exact ⟨l2,d,h,bs,hb,xa,xn,xf,f1,f2,f3,rfl,rfl,by rw [hR,rd1,if_pos (by omega)],hG,hbs,hd,hX⟩
 rintro _ _ ⟨l2,d,h,bs,hb,xa,xn,xf,f1,f2,f3,hq23,rfl,hR,hG,hbs,hd,hX⟩
 refine Ba _ hq23<|Cr<|Ea rfl rfl<|Ek5 0 2 3 4 7 rfl<|Eg (M:=fun ee ll => ∃ (l2 : List UInt8),∃ (d : Nat),∃ (h : Hd),∃ (bs : List Value),∃ (hb : Nat),∃ (xa : Option Addr),∃ (xn : Nat),∃ (xf : Frag),∃ (f1 : Frag),∃ (f2 : Frag),∃ (f3 : Frag),keeps ee [0,2,3,4] = some [(0,.pointer (some ⟨zb,0,none⟩)),(2,.pointer (some ⟨hb,0,none⟩)),(3,Er.val ea .none),(4,.int .u8 ((v3.toNat : Nat) : Int))] ∧ ll = [f1,f2,f3,⟨zb,0,[c0,c1,c2,c3,c4,c5,.iface src.t src.v,dcv,.int .u32 ((d : Nat) : Int),c9]⟩,⟨zb,10,bs⟩,⟨hb,0,[.string h.comment,.slice xa xn xn,.int .u64 0,.int .i64 (timeV h.mod),.string h.name,.int .u8 ((h.os : Nat) : Int)]⟩,xf] ++ DL ∧ (Ac l = rd3 l2 v3.toNat d h) ∧ (src.At l2 f1 f2 f3) ∧ (bs.length = 512) ∧ (d < 4294967296) ∧ (ExAt h.extra xa xn xf)) ?_ ?_
 ·refine Cr<|Em rfl rfl<|Aa (Ei (b:=((8 : Nat) : Int)) rfl rfl (N.and_u8 (by omega) (by omega))) rfl<|Aa (Fq (b:=((0 : Nat) : Int)) rfl rfl) rfl<|Ek6 0 2 3 4 7 144 rfl<|Be rfl (fun h144 => ?_) (fun h144 => ?_)
  ·refine Ap<|Cr<|Em rfl rfl ?_
   refine Ak (OpX.pick [0,0,0,0,0] (F:=(_::_::_)) rfl (Au rfl Tryz.call73 (readString_spec hs src l2 f1 f2 f3 zb d c0 c1 c2 c3 c4 c5 dcv c9 bs hG hbs hd))) rfl ?_; rintro _ _ ⟨_,⟨k1,k2,k3,bs2,hF,hbs2,rfl,rfl⟩,rfl⟩; refine Ab (L2:=(_::_::_::_::_::_::_::_)) rfl ?_
   refine Em rfl rfl<|Aa (Bb rfl rfl) rfl<|Aa (Bb rfl rfl) rfl<|Ea rfl rfl<|Ea rfl rfl<|Ek6 0 2 3 4 7 144 rfl<|Cr<|Em rfl rfl<|Ah (Dg rfl) rfl<|Ek7 0 2 3 4 7 144 151 rfl<|Dp rfl (fun h151 => ?_) (fun h151 => ?_)
   ·refine Ap<|Br [0,0,2,5,15] (.pure 1 1 (.alt 0 (.alt 2 (.alt 3 (.pure 4 15 .done) .stop) .stop) (.alt 2 (.seg [(0,6)] (.alt 3 (.pure 4 15 .done) .stop)) .stop))) mixed (by decide +kernel)<|Dm rfl rfl rfl<|Hr ?_ ⟨?_,trivial⟩
    ·refine Fc rfl (Bn 5 (k:=0) rfl rfl rfl rfl Ta92 Tz92) rfl<|Da ?_
     refine Df rfl (OpX.pick [] (F:=(_::_::_::_::_::_::_::_)) rfl (Au rfl Tryz.call57 (Ew (L:=[]) hs _))) rfl ?_; rintro _ _ ⟨_,⟨rfl,rfl⟩,rfl⟩; refine Bf (L2:=(_::_::_::_::_::_::_::_)) rfl ?_
     refine Da ?_
     refine Bz rfl (Bi 5 (k:=0) rfl rfl rfl rfl rfl rfl Tz92 rfl) ?_; rintro _ _ ⟨rfl,rfl⟩; refine Bf (L2:=(_::_::_::_::_::_::_::_)) rfl ?_
     refine Ai rfl (Bc rfl) rfl<|Dk7 0 2 3 4 7 144 151 rfl<|Av ?_
     have hRR : Ac l = (noEof (strEr l2),l2.drop (Fb l2),h) := by rw [hR,rd2,if_neg (by omega),if_pos h151]
     refine ⟨_,_,⟨_,_,5,rfl,rfl,rfl⟩,rfl,_,_,_,_,_,_,_,rfl,rfl,?_,?_,?_,?_,.inl ⟨?_,[_],rfl⟩⟩
     · rw [hRR]; done
     · rw [hRR]; exact hF
     · exact hbs2
     · exact strCrc_lt hd l2
     · rw [hRR]; first | assumption | (exact Dl (by assumption)) | simp
    refine Df rfl (OpX.pick [] (F:=(_::_::_::_::_::_::_::_)) rfl (Au rfl Tryz.call57 (Ew (L:=[]) hs _))) rfl ?_; rintro _ _ ⟨_,⟨rfl,rfl⟩,rfl⟩; refine Bf (L2:=(_::_::_::_::_::_::_::_)) rfl ?_
    refine Dc (by decide)<|Az rfl (Bn 5 (k:=0) rfl rfl rfl rfl Ta92 Tz92) rfl<|Db<|Da ?_
    refine Bz rfl (Bi 5 (k:=0) rfl rfl rfl rfl rfl rfl Tz92 rfl) ?_; rintro _ _ ⟨rfl,rfl⟩; refine Bf (L2:=(_::_::_::_::_::_::_::_)) rfl ?_
    refine Ai rfl (Bc rfl) rfl<|Dk7 0 2 3 4 7 144 151 rfl<|Av ?_
    have hRR : Ac l = (noEof (strEr l2),l2.drop (Fb l2),h) := by rw [hR,rd2,if_neg (by omega),if_pos h151]
    refine ⟨_,_,⟨_,_,5,rfl,rfl,rfl⟩,rfl,_,_,_,_,_,_,_,rfl,rfl,?_,?_,?_,?_,.inl ⟨?_,[_],rfl⟩⟩
    · rw [hRR]; done
    · rw [hRR]; exact hF
    · exact hbs2
    · exact strCrc_lt hd l2
    · rw [hRR]; first | assumption | (exact Dl (by assumption)) | simp
   rw [h151]
   refine Ar<|Al<|Em rfl rfl<|Aa (Ae rfl fa92_3) rfl ?_
   refine Ao (Aq 5 (k:=4) rfl rfl rfl rfl rfl Tz9) ?_; rintro _ _ ⟨rfl,rfl⟩; refine Ab (L2:=(_::_::_::_::_::_::_::_)) rfl ?_
   refine Ek7 0 2 3 4 7 144 151 rfl ?_
   exact ⟨l2.drop (Fb l2),strCrc d l2,{ h with name := strTxt l2 },bs2,hb,xa,xn,xf,k1,k2,k3,rfl,rfl,by rw [hR,rd2,if_neg (by omega),if_neg (by simpa using h151)],hF,hbs2,strCrc_lt hd l2,hX⟩
  refine Ar ?_
  exact ⟨l2,d,h,bs,hb,xa,xn,xf,f1,f2,f3,rfl,rfl,by rw [hR,rd2,if_pos (by omega)],hG,hbs,hd,hX⟩
 rintro _ _ ⟨l2,d,h,bs,hb,xa,xn,xf,f1,f2,f3,hq29,rfl,hR,hG,hbs,hd,hX⟩
 refine Ba _ hq29<|Eg (M:=fun ee ll => ∃ (l2 : List UInt8),∃ (d : Nat),∃ (h : Hd),∃ (bs : List Value),∃ (hb : Nat),∃ (xa : Option Addr),∃ (xn : Nat),∃ (xf : Frag),∃ (f1 : Frag),∃ (f2 : Frag),∃ (f3 : Frag),keeps ee [0,2,3,4] = some [(0,.pointer (some ⟨zb,0,none⟩)),(2,.pointer (some ⟨hb,0,none⟩)),(3,Er.val ea .none),(4,.int .u8 ((v3.toNat : Nat) : Int))] ∧ ll = [f1,f2,f3,⟨zb,0,[c0,c1,c2,c3,c4,c5,.iface src.t src.v,dcv,.int .u32 ((d : Nat) : Int),c9]⟩,⟨zb,10,bs⟩,⟨hb,0,[.string h.comment,.slice xa xn xn,.int .u64 0,.int .i64 (timeV h.mod),.string h.name,.int .u8 ((h.os : Nat) : Int)]⟩,xf] ++ DL ∧ (Ac l = rd4 l2 v3.toNat d h) ∧ (src.At l2 f1 f2 f3) ∧ (bs.length = 512) ∧ (d < 4294967296) ∧ (ExAt h.extra xa xn xf)) ?_ ?_
 ·refine Cr<|Em rfl rfl<|Aa (Ei (b:=((16 : Nat) : Int)) rfl rfl (N.and_u8 (by omega) (by omega))) rfl<|Aa (Fq (b:=((0 : Nat) : Int)) rfl rfl) rfl<|Ek5 0 2 3 4 159 rfl<|Be rfl (fun h159 => ?_) (fun h159 => ?_)
  ·refine Ap<|Cr<|Em rfl rfl ?_
   refine Ak (OpX.pick [0,0,0,0,0] (F:=(_::_::_)) rfl (Au rfl Tryz.call73 (readString_spec hs src l2 f1 f2 f3 zb d c0 c1 c2 c3 c4 c5 dcv c9 bs hG hbs hd))) rfl ?_; rintro _ _ ⟨_,⟨k1,k2,k3,bs2,hF,hbs2,rfl,rfl⟩,rfl⟩; refine Ab (L2:=(_::_::_::_::_::_::_::_)) rfl ?_
   refine Em rfl rfl<|Aa (Bb rfl rfl) rfl<|Aa (Bb rfl rfl) rfl<|Ea rfl rfl<|Ea rfl rfl<|Ek6 0 2 3 4 7 159 rfl<|Cr<|Em rfl rfl<|Ah (Dg rfl) rfl<|Ek7 0 2 3 4 7 159 166 rfl<|Dp rfl (fun h166 => ?_) (fun h166 => ?_)
   ·refine Ap<|Br [0,0,2,5,15] (.pure 1 1 (.alt 0 (.alt 2 (.alt 3 (.pure 4 15 .done) .stop) .stop) (.alt 2 (.seg [(0,6)] (.alt 3 (.pure 4 15 .done) .stop)) .stop))) mixed (by decide +kernel)<|Dm rfl rfl rfl<|Hr ?_ ⟨?_,trivial⟩
    ·refine Fc rfl (Bn 5 (k:=0) rfl rfl rfl rfl Ta92 Tz92) rfl<|Da ?_
     refine Df rfl (OpX.pick [] (F:=(_::_::_::_::_::_::_::_)) rfl (Au rfl Tryz.call57 (Ew (L:=[]) hs _))) rfl ?_; rintro _ _ ⟨_,⟨rfl,rfl⟩,rfl⟩; refine Bf (L2:=(_::_::_::_::_::_::_::_)) rfl ?_
     refine Da ?_
     refine Bz rfl (Bi 5 (k:=0) rfl rfl rfl rfl rfl rfl Tz92 rfl) ?_; rintro _ _ ⟨rfl,rfl⟩; refine Bf (L2:=(_::_::_::_::_::_::_::_)) rfl ?_
     refine Ai rfl (Bc rfl) rfl<|Dk7 0 2 3 4 7 159 166 rfl<|Av ?_
     have hRR : Ac l = (noEof (strEr l2),l2.drop (Fb l2),h) := by rw [hR,rd3,if_neg (by omega),if_pos h166]
     refine ⟨_,_,⟨_,_,5,rfl,rfl,rfl⟩,rfl,_,_,_,_,_,_,_,rfl,rfl,?_,?_,?_,?_,.inl ⟨?_,[_],rfl⟩⟩
     · rw [hRR]; done
     · rw [hRR]; exact hF
     · exact hbs2
     · exact strCrc_lt hd l2
     · rw [hRR]; first | assumption | (exact Dl (by assumption)) | simp
    refine Df rfl (OpX.pick [] (F:=(_::_::_::_::_::_::_::_)) rfl (Au rfl Tryz.call57 (Ew (L:=[]) hs _))) rfl ?_; rintro _ _ ⟨_,⟨rfl,rfl⟩,rfl⟩; refine Bf (L2:=(_::_::_::_::_::_::_::_)) rfl ?_
    refine Dc (by decide)<|Az rfl (Bn 5 (k:=0) rfl rfl rfl rfl Ta92 Tz92) rfl<|Db<|Da ?_
    refine Bz rfl (Bi 5 (k:=0) rfl rfl rfl rfl rfl rfl Tz92 rfl) ?_; rintro _ _ ⟨rfl,rfl⟩; refine Bf (L2:=(_::_::_::_::_::_::_::_)) rfl ?_
    refine Ai rfl (Bc rfl) rfl<|Dk7 0 2 3 4 7 159 166 rfl<|Av ?_
    have hRR : Ac l = (noEof (strEr l2),l2.drop (Fb l2),h) := by rw [hR,rd3,if_neg (by omega),if_pos h166]
    refine ⟨_,_,⟨_,_,5,rfl,rfl,rfl⟩,rfl,_,_,_,_,_,_,_,rfl,rfl,?_,?_,?_,?_,.inl ⟨?_,[_],rfl⟩⟩
    · rw [hRR]; done
    · rw [hRR]; exact hF
    · exact hbs2
    · exact strCrc_lt hd l2
    · rw [hRR]; first | assumption | (exact Dl (by assumption)) | simp
   rw [h166]
   refine Ar<|Al<|Em rfl rfl<|Aa (Ae rfl fa92_0) rfl ?_
   refine Ao (Aq 5 (k:=0) rfl rfl rfl rfl rfl Tz9) ?_; rintro _ _ ⟨rfl,rfl⟩; refine Ab (L2:=(_::_::_::_::_::_::_::_)) rfl ?_
   refine Ek7 0 2 3 4 7 159 166 rfl ?_
   exact ⟨l2.drop (Fb l2),strCrc d l2,{ h with comment := strTxt l2 },bs2,hb,xa,xn,xf,k1,k2,k3,rfl,rfl,by rw [hR,rd3,if_neg (by omega),if_neg (by simpa using h166)],hF,hbs2,strCrc_lt hd l2,hX⟩
  refine Ar ?_
  exact ⟨l2,d,h,bs,hb,xa,xn,xf,f1,f2,f3,rfl,rfl,by rw [hR,rd3,if_pos (by omega)],hG,hbs,hd,hX⟩
 rintro _ _ ⟨l2,d,h,bs,hb,xa,xn,xf,f1,f2,f3,hq34,rfl,hR,hG,hbs,hd,hX⟩
 refine Ba _ hq34<|Eg (M:=fun ee ll => ∃ (l2 : List UInt8),∃ (d : Nat),∃ (h : Hd),∃ (bs : List Value),∃ (hb : Nat),∃ (xa : Option Addr),∃ (xn : Nat),∃ (xf : Frag),∃ (f1 : Frag),∃ (f2 : Frag),∃ (f3 : Frag),keeps ee [0,2,3,4] = some [(0,.pointer (some ⟨zb,0,none⟩)),(2,.pointer (some ⟨hb,0,none⟩)),(3,Er.val ea .none),(4,.int .u8 ((v3.toNat : Nat) : Int))] ∧ ll = [f1,f2,f3,⟨zb,0,[c0,c1,c2,c3,c4,c5,.iface src.t src.v,dcv,.int .u32 ((d : Nat) : Int),c9]⟩,⟨zb,10,bs⟩,⟨hb,0,[.string h.comment,.slice xa xn xn,.int .u64 0,.int .i64 (timeV h.mod),.string h.name,.int .u8 ((h.os : Nat) : Int)]⟩,xf] ++ DL ∧ (Ac l = (.none,l2,h)) ∧ (src.At l2 f1 f2 f3) ∧ (bs.length = 512) ∧ (d < 4294967296) ∧ (ExAt h.extra xa xn xf)) ?_ ?_
 ·refine Cr<|Em rfl rfl<|Aa (Ei (b:=((2 : Nat) : Int)) rfl rfl (N.and_u8 (by omega) (by omega))) rfl<|Aa (Fq (b:=((0 : Nat) : Int)) rfl rfl) rfl<|Ek5 0 2 3 4 174 rfl<|Be rfl (fun h174 => ?_) (fun h174 => ?_)
  ·refine Ap<|Ap ?_
   refine Ez (Same.splitAt (k:=2) 4 rfl rfl (List.take_append_drop 2 _).symm (by rw [List.length_take]; omega) rfl) ?_
   refine Bq (L2:=[_,_,_,_,_,_,_,_] ++ DL) rfl<|Br [0,1,2,4,0,16,32,64,136,256,512,512,4095] (.pure 0 240 (.pure 1 241 (.pure 2 243 (.pure 4 15 (.pure 5 31 (.pure 6 63 (.pure 7 127 (.seg [(3,247)] (.alt 8 (.pure 9 511 (.pure 10 3071 (.pure 11 2047 (.pure 12 4095 .done)))) .stop))))))))) mixed (by decide +kernel)<|Dm rfl rfl rfl<|Ai rfl (Ad rfl) rfl<|Ai rfl (Ae rfl fa99_1) rfl<|Dm rfl rfl rfl<|Ai rfl (Ad rfl) rfl<|Ai rfl (Ae rfl fa99_5) rfl<|Ai rfl (Fo (l:=0) (k:=.i64) (h:=2) rfl rfl rfl (by omega) (by omega) Tu97 Tz5) rfl<|Dn (v:=.slice (some ⟨zb,10,none⟩) (2) (512)) (Bo (by simp [part]) rfl rfl)<|Dc (by decide)<|Az rfl (An 5 (k:=6) rfl rfl rfl Ta94) rfl ?_
   refine Db<|Da ?_
   refine Df rfl (OpX.pick [2,2,2,0] (F:=(_::_::_::_::_)) rfl (Au rfl Tryz.call56 (Gf hs src l2 f1 f2 f3 zb 10 2 512 (List.take 2 _) hG (by rw [List.length_take]; omega) (by omega) (by omega)))) rfl ?_; rintro _ _ ⟨_,⟨k1,k2,k3,hF,rfl,rfl⟩,rfl⟩; refine Bf (L2:=(_::_::_::_::_::_::_::_::_)) rfl ?_
   refine Dm rfl rfl rfl<|Ai rfl (Bb rfl rfl) rfl<|Ai rfl (Bb rfl rfl) rfl<|Ai rfl (Bc rfl) rfl<|Dk5 0 2 3 4 174 rfl ?_
   refine Ez (Same.joinAt 3 3 rfl rfl (by rw [show 10 + 2 = 10 + (2 : Nat) from rfl]; congr 1; simp only [List.length_append,Bp,List.length_take,List.length_drop,min_i]; omega)) ?_
   refine Ge [1,1,1,1,0,0,0] (A:=[_,_,_,_,_,_,_]) (F:=DL) rfl<|Bq (L2:=[_,_,_,_,_,_,_] ++ DL) rfl<|Cr<|Em rfl rfl<|Ah (Dg rfl) rfl<|Ek6 0 2 3 4 174 188 rfl<|Dp rfl (fun h188 => ?_) (fun h188 => ?_)
   ·refine Ap<|Br [0,0,2,5,15] (.pure 1 1 (.alt 0 (.alt 2 (.alt 3 (.pure 4 15 .done) .stop) .stop) (.alt 2 (.seg [(0,6)] (.alt 3 (.pure 4 15 .done) .stop)) .stop))) mixed (by decide +kernel)<|Dm rfl rfl rfl<|Hr ?_ ⟨?_,trivial⟩
    ·refine Fc rfl (Bn 5 (k:=0) rfl rfl rfl rfl Ta92 Tz92) rfl<|Da ?_
     refine Df rfl (OpX.pick [] (F:=(_::_::_::_::_::_::_::_)) rfl (Au rfl Tryz.call57 (Ew (L:=[]) hs _))) rfl ?_; rintro _ _ ⟨_,⟨rfl,rfl⟩,rfl⟩; refine Bf (L2:=(_::_::_::_::_::_::_::_)) rfl ?_
     refine Da ?_
     refine Bz rfl (Bi 5 (k:=0) rfl rfl rfl rfl rfl rfl Tz92 rfl) ?_; rintro _ _ ⟨rfl,rfl⟩; refine Bf (L2:=(_::_::_::_::_::_::_::_)) rfl ?_
     refine Ai rfl (Bc rfl) rfl<|Dk6 0 2 3 4 174 188 rfl<|Av ?_
     have hRR : Ac l = (noEof (De l2 2),l2.drop 2,h) := by rw [hR,rd4,if_neg (by omega),if_pos h188]
     refine ⟨_,_,⟨_,_,5,rfl,rfl,rfl⟩,rfl,_,_,_,_,_,_,_,rfl,rfl,?_,?_,?_,?_,.inl ⟨?_,[_],rfl⟩⟩
     · rw [hRR]; done
     · rw [hRR]; exact hF
     · rw [buf_join (by omega)]; exact hbs
     · assumption
     · rw [hRR]; first | assumption | (exact Dl (by assumption)) | simp
    refine Df rfl (OpX.pick [] (F:=(_::_::_::_::_::_::_::_)) rfl (Au rfl Tryz.call57 (Ew (L:=[]) hs _))) rfl ?_; rintro _ _ ⟨_,⟨rfl,rfl⟩,rfl⟩; refine Bf (L2:=(_::_::_::_::_::_::_::_)) rfl ?_
    refine Dc (by decide)<|Az rfl (Bn 5 (k:=0) rfl rfl rfl rfl Ta92 Tz92) rfl<|Db<|Da ?_
    refine Bz rfl (Bi 5 (k:=0) rfl rfl rfl rfl rfl rfl Tz92 rfl) ?_; rintro _ _ ⟨rfl,rfl⟩; refine Bf (L2:=(_::_::_::_::_::_::_::_)) rfl ?_
    refine Ai rfl (Bc rfl) rfl<|Dk6 0 2 3 4 174 188 rfl<|Av ?_
    have hRR : Ac l = (noEof (De l2 2),l2.drop 2,h) := by rw [hR,rd4,if_neg (by omega),if_pos h188]
    refine ⟨_,_,⟨_,_,5,rfl,rfl,rfl⟩,rfl,_,_,_,_,_,_,_,rfl,rfl,?_,?_,?_,?_,.inl ⟨?_,[_],rfl⟩⟩
    · rw [hRR]; done
    · rw [hRR]; exact hF
    · rw [buf_join (by omega)]; exact hbs
    · assumption
    · rw [hRR]; first | assumption | (exact Dl (by assumption)) | simp
   rw [h188]
   obtain ⟨w0,w1,r2,hl2⟩ := two h188
   have hw0 := w0.toNat_lt
   have hw1 := w1.toNat_lt
   have h16 := le16_lt hw0 hw1
   have e1 : l2.drop 2 = r2 := by rw [hl2]; rfl
   have e2 : le16of l2 = le16 w0.toNat w1.toNat := by rw [hl2]; rfl
   refine Bq (L2:=[k1,k2,k3,⟨zb,0,[c0,c1,c2,c3,c4,c5,.iface src.t src.v,dcv,.int .u32 ((d : Nat) : Int),c9]⟩,⟨zb,10,u8 w0::u8 w1::bs.drop 2⟩,⟨hb,0,[.string h.comment,.slice xa xn xn,.int .u64 0,.int .i64 (timeV h.mod),.string h.name,.int .u8 ((h.os : Nat) : Int)]⟩,xf] ++ DL) (by rw [buf_full (full_len h188),hl2]; rfl) ?_
   rw [e1] at hF
   refine Ar<|Cr<|Em rfl rfl<|Aa (Ad rfl) rfl<|Aa (Ae rfl fa99_5) rfl<|Aa (Fo (l:=0) (k:=.i64) (h:=2) rfl rfl rfl (by omega) (by omega) Tu97 Tz5) rfl<|Am (v:=.slice (some ⟨zb,10,none⟩) (2) (512)) (Bo (by simp [part]) rfl rfl) ?_
   refine Ak (Au rfl Tryz.call72 (le16_spec zb 10 2 512 w0 w1 [] (by omega) (Reads.frag (i:=4) (k:=0) rfl rfl))) rfl ?_; rintro _ _ ⟨rfl,rfl⟩; refine Ab (L2:=(_::_::_::_::_::_::_::_)) rfl ?_
   refine Ea rfl rfl<|Ek7 0 2 3 4 8 174 188 rfl<|Cr<|Em rfl rfl<|Em rfl rfl<|Aa (Ad rfl) rfl<|Aa (Ae rfl fa99_3) rfl<|Ah (An 3 (k:=8) rfl rfl rfl Ta69) rfl<|Aa (Bv rfl Tu69 Tu153 (N.mod_u16 _)) rfl<|Aa (Fq rfl rfl) rfl<|Ek8 0 2 3 4 8 174 188 203 rfl<|Be rfl (fun h203 => ?_) (fun h203 => ?_)
   ·refine Ap<|Br [0,0,1,7] (.alt 0 (.alt 1 (.alt 2 (.pure 3 7 .done) .stop) (.alt 2 (.seg [(1,5),(3,7)] .done) .stop)) (.alt 1 (.seg [(0,2)] (.alt 2 (.pure 3 7 .done) .stop)) .stop)) mixed (by decide +kernel)<|Hr ?_ ⟨?_,trivial⟩
    ·refine Fc rfl (Bn 5 (k:=0) rfl rfl rfl rfl Ta92 Tz92) rfl<|Hr ?_ ⟨?_,trivial⟩
     ·refine Fc rfl (Bd rfl hs.g1 Ta58) rfl<|Da ?_
      refine Bz rfl (Bi 5 (k:=0) rfl rfl rfl rfl rfl rfl Tz92 rfl) ?_; rintro _ _ ⟨rfl,rfl⟩; refine Bf (L2:=(_::_::_::_::_::_::_::_)) rfl ?_
      refine Ai rfl (Bc rfl) rfl<|Dk8 0 2 3 4 8 174 188 203 rfl<|Av ?_
      have hRR : Ac l = (.header,r2,h) := by rw [hR,rd4,if_neg (by omega),if_neg (by simpa using h188),if_pos (by rw [e2]; omega),e1]
      refine ⟨_,_,⟨_,_,5,rfl,rfl,rfl⟩,rfl,_,_,_,_,_,_,_,rfl,rfl,?_,?_,?_,?_,.inl ⟨?_,[_],rfl⟩⟩
      · rw [hRR]; done
      · rw [hRR]; exact hF
      · simp only [List.length_cons,List.length_drop]; omega
      · assumption
      · rw [hRR]; first | assumption | (exact Dl (by assumption)) | simp
     refine Bz rfl (Bi 5 (k:=0) rfl rfl rfl rfl rfl rfl Tz92 rfl) ?_; rintro _ _ ⟨rfl,rfl⟩; refine Bf (L2:=(_::_::_::_::_::_::_::_)) rfl ?_
     refine Dc (by decide)<|Az rfl (Bd rfl hs.g1 Ta58) rfl<|Bg rfl (Bc rfl) rfl<|Db<|Dk8 0 2 3 4 8 174 188 203 rfl<|Av ?_
     have hRR : Ac l = (.header,r2,h) := by rw [hR,rd4,if_neg (by omega),if_neg (by simpa using h188),if_pos (by rw [e2]; omega),e1]
     refine ⟨_,_,⟨_,_,5,rfl,rfl,rfl⟩,rfl,_,_,_,_,_,_,_,rfl,rfl,?_,?_,?_,?_,.inl ⟨?_,[_],rfl⟩⟩
     · rw [hRR]; done
     · rw [hRR]; exact hF
     · simp only [List.length_cons,List.length_drop]; omega
     · assumption
     · rw [hRR]; first | assumption | (exact Dl (by assumption)) | simp
    refine Fc rfl (Bd rfl hs.g1 Ta58) rfl<|Dc (by decide)<|Az rfl (Bn 5 (k:=0) rfl rfl rfl rfl Ta92 Tz92) rfl<|Db<|Da ?_
    refine Bz rfl (Bi 5 (k:=0) rfl rfl rfl rfl rfl rfl Tz92 rfl) ?_; rintro _ _ ⟨rfl,rfl⟩; refine Bf (L2:=(_::_::_::_::_::_::_::_)) rfl ?_
    refine Ai rfl (Bc rfl) rfl<|Dk8 0 2 3 4 8 174 188 203 rfl<|Av ?_
    have hRR : Ac l = (.header,r2,h) := by rw [hR,rd4,if_neg (by omega),if_neg (by simpa using h188),if_pos (by rw [e2]; omega),e1]
    refine ⟨_,_,⟨_,_,5,rfl,rfl,rfl⟩,rfl,_,_,_,_,_,_,_,rfl,rfl,?_,?_,?_,?_,.inl ⟨?_,[_],rfl⟩⟩
    · rw [hRR]; done
    · rw [hRR]; exact hF
    · simp only [List.length_cons,List.length_drop]; omega
    · assumption
    · rw [hRR]; first | assumption | (exact Dl (by assumption)) | simp
   refine Ar ?_
   exact ⟨r2,d,h,_,hb,xa,xn,xf,k1,k2,k3,rfl,rfl,by rw [hR,rd4,if_neg (by omega),if_neg (by simpa using h188),if_neg (by rw [e2]; omega),e1],hF,by simp only [List.length_cons,List.length_drop]; omega,hd,hX⟩
  refine Ar ?_
  exact ⟨l2,d,h,bs,hb,xa,xn,xf,f1,f2,f3,rfl,rfl,by rw [hR,rd4,if_pos (by omega)],hG,hbs,hd,hX⟩
 rintro _ _ ⟨l2,d,h,bs,hb,xa,xn,xf,f1,f2,f3,hq41,rfl,hR,hG,hbs,hd,hX⟩
 refine Ba _ hq41<|Cr<|Em rfl rfl<|Aa (Ad rfl) rfl<|Aa (Ae rfl fa99_3) rfl ?_
 refine Ao (Aq 3 (k:=8) rfl rfl rfl rfl rfl Tz69) ?_; rintro _ _ ⟨rfl,rfl⟩; refine Ab (L2:=(_::_::_::_::_::_::_::_)) rfl ?_
 refine Ek4 0 2 3 4 rfl<|Ap<|Cr<|Em rfl rfl<|Aa (Ad rfl) rfl<|Aa (Ae rfl fa99_2) rfl<|Ah (An 3 (k:=7) rfl rfl rfl Tryz.isAgg96) rfl<|Ah (S.eqDc hDL rfl Tryz.underlying96) rfl<|Ek5 0 2 3 4 213 rfl<|Fa rfl (fun h213 => ?_) (fun h213 => ?_)
 ·obtain ⟨rfl,rfl⟩ := hDL.nil h213
  refine Al<|Em rfl rfl<|Em rfl rfl<|Aa (Ad rfl) rfl<|Aa (Ae rfl fa99_1) rfl<|Ah (An 3 (k:=6) rfl rfl rfl Ta94) rfl ?_
  refine Ak (Au rfl Tryz.call74 (flateNew_in src _)) rfl ?_; rintro _ _ ⟨fb,DN,rfl,hDN,rfl⟩; refine Ab (L2:=(_::_::_::_::_::_::_::_)) rfl ?_
  refine Aa (Ad rfl) rfl<|Aa (Ae rfl fa99_2) rfl ?_
  refine Ao (Aq 3 (k:=7) rfl rfl rfl rfl rfl Tryz.sizeOf96) ?_; rintro _ _ ⟨rfl,rfl⟩; refine Ab (L2:=(_::_::_::_::_::_::_::_)) rfl ?_
  refine Ek5 0 2 3 4 213 rfl<|Cr<|Ah (Bn 5 (k:=0) rfl rfl rfl rfl Ta92 Tz92) rfl ?_
  refine Ao (Bi 5 (k:=0) rfl rfl rfl rfl rfl rfl Tz92 rfl) ?_; rintro _ _ ⟨rfl,rfl⟩; refine Ab (L2:=(_::_::_::_::_::_::_::_)) rfl ?_
  refine Aa (Bc (v:=Er.val ea .none) rfl) rfl<|Ek5 0 2 3 4 213 rfl<|Av ?_
  refine ⟨_,_,⟨_,_,5,rfl,rfl,rfl⟩,rfl,_,f1,f2,f3,_,_,_,rfl,rfl,?_,?_,hbs,?_,.inr ⟨?_,xa,xn,xf,fb,DN,?_,?_,?_,hDN,rfl⟩⟩
  · rw [hR]; done
  · rw [hR]; exact hG
  · decide
  · rw [hR]
  · rw [hR]; exact hX
  · rw [hR]; rfl
  · rfl
 obtain ⟨fb,rfl,hraw⟩ := hDL.dec (by simpa using h213)
 refine Br [0,1,2,4,8,0,32,64,128,16,528,1280] (.pure 0 480 (.pure 1 481 (.pure 2 483 (.pure 5 1567 (.pure 6 1599 (.pure 7 1663 (.seg [(3,487),(4,495),(8,1791),(9,511),(10,1023)] (.alt 11 .done .stop)))))))) mixed (by decide +kernel)<|Dm rfl rfl rfl<|Ai rfl (Ad rfl) rfl<|Ai rfl (Ae rfl fa99_2) rfl<|Dm rfl rfl rfl<|Ai rfl (Ad rfl) rfl<|Ai rfl (Ae rfl fa99_1) rfl<|Dc (by decide)<|Az rfl (An 3 (k:=7) rfl rfl rfl Tryz.isAgg96) rfl<|Bg rfl (S.assertHas1 rfl Tryz.underlying159 (dmBoth _ Tryz.underlying159)) rfl<|Az rfl (An 3 (k:=6) rfl rfl rfl Ta94) rfl<|Bg rfl (S.nilIface rfl) rfl ?_
 refine Bg rfl (S.move rfl) rfl<|Db<|Da ?_
 refine Df rfl (X.invoke rfl rfl (dmReset fb) Tryz.call136 (decReset_in src hraw [_,_,_,_,_,_,_])) rfl ?_; rintro _ _ ⟨rfl,DN,hDN,rfl⟩; refine Bf (L2:=(_::_::_::_::_::_::_::_)) rfl ?_
 refine Dk5 0 2 3 4 213 rfl<|Cr<|Ah (Bn 5 (k:=0) rfl rfl rfl rfl Ta92 Tz92) rfl ?_
 refine Ao (Bi 5 (k:=0) rfl rfl rfl rfl rfl rfl Tz92 rfl) ?_; rintro _ _ ⟨rfl,rfl⟩; refine Ab (L2:=(_::_::_::_::_::_::_::_)) rfl ?_
 refine Aa (Bc (v:=Er.val ea .none) rfl) rfl<|Ek5 0 2 3 4 213 rfl<|Av ?_
 refine ⟨_,_,⟨_,_,5,rfl,rfl,rfl⟩,rfl,_,f1,f2,f3,_,_,_,rfl,rfl,?_,?_,hbs,?_,.inr ⟨?_,xa,xn,xf,fb,DN,?_,?_,?_,hDN,rfl⟩⟩
 · rw [hR]; done
 · rw [hR]; exact hG
 · decide
 · rw [hR]
 · rw [hR]; exact hX
 · rw [hR]; rfl
 · rfl
def HeadRes {K : Known} {ea : Fin 5 → Addr} (src : Src K ea) (l : List UInt8) (zb : Nat) (c0 c1 c2 c3 c4 c5 c9 dcv : Value) (DL : Frags) (r : Value) (L : Frags) : Prop :=
  ∃ hs f1 f2 f3 d2 bs2,hs.length = 6 ∧ hs.all one = true ∧ r = .tuple #[.agg hs.toArray,Er.val ea (Ac l).1] ∧ src.At (Ac l).2.1 f1 f2 f3 ∧ bs2.length = 512 ∧ d2 < 4294967296 ∧
    (((Ac l).1 ≠ .none ∧ L = [f1,f2,f3,⟨zb,0,[c0,c1,c2,c3,c4,c5,.iface src.t src.v,dcv,.int .u32 ((d2 : Nat) : Int),c9]⟩,⟨zb,10,bs2⟩] ++ DL) ∨
     ((Ac l).1 = .none ∧ ∃ xa xn X fb DN,ExAt (Ac l).2.2.extra xa xn X ∧ hs = headV (Ac l).2.2 xa xn ∧ d2 = 0 ∧ DecNew src fb DN ∧
        L = [f1,f2,f3,⟨zb,0,[c0,c1,c2,c3,c4,c5,.iface src.t src.v,.iface 190 (.pointer (some ⟨fb,0,none⟩)),.int .u32 ((d2 : Nat) : Int),c9]⟩,⟨zb,10,bs2⟩,X] ++ DN))
theorem readHeader_spec {K : Known} {ea : Fin 5 → Addr} (hs : Sents K ea) (src : Src K ea) (l : List UInt8) (x1 x2 x3 : Frag) (zb d0 : Nat) (c0 c1 c2 c3 c4 c5 c9 dcv : Value) (bs0 : List Value) (DL : Frags) (hDL : DcIn dcv DL) (hA : src.At l x1 x2 x3) (hbs0 : bs0.length = 512) (hd0 : d0 < 4294967296) :
    Fn Tryz.prog K 51 #[.pointer (some ⟨zb,0,none⟩)] ([x1,x2,x3,⟨zb,0,[c0,c1,c2,c3,c4,c5,.iface src.t src.v,dcv,.int .u32 ((d0 : Nat) : Int),c9]⟩,⟨zb,10,bs0⟩] ++ DL) (HeadRes src l zb c0 c1 c2 c3 c4 c5 c9 dcv DL) := by
  refine Fn.lose (readHeader_first hs src l x1 x2 x3 zb d0 c0 c1 c2 c3 c4 c5 c9 dcv bs0 DL hDL hA hbs0 hd0) ?_
  rintro v L' ⟨hs',f1,f2,f3,d2,bs2,hb,h6,h7,rfl,hF,hb2,hd2,⟨hne,T,rfl⟩ | ⟨hno,xa,xn,X,fb,DN,hX,hv,hdz,hDN,rfl⟩⟩
  · refine ⟨[f1,f2,f3,⟨zb,0,[c0,c1,c2,c3,c4,c5,.iface src.t src.v,dcv,.int .u32 ((d2 : Nat) : Int),c9]⟩,⟨zb,10,bs2⟩] ++ DL,⟨hb,0,hs'⟩::T,Same.perm ?_,hs',f1,f2,f3,d2,bs2,h6,h7,rfl,hF,hb2,hd2,.inl ⟨hne,rfl⟩⟩
    show ([f1,f2,f3,⟨zb,0,[c0,c1,c2,c3,c4,c5,.iface src.t src.v,dcv,.int .u32 ((d2 : Nat) : Int),c9]⟩,⟨zb,10,bs2⟩] ++ ((⟨hb,0,hs'⟩::T) ++ DL)).Perm _
    rw [List.append_assoc]
    exact List.perm_append_comm.append_left _
  · refine ⟨[f1,f2,f3,⟨zb,0,[c0,c1,c2,c3,c4,c5,.iface src.t src.v,.iface 190 (.pointer (some ⟨fb,0,none⟩)),.int .u32 ((d2 : Nat) : Int),c9]⟩,⟨zb,10,bs2⟩,X] ++ DN,[⟨hb,0,hs'⟩],Same.perm ?_,hs',f1,f2,f3,d2,bs2,h6,h7,rfl,hF,hb2,hd2,.inr ⟨hno,xa,xn,X,fb,DN,hX,hv,hdz,hDN,rfl⟩⟩
    refine List.Perm.trans (List.perm_middle (l₁:=[f1,f2,f3,⟨zb,0,[c0,c1,c2,c3,c4,c5,.iface src.t src.v,.iface 190 (.pointer (some ⟨fb,0,none⟩)),.int .u32 ((d2 : Nat) : Int),c9]⟩,⟨zb,10,bs2⟩]) (l₂:=X::DN)) ?_
    exact (List.perm_append_comm (l₁:=[_]))
def zip10 (rd dec : Value) : List Value := [.string ⟨#[]⟩,.slice none 0 0,.int .u64 0,.int .i64 0,.string ⟨#[]⟩,.int .u8 0,rd,dec,.int .u32 0,.int .u32 0]
def buf0 : List Value := List.replicate 512 (.int .u8 0)
def zipEnd (e : Value) (ms : Bool) : List Value := [e,.bool ms]
theorem He : buf0.length = 512 := List.length_replicate
theorem zipZero : (Value.agg Tryz.zeroCells99).cells = (zip10 .nilIface .nilIface ++ (buf0 ++ zipEnd .nilIface false)).toArray := by kernel_rfl
theorem zipSize : (Value.agg Tryz.zeroCells99).cells.size = 524 := by kernel_rfl
theorem zipSet (dec : Value) : ((Value.agg Tryz.zeroCells99).cells.setIfInBounds 7 dec).setIfInBounds 523 (.bool true) = (zip10 .nilIface dec ++ (buf0 ++ zipEnd .nilIface true)).toArray := by
  rw [zipZero]
  apply Array.ext'
  simp only [Array.toList_setIfInBounds]
  have h1 : (zip10 .nilIface .nilIface).set 7 dec = zip10 .nilIface dec := rfl
  have h2 : (zip10 .nilIface dec).length = 10 := rfl
  have h3 : (zip10 .nilIface .nilIface).length = 10 := rfl
  rw [List.set_append_left _ _ (by rw [h3]; decide),h1,List.set_append_right _ _ (by rw [h2]; decide),List.set_append_right _ _ (by rw [h2,He]; decide),h2,He]
  rfl
theorem zipBuild (dec : Value) (h : one dec = true) (w : World) : (Instr.build 99 [(2,dec),(7,.bool true)].toArray).run Tryz.prog w = .ok (.agg (zip10 .nilIface dec ++ (buf0 ++ zipEnd .nilIface true)).toArray) w := by
  simp [Instr.build,Tryz.zeroValue99]
  rw [fill_one (off:=7) rfl h (by rw [zipSize]; decide),fill_one (off:=523) rfl rfl (by rw [Array.size_setIfInBounds,zipSize]; decide),fill_nil]
  simp [zipSet]
theorem zipSame (b : Nat) (F : Frags) (p0 p1 p2 : List Value) (h0 : p0.length = 10) (h1 : p1.length = 512) : Same (⟨b,0,p0 ++ (p1 ++ p2)⟩::F) ([⟨b,0,p0⟩,⟨b,10,p1⟩,⟨b,522,p2⟩] ++ F) := by
  have := Same.chunks b F [(0,p0),(10,p1),(522,p2)] 0 (by simp [Gs,h0,h1])
  simpa using this
theorem zip_one (dec : Value) (h : one dec = true) : (zip10 .nilIface dec ++ (buf0 ++ zipEnd .nilIface true)).all one = true := by
  rw [List.all_append,List.all_append]
  have h1 : (zip10 .nilIface dec).all one = true := by simp only [zip10,List.all_cons,List.all_nil,h]; rfl
  have h2 : buf0.all one = true := by rw [List.all_eq_true]; intro v hv; rw [List.eq_of_mem_replicate hv]; rfl
  rw [h1,h2]; rfl
theorem zip_len (dec : Value) : (zip10 .nilIface dec ++ (buf0 ++ zipEnd .nilIface true)).length = 524 := by
  rw [List.length_append,List.length_append,He]; rfl
theorem six {hs : List Value} (h : hs.length = 6) : ∃ a0 a1 a2 a3 a4 a5,hs = [a0,a1,a2,a3,a4,a5] := by
  match hs,h with
  | [a0,a1,a2,a3,a4,a5],_ => exact ⟨_,_,_,_,_,_,rfl⟩
theorem Reads.mem {K : Known} {L : Frags} {b o k : Nat} {cs vs : List Value} (hL : ⟨b,o,cs⟩ ∈ L) (h : (cs.drop k).take vs.length = vs) : Reads K L b (o + k) vs := by
  obtain ⟨i,hi⟩ := List.mem_iff_getElem?.1 hL
  exact Reads.frag hi h
def ZOld (zb : Nat) (L : Frags) : Prop := ∃ c0 c1 c2 c3 c4 c5 rv dcv dg sz bs ev ms DL,bs.length = 512 ∧ DcIn dcv DL ∧ L = [⟨zb,0,[c0,c1,c2,c3,c4,c5,rv,dcv,dg,sz]⟩,⟨zb,10,bs⟩,⟨zb,522,[ev,ms]⟩] ++ DL
def ZAt {K : Known} {ea : Fin 5 → Addr} (src : Src K ea) (zb : Nat) (h : Hd) (ms : Bool) (rest : List UInt8) (L : Frags) : Prop :=
  ∃ f1 f2 f3 bs xa xn X fb DN,src.At rest f1 f2 f3 ∧ bs.length = 512 ∧ ExAt h.extra xa xn X ∧ DecNew src fb DN ∧
    L = [f1,f2,f3,⟨zb,0,[.string h.comment,.slice xa xn xn,.int .u64 0,.int .i64 (timeV h.mod),.string h.name,.int .u8 ((h.os : Nat) : Int),.iface src.t src.v,.iface 190 (.pointer (some ⟨fb,0,none⟩)),.int .u32 ((0 : Nat) : Int),.int .u32 0]⟩,⟨zb,10,bs⟩,⟨zb,522,[Er.val ea .none,.bool ms]⟩,X] ++ DN
def ResetEnd {K : Known} {ea : Fin 5 → Addr} (src : Src K ea) (zb : Nat) (l : List UInt8) (L : Frags) : Prop :=
  ((Ac l).1 ≠ .none ∧ ∃ f1 f2 f3 T,src.At (Ac l).2.1 f1 f2 f3 ∧ L = [f1,f2,f3] ++ T) ∨ ((Ac l).1 = .none ∧ ZAt src zb (Ac l).2.2 true (Ac l).2.1 L)
theorem DcIn.one {dcv : Value} {DL : Frags} (h : DcIn dcv DL) : one dcv = true := by
  rcases h with ⟨rfl,_⟩ | ⟨fb,rfl,_⟩
  · rfl
  · rfl
theorem readHeader_in {K : Known} {ea : Fin 5 → Addr} (hs : Sents K ea) (src : Src K ea) (l : List UInt8) (x1 x2 x3 : Frag) (zb d0 : Nat) (c0 c1 c2 c3 c4 c5 c9 dcv : Value) (bs0 : List Value) (DL : Frags) (hDL : DcIn dcv DL) (hA : src.At l x1 x2 x3) (hbs0 : bs0.length = 512) (hd0 : d0 < 4294967296) (EF : Frags) :
    Fn Tryz.prog K 51 #[.pointer (some ⟨zb,0,none⟩)] ([x1,x2,x3,⟨zb,0,[c0,c1,c2,c3,c4,c5,.iface src.t src.v,dcv,.int .u32 ((d0 : Nat) : Int),c9]⟩,⟨zb,10,bs0⟩] ++ (EF ++ DL)) fun r L =>
      ∃ hs f1 f2 f3 d2 bs2,hs.length = 6 ∧ hs.all one = true ∧ r = .tuple #[.agg hs.toArray,Er.val ea (Ac l).1] ∧ src.At (Ac l).2.1 f1 f2 f3 ∧ bs2.length = 512 ∧ d2 < 4294967296 ∧
    (((Ac l).1 ≠ .none ∧ L = [f1,f2,f3,⟨zb,0,[c0,c1,c2,c3,c4,c5,.iface src.t src.v,dcv,.int .u32 ((d2 : Nat) : Int),c9]⟩,⟨zb,10,bs2⟩] ++ (EF ++ DL)) ∨
     ((Ac l).1 = .none ∧ ∃ xa xn X fb DN,ExAt (Ac l).2.2.extra xa xn X ∧ hs = headV (Ac l).2.2 xa xn ∧ d2 = 0 ∧ DecNew src fb DN ∧
        L = [f1,f2,f3,⟨zb,0,[c0,c1,c2,c3,c4,c5,.iface src.t src.v,.iface 190 (.pointer (some ⟨fb,0,none⟩)),.int .u32 ((d2 : Nat) : Int),c9]⟩,⟨zb,10,bs2⟩] ++ (EF ++ (X::DN)))) := by
  have pm : ∀ (a1 a2 a3 a4 a5 : Frag) (DL : Frags),([a1,a2,a3,a4,a5] ++ (EF ++ DL)).Perm (([a1,a2,a3,a4,a5] ++ DL) ++ EF) := fun a1 a2 a3 a4 a5 DL => by
    rw [List.append_assoc]; exact List.perm_append_comm.append_left _
  refine Fn.sameR (Fn.perm (pm _ _ _ _ _ DL) (Fn.frame (F:=EF) (readHeader_spec hs src l x1 x2 x3 zb d0 c0 c1 c2 c3 c4 c5 c9 dcv bs0 DL hDL hA hbs0 hd0))) ?_
  rintro v L ⟨L1,⟨hs',f1,f2,f3,d2,bs2,h6,h7,rfl,hF,hb2,hd2,⟨hne,rfl⟩ | ⟨hno,xa,xn,X,fb,DN,hX,hv,hdz,hDN,rfl⟩⟩,rfl⟩
  · exact ⟨_,Same.perm (pm _ _ _ _ _ DL).symm,hs',f1,f2,f3,d2,bs2,h6,h7,rfl,hF,hb2,hd2,.inl ⟨hne,rfl⟩⟩
  · exact ⟨_,Same.perm (pm _ _ _ _ _ (X::DN)).symm,hs',f1,f2,f3,d2,bs2,h6,h7,rfl,hF,hb2,hd2,.inr ⟨hno,xa,xn,X,fb,DN,hX,hv,hdz,hDN,rfl⟩⟩
theorem zipStore2 (zb : Nat) (v : List Value) (F : Frags) (cs : List Value) (h : cs.length = 524) (dcv : Value) :
    ((⟨zb,0,cs⟩ : Frag)::F).set 0 ⟨zb,0,cs.take 0 ++ (zip10 .nilIface dcv ++ (buf0 ++ zipEnd .nilIface true)) ++ cs.drop (0 + 524)⟩ = ⟨zb,0,zip10 .nilIface dcv ++ (buf0 ++ zipEnd .nilIface true)⟩::F := by
  rw [List.take_zero,List.nil_append,List.drop_eq_nil_of_le (by rw [h]; decide),List.append_nil]
  rfl
theorem reset_walk {K : Known} {ea : Fin 5 → Addr} (hs : Sents K ea) (src : Src K ea) (l : List UInt8) (x1 x2 x3 : Frag) (zb : Nat) (hA : src.At l x1 x2 x3) (c0 c1 c2 c3 c4 c5 rv dcv dg sz ev ms : Value) (bs : List Value) (DL : Frags) (hbs : bs.length = 512) (hDL : DcIn dcv DL) : Fn Tryz.prog K 34 #[.pointer (some ⟨zb,0,none⟩),.iface src.t src.v] ([x1,x2,x3,⟨zb,0,[c0,c1,c2,c3,c4,c5,rv,dcv,dg,sz]⟩,⟨zb,10,bs⟩,⟨zb,522,[ev,ms]⟩] ++ DL) (fun r L => r = Er.val ea (Ac l).1 ∧ ResetEnd src zb l L) := by
 refine Fn.intro (args:=[.pointer (some ⟨zb,0,none⟩),.iface src.t src.v]) (RR:=Ret1 4 _) Tryz.func34 rfl rfl Tryz.ntmps34 (res1 Tryz.results34) ?_
 refine Bl (env2:=[(0,.pointer (some ⟨zb,0,none⟩)),(1,.iface src.t src.v)]) rfl<|Cr<|Aa (Bc (v:=Er.val ea .none) rfl) rfl<|Ek3 0 1 4 rfl<|Cr<|Em rfl rfl<|Em rfl rfl<|Aa (Ad rfl) rfl<|Aa (Ae rfl fa99_2) rfl<|Ah (An 3 (k:=7) rfl rfl rfl Tryz.isAgg96) rfl<|Aa (Eu [(2,dcv),(7,.bool true)] rfl (zipBuild dcv hDL.one)) rfl<|Aa (Ad rfl) rfl ?_
 refine Bt [3,3,3,0,0,0] (A:=[_,_,_,_,_,_]) (F:=DL) rfl<|Eb (zipSame zb ([x1,x2,x3] ++ DL) [c0,c1,c2,c3,c4,c5,rv,dcv,dg,sz] bs [ev,ms] rfl hbs).symm<|Ab (L2:=⟨zb,0,_⟩::x1::x2::x3::DL) rfl ?_
 refine Ao (Bi 0 (k:=0) rfl rfl rfl (zip_one dcv hDL.one) (zip_len dcv) (by rw [Nat.ble_eq]; simp [hbs]) Tryz.sizeOf99 rfl) ?_
 rintro _ _ ⟨rfl,rfl⟩
 refine Ab (L2:=⟨zb,0,zip10 .nilIface dcv ++ (buf0 ++ zipEnd .nilIface true)⟩::x1::x2::x3::DL) (zipStore2 zb [] _ _ (by simp [hbs]) dcv)<|Ek3 0 1 4 rfl<|Ez (zipSame zb ([x1,x2,x3] ++ DL) (zip10 .nilIface dcv) buf0 (zipEnd .nilIface true) rfl He)<|Ge [3,3,3,0,0,0] (A:=[_,_,_,_,_,_]) (F:=DL) rfl<|Bq (L2:=[x1,x2,x3,⟨zb,0,[.string ⟨#[]⟩,.slice none 0 0,.int .u64 0,.int .i64 0,.string ⟨#[]⟩,.int .u8 0,.nilIface,dcv,.int .u32 0,.int .u32 0]⟩,⟨zb,10,buf0⟩,⟨zb,522,[.nilIface,.bool true]⟩] ++ DL) rfl<|Ap<|Cr<|Em rfl rfl<|Aa (S.assertHas rfl Tu94 (src.both _ Tu94)) rfl<|Em rfl rfl<|Aa (Bb rfl rfl) rfl<|Aa (Bb rfl rfl) rfl ?_
 refine Ea rfl rfl<|Ea rfl rfl<|Ek5 0 1 4 5 6 rfl<|Cr<|Em rfl rfl<|Ek6 0 1 4 5 6 19 rfl<|Ft rfl (rfl)<|Al<|Em rfl rfl<|Em rfl rfl<|Aa (Ad rfl) rfl<|Aa (Ae rfl fa99_1) rfl ?_
 refine Ao (Aq 3 (k:=6) rfl rfl rfl rfl rfl Tryz.sizeOf94) ?_; rintro _ _ ⟨rfl,rfl⟩; refine Ab (L2:=(_::_::_::_::_::_::_)) rfl ?_
 refine Ek6 0 1 4 5 6 19 rfl<|Cr<|Em rfl rfl<|Em rfl rfl<|Em rfl rfl<|Ak (Au rfl Tryz.call51 (readHeader_in hs src l x1 x2 x3 zb 0 _ _ _ _ _ _ (.int .u32 0) dcv buf0 DL hDL hA He (by decide) [_])) rfl ?_
 rintro _ _ ⟨hs6,f1,f2,f3,d2,bs2,h6,h7,rfl,hF,hb2,hd2,⟨hne,rfl⟩ | ⟨hno,xa,xn,xf,fb,DN,hX,rfl,rfl,hDN,rfl⟩⟩
 ·refine Ab (L2:=(_::_::_::_::_::_::_)) rfl ?_
  obtain ⟨a0,a1,a2,a3,a4,a5,rfl⟩ := six h6
  refine Em rfl rfl<|Aa (Bb rfl rfl) rfl<|Aa (Bb rfl rfl) rfl<|Aa (Ad rfl) rfl<|Aa (Ae rfl fa99_0) rfl ?_
  refine Ao (Bi 3 (k:=0) rfl rfl rfl h7 rfl rfl Tz92 rfl) ?_; rintro _ _ ⟨rfl,rfl⟩; refine Ab (L2:=(_::_::_::_::_::_::_)) rfl ?_
  refine Aa (Ad rfl) rfl<|Aa (Ae rfl fa99_6) rfl ?_
  refine Ao (Aq 5 (k:=0) rfl rfl rfl (one_er _) rfl Tz58) ?_; rintro _ _ ⟨rfl,rfl⟩; refine Ab (L2:=(_::_::_::_::_::_::_)) rfl ?_
  refine Ek6 0 1 4 5 6 19 rfl<|Cr<|Em rfl rfl<|Aa (Ad rfl) rfl<|Aa (Ae rfl fa99_6) rfl<|Ah (An 5 (k:=0) rfl rfl rfl Ta58) rfl<|Ea rfl rfl<|Ek6 0 1 4 5 6 19 rfl<|Av ?_
  refine ⟨_,rfl,rfl,.inl ⟨hne,f1,f2,f3,_,hF,rfl⟩⟩
 refine Ab (L2:=(_::_::_::_::_::_::_::_)) rfl<|Em rfl rfl<|Aa (Bb rfl rfl) rfl<|Aa (Bb rfl rfl) rfl<|Aa (Ad rfl) rfl<|Aa (Ae rfl fa99_0) rfl ?_
 refine Ao (Bi 3 (k:=0) rfl rfl rfl rfl rfl rfl Tz92 rfl) ?_; rintro _ _ ⟨rfl,rfl⟩; refine Ab (L2:=(_::_::_::_::_::_::_::_)) rfl ?_
 refine Aa (Ad rfl) rfl<|Aa (Ae rfl fa99_6) rfl ?_
 refine Ao (Aq 5 (k:=0) rfl rfl rfl (one_er _) rfl Tz58) ?_; rintro _ _ ⟨rfl,rfl⟩; refine Ab (L2:=(_::_::_::_::_::_::_::_)) rfl ?_
 refine Ek6 0 1 4 5 6 19 rfl<|Cr<|Em rfl rfl<|Aa (Ad rfl) rfl<|Aa (Ae rfl fa99_6) rfl<|Ah (An 5 (k:=0) rfl rfl rfl Ta58) rfl<|Ea rfl rfl<|Ek6 0 1 4 5 6 19 rfl<|Av ?_
 refine ⟨_,rfl,rfl,.inr ⟨hno,f1,f2,f3,bs2,xa,xn,xf,fb,DN,hF,hb2,hX,hDN,?_⟩⟩
 rw [← hno]
 rfl
theorem reset_spec {K : Known} {ea : Fin 5 → Addr} (hs : Sents K ea) (src : Src K ea) (l : List UInt8) (x1 x2 x3 : Frag) (zb : Nat) (hA : src.At l x1 x2 x3) {LZ : Frags} (hZ : ZOld zb LZ) :
    Fn Tryz.prog K 34 #[.pointer (some ⟨zb,0,none⟩),.iface src.t src.v] ([x1,x2,x3] ++ LZ) fun r L => r = Er.val ea (Ac l).1 ∧ ResetEnd src zb l L := by
  obtain ⟨c0,c1,c2,c3,c4,c5,rv,dcv,dg,sz,bs,ev,ms,DL,h1,h2,rfl⟩ := hZ
  exact reset_walk hs src l x1 x2 x3 zb hA c0 c1 c2 c3 c4 c5 rv dcv dg sz ev ms bs DL h1 h2
theorem newReader_walk {K : Known} {ea : Fin 5 → Addr} (hs : Sents K ea) (src : Src K ea) (l : List UInt8) (x1 x2 x3 : Frag) (hA : src.At l x1 x2 x3) : Fn Tryz.prog K 20 #[.iface src.t src.v] ([x1,x2,x3]) (fun r L => ((Ac l).1 ≠ .none ∧ r = .tuple #[.pointer none,Er.val ea (Ac l).1] ∧ ∃ f1 f2 f3 T,src.At (Ac l).2.1 f1 f2 f3 ∧ L = [f1,f2,f3] ++ T) ∨ ((Ac l).1 = .none ∧ ∃ zb,r = .tuple #[.pointer (some ⟨zb,0,none⟩),Er.val ea .none] ∧ ZAt src zb (Ac l).2.2 true (Ac l).2.1 L)) := by
 refine Fn.intro (args:=[.iface src.t src.v]) (RR:=Ret2 2 3 _) Tryz.func20 rfl rfl Tryz.ntmps20 (res2 Tryz.results20) ?_
 refine Bl (env2:=[(0,.iface src.t src.v)]) rfl<|Cr<|Ea rfl rfl<|Aa (Bc (v:=Er.val ea .none) rfl) rfl<|Ek3 0 2 3 rfl<|Cr ?_
 refine Ak (Dy Tryz.zeroValue99) rfl ?_; rintro _ _ ⟨b6,rfl,rfl⟩; refine Ab (L2:=[_,_,_,_]) rfl ?_
 refine Ab (L2:=[⟨b6,0,zip10 .nilIface .nilIface ++ (buf0 ++ zipEnd .nilIface false)⟩,x1,x2,x3]) (by rw [zipZero])<|Eb (zipSame b6 [x1,x2,x3] _ _ _ rfl He)<|Bt [3,3,3,0,0,0] (A:=[_,_,_,_,_,_]) (F:=[]) rfl<|Ab (L2:=[x1,x2,x3,⟨b6,0,[.string ⟨#[]⟩,.slice none 0 0,.int .u64 0,.int .i64 0,.string ⟨#[]⟩,.int .u8 0,.nilIface,.nilIface,.int .u32 0,.int .u32 0]⟩,⟨b6,10,buf0⟩,⟨b6,522,[.nilIface,.bool false]⟩]) rfl<|Ea rfl rfl<|Ek4 0 2 3 4 rfl<|Ap<|Cr<|Em rfl rfl<|Em rfl rfl<|Ak (Au rfl Tryz.call34 (reset_walk hs src l x1 x2 x3 b6 hA _ _ _ _ _ _ _ _ _ _ _ _ _ [] He (.inl ⟨rfl,rfl⟩))) rfl ?_
 rintro _ L2 ⟨rfl,hE⟩
 refine Ea rfl rfl<|Ek4 2 3 4 5 rfl<|Cr<|Em rfl rfl<|Ah (Dg rfl) rfl<|Ek5 2 3 4 5 11 rfl<|Dp rfl (fun h11 => ?_) (fun h11 => ?_)
 ·have hE2 := hE.resolve_right (fun h => h11 h.1)
  refine Cr<|Em rfl rfl<|Ea rfl rfl<|Ea rfl rfl<|Ek5 2 3 4 5 11 rfl<|Av ?_
  exact ⟨_,_,rfl,rfl,.inl ⟨h11,rfl,hE2.2⟩⟩
 have hE2 := hE.resolve_left (fun h => h.1 h11)
 refine Ar<|Cr<|Em rfl rfl<|Ea rfl rfl<|Aa (Bc (v:=Er.val ea .none) rfl) rfl<|Ek5 2 3 4 5 11 rfl<|Av ?_
 exact ⟨_,_,rfl,rfl,.inr ⟨h11,b6,rfl,hE2.2⟩⟩
theorem zNewReader_spec {K : Known} {ea : Fin 5 → Addr} (hs : Sents K ea) (src : Src K ea) (l : List UInt8) (x1 x2 x3 : Frag) (hA : src.At l x1 x2 x3) :
    Fn Tryz.prog K 20 #[.iface src.t src.v] [x1,x2,x3] (fun r L => ((Ac l).1 ≠ .none ∧ r = .tuple #[.pointer none,Er.val ea (Ac l).1] ∧ ∃ f1 f2 f3,src.At (Ac l).2.1 f1 f2 f3 ∧ L = [f1,f2,f3]) ∨
      ((Ac l).1 = .none ∧ ∃ zb,r = .tuple #[.pointer (some ⟨zb,0,none⟩),Er.val ea (Ac l).1] ∧ ZAt src zb (Ac l).2.2 true (Ac l).2.1 L)) := by
  refine Fn.lose (newReader_walk hs src l x1 x2 x3 hA) ?_
  rintro v L' (⟨hne,rfl,f1,f2,f3,T,hF,rfl⟩ | ⟨hno,zb,rfl,hz⟩)
  · exact ⟨_,_,Same.refl _,.inl ⟨hne,rfl,f1,f2,f3,hF,rfl⟩⟩
  · exact ⟨L',[],Same.of_eq (List.append_nil _).symm,.inr ⟨hno,zb,by rw [hno],hz⟩⟩
theorem multi_walk {K : Known} (zb : Nat) (ev ms : Value) (on : Bool) : Fn Tryz.prog K 33 #[.pointer (some ⟨zb,0,none⟩),.bool on] ([⟨zb,522,[ev,ms]⟩]) (fun r L => r = .tuple #[] ∧ L = [⟨zb,522,[ev,.bool on]⟩]) := by
 refine Fn.intro (args:=[.pointer (some ⟨zb,0,none⟩),.bool on]) (RR:=Ret0 _) Tryz.func33 rfl rfl Tryz.ntmps33 (res0 Tryz.results33) ?_
 refine Bl (env2:=[(0,.pointer (some ⟨zb,0,none⟩)),(1,.bool on)]) rfl<|Al<|Em rfl rfl<|Em rfl rfl<|Aa (Ad rfl) rfl<|Aa (Ae rfl fa99_7) rfl ?_
 refine Ao (Aq 0 (k:=1) rfl rfl rfl rfl rfl Tz4) ?_; rintro _ _ ⟨rfl,rfl⟩; refine Ab (L2:=[_]) rfl ?_
 refine Fs [] (env1:=[]) rfl ?_
 exact ⟨rfl,rfl⟩
set_option maxHeartbeats 2000000
theorem C.shed {P : Program} {H0 : Known} {n : Nat} {c : Code} {env : Env} {L A F : Frags} {N Y R} (is : List Nat) (hp : picks is L = some (A,F)) (h : wpC P H0 n c env F N Y R) : wpC P H0 n c env L N Y R := by
  refine C.perm ((Bj hp).trans List.perm_append_comm) ?_
  intro a w hf hw Q s
  have base : ∀ {w' L'},To H0 w F w' L' → To H0 w (F ++ A) w' L' := fun t => (To.frame hw t).drop
  exact h a w hf hw.drop Q ⟨fun e l a w h f k => s.normal e l a w h f (base k),fun id M hk e l a w h f k => s.exit id M hk e l a w h f (base k),fun id M hk e l a w h f k => s.goto id M hk e l a w h f (base k),fun e l a w h f k => s.ret e l a w h f (base k)⟩
theorem C.dropR {P : Program} {H0 : Known} {n : Nat} {c : Code} {env : Env} {A F : Frags} {N Y R} (h : wpC P H0 n c env F N Y R) : wpC P H0 n c env (F ++ A) N Y R := by
  intro a w hf hw Q s
  have base : ∀ {w' L'},To H0 w F w' L' → To H0 w (F ++ A) w' L' := fun t => (To.frame hw t).drop
  exact h a w hf hw.drop Q ⟨fun e l a w h f k => s.normal e l a w h f (base k),fun id M hk e l a w h f k => s.exit id M hk e l a w h f (base k),fun id M hk e l a w h f k => s.goto id M hk e l a w h f (base k),fun e l a w h f k => s.ret e l a w h f (base k)⟩
theorem crcOn_nil : crcOn IEEE 0 [] = 0 := by decide
def ZRd {K : Known} {ea : Fin 5 → Addr} (src : Src K ea) (zb : Nat) (ms : Bool) (Y : List UInt8 × ZEnd) (L : Frags) : Prop :=
  ∃ Dt gv c0 c1 c2 c3 c4 c5 bs fb DK,bs.length = 512 ∧ DecOk src Dt fb (run Dt .next [] 0) gv DK ∧ gv ≤ (run Dt .next [] 0).1.length ∧ Y = ((run Dt .next [] 0).1.drop gv ++ (gzT ms Dt).1,(gzT ms Dt).2) ∧
    L = [⟨zb,0,[c0,c1,c2,c3,c4,c5,.iface src.t src.v,.iface 190 (.pointer (some ⟨fb,0,none⟩)),.int .u32 ((crcOn IEEE 0 ((run Dt .next [] 0).1.take (gv)) : Nat) : Int),.int .u32 (((gv) % 4294967296 : Nat) : Int)]⟩,⟨zb,10,bs⟩,⟨zb,522,[Er.val ea .none,.bool ms]⟩] ++ DK
def ReadZ {K : Known} {ea : Fin 5 → Addr} (src : Src K ea) (zb : Nat) (ms : Bool) (Y : List UInt8 × ZEnd) (pb po n : Nat) (cs : List Value) (r : Value) (L : Frags) : Prop :=
  ∃ k er,r = .tuple #[.int .i64 ((k : Nat) : Int),Er.val ea er] ∧ k ≤ n ∧ k ≤ Y.1.length ∧
    ((er = .none ∧ 0 < k ∧ ∃ LZ,ZRd src zb ms (Y.1.drop k,Y.2) LZ ∧ L = ⟨pb,po,bytesV (Y.1.take k) ++ cs.drop k⟩::LZ) ∨
     (er ≠ .none ∧ k = Y.1.length ∧ kindOf er = Y.2.1 ∧ ∃ f1 f2 f3 LZ,(∃ l,src.At l f1 f2 f3) ∧ (ms = false → Y.2.1 = 1 → src.At Y.2.2 f1 f2 f3) ∧ ZOld zb LZ ∧ L = ⟨pb,po,bytesV (Y.1.take k) ++ cs.drop k⟩::f1::f2::f3::LZ))
theorem decRead_in {K : Known} {ea : Fin 5 → Addr} (hs : Sents K ea) (hc : Codes K) {src : Src K ea} {dt : List UInt8} {fb : Nat} {R : ResR} {gv : Nat} {DK : Frags} (hD : DecOk src dt fb R gv DK) (pb po n c : Nat) (cs : List Value) (hn : n = cs.length) (hn0 : 0 < n) (a1 a2 a3 : Frag) :
    Fn Tryz.prog K 135 #[.pointer (some ⟨fb,0,none⟩),.slice (some ⟨pb,po,none⟩) (n) (c)] ([a1,a2,a3,⟨pb,po,cs⟩] ++ DK) fun r L => ∃ k er L1,r = .tuple #[.int .i64 ((k : Nat) : Int),Er.val ea er] ∧ k ≤ n ∧ k ≤ (R.1.drop gv).length ∧
      L = [a1,a2,a3,⟨pb,po,bytesV ((R.1.drop gv).take k) ++ cs.drop k⟩] ++ L1 ∧ ((er = .none ∧ 0 < k ∧ DecOk src dt fb R (gv + k) L1) ∨ (er ≠ .none ∧ gv + k = R.1.length ∧ DecFin src dt fb R er L1)) := by
  have pm : ∀ (B : Frag) (DK : Frags),([a1,a2,a3,B] ++ DK).Perm ((DK ++ [B]) ++ [a1,a2,a3]) := fun B DK =>
    (List.Perm.append_left [a1,a2,a3] (List.perm_append_comm (l₁:=[B]))).trans List.perm_append_comm
  refine Fn.sameR (Fn.perm (pm _ DK) (Fn.frame (F:=[a1,a2,a3]) (decRead_spec hs hc hD pb po n c cs hn hn0))) ?_
  rintro v L ⟨L0,⟨k,er,L1,rfl,h1,h2,rfl,h3⟩,rfl⟩
  exact ⟨_,Same.perm (pm _ L1).symm,k,er,L1,rfl,h1,h2,rfl,h3⟩
theorem eightB {l : List UInt8} (h : De l 8 = .none) : ∃ v0 v1 v2 v3 v4 v5 v6 v7 r,l = v0::v1::v2::v3::v4::v5::v6::v7::r := by
  have hl := full_len h
  match l,hl with
  | v0::v1::v2::v3::v4::v5::v6::v7::r,_ => exact ⟨_,_,_,_,_,_,_,_,_,rfl⟩
theorem kind_full {l : List UInt8} {m : Nat} (h : De l m ≠ .none) : kindOf (noEof (De l m)) = 5 := by
  unfold De at h ⊢
  split at h
  · exact absurd rfl h
  · rename_i h1
    rw [if_neg h1]
    split
    · rw [noEof_eof rfl]; rfl
    · rw [noEof_other (by simp)]; rfl
theorem zRead_walk {K : Known} {ea : Fin 5 → Addr} (hs : Sents K ea) (hc : Codes K) (src : Src K ea) (zb : Nat) (ms : Bool) (Y : List UInt8 × ZEnd) (pb po n c : Nat) (cs : List Value) (hn : n = cs.length) (hn0 : 0 < n) (hnc : n ≤ c) (hnl : n ≤ 4611686018427387904) (D0 : List UInt8) (gv0 : Nat) (c0 c1 c2 c3 c4 c5 : Value) (bs0 : List Value) (fb0 : Nat) (DK0 : Frags) (hb0 : bs0.length = 512) (hD0 : DecOk src D0 fb0 (run D0 .next [] 0) gv0 DK0) (hg0 : gv0 ≤ (run D0 .next [] 0).1.length) (e0 : Er) (he0 : e0 = .none) (hX0 : Y = ((run D0 .next [] 0).1.drop gv0 ++ (gzT ms D0).1,(gzT ms D0).2)) : Fn Tryz.prog K 40 #[.pointer (some ⟨zb,0,none⟩),.slice (some ⟨pb,po,none⟩) (n) (c)] ([⟨zb,0,[c0,c1,c2,c3,c4,c5,.iface src.t src.v,.iface 190 (.pointer (some ⟨fb0,0,none⟩)),.int .u32 ((crcOn IEEE 0 ((run D0 .next [] 0).1.take gv0) : Nat) : Int),.int .u32 (((gv0) % 4294967296 : Nat) : Int)]⟩,⟨zb,10,bs0⟩,⟨zb,522,[Er.val ea e0,.bool ms]⟩,⟨pb,po,cs⟩] ++ DK0) (fun r L => ∃ L2 J,Same L (L2 ++ J) ∧ ReadZ src zb ms Y pb po n cs r L2) := by
 refine Fn.intro (args:=[.pointer (some ⟨zb,0,none⟩),.slice (some ⟨pb,po,none⟩) (n) (c)]) (RR:=Ret2 4 5 _) Tryz.func40 rfl rfl Tryz.ntmps40 (res2 Tryz.results40) ?_
 refine Bl (env2:=[(0,.pointer (some ⟨zb,0,none⟩)),(1,.slice (some ⟨pb,po,none⟩) (n) (c))]) rfl<|Cr<|Ea rfl rfl<|Aa (Bc (v:=Er.val ea .none) rfl) rfl<|Ek4 0 1 4 5 rfl<|Ap<|Cr<|Em rfl rfl<|Aa (Ad rfl) rfl<|Aa (Ae rfl fa99_6) rfl<|Ah (An 2 (k:=0) rfl rfl rfl Ta58) rfl<|Ah (Dg rfl) rfl ?_
 refine Ek5 0 1 4 5 14 rfl<|Dp rfl (fun h14 => ?_) (fun h14 => ?_)
 ·exact absurd he0 h14
 subst he0
 refine Ar<|Ap<|Ax<|Bx (fun mm ee ll => ∃ (Dt : List UInt8),∃ (gv : Nat),∃ (k : Nat),∃ (bs : List Value),∃ (fb : Nat),∃ (DK : Frags),keeps ee [0,1,4] = some [(0,.pointer (some ⟨zb,0,none⟩)),(1,.slice (some ⟨pb,po,none⟩) (n) (c)),(4,.int .i64 ((k : Nat) : Int))] ∧ ll = [⟨zb,0,[c0,c1,c2,c3,c4,c5,.iface src.t src.v,.iface 190 (.pointer (some ⟨fb,0,none⟩)),.int .u32 ((crcOn IEEE 0 ((run Dt .next [] 0).1.take (gv)) : Nat) : Int),.int .u32 (((gv) % 4294967296 : Nat) : Int)]⟩,⟨zb,10,bs⟩,⟨zb,522,[.nilIface,.bool ms]⟩,⟨pb,po,bytesV (Y.1.take k) ++ cs.drop k⟩] ++ DK ∧ (DecOk src Dt fb (run Dt .next [] 0) gv DK) ∧ (bs.length = 512) ∧ (gv ≤ (run Dt .next [] 0).1.length) ∧ ((Y.1.drop k,Y.2) = ((run Dt .next [] 0).1.drop gv ++ (gzT ms Dt).1,(gzT ms Dt).2)) ∧ (k ≤ n) ∧ (k ≤ Y.1.length) ∧ mm = Dt.length) (_) ⟨D0,gv0,0,bs0,fb0,DK0,rfl,rfl,hD0,hb0,hg0,hX0,Nat.zero_le _,Nat.zero_le _,rfl⟩ ?_
 rintro m0 _ _ ⟨Dt,gv,k,bs,fb,DK,hk0,rfl,hD,hbs,hgv,hX,hkn,hkX,hm0⟩
 refine Ba _ hk0<|Ap<|Cr<|Em rfl rfl<|Aa (Dx (b:=((0 : Nat) : Int)) rfl rfl) rfl<|Ek4 0 1 4 20 rfl<|Be rfl (fun h20 => ?_) (fun h20 => ?_)
 ·have hkz : k = 0 := by omega
  subst hkz
  refine Ar<|Ax<|Ap<|Bq (L2:=[⟨zb,0,[c0,c1,c2,c3,c4,c5,.iface src.t src.v,.iface 190 (.pointer (some ⟨fb,0,none⟩)),.int .u32 ((crcOn IEEE 0 ((run Dt .next [] 0).1.take (gv)) : Nat) : Int),.int .u32 (((gv) % 4294967296 : Nat) : Int)]⟩,⟨zb,10,bs⟩,⟨zb,522,[.nilIface,.bool ms]⟩,⟨pb,po,cs⟩] ++ DK) rfl<|Al<|Em rfl rfl<|Em rfl rfl<|Aa (Ad rfl) rfl<|Aa (Ae rfl fa99_2) rfl<|Ah (An 0 (k:=7) rfl rfl rfl Tryz.isAgg96) rfl<|Em rfl rfl ?_
  refine Ak (X.invoke rfl rfl (dmRead fb) Tryz.call135 (decRead_in hs hc hD pb po n c cs hn hn0 _ _ _)) rfl ?_; rintro _ _ ⟨j,er,L1,rfl,hj1,hj2,rfl,hE⟩; refine Ab (L2:=(_::_::_::_::_)) rfl ?_
  refine Em rfl rfl<|Aa (Bb rfl rfl) rfl<|Aa (Bb rfl rfl) rfl<|Ea rfl rfl<|Aa (Ad rfl) rfl<|Aa (Ae rfl fa99_6) rfl ?_
  refine Ao (Aq 2 (k:=0) rfl rfl rfl (one_er _) rfl Tz58) ?_; rintro _ _ ⟨rfl,rfl⟩; refine Ab (L2:=(_::_::_::_::_)) rfl ?_
  refine Ek4 0 1 4 20 rfl ?_
  have hX1 : Y.1 = (run Dt .next [] 0).1.drop gv ++ (gzT ms Dt).1 := (Prod.mk.inj hX).1
  have hX2 : Y.2 = (gzT ms Dt).2 := (Prod.mk.inj hX).2
  have hXt : ((run Dt .next [] 0).1.drop gv).take j = Y.1.take j := by rw [hX1,List.take_append_of_le_length hj2]
  have hXd : Y.1.drop j = (run Dt .next [] 0).1.drop (gv + j) ++ (gzT ms Dt).1 := by rw [hX1,List.drop_append_of_le_length hj2,List.drop_drop]
  have hrl : ((run Dt .next [] 0).1.drop gv).length = (run Dt .next [] 0).1.length - gv := List.length_drop
  have hjX : j ≤ Y.1.length := by rw [hX1,List.length_append]; omega
  have htk : (Y.1.take j).length = j := by rw [List.length_take]; omega
  have hcr : crcOn IEEE (crcOn IEEE 0 ((run Dt .next [] 0).1.take (gv))) (Y.1.take j) = crcOn IEEE 0 ((run Dt .next [] 0).1.take (gv + j)) := by rw [crcOn_append,← hXt,← List.take_add]
  have hcl : crcOn IEEE 0 ((run Dt .next [] 0).1.take (gv)) < 4294967296 := Gr (by decide) (by decide) _
  refine Bq (L2:=[⟨zb,0,[c0,c1,c2,c3,c4,c5,.iface src.t src.v,.iface 190 (.pointer (some ⟨fb,0,none⟩)),.int .u32 ((crcOn IEEE 0 ((run Dt .next [] 0).1.take (gv)) : Nat) : Int),.int .u32 (((gv) % 4294967296 : Nat) : Int)]⟩,⟨zb,10,bs⟩,⟨zb,522,[Er.val ea er,.bool ms]⟩,⟨pb,po,bytesV (Y.1.take j) ++ cs.drop j⟩] ++ L1) (by rw [hXt]; rfl) ?_
  refine Ap<|Br [0,0,2,4,8,0,0,96,144,511,1023,1535] (.pure 0 510 (.pure 1 225 (.pure 2 227 (.pure 3 231 (.pure 5 95 (.pure 6 63 (.pure 7 127 (.seg [(4,239)] (.alt 8 (.pure 9 511 (.pure 10 1023 (.alt 11 .done .stop))) .stop))))))))) mixed (by decide +kernel)<|Dm rfl rfl rfl<|Dm rfl rfl rfl<|Ai rfl (Ad rfl) rfl<|Ai rfl (Ae rfl fa99_3) rfl<|Dm rfl rfl rfl<|Dm rfl rfl rfl<|Ai rfl (S.slH rfl rfl (by omega) Tu25 Tz5) rfl<|Dn (v:=.slice (some ⟨pb,po,none⟩) ((Y.1.take j).length) (c)) (Bo (by simp [part]) (by rw [htk]) rfl)<|Dc (by decide)<|Az rfl (An 0 (k:=8) rfl rfl rfl Ta69) rfl ?_
  refine Db<|Da ?_
  refine Df rfl (Au rfl Tryz.call55 (Gt (crcOn IEEE 0 ((run Dt .next [] 0).1.take (gv))) pb po c (Y.1.take j) hcl (Reads.frag (i:=3) (k:=0) rfl (by rw [List.drop_zero,List.take_left'] ; rfl)) (by omega) (by omega))) rfl ?_; rintro _ _ ⟨rfl,rfl⟩; refine Bf (L2:=(_::_::_::_::_)) rfl ?_
  refine Dn (v:=.int .u32 ((crcOn IEEE 0 ((run Dt .next [] 0).1.take (gv + j)) : Nat) : Int)) (congrArg (fun y : Nat => Value.int .u32 (y : Int)) (by exact hcr))<|Ai rfl (Ad rfl) rfl<|Ai rfl (Ae rfl fa99_3) rfl<|Da ?_
  refine Bz rfl (Aq 0 (k:=8) rfl rfl rfl rfl rfl Tz69) ?_; rintro _ _ ⟨rfl,rfl⟩; refine Bf (L2:=(_::_::_::_::_)) rfl ?_
  refine Dk4 0 1 4 20 rfl<|Cr<|Em rfl rfl<|Aa (Ad rfl) rfl<|Aa (Ae rfl fa99_4) rfl<|Ah (An 0 (k:=9) rfl rfl rfl Ta69) rfl<|Em rfl rfl<|Aa (Bv rfl Tu3 Tu69 (N.mod_u32 _)) rfl<|Aa (Bh rfl rfl (N.addU32w _ _)) rfl<|Am (v:=.int .u32 (((gv + j) % 4294967296 : Nat) : Int)) (congrArg (fun y : Nat => Value.int .u32 (y : Int)) (by omega))<|Aa (Ad rfl) rfl<|Aa (Ae rfl fa99_4) rfl ?_
  refine Ao (Aq 0 (k:=9) rfl rfl rfl rfl rfl Tz69) ?_; rintro _ _ ⟨rfl,rfl⟩; refine Ab (L2:=(_::_::_::_::_)) rfl ?_
  refine Ek4 0 1 4 20 rfl<|Ap<|Ap<|Br [0,1,2,4,0,24] (.pure 0 16 (.pure 1 17 (.pure 2 19 (.seg [(3,23),(4,15),(5,31)] .done)))) mixed (by decide +kernel)<|Dm rfl rfl rfl<|Ai rfl (Ad rfl) rfl<|Ai rfl (Ae rfl fa99_6) rfl<|Dc (by decide)<|Az rfl (An 2 (k:=0) rfl rfl rfl Ta58) rfl<|Az rfl (Bd rfl hs.g0 Ta58) rfl<|Az rfl (S.neEr hs rfl rfl) rfl<|Db ?_
  refine Dk5 0 1 4 20 58 rfl<|C.ifNotSe rfl (fun h58 => ?_) (fun h58 => ?_)
  ·refine Ap<|Br [0,0,2,4,8,1,63] (.pure 0 30 (.pure 1 33 (.pure 2 35 (.pure 3 39 (.pure 5 31 (.seg [(4,47),(6,63)] .done)))))) mixed (by decide +kernel)<|Dm rfl rfl rfl<|Dm rfl rfl rfl<|Ai rfl (Ad rfl) rfl<|Ai rfl (Ae rfl fa99_6) rfl<|Ai rfl (Bc rfl) rfl<|Dc (by decide)<|Az rfl (An 2 (k:=0) rfl rfl rfl Ta58) rfl<|Bg rfl (Bc rfl) rfl<|Db<|Dk6 0 1 4 5 20 58 rfl ?_
   refine Av ?_
   rcases hE with ⟨rfl,hj0,hOk⟩ | ⟨hne,hgj,hb3,y1,y2,y3,Af,Tf,Wf,Hf,TL,hDS,hEO,rfl⟩
   · exact ⟨_,_,rfl,rfl,_,[],(Same.perm (Bj (is:=[3,0,0,0]) (A:=[_,_,_,_]) (F:=L1) rfl)).trans (Same.of_eq (List.append_nil _).symm),j,.none,rfl,hj1,hjX,.inl ⟨rfl,hj0,_,⟨Dt,gv + j,c0,c1,c2,c3,c4,c5,bs,fb,L1,hbs,hOk,by omega,by rw [hXd,hX2],rfl⟩,rfl⟩⟩
   · obtain ⟨hbad,h5,lx,hAx⟩ := hEO.resolve_left fun ⟨q,_,h,_⟩ => h58 h
     have hT := gzT_bad (ms:=ms) hbad
     rw [hT] at hX1 hX2
     obtain ⟨DL,J,hraw,hS⟩ := hDS.rawd
     have hs1 := hS [⟨zb,0,[c0,c1,c2,c3,c4,c5,.iface src.t src.v,.iface 190 (.pointer (some ⟨fb,0,none⟩)),.int .u32 ((crcOn IEEE 0 ((run Dt .next [] 0).1.take (gv + j)) : Nat) : Int),.int .u32 (((gv + j) % 4294967296 : Nat) : Int)]⟩,⟨zb,10,bs⟩,⟨zb,522,[Er.val ea er,.bool ms]⟩,⟨pb,po,bytesV (Y.1.take j) ++ cs.drop j⟩,y1,y2,y3]
     refine ⟨_,_,rfl,rfl,⟨pb,po,bytesV (Y.1.take j) ++ cs.drop j⟩::y1::y2::y3::([⟨zb,0,[c0,c1,c2,c3,c4,c5,.iface src.t src.v,.iface 190 (.pointer (some ⟨fb,0,none⟩)),.int .u32 ((crcOn IEEE 0 ((run Dt .next [] 0).1.take (gv + j)) : Nat) : Int),.int .u32 (((gv + j) % 4294967296 : Nat) : Int)]⟩,⟨zb,10,bs⟩,⟨zb,522,[Er.val ea er,.bool ms]⟩] ++ DL),J,hs1.trans (Same.perm ?_),j,er,rfl,hj1,hjX,.inr ⟨hne,?_,?_,y1,y2,y3,_,⟨lx,hAx⟩,?_,⟨c0,c1,c2,c3,c4,c5,_,_,_,_,bs,_,_,DL,hbs,.inr ⟨fb,rfl,hraw⟩,rfl⟩,rfl⟩⟩
     · exact (Bj (is:=[3,3,3,3,0,0,0]) (A:=[_,_,_,_,_,_,_]) (F:=DL) rfl).append_right J
     · rw [hX1,List.append_nil]; omega
     · rw [hX2]; exact h5.1
     · intro _ h; rw [hX2] at h; cases h
  subst h58
  obtain ⟨_,hgj,hb3,y1,y2,y3,Af,Tf,Wf,Hf,TL,hDS,hEO,rfl⟩ := hE.resolve_left (fun h => by cases h.1)
  obtain ⟨q,hRq,_,hql,hAt⟩ := hEO.resolve_right (fun h => by have := h.2.1.1; cases this)
  obtain ⟨DL,J,hraw,hS⟩ := hDS.rawd
  refine Ez (hS [⟨zb,0,[c0,c1,c2,c3,c4,c5,.iface src.t src.v,.iface 190 (.pointer (some ⟨fb,0,none⟩)),.int .u32 ((crcOn IEEE 0 ((run Dt .next [] 0).1.take (gv + j)) : Nat) : Int),.int .u32 (((gv + j) % 4294967296 : Nat) : Int)]⟩,⟨zb,10,bs⟩,⟨zb,522,[Er.val ea .eof,.bool ms]⟩,⟨pb,po,bytesV (Y.1.take j) ++ cs.drop j⟩,y1,y2,y3])<|C.dropR ?_
  have hall : (run Dt .next [] 0).1.take (gv + j) = (run Dt .next [] 0).1 := List.take_of_length_le (by omega)
  have hnil : (run Dt .next [] 0).1.drop (gv + j) = [] := List.drop_eq_nil_of_le (by omega)
  rw [hnil,List.nil_append] at hXd
  refine Ar<|Ap<|Ap ?_
  refine Ez (Same.splitAt (k:=8) 1 rfl rfl (List.take_append_drop 8 _).symm (by rw [List.length_take]; omega) rfl) ?_
  refine Bq (L2:=[_,_,_,_,_,_,_,_] ++ DL) rfl<|Br [0,1,2,4,0,16,32,64,136,256,512,512,2047,8191] (.pure 0 240 (.pure 1 241 (.pure 2 243 (.pure 4 15 (.pure 5 31 (.pure 6 63 (.pure 7 127 (.seg [(3,247)] (.alt 8 (.pure 9 511 (.pure 10 3071 (.pure 11 6143 (.pure 12 4095 (.pure 13 8191 .done))))) .stop))))))))) mixed (by decide +kernel)<|Dm rfl rfl rfl<|Ai rfl (Ad rfl) rfl<|Ai rfl (Ae rfl fa99_1) rfl<|Dm rfl rfl rfl<|Ai rfl (Ad rfl) rfl<|Ai rfl (Ae rfl fa99_5) rfl<|Ai rfl (Fo (l:=0) (k:=.i64) (h:=8) rfl rfl rfl (by omega) (by omega) Tu97 Tz5) rfl<|Dn (v:=.slice (some ⟨zb,10,none⟩) (8) (512)) (Bo (by simp [part]) rfl rfl)<|Dc (by decide)<|Az rfl (An 2 (k:=6) rfl rfl rfl Ta94) rfl ?_
  refine Db<|Da ?_
  refine Df rfl (OpX.pick [5,5,5,0] (F:=(_::_::_::_::_)) rfl (Au rfl Tryz.call56 (Gf hs src (Dt.drop q) y1 y2 y3 zb 10 8 512 (List.take 8 bs) hAt (by rw [List.length_take]; omega) (by omega) (by omega)))) rfl ?_; rintro _ _ ⟨_,⟨f1,f2,f3,hF,rfl,rfl⟩,rfl⟩; refine Bf (L2:=(_::_::_::_::_::_::_::_::_)) rfl ?_
  refine Dm rfl rfl rfl<|Ai rfl (Bb rfl rfl) rfl<|Ai rfl (Bb rfl rfl) rfl<|Ai rfl (Bc rfl) rfl<|Ai rfl (Bc rfl) rfl<|Dk6 0 1 4 7 20 58 rfl ?_
  refine Ez (Same.joinAt 3 3 rfl rfl (by rw [show 10 + 8 = 10 + (8 : Nat) from rfl]; congr 1; simp only [List.length_append,Bp,List.length_take,List.length_drop,show ∀ a b : Nat,Nat.min a b = min a b from fun _ _ => rfl]; omega)) ?_
  refine Bq (L2:=[_,_,_,_,_,_,_] ++ DL) rfl<|Cr<|Em rfl rfl<|Ah (Dg rfl) rfl<|Ek7 0 1 4 7 20 58 77 rfl<|Dp rfl (fun h77 => ?_) (fun h77 => ?_)
  ·have hbj := buf_join (bs:=bs) (l:=Dt.drop q) (m:=8) (by omega)
   have hjl : j = Y.1.length := by have hT := gzT_short (ms:=ms) hRq (En.1 h77); rw [hT] at hX1; rw [hX1,List.append_nil]; omega
   refine Cr<|Em rfl rfl<|Em rfl rfl ?_
   refine Ak (OpX.pick [] (F:=(_::_::_::_::_::_::_::_)) rfl (Au rfl Tryz.call57 (Ew (L:=[]) hs _))) rfl ?_; rintro _ _ ⟨_,⟨rfl,rfl⟩,rfl⟩; refine Ab (L2:=(_::_::_::_::_::_::_::_)) rfl ?_
   refine Aa (Ad rfl) rfl<|Aa (Ae rfl fa99_6) rfl ?_
   refine Ao (Aq 5 (k:=0) rfl rfl rfl (one_er _) rfl Tz58) ?_; rintro _ _ ⟨rfl,rfl⟩; refine Ab (L2:=(_::_::_::_::_::_::_::_)) rfl ?_
   refine Ek7 0 1 4 7 20 58 77 rfl<|Ap<|Br [0,0,2,4,8,1,63] (.pure 0 30 (.pure 1 33 (.pure 2 35 (.pure 3 39 (.pure 5 31 (.seg [(4,47),(6,63)] .done)))))) mixed (by decide +kernel)<|Dm rfl rfl rfl<|Dm rfl rfl rfl<|Ai rfl (Ad rfl) rfl<|Ai rfl (Ae rfl fa99_6) rfl<|Ai rfl (Bc rfl) rfl<|Dc (by decide)<|Az rfl (An 5 (k:=0) rfl rfl rfl Ta58) rfl<|Bg rfl (Bc rfl) rfl<|Db ?_
   refine Dk8 0 1 4 5 7 20 58 77 rfl<|Av ?_
   refine ⟨_,_,rfl,rfl,_,[],(Same.perm (Bj (is:=[6,1,1,1,1,0,0]) (A:=[_,_,_,_,_,_,_]) (F:=DL) rfl)).trans (Same.of_eq (List.append_nil _).symm),j,noEof (De (Dt.drop q) 8),rfl,hj1,hjX,.inr ⟨Dl h77,hjl,by rw [hX2,gzT_short hRq (En.1 h77)]; exact kind_full h77,_,_,_,_,⟨_,hF⟩,(fun _ h => by rw [hX2,gzT_short hRq (En.1 h77)] at h; cases h),⟨c0,c1,c2,c3,c4,c5,_,_,_,_,_,_,_,DL,(hbj.trans hbs),.inr ⟨fb,rfl,hraw⟩,rfl⟩,rfl⟩⟩
  rw [h77]
  obtain ⟨v0,v1,v2,v3,v4,v5,v6,v7,l8,hl8⟩ := eightB h77
  have hv0 := v0.toNat_lt
  have hv1 := v1.toNat_lt
  have hv2 := v2.toNat_lt
  have hv3 := v3.toNat_lt
  have hv4 := v4.toNat_lt
  have hv5 := v5.toNat_lt
  have hv6 := v6.toNat_lt
  have hv7 := v7.toNat_lt
  have hn8 := full_len h77
  have h8 : ¬ (Dt.drop q).length < 8 := by omega
  refine Bq (L2:=[⟨zb,10,u8 v0::u8 v1::u8 v2::u8 v3::u8 v4::u8 v5::u8 v6::u8 v7::bs.drop 8⟩,f1,f2,f3,⟨zb,0,[c0,c1,c2,c3,c4,c5,.iface src.t src.v,.iface 190 (.pointer (some ⟨fb,0,none⟩)),.int .u32 ((crcOn IEEE 0 ((run Dt .next [] 0).1.take (gv + j)) : Nat) : Int),.int .u32 (((gv + j) % 4294967296 : Nat) : Int)]⟩,⟨zb,522,[Er.val ea .eof,.bool ms]⟩,⟨pb,po,bytesV (Y.1.take j) ++ cs.drop j⟩] ++ DL) (by rw [buf_full (full_len h77),hl8]; rfl) ?_
  have hbs8 : (u8 v0::u8 v1::u8 v2::u8 v3::u8 v4::u8 v5::u8 v6::u8 v7::bs.drop 8).length = 512 := by simp only [List.length_cons,List.length_drop]; omega
  have ht0 : le32at (Dt.drop q) 0 = le32 v0.toNat v1.toNat v2.toNat v3.toNat := by rw [hl8]; rfl
  have ht4 : le32at (Dt.drop q) 4 = le32 v4.toNat v5.toNat v6.toNat v7.toNat := by rw [hl8]; rfl
  have hle0 := le32_lt hv0 hv1 hv2 hv3
  have hle4 := le32_lt hv4 hv5 hv6 hv7
  have hlen : gv + j = (run Dt .next [] 0).1.length := hgj
  have hj0 : (crcOn IEEE 0 ((run Dt .next [] 0).1.take (gv + j))) = crcOn IEEE 0 (run Dt .next [] 0).1 := by rw [hall]
  have hjl : j = Y.1.length ∨ True := .inr trivial
  refine Ar<|Cr<|Em rfl rfl<|Aa (Ad rfl) rfl<|Aa (Ae rfl fa99_5) rfl<|Aa (Fo (l:=0) (k:=.i64) (h:=4) rfl rfl rfl (by omega) (by omega) Tu97 Tz5) rfl<|Am (v:=.slice (some ⟨zb,10,none⟩) (4) (512)) (Bo (by simp [part]) rfl rfl) ?_
  refine Ak (Au rfl Tryz.call58 (le32_spec zb 10 4 512 v0 v1 v2 v3 [] (by omega) (Reads.frag (i:=0) (k:=0) rfl rfl))) rfl ?_; rintro _ _ ⟨rfl,rfl⟩; refine Ab (L2:=(_::_::_::_::_::_::_::_)) rfl ?_
  refine Ea rfl rfl<|Ek8 0 1 4 7 8 20 58 77 rfl<|Cr<|Em rfl rfl<|Aa (Ad rfl) rfl<|Aa (Ae rfl fa99_5) rfl<|Aa (Fo (l:=4) (h:=8) rfl rfl rfl (by omega) (by omega) Tu97 Tz5) rfl<|Am (v:=.slice (some ⟨zb,14,none⟩) (4) (508)) (Bo (by simp [part]) rfl rfl) ?_
  refine Ak (Au rfl Tryz.call58 (le32_spec zb 14 4 508 v4 v5 v6 v7 [] (by omega) (Reads.frag (i:=0) (k:=4) rfl rfl))) rfl ?_; rintro _ _ ⟨rfl,rfl⟩; refine Ab (L2:=(_::_::_::_::_::_::_::_)) rfl ?_
  refine Ea rfl rfl<|Ek9 0 1 4 7 8 9 20 58 77 rfl<|Ap<|Cr<|Em rfl rfl<|Em rfl rfl<|Aa (Ad rfl) rfl<|Aa (Ae rfl fa99_3) rfl<|Ah (An 4 (k:=8) rfl rfl rfl Ta69) rfl<|Aa (Fq rfl rfl) rfl<|Em rfl rfl<|Ec (fun g104 => ?_) (fun g104 => ?_)
  ·have hnf : ¬ fits (run Dt .next [] 0).1 (Dt.drop q) := fun h => by rw [fits,ht0,ht4] at h; omega
   have hjl : j = Y.1.length := by have hT := gzT_sum (ms:=ms) hRq h8 hnf; rw [hT] at hX1; rw [hX1,List.append_nil]; omega
   refine Ag 104 true rfl rfl rfl rfl<|Ag 104 true rfl rfl rfl rfl<|Ag 104 true rfl rfl rfl rfl<|Ag 104 true rfl rfl rfl rfl<|Ag 104 true rfl rfl rfl rfl<|Ag 104 true rfl rfl rfl rfl<|Aa (By rfl rfl) rfl<|Ek10 0 1 4 7 8 9 20 58 77 111 rfl<|Ft rfl (rfl)<|Cr<|Em rfl rfl<|Ah (Bd rfl hs.g2 Ta58) rfl ?_
   refine Aa (Ad rfl) rfl<|Aa (Ae rfl fa99_6) rfl ?_
   refine Ao (Aq 5 (k:=0) rfl rfl rfl rfl rfl Tz58) ?_; rintro _ _ ⟨rfl,rfl⟩; refine Ab (L2:=(_::_::_::_::_::_::_::_)) rfl ?_
   refine Ek10 0 1 4 7 8 9 20 58 77 111 rfl<|Ap<|Br [0,0,2,4,8,1,63] (.pure 0 30 (.pure 1 33 (.pure 2 35 (.pure 3 39 (.pure 5 31 (.seg [(4,47),(6,63)] .done)))))) mixed (by decide +kernel)<|Dm rfl rfl rfl<|Dm rfl rfl rfl<|Ai rfl (Ad rfl) rfl<|Ai rfl (Ae rfl fa99_6) rfl<|Ai rfl (Bc rfl) rfl<|Dc (by decide)<|Az rfl (An 5 (k:=0) rfl rfl rfl Ta58) rfl<|Bg rfl (Bc rfl) rfl<|Db ?_
   refine Dk11 0 1 4 5 7 8 9 20 58 77 111 rfl<|Av ?_
   refine ⟨_,_,rfl,rfl,_,[],(Same.perm (Bj (is:=[6,1,1,1,1,0,0]) (A:=[_,_,_,_,_,_,_]) (F:=DL) rfl)).trans (Same.of_eq (List.append_nil _).symm),j,.se 2,rfl,hj1,hjX,.inr ⟨by simp,hjl,by rw [hX2,gzT_sum hRq h8 hnf]; rfl,_,_,_,_,⟨_,hF⟩,(fun _ h => by rw [hX2,gzT_sum hRq h8 hnf] at h; cases h),⟨c0,c1,c2,c3,c4,c5,_,_,_,_,_,_,_,DL,hbs8,.inr ⟨fb,rfl,hraw⟩,rfl⟩,rfl⟩⟩
  refine Aj 104 rfl rfl<|Em rfl rfl<|Aj 104 rfl rfl<|Em rfl rfl<|Aj 104 rfl rfl<|Aa (Ad rfl) rfl<|Aj 104 rfl rfl<|Aa (Ae rfl fa99_4) rfl<|Aj 104 rfl rfl<|Ah (An 4 (k:=9) rfl rfl rfl Ta69) rfl<|Aj 104 rfl rfl<|Aa (Fq rfl rfl) rfl ?_
  refine Aa (Bs rfl rfl) rfl<|Ek10 0 1 4 7 8 9 20 58 77 111 rfl<|Be rfl (fun h111 => ?_) (fun h111 => ?_)
  ·have hnf : ¬ fits (run Dt .next [] 0).1 (Dt.drop q) := fun h => by rw [fits,ht0,ht4] at h; omega
   have hjl : j = Y.1.length := by have hT := gzT_sum (ms:=ms) hRq h8 hnf; rw [hT] at hX1; rw [hX1,List.append_nil]; omega
   refine Cr<|Em rfl rfl<|Ah (Bd rfl hs.g2 Ta58) rfl<|Aa (Ad rfl) rfl<|Aa (Ae rfl fa99_6) rfl ?_
   refine Ao (Aq 5 (k:=0) rfl rfl rfl rfl rfl Tz58) ?_; rintro _ _ ⟨rfl,rfl⟩; refine Ab (L2:=(_::_::_::_::_::_::_::_)) rfl ?_
   refine Ek10 0 1 4 7 8 9 20 58 77 111 rfl<|Ap<|Br [0,0,2,4,8,1,63] (.pure 0 30 (.pure 1 33 (.pure 2 35 (.pure 3 39 (.pure 5 31 (.seg [(4,47),(6,63)] .done)))))) mixed (by decide +kernel)<|Dm rfl rfl rfl<|Dm rfl rfl rfl<|Ai rfl (Ad rfl) rfl<|Ai rfl (Ae rfl fa99_6) rfl<|Ai rfl (Bc rfl) rfl<|Dc (by decide)<|Az rfl (An 5 (k:=0) rfl rfl rfl Ta58) rfl<|Bg rfl (Bc rfl) rfl<|Db ?_
   refine Dk11 0 1 4 5 7 8 9 20 58 77 111 rfl<|Av ?_
   refine ⟨_,_,rfl,rfl,_,[],(Same.perm (Bj (is:=[6,1,1,1,1,0,0]) (A:=[_,_,_,_,_,_,_]) (F:=DL) rfl)).trans (Same.of_eq (List.append_nil _).symm),j,.se 2,rfl,hj1,hjX,.inr ⟨by simp,hjl,by rw [hX2,gzT_sum hRq h8 hnf]; rfl,_,_,_,_,⟨_,hF⟩,(fun _ h => by rw [hX2,gzT_sum hRq h8 hnf] at h; cases h),⟨c0,c1,c2,c3,c4,c5,_,_,_,_,_,_,_,DL,hbs8,.inr ⟨fb,rfl,hraw⟩,rfl⟩,rfl⟩⟩
  have hfit : fits (run Dt .next [] 0).1 (Dt.drop q) := by rw [fits,ht0,ht4]; omega
  refine Ar<|Cr<|Em rfl rfl<|Em rfl rfl<|Aa (Ad rfl) rfl<|Aa (Ae rfl fa99_3) rfl ?_
  refine Ao (Aq 4 (k:=8) rfl rfl rfl rfl rfl Tz69) ?_; rintro _ _ ⟨rfl,rfl⟩; refine Ab (L2:=(_::_::_::_::_::_::_::_)) rfl ?_
  refine Aa (Ad rfl) rfl<|Aa (Ae rfl fa99_4) rfl ?_
  refine Ao (Aq 4 (k:=9) rfl rfl rfl rfl rfl Tz69) ?_; rintro _ _ ⟨rfl,rfl⟩; refine Ab (L2:=(_::_::_::_::_::_::_::_)) rfl ?_
  refine Ek10 0 1 4 7 8 9 20 58 77 111 rfl<|Ap<|Cr<|Em rfl rfl<|Aa (Ad rfl) rfl<|Aa (Ae rfl fa99_7) rfl<|Ah (An 5 (k:=1) rfl rfl rfl Tryz.isAgg4) rfl<|Aa (Fr rfl) rfl<|Ek11 0 1 4 7 8 9 20 58 77 111 131 rfl<|Fa rfl (fun h131 => ?_) (fun h131 => ?_)
  ·have hms : ms = false := by simpa using h131
   have hjl : j = Y.1.length := by have hT := gzT_one (ms:=ms) hRq h8 hfit hms; rw [hT] at hX1; rw [hX1,List.append_nil]; omega
   refine Ap<|Br [0,0,1,7] (.pure 0 2 (.pure 2 3 (.seg [(1,5),(3,7)] .done))) mixed (by decide +kernel)<|Dm rfl rfl rfl<|Ai rfl (Bc rfl) rfl<|Dc (by decide)<|Az rfl (Bd rfl hs.g0 Ta58) rfl<|Bg rfl (Bc rfl) rfl<|Db<|Dk12 0 1 4 5 7 8 9 20 58 77 111 131 rfl<|Av ?_
   refine ⟨_,_,rfl,rfl,_,[],(Same.perm (Bj (is:=[6,1,1,1,1,0,0]) (A:=[_,_,_,_,_,_,_]) (F:=DL) rfl)).trans (Same.of_eq (List.append_nil _).symm),j,.eof,rfl,hj1,hjX,.inr ⟨by simp,hjl,by rw [hX2,gzT_one hRq h8 hfit hms]; rfl,_,_,_,_,⟨_,hF⟩,fun _ _ => by rw [hX2,gzT_one hRq h8 hfit hms]; exact hF,⟨c0,c1,c2,c3,c4,c5,_,_,_,_,_,_,_,DL,hbs8,.inr ⟨fb,rfl,hraw⟩,rfl⟩,rfl⟩⟩
  have hms2 : ms ≠ false := by simpa using h131
  refine Ar<|Cr<|Em rfl rfl<|Aa (Ad rfl) rfl<|Aa (Ae rfl fa99_6) rfl ?_
  refine Ao (Aq 5 (k:=0) rfl rfl rfl rfl rfl Tz58) ?_; rintro _ _ ⟨rfl,rfl⟩; refine Ab (L2:=(_::_::_::_::_::_::_::_)) rfl ?_
  refine Ek11 0 1 4 7 8 9 20 58 77 111 131 rfl<|Ap<|Ge [1,1,1,1,0,0,0] (A:=[_,_,_,_,_,_,_]) (F:=DL) rfl<|Bq (L2:=[_,_,_,_,_,_,_] ++ DL) rfl<|Al<|Em rfl rfl<|Em rfl rfl<|Ak (Au rfl Tryz.call51 (readHeader_in hs src ((Dt.drop q).drop 8) f1 f2 f3 zb 0 _ _ _ _ _ _ _ _ _ DL (.inr ⟨fb,rfl,hraw⟩) hF hbs8 (by decide) [_,_])) rfl ?_
  rintro _ _ ⟨hs6,g1,g2,g3,d2,bs2,h6,h7,rfl,hG,hb2,hd2,⟨hne,rfl⟩ | ⟨hno,xa,xn,xf,fb2,DN,hX3,rfl,rfl,hDN,rfl⟩⟩
  ·refine Ab (L2:=(_::_::_::_::_::_::_::_)) rfl<|Em rfl rfl<|Aa (Bb rfl rfl) rfl<|Aa (Bb rfl rfl) rfl<|Aa (Ad rfl) rfl<|Aa (Ae rfl fa99_6) rfl ?_
   refine Ao (Aq 5 (k:=0) rfl rfl rfl (one_er _) rfl Tz58) ?_; rintro _ _ ⟨rfl,rfl⟩; refine Ab (L2:=(_::_::_::_::_::_::_::_)) rfl ?_
   refine Ek11 0 1 4 7 8 9 20 58 77 111 131 rfl<|Cr<|Em rfl rfl<|Aa (Ad rfl) rfl<|Aa (Ae rfl fa99_6) rfl<|Ah (An 5 (k:=0) rfl rfl rfl Ta58) rfl<|Ah (Dg rfl) rfl<|Ek12 0 1 4 7 8 9 20 58 77 111 131 149 rfl<|Dp rfl (fun h149 => ?_) (fun h149 => ?_)
   ·have hjl : j = Y.1.length := by have hT := gzT_head (ms:=ms) hRq h8 hfit hms2 h149; rw [hT] at hX1; rw [hX1,List.append_nil]; omega
    refine Ap<|Br [0,0,2,4,8,1,63] (.pure 0 30 (.pure 1 33 (.pure 2 35 (.pure 3 39 (.pure 5 31 (.seg [(4,47),(6,63)] .done)))))) mixed (by decide +kernel)<|Dm rfl rfl rfl<|Dm rfl rfl rfl<|Ai rfl (Ad rfl) rfl<|Ai rfl (Ae rfl fa99_6) rfl<|Ai rfl (Bc rfl) rfl<|Dc (by decide)<|Az rfl (An 5 (k:=0) rfl rfl rfl Ta58) rfl<|Bg rfl (Bc rfl) rfl<|Db<|Dk13 0 1 4 5 7 8 9 20 58 77 111 131 149 rfl ?_
    refine Av ?_
    refine ⟨_,_,rfl,rfl,_,[],(Same.perm (Bj (is:=[6,0,0,0,0,0,0]) (A:=[_,_,_,_,_,_,_]) (F:=DL) rfl)).trans (Same.of_eq (List.append_nil _).symm),j,(Ac ((Dt.drop q).drop 8)).1,rfl,hj1,hjX,.inr ⟨h149,hjl,by rw [hX2,gzT_head hRq h8 hfit hms2 h149],_,_,_,_,⟨_,hG⟩,fun h => absurd h hms2,⟨c0,c1,c2,c3,c4,c5,_,_,_,_,_,_,_,DL,hb2,.inr ⟨fb,rfl,hraw⟩,rfl⟩,rfl⟩⟩
   exact absurd h149 hne
  refine Ab (L2:=(_::_::_::_::_::_::_::_::_)) rfl<|Em rfl rfl<|Aa (Bb rfl rfl) rfl<|Aa (Bb rfl rfl) rfl<|Aa (Ad rfl) rfl<|Aa (Ae rfl fa99_6) rfl ?_
  refine Ao (Aq 5 (k:=0) rfl rfl rfl (one_er _) rfl Tz58) ?_; rintro _ _ ⟨rfl,rfl⟩; refine Ab (L2:=(_::_::_::_::_::_::_::_::_)) rfl ?_
  refine Ek11 0 1 4 7 8 9 20 58 77 111 131 rfl<|Cr<|Em rfl rfl<|Aa (Ad rfl) rfl<|Aa (Ae rfl fa99_6) rfl<|Ah (An 5 (k:=0) rfl rfl rfl Ta58) rfl<|Ah (Dg rfl) rfl<|Ek12 0 1 4 7 8 9 20 58 77 111 131 149 rfl<|Dp rfl (fun h149 => ?_) (fun h149 => ?_)
  ·exact absurd hno h149
  refine Bq (L2:=[_,_,_,_,_,⟨zb,522,[.nilIface,.bool ms]⟩,_,_] ++ DN) (by rw [h149]; rfl) ?_
  refine C.shed [7] (A:=[_]) (F:=_::_::_::_::_::_::_::DN) rfl<|Ge [3,3,3,3,0,0,0] (A:=[_,_,_,_,_,_,_]) (F:=DN) rfl<|Bq (L2:=[_,_,_,_] ++ (g1::g2::g3::DN)) rfl<|Ar ?_
  have hT := gzT_next (ms:=ms) hRq h8 hfit hms2 h149
  have hle := Gy ((Dt.drop q).drop 8)
  rw [gzR_eq] at hT
  refine ⟨_,?_,(Ac ((Dt.drop q).drop 8)).2.1,0,j,bs2,fb2,g1::g2::g3::DN,rfl,(by rw [List.take_zero,crcOn_nil]; rfl),hDN.ok hG,hb2,Nat.zero_le _,by rw [hXd,hX2,hT]; rfl,hj1,hjX,rfl⟩; rw [hm0]; simp only [List.length_drop] at hle h8 hn8; omega
 have hkz : 0 < k := by omega
 refine Bu rfl<|Cr<|Em rfl rfl<|Ea rfl rfl<|Aa (Bc (v:=Er.val ea .none) rfl) rfl<|Ek5 0 1 4 5 20 rfl<|Av ?_
 exact ⟨_,_,rfl,rfl,_,[],(Same.perm (Bj (is:=[3,0,0,0]) (A:=[_,_,_,_]) (F:=DK) rfl)).trans (Same.of_eq (List.append_nil _).symm),k,.none,rfl,hkn,hkX,.inl ⟨rfl,by omega,_,⟨Dt,gv,c0,c1,c2,c3,c4,c5,bs,fb,DK,hbs,hD,hgv,hX,rfl⟩,rfl⟩⟩
theorem kind_spec {K : Known} {ea : Fin 5 → Addr} (hs : Sents K ea) (e : Er) : Fn Tryz.prog K 23 #[Er.val ea e] ([]) (fun r L => r = .int .i64 ((kindOf e : Nat) : Int) ∧ L = []) := by
 refine Fn.intro (args:=[Er.val ea e]) (RR:=Ret1 2 _) Tryz.func23 rfl rfl Tryz.ntmps23 (res1 Tryz.results23) ?_
 refine Bl (env2:=[(0,Er.val ea e)]) rfl<|Cr<|Ea rfl rfl<|Ek2 0 2 rfl<|Ap<|Ax<|Cr<|Em rfl rfl<|Ah (S.eqErNil rfl) rfl<|Ea rfl rfl<|Ek3 0 2 3 rfl<|C.ifNone rfl (fun h3 => ?_) (fun h3 => ?_)
 ·refine Cr<|Ea rfl rfl<|Ek3 0 2 3 rfl<|Av ?_
  exact ⟨_,rfl,by rw [h3]; rfl,rfl⟩
 refine Cr<|Em rfl rfl<|Ah (Bd rfl hs.g0 Ta58) rfl<|Ah (S.eqEr hs rfl rfl) rfl<|Ea rfl rfl<|Ek4 0 2 3 6 rfl<|C.ifSe rfl (fun h6 => ?_) (fun h6 => ?_)
 ·refine Cr<|Ea rfl rfl<|Ek4 0 2 3 6 rfl<|Av ?_
  exact ⟨_,rfl,by rw [h6]; rfl,rfl⟩
 refine Cr<|Em rfl rfl<|Ah (Bd rfl hs.g1 Ta58) rfl<|Ah (S.eqEr hs rfl rfl) rfl<|Ea rfl rfl<|Ek5 0 2 3 6 10 rfl<|C.ifSe rfl (fun h10 => ?_) (fun h10 => ?_)
 ·refine Cr<|Ea rfl rfl<|Ek5 0 2 3 6 10 rfl<|Av ?_
  exact ⟨_,rfl,by rw [h10]; rfl,rfl⟩
 refine Cr<|Em rfl rfl<|Ah (Bd rfl hs.g2 Ta58) rfl<|Ah (S.eqEr hs rfl rfl) rfl<|Ea rfl rfl<|Ek6 0 2 3 6 10 14 rfl<|C.ifSe rfl (fun h14 => ?_) (fun h14 => ?_)
 ·refine Cr<|Ea rfl rfl<|Ek6 0 2 3 6 10 14 rfl<|Av ?_
  exact ⟨_,rfl,by rw [h14]; rfl,rfl⟩
 refine Cr<|Em rfl rfl<|Aa (Eu (v:=.agg #[]) [] rfl (fun w => by simp [Instr.build,Instr.fill,Value.cells,Tryz.zeroValue103])) rfl<|Aa (Ej rfl conc103) rfl<|Ah (S.eqErOther rfl rfl rfl rfl rfl) rfl<|Ea rfl rfl<|Ek7 0 2 3 6 10 14 18 rfl<|Gw rfl (rfl)<|Ar<|Cr<|Ea rfl rfl<|Ek7 0 2 3 6 10 14 18 rfl ?_
 refine Av ?_
 exact ⟨_,rfl,by rw [kindOf_other h3 h6 h10 h14]; rfl,rfl⟩
def ExOut (ex : Option (List UInt8)) (v : Value) (g : Frag) : Prop := match ex with
  | none => v = .slice none 0 0
  | some d => Own d v g
theorem exOut_one {ex : Option (List UInt8)} {v : Value} {g : Frag} (h : ExOut ex v g) : one v = true := by
  cases ex with
  | none => have h' : v = _ := h; rw [h']; rfl
  | some d => obtain ⟨b,o,c,cs,rfl,_⟩ := h; rfl
theorem headerOf_none {K : Known} (h : Hd) (hm : h.mod < 4294967296)  : Fn Tryz.prog K 38 #[.agg #[.string h.comment,.slice (none) 0 0,.int .u64 0,.int .i64 (timeV h.mod),.string h.name,.int .u8 ((h.os : Nat) : Int)]] ([]) (fun r L => r = .agg #[.string h.name,.string h.comment,.slice none 0 0,.int .i64 ((h.mod : Nat) : Int),.int .u8 ((h.os : Nat) : Int)]) := by
 refine Fn.intro (args:=[.agg #[.string h.comment,.slice (none) 0 0,.int .u64 0,.int .i64 (timeV h.mod),.string h.name,.int .u8 ((h.os : Nat) : Int)]]) (RR:=RetC 2 5  _) Tryz.func38 rfl rfl Tryz.ntmps38 (resC Tryz.results38 Ta27 Tz27) ?_
 refine Bl (env2:=[(0,.agg #[.string h.comment,.slice (none) 0 0,.int .u64 0,.int .i64 (timeV h.mod),.string h.name,.int .u8 ((h.os : Nat) : Int)])]) rfl<|Cr ?_
 refine Ak (X.box rfl) rfl ?_; rintro _ _ ⟨b1,rfl,rfl⟩; refine Ab (L2:=[_]) rfl ?_
 refine Ak (Dy Tryz.zeroValue27) rfl ?_; rintro _ _ ⟨b2,rfl,rfl⟩; refine Ab (L2:=[_,_]) rfl ?_
 refine Ek2 1 2 rfl<|Ap<|C.known ?_
 intro K2 hK2 hc2
 refine Br [0,1,0,4,0,16,32,0,128,330,0,2047] (.pure 0 1532 (.pure 1 1533 (.pure 2 1523 (.pure 3 1527 (.pure 4 1423 (.pure 5 1439 (.pure 7 1151 (.pure 8 1279 (.alt 6 (.pure 9 1535 (.alt 10 (.alt 11 .done .stop) .stop)) (.alt 10 (.alt 6 (.pure 9 1535 (.alt 11 .done .stop)) .stop) .stop)))))))))) mixed (by decide +kernel)<|Ai rfl (Ae rfl fa92_3) rfl<|D.known rfl (Hx rfl (hc2 ⟨b1,0,_⟩ (.tail _ (.head _)) 4 _ rfl) Ta9) rfl<|Ai rfl (Ae rfl fa92_0) rfl<|D.known rfl (Hx rfl (hc2 ⟨b1,0,_⟩ (.tail _ (.head _)) 0 _ rfl) Ta9) rfl<|Ai rfl (Ae rfl fa92_1) rfl<|D.known rfl (Hx rfl (hc2 ⟨b1,0,_⟩ (.tail _ (.head _)) 1 _ rfl) Ta25) rfl<|Ai rfl (Ae rfl fa92_4) rfl<|D.known rfl (Hx rfl (hc2 ⟨b1,0,_⟩ (.tail _ (.head _)) 5 _ rfl) Ta5) rfl<|Hr ?_ ⟨?_,trivial⟩
 ·refine Df rfl (OpX.pick [] (F:=[]) rfl (Au rfl Tryz.call22 clone_nil)) rfl ?_; rintro _ _ ⟨_,⟨rfl,rfl⟩,rfl⟩; refine Bf (L2:=[]) rfl ?_
  refine Ai rfl (Eu (v:=.agg #[.string h.name,.string h.comment,.slice none 0 0,.int .i64 0,.int .u8 ((h.os : Nat) : Int)]) [(0,.string h.name),(1,.string h.comment),(2,.slice none 0 0),(4,.int .u8 ((h.os : Nat) : Int))] rfl (fun w => by simp [Instr.build,Instr.fill,Value.cells,Tryz.zeroValue27])) rfl<|Da ?_
  refine Df rfl (Dy Tryz.zeroValue27) rfl ?_; rintro _ _ ⟨b3,rfl,rfl⟩; refine Bf (L2:=[_]) rfl ?_
  refine Da ?_
  refine Bz rfl (Bi 0 (k:=0) rfl rfl rfl rfl rfl rfl Tz27 rfl) ?_; rintro _ _ ⟨rfl,rfl⟩; refine Bf (L2:=[_]) rfl ?_
  refine Dk3 1 2 3 rfl<|Bq (L2:=[_,_,_]) rfl<|Ap<|Cr<|Aa (Ae rfl fa92_2) rfl<|Ah (Bn 2 (k:=2) rfl rfl rfl rfl Ta90 Tz90) rfl ?_
  refine Ak (OpX.pick [] (F:=[_,_,_]) rfl (Au rfl Tryz.call53 (isZero_spec (timeN h.mod)))) rfl ?_; rintro _ _ ⟨_,⟨_,rfl,rfl⟩,rfl⟩; refine Ab (L2:=[_,_,_,_]) rfl ?_
  refine Aa (Fr rfl) rfl<|Ek4 1 2 3 17 rfl<|Fa rfl (fun h17 => ?_) (fun h17 => ?_)
  ·have hz : h.mod ≠ 0 := by
     intro hz
     rw [timeN,if_pos hz] at h17
     simp at h17
   refine Al<|Aa (Ae rfl fa92_2) rfl<|Ah (Bn 3 (k:=2) rfl rfl rfl rfl Ta90 Tz90) rfl ?_
   refine Am (v:=.agg #[.int .u64 0,.int .i64 ((h.mod + 62135596800 : Nat) : Int)]) (by show Value.agg #[.int .u64 0,.int .i64 (timeV h.mod)] = _; rw [timeV,timeN,if_neg hz]) ?_
   refine Ak (OpX.pick [] (F:=[_,_,_,_]) rfl (Au rfl Tryz.call54 (timeUnix_spec h.mod (by omega)))) rfl ?_; rintro _ _ ⟨_,⟨_,rfl,rfl⟩,rfl⟩; refine Ab (L2:=[_,_,_,_,_]) rfl ?_
   refine Aa (Ae rfl fa27_3) rfl ?_
   refine Ao (Aq 2 (k:=3) rfl rfl rfl rfl rfl Tz2) ?_; rintro _ _ ⟨rfl,rfl⟩; refine Ab (L2:=[_,_,_,_,_]) rfl ?_
   refine Ek4 1 2 3 17 rfl<|Cr<|Ah (Bn 2 (k:=0) rfl rfl rfl rfl Ta27 Tz27) rfl ?_
   refine Ao (Bi 3 (k:=0) rfl rfl rfl rfl rfl rfl Tz27 rfl) ?_; rintro _ _ ⟨rfl,rfl⟩; refine Ab (L2:=[_,_,_,_,_]) rfl ?_
   refine Ek4 1 2 3 17 rfl<|Av ?_
   refine ⟨_,⟨_,_,3,rfl,rfl,rfl⟩,rfl⟩
  have hz : h.mod = 0 := by
    unfold timeN at h17
    split at h17
    · assumption
    · simp at h17
  refine Ar<|Cr<|Ah (Bn 1 (k:=0) rfl rfl rfl rfl Ta27 Tz27) rfl ?_
  refine Ao (Bi 2 (k:=0) rfl rfl rfl rfl rfl rfl Tz27 rfl) ?_; rintro _ _ ⟨rfl,rfl⟩; refine Ab (L2:=[_,_,_,_]) rfl ?_
  refine Ek4 1 2 3 17 rfl<|Av ?_
  refine ⟨_,⟨_,_,2,rfl,rfl,rfl⟩,(by rw [hz]; rfl)⟩
 refine Df rfl (Dy Tryz.zeroValue27) rfl ?_; rintro _ _ ⟨b3,rfl,rfl⟩; refine Bf (L2:=[_]) rfl ?_
 refine Da ?_
 refine Df rfl (OpX.pick [] (F:=[_]) rfl (Au rfl Tryz.call22 clone_nil)) rfl ?_; rintro _ _ ⟨_,⟨rfl,rfl⟩,rfl⟩; refine Bf (L2:=[_]) rfl ?_
 refine Ai rfl (Eu (v:=.agg #[.string h.name,.string h.comment,.slice none 0 0,.int .i64 0,.int .u8 ((h.os : Nat) : Int)]) [(0,.string h.name),(1,.string h.comment),(2,.slice none 0 0),(4,.int .u8 ((h.os : Nat) : Int))] rfl (fun w => by simp [Instr.build,Instr.fill,Value.cells,Tryz.zeroValue27])) rfl<|Da ?_
 refine Bz rfl (Bi 0 (k:=0) rfl rfl rfl rfl rfl rfl Tz27 rfl) ?_; rintro _ _ ⟨rfl,rfl⟩; refine Bf (L2:=[_]) rfl ?_
 refine Dk3 1 2 3 rfl<|Bq (L2:=[_,_,_]) rfl<|Ap<|Cr<|Aa (Ae rfl fa92_2) rfl<|Ah (Bn 2 (k:=2) rfl rfl rfl rfl Ta90 Tz90) rfl ?_
 refine Ak (OpX.pick [] (F:=[_,_,_]) rfl (Au rfl Tryz.call53 (isZero_spec (timeN h.mod)))) rfl ?_; rintro _ _ ⟨_,⟨_,rfl,rfl⟩,rfl⟩; refine Ab (L2:=[_,_,_,_]) rfl ?_
 refine Aa (Fr rfl) rfl<|Ek4 1 2 3 17 rfl<|Fa rfl (fun h17 => ?_) (fun h17 => ?_)
 ·have hz : h.mod ≠ 0 := by
    intro hz
    rw [timeN,if_pos hz] at h17
    simp at h17
  refine Al<|Aa (Ae rfl fa92_2) rfl<|Ah (Bn 3 (k:=2) rfl rfl rfl rfl Ta90 Tz90) rfl ?_
  refine Am (v:=.agg #[.int .u64 0,.int .i64 ((h.mod + 62135596800 : Nat) : Int)]) (by show Value.agg #[.int .u64 0,.int .i64 (timeV h.mod)] = _; rw [timeV,timeN,if_neg hz]) ?_
  refine Ak (OpX.pick [] (F:=[_,_,_,_]) rfl (Au rfl Tryz.call54 (timeUnix_spec h.mod (by omega)))) rfl ?_; rintro _ _ ⟨_,⟨_,rfl,rfl⟩,rfl⟩; refine Ab (L2:=[_,_,_,_,_]) rfl ?_
  refine Aa (Ae rfl fa27_3) rfl ?_
  refine Ao (Aq 2 (k:=3) rfl rfl rfl rfl rfl Tz2) ?_; rintro _ _ ⟨rfl,rfl⟩; refine Ab (L2:=[_,_,_,_,_]) rfl ?_
  refine Ek4 1 2 3 17 rfl<|Cr<|Ah (Bn 2 (k:=0) rfl rfl rfl rfl Ta27 Tz27) rfl ?_
  refine Ao (Bi 3 (k:=0) rfl rfl rfl rfl rfl rfl Tz27 rfl) ?_; rintro _ _ ⟨rfl,rfl⟩; refine Ab (L2:=[_,_,_,_,_]) rfl ?_
  refine Ek4 1 2 3 17 rfl<|Av ?_
  refine ⟨_,⟨_,_,3,rfl,rfl,rfl⟩,rfl⟩
 have hz : h.mod = 0 := by
   unfold timeN at h17
   split at h17
   · assumption
   · simp at h17
 refine Ar<|Cr<|Ah (Bn 1 (k:=0) rfl rfl rfl rfl Ta27 Tz27) rfl ?_
 refine Ao (Bi 2 (k:=0) rfl rfl rfl rfl rfl rfl Tz27 rfl) ?_; rintro _ _ ⟨rfl,rfl⟩; refine Ab (L2:=[_,_,_,_]) rfl ?_
 refine Ek4 1 2 3 17 rfl<|Av ?_
 refine ⟨_,⟨_,_,2,rfl,rfl,rfl⟩,(by rw [hz]; rfl)⟩
theorem headerOf_some {K : Known} (h : Hd) (hm : h.mod < 4294967296) (eb : Nat) (d : List UInt8) (hd : d.length < 65536) : Fn Tryz.prog K 38 #[.agg #[.string h.comment,.slice (some ⟨eb,0,none⟩) d.length d.length,.int .u64 0,.int .i64 (timeV h.mod),.string h.name,.int .u8 ((h.os : Nat) : Int)]] ([⟨eb,0,bytesV d⟩]) (fun r L => ∃ v g,Own d v g ∧ g ∈ L ∧ r = .agg #[.string h.name,.string h.comment,v,.int .i64 ((h.mod : Nat) : Int),.int .u8 ((h.os : Nat) : Int)]) := by
 refine Fn.intro (args:=[.agg #[.string h.comment,.slice (some ⟨eb,0,none⟩) d.length d.length,.int .u64 0,.int .i64 (timeV h.mod),.string h.name,.int .u8 ((h.os : Nat) : Int)]]) (RR:=RetC 2 5  _) Tryz.func38 rfl rfl Tryz.ntmps38 (resC Tryz.results38 Ta27 Tz27) ?_
 refine Bl (env2:=[(0,.agg #[.string h.comment,.slice (some ⟨eb,0,none⟩) d.length d.length,.int .u64 0,.int .i64 (timeV h.mod),.string h.name,.int .u8 ((h.os : Nat) : Int)])]) rfl<|Cr ?_
 refine Ak (X.box rfl) rfl ?_; rintro _ _ ⟨b1,rfl,rfl⟩; refine Ab (L2:=[_,_]) rfl ?_
 refine Ak (Dy Tryz.zeroValue27) rfl ?_; rintro _ _ ⟨b2,rfl,rfl⟩; refine Ab (L2:=[_,_,_]) rfl ?_
 refine Ek2 1 2 rfl<|Ap<|C.known ?_
 intro K2 hK2 hc2
 have hKB : KB K2 eb 0 d := fun j hj => hc2 ⟨eb,0,bytesV d⟩ (.tail _ (.tail _ (.head _))) j _ (Hb hj)
 refine Br [0,1,0,4,0,16,32,0,128,330,0,2047] (.pure 0 1532 (.pure 1 1533 (.pure 2 1523 (.pure 3 1527 (.pure 4 1423 (.pure 5 1439 (.pure 7 1151 (.pure 8 1279 (.alt 6 (.pure 9 1535 (.alt 10 (.alt 11 .done .stop) .stop)) (.alt 10 (.alt 6 (.pure 9 1535 (.alt 11 .done .stop)) .stop) .stop)))))))))) mixed (by decide +kernel)<|Ai rfl (Ae rfl fa92_3) rfl<|D.known rfl (Hx rfl (hc2 ⟨b1,0,_⟩ (.tail _ (.head _)) 4 _ rfl) Ta9) rfl<|Ai rfl (Ae rfl fa92_0) rfl<|D.known rfl (Hx rfl (hc2 ⟨b1,0,_⟩ (.tail _ (.head _)) 0 _ rfl) Ta9) rfl<|Ai rfl (Ae rfl fa92_1) rfl<|D.known rfl (Hx rfl (hc2 ⟨b1,0,_⟩ (.tail _ (.head _)) 1 _ rfl) Ta25) rfl<|Ai rfl (Ae rfl fa92_4) rfl<|D.known rfl (Hx rfl (hc2 ⟨b1,0,_⟩ (.tail _ (.head _)) 5 _ rfl) Ta5) rfl<|Hr ?_ ⟨?_,trivial⟩
 ·refine Df rfl (Au rfl Tryz.call22 (clone_spec eb 0 d.length d hKB.reads (by omega))) rfl ?_; rintro _ _ ⟨g,⟨cb,co,cc,cs,rfl,rfl,hcc⟩,rfl⟩; refine Bf (L2:=[_]) rfl ?_
  refine Ai rfl (Eu (v:=.agg #[.string h.name,.string h.comment,.slice (some ⟨cb,co,none⟩) d.length cc,.int .i64 0,.int .u8 ((h.os : Nat) : Int)]) [(0,.string h.name),(1,.string h.comment),(2,.slice (some ⟨cb,co,none⟩) d.length cc),(4,.int .u8 ((h.os : Nat) : Int))] rfl (fun w => by simp [Instr.build,Instr.fill,Value.cells,Tryz.zeroValue27])) rfl<|Da ?_
  refine Df rfl (Dy Tryz.zeroValue27) rfl ?_; rintro _ _ ⟨b3,rfl,rfl⟩; refine Bf (L2:=[_,_]) rfl ?_
  refine Da ?_
  refine Bz rfl (Bi 0 (k:=0) rfl rfl rfl rfl rfl rfl Tz27 rfl) ?_; rintro _ _ ⟨rfl,rfl⟩; refine Bf (L2:=[_,_]) rfl ?_
  refine Dk3 1 2 3 rfl<|Bq (L2:=[_,_,_,_,_]) rfl<|Ap<|Cr<|Aa (Ae rfl fa92_2) rfl<|Ah (Bn 3 (k:=2) rfl rfl rfl rfl Ta90 Tz90) rfl ?_
  refine Ak (OpX.pick [] (F:=[_,_,_,_,_]) rfl (Au rfl Tryz.call53 (isZero_spec (timeN h.mod)))) rfl ?_; rintro _ _ ⟨_,⟨_,rfl,rfl⟩,rfl⟩; refine Ab (L2:=[_,_,_,_,_,_]) rfl ?_
  refine Aa (Fr rfl) rfl<|Ek4 1 2 3 17 rfl<|Fa rfl (fun h17 => ?_) (fun h17 => ?_)
  ·have hz : h.mod ≠ 0 := by
     intro hz
     rw [timeN,if_pos hz] at h17
     simp at h17
   refine Al<|Aa (Ae rfl fa92_2) rfl<|Ah (Bn 4 (k:=2) rfl rfl rfl rfl Ta90 Tz90) rfl ?_
   refine Am (v:=.agg #[.int .u64 0,.int .i64 ((h.mod + 62135596800 : Nat) : Int)]) (by show Value.agg #[.int .u64 0,.int .i64 (timeV h.mod)] = _; rw [timeV,timeN,if_neg hz]) ?_
   refine Ak (OpX.pick [] (F:=[_,_,_,_,_,_]) rfl (Au rfl Tryz.call54 (timeUnix_spec h.mod (by omega)))) rfl ?_; rintro _ _ ⟨_,⟨_,rfl,rfl⟩,rfl⟩; refine Ab (L2:=[_,_,_,_,_,_,_]) rfl ?_
   refine Aa (Ae rfl fa27_3) rfl ?_
   refine Ao (Aq 2 (k:=3) rfl rfl rfl rfl rfl Tz2) ?_; rintro _ _ ⟨rfl,rfl⟩; refine Ab (L2:=[_,_,_,_,_,_,_]) rfl ?_
   refine Ek4 1 2 3 17 rfl<|Cr<|Ah (Bn 2 (k:=0) rfl rfl rfl rfl Ta27 Tz27) rfl ?_
   refine Ao (Bi 4 (k:=0) rfl rfl rfl rfl rfl rfl Tz27 rfl) ?_; rintro _ _ ⟨rfl,rfl⟩; refine Ab (L2:=[_,_,_,_,_,_,_]) rfl ?_
   refine Ek4 1 2 3 17 rfl<|Av ?_
   refine ⟨_,⟨_,_,4,rfl,rfl,rfl⟩,_,⟨cb,co,bytesV d ++ cs⟩,⟨cb,co,cc,cs,rfl,rfl,hcc⟩,by simp,rfl⟩
  have hz : h.mod = 0 := by
    unfold timeN at h17
    split at h17
    · assumption
    · simp at h17
  refine Ar<|Cr<|Ah (Bn 1 (k:=0) rfl rfl rfl rfl Ta27 Tz27) rfl ?_
  refine Ao (Bi 3 (k:=0) rfl rfl rfl rfl rfl rfl Tz27 rfl) ?_; rintro _ _ ⟨rfl,rfl⟩; refine Ab (L2:=[_,_,_,_,_,_]) rfl ?_
  refine Ek4 1 2 3 17 rfl<|Av ?_
  refine ⟨_,⟨_,_,3,rfl,rfl,rfl⟩,_,⟨cb,co,bytesV d ++ cs⟩,⟨cb,co,cc,cs,rfl,rfl,hcc⟩,by simp,(by rw [hz]; rfl)⟩
 refine Df rfl (Dy Tryz.zeroValue27) rfl ?_; rintro _ _ ⟨b3,rfl,rfl⟩; refine Bf (L2:=[_]) rfl ?_
 refine Da ?_
 refine Df rfl (Au rfl Tryz.call22 (clone_spec eb 0 d.length d hKB.reads (by omega))) rfl ?_; rintro _ _ ⟨g,⟨cb,co,cc,cs,rfl,rfl,hcc⟩,rfl⟩; refine Bf (L2:=[_,_]) rfl ?_
 refine Ai rfl (Eu (v:=.agg #[.string h.name,.string h.comment,.slice (some ⟨cb,co,none⟩) d.length cc,.int .i64 0,.int .u8 ((h.os : Nat) : Int)]) [(0,.string h.name),(1,.string h.comment),(2,.slice (some ⟨cb,co,none⟩) d.length cc),(4,.int .u8 ((h.os : Nat) : Int))] rfl (fun w => by simp [Instr.build,Instr.fill,Value.cells,Tryz.zeroValue27])) rfl<|Da ?_
 refine Bz rfl (Bi 1 (k:=0) rfl rfl rfl rfl rfl rfl Tz27 rfl) ?_; rintro _ _ ⟨rfl,rfl⟩; refine Bf (L2:=[_,_]) rfl ?_
 refine Dk3 1 2 3 rfl<|Bq (L2:=[_,_,_,_,_]) rfl<|Ap<|Cr<|Aa (Ae rfl fa92_2) rfl<|Ah (Bn 3 (k:=2) rfl rfl rfl rfl Ta90 Tz90) rfl ?_
 refine Ak (OpX.pick [] (F:=[_,_,_,_,_]) rfl (Au rfl Tryz.call53 (isZero_spec (timeN h.mod)))) rfl ?_; rintro _ _ ⟨_,⟨_,rfl,rfl⟩,rfl⟩; refine Ab (L2:=[_,_,_,_,_,_]) rfl ?_
 refine Aa (Fr rfl) rfl<|Ek4 1 2 3 17 rfl<|Fa rfl (fun h17 => ?_) (fun h17 => ?_)
 ·have hz : h.mod ≠ 0 := by
    intro hz
    rw [timeN,if_pos hz] at h17
    simp at h17
  refine Al<|Aa (Ae rfl fa92_2) rfl<|Ah (Bn 4 (k:=2) rfl rfl rfl rfl Ta90 Tz90) rfl ?_
  refine Am (v:=.agg #[.int .u64 0,.int .i64 ((h.mod + 62135596800 : Nat) : Int)]) (by show Value.agg #[.int .u64 0,.int .i64 (timeV h.mod)] = _; rw [timeV,timeN,if_neg hz]) ?_
  refine Ak (OpX.pick [] (F:=[_,_,_,_,_,_]) rfl (Au rfl Tryz.call54 (timeUnix_spec h.mod (by omega)))) rfl ?_; rintro _ _ ⟨_,⟨_,rfl,rfl⟩,rfl⟩; refine Ab (L2:=[_,_,_,_,_,_,_]) rfl ?_
  refine Aa (Ae rfl fa27_3) rfl ?_
  refine Ao (Aq 3 (k:=3) rfl rfl rfl rfl rfl Tz2) ?_; rintro _ _ ⟨rfl,rfl⟩; refine Ab (L2:=[_,_,_,_,_,_,_]) rfl ?_
  refine Ek4 1 2 3 17 rfl<|Cr<|Ah (Bn 3 (k:=0) rfl rfl rfl rfl Ta27 Tz27) rfl ?_
  refine Ao (Bi 4 (k:=0) rfl rfl rfl rfl rfl rfl Tz27 rfl) ?_; rintro _ _ ⟨rfl,rfl⟩; refine Ab (L2:=[_,_,_,_,_,_,_]) rfl ?_
  refine Ek4 1 2 3 17 rfl<|Av ?_
  refine ⟨_,⟨_,_,4,rfl,rfl,rfl⟩,_,⟨cb,co,bytesV d ++ cs⟩,⟨cb,co,cc,cs,rfl,rfl,hcc⟩,by simp,rfl⟩
 have hz : h.mod = 0 := by
   unfold timeN at h17
   split at h17
   · assumption
   · simp at h17
 refine Ar<|Cr<|Ah (Bn 2 (k:=0) rfl rfl rfl rfl Ta27 Tz27) rfl ?_
 refine Ao (Bi 3 (k:=0) rfl rfl rfl rfl rfl rfl Tz27 rfl) ?_; rintro _ _ ⟨rfl,rfl⟩; refine Ab (L2:=[_,_,_,_,_,_]) rfl ?_
 refine Ek4 1 2 3 17 rfl<|Av ?_
 refine ⟨_,⟨_,_,3,rfl,rfl,rfl⟩,_,⟨cb,co,bytesV d ++ cs⟩,⟨cb,co,cc,cs,rfl,rfl,hcc⟩,by simp,(by rw [hz]; rfl)⟩
theorem headerOf_spec {K : Known} (h : Hd) (hm : h.mod < 4294967296) (xa : Option Addr) (xn : Nat) (X : Frag) (hX : ExAt h.extra xa xn X) :
    Fn Tryz.prog K 38 #[.agg #[.string h.comment,.slice xa xn xn,.int .u64 0,.int .i64 (timeV h.mod),.string h.name,.int .u8 ((h.os : Nat) : Int)]] [X] (fun r L => ∃ v g,ExOut h.extra v g ∧ L = [g] ∧ r = .agg #[.string h.name,.string h.comment,v,.int .i64 ((h.mod : Nat) : Int),.int .u8 ((h.os : Nat) : Int)]) := by
  cases hx : h.extra with
  | none =>
    rw [hx] at hX
    obtain ⟨rfl,rfl,_⟩ := hX
    refine Fn.lose (Fn.frame (F:=[X]) (headerOf_none h hm)) ?_
    rintro v _ ⟨L1,rfl,rfl⟩
    refine ⟨[X],L1,Same.perm List.perm_append_comm,.slice none 0 0,X,rfl,rfl,rfl⟩
  | some d =>
    rw [hx] at hX
    obtain ⟨b,rfl,rfl,rfl,hd⟩ := hX
    refine Fn.lose (headerOf_some h hm b d hd) ?_
    rintro r L' ⟨v,g,h1,h2,rfl⟩
    obtain ⟨A',B',rfl⟩ := List.append_of_mem h2
    exact ⟨[g],A' ++ B',Same.perm List.perm_middle,v,g,h1,rfl,rfl⟩
theorem rd4_mod (l : List UInt8) (f d : Nat) (h : Hd) : (rd4 l f d h).2.2.mod = h.mod := by
  unfold rd4; split
  · rfl
  · split
    · rfl
    · split <;> rfl
theorem rd3_mod (l : List UInt8) (f d : Nat) (h : Hd) : (rd3 l f d h).2.2.mod = h.mod := by
  unfold rd3; split
  · exact rd4_mod ..
  · split
    · rfl
    · exact rd4_mod ..
theorem rd2_mod (l : List UInt8) (f d : Nat) (h : Hd) : (rd2 l f d h).2.2.mod = h.mod := by
  unfold rd2; split
  · exact rd3_mod ..
  · split
    · rfl
    · exact rd3_mod ..
theorem rd1_mod (l : List UInt8) (f d : Nat) (h : Hd) : (rd1 l f d h).2.2.mod = h.mod := by
  unfold rd1; split
  · exact rd2_mod ..
  · split
    · rfl
    · split
      · rfl
      · exact rd2_mod ..
theorem readHead_mod (l : List UInt8) : (Ac l).2.2.mod < 4294967296 := by
  unfold Ac; split
  · exact Nat.zero_lt_succ _
  · split
    · rw [rd1_mod]; exact le32_lt (UInt8.toNat_lt _) (UInt8.toNat_lt _) (UInt8.toNat_lt _) (UInt8.toNat_lt _)
    · exact Nat.zero_lt_succ _
theorem sizes_le : ∀ x ∈ sizesL,x ≤ 258 := by decide
theorem more_le : ∀ x ∈ moreL,x ≤ 5 := by decide
theorem getD_le {l : List Nat} {m : Nat} (h : ∀ x ∈ l,x ≤ m) (i : Nat) : l.getD i 0 ≤ m := by
  rcases Nat.lt_or_ge i l.length with h1 | h1
  · rw [List.getD_eq_getElem?_getD,List.getElem?_eq_getElem h1]; exact h _ (List.getElem_mem h1)
  · rw [List.getD_eq_getElem?_getD,List.getElem?_eq_none h1]; exact Nat.zero_le _
theorem copyR_le {t : Tabs} {D : List UInt8} {v p n d p2 : Nat} (h : copyR t D v p = some (n,d,p2)) : n ≤ 290 := by
  unfold copyR at h
  have h1 := getD_le sizes_le (v - 257)
  have h2 := Eo D p (moreL.getD (v - 257) 0)
  have h3 : 2 ^ moreL.getD (v - 257) 0 ≤ 2 ^ 5 := Nat.pow_le_pow_right (by omega) (getD_le more_le _)
  split at h
  · cases h
  · split at h
    · cases h
    · split at h
      · cases h
      · split at h
        · cases h
        · simp only [Option.some.injEq,Prod.mk.injEq] at h
          omega
theorem copyN_len (out : List UInt8) (d n : Nat) : (copyN out d n).length = out.length + n := by
  induction n with
  | zero => rfl
  | succ n ih => rw [copyN,List.length_append,ih]; rfl
theorem run_len_aux (D : List UInt8) : ∀ k ph out p,8 * D.length - p < k → (run D ph out p).1.length ≤ out.length + 300 * (8 * D.length - p) := by
  intro k
  induction k with
  | zero => exact fun ph out p hk => absurd hk (Nat.not_lt_zero _)
  | succ k ih =>
    intro ph out p hk
    have st : ∀ ph o2 p2,p < p2 ∧ p2 ≤ 8 * D.length → o2.length ≤ out.length + 300 * (p2 - p) → (run D ph o2 p2).1.length ≤ out.length + 300 * (8 * D.length - p) := fun ph o2 p2 h h2 => by
      have := ih ph o2 p2 (by omega)
      omega
    have n0 : out.length ≤ out.length + 300 * (8 * D.length - p) := Nat.le_add_right _ _
    rw [run.eq_def]
    split
    · split
      · exact n0
      · rename_i hl
        unfold left at hl
        split
        · split
          · exact n0
          · rename_i n hn
            unfold Gl at hn
            split at hn
            · cases hn
            · split
              · simp only [List.length_append,List.length_drop]; omega
              · split
                · simp only [List.length_append,List.length_take,List.length_drop]; omega
                · split
                  · rename_i h
                    exact st _ _ _ h (by simp only [List.length_append,List.length_take,List.length_drop]; omega)
                  · exact n0
        · split
          · split
            · rename_i h; exact st _ _ _ h (Nat.le_add_right _ _)
            · exact n0
          · split
            · split
              · exact n0
              · split
                · rename_i h; exact st _ _ _ h (Nat.le_add_right _ _)
                · exact n0
            · exact n0
    · split
      · exact n0
      · split
        · split
          · rename_i h; exact st _ _ _ h (by rw [List.length_append,List.length_singleton]; omega)
          · exact n0
        · split
          · split
            · exact n0
            · split
              · rename_i h; exact st _ _ _ h (Nat.le_add_right _ _)
              · exact n0
          · split
            · exact n0
            · split
              · exact n0
              · rename_i n d p2 hc
                have hn := copyR_le hc
                split
                · exact n0
                · split
                  · rename_i h; exact st _ _ _ h (by rw [copyN_len]; omega)
                  · exact n0
theorem run_len (D : List UInt8) (ph : Ph) (out : List UInt8) (p : Nat) : (run D ph out p).1.length ≤ out.length + 300 * (8 * D.length - p) := run_len_aux D _ ph out p (Nat.lt_succ_self _)
theorem gzR_len_aux (ms : Bool) : ∀ k D,D.length < k → D.length ≤ 65536 → (gzR ms D).1.length ≤ 157286400 * D.length := by
  intro k
  induction k with
  | zero => exact fun D hk _ => absurd hk (Nat.not_lt_zero _)
  | succ k ih =>
    intro D hk hD
    have h1 := run_len D .next [] 0
    simp only [List.length_nil] at h1
    rw [gzR]
    split
    · simp only; omega
    · split
      · simp only; omega
      · split
        · simp only; omega
        · split
          · simp only; omega
          · split
            · simp only; omega
            · split
              · rename_i h
                have := ih _ (Nat.lt_of_lt_of_le h (Nat.le_of_lt_succ hk)) (by omega)
                simp only [List.length_append]
                omega
              · simp only; omega
theorem gzR_len (ms : Bool) (D : List UInt8) (h : D.length ≤ 65536) : (gzR ms D).1.length ≤ 10307921510400 := by
  have := gzR_len_aux ms _ D (Nat.lt_succ_self _) h
  omega
set_option maxHeartbeats 1000000
def SzA (K : Known) (sv : Value) : Prop := ∃ a n c,sv = .slice a n c ∧ n ≤ 9223372036854775807 ∧ (n = 0 ∨ ∃ b o,a = some ⟨b,o,none⟩ ∧ ∀ j,j < n → ∃ v : Int,cellAt K b (o + j * 1) = some (.int .i64 v))
theorem sizeAt_none {K : Known} (a : Option Addr) (c i : Nat) : Fn Tryz.prog K 39 #[.slice a 0 c,.int .i64 ((i : Nat) : Int)] ([]) (fun r L => r = .int .i64 ((512 : Nat) : Int) ∧ L = []) := by
 refine Fn.intro (args:=[.slice a 0 c,.int .i64 ((i : Nat) : Int)]) (RR:=Ret1 4 _) Tryz.func39 rfl rfl Tryz.ntmps39 (res1 Tryz.results39) ?_
 refine Bl (env2:=[(0,.slice a 0 c),(1,.int .i64 ((i : Nat) : Int))]) rfl<|Cr<|Ea rfl rfl<|Ek3 0 1 4 rfl<|Ap<|Cr<|Em rfl rfl<|Aa (Bk rfl Tu23) rfl<|Aa (Dx (b:=((0 : Nat) : Int)) rfl rfl) rfl<|Am (v:=.bool true) (congrArg Value.bool (by decide))<|Ek4 0 1 4 7 rfl<|Ft rfl (rfl) ?_
 refine Cr<|Ea rfl rfl<|Ek4 0 1 4 7 rfl<|Av ?_
 exact ⟨_,rfl,rfl,rfl⟩
theorem clamp (v : Int) : ∃ k : Nat,1 ≤ k ∧ k ≤ 4096 ∧ (if (if v < 4096 then v else 4096) > 1 then (if v < 4096 then v else 4096) else (1 : Int)) = (k : Int) := by
  by_cases h1 : v < 4096
  · rw [if_pos h1]
    by_cases h2 : v > 1
    · rw [if_pos h2]; exact ⟨v.toNat,by omega,by omega,by omega⟩
    · rw [if_neg h2]; exact ⟨1,by omega,by omega,rfl⟩
  · rw [if_neg h1,if_pos (by decide)]; exact ⟨4096,by omega,by omega,rfl⟩
theorem sizeAt_some {K : Known} (b o n c i : Nat) (hn0 : 0 < n) (hn : n ≤ 9223372036854775807) (hv : ∀ j,j < n → ∃ v : Int,cellAt K b (o + j * 1) = some (.int .i64 v)) : Fn Tryz.prog K 39 #[.slice (some ⟨b,o,none⟩) (n) (c),.int .i64 ((i : Nat) : Int)] ([]) (fun r L => ∃ k : Nat,1 ≤ k ∧ k ≤ 4096 ∧ r = .int .i64 (k : Int) ∧ L = []) := by
 refine Fn.intro (args:=[.slice (some ⟨b,o,none⟩) (n) (c),.int .i64 ((i : Nat) : Int)]) (RR:=Ret1 4 _) Tryz.func39 rfl rfl Tryz.ntmps39 (res1 Tryz.results39) ?_
 refine Bl (env2:=[(0,.slice (some ⟨b,o,none⟩) (n) (c)),(1,.int .i64 ((i : Nat) : Int))]) rfl<|Cr<|Ea rfl rfl<|Ek3 0 1 4 rfl<|Ap<|Cr<|Em rfl rfl<|Aa (Bk rfl Tu23) rfl<|Aa (Dx (b:=((0 : Nat) : Int)) rfl rfl) rfl<|Am (v:=.bool false) (congrArg Value.bool (decide_eq_false (by omega)))<|Ek4 0 1 4 7 rfl<|Gw rfl (rfl) ?_
 refine Ar<|Cr<|Em rfl rfl<|Em rfl rfl<|Em rfl rfl<|Aa (Bk rfl Tu23) rfl<|Aa (S.rem (a:=((i : Nat) : Int)) (b:=((n : Nat) : Int)) (r:=((i % n : Nat) : Int)) rfl rfl (by omega) (by rw [← Int.ofNat_tmod])) rfl ?_
 have hil := Nat.mod_lt i hn0
 obtain ⟨v,hcell⟩ := hv (i % n) hil
 refine Aa (Bw rfl rfl (by omega) Tu23 Tz3) rfl<|Ah (Bd rfl hcell Ta3) rfl<|Aa (S.min2 rfl rfl) rfl<|Aa (S.max2 rfl rfl) rfl ?_
 obtain ⟨kk,hk1,hk2,hk3⟩ := clamp v
 refine Am (v:=.int .i64 (kk : Int)) (congrArg (Value.int .i64) hk3)<|Ea rfl rfl<|Ek3 0 4 7 rfl<|Av ?_
 exact ⟨_,rfl,kk,hk1,hk2,rfl,rfl⟩
theorem sizeAt_spec {K : Known} {sv : Value} (h : SzA K sv) (i : Nat) (L : Frags) : Fn Tryz.prog K 39 #[sv,.int .i64 ((i : Nat) : Int)] L fun r L' => ∃ k : Nat,1 ≤ k ∧ k ≤ 4096 ∧ r = .int .i64 (k : Int) ∧ L' = L := by
  obtain ⟨a,n,c,rfl,h1,h2⟩ := h
  refine Fn.mono (R:=fun v L' => ∃ L1,(∃ k : Nat,1 ≤ k ∧ k ≤ 4096 ∧ v = .int .i64 (k : Int) ∧ L1 = []) ∧ L' = L1 ++ L) ?_ ?_
  · refine Fn.frame (L:=[]) (F:=L) ?_
    rcases Nat.eq_zero_or_pos n with rfl | h0
    · exact Fn.mono (sizeAt_none a c i) fun v L h => ⟨512,by decide,by decide,h.1,h.2⟩
    · obtain ⟨b,o,rfl,hv⟩ := h2.resolve_left (by omega)
      exact sizeAt_some b o n c i h0 h1 hv
  · rintro v L' ⟨L1,⟨k,h1,h2,rfl,rfl⟩,rfl⟩
    exact ⟨k,h1,h2,rfl,rfl⟩
abbrev UnpR := Nat × Hd × List UInt8 × Nat
def unV (u : UnpR) (ev bv : Value) : Value := .agg #[.int .i64 ((u.1 : Nat) : Int),.string u.2.1.name,.string u.2.1.comment,ev,.int .i64 ((u.2.1.mod : Nat) : Int),.int .u8 ((u.2.1.os : Nat) : Int),bv,.int .i64 ((u.2.2.2 : Nat) : Int)]
def RdV (v : Value) (l : List UInt8) (G : Frags) : Prop := ∃ a c,v = .slice a l.length c ∧ ∀ (K : Known) (L : Frags),(∀ f ∈ G,f ∈ L) → (l = [] ∨ ∃ b o,a = some ⟨b,o,none⟩ ∧ Reads K L b o (bytesV l))
def UnpV (u : UnpR) (r : Value) (G : Frags) : Prop := ∃ ev bv,r = unV u ev bv ∧ RdV ev (u.2.1.extra.getD []) G ∧ RdV bv u.2.2.1 G
theorem RdV.mono {v : Value} {l : List UInt8} {G G2 : Frags} (h : RdV v l G) (hs : ∀ f ∈ G,f ∈ G2) : RdV v l G2 := by
  obtain ⟨a,c,e,h⟩ := h
  exact ⟨a,c,e,fun K L hL => h K L fun f hf => hL f (hs f hf)⟩
theorem RdV.nil : RdV (.slice none 0 0) [] [] := ⟨none,0,rfl,fun _ _ _ => .inl rfl⟩
theorem exOut_rd {ex : Option (List UInt8)} {v : Value} {g : Frag} (h : ExOut ex v g) : RdV v (ex.getD []) [g] := by
  cases ex with
  | none => have h' : v = _ := h; subst h'; exact ⟨_,_,rfl,fun _ _ _ => .inl rfl⟩
  | some d =>
    obtain ⟨b,o,c,cs,rfl,rfl,_⟩ := h
    exact ⟨_,_,rfl,fun K L hL => .inr ⟨b,o,rfl,Reads.mem (k:=0) (hL _ (.head _)) (by rw [List.drop_zero]; exact List.take_left' rfl)⟩⟩
theorem sl_rd {v : Value} {l : List UInt8} {Lf : Frags} (h : Sl 1 v l.length (bytesV l) Lf) : RdV v l Lf := by
  rcases h.2 with ⟨rfl,h2,rfl⟩ | ⟨b,o,c,cs,rfl,rfl,h3,h4,h5,h6⟩
  · have := List.eq_nil_of_length_eq_zero h2
    subst this
    exact RdV.nil
  · rw [Nat.mul_one] at h6
    exact ⟨_,_,rfl,fun K L hL => .inr ⟨b,o,rfl,Reads.mem (k:=0) (hL _ (.head _)) (by rw [List.drop_zero,Bp]; exact h6)⟩⟩
def RestEnd {K : Known} {ea : Fin 5 → Addr} (src : Src K ea) (zb : Nat) (ms : Bool) (h : Hd) (Y : List UInt8 × ZEnd) (r : Value) (L : Frags) : Prop :=
  ∃ GL f1 f2 f3 LZ,UnpV (0,h,Y.1,Y.2.1) r GL ∧ (∃ l,src.At l f1 f2 f3) ∧ (ms = false → Y.2.1 = 1 → src.At Y.2.2 f1 f2 f3) ∧ ZOld zb LZ ∧ L = GL ++ (f1::f2::f3::LZ)
theorem zRead_spec {K : Known} {ea : Fin 5 → Addr} (hs : Sents K ea) (hc : Codes K) {src : Src K ea} {zb : Nat} {ms : Bool} {Y : List UInt8 × ZEnd} {LZ : Frags} (hZ : ZRd src zb ms Y LZ) (pb po n c : Nat) (cs : List Value) (hn : n = cs.length) (hn0 : 0 < n) (hnc : n ≤ c) (hnl : n ≤ 4611686018427387904) (G : Frags) :
    Fn Tryz.prog K 40 #[.pointer (some ⟨zb,0,none⟩),.slice (some ⟨pb,po,none⟩) (n) (c)] (⟨pb,po,cs⟩::(G ++ LZ)) fun r L => ∃ k er LZ2,r = .tuple #[.int .i64 ((k : Nat) : Int),Er.val ea er] ∧ k ≤ n ∧ k ≤ Y.1.length ∧ L = ⟨pb,po,bytesV (Y.1.take k) ++ cs.drop k⟩::(G ++ LZ2) ∧
      ((er = .none ∧ 0 < k ∧ ZRd src zb ms (Y.1.drop k,Y.2) LZ2) ∨
       (er ≠ .none ∧ k = Y.1.length ∧ kindOf er = Y.2.1 ∧ ∃ f1 f2 f3 LZ,(∃ l,src.At l f1 f2 f3) ∧ (ms = false → Y.2.1 = 1 → src.At Y.2.2 f1 f2 f3) ∧ ZOld zb LZ ∧ LZ2 = f1::f2::f3::LZ)) := by
  obtain ⟨Dt,gv,c0,c1,c2,c3,c4,c5,bs,fb,DK,hb,hD,hg,hY,rfl⟩ := hZ
  have pm : ∀ (B a1 a2 a3 : Frag) (DK : Frags),(B::(G ++ ([a1,a2,a3] ++ DK))).Perm (([a1,a2,a3,B] ++ DK) ++ G) := fun B a1 a2 a3 DK => by
    refine (List.Perm.cons B List.perm_append_comm).trans ?_
    refine List.Perm.trans ?_ (List.Perm.append_right G (List.perm_middle (l₁:=[a1,a2,a3]) (l₂:=DK)).symm)
    exact .refl _
  refine Fn.lose (Fn.perm (pm _ _ _ _ DK) (Fn.frame (F:=G) (zRead_walk hs hc src zb ms Y pb po n c cs hn hn0 hnc hnl Dt gv c0 c1 c2 c3 c4 c5 bs fb DK hb hD hg .none rfl hY))) ?_
  rintro v L ⟨L1,⟨L2,J,hS,k,er,rfl,h1,h2,h3⟩,rfl⟩
  have hs2 : ∀ (B : Frag) (LZ : Frags),L2 = B::LZ → Same (L1 ++ G) ((B::(G ++ LZ)) ++ J) := fun B LZ e => by
    subst e
    have q1 := (Same.perm (List.perm_append_comm (l₁:=L1) (l₂:=G))).trans (Same.appendL G hS)
    refine q1.trans (Same.perm ?_)
    rw [← List.append_assoc]
    exact (List.perm_middle (l₁:=G) (l₂:=LZ)).append_right J
  rcases h3 with ⟨rfl,h3,LZ,h4,h5⟩ | ⟨h3,h4,h5,f1,f2,f3,LZ,h6,h7,h8,h9⟩
  · exact ⟨_,J,hs2 _ LZ h5,k,.none,LZ,rfl,h1,h2,rfl,.inl ⟨rfl,h3,h4⟩⟩
  · exact ⟨_,J,hs2 _ _ h9,k,er,_,rfl,h1,h2,rfl,.inr ⟨h3,h4,h5,f1,f2,f3,LZ,h6,h7,h8,rfl⟩⟩
theorem zat_rd {K : Known} {ea : Fin 5 → Addr} {src : Src K ea} {zb : Nat} {h : Hd} {rest : List UInt8} {f1 f2 f3 : Frag} {bs : List Value} {xa : Option Addr} {xn fb : Nat} {DN : Frags} (ms : Bool) (hA : src.At rest f1 f2 f3) (hb : bs.length = 512) (hDN : DecNew src fb DN) :
    ∃ LZ,ZRd src zb ms (gzR ms rest) LZ ∧ ∀ G,Same (G ++ ([f1,f2,f3,⟨zb,0,[.string h.comment,.slice xa xn xn,.int .u64 0,.int .i64 (timeV h.mod),.string h.name,.int .u8 ((h.os : Nat) : Int),.iface src.t src.v,.iface 190 (.pointer (some ⟨fb,0,none⟩)),.int .u32 ((0 : Nat) : Int),.int .u32 0]⟩,⟨zb,10,bs⟩,⟨zb,522,[Er.val ea .none,.bool ms]⟩] ++ DN)) (G ++ LZ) := by
  refine ⟨[⟨zb,0,[.string h.comment,.slice xa xn xn,.int .u64 0,.int .i64 (timeV h.mod),.string h.name,.int .u8 ((h.os : Nat) : Int),.iface src.t src.v,.iface 190 (.pointer (some ⟨fb,0,none⟩)),.int .u32 ((0 : Nat) : Int),.int .u32 0]⟩,⟨zb,10,bs⟩,⟨zb,522,[Er.val ea .none,.bool ms]⟩] ++ (f1::f2::f3::DN),⟨rest,0,.string h.comment,.slice xa xn xn,.int .u64 0,.int .i64 (timeV h.mod),.string h.name,.int .u8 ((h.os : Nat) : Int),bs,fb,f1::f2::f3::DN,hb,hDN.ok hA,Nat.zero_le _,by rw [gzR_eq]; rfl,?_⟩,fun G => Same.appendL G (Same.perm ?_)⟩
  · rw [List.take_zero,crcOn_nil]; rfl
  · exact Bj (is:=[3,3,3,0,0,0]) (A:=[_,_,_,_,_,_]) (F:=DN) rfl
theorem lf_out (a1 a2 a3 a4 : Frag) (Lf LZ : Frags) : ([a1,a2,a3,a4] ++ (Lf ++ LZ)).Perm (Lf ++ ([a1,a2,a3,a4] ++ LZ)) := by
  rw [← List.append_assoc,← List.append_assoc]
  exact List.perm_append_comm.append_right LZ
theorem zRead_in3 {K : Known} {ea : Fin 5 → Addr} (hs : Sents K ea) (hc : Codes K) {src : Src K ea} {zb : Nat} {ms : Bool} {Y : List UInt8 × ZEnd} {LZ : Frags} (hZ : ZRd src zb ms Y LZ) (pb po n c : Nat) (cs : List Value) (hn : n = cs.length) (hn0 : 0 < n) (hnc : n ≤ c) (hnl : n ≤ 4611686018427387904) (a1 a2 a3 : Frag) (Lf : Frags) :
    Fn Tryz.prog K 40 #[.pointer (some ⟨zb,0,none⟩),.slice (some ⟨pb,po,none⟩) (n) (c)] (⟨pb,po,cs⟩::a1::a2::a3::(Lf ++ LZ)) fun r L => ∃ k er LZ2,r = .tuple #[.int .i64 ((k : Nat) : Int),Er.val ea er] ∧ k ≤ n ∧ k ≤ Y.1.length ∧ L = ⟨pb,po,bytesV (Y.1.take k) ++ cs.drop k⟩::a1::a2::a3::(Lf ++ LZ2) ∧
      ((er = .none ∧ 0 < k ∧ ZRd src zb ms (Y.1.drop k,Y.2) LZ2) ∨
       (er ≠ .none ∧ k = Y.1.length ∧ kindOf er = Y.2.1 ∧ ∃ f1 f2 f3 LZ,(∃ l,src.At l f1 f2 f3) ∧ (ms = false → Y.2.1 = 1 → src.At Y.2.2 f1 f2 f3) ∧ ZOld zb LZ ∧ LZ2 = f1::f2::f3::LZ)) := by
  have := zRead_spec hs hc hZ pb po n c cs hn hn0 hnc hnl ([a1,a2,a3] ++ Lf)
  simpa only [List.append_assoc,List.cons_append,List.nil_append] using this
theorem sl_one {v : Value} {m : Nat} {xs : List Value} {Lf : Frags} (h : Sl 1 v m xs Lf) : one v = true := by
  rcases h.2 with ⟨rfl,_⟩ | ⟨b,o,c,cs,rfl,_⟩ <;> rfl
theorem rest_walk {K : Known} {ea : Fin 5 → Addr} (hs : Sents K ea) (hc : Codes K) (src : Src K ea) (zb : Nat) (h : Hd) (hm : h.mod < 4294967296) (ms : Bool) (rest : List UInt8) (sv : Value) (hsz : SzA K sv) (hlen : (gzR ms rest).1.length ≤ 70368744177664) (f1 f2 f3 : Frag) (bs : List Value) (xa : Option Addr) (xn : Nat) (Xf : Frag) (fb : Nat) (DN : Frags) (hA : src.At rest f1 f2 f3) (hbs : bs.length = 512) (hX : ExAt h.extra xa xn Xf) (hDN : DecNew src fb DN) : Fn Tryz.prog K 24 #[.pointer (some ⟨zb,0,none⟩),sv] ([f1,f2,f3,⟨zb,0,[.string h.comment,.slice xa xn xn,.int .u64 0,.int .i64 (timeV h.mod),.string h.name,.int .u8 ((h.os : Nat) : Int),.iface src.t src.v,.iface 190 (.pointer (some ⟨fb,0,none⟩)),.int .u32 ((0 : Nat) : Int),.int .u32 0]⟩,⟨zb,10,bs⟩,⟨zb,522,[Er.val ea .none,.bool ms]⟩,Xf] ++ DN) (fun r L => ∃ L2 J,Same L (L2 ++ J) ∧ RestEnd src zb ms h (gzR ms rest) r L2) := by
 refine Fn.intro (args:=[.pointer (some ⟨zb,0,none⟩),sv]) (RR:=RetC 4 8  _) Tryz.func24 rfl rfl Tryz.ntmps24 (resC Tryz.results24 Tryz.isAgg29 Tz29) ?_
 refine Bl (env2:=[(0,.pointer (some ⟨zb,0,none⟩)),(1,sv)]) rfl<|Cr ?_
 refine Ak (Dy Tryz.zeroValue29) rfl ?_; rintro _ _ ⟨b4,rfl,rfl⟩; refine Ab (L2:=(_::_::_::_::_::_::_::_::_)) rfl ?_
 refine Ab (L2:=[⟨b4,0,[.int .i64 0,.string ⟨#[]⟩,.string ⟨#[]⟩,.slice none 0 0,.int .i64 0,.int .u8 0,.slice none 0 0,.int .i64 0]⟩,f1,f2,f3,⟨zb,0,[.string h.comment,.slice xa xn xn,.int .u64 0,.int .i64 (timeV h.mod),.string h.name,.int .u8 ((h.os : Nat) : Int),.iface src.t src.v,.iface 190 (.pointer (some ⟨fb,0,none⟩)),.int .u32 ((0 : Nat) : Int),.int .u32 0]⟩,⟨zb,10,bs⟩,⟨zb,522,[Er.val ea .none,.bool ms]⟩,Xf] ++ DN) (by kernel_rfl)<|Ek3 0 1 4 rfl<|Cr<|Em rfl rfl<|Aa (Ad rfl) rfl<|Aa (Ae rfl fa99_0) rfl<|Ah (Bn 4 (k:=0) rfl rfl rfl rfl Ta92 Tz92) rfl ?_
 refine Ak (OpX.pick [7] (F:=(_::_::_::_::_::_::_::_)) rfl (Au rfl Tryz.call38 (headerOf_spec h hm xa xn Xf hX))) rfl ?_; rintro _ _ ⟨_,⟨ev,g,hO,rfl,rfl⟩,rfl⟩; refine Ab (L2:=(_::_::_::_::_::_::_::_::_)) rfl ?_
 refine Aa (Eu (v:=.agg #[.int .i64 0,.string h.name,.string h.comment,ev,.int .i64 ((h.mod : Nat) : Int),.int .u8 ((h.os : Nat) : Int),.slice none 0 0,.int .i64 0]) [(1,.agg #[.string h.name,.string h.comment,ev,.int .i64 ((h.mod : Nat) : Int),.int .u8 ((h.os : Nat) : Int)])] rfl (fun w => by simp [Instr.build,Instr.fill,Value.cells,Tryz.zeroValue29])) rfl ?_
 refine Ak (Dy Tryz.zeroValue29) rfl ?_; rintro _ _ ⟨b5,rfl,rfl⟩; refine Ab (L2:=(_::_::_::_::_::_::_::_::_::_)) rfl ?_
 refine Ao (Bi 0 (k:=0) rfl rfl rfl (by simp only [List.all_cons,List.all_nil,exOut_one hO]; rfl) rfl rfl Tz29 rfl) ?_; rintro _ _ ⟨rfl,rfl⟩; refine Ab (L2:=(_::_::_::_::_::_::_::_::_::_)) rfl ?_
 refine Ek4 0 1 4 5 rfl<|Bq (L2:=[⟨b5,0,[.int .i64 0,.string h.name,.string h.comment,ev,.int .i64 ((h.mod : Nat) : Int),.int .u8 ((h.os : Nat) : Int),.slice none 0 0,.int .i64 0]⟩,g,⟨b4,0,[.int .i64 0,.string ⟨#[]⟩,.string ⟨#[]⟩,.slice none 0 0,.int .i64 0,.int .u8 0,.slice none 0 0,.int .i64 0]⟩] ++ ([f1,f2,f3,⟨zb,0,[.string h.comment,.slice xa xn xn,.int .u64 0,.int .i64 (timeV h.mod),.string h.name,.int .u8 ((h.os : Nat) : Int),.iface src.t src.v,.iface 190 (.pointer (some ⟨fb,0,none⟩)),.int .u32 ((0 : Nat) : Int),.int .u32 0]⟩,⟨zb,10,bs⟩,⟨zb,522,[Er.val ea .none,.bool ms]⟩] ++ DN)) rfl ?_
 obtain ⟨LZ0,hZ0,hSm⟩ := zat_rd (zb:=zb) (h:=h) (xa:=xa) (xn:=xn) ms hA hbs hDN
 refine Ez (hSm _)<|Cr<|Ea rfl rfl<|Ek5 0 1 4 5 6 rfl<|Ax<|Bx (fun mm ee ll => ∃ (i : Nat),∃ (k : Nat),∃ (bv : Value),∃ (Lf : Frags),∃ (LZ : Frags),keeps ee [0,1,4,5,6] = some [(0,.pointer (some ⟨zb,0,none⟩)),(1,sv),(4,.pointer (some ⟨b4,0,none⟩)),(5,.pointer (some ⟨b5,0,none⟩)),(6,.int .i64 ((i : Nat) : Int))] ∧ ll = [⟨b5,0,[.int .i64 0,.string h.name,.string h.comment,ev,.int .i64 ((h.mod : Nat) : Int),.int .u8 ((h.os : Nat) : Int),bv,.int .i64 0]⟩,g,⟨b4,0,[.int .i64 0,.string ⟨#[]⟩,.string ⟨#[]⟩,.slice none 0 0,.int .i64 0,.int .u8 0,.slice none 0 0,.int .i64 0]⟩] ++ (Lf ++ LZ) ∧ (ZRd src zb ms ((gzR ms rest).1.drop k,(gzR ms rest).2) LZ) ∧ (Sl 1 bv ((gzR ms rest).1.take k).length (bytesV ((gzR ms rest).1.take k)) Lf) ∧ (i ≤ k) ∧ (k ≤ (gzR ms rest).1.length) ∧ mm = (gzR ms rest).1.length - k) (_) ⟨0,0,.slice none 0 0,[],LZ0,rfl,rfl,hZ0,Sl.nil 1,Nat.le_refl _,Nat.zero_le _,rfl⟩ ?_
 rintro m0 _ _ ⟨i,k,bv,Lf,LZ,hk0,rfl,hZ,hSl,hik,hkX,hm0⟩
 refine Ba _ hk0<|Ap<|Ax<|Cr<|Em rfl rfl<|Em rfl rfl ?_
 refine Ak (Au rfl Tryz.call39 (sizeAt_spec hsz i _)) rfl ?_; rintro _ _ ⟨n,hn1,hn2,rfl,rfl⟩; refine Ab (L2:=(_::_::_::_)) rfl ?_
 refine Ak (X.make (l:=n) (c:=n) (bytes:=1) Tu25 infoB (z:=.int .u8 0) rfl rfl rfl rfl rfl rfl (Nat.le_refl _) (by omega) (by omega)) rfl ?_; rintro _ _ ⟨nb,rfl,rfl⟩; refine Ab (L2:=(_::_::_::_::_)) rfl ?_
 refine Ea rfl rfl<|Ek6 0 1 4 5 6 7 rfl<|Cr<|Em rfl rfl<|Em rfl rfl ?_
 refine Ak (Au rfl Tryz.call40 (zRead_in3 hs hc hZ nb 0 n n (List.replicate n (.int .u8 0)) (by rw [List.length_replicate]) (by omega) (Nat.le_refl _) (by omega) _ _ _ Lf)) rfl ?_; rintro _ _ ⟨j,er,LZ2,rfl,hj1,hj2,rfl,hE⟩; refine Ab (L2:=(_::_::_::_::_)) rfl ?_
 refine Em rfl rfl<|Aa (Bb rfl rfl) rfl<|Aa (Bb rfl rfl) rfl<|Ea rfl rfl<|Ea rfl rfl<|Ek8 0 1 4 5 6 7 8 9 rfl ?_
 have hjl : (((gzR ms rest).1.drop k).take j).length = j := by rw [List.length_take]; exact Nat.min_eq_left hj2
 have hap : (gzR ms rest).1.take (k + j) = (gzR ms rest).1.take k ++ ((gzR ms rest).1.drop k).take j := List.take_add
 have hjl2 := hjl
 refine Ap<|Br [0,1,0,0,12,18,63,127] (.pure 0 28 (.pure 2 11 (.pure 3 7 (.pure 4 15 (.seg [(1,29)] (.alt 5 (.pure 6 63 (.alt 7 .done .stop)) .stop)))))) mixed (by decide +kernel)<|Ai rfl (Ae rfl fa29_2) rfl<|Dm rfl rfl rfl<|Dm rfl rfl rfl<|Ai rfl (S.slH rfl rfl (by omega) Tu25 Tz5) rfl<|Dn (v:=.slice (some ⟨nb,0,none⟩) (j) (n)) (Bo (by simp [part]) rfl rfl)<|Dc (by decide)<|Az rfl (An 1 (k:=6) rfl rfl rfl Ta25) rfl<|Db<|Da ?_
 refine Df rfl (OpX.perm (lf_out _ _ _ _ Lf LZ2) (Gv (ys:=((gzR ms rest).1.drop k).take j) (L:=[_,_,_,_] ++ LZ2) rfl rfl hSl (by rw [hjl]) (.inr ⟨nb,0,rfl,Reads.mem (k:=0) (List.mem_append_right _ (.head _)) (by rw [List.drop_zero]; exact List.take_left' rfl)⟩) (by rw [hjl,List.length_take]; omega))) rfl ?_
 rintro bv2 _ ⟨Lf2,hSl2,rfl⟩
 refine D.same (Same.perm (lf_out _ _ _ _ Lf2 LZ2).symm)<|Bf (L2:=[_,_,_,_] ++ (Lf2 ++ LZ2)) rfl ?_
 rw [← hap] at hSl2
 refine Ai rfl (Ae rfl fa29_2) rfl<|Da ?_
 refine Bz rfl (Aq 1 (k:=6) rfl rfl rfl (sl_one hSl2) rfl Tz25) ?_; rintro _ _ ⟨rfl,rfl⟩; refine Bf (L2:=(_::_::_::_::_)) rfl ?_
 refine Dk8 0 1 4 5 6 7 8 9 rfl<|Cr<|Em rfl rfl<|Ah (Dg rfl) rfl<|Ek9 0 1 4 5 6 7 8 9 36 rfl<|Dp rfl (fun h36 => ?_) (fun h36 => ?_)
 ·refine Cr<|Em rfl rfl ?_
  refine Ak (OpX.pick [] (F:=(_::_::_::_::_)) rfl (Au rfl Tryz.call23 (kind_spec hs _))) rfl ?_; rintro _ _ ⟨_,⟨rfl,rfl⟩,rfl⟩; refine Ab (L2:=(_::_::_::_::_)) rfl ?_
  refine Aa (Ae rfl fa29_3) rfl ?_
  refine Ao (Aq 1 (k:=7) rfl rfl rfl rfl rfl Tz3) ?_; rintro _ _ ⟨rfl,rfl⟩; refine Ab (L2:=(_::_::_::_::_)) rfl ?_
  refine Ek9 0 1 4 5 6 7 8 9 36 rfl<|Cr<|Ah (Bn 1 (k:=0) rfl rfl rfl rfl Tryz.isAgg29 Tz29) rfl ?_
  refine Ao (Bi 3 (k:=0) rfl rfl rfl (by show ([.int .i64 0,.string h.name,.string h.comment,ev,.int .i64 ((h.mod : Nat) : Int),.int .u8 ((h.os : Nat) : Int),bv2,.int .i64 ((kindOf er : Nat) : Int)] : List Value).all one = true; simp only [List.all_cons,List.all_nil,exOut_one hO,sl_one hSl2]; rfl) rfl rfl Tz29 rfl) ?_; rintro _ _ ⟨rfl,rfl⟩; refine Ab (L2:=(_::_::_::_::_)) rfl ?_
  refine Ek9 0 1 4 5 6 7 8 9 36 rfl<|Av ?_
  obtain ⟨hne,hjX,hkd,w1,w2,w3,LZ3,hAt,hms,hOld,rfl⟩ := hE.resolve_left (fun hh => h36 hh.1)
  have hkj : (gzR ms rest).1.take (k + j) = (gzR ms rest).1 := List.take_of_length_le (by rw [List.length_drop] at hjX; omega)
  rw [hkj] at hSl2
  refine ⟨_,⟨_,_,3,rfl,rfl,rfl⟩,(g::Lf2) ++ (w1::w2::w3::LZ3),_,(Same.perm (Bj (is:=[2,0,0,0]) (A:=[_,_,_,_]) (F:=Lf2 ++ (w1::w2::w3::LZ3)) rfl)).trans (Same.perm ((List.perm_append_comm (l₁:=[_,_,_]) (l₂:=Lf2 ++ (w1::w2::w3::LZ3))).cons _)),g::Lf2,w1,w2,w3,LZ3,⟨ev,bv2,?_,(exOut_rd hO).mono (fun f hf => by rw [List.mem_singleton.1 hf]; exact .head _),(sl_rd hSl2).mono fun f hf => .tail _ hf⟩,hAt,hms,hOld,rfl⟩
  rw [unV,← hkd]; rfl
 obtain ⟨_,hj0,hZ2⟩ := hE.resolve_right (fun hh => hh.1 h36)
 rw [List.drop_drop] at hZ2
 refine C.shed [0] (A:=[_]) (F:=_::_::_::(Lf2 ++ LZ2)) rfl<|Bq (L2:=[_,_,_] ++ (Lf2 ++ LZ2)) rfl<|Ar<|Al<|Em rfl rfl<|Aa (Bh (b:=((1 : Nat) : Int)) rfl rfl (N.add64 (by omega))) rfl<|Ea rfl rfl<|Ek9 0 1 4 5 6 7 8 9 36 rfl ?_
 refine ⟨_,?_,i + 1,k + j,bv2,Lf2,LZ2,rfl,rfl,hZ2,hSl2,by omega,by rw [List.length_drop] at hj2; omega,rfl⟩; rw [List.length_drop] at hj2; omega
def DB (K : Known) (a : Option Addr) (dt : List UInt8) : Prop := dt = [] ∨ ∃ pb po,a = some ⟨pb,po,none⟩ ∧ KB K pb po dt
theorem Fg {K : Known} (rb : Nat) (ba : Option Addr) (bc : Nat) (dt : List UInt8) (hD : DB K ba dt) (hl : dt.length ≤ 65536) (p n : Nat) (hp : p ≤ 8 * dt.length) (hn : n ≤ 16) : Fn Tryz.prog K 47 #[.pointer (some ⟨rb,0,none⟩),.int .i64 ((n : Nat) : Int)] ([⟨rb,0,[.slice ba dt.length bc,.int .i64 (((p) : Nat) : Int)]⟩]) (fun r L => ∃ x ok p2,r = .tuple #[.int .i64 ((x : Nat) : Int),.bool ok] ∧ L = [⟨rb,0,[.slice ba dt.length bc,.int .i64 (((p2) : Nat) : Int)]⟩] ∧ TakeR dt p n x ok p2) := by
 refine Fn.intro (args:=[.pointer (some ⟨rb,0,none⟩),.int .i64 ((n : Nat) : Int)]) (RR:=Ret2 4 5 _) Tryz.func47 rfl rfl Tryz.ntmps47 (res2 Tryz.results47) ?_
 refine Bl (env2:=[(0,.pointer (some ⟨rb,0,none⟩)),(1,.int .i64 ((n : Nat) : Int))]) rfl<|Cr<|Ea rfl rfl<|Ea rfl rfl<|Ek4 0 1 4 5 rfl<|Cr<|Ea rfl rfl ?_
 refine Am (v:=.int .i64 ((takeB dt p 0 : Nat) : Int)) (by rw [take_zero]; rfl) ?_
 refine Ek5 0 1 4 5 6 rfl<|Ap<|Cr<|Em rfl rfl<|Em rfl rfl<|Ek6 0 4 5 6 8 9 rfl<|Ax<|Bq (L2:=[⟨rb,0,[.slice ba dt.length bc,.int .i64 (((p + 0) : Nat) : Int)]⟩]) rfl<|Bx (fun mm ee ll => ∃ (i : Nat),keeps ee [0,6,8,9] = some [(0,.pointer (some ⟨rb,0,none⟩)),(6,.int .i64 ((takeB dt p i : Nat) : Int)),(8,.int .i64 ((n : Nat) : Int)),(9,.int .i64 ((i : Nat) : Int))] ∧ ll = [⟨rb,0,[.slice ba dt.length bc,.int .i64 (((p + i) : Nat) : Int)]⟩] ∧ (i ≤ n) ∧ (p + i ≤ 8 * dt.length) ∧ mm = n - i) (_) ⟨0,rfl,rfl,by omega,by omega,rfl⟩ ?_
 rintro m0 _ _ ⟨i,hk0,rfl,hi,hil,hm0⟩
 refine Ba _ hk0<|Cr<|Aa (Dk rfl rfl) rfl<|Ek5 0 6 8 9 10 rfl<|Ap<|Be rfl (fun h10 => ?_) (fun h10 => ?_)
 ·refine Ar<|Ap<|Ax<|Cr<|Em rfl rfl<|Ea rfl rfl<|Ek6 0 6 7 8 9 10 rfl<|Ap<|Ap<|Br [0,1,2,4,0,16,32,64,128,256,520] (.pure 0 1008 (.pure 1 1009 (.pure 2 1011 (.pure 4 15 (.pure 5 31 (.pure 6 63 (.seg [(3,1015),(7,127),(8,255),(9,511),(10,1023)] .done))))))) mixed (by decide +kernel)<|Dm rfl rfl rfl<|Ai rfl (Ad rfl) rfl ?_
  refine Ai rfl (Ae rfl fa124_1) rfl<|Dm rfl rfl rfl<|Ai rfl (Ad rfl) rfl<|Ai rfl (Ae rfl fa124_0) rfl<|Dc (by decide)<|Az rfl (An 0 (k:=1) rfl rfl rfl Ta3) rfl<|Az rfl (An 0 (k:=0) rfl rfl rfl Ta25) rfl<|Bg rfl (Bk rfl Tu25) rfl<|Bg rfl (S.mul (a:=((8 : Nat) : Int)) rfl rfl (N.mul64 (by omega))) rfl<|Bg rfl (Dx rfl rfl) rfl<|Db<|Dk7 0 6 7 8 9 10 22 rfl ?_
  refine Be rfl (fun h22 => ?_) (fun h22 => ?_)
  ·refine Cr<|Ea rfl rfl<|Ea rfl rfl<|Ek9 0 4 5 6 7 8 9 10 22 rfl<|Av ?_
   have hpe : p + i = 8 * dt.length := by omega
   exact ⟨_,_,rfl,rfl,_,_,_,rfl,by rw [hpe],.inr ⟨rfl,by unfold left; omega,rfl,rfl⟩⟩
  refine Ar<|Ap ?_
  have hps : p + i < 8 * dt.length := by omega
  have hpi : (p + i) / 8 < dt.length := by omega
  obtain ⟨pb,po,rfl,hKB⟩ := hD.resolve_left (fun h => by rw [h] at hps; simp at hps)
  have hb8 := (dt[(p + i) / 8]'hpi).toNat_lt
  have htk := Eo dt p i
  have h2i : 2 ^ i ≤ 2 ^ 16 := Nat.pow_le_pow_right (by omega) (by omega)
  have hsh : ((dt[(p + i) / 8]'hpi).toNat >>> ((p + i) % 8)) < 256 := by rw [Nat.shiftRight_eq_div_pow]; exact Nat.lt_of_le_of_lt (Nat.div_le_self _ _) hb8
  have hand : ((dt[(p + i) / 8]'hpi).toNat >>> ((p + i) % 8)) &&& 1 ≤ 1 := Nat.and_le_right
  have hshl : (((dt[(p + i) / 8]'hpi).toNat >>> ((p + i) % 8)) &&& 1) <<< i ≤ 2 ^ 16 := by rw [Nat.shiftLeft_eq]; have := Nat.mul_le_mul hand h2i; omega
  refine Br [0,0,2,4,8,0,32,64,128,256,528,1024,0,4096,8192,16384,32768,67584,131072,262144,0,1572864,2097153,8388607] (.pure 0 4194302 (.pure 1 1176545 (.pure 2 1176547 (.pure 3 1176551 (.pure 5 1175583 (.pure 6 1175615 (.pure 7 1175679 (.pure 12 1052671 (.pure 13 1056767 (.pure 14 1064959 (.pure 20 1048575 (.seg [(4,1176559),(8,1175807),(9,1176063),(10,1176575),(11,1177599),(15,1081343),(16,1114111),(17,1179647),(18,1310719),(19,1572863),(21,2097151),(22,4194303),(23,8388607)] .done)))))))))))) mixed (by decide +kernel)<|Dm rfl rfl rfl<|Dm rfl rfl rfl<|Ai rfl (Ad rfl) rfl<|Ai rfl (Ae rfl fa124_0) rfl<|Dm rfl rfl rfl<|Ai rfl (Ad rfl) rfl<|Ai rfl (Ae rfl fa124_1) rfl<|Dm rfl rfl rfl<|Ai rfl (Ad rfl) rfl<|Ai rfl (Ae rfl fa124_1) rfl<|Dm rfl rfl rfl ?_
  refine Dc (by decide)<|Az rfl (An 0 (k:=0) rfl rfl rfl Ta25) rfl<|Az rfl (An 0 (k:=1) rfl rfl rfl Ta3) rfl ?_
  refine Bg rfl (S.quo (a:=((p + i : Nat) : Int)) (b:=((8 : Nat) : Int)) (r:=(((p + i) / 8 : Nat) : Int)) rfl rfl (by omega) (by rw [← Int.ofNat_tdiv]; exact N.i64n (by omega))) rfl ?_
  refine Bg rfl (Bw rfl rfl (by omega) Tu25 Tz5) rfl<|Az rfl (Bd rfl (hKB.at hpi) Ta5) rfl<|Az rfl (An 0 (k:=1) rfl rfl rfl Ta3) rfl<|Bg rfl (S.rem (a:=((p + i : Nat) : Int)) (b:=((8 : Nat) : Int)) (r:=(((p + i) % 8 : Nat) : Int)) rfl rfl (by omega) (by rw [← Int.ofNat_tmod])) rfl<|Bg rfl (Fj rfl rfl (by omega) (N.shr_u8 (by omega) _)) rfl<|Bg rfl (Ei (b:=((1 : Nat) : Int)) rfl rfl (N.and_u8 hsh (by omega))) rfl<|Bg rfl (Bv rfl Tu5 Tu3 (N.i64n (by omega))) rfl<|Bg rfl (Fk rfl rfl (by omega) (N.shl64 (by omega))) rfl<|Bg rfl (S.or rfl rfl (N.or64 (by omega) (by omega))) rfl<|Dw (v:=.int .i64 ((takeB dt p (i + 1) : Nat) : Int)) (by rw [take_step hps hpi])<|Bg rfl (Bc rfl) rfl<|Db ?_
  refine Dk7 0 6 7 8 9 10 22 rfl<|Al<|Em rfl rfl<|Aa (Ad rfl) rfl<|Aa (Ae rfl fa124_1) rfl<|Ah (An 0 (k:=1) rfl rfl rfl Ta3) rfl<|Aa (Bh (b:=((1 : Nat) : Int)) rfl rfl (N.add64 (by omega))) rfl<|Aa (Ad rfl) rfl<|Aa (Ae rfl fa124_1) rfl ?_
  refine Ao (Aq 0 (k:=1) rfl rfl rfl rfl rfl Tz3) ?_; rintro _ _ ⟨rfl,rfl⟩; refine Ab (L2:=[_]) rfl ?_
  refine Ek7 0 6 7 8 9 10 22 rfl<|Al<|Aa (Bh (b:=((1 : Nat) : Int)) rfl rfl (N.add64 (by omega))) rfl<|Em rfl rfl<|Ek7 0 6 7 8 9 10 22 rfl ?_
  refine ⟨_,?_,i + 1,rfl,rfl,by omega,by omega,rfl⟩; omega
 refine Bu rfl<|Cr<|Em rfl rfl<|Ea rfl rfl<|Ea rfl rfl<|Ek7 0 4 5 6 8 9 10 rfl<|Av ?_
 have hin : i = n := by omega
 subst hin
 exact ⟨_,_,rfl,rfl,_,_,_,rfl,rfl,.inl ⟨rfl,by unfold left; omega,rfl,rfl⟩⟩
theorem symbol_spec {K : Known} (rb : Nat) (ba : Option Addr) (bc : Nat) (dt : List UInt8) (hD : DB K ba dt) (hl : dt.length ≤ 65536) (p : Nat) (hp : p ≤ 8 * dt.length) (lens : List Nat) (hok : okLens lens) (h15 : ∀ x ∈ lens,x ≤ 15) (hlen : lens.length ≤ 320) (tb : Nat) (f : Nat → Nat) (hT : TreeP lens lens.length f) (hfb : ∀ x,f x ≤ 320) : Fn Tryz.prog K 67 #[.pointer (some ⟨rb,0,none⟩),.slice (some ⟨tb,0,none⟩) (2 ^ (maxL lens + 1)) (2 ^ (maxL lens + 1))] ([⟨rb,0,[.slice ba dt.length bc,.int .i64 (((p) : Nat) : Int)]⟩,⟨tb,0,cellsI (2 ^ (maxL lens + 1)) f⟩]) (fun r L => ∃ z p2,r = .int .i64 z ∧ p ≤ p2 ∧ p2 ≤ 8 * dt.length ∧ L = [⟨rb,0,[.slice ba dt.length bc,.int .i64 (((p2) : Nat) : Int)]⟩,⟨tb,0,cellsI (2 ^ (maxL lens + 1)) f⟩] ∧ SymZ lens dt p z p2) := by
 refine Fn.intro (args:=[.pointer (some ⟨rb,0,none⟩),.slice (some ⟨tb,0,none⟩) (2 ^ (maxL lens + 1)) (2 ^ (maxL lens + 1))]) (RR:=Ret1 4 _) Tryz.func67 rfl rfl Tryz.ntmps67 (res1 Tryz.results67) ?_
 refine Bl (env2:=[(0,.pointer (some ⟨rb,0,none⟩)),(1,.slice (some ⟨tb,0,none⟩) (2 ^ (maxL lens + 1)) (2 ^ (maxL lens + 1)))]) rfl<|Cr<|Ea rfl rfl<|Ek3 0 1 4 rfl<|Cr<|Ea rfl rfl<|Am (v:=.int .i64 ((2 ^ (0) + revB (0) (bitsAt dt p) : Nat) : Int)) rfl<|Ek4 0 1 4 5 rfl<|Ax ?_
 have hm15 := maxL_le h15
 have hfit := fit_of_ok hok
 refine Bx (fun mm ee ll => ∃ (k : Nat),keeps ee [0,1,5] = some [(0,.pointer (some ⟨rb,0,none⟩)),(1,.slice (some ⟨tb,0,none⟩) (2 ^ (maxL lens + 1)) (2 ^ (maxL lens + 1))),(5,.int .i64 ((2 ^ (k) + revB (k) (bitsAt dt p) : Nat) : Int))] ∧ ll = [⟨rb,0,[.slice ba dt.length bc,.int .i64 (((p + k) : Nat) : Int)]⟩,⟨tb,0,cellsI (2 ^ (maxL lens + 1)) f⟩] ∧ (k ≤ left dt p) ∧ (Walked lens dt p k) ∧ (k ≤ maxL lens) ∧ mm = left dt p - k) (_) ⟨0,rfl,rfl,by omega,fun s hs => hs.1,by omega,rfl⟩ ?_
 rintro m0 _ _ ⟨k,hk0,rfl,hkl,hw,hkm,hm0⟩
 refine Ba _ hk0 ?_
 have hkp : p + k ≤ 8 * dt.length := by unfold left at hkl; omega
 have h2k : 2 ^ k ≤ 2 ^ 15 := Nat.pow_le_pow_right (by omega) (by omega)
 have hrv := Eh k (bitsAt dt p)
 have ht1 := Eo dt (p + k) 1
 refine Ax<|Cr<|Em rfl rfl ?_
 refine Ak (OpX.pick [0] (F:=[_]) rfl (Au rfl Tryz.call47 (Fg rb ba bc dt hD hl (p + k) 1 hkp (by omega)))) rfl ?_; rintro _ _ ⟨_,⟨x,ok,p2,rfl,rfl,hTk⟩,rfl⟩; refine Ab (L2:=[_,_]) rfl ?_
 refine Bt [0,0] rfl<|Ab (L2:=[_,_]) rfl<|Em rfl rfl<|Aa (Bb rfl rfl) rfl<|Aa (Bb rfl rfl) rfl<|Ea rfl rfl<|Ea rfl rfl<|Ek5 0 1 5 6 7 rfl<|Ap<|Cr<|Em rfl rfl<|Aa (Fr rfl) rfl ?_
 refine Ek6 0 1 5 6 7 14 rfl<|Fa rfl (fun h14 => ?_) (fun h14 => ?_)
 ·obtain ⟨rfl,hlt,rfl,rfl⟩ := hTk.resolve_left (fun h => by rw [h.1] at h14; cases h14)
  refine Cr<|Ea rfl rfl<|Ek7 0 1 4 5 6 7 14 rfl<|Av ?_
  exact ⟨_,rfl,_,_,rfl,by omega,Nat.le_refl _,rfl,.inr ⟨walk_none hw (by rw [Gj] at hlt; omega),rfl⟩⟩
 obtain ⟨rfl,hle,hx1,rfl⟩ := hTk.resolve_right (fun h => by rw [h.1] at h14; cases h14)
 refine Ar<|Cr<|Em rfl rfl<|Aa (S.mul (a:=((2 : Nat) : Int)) rfl rfl (N.mul64 (by omega))) rfl<|Em rfl rfl<|Aa (Bh rfl rfl (N.add64 (by omega))) rfl ?_
 refine Am (v:=.int .i64 ((2 ^ (k + 1) + revB (k + 1) (bitsAt dt p) : Nat) : Int)) (by subst hx1; rw [← walk_index]) ?_
 refine Ea rfl rfl<|Ek6 0 1 5 6 7 14 rfl<|Ap<|Cr<|Em rfl rfl<|Em rfl rfl<|Aa (Bk rfl Tu23) rfl<|Aa (S.ge rfl rfl) rfl<|Ek7 0 1 5 6 7 14 22 rfl<|Be rfl (fun h22 => ?_) (fun h22 => ?_)
 ·refine Cr<|Ea rfl rfl<|Ek8 0 1 4 5 6 7 14 22 rfl<|Av ?_
  have hdeep : maxL lens ≤ k := by
    rcases Nat.lt_or_ge k (maxL lens) with h | h
    · exfalso
      have h1 := Eh (k + 1) (bitsAt dt p)
      have h2 : (2 : Nat) ^ (k + 2) ≤ 2 ^ (maxL lens + 1) := Nat.pow_le_pow_right (by omega) (by omega)
      rw [Nat.pow_succ] at h2
      omega
    · exact h
  exact ⟨_,rfl,_,_,rfl,by omega,by unfold left at hle; omega,rfl,.inr ⟨walk_deep hw hdeep,rfl⟩⟩
 have hix : 2 ^ (k + 1) + revB (k + 1) (bitsAt dt p) < 2 ^ (maxL lens + 1) := by omega
 have hkm2 : k + 1 ≤ maxL lens := by
   rcases Nat.lt_or_ge (maxL lens) (k + 1) with h | h
   · exfalso
     have : (2 : Nat) ^ (maxL lens + 1) ≤ 2 ^ (k + 1) := Nat.pow_le_pow_right (by omega) (by omega)
     omega
   · exact h
 refine Ar<|Cr<|Em rfl rfl<|Em rfl rfl<|Aa (Bw rfl rfl (by omega) Tu23 Tz3) rfl<|Ah (An 1 (k:=(2 ^ (k + 1) + revB (k + 1) (bitsAt dt p)) * 1) rfl rfl (Dv hix) Ta3) rfl<|Aa (Gg (b:=((0 : Nat) : Int)) rfl rfl) rfl<|Ek8 0 1 5 6 7 14 22 27 rfl<|Be rfl (fun h27 => ?_) (fun h27 => ?_)
 ·obtain ⟨s,hs1,hs2,hs3⟩ := walk_leaf hfit hT (D:=dt) (p:=p) (n:=k + 1) (by rw [Gj] at hle; omega) (by omega)
  have hs320 := hfb (2 ^ (k + 1) + revB (k + 1) (bitsAt dt p))
  refine Cr<|Em rfl rfl<|Em rfl rfl<|Aa (Bw rfl rfl (by omega) Tu23 Tz3) rfl<|Ah (An 1 (k:=(2 ^ (k + 1) + revB (k + 1) (bitsAt dt p)) * 1) rfl rfl (Dv hix) Ta3) rfl<|Aa (Du (b:=((1 : Nat) : Int)) rfl rfl (N.sub64 (by omega) (by omega))) rfl<|Ea rfl rfl<|Ek9 0 1 4 5 6 7 14 22 27 rfl<|Av ?_
  refine ⟨_,rfl,_,_,rfl,?_,?_,rfl,.inl ⟨s,hs1,?_,?_⟩⟩
  · omega
  · unfold left at hle; omega
  · rw [hs2]; omega
  · rw [hs3]; omega
 have hw2 : Walked lens dt p (k + 1) := walk_on hT hw (by omega)
 rw [Gj] at hle
 refine Ar ?_
 refine ⟨_,?_,k + 1,rfl,rfl,by omega,hw2,hkm2,rfl⟩; omega
theorem infoI : Tryz.prog.info? 3 = some Tryz.t3 := by kernel_rfl
theorem fullN_take {l : List Nat} {i : Nat} (h : i < l.length) : fullN (l.take (i + 1)) = fullN (l.take i) + (if l[i] = 0 then 0 else 2 ^ (15 - l[i])) := by rw [Ds h,fullN_snoc]
theorem sum_take {l : List Nat} {i : Nat} (h : i < l.length) : (l.take (i + 1)).sum = (l.take i).sum + l[i] := by rw [Ds h,List.sum_append]; simp
theorem sum_le {l : List Nat} (h : ∀ x ∈ l,x ≤ 15) : l.sum ≤ 15 * l.length := by
  induction l with
  | nil => simp
  | cons x r ih =>
    rw [List.sum_cons,List.length_cons]
    have := h x (List.mem_cons_self ..)
    have := ih fun y hy => h y (List.mem_cons_of_mem _ hy)
    omega
theorem full_spec {K : Known} (vb vo vc : Nat) (vs : List Value) (lens : List Nat) (h15 : ∀ x ∈ lens,x ≤ 15) (hlen : lens.length ≤ 320) : Fn Tryz.prog K 65 #[.slice (some ⟨vb,vo,none⟩) lens.length vc] ([⟨vb,vo,intsV lens ++ vs⟩]) (fun r L => r = .int .i64 ((fullN lens : Nat) : Int) ∧ L = [⟨vb,vo,intsV lens ++ vs⟩]) := by
 refine Fn.intro (args:=[.slice (some ⟨vb,vo,none⟩) lens.length vc]) (RR:=Ret1 2 _) Tryz.func65 rfl rfl Tryz.ntmps65 (res1 Tryz.results65) ?_
 refine Bl (env2:=[(0,.slice (some ⟨vb,vo,none⟩) lens.length vc)]) rfl<|Cr<|Ea rfl rfl<|Ek2 0 2 rfl<|Cr<|Ea rfl rfl<|Am (v:=.int .i64 ((fullN (lens.take 0) : Nat) : Int)) rfl<|Ek3 0 2 3 rfl<|Ap<|Cr<|Em rfl rfl<|Aa (Bk rfl Tu23) rfl ?_
 refine Em rfl rfl<|Ek5 2 3 6 7 8 rfl<|Ax<|Bx (fun mm ee ll => ∃ (i : Nat),keeps ee [3,6,7,8] = some [(3,.int .i64 ((fullN (lens.take i) : Nat) : Int)),(6,.slice (some ⟨vb,vo,none⟩) lens.length vc),(7,.int .i64 ((lens.length : Nat) : Int)),(8,.int .i64 ((i : Nat) : Int))] ∧ ll = [⟨vb,vo,intsV lens ++ vs⟩] ∧ (i ≤ lens.length) ∧ mm = lens.length - i) (_) ⟨0,rfl,rfl,by omega,rfl⟩ ?_
 rintro m0 _ _ ⟨i,hk0,rfl,hi,hm0⟩
 refine Ba _ hk0<|Cr<|Aa (Dk rfl rfl) rfl<|Ek5 3 6 7 8 9 rfl<|Ap<|Be rfl (fun h9 => ?_) (fun h9 => ?_)
 ·have hi2 : i < lens.length := by omega
  have hx := h15 _ (List.getElem_mem hi2)
  have hfl := fullN_le (lens.take i)
  have htl : (lens.take i).length = i := by rw [List.length_take]; omega
  refine Ar<|Eg (M:=fun ee ll => ∃ (n2 : Nat),keeps ee [3,6,7,8] = some [(3,.int .i64 ((n2 : Nat) : Int)),(6,.slice (some ⟨vb,vo,none⟩) lens.length vc),(7,.int .i64 ((lens.length : Nat) : Int)),(8,.int .i64 ((i : Nat) : Int))] ∧ ll = [⟨vb,vo,intsV lens ++ vs⟩] ∧ (n2 = fullN (lens.take (i + 1)))) ?_ ?_
  ·refine Ax<|Cr<|Aa (Bw rfl rfl (by omega) Tu23 Tz3) rfl<|Ah (An 0 (k:=i * 1) rfl rfl (Fx hi2) Ta3) rfl<|Ea rfl rfl<|Ek6 3 5 6 7 8 9 rfl<|Cr<|Em rfl rfl<|Aa (Gg (b:=((0 : Nat) : Int)) rfl rfl) rfl<|Ek7 3 5 6 7 8 9 13 rfl<|Be rfl (fun h13 => ?_) (fun h13 => ?_)
   ·have h2x : 2 ^ (15 - lens[i]) ≤ 2 ^ 15 := Nat.pow_le_pow_right (by omega) (by omega)
    refine Al<|Em rfl rfl<|Em rfl rfl<|Aa (Du (a:=((15 : Nat) : Int)) rfl rfl (N.sub64 (by omega) (by omega))) rfl ?_
    refine Aa (Fk (a:=((1 : Nat) : Int)) rfl rfl (by omega) (N.shl64 (by rw [Nat.one_shiftLeft]; omega))) rfl ?_
    refine Aa (Bh rfl rfl (N.add64 (by rw [Nat.one_shiftLeft]; omega))) rfl ?_
    refine Ea rfl rfl<|Ek7 3 5 6 7 8 9 13 rfl ?_
    exact ⟨_,rfl,rfl,by rw [fullN_take hi2,if_neg (by omega),Nat.one_shiftLeft]⟩
   refine Ar ?_
   exact ⟨_,rfl,rfl,by rw [fullN_take hi2,if_pos (by omega)]; rfl⟩
  rintro _ _ ⟨n2,hq7,rfl,hn2⟩
  refine Ba _ hq7 ?_
  subst hn2
  refine Al<|Aa (Bh (b:=((1 : Nat) : Int)) rfl rfl (N.add64 (by omega))) rfl<|Em rfl rfl<|Ek4 3 6 7 8 rfl ?_
  refine ⟨_,?_,i + 1,rfl,rfl,by omega,rfl⟩; omega
 have hi2 : i = lens.length := by omega
 subst hi2
 refine Bu rfl<|Cr<|Em rfl rfl<|Ea rfl rfl<|Ek6 2 3 6 7 8 9 rfl<|Av ?_
 exact ⟨_,rfl,by rw [List.take_length],rfl⟩
theorem lonely_spec {K : Known} (vb vo vc : Nat) (vs : List Value) (lens : List Nat) (h15 : ∀ x ∈ lens,x ≤ 15) (hlen : lens.length ≤ 320) : Fn Tryz.prog K 68 #[.slice (some ⟨vb,vo,none⟩) lens.length vc] ([⟨vb,vo,intsV lens ++ vs⟩]) (fun r L => (∃ ok,r = .bool ok ∧ (ok = true → lone lens)) ∧ L = [⟨vb,vo,intsV lens ++ vs⟩]) := by
 refine Fn.intro (args:=[.slice (some ⟨vb,vo,none⟩) lens.length vc]) (RR:=Ret1 2 _) Tryz.func68 rfl rfl Tryz.ntmps68 (res1 Tryz.results68) ?_
 refine Bl (env2:=[(0,.slice (some ⟨vb,vo,none⟩) lens.length vc)]) rfl<|Cr<|Ea rfl rfl<|Ek2 0 2 rfl<|Cr<|Ea rfl rfl<|Am (v:=.int .i64 (((lens.take 0).sum : Nat) : Int)) rfl<|Ek3 0 2 3 rfl<|Ap<|Cr<|Em rfl rfl<|Aa (Bk rfl Tu23) rfl ?_
 refine Em rfl rfl<|Ek5 2 3 6 7 8 rfl<|Ax<|Bx (fun mm ee ll => ∃ (i : Nat),keeps ee [3,6,7,8] = some [(3,.int .i64 (((lens.take i).sum : Nat) : Int)),(6,.slice (some ⟨vb,vo,none⟩) lens.length vc),(7,.int .i64 ((lens.length : Nat) : Int)),(8,.int .i64 ((i : Nat) : Int))] ∧ ll = [⟨vb,vo,intsV lens ++ vs⟩] ∧ (i ≤ lens.length) ∧ (∀ x ∈ lens.take i,x ≤ 1) ∧ mm = lens.length - i) (_) ⟨0,rfl,rfl,by omega,(fun x h => by cases h),rfl⟩ ?_
 rintro m0 _ _ ⟨i,hk0,rfl,hi,h1,hm0⟩
 refine Ba _ hk0<|Cr<|Aa (Dk rfl rfl) rfl<|Ek5 3 6 7 8 9 rfl<|Ap<|Be rfl (fun h9 => ?_) (fun h9 => ?_)
 ·have hi2 : i < lens.length := by omega
  have hx := h15 _ (List.getElem_mem hi2)
  have hsl := sum_le (l:=lens.take i) fun x h => h15 x (List.mem_of_mem_take h)
  rw [List.length_take] at hsl
  refine Ar<|Ap<|Ax<|Cr<|Aa (Bw rfl rfl (by omega) Tu23 Tz3) rfl<|Ah (An 0 (k:=i * 1) rfl rfl (Fx hi2) Ta3) rfl<|Ea rfl rfl<|Ek6 3 5 6 7 8 9 rfl<|Ap<|Cr<|Em rfl rfl<|Aa (Gg (b:=((1 : Nat) : Int)) rfl rfl) rfl ?_
  refine Ek7 3 5 6 7 8 9 13 rfl<|Be rfl (fun h13 => ?_) (fun h13 => ?_)
  ·refine Cr<|Ea rfl rfl<|Ek8 2 3 5 6 7 8 9 13 rfl<|Av ?_
   exact ⟨_,rfl,⟨_,rfl,fun h => by cases h⟩,rfl⟩
  refine Ar<|Al<|Em rfl rfl<|Em rfl rfl<|Aa (Bh rfl rfl (N.add64 (by omega))) rfl<|Am (v:=.int .i64 (((lens.take (i + 1)).sum : Nat) : Int)) (by rw [sum_take hi2])<|Ea rfl rfl<|Ek7 3 5 6 7 8 9 13 rfl<|Al<|Aa (Bh (b:=((1 : Nat) : Int)) rfl rfl (N.add64 (by omega))) rfl<|Em rfl rfl<|Ek7 3 5 6 7 8 9 13 rfl ?_
  refine ⟨_,?_,i + 1,rfl,rfl,by omega,(by rw [Ds hi2]; intro x hx2; rcases List.mem_append.1 hx2 with h | h; exact h1 x h; rw [List.mem_singleton.1 h]; omega),rfl⟩; omega
 have hi2 : i = lens.length := by omega
 subst hi2
 rw [List.take_length] at h1
 refine Bu rfl<|Cr<|Em rfl rfl<|Aa (Dx (b:=((1 : Nat) : Int)) rfl rfl) rfl<|Ea rfl rfl<|Ek6 2 3 6 7 8 9 rfl<|Av ?_
 refine ⟨_,rfl,⟨_,rfl,fun h => ⟨h1,?_⟩⟩,rfl⟩
 have h2 := of_decide_eq_true h
 rw [List.take_length] at h2
 omega
def Fi : List UInt8 → Nat
  | [] => 0
  | c::r => c.toNat + 256 * Fi r
theorem littleN_lt : ∀ l : List UInt8,Fi l < 2 ^ (8 * l.length)
  | [] => by simp [Fi]
  | c::r => by
    have h := littleN_lt r
    have hc := c.toNat_lt
    rw [Fi,List.length_cons,show 8 * (r.length + 1) = 8 * r.length + 8 by omega,Nat.pow_add]
    have : (2 : Nat) ^ 8 = 256 := by decide
    rw [this]; omega
theorem littleN_snoc : ∀ (l : List UInt8) (c : UInt8),Fi (l ++ [c]) = Fi l + c.toNat * 2 ^ (8 * l.length)
  | [],c => by simp [Fi]
  | x::r,c => by
    rw [List.cons_append,Fi,littleN_snoc r c,Fi,List.length_cons,show 8 * (r.length + 1) = 8 * r.length + 8 by omega,Nat.pow_add]
    have : (2 : Nat) ^ 8 = 256 := by decide
    rw [this,Nat.mul_add,Nat.add_assoc]
    congr 2
    rw [Nat.mul_left_comm,Nat.mul_comm (2 ^ (8 * r.length)) 256]
theorem little_step {l : List UInt8} {i : Nat} (h : i < l.length) : Fi (l.take i) ||| (l[i].toNat <<< (8 * i)) = Fi (l.take (i + 1)) := by
  have hl : (l.take i).length = i := by rw [List.length_take]; omega
  have hlt := littleN_lt (l.take i)
  rw [hl] at hlt
  rw [Ds h,littleN_snoc,hl,Nat.or_comm,← Nat.shiftLeft_add_eq_or_of_lt hlt,Nat.shiftLeft_eq,Nat.add_comm]
theorem divide_spec {K : Known} (poly c0 : Nat) (hp : poly < 4294967296) (hc0 : c0 < 4294967296) : Fn Tryz.prog K 64 #[.int .u32 ((poly : Nat) : Int),.int .u32 ((c0 : Nat) : Int)] ([]) (fun v L => v = u32 (divN poly 8 c0) ∧ L = []) := by
 refine Fn.intro (args:=[.int .u32 ((poly : Nat) : Int),.int .u32 ((c0 : Nat) : Int)]) (RR:=Ret1 4 _) Tryz.func64 rfl rfl Tryz.ntmps64 (res1 Tryz.results64) ?_
 refine Bl (env2:=[(0,.int .u32 ((poly : Nat) : Int)),(1,.int .u32 ((c0 : Nat) : Int))]) rfl<|Cr<|Ea rfl rfl<|Ek3 0 1 4 rfl<|Ap<|Cr<|Em rfl rfl<|Ek4 0 1 4 5 rfl<|Ax<|Bx (fun mm ee ll => ∃ (j : Nat),∃ (c : Nat),keeps ee [0,1,5] = some [(0,.int .u32 ((poly : Nat) : Int)),(1,.int .u32 ((c : Nat) : Int)),(5,.int .i64 ((j : Nat) : Int))] ∧ ll = [] ∧ (j ≤ 8) ∧ (c = divN poly j c0) ∧ (c < 4294967296) ∧ mm = 8 - j) (_) ⟨0,c0,rfl,rfl,by omega,rfl,hc0,rfl⟩ ?_
 rintro m0 _ _ ⟨j,c,hk0,rfl,hj,hc,hb,hm0⟩
 refine Ba _ hk0<|Cr<|Aa (Dk (b:=((8 : Nat) : Int)) rfl rfl) rfl<|Ek4 0 1 5 6 rfl<|Ap<|Be rfl (fun h6 => ?_) (fun h6 => ?_)
 ·refine Ar<|Ap<|Ax<|Cr<|Em rfl rfl<|Aa (Ei (b:=((1 : Nat) : Int)) rfl rfl (N.and_u32 (by omega) (by omega))) rfl<|Aa (Dx (b:=((1 : Nat) : Int)) rfl rfl) rfl<|Ek5 0 1 5 6 9 rfl<|Be rfl (fun h9 => ?_) (fun h9 => ?_)
  ·have q1 := divN_odd hc h9
   have q2 : c >>> 1 ^^^ poly < 4294967296 := xor32 (by omega) hp
   refine Al<|Em rfl rfl<|Aa (Fj (b:=((1 : Nat) : Int)) rfl rfl (by omega) (N.shr_u32 (by omega) _)) rfl<|Em rfl rfl<|Aa (S.xor rfl rfl (N.xor_u32 (by omega) (by omega))) rfl<|Ea rfl rfl<|Ek5 0 1 5 6 9 rfl<|Al<|Aa (Bh (b:=((1 : Nat) : Int)) rfl rfl (N.add64 (by omega))) rfl<|Em rfl rfl<|Ek5 0 1 5 6 9 rfl ?_
   refine ⟨_,?_,j + 1,_,rfl,rfl,by omega,q1,q2,rfl⟩; omega
  have q1 := divN_even hc h9
  have q2 : c >>> 1 < 4294967296 := by omega
  refine Al<|Em rfl rfl<|Aa (Fj (b:=((1 : Nat) : Int)) rfl rfl (by omega) (N.shr_u32 (by omega) _)) rfl<|Ea rfl rfl<|Ek5 0 1 5 6 9 rfl<|Al<|Aa (Bh (b:=((1 : Nat) : Int)) rfl rfl (N.add64 (by omega))) rfl<|Em rfl rfl<|Ek5 0 1 5 6 9 rfl ?_
  refine ⟨_,?_,j + 1,_,rfl,rfl,by omega,q1,q2,rfl⟩; omega
 have hj8 : j = 8 := by omega
 subst hj8
 subst hc
 refine Bu rfl<|Cr<|Em rfl rfl<|Ea rfl rfl<|Ek5 0 1 4 5 6 rfl<|Av ?_
 exact ⟨_,rfl,rfl,rfl⟩
theorem update_spec {K : Known} (poly sum pb po cap : Nat) (l : List UInt8) (hpoly : poly < 4294967296) (hsum : sum < 4294967296) (hp : KB K pb po l) (hl : l.length ≤ 9223372036854775806) : Fn Tryz.prog K 45 #[.int .u32 ((poly : Nat) : Int),.int .u32 ((sum : Nat) : Int),.slice (some ⟨pb,po,none⟩) (l.length) (cap)] ([]) (fun v L => v = u32 (crcOn poly sum l) ∧ L = []) := by
 refine Fn.intro (args:=[.int .u32 ((poly : Nat) : Int),.int .u32 ((sum : Nat) : Int),.slice (some ⟨pb,po,none⟩) (l.length) (cap)]) (RR:=Ret1 6 _) Tryz.func45 rfl rfl Tryz.ntmps45 (res1 Tryz.results45) ?_
 refine Bl (env2:=[(0,.int .u32 ((poly : Nat) : Int)),(1,.int .u32 ((sum : Nat) : Int)),(2,.slice (some ⟨pb,po,none⟩) (l.length) (cap))]) rfl<|Cr<|Ea rfl rfl<|Ek4 0 1 2 6 rfl<|Cr<|Em rfl rfl<|Aa (S.not32 rfl (by omega)) rfl<|Ea rfl rfl<|Ek4 0 2 6 7 rfl<|Ap<|Cr<|Em rfl rfl ?_
 refine Aa (Bk rfl Tu25) rfl<|Em rfl rfl<|Ek6 0 6 7 12 13 14 rfl<|Ax<|Bx (fun mm ee ll => ∃ (i : Nat),∃ (c : Nat),keeps ee [0,7,12,13,14] = some [(0,.int .u32 ((poly : Nat) : Int)),(7,.int .u32 ((c : Nat) : Int)),(12,.slice (some ⟨pb,po,none⟩) (l.length) (cap)),(13,.int .i64 ((l.length : Nat) : Int)),(14,.int .i64 ((i : Nat) : Int))] ∧ ll = [] ∧ (i ≤ l.length) ∧ (c = (nats (l.take i)).foldl (step poly) (not32 sum)) ∧ (c < 4294967296) ∧ mm = l.length - i) (_) ⟨0,_,rfl,rfl,by omega,rfl,not32_lt hsum,rfl⟩ ?_
 rintro m0 _ _ ⟨i,c,hk0,rfl,hi,hc,hb,hm0⟩
 refine Ba _ hk0<|Cr<|Aa (Dk rfl rfl) rfl<|Ek6 0 7 12 13 14 15 rfl<|Ap<|Be rfl (fun h15 => ?_) (fun h15 => ?_)
 ·have hi2 : i < l.length := by omega
  have hv := l[i].toNat_lt
  have hc2 := (fold_take (poly:=poly) (c0:=not32 sum) hi2).trans (by rw [← hc])
  refine Ar<|Ap<|Ax<|Cr<|Aa (Bw rfl rfl (by omega) Tu25 Tz5) rfl<|Ah (Bd rfl (hp.at hi2) Ta5) rfl<|Ea rfl rfl<|Ek7 0 7 9 12 13 14 15 rfl<|Al<|Em rfl rfl<|Em rfl rfl<|Em rfl rfl ?_
  refine Aa (Bv rfl Tu5 Tu69 (N.in_u32 (by omega))) rfl<|Aa (S.xor rfl rfl (N.xor_u32 (by omega) (by omega))) rfl ?_
  refine Ak (OpX.pick [] (F:=[]) rfl (Au rfl Tryz.call64 (divide_spec poly (c ^^^ l[i].toNat) hpoly (xor32 hb (by omega))))) rfl ?_; rintro _ _ ⟨_,⟨rfl,rfl⟩,rfl⟩; refine Ab (L2:=[]) rfl ?_
  refine Ea rfl rfl<|Ek7 0 7 9 12 13 14 15 rfl<|Al<|Aa (Bh (b:=((1 : Nat) : Int)) rfl rfl (N.add64 (by omega))) rfl<|Em rfl rfl<|Ek7 0 7 9 12 13 14 15 rfl ?_
  refine ⟨_,?_,i + 1,_,rfl,rfl,by omega,hc2.symm,step_lt hpoly hb l[i].toNat_lt,rfl⟩; omega
 have hi2 : i = l.length := by omega
 subst hi2
 rw [fold_take_all] at hc
 refine Bu rfl<|Cr<|Em rfl rfl<|Aa (S.not32 rfl (by omega)) rfl<|Ea rfl rfl<|Ek7 0 6 7 12 13 14 15 rfl<|Av ?_
 exact ⟨_,rfl,by rw [hc]; rfl,rfl⟩
theorem check_spec {K : Known} (pb po cap : Nat) (l : List UInt8) (hp : KB K pb po l) (hl : l.length ≤ 9223372036854775806) : Fn Tryz.prog K 28 #[.slice (some ⟨pb,po,none⟩) (l.length) (cap)] ([]) (fun v L => v = u32 (crcOn IEEE 0 l) ∧ L = []) := by
 refine Fn.intro (args:=[.slice (some ⟨pb,po,none⟩) (l.length) (cap)]) (RR:=Ret1 2 _) Tryz.func28 rfl rfl Tryz.ntmps28 (res1 Tryz.results28) ?_
 refine Bl (env2:=[(0,.slice (some ⟨pb,po,none⟩) (l.length) (cap))]) rfl<|Cr<|Ea rfl rfl<|Ek2 0 2 rfl<|Cr<|Em rfl rfl ?_
 refine Ak (OpX.pick [] (F:=[]) rfl (Au rfl Tryz.call45 (update_spec IEEE 0 pb po cap l (by decide) (by decide) hp hl))) rfl ?_; rintro _ _ ⟨_,⟨rfl,rfl⟩,rfl⟩; refine Ab (L2:=[]) rfl ?_
 refine Ea rfl rfl<|Ek1 2 rfl<|Av ?_
 exact ⟨_,rfl,rfl,rfl⟩
theorem Ep {K : Known} (pb po cap : Nat) (l : List UInt8) (hp : KB K pb po l) (hl : l.length ≤ 4) : Fn Tryz.prog K 31 #[.slice (some ⟨pb,po,none⟩) (l.length) (cap)] ([]) (fun v L => v = .int .i64 ((Fi l : Nat) : Int) ∧ L = []) := by
 refine Fn.intro (args:=[.slice (some ⟨pb,po,none⟩) (l.length) (cap)]) (RR:=Ret1 2 _) Tryz.func31 rfl rfl Tryz.ntmps31 (res1 Tryz.results31) ?_
 refine Bl (env2:=[(0,.slice (some ⟨pb,po,none⟩) (l.length) (cap))]) rfl<|Cr<|Ea rfl rfl<|Ek2 0 2 rfl<|Cr<|Ea rfl rfl<|Ek3 0 2 3 rfl<|Ap<|Cr<|Em rfl rfl<|Aa (Bk rfl Tu25) rfl<|Em rfl rfl ?_
 refine Ek5 0 2 3 6 7 rfl<|Ax<|Bx (fun mm ee ll => ∃ (i : Nat),keeps ee [0,3,6,7] = some [(0,.slice (some ⟨pb,po,none⟩) (l.length) (cap)),(3,.int .i64 ((Fi (l.take i) : Nat) : Int)),(6,.int .i64 ((l.length : Nat) : Int)),(7,.int .i64 ((i : Nat) : Int))] ∧ ll = [] ∧ (i ≤ l.length) ∧ mm = l.length - i) (_) ⟨0,rfl,rfl,by omega,rfl⟩ ?_
 rintro m0 _ _ ⟨i,hk0,rfl,hi,hm0⟩
 refine Ba _ hk0<|Cr<|Aa (Dk rfl rfl) rfl<|Ek5 0 3 6 7 8 rfl<|Ap<|Be rfl (fun h8 => ?_) (fun h8 => ?_)
 ·have hi2 : i < l.length := by omega
  have hv := l[i].toNat_lt
  have hst := little_step hi2
  have hb1 := littleN_lt (l.take i)
  have hb2 : Fi (l.take i) < 9223372036854775808 := by
    have : 2 ^ (8 * (l.take i).length) ≤ 2 ^ 32 := Nat.pow_le_pow_right (by decide) (by rw [List.length_take]; omega)
    omega
  have hb3 : l[i].toNat <<< (8 * i) < 9223372036854775808 := by
    rw [Nat.shiftLeft_eq]
    have h1 : 2 ^ (8 * i) ≤ 2 ^ 24 := Nat.pow_le_pow_right (by decide) (by omega)
    have h2 : l[i].toNat * 2 ^ (8 * i) ≤ 255 * 2 ^ 24 := Nat.mul_le_mul (by omega) h1
    omega
  refine Ar<|Ap<|Ax<|Cr<|Em rfl rfl<|Ea rfl rfl<|Ek6 0 3 4 6 7 8 rfl<|Al<|Em rfl rfl<|Em rfl rfl<|Em rfl rfl<|Aa (Bw rfl rfl (by omega) Tu25 Tz5) rfl ?_
  refine Ah (Bd rfl (hp.at hi2) Ta5) rfl<|Aa (Bv rfl Tu5 Tu2 (N.i64n (by omega))) rfl<|Em rfl rfl<|Aa (S.mul (a:=((8 : Nat) : Int)) rfl rfl (N.mul64 (by omega))) rfl<|Aa (Fk (a:=((l[i].toNat : Nat) : Int)) (b:=((8 * i : Nat) : Int)) rfl rfl (by omega) (N.shl64 hb3)) rfl<|Aa (S.or (b:=((l[i].toNat <<< (8 * i) : Nat) : Int)) rfl rfl (N.or64 hb2 hb3)) rfl<|Am (v:=.int .i64 ((Fi (l.take (i + 1)) : Nat) : Int)) (by rw [hst])<|Ea rfl rfl<|Ek6 0 3 4 6 7 8 rfl<|Al<|Aa (Bh (b:=((1 : Nat) : Int)) rfl rfl (N.add64 (by omega))) rfl<|Em rfl rfl ?_
  refine Ek6 0 3 4 6 7 8 rfl ?_
  refine ⟨_,?_,i + 1,rfl,rfl,by omega,rfl⟩; omega
 have hi2 : i = l.length := by omega
 subst hi2
 refine Bu rfl<|Cr<|Em rfl rfl<|Ea rfl rfl<|Ek6 0 2 3 6 7 8 rfl<|Av ?_
 exact ⟨_,rfl,by rw [List.take_length],rfl⟩
theorem Sl.reads {K : Known} {v : Value} {xs : List UInt8} {Lf : Frags} (h : Sl 1 v xs.length (bytesV xs) Lf) : ∃ a c,v = .slice a xs.length c ∧ (xs = [] ∨ ∃ b o,a = some ⟨b,o,none⟩ ∧ Reads K Lf b o (bytesV xs)) := by
  rcases h.2 with ⟨rfl,h1,rfl⟩ | ⟨b,o,c,cs,rfl,rfl,h1,h2,h3,h4⟩
  · exact ⟨none,0,by rw [h1],.inl (List.eq_nil_of_length_eq_zero h1)⟩
  · rw [Nat.mul_one] at h4
    exact ⟨_,c,rfl,.inr ⟨b,o,rfl,Reads.mem (k:=0) (.head _) (by rw [List.drop_zero,Bp]; exact h4)⟩⟩
section
variable {P : Program} {K : Known} {n : Nat} {env : Env} {L : Frags}
theorem Fw {ops : Array Oper} {l : List Oper} {A F : Frags} {N : Post} (s : Same L (A ++ F)) (h : wpE P K n ops l env A N) : wpE P K n ops l env L N := by
  refine Eb s ?_
  intro a w hf hw Q q
  exact h a w hf hw.drop Q fun e l a' w' h f t => q e l a' w' h f (To.frame hw t).drop
end
theorem arr2 (f : Nat → Value) (u v : Value) : (((Array.range 2).map f).setIfInBounds 0 u).setIfInBounds 1 v = #[u,v] := by
  rw [show Array.range 2 = #[0,1] by decide]; simp
def encB (c : UInt8) : List UInt8 := if c.toNat < 128 then [c] else [UInt8.ofNat (192 + c.toNat / 64),UInt8.ofNat (128 + c.toNat % 64)]
def latinB (l : List UInt8) : List UInt8 := l.flatMap encB
theorem encode_enc (c : UInt8) : Utf8.encode ((c.toNat : Nat) : Int) = ⟨(encB c).toArray⟩ := by
  rw [encode_byte,encB]; split <;> rfl
theorem latinB_go : ∀ (l : List UInt8) (s : ByteArray),(l.map fun c => ((c.toNat : Nat) : Int)).foldl (fun r n => r ++ Utf8.encode n) s = ⟨s.data ++ (latinB l).toArray⟩
  | [],s => by simp [latinB]
  | c::r,s => by
    rw [List.map_cons,List.foldl_cons,encode_enc,latinB_go r _]
    simp [latinB]
theorem latin_eq (l : List UInt8) : latin l = ⟨(latinB l).toArray⟩ := by
  unfold latin runesBytes
  rw [latinB_go l _]; simp
theorem latinB_snoc {l : List UInt8} {i : Nat} (h : i < l.length) : latinB (l.take (i + 1)) = latinB (l.take i) ++ encB l[i] := by
  unfold latinB
  rw [Ds h,List.flatMap_append]; simp
theorem encB_length (c : UInt8) : (encB c).length ≤ 2 := by unfold encB; split <;> simp
theorem latinB_length : ∀ l : List UInt8,(latinB l).length ≤ 2 * l.length
  | [] => by simp [latinB]
  | c::r => by
    have := latinB_length r
    have h2 := encB_length c
    unfold latinB at this ⊢
    rw [List.flatMap_cons,List.length_append,List.length_cons]; omega
theorem enc_small {c : UInt8} (h : ((c.toNat : Nat) : Int) < ((128 : Nat) : Int)) : encB c = [c] := by rw [encB,if_pos (by omega)]
theorem enc_big {c : UInt8} (h : ¬ ((c.toNat : Nat) : Int) < ((128 : Nat) : Int)) : ∃ x y : UInt8,encB c = [x,y] ∧ x.toNat = 192 ||| (c.toNat >>> 6) ∧ y.toNat = 128 ||| (c.toNat &&& 63) := by
  have hc := c.toNat_lt
  refine ⟨_,_,by rw [encB,if_neg (by omega)],?_,?_⟩
  · have h1 := Nat.shiftLeft_add_eq_or_of_lt (b:=c.toNat >>> 6) (i:=6) (by omega) 3
    rw [show (192 : Nat) = 3 <<< 6 by decide,← h1,UInt8.toNat_ofNat']
    rw [Nat.shiftRight_eq_div_pow]; omega
  · have h2 : c.toNat &&& 63 = c.toNat % 64 := by rw [show (63 : Nat) = 2 ^ 6 - 1 from rfl,Nat.and_two_pow_sub_one_eq_mod]
    have h1 := Nat.shiftLeft_add_eq_or_of_lt (b:=c.toNat % 64) (i:=6) (by omega) 2
    rw [h2,show (128 : Nat) = 2 <<< 6 by decide,← h1,UInt8.toNat_ofNat']; omega
theorem latin_spec {K : Known} (pb po cap : Nat) (l : List UInt8) (hp : KB K pb po l) (hl : l.length ≤ 35184372088832) : Fn Tryz.prog K 46 #[.slice (some ⟨pb,po,none⟩) (l.length) (cap)] ([]) (fun v _ => v = .string (latin l)) := by
 refine Fn.intro (args:=[.slice (some ⟨pb,po,none⟩) (l.length) (cap)]) (RR:=Ret1 2 _) Tryz.func46 rfl rfl Tryz.ntmps46 (res1 Tryz.results46) ?_
 refine Bl (env2:=[(0,.slice (some ⟨pb,po,none⟩) (l.length) (cap))]) rfl<|Cr<|Ea rfl rfl<|Ek2 0 2 rfl<|Cr<|Ea rfl rfl<|Ek3 0 2 3 rfl<|Ap<|Cr<|Em rfl rfl<|Aa (Bk rfl Tu25) rfl<|Em rfl rfl ?_
 refine Ek5 2 3 6 7 8 rfl<|Ax<|Bx (fun mm ee ll => ∃ (i : Nat),∃ (v : Value),∃ (Lf : Frags),keeps ee [3,6,7,8] = some [(3,v),(6,.slice (some ⟨pb,po,none⟩) (l.length) (cap)),(7,.int .i64 ((l.length : Nat) : Int)),(8,.int .i64 ((i : Nat) : Int))] ∧ ll = Lf ∧ (i ≤ l.length) ∧ (Sl 1 v (latinB (l.take i)).length (bytesV (latinB (l.take i))) Lf) ∧ mm = l.length - i) (_) ⟨0,_,[],rfl,rfl,by omega,Sl.nil 1,rfl⟩ ?_
 rintro m0 _ Lf ⟨i,v,_,hk0,rfl,hi,hsl,hm0⟩
 refine Ba _ hk0<|Cr<|Aa (Dk rfl rfl) rfl<|Ek5 3 6 7 8 9 rfl<|Ap<|Be rfl (fun h9 => ?_) (fun h9 => ?_)
 ·have hi2 : i < l.length := by omega
  have hv := l[i].toNat_lt
  have hlb := latinB_length (l.take i)
  rw [List.length_take] at hlb
  refine Ar<|Ap<|Ax<|Cr<|Aa (Bw rfl rfl (by omega) Tu25 Tz5) rfl<|Ah (Bd rfl (hp.at hi2) Ta5) rfl<|Ea rfl rfl<|Ek6 3 5 6 7 8 9 rfl<|Cr<|Em rfl rfl<|Aa (Dk (b:=((128 : Nat) : Int)) rfl rfl) rfl<|Ek7 3 5 6 7 8 9 13 rfl ?_
  refine Be rfl (fun h13 => ?_) (fun h13 => ?_)
  ·have he := enc_small h13
   refine Al<|Em rfl rfl<|Em rfl rfl ?_
   refine Ak (Dd (vs:=[u8 l[i]]) (e:=5) [(0,u8 l[i])] rfl (fun w => by simp [Instr.buildSlice,Instr.fill,Value.cells,newRow,Tryz.runUnderlying25,Tryz.typeInfo5]; rw [arr1])) rfl ?_
   rintro _ _ ⟨yb,rfl,rfl⟩
   refine Eb (Same.perm (List.perm_append_singleton _ Lf).symm) ?_
   refine Ak (Gv (L:=[⟨yb,0,_⟩]) (xs:=latinB (l.take i)) (ys:=[l[i]]) (Lf:=Lf) rfl rfl hsl rfl (.inr ⟨yb,0,rfl,Reads.mem (k:=0) (List.mem_append_right _ (.head _)) rfl⟩) (by simp only [List.length_cons,List.length_nil]; omega)) rfl ?_
   rintro v2 _ ⟨Lf2,hsl2,rfl⟩
   refine Fw (Same.refl _) ?_
   rw [← he,← latinB_snoc hi2] at hsl2
   refine Ea rfl rfl<|Ek7 3 5 6 7 8 9 13 rfl<|Al<|Aa (Bh (b:=((1 : Nat) : Int)) rfl rfl (N.add64 (by omega))) rfl<|Em rfl rfl<|Ek7 3 5 6 7 8 9 13 rfl ?_
   refine ⟨_,?_,i + 1,v2,Lf2,rfl,rfl,by omega,hsl2,rfl⟩; omega
  obtain ⟨ex,ey,he,hex,hey⟩ := enc_big h13
  have h63 : l[i].toNat &&& 63 < 256 := Nat.lt_of_le_of_lt Nat.and_le_left hv
  have hxy : (([.int .u8 ((192 ||| (l[i].toNat >>> 6) : Nat) : Int),.int .u8 ((128 ||| (l[i].toNat &&& 63) : Nat) : Int)] : List Value).drop 0).take (bytesV [ex,ey]).length = bytesV [ex,ey] := by
    rw [← hex,← hey]; rfl
  refine Al<|Em rfl rfl<|Em rfl rfl<|Aa (Fj (b:=((6 : Nat) : Int)) rfl rfl (by omega) (N.shr_u8 (by omega) _)) rfl<|Aa (S.or (a:=((192 : Nat) : Int)) rfl rfl (N.or_u8 (by omega) (by omega))) rfl<|Em rfl rfl<|Aa (Ei (b:=((63 : Nat) : Int)) rfl rfl (N.and_u8 (by omega) (by omega))) rfl<|Aa (S.or (a:=((128 : Nat) : Int)) rfl rfl (N.or_u8 (by omega) (by omega))) rfl ?_
  refine Ak (Dd (vs:=[.int .u8 ((192 ||| (l[i].toNat >>> 6) : Nat) : Int),.int .u8 ((128 ||| (l[i].toNat &&& 63) : Nat) : Int)]) (e:=5) [(0,.int .u8 ((192 ||| (l[i].toNat >>> 6) : Nat) : Int)),(1,.int .u8 ((128 ||| (l[i].toNat &&& 63) : Nat) : Int))] rfl (fun w => by simp [Instr.buildSlice,Instr.fill,Value.cells,newRow,Tryz.runUnderlying25,Tryz.typeInfo5]; rw [arr2])) rfl ?_
  rintro _ _ ⟨yb,rfl,rfl⟩
  refine Eb (Same.perm (List.perm_append_singleton _ Lf).symm) ?_
  refine Ak (Gv (L:=[⟨yb,0,_⟩]) (xs:=latinB (l.take i)) (ys:=[ex,ey]) (Lf:=Lf) rfl rfl hsl rfl (.inr ⟨yb,0,rfl,Reads.mem (k:=0) (List.mem_append_right _ (.head _)) hxy⟩) (by simp only [List.length_cons,List.length_nil]; omega)) rfl ?_
  rintro v2 _ ⟨Lf2,hsl2,rfl⟩
  refine Fw (Same.refl _) ?_
  rw [← he,← latinB_snoc hi2] at hsl2
  refine Ea rfl rfl<|Ek7 3 5 6 7 8 9 13 rfl<|Al<|Aa (Bh (b:=((1 : Nat) : Int)) rfl rfl (N.add64 (by omega))) rfl<|Em rfl rfl<|Ek7 3 5 6 7 8 9 13 rfl ?_
  refine ⟨_,?_,i + 1,v2,Lf2,rfl,rfl,by omega,hsl2,rfl⟩; omega
 have hi2 : i = l.length := by omega
 subst hi2
 rw [List.take_length] at hsl
 obtain ⟨va,vc,rfl,hrd⟩ := hsl.reads (K:=K)
 refine Bu rfl<|Cr<|Em rfl rfl<|Ah (S.bytesStr (l:=latinB l) Tu25 Tu5 Tu9 rfl hrd) rfl<|Ea rfl rfl<|Ek6 2 3 6 7 8 9 rfl<|Av ?_
 exact ⟨_,rfl,by rw [latin_eq]⟩
theorem cellsI_zero (n : Nat) : List.replicate n (Value.int .i64 0) = cellsI n (fun _ => 0) := by
  symm; unfold cellsI
  rw [List.eq_replicate_iff]
  refine ⟨by simp,fun v hv => ?_⟩
  obtain ⟨a,_,rfl⟩ := List.mem_map.1 hv
  rfl
theorem cnt17 {l : List Nat} {i : Nat} (h : i < l.length) (h0 : l[i] ≠ 0) : (cellsI 17 (cntL (l.take i))).set (l[i] * 1) (.int .i64 ((cntL (l.take i) l[i] + 1 : Nat) : Int)) = cellsI 17 (cntL (l.take (i + 1))) :=
  Gm (by rw [Ds h,cntL_snoc,if_pos ⟨h0,rfl⟩]) fun o _ hne => by rw [Ds h,cntL_snoc,if_neg (fun h => hne h.2.symm)]; rfl
def nextG (lens : List Nat) (l o : Nat) : Nat := if o ≤ l then firstC lens o else 0
theorem nextG_start (lens : List Nat) : cellsI 17 (fun _ => 0) = cellsI 17 (nextG lens 1) := Hk fun o _ => by
  unfold nextG
  split
  · rename_i h
    rcases (show o = 0 ∨ o = 1 by omega) with rfl | rfl
    · rfl
    · simp [firstC,cntL]
  · rfl
theorem nextG_at (lens : List Nat) (l : Nat) : nextG lens l l = firstC lens l := if_pos (Nat.le_refl _)
theorem nextG_set {lens : List Nat} {l : Nat} : (cellsI 17 (nextG lens l)).set ((l + 1) * 1) (.int .i64 (((nextG lens l l + cntL lens l) <<< 1 : Nat) : Int)) = cellsI 17 (nextG lens (l + 1)) :=
  Gm (by rw [nextG_at,nextG_at,Nat.shiftLeft_eq]; show 2 * (firstC lens l + cntL lens l) = _; omega) fun o _ hne => by
    unfold nextG
    by_cases h1 : o ≤ l
    · rw [if_pos h1,if_pos (by omega)]
    · rw [if_neg h1,if_neg (by omega)]
def nextH (lens : List Nat) (k o : Nat) : Nat := if o = 0 then 0 else firstC lens o + (lens.take k).count o
theorem nextH_start (lens : List Nat) : cellsI 17 (nextG lens 16) = cellsI 17 (nextH lens 0) := Hk fun o ho => by
  unfold nextG nextH
  rw [if_pos (by omega)]
  split
  · rename_i h; subst h; rfl
  · simp
theorem nextH_zero {lens : List Nat} {k : Nat} (h : k < lens.length) (h0 : lens[k] = 0) : nextH lens (k + 1) = nextH lens k := by
  funext o
  unfold nextH
  split
  · rfl
  · rw [Ds h,h0,List.count_append,List.count_cons_of_ne (by omega)]; simp
theorem nextH_at {lens : List Nat} {k : Nat} (h : k < lens.length) (h0 : lens[k] ≠ 0) : nextH lens k lens[k] = codeOf lens k := by
  unfold nextH; rw [if_neg h0,codeOf,Di h]
theorem nextH_more {lens : List Nat} {k : Nat} (h : k < lens.length) (h0 : lens[k] ≠ 0) : (cellsI 17 (nextH lens k)).set (lens[k] * 1) (.int .i64 ((nextH lens k lens[k] + 1 : Nat) : Int)) = cellsI 17 (nextH lens (k + 1)) :=
  Gm (by unfold nextH; rw [if_neg h0,if_neg h0,Ds h,List.count_append,List.count_cons_self]; simp; omega) fun o _ hne => by
    unfold nextH
    split
    · rfl
    · rw [Ds h,List.count_append,List.count_cons_of_ne (fun e => hne e.symm)]; simp
def codesF (lens : List Nat) (k o : Nat) : Nat := if o < k ∧ 0 < lenOf lens o then codeOf lens o else 0
theorem codesF_start (lens : List Nat) : cellsI lens.length (fun _ => 0) = cellsI lens.length (codesF lens 0) := Hk fun o _ => by unfold codesF; rw [if_neg (by omega)]
theorem codesF_zero {lens : List Nat} {k : Nat} (h : k < lens.length) (h0 : lens[k] = 0) : codesF lens (k + 1) = codesF lens k := by
  funext o
  unfold codesF
  by_cases h1 : o < k ∧ 0 < lenOf lens o
  · rw [if_pos h1,if_pos ⟨by omega,h1.2⟩]
  · rw [if_neg h1,if_neg]
    rintro ⟨h2,h3⟩
    rcases Nat.lt_succ_iff_lt_or_eq.1 h2 with h4 | h4
    · exact h1 ⟨h4,h3⟩
    · subst h4; rw [Di h,h0] at h3; omega
theorem codesF_more {lens : List Nat} {k : Nat} (h : k < lens.length) (h0 : lens[k] ≠ 0) : (cellsI lens.length (codesF lens k)).set (k * 1) (.int .i64 ((nextH lens k lens[k] : Nat) : Int)) = cellsI lens.length (codesF lens (k + 1)) :=
  Gm (by rw [nextH_at h h0,codesF,if_pos ⟨by omega,by rw [Di h]; omega⟩]) fun o _ hne => by
    unfold codesF
    by_cases h1 : o < k ∧ 0 < lenOf lens o
    · rw [if_pos h1,if_pos ⟨by omega,h1.2⟩]
    · rw [if_neg h1,if_neg (fun h2 => h1 ⟨by omega,h2.2⟩)]
theorem codesF_at {lens : List Nat} {k : Nat} (h : 0 < lenOf lens k) : codesF lens lens.length k = codeOf lens k := by unfold codesF; rw [if_pos ⟨Es h,h⟩]
set_option maxHeartbeats 1000000
theorem codes_walk {K : Known} (vb vo vc : Nat) (vs : List Value) (lens : List Nat) (h15 : ∀ x ∈ lens,x ≤ 15) (hlen : lens.length ≤ 320) : Fn Tryz.prog K 59 #[.slice (some ⟨vb,vo,none⟩) lens.length vc] ([⟨vb,vo,intsV lens ++ vs⟩]) (fun r L => ∃ L2 J,Same L (L2 ++ J) ∧ ∃ ob,r = .slice (some ⟨ob,0,none⟩) lens.length lens.length ∧ L2 = [⟨ob,0,cellsI lens.length (codesF lens lens.length)⟩,⟨vb,vo,intsV lens ++ vs⟩]) := by
 refine Fn.intro (args:=[.slice (some ⟨vb,vo,none⟩) lens.length vc]) (RR:=Ret1 2 _) Tryz.func59 rfl rfl Tryz.ntmps59 (res1 Tryz.results59) ?_
 refine Bl (env2:=[(0,.slice (some ⟨vb,vo,none⟩) lens.length vc)]) rfl<|Cr<|Ea rfl rfl<|Ek2 0 2 rfl<|Cr ?_
 refine Ak (Dy Tryz.zeroValue165) rfl ?_; rintro _ _ ⟨b3,rfl,rfl⟩; refine Ab (L2:=[_,_]) rfl ?_
 refine Ak (Dy Tryz.zeroValue165) rfl ?_; rintro _ _ ⟨b4,rfl,rfl⟩; refine Ab (L2:=[_,_,_]) rfl ?_
 refine Ab (L2:=[⟨b4,0,cellsI 17 (fun _ => 0)⟩,⟨b3,0,cellsI 17 (fun _ => 0)⟩,⟨vb,vo,intsV lens ++ vs⟩]) (rfl)<|Ek4 0 2 3 4 rfl<|Ap<|Cr<|Em rfl rfl<|Aa (Bk rfl Tu23) rfl<|Em rfl rfl<|Ek7 0 2 3 4 11 12 13 rfl<|Ax ?_
 have hcz : cellsI 17 (cntL (lens.take 0)) = cellsI 17 (fun _ => 0) := Hk fun o _ => by simp [cntL]
 rw [← hcz]
 refine Bx (fun mm ee ll => ∃ (i : Nat),keeps ee [0,3,4,11,12,13] = some [(0,.slice (some ⟨vb,vo,none⟩) lens.length vc),(3,.pointer (some ⟨b3,0,none⟩)),(4,.pointer (some ⟨b4,0,none⟩)),(11,.slice (some ⟨vb,vo,none⟩) lens.length vc),(12,.int .i64 ((lens.length : Nat) : Int)),(13,.int .i64 ((i : Nat) : Int))] ∧ ll = [⟨b4,0,cellsI 17 (fun _ => 0)⟩,⟨b3,0,cellsI 17 (cntL (lens.take i))⟩,⟨vb,vo,intsV lens ++ vs⟩] ∧ (i ≤ lens.length) ∧ mm = lens.length - i) (_) ⟨0,rfl,rfl,by omega,rfl⟩ ?_
 rintro m0 _ _ ⟨i,hk0,rfl,hi,hm0⟩
 refine Ba _ hk0<|Cr<|Aa (Dk rfl rfl) rfl<|Ek7 0 3 4 11 12 13 14 rfl<|Ap<|Be rfl (fun h14 => ?_) (fun h14 => ?_)
 ·have hi2 : i < lens.length := by omega
  have hx := h15 _ (List.getElem_mem hi2)
  have hcl := cntL_le (lens.take i) lens[i]
  rw [List.length_take] at hcl
  refine Ar<|Eg (M:=fun ee ll => keeps ee [0,3,4,11,12,13] = some [(0,.slice (some ⟨vb,vo,none⟩) lens.length vc),(3,.pointer (some ⟨b3,0,none⟩)),(4,.pointer (some ⟨b4,0,none⟩)),(11,.slice (some ⟨vb,vo,none⟩) lens.length vc),(12,.int .i64 ((lens.length : Nat) : Int)),(13,.int .i64 ((i : Nat) : Int))] ∧ ll = [⟨b4,0,cellsI 17 (fun _ => 0)⟩,⟨b3,0,cellsI 17 (cntL (lens.take (i + 1)))⟩,⟨vb,vo,intsV lens ++ vs⟩]) ?_ ?_
  ·refine Ax<|Cr<|Aa (Bw rfl rfl (by omega) Tu23 Tz3) rfl<|Ah (An 2 (k:=i * 1) rfl rfl (Fx hi2) Ta3) rfl<|Ea rfl rfl<|Ek8 0 3 4 6 11 12 13 14 rfl<|Cr<|Em rfl rfl<|Aa (Gg (b:=((0 : Nat) : Int)) rfl rfl) rfl<|Ek9 0 3 4 6 11 12 13 14 18 rfl<|Be rfl (fun h18 => ?_) (fun h18 => ?_)
   ·refine Al<|Em rfl rfl<|Aa (Bm rfl rfl (by omega) Tu165 Tz3) rfl<|Ah (An 1 (k:=lens[i] * 1) rfl rfl (Dv (by omega)) Ta3) rfl<|Aa (Bh (b:=((1 : Nat) : Int)) rfl rfl (N.add64 (by omega))) rfl<|Aa (Bm rfl rfl (by omega) Tu165 Tz3) rfl ?_
    refine Ao (Aq 1 (k:=lens[i] * 1) rfl rfl rfl rfl (by rw [Nat.blt_eq,Dj]; omega) Tz3) ?_
    rintro _ _ ⟨rfl,rfl⟩
    refine Ab (L2:=[⟨b4,0,cellsI 17 (fun _ => 0)⟩,⟨b3,0,cellsI 17 (cntL (lens.take (i + 1)))⟩,⟨vb,vo,intsV lens ++ vs⟩]) (congrArg (fun q => ([⟨b4,0,cellsI 17 (fun _ => 0)⟩,(⟨b3,0,q⟩ : Frag),⟨vb,vo,intsV lens ++ vs⟩] : Frags)) (cnt17 hi2 (by omega)))<|Ek9 0 3 4 6 11 12 13 14 18 rfl ?_
    exact ⟨rfl,rfl⟩
   refine Ar ?_
   exact ⟨rfl,by rw [cntL_zero hi2 (by omega)]⟩
  rintro _ _ ⟨hq7,rfl⟩
  refine Ba _ hq7<|Al<|Aa (Bh (b:=((1 : Nat) : Int)) rfl rfl (N.add64 (by omega))) rfl<|Em rfl rfl<|Ek6 0 3 4 11 12 13 rfl ?_
  refine ⟨_,?_,i + 1,rfl,rfl,by omega,rfl⟩; omega
 have hi2 : i = lens.length := by omega
 subst hi2
 rw [List.take_length]
 refine Bu rfl<|Ap<|Cr<|Ea rfl rfl<|Ek8 0 3 4 7 11 12 13 14 rfl<|Ax ?_
 rw [nextG_start lens]
 refine Bx (fun mm ee ll => ∃ (l : Nat),keeps ee [0,3,4,7] = some [(0,.slice (some ⟨vb,vo,none⟩) lens.length vc),(3,.pointer (some ⟨b3,0,none⟩)),(4,.pointer (some ⟨b4,0,none⟩)),(7,.int .i64 ((l : Nat) : Int))] ∧ ll = [⟨b4,0,cellsI 17 (nextG lens l)⟩,⟨b3,0,cellsI 17 (cntL lens)⟩,⟨vb,vo,intsV lens ++ vs⟩] ∧ (1 ≤ l) ∧ (l ≤ 16) ∧ mm = 16 - l) (_) ⟨1,rfl,rfl,by omega,by omega,rfl⟩ ?_
 rintro m1 _ _ ⟨l,hk1,rfl,hl1,hl16,hm1⟩
 refine Ba _ hk1<|Ap<|Cr<|Em rfl rfl<|Aa (S.le (b:=((15 : Nat) : Int)) rfl rfl) rfl<|Ek5 0 3 4 7 26 rfl<|Be rfl (fun h26 => ?_) (fun h26 => ?_)
 ·have hl15 : l ≤ 15 := by omega
  have hfl := first_le hlen hl15
  have hng := nextG_at lens l
  refine Ar<|Ap<|Ax<|Br [0,1,0,4,8,0,32,64,144,256,1023,2047] (.pure 0 1020 (.pure 1 1021 (.pure 2 227 (.pure 3 231 (.pure 5 31 (.pure 6 63 (.seg [(4,239),(7,127),(8,255),(9,511),(10,1023)] (.alt 11 .done .stop)))))))) mixed (by decide +kernel)<|Dm rfl rfl rfl<|Ai rfl (Bh (b:=((1 : Nat) : Int)) rfl rfl (N.add64 (by omega))) rfl<|Dm rfl rfl rfl<|Ai rfl (Bm rfl rfl (by omega) Tu165 Tz3) rfl<|Dm rfl rfl rfl<|Ai rfl (Bm rfl rfl (by omega) Tu165 Tz3) rfl<|Dc (by decide)<|Az rfl (An 0 (k:=l * 1) rfl rfl (Dv (by omega)) Ta3) rfl ?_
  refine Az rfl (An 1 (k:=l * 1) rfl rfl (Dv (by omega)) Ta3) rfl<|Bg rfl (Bh rfl rfl (N.add64 (by omega))) rfl ?_
  refine Bg rfl (Fk (b:=((1 : Nat) : Int)) rfl rfl (by omega) (N.shl64 (by rw [Nat.shiftLeft_eq]; omega))) rfl ?_
  refine Bg rfl (Bm rfl rfl (by omega) Tu165 Tz3) rfl<|Db<|Da ?_
  refine Bz rfl (Aq 0 (k:=(l + 1) * 1) rfl rfl rfl rfl (by rw [Nat.blt_eq,Dj]; omega) Tz3) ?_
  rintro _ _ ⟨rfl,rfl⟩
  refine Bf (L2:=[⟨b4,0,cellsI 17 (nextG lens (l + 1))⟩,⟨b3,0,cellsI 17 (cntL lens)⟩,⟨vb,vo,intsV lens ++ vs⟩]) (congrArg (fun q => ([(⟨b4,0,q⟩ : Frag),⟨b3,0,cellsI 17 (cntL lens)⟩,⟨vb,vo,intsV lens ++ vs⟩] : Frags)) (nextG_set))<|Dk5 0 3 4 7 26 rfl<|Al<|Em rfl rfl<|Aa (Bh (b:=((1 : Nat) : Int)) rfl rfl (N.add64 (by omega))) rfl<|Ea rfl rfl<|Ek5 0 3 4 7 26 rfl ?_
  refine ⟨_,?_,l + 1,rfl,rfl,by omega,by omega,rfl⟩; omega
 have hl16b : l = 16 := by omega
 subst hl16b
 refine Bu rfl<|Cr<|Em rfl rfl<|Aa (Bk rfl Tu23) rfl ?_
 refine Ak (X.make (l:=lens.length) (c:=lens.length) (bytes:=8) Tu23 infoI (z:=.int .i64 0) rfl rfl rfl rfl rfl rfl (Nat.le_refl _) (by omega) (by omega)) rfl ?_; rintro _ _ ⟨ob,rfl,rfl⟩; refine Ab (L2:=[_,_,_,_]) rfl ?_
 refine Ab (L2:=[⟨ob,0,cellsI lens.length (fun _ => 0)⟩,_,_,_]) (by rw [cellsI_zero])<|Ea rfl rfl<|Ek6 0 3 4 7 8 26 rfl<|Ap<|Cr<|Em rfl rfl<|Aa (Bk rfl Tu23) rfl<|Em rfl rfl<|Ek9 0 3 4 7 8 26 43 44 45 rfl<|Ax ?_
 rw [codesF_start lens,nextH_start lens]
 refine Bx (fun mm ee ll => ∃ (k : Nat),keeps ee [4,8,43,44,45] = some [(4,.pointer (some ⟨b4,0,none⟩)),(8,.slice (some ⟨ob,0,none⟩) lens.length lens.length),(43,.slice (some ⟨vb,vo,none⟩) lens.length vc),(44,.int .i64 ((lens.length : Nat) : Int)),(45,.int .i64 ((k : Nat) : Int))] ∧ ll = [⟨ob,0,cellsI lens.length (codesF lens k)⟩,⟨b4,0,cellsI 17 (nextH lens k)⟩,⟨b3,0,cellsI 17 (cntL lens)⟩,⟨vb,vo,intsV lens ++ vs⟩] ∧ (k ≤ lens.length) ∧ mm = lens.length - k) (_) ⟨0,rfl,rfl,by omega,rfl⟩ ?_
 rintro m2 _ _ ⟨k,hk2,rfl,hk,hm2⟩
 refine Ba _ hk2<|Cr<|Aa (Dk rfl rfl) rfl<|Ek6 4 8 43 44 45 46 rfl<|Ap<|Be rfl (fun h46 => ?_) (fun h46 => ?_)
 ·have hk2 : k < lens.length := by omega
  have hx := h15 _ (List.getElem_mem hk2)
  have hfl := first_le hlen hx
  have hcl : (lens.take k).count lens[k] ≤ k := Nat.le_trans List.count_le_length (by rw [List.length_take]; omega)
  have hnh : nextH lens k lens[k] ≤ firstC lens lens[k] + k := by unfold nextH; split <;> omega
  refine Ar<|Eg (M:=fun ee ll => keeps ee [4,8,43,44,45] = some [(4,.pointer (some ⟨b4,0,none⟩)),(8,.slice (some ⟨ob,0,none⟩) lens.length lens.length),(43,.slice (some ⟨vb,vo,none⟩) lens.length vc),(44,.int .i64 ((lens.length : Nat) : Int)),(45,.int .i64 ((k : Nat) : Int))] ∧ ll = [⟨ob,0,cellsI lens.length (codesF lens (k + 1))⟩,⟨b4,0,cellsI 17 (nextH lens (k + 1))⟩,⟨b3,0,cellsI 17 (cntL lens)⟩,⟨vb,vo,intsV lens ++ vs⟩]) ?_ ?_
  ·refine Ax<|Cr<|Em rfl rfl<|Aa (Bw rfl rfl (by omega) Tu23 Tz3) rfl<|Ah (An 3 (k:=k * 1) rfl rfl (Fx hk2) Ta3) rfl<|Ea rfl rfl<|Ea rfl rfl<|Ek8 4 8 9 10 43 44 45 46 rfl<|Cr<|Em rfl rfl<|Aa (Gg (b:=((0 : Nat) : Int)) rfl rfl) rfl<|Ek9 4 8 9 10 43 44 45 46 51 rfl ?_
   refine Be rfl (fun h51 => ?_) (fun h51 => ?_)
   ·refine Cr<|Em rfl rfl<|Em rfl rfl<|Em rfl rfl<|Aa (Bm rfl rfl (by omega) Tu165 Tz3) rfl<|Ah (An 1 (k:=lens[k] * 1) rfl rfl (Dv (by omega)) Ta3) rfl<|Aa (Bw rfl rfl (by omega) Tu23 Tz3) rfl ?_
    refine Ao (Aq 0 (k:=k * 1) rfl rfl rfl rfl (by rw [Nat.blt_eq,Dj]; omega) Tz3) ?_
    rintro _ _ ⟨rfl,rfl⟩
    refine Ab (L2:=[⟨ob,0,cellsI lens.length (codesF lens (k + 1))⟩,⟨b4,0,cellsI 17 (nextH lens k)⟩,⟨b3,0,cellsI 17 (cntL lens)⟩,⟨vb,vo,intsV lens ++ vs⟩]) (congrArg (fun q => ([(⟨ob,0,q⟩ : Frag),⟨b4,0,cellsI 17 (nextH lens k)⟩,⟨b3,0,cellsI 17 (cntL lens)⟩,⟨vb,vo,intsV lens ++ vs⟩] : Frags)) (codesF_more hk2 (by omega)))<|Ek9 4 8 9 10 43 44 45 46 51 rfl<|Al<|Em rfl rfl<|Aa (Bm rfl rfl (by omega) Tu165 Tz3) rfl<|Ah (An 1 (k:=lens[k] * 1) rfl rfl (Dv (by omega)) Ta3) rfl<|Aa (Bh (b:=((1 : Nat) : Int)) rfl rfl (N.add64 (by omega))) rfl<|Aa (Bm rfl rfl (by omega) Tu165 Tz3) rfl ?_
    refine Ao (Aq 1 (k:=lens[k] * 1) rfl rfl rfl rfl (by rw [Nat.blt_eq,Dj]; omega) Tz3) ?_
    rintro _ _ ⟨rfl,rfl⟩
    refine Ab (L2:=[⟨ob,0,cellsI lens.length (codesF lens (k + 1))⟩,⟨b4,0,cellsI 17 (nextH lens (k + 1))⟩,⟨b3,0,cellsI 17 (cntL lens)⟩,⟨vb,vo,intsV lens ++ vs⟩]) (congrArg (fun q => ([⟨ob,0,cellsI lens.length (codesF lens (k + 1))⟩,(⟨b4,0,q⟩ : Frag),⟨b3,0,cellsI 17 (cntL lens)⟩,⟨vb,vo,intsV lens ++ vs⟩] : Frags)) (nextH_more hk2 (by omega)))<|Ek9 4 8 9 10 43 44 45 46 51 rfl ?_
    exact ⟨rfl,rfl⟩
   refine Ar ?_
   exact ⟨rfl,by rw [codesF_zero hk2 (by omega),nextH_zero hk2 (by omega)]⟩
  rintro _ _ ⟨hq19,rfl⟩
  refine Ba _ hq19<|Al<|Aa (Bh (b:=((1 : Nat) : Int)) rfl rfl (N.add64 (by omega))) rfl<|Em rfl rfl<|Ek5 4 8 43 44 45 rfl ?_
  refine ⟨_,?_,k + 1,rfl,rfl,by omega,rfl⟩; omega
 have hk2 : k = lens.length := by omega
 subst hk2
 refine Bu rfl<|Cr<|Em rfl rfl<|Ea rfl rfl<|Ek7 2 4 8 43 44 45 46 rfl<|Av ?_
 exact ⟨_,rfl,_,[_,_],Same.perm (Bj (A:=[_,_]) (F:=[_,_]) (is:=[0,2]) rfl),_,rfl,rfl⟩
theorem codes_spec {K : Known} (vb vo vc : Nat) (vs : List Value) (lens : List Nat) (h15 : ∀ x ∈ lens,x ≤ 15) (hlen : lens.length ≤ 320) : Fn Tryz.prog K 59 #[.slice (some ⟨vb,vo,none⟩) lens.length vc] [⟨vb,vo,intsV lens ++ vs⟩] fun r L => ∃ ob,r = .slice (some ⟨ob,0,none⟩) lens.length lens.length ∧ L = [⟨ob,0,cellsI lens.length (codesF lens lens.length)⟩,⟨vb,vo,intsV lens ++ vs⟩] := by
  refine Fn.lose (codes_walk vb vo vc vs lens h15 hlen) ?_
  rintro r L ⟨L2,J,hS,h⟩
  exact ⟨L2,J,hS,h⟩
theorem tree_bound {lens : List Nat} {k : Nat} {f : Nat → Nat} (h : TreeP lens k f) (x : Nat) : f x ≤ k := by
  by_cases h0 : f x = 0
  · omega
  · obtain ⟨s,h1,_,_,h2⟩ := h.only x h0
    omega
theorem tree_ix {l c : Nat} (h : c < 2 ^ l) : 1 <<< l ||| c = 2 ^ l + c := by rw [← Nat.shiftLeft_add_eq_or_of_lt h,Nat.one_shiftLeft]
theorem tree_room {lens : List Nat} {k : Nat} (hf : FitL lens (maxL lens)) (h : 0 < lenOf lens k) : 2 ^ lenOf lens k + codeOf lens k < 2 ^ (maxL lens + 1) := by
  have h1 := Ef hf h
  have h2 : (2 : Nat) ^ (lenOf lens k + 1) ≤ 2 ^ (maxL lens + 1) := Nat.pow_le_pow_right (by omega) (by have := Fm lens k; omega)
  rw [Nat.pow_succ] at h2
  omega
theorem tree_set {n i v : Nat} {f : Nat → Nat} : (cellsI n f).set (i * 1) (.int .i64 ((v : Nat) : Int)) = cellsI n (fun x => if x = i then v else f x) := Gm (by rw [if_pos rfl]) fun o _ hne => by rw [if_neg hne]
theorem tree_walk {K : Known} (vb vo vc : Nat) (vs : List Value) (lens : List Nat) (h15 : ∀ x ∈ lens,x ≤ 15) (hlen : lens.length ≤ 320) (hok : okLens lens) : Fn Tryz.prog K 66 #[.slice (some ⟨vb,vo,none⟩) lens.length vc] ([⟨vb,vo,intsV lens ++ vs⟩]) (fun r L => ∃ L2 J,Same L (L2 ++ J) ∧ ∃ tb f,r = .slice (some ⟨tb,0,none⟩) (2 ^ (maxL lens + 1)) (2 ^ (maxL lens + 1)) ∧ TreeP lens lens.length f ∧ (∀ x,f x ≤ 320) ∧ L2 = [⟨tb,0,cellsI (2 ^ (maxL lens + 1)) f⟩,⟨vb,vo,intsV lens ++ vs⟩]) := by
 refine Fn.intro (args:=[.slice (some ⟨vb,vo,none⟩) lens.length vc]) (RR:=Ret1 2 _) Tryz.func66 rfl rfl Tryz.ntmps66 (res1 Tryz.results66) ?_
 refine Bl (env2:=[(0,.slice (some ⟨vb,vo,none⟩) lens.length vc)]) rfl<|Cr<|Ea rfl rfl<|Ek2 0 2 rfl<|Cr<|Ea rfl rfl<|Am (v:=.int .i64 ((maxL (lens.take 0) : Nat) : Int)) rfl<|Ek3 0 2 3 rfl<|Ap<|Cr<|Em rfl rfl<|Aa (Bk rfl Tu23) rfl ?_
 refine Em rfl rfl<|Ek6 0 2 3 9 10 11 rfl<|Ax<|Bx (fun mm ee ll => ∃ (i : Nat),keeps ee [0,3,9,10,11] = some [(0,.slice (some ⟨vb,vo,none⟩) lens.length vc),(3,.int .i64 ((maxL (lens.take i) : Nat) : Int)),(9,.slice (some ⟨vb,vo,none⟩) lens.length vc),(10,.int .i64 ((lens.length : Nat) : Int)),(11,.int .i64 ((i : Nat) : Int))] ∧ ll = [⟨vb,vo,intsV lens ++ vs⟩] ∧ (i ≤ lens.length) ∧ mm = lens.length - i) (_) ⟨0,rfl,rfl,by omega,rfl⟩ ?_
 rintro m0 _ _ ⟨i,hk0,rfl,hi,hm0⟩
 refine Ba _ hk0<|Cr<|Aa (Dk rfl rfl) rfl<|Ek6 0 3 9 10 11 12 rfl<|Ap<|Be rfl (fun h12 => ?_) (fun h12 => ?_)
 ·have hi2 : i < lens.length := by omega
  have hx := h15 _ (List.getElem_mem hi2)
  refine Ar<|Ap<|Ax<|Cr<|Aa (Bw rfl rfl (by omega) Tu23 Tz3) rfl<|Ah (An 0 (k:=i * 1) rfl rfl (Fx hi2) Ta3) rfl<|Ea rfl rfl<|Ek7 0 3 5 9 10 11 12 rfl<|Al<|Em rfl rfl<|Em rfl rfl<|Aa (S.max2 rfl rfl) rfl ?_
  refine Am (v:=.int .i64 ((maxL (lens.take (i + 1)) : Nat) : Int)) (congrArg (Value.int .i64) (by rw [Hw hi2]; omega)) ?_
  refine Ea rfl rfl<|Ek7 0 3 5 9 10 11 12 rfl<|Al<|Aa (Bh (b:=((1 : Nat) : Int)) rfl rfl (N.add64 (by omega))) rfl<|Em rfl rfl<|Ek7 0 3 5 9 10 11 12 rfl ?_
  refine ⟨_,?_,i + 1,rfl,rfl,by omega,rfl⟩; omega
 have hi2 : i = lens.length := by omega
 subst hi2
 rw [List.take_length]
 have hm15 := maxL_le h15
 have h2m : 2 ^ (maxL lens + 1) ≤ 2 ^ 16 := Nat.pow_le_pow_right (by omega) (by omega)
 have h2M : 2 <<< maxL lens = 2 ^ (maxL lens + 1) := by rw [Nat.shiftLeft_eq,Nat.pow_succ,Nat.mul_comm]
 have hfit := fit_of_ok hok
 refine Bu rfl<|Cr<|Em rfl rfl<|Aa (Fk (a:=((2 : Nat) : Int)) rfl rfl (by omega) (N.shl64 (by omega))) rfl<|Am (v:=.int .i64 ((2 ^ (maxL lens + 1) : Nat) : Int)) (by rw [h2M]) ?_
 refine Ak (X.make (l:=2 ^ (maxL lens + 1)) (c:=2 ^ (maxL lens + 1)) (bytes:=8) Tu23 infoI (z:=.int .i64 0) rfl rfl rfl rfl rfl rfl (Nat.le_refl _) (by omega) (by omega)) rfl ?_; rintro _ _ ⟨tb,rfl,rfl⟩; refine Ab (L2:=[_,_]) rfl ?_
 refine Ab (L2:=[⟨tb,0,cellsI (2 ^ (maxL lens + 1)) (fun _ => 0)⟩,_]) (by rw [cellsI_zero])<|Ea rfl rfl<|Ek7 0 3 6 9 10 11 12 rfl<|Ap<|Cr<|Em rfl rfl ?_
 refine Ak (OpX.pick [1] (F:=[_]) rfl (Au rfl Tryz.call59 (codes_spec vb vo vc vs lens h15 hlen))) rfl ?_; rintro _ _ ⟨_,⟨ob,rfl,rfl⟩,rfl⟩; refine Ab (L2:=[_,_,_]) rfl ?_
 refine Bt [0,1,0] rfl<|Ab (L2:=[_,_,_]) rfl<|Aa (Bk rfl Tu23) rfl<|Em rfl rfl<|Ek10 0 3 6 9 10 11 12 23 24 25 rfl<|Ax<|Bx (fun mm ee ll => ∃ (k : Nat),∃ (f : Nat → Nat),keeps ee [0,6,23,24,25] = some [(0,.slice (some ⟨vb,vo,none⟩) lens.length vc),(6,.slice (some ⟨tb,0,none⟩) (2 ^ (maxL lens + 1)) (2 ^ (maxL lens + 1))),(23,.slice (some ⟨ob,0,none⟩) lens.length lens.length),(24,.int .i64 ((lens.length : Nat) : Int)),(25,.int .i64 ((k : Nat) : Int))] ∧ ll = [⟨ob,0,cellsI lens.length (codesF lens lens.length)⟩,⟨tb,0,cellsI (2 ^ (maxL lens + 1)) f⟩,⟨vb,vo,intsV lens ++ vs⟩] ∧ (k ≤ lens.length) ∧ (TreeP lens k f) ∧ mm = lens.length - k) (_) ⟨0,fun _ => 0,rfl,rfl,by omega,TreeP.zero,rfl⟩ ?_
 rintro m1 _ _ ⟨k,f,hk1,rfl,hk,hT,hm1⟩
 refine Ba _ hk1<|Cr<|Aa (Dk rfl rfl) rfl<|Ek6 0 6 23 24 25 26 rfl<|Ap<|Be rfl (fun h26 => ?_) (fun h26 => ?_)
 ·have hk2 : k < lens.length := by omega
  have hx := h15 _ (List.getElem_mem hk2)
  have hle := Di hk2
  refine Ar<|Eg (M:=fun ee ll => ∃ (f2 : Nat → Nat),keeps ee [0,6,23,24,25] = some [(0,.slice (some ⟨vb,vo,none⟩) lens.length vc),(6,.slice (some ⟨tb,0,none⟩) (2 ^ (maxL lens + 1)) (2 ^ (maxL lens + 1))),(23,.slice (some ⟨ob,0,none⟩) lens.length lens.length),(24,.int .i64 ((lens.length : Nat) : Int)),(25,.int .i64 ((k : Nat) : Int))] ∧ ll = [⟨ob,0,cellsI lens.length (codesF lens lens.length)⟩,⟨tb,0,cellsI (2 ^ (maxL lens + 1)) f2⟩,⟨vb,vo,intsV lens ++ vs⟩] ∧ (TreeP lens (k + 1) f2)) ?_ ?_
  ·refine Ax<|Cr<|Em rfl rfl<|Aa (Bw rfl rfl (by omega) Tu23 Tz3) rfl<|Ah (An 0 (k:=k * 1) rfl rfl (Dv hk2) Ta3) rfl<|Ea rfl rfl<|Ea rfl rfl<|Ek8 0 6 7 8 23 24 25 26 rfl<|Cr<|Em rfl rfl<|Em rfl rfl<|Aa (Bw rfl rfl (by omega) Tu23 Tz3) rfl ?_
   refine Ah (An 2 (k:=k * 1) rfl rfl (Fx hk2) Ta3) rfl<|Aa (Gg (b:=((0 : Nat) : Int)) rfl rfl) rfl<|Ek9 0 6 7 8 23 24 25 26 34 rfl<|Be rfl (fun h34 => ?_) (fun h34 => ?_)
   ·have hrm := tree_room (k:=k) hfit (by omega)
    have hcb := Ef (i:=k) hfit (by omega)
    have h2k : 2 ^ lens[k] ≤ 2 ^ 15 := Nat.pow_le_pow_right (by omega) (by omega)
    have h2k2 : 2 ^ lenOf lens k ≤ 2 ^ 15 := Nat.pow_le_pow_right (by omega) (by omega)
    refine Al<|Em rfl rfl<|Em rfl rfl<|Em rfl rfl<|Aa (Bw rfl rfl (by omega) Tu23 Tz3) rfl<|Ah (An 2 (k:=k * 1) rfl rfl (Fx hk2) Ta3) rfl ?_
    refine Aa (Fk (a:=((1 : Nat) : Int)) rfl rfl (by omega) (N.shl64 (by rw [Nat.one_shiftLeft]; omega))) rfl ?_
    refine Em rfl rfl ?_
    refine Aa (S.or rfl rfl (N.or64 (by rw [Nat.one_shiftLeft]; omega) (by rw [codesF_at (by omega)]; omega))) rfl ?_
    refine Am (v:=.int .i64 (((2 ^ lenOf lens k + codeOf lens k) : Nat) : Int)) (by rw [codesF_at (by omega),← hle,tree_ix (Ef hfit (by omega))])<|Em rfl rfl<|Aa (Bh (b:=((1 : Nat) : Int)) rfl rfl (N.add64 (by omega))) rfl<|Aa (Bw rfl rfl (by omega) Tu23 Tz3) rfl ?_
    refine Ao (Aq 1 (k:=(2 ^ lenOf lens k + codeOf lens k) * 1) rfl rfl rfl rfl (by rw [Nat.blt_eq,Dj]; omega) Tz3) ?_
    rintro _ _ ⟨rfl,rfl⟩
    refine Ab (L2:=[⟨ob,0,cellsI lens.length (codesF lens lens.length)⟩,⟨tb,0,cellsI (2 ^ (maxL lens + 1)) (fun x => if x = (2 ^ lenOf lens k + codeOf lens k) then k + 1 else f x)⟩,⟨vb,vo,intsV lens ++ vs⟩]) (congrArg (fun q => ([⟨ob,0,cellsI lens.length (codesF lens lens.length)⟩,(⟨tb,0,q⟩ : Frag),⟨vb,vo,intsV lens ++ vs⟩] : Frags)) (tree_set))<|Ek9 0 6 7 8 23 24 25 26 34 rfl ?_
    exact ⟨(fun x => if x = (2 ^ lenOf lens k + codeOf lens k) then k + 1 else f x),rfl,rfl,hT.next hfit (by omega)⟩
   refine Ar ?_
   exact ⟨f,rfl,rfl,hT.skip (by omega)⟩
  rintro _ _ ⟨f2,hq13,rfl,hT2⟩
  refine Ba _ hq13<|Al<|Aa (Bh (b:=((1 : Nat) : Int)) rfl rfl (N.add64 (by omega))) rfl<|Em rfl rfl<|Ek5 0 6 23 24 25 rfl ?_
  refine ⟨_,?_,k + 1,_,rfl,rfl,by omega,hT2,rfl⟩; omega
 have hk2 : k = lens.length := by omega
 subst hk2
 refine Bu rfl<|Cr<|Em rfl rfl<|Ea rfl rfl<|Ek7 0 2 6 23 24 25 26 rfl<|Av ?_
 exact ⟨_,rfl,_,[_],Same.perm (Bj (A:=[_,_]) (F:=[_]) (is:=[1,1]) rfl),_,_,rfl,hT,fun x => Nat.le_trans (tree_bound hT x) hlen,rfl⟩
theorem tree_spec {K : Known} (vb vo vc : Nat) (vs : List Value) (lens : List Nat) (h15 : ∀ x ∈ lens,x ≤ 15) (hlen : lens.length ≤ 320) (hok : okLens lens) : Fn Tryz.prog K 66 #[.slice (some ⟨vb,vo,none⟩) lens.length vc] [⟨vb,vo,intsV lens ++ vs⟩] fun r L => ∃ tb f,r = .slice (some ⟨tb,0,none⟩) (2 ^ (maxL lens + 1)) (2 ^ (maxL lens + 1)) ∧ TreeP lens lens.length f ∧ (∀ x,f x ≤ 320) ∧ L = [⟨tb,0,cellsI (2 ^ (maxL lens + 1)) f⟩,⟨vb,vo,intsV lens ++ vs⟩] := by
  refine Fn.lose (tree_walk vb vo vc vs lens h15 hlen hok) ?_
  rintro r L ⟨L2,J,hS,h⟩
  exact ⟨L2,J,hS,h⟩
theorem one_intsV (l : List Nat) : (intsV l).all one = true := by
  rw [List.all_eq_true]; intro v hv
  obtain ⟨o,_,rfl⟩ := List.mem_map.1 hv; rfl
theorem intsV_append (a b : List Nat) : intsV (a ++ b) = intsV a ++ intsV b := by simp [intsV]
theorem app_perm {Lf F0 : Frags} {y : Frag} : (Lf ++ (y::F0)).Perm ((F0 ++ Lf) ++ [y]) := by
  refine List.perm_middle.trans ?_
  refine (List.Perm.cons y List.perm_append_comm).trans ?_
  exact (List.perm_append_singleton y _).symm
section
variable {K : Known} {n : Nat} {env : Env} {L : Frags} {ty : TypeId}
theorem Gu {x y : Operand} {v : Value} {k yc : Nat} {ya : Option Addr} {xs ys : List Nat} {Lf : Frags}
    (hx : ev? env x = some v) (hy : ev? env y = some (.slice ya k yc)) (hsl : Sl 1 v xs.length (intsV xs) Lf) (hk : k = ys.length)
    (hread : ys = [] ∨ ∃ yb yo,ya = some ⟨yb,yo,none⟩ ∧ Reads K (Lf ++ L) yb yo (intsV ys)) (hb : xs.length + ys.length ≤ 1099511627776) :
    OpX Tryz.prog K n (.call { callee := .builtin .append,args := #[x,y],argTypes := #[23,23] }) ty env (Lf ++ L) fun v' L' =>
      ∃ Lf',Sl 1 v' (xs ++ ys).length (intsV (xs ++ ys)) Lf' ∧ L' = Lf' ++ L := by
  subst hk
  have h := X.append (P:=Tryz.prog) (n:=n) (ty:=ty) (L:=L) (s:=1) (bytes:=8) (t:=23) Tu23 infoI (z:=.int .i64 0) rfl rfl rfl rfl (by decide) hx hy hsl (by rw [Dh,Nat.mul_one])
    (hread.imp (fun e => by rw [e]; rfl) id) (one_intsV ys) (by omega) (by omega)
  refine OpX.mono h fun v' L' => ?_
  rintro ⟨Lf',h1,h2⟩
  exact ⟨Lf',by rw [List.length_append,intsV_append]; exact h1,h2⟩
end
theorem Sl.ints {v : Value} {xs : List Nat} {Lf : Frags} (h : Sl 1 v xs.length (intsV xs) Lf) (hm : 0 < xs.length) : ∃ b o c cs,v = .slice (some ⟨b,o,none⟩) xs.length c ∧ Lf = [⟨b,o,intsV xs ++ cs⟩] ∧ xs.length ≤ c ∧ c ≤ 9223372036854775807 := by
  obtain ⟨b,o,c,cs,rfl,rfl,h1,h2,h3,h4⟩ := h.one hm
  rw [Nat.mul_one] at h4
  exact ⟨b,o,c,cs.drop xs.length,rfl,by rw [← h4,List.take_append_drop],h2,h3⟩
theorem snoc_of {l : List Nat} {i x : Nat} (h : l[i]? = some x) : l.take (i + 1) = l.take i ++ [x] := by rw [List.take_add_one,h]; rfl
theorem fix_at : ∀ i,i < 288 → fixLit[i]? = some (if i < 144 then 8 else if i < 256 then 9 else if i < 280 then 7 else 8) := by decide +kernel
theorem fixd_at : ∀ i,i < 32 → Gh[i]? = some 5 := by decide
theorem fixed_spec {K : Known} : Fn Tryz.prog K 42 #[] ([]) (fun r L => ∃ lb lo lc ls db do_ dc ds,r = .tuple #[.slice (some ⟨lb,lo,none⟩) fixLit.length lc,.slice (some ⟨db,do_,none⟩) Gh.length dc] ∧ L = [⟨lb,lo,intsV fixLit ++ ls⟩,⟨db,do_,intsV Gh ++ ds⟩]) := by
 refine Fn.intro (args:=[]) (RR:=Ret2 0 1 _) Tryz.func42 rfl rfl Tryz.ntmps42 (res2 Tryz.results42) ?_
 refine Bl (env2:=[]) rfl<|Cr<|Ea rfl rfl<|Ea rfl rfl<|Ek2 0 1 rfl<|Ap<|Cr<|Em rfl rfl<|Ek3 0 1 3 rfl<|Ax<|Bx (fun mm ee ll => ∃ (i : Nat),∃ (v : Value),∃ (Lf : Frags),keeps ee [0,1,3] = some [(0,v),(1,.slice none 0 0),(3,.int .i64 ((i : Nat) : Int))] ∧ ll = Lf ∧ (i ≤ 288) ∧ (Sl 1 v (fixLit.take i).length (intsV (fixLit.take i)) Lf) ∧ mm = 288 - i) (_) ⟨0,_,[],rfl,rfl,by omega,Sl.nil 1,rfl⟩ ?_
 rintro m0 _ Lf ⟨i,v,_,hk0,rfl,hi,hsl,hm0⟩
 refine Ba _ hk0<|Cr<|Aa (Dk (b:=((288 : Nat) : Int)) rfl rfl) rfl<|Ek4 0 1 3 4 rfl<|Ap<|Be rfl (fun h4 => ?_) (fun h4 => ?_)
 ·have hi2 : i < 288 := by omega
  refine Ar<|Eg (M:=fun ee ll => ∃ (v2 : Value),∃ (Lf2 : Frags),keeps ee [0,1,3] = some [(0,v2),(1,.slice none 0 0),(3,.int .i64 ((i : Nat) : Int))] ∧ ll = Lf2 ∧ (Sl 1 v2 (fixLit.take (i + 1)).length (intsV (fixLit.take (i + 1))) Lf2)) ?_ ?_
  ·refine Ax<|Cr<|Em rfl rfl<|Ea rfl rfl<|Ek5 0 1 2 3 4 rfl<|Ax<|Cr<|Em rfl rfl<|Aa (Dk (b:=((144 : Nat) : Int)) rfl rfl) rfl<|Ea rfl rfl<|Ek6 0 1 2 3 4 9 rfl<|Be rfl (fun h9 => ?_) (fun h9 => ?_)
   ·refine Al<|Em rfl rfl ?_
    refine Ak (Dd (vs:=[.int .i64 ((8 : Nat) : Int)]) (e:=3) [(0,.int .i64 ((8 : Nat) : Int))] rfl (fun w => by simp [Instr.buildSlice,Instr.fill,Value.cells,newRow,Tryz.runUnderlying23,Tryz.typeInfo3]; rw [arr1])) rfl ?_
    rintro _ _ ⟨yb,rfl,rfl⟩
    refine Ab (L2:=[⟨yb,0,_⟩] ++ Lf) rfl<|Eb (Same.perm List.perm_append_comm) ?_
    refine Ak (Gu (L:=[⟨yb,0,_⟩]) (xs:=fixLit.take i) (ys:=[8]) (Lf:=Lf) rfl rfl hsl rfl (.inr ⟨yb,0,rfl,Reads.mem (k:=0) (List.mem_append_right _ (.head _)) rfl⟩) (by simp only [List.length_take,List.length_cons,List.length_nil]; omega)) rfl ?_
    rintro v2 _ ⟨Lf2,hsl2,rfl⟩
    refine Fw (A:=[] ++ Lf2) (F:=[_]) (Same.perm app_perm)<|Ab (L2:=Lf2) rfl ?_
    rw [← snoc_of (x:=8) (by rw [fix_at i hi2]; first | rw [if_pos (by omega)] | rw [if_neg (by omega),if_pos (by omega)] | rw [if_neg (by omega),if_neg (by omega),if_pos (by omega)] | rw [if_neg (by omega),if_neg (by omega),if_neg (by omega)])] at hsl2
    refine Ea rfl rfl<|Ek6 0 1 2 3 4 9 rfl ?_
    exact ⟨_,_,rfl,rfl,hsl2⟩
   refine Cr<|Em rfl rfl<|Aa (Dk (b:=((256 : Nat) : Int)) rfl rfl) rfl<|Ea rfl rfl<|Ek7 0 1 2 3 4 9 15 rfl<|Be rfl (fun h15 => ?_) (fun h15 => ?_)
   ·refine Al<|Em rfl rfl ?_
    refine Ak (Dd (vs:=[.int .i64 ((9 : Nat) : Int)]) (e:=3) [(0,.int .i64 ((9 : Nat) : Int))] rfl (fun w => by simp [Instr.buildSlice,Instr.fill,Value.cells,newRow,Tryz.runUnderlying23,Tryz.typeInfo3]; rw [arr1])) rfl ?_
    rintro _ _ ⟨yb,rfl,rfl⟩
    refine Ab (L2:=[⟨yb,0,_⟩] ++ Lf) rfl<|Eb (Same.perm List.perm_append_comm) ?_
    refine Ak (Gu (L:=[⟨yb,0,_⟩]) (xs:=fixLit.take i) (ys:=[9]) (Lf:=Lf) rfl rfl hsl rfl (.inr ⟨yb,0,rfl,Reads.mem (k:=0) (List.mem_append_right _ (.head _)) rfl⟩) (by simp only [List.length_take,List.length_cons,List.length_nil]; omega)) rfl ?_
    rintro v2 _ ⟨Lf2,hsl2,rfl⟩
    refine Fw (A:=[] ++ Lf2) (F:=[_]) (Same.perm app_perm)<|Ab (L2:=Lf2) rfl ?_
    rw [← snoc_of (x:=9) (by rw [fix_at i hi2]; first | rw [if_pos (by omega)] | rw [if_neg (by omega),if_pos (by omega)] | rw [if_neg (by omega),if_neg (by omega),if_pos (by omega)] | rw [if_neg (by omega),if_neg (by omega),if_neg (by omega)])] at hsl2
    refine Ea rfl rfl<|Ek7 0 1 2 3 4 9 15 rfl ?_
    exact ⟨_,_,rfl,rfl,hsl2⟩
   refine Cr<|Em rfl rfl<|Aa (Dk (b:=((280 : Nat) : Int)) rfl rfl) rfl<|Ea rfl rfl<|Ek8 0 1 2 3 4 9 15 21 rfl<|Be rfl (fun h21 => ?_) (fun h21 => ?_)
   ·refine Al<|Em rfl rfl ?_
    refine Ak (Dd (vs:=[.int .i64 ((7 : Nat) : Int)]) (e:=3) [(0,.int .i64 ((7 : Nat) : Int))] rfl (fun w => by simp [Instr.buildSlice,Instr.fill,Value.cells,newRow,Tryz.runUnderlying23,Tryz.typeInfo3]; rw [arr1])) rfl ?_
    rintro _ _ ⟨yb,rfl,rfl⟩
    refine Ab (L2:=[⟨yb,0,_⟩] ++ Lf) rfl<|Eb (Same.perm List.perm_append_comm) ?_
    refine Ak (Gu (L:=[⟨yb,0,_⟩]) (xs:=fixLit.take i) (ys:=[7]) (Lf:=Lf) rfl rfl hsl rfl (.inr ⟨yb,0,rfl,Reads.mem (k:=0) (List.mem_append_right _ (.head _)) rfl⟩) (by simp only [List.length_take,List.length_cons,List.length_nil]; omega)) rfl ?_
    rintro v2 _ ⟨Lf2,hsl2,rfl⟩
    refine Fw (A:=[] ++ Lf2) (F:=[_]) (Same.perm app_perm)<|Ab (L2:=Lf2) rfl ?_
    rw [← snoc_of (x:=7) (by rw [fix_at i hi2]; first | rw [if_pos (by omega)] | rw [if_neg (by omega),if_pos (by omega)] | rw [if_neg (by omega),if_neg (by omega),if_pos (by omega)] | rw [if_neg (by omega),if_neg (by omega),if_neg (by omega)])] at hsl2
    refine Ea rfl rfl<|Ek8 0 1 2 3 4 9 15 21 rfl ?_
    exact ⟨_,_,rfl,rfl,hsl2⟩
   refine Al<|Em rfl rfl ?_
   refine Ak (Dd (vs:=[.int .i64 ((8 : Nat) : Int)]) (e:=3) [(0,.int .i64 ((8 : Nat) : Int))] rfl (fun w => by simp [Instr.buildSlice,Instr.fill,Value.cells,newRow,Tryz.runUnderlying23,Tryz.typeInfo3]; rw [arr1])) rfl ?_
   rintro _ _ ⟨yb,rfl,rfl⟩
   refine Ab (L2:=[⟨yb,0,_⟩] ++ Lf) rfl<|Eb (Same.perm List.perm_append_comm) ?_
   refine Ak (Gu (L:=[⟨yb,0,_⟩]) (xs:=fixLit.take i) (ys:=[8]) (Lf:=Lf) rfl rfl hsl rfl (.inr ⟨yb,0,rfl,Reads.mem (k:=0) (List.mem_append_right _ (.head _)) rfl⟩) (by simp only [List.length_take,List.length_cons,List.length_nil]; omega)) rfl ?_
   rintro v2 _ ⟨Lf2,hsl2,rfl⟩
   refine Fw (A:=[] ++ Lf2) (F:=[_]) (Same.perm app_perm)<|Ab (L2:=Lf2) rfl ?_
   rw [← snoc_of (x:=8) (by rw [fix_at i hi2]; first | rw [if_pos (by omega)] | rw [if_neg (by omega),if_pos (by omega)] | rw [if_neg (by omega),if_neg (by omega),if_pos (by omega)] | rw [if_neg (by omega),if_neg (by omega),if_neg (by omega)])] at hsl2
   refine Ea rfl rfl<|Ek8 0 1 2 3 4 9 15 21 rfl ?_
   exact ⟨_,_,rfl,rfl,hsl2⟩
  rintro _ Lf2 ⟨v2,_,hq11,rfl,hsl2⟩
  refine Ba _ hq11<|Al<|Aa (Bh (b:=((1 : Nat) : Int)) rfl rfl (N.add64 (by omega))) rfl<|Em rfl rfl<|Ek3 0 1 3 rfl ?_
  refine ⟨_,?_,i + 1,_,_,rfl,rfl,by omega,hsl2,rfl⟩; omega
 have hi2 : i = 288 := by omega
 subst hi2
 rw [show fixLit.take 288 = fixLit from rfl] at hsl
 obtain ⟨lb,lo,lc,ls,rfl,rfl,hlc,hlc2⟩ := hsl.ints (by decide)
 refine Bq (L2:=[⟨lb,lo,intsV fixLit ++ ls⟩]) rfl<|Bu rfl<|Ap<|Cr<|Em rfl rfl<|Ek5 0 1 3 4 28 rfl<|Ax<|Bx (fun mm ee ll => ∃ (j : Nat),∃ (v : Value),∃ (Lf : Frags),keeps ee [0,1,28] = some [(0,.slice (some ⟨lb,lo,none⟩) fixLit.length lc),(1,v),(28,.int .i64 ((j : Nat) : Int))] ∧ ll = [⟨lb,lo,intsV fixLit ++ ls⟩] ++ Lf ∧ (j ≤ 32) ∧ (Sl 1 v (Gh.take j).length (intsV (Gh.take j)) Lf) ∧ mm = 32 - j) (_) ⟨0,_,[],rfl,rfl,by omega,Sl.nil 1,rfl⟩ ?_
 rintro m1 _ _ ⟨j,v,Lf,hk1,rfl,hj,hsl,hm1⟩
 refine Ba _ hk1<|Cr<|Aa (Dk (b:=((32 : Nat) : Int)) rfl rfl) rfl<|Ek4 0 1 28 29 rfl<|Ap<|Be rfl (fun h29 => ?_) (fun h29 => ?_)
 ·have hj2 : j < 32 := by omega
  refine Ar<|Ap<|Ax<|Al<|Em rfl rfl ?_
  refine Ak (Dd (vs:=[.int .i64 ((5 : Nat) : Int)]) (e:=3) [(0,.int .i64 ((5 : Nat) : Int))] rfl (fun w => by simp [Instr.buildSlice,Instr.fill,Value.cells,newRow,Tryz.runUnderlying23,Tryz.typeInfo3]; rw [arr1])) rfl ?_
  rintro _ _ ⟨yb,rfl,rfl⟩
  refine Ab (L2:=[⟨yb,0,_⟩,_] ++ Lf) rfl<|Eb (Same.perm List.perm_append_comm) ?_
  refine Ak (Gu (L:=[⟨yb,0,_⟩,_]) (xs:=Gh.take j) (ys:=[5]) (Lf:=Lf) rfl rfl hsl rfl (.inr ⟨yb,0,rfl,Reads.mem (k:=0) (List.mem_append_right _ (.head _)) rfl⟩) (by simp only [List.length_take,List.length_cons,List.length_nil]; omega)) rfl ?_
  rintro v2 _ ⟨Lf2,hsl2,rfl⟩
  refine Fw (A:=[_] ++ Lf2) (F:=[_]) (Same.perm app_perm)<|Ab (L2:=_::Lf2) rfl ?_
  rw [← snoc_of (fixd_at j hj2)] at hsl2
  refine Ea rfl rfl<|Ek4 0 1 28 29 rfl<|Al<|Aa (Bh (b:=((1 : Nat) : Int)) rfl rfl (N.add64 (by omega))) rfl<|Em rfl rfl<|Ek4 0 1 28 29 rfl ?_
  refine ⟨_,?_,j + 1,_,_,rfl,rfl,by omega,hsl2,rfl⟩; omega
 have hj2 : j = 32 := by omega
 subst hj2
 rw [show Gh.take 32 = Gh from rfl] at hsl
 obtain ⟨db,do_,dc,ds,rfl,rfl,hdc,hdc2⟩ := hsl.ints (by decide)
 refine Bu rfl<|Cr<|Em rfl rfl<|Em rfl rfl<|Ea rfl rfl<|Ea rfl rfl<|Ek4 0 1 28 29 rfl<|Av ?_
 exact ⟨_,_,rfl,rfl,lb,lo,lc,ls,db,do_,dc,ds,rfl,rfl⟩
end Go.Eng
