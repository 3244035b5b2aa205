/-
  Texts of this proof, merged: Zip, WSp1, WSp2, Sp, WSp3, Frame, ReadA, Made, WMk1, WMk2, Gz, Step, WFlA, WFlD, WGh, WGi.
-/
import Derived.Test.YtbjbmpcgiokdaaaGreatDoorFr3
import Derived.Test.YtbjbmpcgiokdaaaGreatDoorFr2
import Derived.Test.YtbjbmpcgiokdaaaGreatDoorRows
import Derived.WalkKit
import Derived.ProofKit
import Derived.LaidLaws
import Derived.ChangeSlices
import Derived.Deep.DeepHandedRow
import Derived.OpenShut
import Derived.Deep.Slices
import Derived.Test.YtbjbmpcgiokdaaaGreatDoorFr1
import Derived.Test.YtbjbmpcgiokdaaaGreatDoorFr4
set_option linter.unusedVariables false
set_option linter.unusedSimpArgs false
namespace Go.Eng
open Go Go.Proofs
set_option maxRecDepth 100000
def zip10 (rd dec:Value):List Value:=[.string ⟨#[]⟩,.slice none 0 0,.int .u64 0,.int .i64 0,.string ⟨#[]⟩,.int .u8 0,rd,dec,.int .u32 0,.int .u32 0]
def buf0:List Value:=List.replicate 512 (.int .u8 0)
def zipEnd (e:Value) (ms:Bool):List Value:=[e,.bool ms]
theorem He:buf0.length=512:=List.length_replicate
theorem zipZero:(Value.agg Tryz.zeroCells99).cells=(zip10 .nilIface .nilIface ++ (buf0 ++ zipEnd .nilIface false)).toArray:=by kernel_rfl
theorem zipSize:(Value.agg Tryz.zeroCells99).cells.size=524:=by kernel_rfl
theorem zipSet (dec:Value):((Value.agg Tryz.zeroCells99).cells.setIfInBounds 7 dec).setIfInBounds 523 (.bool true)=(zip10 .nilIface dec ++ (buf0 ++ zipEnd .nilIface true)).toArray:=by
  rw [zipZero]
  apply Array.ext'
  simp only [Array.toList_setIfInBounds]
  have h1:(zip10 .nilIface .nilIface).set 7 dec=zip10 .nilIface dec:=rfl
  have h2:(zip10 .nilIface dec).length=10:=rfl
  have h3:(zip10 .nilIface .nilIface).length=10:=rfl
  rw [List.set_append_left _ _ (by rw [h3]; decide),h1,List.set_append_right _ _ (by rw [h2]; decide),List.set_append_right _ _ (by rw [h2,He]; decide),h2,He]
  rfl
theorem zipBuild (dec:Value) (h:one dec=true) (w:World):(Instr.build 99 [(2,dec),(7,.bool true)].toArray).run Tryz.prog w=.ok (.agg (zip10 .nilIface dec ++ (buf0 ++ zipEnd .nilIface true)).toArray) w:=by
  simp [Instr.build,Tryz.zeroValue99]
  rw [fill_one (off:=7) rfl h (by rw [zipSize]; decide),fill_one (off:=523) rfl rfl (by rw [Array.size_setIfInBounds,zipSize]; decide),fill_nil]
  simp [zipSet]
theorem zipSame (b:Nat) (F:Frags) (p0 p1 p2:List Value) (h0:p0.length=10) (h1:p1.length=512):Same (⟨b,0,p0 ++ (p1 ++ p2)⟩::F) ([⟨b,0,p0⟩,⟨b,10,p1⟩,⟨b,522,p2⟩] ++ F):=by
  have:=Same.chunks b F [(0,p0),(10,p1),(522,p2)] 0 (by simp [Gs,h0,h1])
  simpa using this
theorem zip_one (dec:Value) (h:one dec=true):(zip10 .nilIface dec ++ (buf0 ++ zipEnd .nilIface true)).all one=true:=by
  rw [List.all_append,List.all_append]
  have h1:(zip10 .nilIface dec).all one=true:=by simp only [zip10,List.all_cons,List.all_nil,h]; rfl
  have h2:buf0.all one=true:=by rw [List.all_eq_true]; intro v hv; rw [List.eq_of_mem_replicate hv]; rfl
  rw [h1,h2]; rfl
theorem zip_len (dec:Value):(zip10 .nilIface dec ++ (buf0 ++ zipEnd .nilIface true)).length=524:=by
  rw [List.length_append,List.length_append,He]; rfl
theorem six {hs:List Value} (h:hs.length=6):∃ a0 a1 a2 a3 a4 a5,hs=[a0,a1,a2,a3,a4,a5]:=by
  match hs,h with
  | [a0,a1,a2,a3,a4,a5],_=>exact ⟨_,_,_,_,_,_,rfl⟩
theorem Reads.mem {K:Known} {L:Frags} {b o k:Nat} {cs vs:List Value} (hL:⟨b,o,cs⟩ ∈ L) (h:(cs.drop k).take vs.length=vs):Reads K L b (o + k) vs:=by
  obtain ⟨i,hi⟩:=List.mem_iff_getElem?.1 hL
  exact Reads.frag hi h
theorem divide_spec {K:Known} (poly c0:Nat) (hp:poly < 4294967296) (hc0:c0 < 4294967296):Fn Tryz.prog K 64 #[.int .u32 ((poly:Nat):Int),.int .u32 ((c0:Nat):Int)] ([]) (fun v L=>v=u32 (divN poly 8 c0)∧L=[]):=by
 refine Fn.intro (args:=[.int .u32 ((poly:Nat):Int),.int .u32 ((c0:Nat):Int)]) (RR:=Ret1 4 _) Tryz.func64 rfl rfl Tryz.ntmps64 (res1 Tryz.results64) ?_
 refine Bj (env2:=[(0,.int .u32 ((poly:Nat):Int)),(1,.int .u32 ((c0:Nat):Int))]) rfl<|Cr<|Ea rfl rfl<|Ek3 0 1 4 rfl<|Al<|Cr<|Em rfl rfl<|Ek4 0 1 4 5 rfl<|As<|By (fun mm ee ll=>∃ (j:Nat),∃ (c:Nat),keeps ee [0,1,5]=some [(0,.int .u32 ((poly:Nat):Int)),(1,.int .u32 ((c:Nat):Int)),(5,.int .i64 ((j:Nat):Int))]∧ll=[]∧(j≤8)∧(c=divN poly j c0)∧(c < 4294967296)∧mm=8 - j) (_) ⟨0,c0,rfl,rfl,by omega,rfl,hc0,rfl⟩ ?_
 rintro m0 _ _ ⟨j,c,hk0,rfl,hj,hc,hb,hm0⟩
 refine Az _ hk0<|Cr<|Aa (Dq (b:=((8:Nat):Int)) rfl rfl) rfl<|Ek4 0 1 5 6 rfl<|Al<|Bg rfl (fun h6 => ?_) (fun h6 => ?_)
 ·refine Ap<|Al<|As<|Cr<|Em rfl rfl<|Aa (Ey (b:=((1:Nat):Int)) rfl rfl (N.and_u32 (by omega) (by omega))) rfl<|Aa (Eg (b:=((1:Nat):Int)) rfl rfl) rfl<|Ek5 0 1 5 6 9 rfl<|Bg rfl (fun h9 => ?_) (fun h9 => ?_)
  ·have q1:=divN_odd hc h9
   have q2:c >>> 1 ^^^ poly < 4294967296:=xor32 (by omega) hp
   refine Ak<|Em rfl rfl<|Aa (Fk (b:=((1:Nat):Int)) rfl rfl (by omega) (N.shr_u32 (by omega) _)) rfl<|Em rfl rfl<|Aa (S.xor rfl rfl (N.xor_u32 (by omega) (by omega))) rfl<|Ea rfl rfl<|Ek5 0 1 5 6 9 rfl<|Ak<|Aa (Bl (b:=((1:Nat):Int)) rfl rfl (N.add64 (by omega))) rfl<|Em rfl rfl<|Ek5 0 1 5 6 9 rfl ?_
   refine ⟨_,?_,j + 1,_,rfl,rfl,by omega,q1,q2,rfl⟩; omega
  have q1:=divN_even hc h9
  have q2:c >>> 1 < 4294967296:=by omega
  refine Ak<|Em rfl rfl<|Aa (Fk (b:=((1:Nat):Int)) rfl rfl (by omega) (N.shr_u32 (by omega) _)) rfl<|Ea rfl rfl<|Ek5 0 1 5 6 9 rfl<|Ak<|Aa (Bl (b:=((1:Nat):Int)) rfl rfl (N.add64 (by omega))) rfl<|Em rfl rfl<|Ek5 0 1 5 6 9 rfl ?_
  refine ⟨_,?_,j + 1,_,rfl,rfl,by omega,q1,q2,rfl⟩; omega
 have hj8:j=8:=by omega
 subst hj8
 subst hc
 refine Bt rfl<|Cr<|Em rfl rfl<|Ea rfl rfl<|Ek5 0 1 4 5 6 rfl<|Bc ?_
 exact ⟨_,rfl,rfl,rfl⟩
theorem update_spec {K:Known} (poly sum pb po cap:Nat) (l:List UInt8) (hpoly:poly < 4294967296) (hsum:sum < 4294967296) (hp:KB K pb po l) (hl:l.length≤9223372036854775806):Fn Tryz.prog K 45 #[.int .u32 ((poly:Nat):Int),.int .u32 ((sum:Nat):Int),.slice (some ⟨pb,po,none⟩) (l.length) (cap)] ([]) (fun v L=>v=u32 (crcOn poly sum l)∧L=[]):=by
 refine Fn.intro (args:=[.int .u32 ((poly:Nat):Int),.int .u32 ((sum:Nat):Int),.slice (some ⟨pb,po,none⟩) (l.length) (cap)]) (RR:=Ret1 6 _) Tryz.func45 rfl rfl Tryz.ntmps45 (res1 Tryz.results45) ?_
 refine Bj (env2:=[(0,.int .u32 ((poly:Nat):Int)),(1,.int .u32 ((sum:Nat):Int)),(2,.slice (some ⟨pb,po,none⟩) (l.length) (cap))]) rfl<|Cr<|Ea rfl rfl<|Ek4 0 1 2 6 rfl<|Cr<|Em rfl rfl<|Aa (S.not32 rfl (by omega)) rfl<|Ea rfl rfl<|Ek4 0 2 6 7 rfl<|Al<|Cr<|Em rfl rfl ?_
 refine Aa (Bf rfl Tu25) rfl<|Em rfl rfl<|Ek6 0 6 7 12 13 14 rfl<|As<|By (fun mm ee ll=>∃ (i:Nat),∃ (c:Nat),keeps ee [0,7,12,13,14]=some [(0,.int .u32 ((poly:Nat):Int)),(7,.int .u32 ((c:Nat):Int)),(12,.slice (some ⟨pb,po,none⟩) (l.length) (cap)),(13,.int .i64 ((l.length:Nat):Int)),(14,.int .i64 ((i:Nat):Int))]∧ll=[]∧(i≤l.length)∧(c=(nats (l.take i)).foldl (step poly) (not32 sum))∧(c < 4294967296)∧mm=l.length - i) (_) ⟨0,_,rfl,rfl,by omega,rfl,not32_lt hsum,rfl⟩ ?_
 rintro m0 _ _ ⟨i,c,hk0,rfl,hi,hc,hb,hm0⟩
 refine Az _ hk0<|Cr<|Aa (Dq rfl rfl) rfl<|Ek6 0 7 12 13 14 15 rfl<|Al<|Bg rfl (fun h15 => ?_) (fun h15 => ?_)
 ·have hi2:i < l.length:=by omega
  have hv:=l[i].toNat_lt
  have hc2:=(fold_take (poly:=poly) (c0:=not32 sum) hi2).trans (by rw [← hc])
  refine Ap<|Al<|As<|Cr<|Aa (Bm rfl rfl (by omega) Tu25 Tz5) rfl<|Ag (Be rfl (hp.at hi2) Ta5) rfl<|Ea rfl rfl<|Ek7 0 7 9 12 13 14 15 rfl<|Ak<|Em rfl rfl<|Em rfl rfl<|Em rfl rfl ?_
  refine Aa (Bu rfl Tu5 Tu69 (N.in_u32 (by omega))) rfl<|Aa (S.xor rfl rfl (N.xor_u32 (by omega) (by omega))) rfl ?_
  refine Aj (OpX.pick [] (F:=[]) rfl (Ax rfl Tryz.call64 (divide_spec poly (c ^^^ l[i].toNat) hpoly (xor32 hb (by omega))))) rfl ?_; rintro _ _ ⟨_,⟨rfl,rfl⟩,rfl⟩; refine Ab (L2:=[]) rfl ?_
  refine Ea rfl rfl<|Ek7 0 7 9 12 13 14 15 rfl<|Ak<|Aa (Bl (b:=((1:Nat):Int)) rfl rfl (N.add64 (by omega))) rfl<|Em rfl rfl<|Ek7 0 7 9 12 13 14 15 rfl ?_
  refine ⟨_,?_,i + 1,_,rfl,rfl,by omega,hc2.symm,step_lt hpoly hb l[i].toNat_lt,rfl⟩; omega
 have hi2:i=l.length:=by omega
 subst hi2
 rw [fold_take_all] at hc
 refine Bt rfl<|Cr<|Em rfl rfl<|Aa (S.not32 rfl (by omega)) rfl<|Ea rfl rfl<|Ek7 0 6 7 12 13 14 15 rfl<|Bc ?_
 exact ⟨_,rfl,by rw [hc]; rfl,rfl⟩
theorem check_spec {K:Known} (pb po cap:Nat) (l:List UInt8) (hp:KB K pb po l) (hl:l.length≤9223372036854775806):Fn Tryz.prog K 28 #[.slice (some ⟨pb,po,none⟩) (l.length) (cap)] ([]) (fun v L=>v=u32 (crcOn IEEE 0 l)∧L=[]):=by
 refine Fn.intro (args:=[.slice (some ⟨pb,po,none⟩) (l.length) (cap)]) (RR:=Ret1 2 _) Tryz.func28 rfl rfl Tryz.ntmps28 (res1 Tryz.results28) ?_
 refine Bj (env2:=[(0,.slice (some ⟨pb,po,none⟩) (l.length) (cap))]) rfl<|Cr<|Ea rfl rfl<|Ek2 0 2 rfl<|Cr<|Em rfl rfl ?_
 refine Aj (OpX.pick [] (F:=[]) rfl (Ax rfl Tryz.call45 (update_spec IEEE 0 pb po cap l (by decide) (by decide) hp hl))) rfl ?_; rintro _ _ ⟨_,⟨rfl,rfl⟩,rfl⟩; refine Ab (L2:=[]) rfl ?_
 refine Ea rfl rfl<|Ek1 2 rfl<|Bc ?_
 exact ⟨_,rfl,rfl,rfl⟩
section
variable {P:Program} {K:Known} {n:Nat} {env:Env} {L:Frags}
theorem E.lose {ops:Array Oper} {l:List Oper} {A F:Frags} {N:Post} (s:Same L (A ++ F)) (h:wpE P K n ops l env A N):wpE P K n ops l env L N:=by
  refine Fy s ?_
  intro a w hf hw Q q
  exact h a w hf hw.drop Q fun e l a' w' h f t=>q e l a' w' h f (To.frame hw t).drop
end
theorem arr2 (f:Nat→Value) (u v:Value):(((Array.range 2).map f).setIfInBounds 0 u).setIfInBounds 1 v=#[u,v]:=by
  rw [show Array.range 2=#[0,1] by decide]; simp
def encB (c:UInt8):List UInt8:=if c.toNat < 128 then [c] else [UInt8.ofNat (192 + c.toNat / 64),UInt8.ofNat (128 + c.toNat % 64)]
def latinB (l:List UInt8):List UInt8:=l.flatMap encB
theorem encode_enc (c:UInt8):Utf8.encode ((c.toNat:Nat):Int)=⟨(encB c).toArray⟩:=by
  rw [encode_byte,encB]; split <;> rfl
theorem latinB_go:∀ (l:List UInt8) (s:ByteArray),(l.map fun c=>((c.toNat:Nat):Int)).foldl (fun r n=>r ++ Utf8.encode n) s=⟨s.data ++ (latinB l).toArray⟩
  | [],s=>by simp [latinB]
  | c::r,s=>by
    rw [List.map_cons,List.foldl_cons,encode_enc,latinB_go r _]
    simp [latinB]
theorem latin_eq (l:List UInt8):latin l=⟨(latinB l).toArray⟩:=by
  unfold latin runesBytes
  rw [latinB_go l _]; simp
theorem le32_val {a b c d:Nat} (ha:a < 256) (hb:b < 256) (hc:c < 256) (hd:d < 256):le32 a b c d=a + 256 * b + 65536 * c + 16777216 * d:=by
  unfold le32
  rw [show (b <<< 8) % 4294967296=b <<< 8 by rw [Nat.shiftLeft_eq]; omega,show (c <<< 16) % 4294967296=c <<< 16 by rw [Nat.shiftLeft_eq]; omega,show (d <<< 24) % 4294967296=d <<< 24 by rw [Nat.shiftLeft_eq]; omega]
  have h1:=Nat.shiftLeft_add_eq_or_of_lt (b:=a) (i:=8) (by omega) b
  have h2:=Nat.shiftLeft_add_eq_or_of_lt (b:=a ||| b <<< 8) (i:=16) (by rw [Nat.or_comm,← h1,Nat.shiftLeft_eq]; omega) c
  have h3:=Nat.shiftLeft_add_eq_or_of_lt (b:=a ||| b <<< 8 ||| c <<< 16) (i:=24) (by rw [Nat.or_comm,← h2,Nat.or_comm a,← h1,Nat.shiftLeft_eq,Nat.shiftLeft_eq]; omega) d
  rw [Nat.or_comm _ (d <<< 24),← h3,Nat.or_comm _ (c <<< 16),← h2,Nat.or_comm a,← h1]
  simp only [Nat.shiftLeft_eq]; omega
set_option maxHeartbeats 4000000
open Go Go.Proofs Go.ChangeShapes Go.WideShapes Go.RowKit
theorem starName : "*" ++ "errors.errorString" = "*errors.errorString" := by decide
theorem errRow (u:TypeId) (h:Tryz.prog.typeName? 3 u=some "*errors.errorString"):u=215 :=
  typeName_ptr_named (nm:= "errors.errorString") (by rw [starName]; kernel_rfl) (by kernel_rfl) (by decide) u (by rw [starName]; exact h)
theorem cellsErr:Tryz.prog.cellsOf 234=1:=by kernel_rfl
theorem cellsStr:Tryz.prog.cellsOf 9=1:=by kernel_rfl
theorem cellsU8:Tryz.prog.cellsOf 5=1:=by kernel_rfl
abbrev laidErr (text:List UInt8):DataW Unit:=.iface "*errors.errorString" (.ptr (.agg [.lit (.string text)]))
theorem Ho {W:World} {b o:Nat} {v:Value} (h:W.cell? ⟨b,o,none⟩=some v):cellAt (fun b=>W.heap[b]?) b o=some v:=by
  unfold World.cell? at h
  unfold cellAt
  dsimp only at h ⊢
  split at h
  · rename_i c t fr hb
    rw [hb]; simpa using h
  · cases h
theorem laid_err {W:World} {n:String} {text:List UInt8} {r:List (String × DataW Unit)} {ps:List MemPlace} {g:Nat} (hg:Tryz.prog.globalNamed n=some g) (ht:(Tryz.prog.globals[g]?).map (·.type)=some 58)
    (h:DataW.LaidVars Tryz.prog W ((n,laidErr text)::r) ps)
    (hrows:∀ b off,MemPlace.cell b off ∈ ps→(∃ c t,W.heap[b]? = some (.cells c t (0,0)))∧∀ u v,W.cell? ⟨b,off,none⟩=some (.iface u v)→Value.okWide Tryz.prog W .any 0 u v) :
    ∃ a q,cellAt (fun b=>W.heap[b]?) g 0=some (.iface 215 (.pointer (some a)))∧DataW.LaidVars Tryz.prog W r q∧ps=MemPlace.cell g 0::(MemPlace.row a 1 ++ q):=by
  obtain ⟨g',t,cs,fuel,p,q,hg',ht',hv,hd,hr,rfl⟩:=h
  obtain rfl:=Option.some.inj (hg.symm.trans hg')
  obtain rfl:=Option.some.inj (ht.symm.trans ht')
  obtain ⟨l⟩:=cs
  obtain ⟨a,s,rfl,hc,hs,hz,rfl⟩:=errorString_of_trod Tu58 errRow Tryz.underlying215 Tryz.underlying234 rfl rfl Tu9 cellsErr cellsStr hd (fun u v e=>by
    subst e
    exact (hrows g 0 (by simp [MemPlace.row])).2 u v (by simpa using World.var?_cell hg hv 0))
  refine ⟨a,q,?_,hr,by simp [MemPlace.row]⟩
  exact Ho (by simpa using World.var?_cell hg hv 0)
def BytesA (K:Known) (v:Value) (l:List UInt8):Prop:=(v=.slice none 0 0∧l=[]) ∨ (∃ a c,v=.slice (some a) 0 c∧l=[]) ∨ ∃ pb po cap,v=.slice (some ⟨pb,po,none⟩) l.length cap∧l.length≤cap∧KB K pb po l
section
variable {H:Type} {enc:TypeId × Value→H} {W:World} {fuel:Nat} {cs:List Value} {x:DataW H × List MemPlace}
theorem trod_bytes (h:DataW.trod enc Tryz.prog W 0 (fun _=>true) true fuel 25 cs=some x):∃ v l,cs=[v]∧BytesA (fun b=>W.heap[b]?) v l:=by
  rcases open_ints Tu25 Tu5 cellsU8 h with ⟨hcs,hx⟩ | ⟨a,len,cap,zs,hcs,_,hl,hm,hz,hx,hcell,hwz⟩
  · exact ⟨_,[],hcs,.inl ⟨rfl,rfl⟩⟩
  · subst hcs
    simp only [if_true] at hz
    by_cases h0:len=0
    · subst h0; exact ⟨_,[],rfl,.inr (.inl ⟨_,_,rfl,rfl⟩)⟩
    · obtain ⟨ab,ao,spot⟩:=a
      have hspot:spot=none:=by simpa [Addr.add] using World.cell?_spot (hcell 0 (by omega))
      subst hspot
      have hlen:((zs.take len).map fun n=>UInt8.ofNat n.toNat).length=len:=by simp; omega
      refine ⟨_,(zs.take len).map fun n=>UInt8.ofNat n.toNat,rfl,.inr (.inr ⟨ab,ao,cap,by rw [hlen],by rw [hlen]; exact hl,fun j hj => ?_⟩)⟩
      rw [hlen] at hj
      have hcj:=hcell j (by omega)
      rw [Addr.add_lit] at hcj
      have hb:=range_u8 hwz j
      have e:zs.getD j 0=zs[j]'(by omega):=by simp [List.getD,List.getElem?_eq_getElem (show j < zs.length by omega)]
      rw [e] at hcj
      rw [← List.getD_eq_getElem?_getD,e] at hb
      have hv:(u8 (((zs.take len).map fun n=>UInt8.ofNat n.toNat)[j]'(by rw [hlen]; exact hj)))=.int .u8 zs[j]:=by
        have e3:((zs.take len).map fun n=>UInt8.ofNat n.toNat)[j]'(by rw [hlen]; exact hj)=UInt8.ofNat (zs[j]'(by omega)).toNat:=by simp
        have e4:((UInt8.ofNat (zs[j]'(by omega)).toNat).toNat:Int)=zs[j]'(by omega):=by rw [UInt8.toNat_ofNat']; omega
        show Value.int .u8 _=_
        rw [e3,e4]
      rw [hv]
      exact Ho hcj
variable {P:Program} {base:Nat} {sp:Nat→Bool} {hd:Bool} {t:TypeId}
theorem trod_str (ht:P.underlying t=some .string) (h:DataW.trod enc P W base sp hd fuel t cs=some x):∃ s,cs=[.string s]∧s.size≤maxLen:=by
  cases fuel with
  | zero=>simp [DataW.trod] at h
  | succ n =>
    unfold DataW.trod at h
    rw [ht] at h
    split at h <;> simp_all
theorem trod_bool (ht:P.underlying t=some .bool) (h:DataW.trod enc P W base sp hd fuel t cs=some x):∃ b,cs=[.bool b]:=by
  cases fuel with
  | zero=>simp [DataW.trod] at h
  | succ n =>
    unfold DataW.trod at h
    rw [ht] at h
    split at h <;> simp_all
theorem trod_int {k:IntKind} (ht:P.underlying t=some (.int k)) (h:DataW.trod enc P W base sp hd fuel t cs=some x):∃ n,cs=[.int k n]∧(Lit.int k n).wf=true:=by
  cases fuel with
  | zero=>simp [DataW.trod] at h
  | succ n =>
    unfold DataW.trod at h
    rw [ht] at h
    split at h <;> simp_all
theorem u8_of_wf {n:Int} (h:(Lit.int .u8 n).wf=true):∃ c:UInt8,n=(c.toNat:Int):=by
  have:0≤n∧n≤255:=by simpa [Lit.wf,IntKind.min,IntKind.max,IntKind.signed,IntKind.bits] using h
  exact ⟨UInt8.ofNat n.toNat,by rw [UInt8.toNat_ofNat']; omega⟩
structure Md where
  name:ByteArray
  comment:ByteArray
  extra:List UInt8
  mod:Int
  os:UInt8
  text:Bool
  checked:Bool
  ex:Bool
  nm:Bool
  cm:Bool
  flags:UInt8
def BlocksA (K:Known) (v:Value):Prop:=∃ a n c,v=.slice a n c∧∀ i,i < n→∃ b o,a=some ⟨b,o,none⟩∧∃ wh a1 n1 c1 a2 n2 c2 a3 n3 c3,∀ j u,([.int .i64 wh,.slice a1 n1 c1,.slice a2 n2 c2,.slice a3 n3 c3]:List Value)[j]? = some u→cellAt K b (o + i * 4 + j)=some u
def headCells (m:Md) (ve:Value):List Value:=[.string m.name,.string m.comment,ve,.int .i64 m.mod,u8 m.os]
def madeCells (m:Md) (ve vb:Value):List Value:=headCells m ve ++ [.bool m.text,.bool m.checked,.bool m.ex,.bool m.nm,.bool m.cm,u8 m.flags,vb]
theorem cellsHead:Tryz.prog.cellsOf 32=5:=by kernel_rfl
theorem cellsBlock:Tryz.prog.cellsOf 73=4:=by kernel_rfl
theorem cellsMade:Tryz.prog.cellsOf 35=12:=by kernel_rfl
theorem Hm (t:TypeId) (h:Tryz.prog.cellsOf t=1:=by kernel_rfl):Tryz.prog.cellsOf t=1:=h
theorem struct_fields {P:Program} {base:Nat} {sp:Nat→Bool} {hd:Bool} {t:TypeId} {fs:Array Field} (ht:P.underlying t=some (.struct fs)) (h:DataW.trod enc P W base sp hd fuel t cs=some x) :
    cs.length=P.cellsOf t∧∃ n,∀ (i:Nat) (f:Field),fs[i]? = some f→∃ y,DataW.trod enc P W base sp hd n f.type ((cs.drop f.offset).take (P.cellsOf f.type))=some y:=by
  obtain ⟨xs,n,_,rfl,hl,hlen,hf⟩:=DataW.trod_struct ht h
  refine ⟨hl,n,fun i f hi => ?_⟩
  have:i < xs.length:=by rw [hlen]; exact (Array.getElem?_eq_some_iff.1 hi).1
  exact ⟨xs[i],by rw [hf i f hi,List.getElem?_eq_getElem this]⟩
theorem trod_head (h:DataW.trod enc Tryz.prog W 0 (fun _=>true) true fuel 32 cs=some x) :
    ∃ (n c:ByteArray) (ve:Value) (e:List UInt8) (mod:Int) (os:UInt8),cs=[.string n,.string c,ve,.int .i64 mod,u8 os]∧BytesA (fun b=>W.heap[b]?) ve e∧n.size≤maxLen∧c.size≤maxLen∧(Lit.int .i64 mod).wf=true:=by
  obtain ⟨hl,n,hf⟩:=struct_fields Tryz.underlying32 h
  rw [cellsHead] at hl
  match cs,hl with
  | [c0,c1,c2,c3,c4],_ =>
    obtain ⟨y0,f0⟩:=hf 0 _ rfl
    obtain ⟨y1,f1⟩:=hf 1 _ rfl
    obtain ⟨y2,f2⟩:=hf 2 _ rfl
    obtain ⟨y3,f3⟩:=hf 3 _ rfl
    obtain ⟨y4,f4⟩:=hf 4 _ rfl
    simp only [List.getElem_toArray,List.getElem_cons_zero,List.getElem_cons_succ,Hm 9,Hm 25,Hm 2,Hm 5,List.drop_zero,List.drop_succ_cons,List.take_succ_cons,List.take_zero] at f0 f1 f2 f3 f4
    obtain ⟨s0,e0,z0⟩:=trod_str Tu9 f0
    obtain ⟨s1,e1,z1⟩:=trod_str Tu9 f1
    obtain ⟨v2,l2,e2,b2⟩:=trod_bytes f2
    obtain ⟨m3,e3,w3⟩:=trod_int Tu2 f3
    obtain ⟨m4,e4,w4⟩:=trod_int Tu5 f4
    obtain ⟨o4,rfl⟩:=u8_of_wf w4
    simp only [List.cons.injEq,and_true] at e0 e1 e2 e3 e4
    subst e0 e1 e2 e3 e4
    exact ⟨s0,s1,_,l2,m3,o4,rfl,b2,z0,z1,w3⟩
theorem cells?_cell {w:World} {base:Nat} {a:Addr} {n:Nat} {cs:List Value} (h:w.cells? base a n=some cs):cs.length=n∧∀ j u,cs[j]? = some u→w.cell? (a.add j)=some u:=by
  unfold World.cells? at h
  split at h
  · have hl:=mapM_some_length h
    rw [List.length_range] at hl
    refine ⟨hl,fun j u hj => ?_⟩
    have hjl:j < n:=by rw [← hl]; exact (List.getElem?_eq_some_iff.1 hj).1
    have:=mapM_some_get h (i:=j) (x:=j) (by simp [hjl])
    rw [this]; exact hj
  · cases h
end
def textB:List UInt8→Option (List UInt8)
  | []=>some []
  | [c]=>if c.toNat < 128∧c.toNat ≠ 0 then some [c] else none
  | c::d::r =>
    if c.toNat < 128 then (if c.toNat=0 then none else (textB (d::r)).map (c::·))
    else if c.toNat &&& 254=194∧d.toNat &&& 192=128 then
      (if (c.toNat <<< 6) % 256 ||| (d.toNat &&& 63)=0 then none else (textB r).map (UInt8.ofNat ((c.toNat <<< 6) % 256 ||| (d.toNat &&& 63))::·))
    else none
theorem textB_small {s:List UInt8} {i:Nat} (h:i < s.length) (hc:s[i].toNat < 128):textB (s.drop i)=if s[i].toNat=0 then none else (textB (s.drop (i + 1))).map (s[i]::·):=by
  rw [List.drop_eq_getElem_cons h]
  cases hr:s.drop (i + 1) with
  | nil =>
    rw [show textB [s[i]]=if s[i].toNat < 128∧s[i].toNat ≠ 0 then some [s[i]] else none from rfl]
    by_cases h0:s[i].toNat=0
    · rw [if_neg (fun h=>h.2 h0),if_pos h0]
    · rw [if_pos ⟨hc,h0⟩,if_neg h0]; rfl
  | cons d r=>rw [textB,if_pos hc]
theorem textB_big {s:List UInt8} {i:Nat} (h:i + 1 < s.length) (hc:¬ s[i].toNat < 128) (h1:s[i].toNat &&& 254=194) (h2:s[i + 1].toNat &&& 192=128) :
    textB (s.drop i)=if (s[i].toNat <<< 6) % 256 ||| (s[i + 1].toNat &&& 63)=0 then none else (textB (s.drop (i + 1 + 1))).map (UInt8.ofNat ((s[i].toNat <<< 6) % 256 ||| (s[i + 1].toNat &&& 63))::·):=by
  rw [List.drop_eq_getElem_cons (by omega:i < s.length),List.drop_eq_getElem_cons h,textB,if_neg hc,if_pos ⟨h1,h2⟩]
theorem textB_bad {s:List UInt8} {i:Nat} (h:i < s.length) (hc:¬ s[i].toNat < 128) (hb:¬ (s[i].toNat &&& 254=194) ∨ i + 1=s.length ∨ ∃ h2:i + 1 < s.length,¬ (s[i + 1].toNat &&& 192=128)):textB (s.drop i)=none:=by
  rw [List.drop_eq_getElem_cons h]
  cases hr:s.drop (i + 1) with
  | nil=>rw [textB,if_neg (by omega)]
  | cons d r =>
    have hlt:i + 1 < s.length:=by
      rcases Nat.lt_or_ge (i + 1) s.length with h1 | h1
      · exact h1
      · rw [List.drop_eq_nil_of_le h1] at hr; cases hr
    rw [List.drop_eq_getElem_cons hlt] at hr
    obtain ⟨rfl,rfl⟩:=List.cons.inj hr
    rw [textB,if_neg hc,if_neg]
    rintro ⟨h1,h2⟩
    rcases hb with h3 | h3 | ⟨_,h3⟩
    · exact h3 h1
    · omega
    · exact h3 h2
theorem two_bytes:∀ c d:Fin 256,c.val &&& 254=194→d.val &&& 192=128→((c.val <<< 6) % 256 ||| (d.val &&& 63)) ≥ 128∧((c.val <<< 6) % 256 ||| (d.val &&& 63)) < 256∧192 + ((c.val <<< 6) % 256 ||| (d.val &&& 63)) / 64=c.val∧128 + ((c.val <<< 6) % 256 ||| (d.val &&& 63)) % 64=d.val:=by
  intro c d hc hd
  have h1:c.val=194 ∨ c.val=195:=by revert c; decide +kernel
  have h2:d.val &&& 63=d.val - 128∧128≤d.val∧d.val < 192:=by revert d; decide +kernel
  rw [h2.1]
  have h3:=Nat.shiftLeft_add_eq_or_of_lt (b:=d.val - 128) (i:=6) (by omega)
  rcases h1 with e | e
  · have:=h3 2
    rw [e,show (194 <<< 6) % 256=2 <<< 6 by decide,← this]; omega
  · have:=h3 3
    rw [e,show (195 <<< 6) % 256=3 <<< 6 by decide,← this]; omega
theorem textB_latin:∀ {s t:List UInt8},textB s=some t→latinB t=s∧(∀ c ∈ t,c ≠ 0)∧t.length≤s.length
  | [],t,h=>by simp [textB] at h; subst h; simp [latinB]
  | [c],t,h=>by
    rw [textB] at h
    split at h
    · rename_i hc
      simp only [Option.some.injEq] at h; subst h
      refine ⟨?_,?_,by simp⟩
      · simp only [latinB,List.flatMap_cons,List.flatMap_nil,List.append_nil]; rw [encB,if_pos hc.1]
      · intro x hx
        rw [List.mem_singleton.1 hx]; rintro rfl; exact hc.2 rfl
    · cases h
  | c::d::r,t,h=>by
    rw [textB] at h
    split at h
    · rename_i hc
      split at h
      · cases h
      · rename_i hz
        obtain ⟨t',h1,rfl⟩:=Option.map_eq_some_iff.1 h
        obtain ⟨h2,h3,h4⟩:=textB_latin h1
        refine ⟨?_,?_,by simp only [List.length_cons] at h4 ⊢; omega⟩
        · unfold latinB at h2 ⊢
          rw [List.flatMap_cons,h2,encB,if_pos hc]; rfl
        · intro x hx
          rcases List.mem_cons.1 hx with rfl | hx
          · rintro rfl; exact hz rfl
          · exact h3 x hx
    · split at h
      · rename_i hcd
        split at h
        · cases h
        · obtain ⟨t',h1,rfl⟩:=Option.map_eq_some_iff.1 h
          obtain ⟨h2,h3,h4⟩:=textB_latin h1
          obtain ⟨k1,k2,k3,k4⟩:=two_bytes ⟨c.toNat,c.toNat_lt⟩ ⟨d.toNat,d.toNat_lt⟩ hcd.1 hcd.2
          simp only at k1 k2 k3 k4
          have ey:(UInt8.ofNat ((c.toNat <<< 6) % 256 ||| (d.toNat &&& 63))).toNat=(c.toNat <<< 6) % 256 ||| (d.toNat &&& 63):=by rw [UInt8.toNat_ofNat']; omega
          refine ⟨?_,?_,by simp only [List.length_cons] at h4 ⊢; omega⟩
          · unfold latinB at h2 ⊢
            rw [List.flatMap_cons,h2,encB,if_neg (by omega),ey,k3,k4]
            simp
          · intro x hx
            rcases List.mem_cons.1 hx with rfl | hx
            · intro h0; rw [h0] at ey; simp at ey; omega
            · exact h3 x hx
      · cases h
def numL (x n:Nat):List UInt8:=(List.range n).map fun i=>UInt8.ofNat (x / 2 ^ (8 * i))
def bit (b:Bool):Nat:=if b then 1 else 0
def flagsN (m:Md) (nb cb:List UInt8):Nat:=bit m.text + 2 * bit m.checked + 4 * bit (m.ex || decide (0 < m.extra.length)) + 8 * bit (m.nm || decide (0 < nb.length)) + 16 * bit (m.cm || decide (0 < cb.length))
def first0 (m:Md) (nb cb:List UInt8):List UInt8:=[31,139,8,UInt8.ofNat (flagsN m nb cb)] ++ numL m.mod.toNat 4 ++ [m.flags,m.os]
def first1 (m:Md) (nb cb:List UInt8):List UInt8:=if flagsN m nb cb &&& 4=0 then first0 m nb cb else first0 m nb cb ++ numL m.extra.length 2 ++ m.extra
def first2 (m:Md) (nb cb:List UInt8):List UInt8:=if flagsN m nb cb &&& 8=0 then first1 m nb cb else first1 m nb cb ++ nb ++ [0]
def first3 (m:Md) (nb cb:List UInt8):List UInt8:=if flagsN m nb cb &&& 16=0 then first2 m nb cb else first2 m nb cb ++ cb ++ [0]
def firstL (m:Md) (nb cb:List UInt8):List UInt8:=if flagsN m nb cb &&& 2=0 then first3 m nb cb else first3 m nb cb ++ numL (crcOn IEEE 0 (first3 m nb cb) % 65536) 2
theorem bit_lt (b:Bool):bit b≤1:=by cases b <;> decide
theorem flagsN_lt (m:Md) (nb cb:List UInt8):flagsN m nb cb < 32:=by
  unfold flagsN
  have h1:=bit_lt m.text
  have h2:=bit_lt m.checked
  have h3:=bit_lt (m.ex || decide (0 < m.extra.length))
  have h4:=bit_lt (m.nm || decide (0 < nb.length))
  have h5:=bit_lt (m.cm || decide (0 < cb.length))
  omega
theorem flags_and:∀ a b c d e:Bool,((bit a + 2 * bit b + 4 * bit c + 8 * bit d + 16 * bit e) &&& 4=0 ↔ c=false)∧((bit a + 2 * bit b + 4 * bit c + 8 * bit d + 16 * bit e) &&& 8=0 ↔ d=false)∧((bit a + 2 * bit b + 4 * bit c + 8 * bit d + 16 * bit e) &&& 16=0 ↔ e=false):=by decide
theorem noName {m:Md} {nb cb:List UInt8} (h:flagsN m nb cb &&& 8=0):nb=[]:=by
  have:=(flags_and _ _ _ _ _).2.1.1 h
  have:=(Bool.or_eq_false_iff.1 this).2
  exact List.eq_nil_of_length_eq_zero (by simpa using this)
theorem noComment {m:Md} {nb cb:List UInt8} (h:flagsN m nb cb &&& 16=0):cb=[]:=by
  have:=(flags_and _ _ _ _ _).2.2.1 h
  have:=(Bool.or_eq_false_iff.1 this).2
  exact List.eq_nil_of_length_eq_zero (by simpa using this)
theorem noExtra {m:Md} {nb cb:List UInt8} (h:flagsN m nb cb &&& 4=0):m.extra=[]:=by
  have:=(flags_and _ _ _ _ _).1.1 h
  have:=(Bool.or_eq_false_iff.1 this).2
  exact List.eq_nil_of_length_eq_zero (by simpa using this)
theorem numL_two (x:Nat) (h:x < 65536):∃ a b:UInt8,numL x 2=[a,b]∧le16 a.toNat b.toNat=x:=by
  refine ⟨UInt8.ofNat (x / 2 ^ (8 * 0)),UInt8.ofNat (x / 2 ^ (8 * 1)),rfl,?_⟩
  rw [le16_val (UInt8.toNat_lt _) (UInt8.toNat_lt _),UInt8.toNat_ofNat',UInt8.toNat_ofNat']
  omega
theorem numL_four (x:Nat) (h:x < 4294967296):∃ a b c d:UInt8,numL x 4=[a,b,c,d]∧le32 a.toNat b.toNat c.toNat d.toNat=x:=by
  refine ⟨UInt8.ofNat (x / 2 ^ (8 * 0)),UInt8.ofNat (x / 2 ^ (8 * 1)),UInt8.ofNat (x / 2 ^ (8 * 2)),UInt8.ofNat (x / 2 ^ (8 * 3)),rfl,?_⟩
  rw [le32_val (UInt8.toNat_lt _) (UInt8.toNat_lt _) (UInt8.toNat_lt _) (UInt8.toNat_lt _),UInt8.toNat_ofNat',UInt8.toNat_ofNat',UInt8.toNat_ofNat',UInt8.toNat_ofNat']
  omega
theorem str_here {t r:List UInt8} (hz:∀ c ∈ t,c ≠ 0) (hl:t.length < 512) (d:Nat):strEr (t ++ 0::r)=.none∧(t ++ 0::r).drop (Fe (t ++ 0::r))=r∧strTxt (t ++ 0::r)=latin t∧strCrc d (t ++ 0::r)=crcOn IEEE d (t ++ [0]):=by
  have h0:(t ++ 0::r)[t.length]? = some 0:=by rw [List.getElem?_append_right (Nat.le_refl _)]; simp
  obtain ⟨h1,h2,h3,h4⟩:=str_ok (l:=t ++ 0::r) (i:=t.length) (by rw [List.take_left' rfl]; exact hz) h0 hl d
  refine ⟨h1,?_,?_,?_⟩
  · rw [h2,show t ++ 0::r=(t ++ [0]) ++ r by simp,List.drop_left' (by simp)]
  · rw [h3,List.take_left' rfl]
  · rw [h4,show t ++ 0::r=(t ++ [0]) ++ r by simp,List.take_left' (by simp)]
theorem rd4_made {m:Md} {nb cb behind:List UInt8} {h:Hd} :
    rd4 ((if flagsN m nb cb &&& 2=0 then [] else numL (crcOn IEEE 0 (first3 m nb cb) % 65536) 2) ++ behind) (flagsN m nb cb) (crcOn IEEE 0 (first3 m nb cb)) h=(.none,behind,h):=by
  unfold rd4
  split
  · rfl
  · obtain ⟨a,b,e,hv⟩:=numL_two (crcOn IEEE 0 (first3 m nb cb) % 65536) (Nat.mod_lt _ (by decide))
    rw [e]
    have h1:¬ Dh ([a,b] ++ behind) 2 ≠ .none:=by rw [Gg]; simp
    rw [if_neg h1]
    have h2:le16of ([a,b] ++ behind)=le16 a.toNat b.toNat:=rfl
    rw [h2,hv,if_neg (by simp)]; rfl
theorem rd3_made {m:Md} {nb cb behind:List UInt8} {h:Hd} (hz:∀ c ∈ cb,c ≠ 0) (hl:cb.length < 512) (hc:h.comment=⟨#[]⟩) :
    rd3 ((if flagsN m nb cb &&& 16=0 then [] else cb ++ [0]) ++ ((if flagsN m nb cb &&& 2=0 then [] else numL (crcOn IEEE 0 (first3 m nb cb) % 65536) 2) ++ behind)) (flagsN m nb cb) (crcOn IEEE 0 (first2 m nb cb)) h=(.none,behind,{ h with comment:=latin cb }):=by
  unfold rd3
  by_cases hf:flagsN m nb cb &&& 16=0
  · rw [if_pos hf,if_pos hf,List.nil_append]
    have e:crcOn IEEE 0 (first2 m nb cb)=crcOn IEEE 0 (first3 m nb cb):=by rw [first3,if_pos hf]
    rw [e,rd4_made,noComment hf]
    have:latin []=(⟨#[]⟩:ByteArray):=rfl
    rw [this,← hc]
  · rw [if_neg hf,if_neg hf,List.append_assoc,List.singleton_append]
    generalize hr:((if flagsN m nb cb &&& 2=0 then [] else numL (crcOn IEEE 0 (first3 m nb cb) % 65536) 2) ++ behind)=r
    obtain ⟨h1,h2,h3,h4⟩:=str_here (r:=r) hz hl (crcOn IEEE 0 (first2 m nb cb))
    rw [if_neg (by simpa using h1),h2,h3,h4,← hr]
    have e:crcOn IEEE (crcOn IEEE 0 (first2 m nb cb)) (cb ++ [0])=crcOn IEEE 0 (first3 m nb cb):=by rw [first3,if_neg hf,List.append_assoc,crcOn_append]
    rw [e,rd4_made]
theorem rd2_made {m:Md} {nb cb behind:List UInt8} {h:Hd} (hz:∀ c ∈ cb,c ≠ 0) (hl:cb.length < 512) (hzn:∀ c ∈ nb,c ≠ 0) (hln:nb.length < 512) (hn:h.name=⟨#[]⟩) (hc:h.comment=⟨#[]⟩) :
    rd2 ((if flagsN m nb cb &&& 8=0 then [] else nb ++ [0]) ++ ((if flagsN m nb cb &&& 16=0 then [] else cb ++ [0]) ++ ((if flagsN m nb cb &&& 2=0 then [] else numL (crcOn IEEE 0 (first3 m nb cb) % 65536) 2) ++ behind))) (flagsN m nb cb) (crcOn IEEE 0 (first1 m nb cb)) h =
      (.none,behind,{ h with name:=latin nb,comment:=latin cb }):=by
  unfold rd2
  by_cases hf:flagsN m nb cb &&& 8=0
  · rw [if_pos hf,if_pos hf,List.nil_append]
    have e:crcOn IEEE 0 (first1 m nb cb)=crcOn IEEE 0 (first2 m nb cb):=by rw [first2,if_pos hf]
    rw [e,rd3_made hz hl hc,noName hf]
    have:latin []=(⟨#[]⟩:ByteArray):=rfl
    rw [this,← hn]
  · rw [if_neg hf,if_neg hf,List.append_assoc,List.singleton_append]
    generalize hr:((if flagsN m nb cb &&& 16=0 then [] else cb ++ [0]) ++ ((if flagsN m nb cb &&& 2=0 then [] else numL (crcOn IEEE 0 (first3 m nb cb) % 65536) 2) ++ behind))=r
    obtain ⟨h1,h2,h3,h4⟩:=str_here (r:=r) hzn hln (crcOn IEEE 0 (first1 m nb cb))
    rw [if_neg (by simpa using h1),h2,h3,h4,← hr]
    have e:crcOn IEEE (crcOn IEEE 0 (first1 m nb cb)) (nb ++ [0])=crcOn IEEE 0 (first2 m nb cb):=by rw [first2,if_neg hf,List.append_assoc,crcOn_append]
    rw [e]
    exact rd3_made (h:={ h with name:=latin nb }) hz hl hc
theorem rd1_made {m:Md} {nb cb behind:List UInt8} {h:Hd} (hz:∀ c ∈ cb,c ≠ 0) (hl:cb.length < 512) (hzn:∀ c ∈ nb,c ≠ 0) (hln:nb.length < 512) (hn:h.name=⟨#[]⟩) (hc:h.comment=⟨#[]⟩) (he:h.extra=none) (hx:m.extra.length < 65536) :
    ∃ ex,ex.getD []=m.extra∧rd1 ((if flagsN m nb cb &&& 4=0 then [] else numL m.extra.length 2 ++ m.extra) ++ ((if flagsN m nb cb &&& 8=0 then [] else nb ++ [0]) ++ ((if flagsN m nb cb &&& 16=0 then [] else cb ++ [0]) ++
      ((if flagsN m nb cb &&& 2=0 then [] else numL (crcOn IEEE 0 (first3 m nb cb) % 65536) 2) ++ behind)))) (flagsN m nb cb) (crcOn IEEE 0 (first0 m nb cb)) h=(.none,behind,{ h with name:=latin nb,comment:=latin cb,extra:=ex }):=by
  unfold rd1
  by_cases hf:flagsN m nb cb &&& 4=0
  · refine ⟨none,by rw [noExtra hf]; rfl,?_⟩
    rw [if_pos hf,if_pos hf,List.nil_append]
    have e:crcOn IEEE 0 (first0 m nb cb)=crcOn IEEE 0 (first1 m nb cb):=by rw [first1,if_pos hf]
    rw [e,rd2_made hz hl hzn hln hn hc,← he]
  · refine ⟨some m.extra,rfl,?_⟩
    rw [if_neg hf,if_neg hf,List.append_assoc]
    generalize hr:((if flagsN m nb cb &&& 8=0 then [] else nb ++ [0]) ++ ((if flagsN m nb cb &&& 16=0 then [] else cb ++ [0]) ++ ((if flagsN m nb cb &&& 2=0 then [] else numL (crcOn IEEE 0 (first3 m nb cb) % 65536) 2) ++ behind)))=r
    obtain ⟨a,b,e,hv⟩:=numL_two m.extra.length hx
    rw [e]
    have h1:¬ Dh ([a,b] ++ (m.extra ++ r)) 2 ≠ .none:=by rw [Gg]; simp
    have h2:le16of ([a,b] ++ (m.extra ++ r))=m.extra.length:=hv
    have h3:([a,b] ++ (m.extra ++ r)).drop 2=m.extra ++ r:=rfl
    have h4:¬ Dh (m.extra ++ r) m.extra.length ≠ .none:=by rw [Gg]; simp
    rw [if_neg h1,h2,h3,if_neg h4,List.drop_left' rfl,List.take_left' rfl]
    have h5:([a,b] ++ (m.extra ++ r)).take 2=[a,b]:=rfl
    rw [h5]
    have e2:crcOn IEEE (crcOn IEEE (crcOn IEEE 0 (first0 m nb cb)) [a,b]) m.extra=crcOn IEEE 0 (first1 m nb cb):=by rw [first1,if_neg hf,e,crcOn_append,crcOn_append]; simp
    rw [e2,← hr]
    exact rd2_made (h:={ h with extra:=some m.extra }) hz hl hzn hln hn hc
theorem made_read {m:Md} {nb cb behind:List UInt8} (hz:∀ c ∈ cb,c ≠ 0) (hl:cb.length < 512) (hzn:∀ c ∈ nb,c ≠ 0) (hln:nb.length < 512) (hx:m.extra.length < 65536) (hm:0≤m.mod) (hm2:m.mod < 4294967296) :
    (Av (firstL m nb cb ++ behind)).1=.none∧(Av (firstL m nb cb ++ behind)).2.1=behind∧(Av (firstL m nb cb ++ behind)).2.2.name=latin nb∧(Av (firstL m nb cb ++ behind)).2.2.comment=latin cb ∧
      (Av (firstL m nb cb ++ behind)).2.2.extra.getD []=m.extra∧(((Av (firstL m nb cb ++ behind)).2.2.mod:Nat):Int)=m.mod∧(Av (firstL m nb cb ++ behind)).2.2.os=m.os.toNat:=by
  have e:firstL m nb cb ++ behind=first0 m nb cb ++ ((if flagsN m nb cb &&& 4=0 then [] else numL m.extra.length 2 ++ m.extra) ++ ((if flagsN m nb cb &&& 8=0 then [] else nb ++ [0]) ++ ((if flagsN m nb cb &&& 16=0 then [] else cb ++ [0]) ++
      ((if flagsN m nb cb &&& 2=0 then [] else numL (crcOn IEEE 0 (first3 m nb cb) % 65536) 2) ++ behind)))):=by
    generalize hq:numL (crcOn IEEE 0 (first3 m nb cb) % 65536) 2=q
    unfold firstL
    rw [hq]
    unfold first3 first2 first1
    split <;> split <;> split <;> split <;> simp
  obtain ⟨a,b,c,d,e4,hv⟩:=numL_four m.mod.toNat (by omega)
  have e0:first0 m nb cb=[31,139,8,UInt8.ofNat (flagsN m nb cb),a,b,c,d,m.flags,m.os]:=by rw [first0,e4]; rfl
  have hfl:(UInt8.ofNat (flagsN m nb cb)).toNat=flagsN m nb cb:=by rw [UInt8.toNat_ofNat']; have:=flagsN_lt m nb cb; omega
  obtain ⟨ex,hex,hrd⟩:=rd1_made (m:=m) (nb:=nb) (cb:=cb) (behind:=behind) (h:={ noHd with mod:=le32 a.toNat b.toNat c.toNat d.toNat,os:=m.os.toNat }) hz hl hzn hln rfl rfl rfl hx
  rw [e]
  generalize hr:((if flagsN m nb cb &&& 4=0 then [] else numL m.extra.length 2 ++ m.extra) ++ ((if flagsN m nb cb &&& 8=0 then [] else nb ++ [0]) ++ ((if flagsN m nb cb &&& 16=0 then [] else cb ++ [0]) ++
      ((if flagsN m nb cb &&& 2=0 then [] else numL (crcOn IEEE 0 (first3 m nb cb) % 65536) 2) ++ behind))))=r at hrd ⊢
  have hR:Av (first0 m nb cb ++ r)=(.none,behind,{ noHd with mod:=le32 a.toNat b.toNat c.toNat d.toNat,os:=m.os.toNat,name:=latin nb,comment:=latin cb,extra:=ex }):=by
    rw [e0] at hrd ⊢
    show Av (31::139::8::UInt8.ofNat (flagsN m nb cb)::a::b::c::d::m.flags::m.os::r)=_
    rw [Eo,if_pos ⟨rfl,rfl,rfl⟩,hfl,hrd]
  rw [hR]
  refine ⟨rfl,rfl,rfl,rfl,hex,?_,rfl⟩
  show ((le32 a.toNat b.toNat c.toNat d.toNat:Nat):Int)=m.mod
  rw [hv]; omega
theorem and_le_r (a b:Nat):a &&& b≤b:=Nat.and_le_right
theorem byteY {y:Nat} (h:y < 256):bytesV [UInt8.ofNat y]=[.int .u8 ((y:Nat):Int)]:=by
  show [Value.int .u8 (((UInt8.ofNat y).toNat:Nat):Int)]=_
  rw [UInt8.toNat_ofNat',Nat.mod_eq_of_lt h]
theorem map_snoc {l acc:List UInt8} {x:UInt8} {o:Option (List UInt8)} (h:textB l=(o.map (x::·)).map (acc ++ ·)):textB l=o.map ((acc ++ [x]) ++ ·):=by
  rw [h]; cases o <;> simp
theorem or_256 {a b:Nat} (ha:a < 256) (hb:b < 256):a ||| b < 256:=Nat.or_lt_two_pow (n:=8) ha hb
theorem text_walk {K:Known} (s:ByteArray) (l:List UInt8) (hg:∀ i (h:i < l.length),s[i]? = some l[i]) (hs:s.size=l.length) (hl:l.length≤140737488355327):Fn Tryz.prog K 37 #[.string s] ([]) (fun r L=>∃ v Lf F,r=.tuple #[v,.bool (textB l).isSome]∧Sl 1 v ((textB l).getD []).length (bytesV ((textB l).getD [])) Lf∧L=Lf ++ F):=by
 refine Fn.intro (args:=[.string s]) (RR:=Ret2 2 3 _) Tryz.func37 rfl rfl Tryz.ntmps37 (res2 Tryz.results37) ?_
 refine Bj (env2:=[(0,.string s)]) rfl<|Cr<|Ea rfl rfl<|Ea rfl rfl<|Ek3 0 2 3 rfl<|Cr<|Ea rfl rfl<|Ek4 0 2 3 4 rfl<|Al<|Cr<|Ea rfl rfl<|Ek5 0 2 3 4 5 rfl ?_
 refine As<|By (fun mm ee ll=>∃ (i:Nat),∃ (acc:List UInt8),∃ (v:Value),∃ (Lf:Frags),keeps ee [0,4,5]=some [(0,.string s),(4,v),(5,.int .i64 ((i:Nat):Int))]∧ll=Lf∧(i≤l.length)∧(textB l=(textB (l.drop i)).map (acc ++ ·))∧(Sl 1 v acc.length (bytesV acc) Lf)∧(acc.length≤i)∧mm=l.length - i) (_) ⟨0,[],_,[],rfl,rfl,by omega,by simp,Sl.nil 1,by simp,rfl⟩ ?_
 rintro m0 _ Lf ⟨i,acc,v,_,hk0,rfl,hi,ha,hsl,hal,hm0⟩
 refine Az _ hk0<|Al<|Cr<|Em rfl rfl<|Em rfl rfl<|Aa (S.lenStr rfl Tu9) rfl<|An (v:=.int .i64 ((l.length:Nat):Int)) (by rw [hs])<|Aa (Dq rfl rfl) rfl<|Ek4 0 4 5 10 rfl<|Bg rfl (fun h10 => ?_) (fun h10 => ?_)
 ·have hi3:i < l.length:=by omega
  have hc8:=l[i].toNat_lt
  have hget:=hg i hi3
  refine Ap<|Al<|As<|Cr<|Em rfl rfl<|Em rfl rfl<|Aa (S.ixStr rfl rfl hget Tu9) rfl<|Ea rfl rfl<|Ek5 0 4 5 6 10 rfl<|Dx (M:=fun ee ll=>∃ (i2:Nat),∃ (y:Nat),∃ (Lf:Frags),keeps ee [0,4,5,6]=some [(0,.string s),(4,v),(5,.int .i64 ((i2:Nat):Int)),(6,.int .u8 ((y:Nat):Int))]∧ll=Lf∧(y < 256)∧(i≤i2)∧(i2 < l.length)∧(textB (l.drop i)=if y=0 then none else (textB (l.drop (i2 + 1))).map (UInt8.ofNat y::·))∧(Sl 1 v acc.length (bytesV acc) Lf)) ?_ ?_
  ·refine Cr<|Em rfl rfl<|Aa (S.ge (b:=((128:Nat):Int)) rfl rfl) rfl<|Ek6 0 4 5 6 10 17 rfl<|Bg rfl (fun h17 => ?_) (fun h17 => ?_)
   ·have ha254:=and_le_r l[i].toNat 254
    refine Al<|Cr<|Em rfl rfl<|Aa (Ey (b:=((254:Nat):Int)) rfl rfl (N.and_u8 (by omega) (by omega))) rfl<|Aa (S.ne (b:=((194:Nat):Int)) rfl rfl) rfl<|Em rfl rfl<|Ek (fun g21 => ?_) (fun g21 => ?_)
    ·have hn:textB l=none:=by rw [ha,textB_bad hi3 (by omega) (.inl (by omega))]; rfl
     refine Ae 21 true rfl rfl rfl rfl<|Ae 21 true rfl rfl rfl rfl<|Ae 21 true rfl rfl rfl rfl<|Ae 21 true rfl rfl rfl rfl<|Ae 21 true rfl rfl rfl rfl<|Aa (Bz rfl rfl) rfl<|Em rfl rfl<|Ae 28 true rfl rfl rfl rfl<|Ae 28 true rfl rfl rfl rfl<|Ae 28 true rfl rfl rfl rfl<|Ae 28 true rfl rfl rfl rfl<|Ae 28 true rfl rfl rfl rfl ?_
     refine Ae 28 true rfl rfl rfl rfl<|Aa (Bz rfl rfl) rfl<|Ek7 0 4 5 6 10 17 35 rfl<|Hg rfl (rfl)<|Cr<|Ea rfl rfl<|Ea rfl rfl<|Ek9 0 2 3 4 5 6 10 17 35 rfl<|Bc ?_
     refine ⟨_,_,rfl,rfl,_,[],Lf,by rw [hn]; rfl,by rw [hn]; exact Sl.nil 1,rfl⟩
    refine Am 21 rfl rfl<|Em rfl rfl<|Am 21 rfl rfl<|Aa (Bl (b:=((1:Nat):Int)) rfl rfl (N.add64 (by omega))) rfl<|Am 21 rfl rfl<|Em rfl rfl<|Am 21 rfl rfl<|Aa (S.lenStr rfl Tu9) rfl<|An (v:=.int .i64 ((l.length:Nat):Int)) (by rw [hs])<|Am 21 rfl rfl<|Aa (Eg rfl rfl) rfl<|Aa (Bn rfl rfl) rfl ?_
    refine Em rfl rfl<|Ek (fun g28 => ?_) (fun g28 => ?_)
    ·have hn:textB l=none:=by rw [ha,textB_bad hi3 (by omega) (.inr (.inl (by omega)))]; rfl
     refine Ae 28 true rfl rfl rfl rfl<|Ae 28 true rfl rfl rfl rfl<|Ae 28 true rfl rfl rfl rfl<|Ae 28 true rfl rfl rfl rfl<|Ae 28 true rfl rfl rfl rfl<|Ae 28 true rfl rfl rfl rfl<|Aa (Bz rfl rfl) rfl<|Ek7 0 4 5 6 10 17 35 rfl<|Hg rfl (rfl)<|Cr<|Ea rfl rfl<|Ea rfl rfl ?_
     refine Ek9 0 2 3 4 5 6 10 17 35 rfl<|Bc ?_
     refine ⟨_,_,rfl,rfl,_,[],Lf,by rw [hn]; rfl,by rw [hn]; exact Sl.nil 1,rfl⟩
    have hi4:i + 1 < l.length:=by omega
    have hd8:=l[i + 1].toNat_lt
    have hget2:=hg (i + 1) hi4
    have hd192:=and_le_r l[i + 1].toNat 192
    have hd63:=and_le_r l[i + 1].toNat 63
    refine Am 28 rfl rfl<|Em rfl rfl<|Am 28 rfl rfl<|Em rfl rfl<|Am 28 rfl rfl<|Aa (Bl (b:=((1:Nat):Int)) rfl rfl (N.add64 (by omega))) rfl<|Am 28 rfl rfl<|Aa (S.ixStr rfl rfl hget2 Tu9) rfl<|Am 28 rfl rfl<|Aa (Ey (b:=((192:Nat):Int)) rfl rfl (N.and_u8 (by omega) (by omega))) rfl<|Am 28 rfl rfl<|Aa (S.ne (b:=((128:Nat):Int)) rfl rfl) rfl ?_
    refine Aa (Bn rfl rfl) rfl<|Ek7 0 4 5 6 10 17 35 rfl<|Bg rfl (fun h35 => ?_) (fun h35 => ?_)
    ·have hn:textB l=none:=by rw [ha,textB_bad hi3 (by omega) (.inr (.inr ⟨hi4,by omega⟩))]; rfl
     refine Cr<|Ea rfl rfl<|Ea rfl rfl<|Ek9 0 2 3 4 5 6 10 17 35 rfl<|Bc ?_
     refine ⟨_,_,rfl,rfl,_,[],Lf,by rw [hn]; rfl,by rw [hn]; exact Sl.nil 1,rfl⟩
    refine Ap<|Cr<|Em rfl rfl<|Aa (Bl (b:=((1:Nat):Int)) rfl rfl (N.add64 (by omega))) rfl<|Ea rfl rfl<|Ek7 0 4 5 6 10 17 35 rfl<|Ak<|Em rfl rfl<|Aa (Fu (b:=((6:Nat):Int)) rfl rfl (by omega) (N.shl_u8 _ _)) rfl<|Em rfl rfl<|Em rfl rfl<|Aa (S.ixStr rfl rfl hget2 Tu9) rfl ?_
    refine Aa (Ey (b:=((63:Nat):Int)) rfl rfl (N.and_u8 (by omega) (by omega))) rfl<|Aa (S.or rfl rfl (N.or_u8 (by omega) (by omega))) rfl<|Ea rfl rfl<|Ek7 0 4 5 6 10 17 35 rfl ?_
    exact ⟨i + 1,((l[i].toNat <<< 6) % 256 ||| (l[i + 1].toNat &&& 63)),Lf,rfl,rfl,or_256 (by omega) (by omega),by omega,by omega,textB_big hi4 (by omega) (by omega) (by omega),hsl⟩
   refine Ap ?_
   exact ⟨i,l[i].toNat,Lf,rfl,rfl,by omega,by omega,by omega,by rw [textB_small hi3 (by omega)]; simp,hsl⟩
  rintro _ Lf ⟨i2,y,_,hq11,rfl,hy,hii,hi2,hst,hsl⟩
  refine Az _ hq11<|Al<|Cr<|Em rfl rfl<|Aa (Eg (b:=((0:Nat):Int)) rfl rfl) rfl<|Ek5 0 4 5 6 46 rfl<|Bg rfl (fun h46 => ?_) (fun h46 => ?_)
  ·have hn:textB l=none:=by rw [ha,hst,if_pos (by omega)]; rfl
   refine Cr<|Ea rfl rfl<|Ea rfl rfl<|Ek7 0 2 3 4 5 6 46 rfl<|Bc ?_
   refine ⟨_,_,rfl,rfl,_,[],Lf,by rw [hn]; rfl,by rw [hn]; exact Sl.nil 1,rfl⟩
  refine Ap<|Ak<|Em rfl rfl<|Em rfl rfl ?_
  refine Aj (Bv (vs:=[.int .u8 ((y:Nat):Int)]) (e:=5) [(0,.int .u8 ((y:Nat):Int))] rfl (fun w=>by simp [Instr.buildSlice,Instr.fill,Value.cells,newRow,Tryz.runUnderlying25,Tryz.typeInfo5]; rw [arr1])) rfl ?_
  rintro _ _ ⟨yb,rfl,rfl⟩
  refine Fy (Same.perm (List.perm_append_singleton _ Lf).symm) ?_
  refine Aj (Hq (L:=[⟨yb,0,_⟩]) (xs:=acc) (ys:=[UInt8.ofNat y]) (Lf:=Lf) rfl rfl hsl rfl (.inr ⟨yb,0,rfl,Reads.mem (k:=0) (List.mem_append_right _ (.head _)) (by rw [byteY hy]; rfl)⟩) (by simp only [List.length_cons,List.length_nil]; omega)) rfl ?_
  rintro v2 _ ⟨Lf2,hsl2,rfl⟩
  refine E.lose (Same.refl _)<|Ea rfl rfl<|Ek5 0 4 5 6 46 rfl<|Ak<|Em rfl rfl<|Aa (Bl (b:=((1:Nat):Int)) rfl rfl (N.add64 (by omega))) rfl<|Ea rfl rfl<|Ek5 0 4 5 6 46 rfl ?_
  refine ⟨_,?_,i2 + 1,_,v2,Lf2,rfl,rfl,by omega,map_snoc (by rw [ha,hst,if_neg (by omega)]),hsl2,by simp only [List.length_append,List.length_cons,List.length_nil]; omega,rfl⟩; omega
 have hi3:i=l.length:=by omega
 have hend:textB l=some acc:=by rw [ha,hi3,List.drop_length]; simp [textB]
 refine Bt rfl<|Cr<|Em rfl rfl<|Ea rfl rfl<|Ea rfl rfl<|Ek6 0 2 3 4 5 10 rfl<|Bc ?_
 exact ⟨_,_,rfl,rfl,_,Lf,[],by rw [hend]; rfl,by rw [hend]; exact hsl,(List.append_nil _).symm⟩
theorem str_get (s:ByteArray) (i:Nat) (h:i < s.data.toList.length):s[i]? = some s.data.toList[i]:=by
  have h2:i < s.size:=by simpa using h
  rw [getElem?_pos s i h2]
  simp
  rfl
theorem text_spec {K:Known} (s:ByteArray) (hl:s.size≤140737488355327):Fn Tryz.prog K 37 #[.string s] [] (fun r L=>∃ v,r=.tuple #[v,.bool (textB s.data.toList).isSome]∧Sl 1 v ((textB s.data.toList).getD []).length (bytesV ((textB s.data.toList).getD [])) L):=by
  have hsz:s.size=s.data.toList.length:=by simp
  refine Fn.lose (text_walk s s.data.toList (str_get s) hsz (by omega)) ?_
  rintro r L ⟨v,Lf,F,rfl,h,rfl⟩
  exact ⟨Lf,F,Same.refl _,v,rfl,h⟩
def Bs (v:Value) (xs:List UInt8) (g:Frag):Prop:=(xs=[]∧v=.slice none 0 0∧g.cs=[]) ∨ Sl 1 v xs.length (bytesV xs) [g]
theorem Sl.bs {v:Value} {xs:List UInt8} {Lf:Frags} (h:Sl 1 v xs.length (bytesV xs) Lf) (x:Frag) (F:Frags):∃ g,Bs v xs g∧Same (Lf ++ x::F) (g::x::F):=by
  rcases h.2 with ⟨h1,h2,rfl⟩ | ⟨b,o,c,cs,h1,rfl,h3,h4,h5,h6⟩
  · exact ⟨⟨x.b,0,[]⟩,.inl ⟨List.eq_nil_of_length_eq_zero h2,h1,rfl⟩,Same.addEmpty (List.mem_cons_self ..) 0⟩
  · exact ⟨_,.inr ⟨h.1,.inr ⟨b,o,c,cs,h1,rfl,h3,h4,h5,h6⟩⟩,Same.refl _⟩
theorem text_bs {K:Known} (s:ByteArray) (hl:s.size≤140737488355327) (x:Frag) (F:Frags):Fn Tryz.prog K 37 #[.string s] (x::F) (fun r L=>∃ v g,Bs v ((textB s.data.toList).getD []) g∧r=.tuple #[v,.bool (textB s.data.toList).isSome]∧L=g::x::F):=by
  refine Fn.sameR (Fn.frame (F:=x::F) (text_spec s hl)) ?_
  rintro r _ ⟨L1,⟨v,rfl,h⟩,rfl⟩
  obtain ⟨g,h1,h2⟩:=h.bs x F
  exact ⟨_,h2,v,g,h1,rfl,rfl⟩
theorem text_any {K:Known} (s:ByteArray) (hl:s.size≤140737488355327):Fn Tryz.prog K 37 #[.string s] [] (fun r L=>∃ a c,r=.tuple #[.slice a ((textB s.data.toList).getD []).length c,.bool (textB s.data.toList).isSome]∧L=[]):=by
  refine Fn.lose (text_spec s hl) ?_
  rintro r L ⟨v,rfl,h⟩
  refine ⟨[],L,Same.refl _,?_⟩
  rcases h.2 with ⟨h1,h2,_⟩ | ⟨b,o,c,cs,h1,_⟩
  · exact ⟨none,0,by rw [h1,h2],rfl⟩
  · exact ⟨_,c,by rw [h1],rfl⟩
theorem numL_snoc (x j:Nat):numL x (j + 1)=numL x j ++ [UInt8.ofNat (x / 2 ^ (8 * j))]:=by
  unfold numL; rw [List.range_succ,List.map_append]; rfl
theorem Bd (x n:Nat):(numL x n).length=n:=by simp [numL]
theorem num_set {x n j:Nat} (h:j < n):(bytesV (numL x j) ++ List.replicate (n - j) (Value.int .u8 0)).set j (.int .u8 (((x >>> (8 * j)) % 256:Nat):Int))=bytesV (numL x (j + 1)) ++ List.replicate (n - (j + 1)) (Value.int .u8 0):=by
  have hl:(bytesV (numL x j)).length=j:=by rw [Bi,Bd]
  rw [List.set_append_right _ _ (by omega),hl,Nat.sub_self,show n - j=(n - (j + 1)) + 1 by omega,List.replicate_succ,List.set_cons_zero,numL_snoc,Ei,List.append_assoc]
  have:bytesV [UInt8.ofNat (x / 2 ^ (8 * j))]=[.int .u8 (((x >>> (8 * j)) % 256:Nat):Int)]:=by
    show [Value.int .u8 (((UInt8.ofNat (x / 2 ^ (8 * j))).toNat:Nat):Int)]=_
    rw [UInt8.toNat_ofNat',Nat.shiftRight_eq_div_pow]
  rw [this]; rfl
theorem number_spec {K:Known} (x n:Nat) (hx:x < 9223372036854775808) (hn:n≤8):Fn Tryz.prog K 27 #[.int .i64 ((x:Nat):Int),.int .i64 ((n:Nat):Int)] ([]) (fun r L=>∃ g,Sl 1 r (numL x n).length (bytesV (numL x n)) [g]∧L=[g]):=by
 refine Fn.intro (args:=[.int .i64 ((x:Nat):Int),.int .i64 ((n:Nat):Int)]) (RR:=Ret1 4 _) Tryz.func27 rfl rfl Tryz.ntmps27 (res1 Tryz.results27) ?_
 refine Bj (env2:=[(0,.int .i64 ((x:Nat):Int)),(1,.int .i64 ((n:Nat):Int))]) rfl<|Cr<|Ea rfl rfl<|Ek3 0 1 4 rfl<|Cr<|Em rfl rfl ?_
 refine Aj (Hv (l:=n) (c:=n) (bytes:=1) Tu25 infoB (z:=.int .u8 0) rfl rfl rfl rfl rfl rfl (Nat.le_refl _) (by omega) (by omega)) rfl ?_; rintro _ _ ⟨b,rfl,rfl⟩; refine Ab (L2:=[_]) rfl ?_
 refine Ea rfl rfl<|Ek3 0 4 5 rfl<|Al<|Cr<|Em rfl rfl<|Aa (Bf rfl Tu25) rfl<|Em rfl rfl<|Ek5 0 4 5 10 11 rfl<|As<|By (fun mm ee ll=>∃ (j:Nat),keeps ee [0,5,10,11]=some [(0,.int .i64 ((x:Nat):Int)),(5,.slice (some ⟨b,0,none⟩) (n) (n)),(10,.int .i64 ((n:Nat):Int)),(11,.int .i64 ((j:Nat):Int))]∧ll=[⟨b,0,bytesV (numL x j) ++ List.replicate (n - j) (.int .u8 0)⟩]∧(j≤n)∧mm=n - j) (_) ⟨0,rfl,rfl,by omega,rfl⟩ ?_
 rintro m0 _ _ ⟨j,hk0,rfl,hj,hm0⟩
 refine Az _ hk0<|Cr<|Aa (Dq rfl rfl) rfl<|Ek5 0 5 10 11 12 rfl<|Al<|Bg rfl (fun h12 => ?_) (fun h12 => ?_)
 ·have hj2:j < n:=by omega
  refine Ap<|Al<|As<|Cr<|Em rfl rfl<|Ea rfl rfl<|Ek6 0 5 6 10 11 12 rfl<|Ak<|Em rfl rfl<|Em rfl rfl<|Em rfl rfl<|Em rfl rfl ?_
  refine Aa (S.mul (a:=((8:Nat):Int)) rfl rfl (N.mul64 (by omega))) rfl<|Aa (Fk rfl rfl (by omega) (N.shr64 (by omega) _)) rfl<|Aa (Bu rfl Tu2 Tu5 (N.mod_u8 _)) rfl<|Aa (Bm rfl rfl (by omega) Tu25 Tz5) rfl ?_
  refine Ao (Aq 0 (k:=j * 1) rfl rfl rfl rfl (by rw [Nat.blt_eq,List.length_append,Bi,Bd,List.length_replicate]; omega) Tz5) ?_
  rintro _ _ ⟨rfl,rfl⟩
  refine Ab (L2:=[⟨b,0,bytesV (numL x (j + 1)) ++ List.replicate (n - (j + 1)) (.int .u8 0)⟩]) (by rw [Nat.mul_one]; exact congrArg (fun q=>[(⟨b,0,q⟩:Frag)]) (num_set hj2)) ?_
  refine Ek6 0 5 6 10 11 12 rfl<|Ak<|Aa (Bl (b:=((1:Nat):Int)) rfl rfl (N.add64 (by omega))) rfl<|Em rfl rfl<|Ek6 0 5 6 10 11 12 rfl ?_
  refine ⟨_,?_,j + 1,rfl,rfl,by omega,rfl⟩; omega
 have hj2:j=n:=by omega
 subst hj2
 rw [Nat.sub_self]
 refine Bt rfl<|Cr<|Em rfl rfl<|Ea rfl rfl<|Ek6 0 4 5 10 11 12 rfl<|Bc ?_
 exact ⟨_,rfl,_,⟨by rw [Bi,Nat.mul_one],.inr ⟨b,0,j,_,by rw [Bd],rfl,by rw [List.length_append,Bi,Bd,List.length_replicate]; omega,by rw [Bd]; exact Nat.le_refl _,by omega,by rw [Bd,Nat.mul_one]; exact List.take_left' (by rw [Bi,Bd])⟩⟩,rfl⟩
theorem zz2_spec {K:Known} (n1 n2:ByteArray) (ea:Option Addr) (en ec:Nat) (mo os:Int):Fn Tryz.prog K 35 #[.agg #[.string n1,.string n2,.slice ea en ec,.int .i64 mo,.int .u8 os]] ([]) (fun r L=>∃ q,r=.bool q∧(q=true→n1.size≤2147483647∧n2.size≤2147483647∧en≤2147483647)):=by
 refine Fn.intro (args:=[.agg #[.string n1,.string n2,.slice ea en ec,.int .i64 mo,.int .u8 os]]) (RR:=Ret1 2 _) Tryz.func35 rfl rfl Tryz.ntmps35 (res1 Tryz.results35) ?_
 refine Bj (env2:=[(0,.agg #[.string n1,.string n2,.slice ea en ec,.int .i64 mo,.int .u8 os])]) rfl<|Cr ?_
 refine Aj (X.box rfl) rfl ?_; rintro _ _ ⟨b1,rfl,rfl⟩; refine Ab (L2:=[_]) rfl ?_
 refine Ea rfl rfl<|Ek2 1 2 rfl<|Al<|Cr<|Aa (Ac rfl fa32_0) rfl<|Ag (Ai 0 (k:=0) rfl rfl rfl Ta9) rfl<|Aa (S.lenStr rfl Tu9) rfl<|Aa (Fl (b:=((2147483647:Nat):Int)) rfl rfl) rfl<|Ek3 1 2 6 rfl<|Bg rfl (fun h6 => ?_) (fun h6 => ?_)
 ·refine Cr<|Ea rfl rfl<|Ek3 1 2 6 rfl<|Bc ?_
  exact ⟨_,rfl,_,rfl,fun h=>by first | (refine ⟨?_,?_,?_⟩ <;> omega) | cases h⟩
 refine Ap<|Al<|Cr<|Aa (Ac rfl fa32_1) rfl<|Ag (Ai 0 (k:=1) rfl rfl rfl Ta9) rfl<|Aa (S.lenStr rfl Tu9) rfl<|Aa (Fl (b:=((2147483647:Nat):Int)) rfl rfl) rfl<|Ek4 1 2 6 10 rfl<|Bg rfl (fun h10 => ?_) (fun h10 => ?_)
 ·refine Cr<|Ea rfl rfl<|Ek4 1 2 6 10 rfl<|Bc ?_
  exact ⟨_,rfl,_,rfl,fun h=>by first | (refine ⟨?_,?_,?_⟩ <;> omega) | cases h⟩
 refine Ap<|Al<|Cr<|Aa (Ac rfl fa32_2) rfl<|Ag (Ai 0 (k:=2) rfl rfl rfl Ta25) rfl<|Aa (Bf rfl Tu25) rfl<|Aa (Fl (b:=((2147483647:Nat):Int)) rfl rfl) rfl<|Ek5 1 2 6 10 14 rfl<|Bg rfl (fun h14 => ?_) (fun h14 => ?_)
 ·refine Cr<|Ea rfl rfl<|Ek5 1 2 6 10 14 rfl<|Bc ?_
  exact ⟨_,rfl,_,rfl,fun h=>by first | (refine ⟨?_,?_,?_⟩ <;> omega) | cases h⟩
 refine Ap<|Cr<|Ea rfl rfl<|Ek5 1 2 6 10 14 rfl<|Bc ?_
 exact ⟨_,rfl,_,rfl,fun h=>by first | (refine ⟨?_,?_,?_⟩ <;> omega) | cases h⟩
theorem zz4_spec {K:Known} (wh:Int) (a1 a2 a3:Option Addr) (m1 k1 m2 k2 m3 k3:Nat):Fn Tryz.prog K 52 #[.agg #[.int .i64 wh,.slice a1 m1 k1,.slice a2 m2 k2,.slice a3 m3 k3]] ([]) (fun r L=>∃ q,r=.bool q):=by
 refine Fn.intro (args:=[.agg #[.int .i64 wh,.slice a1 m1 k1,.slice a2 m2 k2,.slice a3 m3 k3]]) (RR:=Ret1 2 _) Tryz.func52 rfl rfl Tryz.ntmps52 (res1 Tryz.results52) ?_
 refine Bj (env2:=[(0,.agg #[.int .i64 wh,.slice a1 m1 k1,.slice a2 m2 k2,.slice a3 m3 k3])]) rfl<|Cr ?_
 refine Aj (X.box rfl) rfl ?_; rintro _ _ ⟨b1,rfl,rfl⟩; refine Ab (L2:=[_]) rfl ?_
 refine Ea rfl rfl<|Ek2 1 2 rfl<|Al<|Cr<|Aa (Ac rfl fa73_1) rfl<|Ag (Ai 0 (k:=1) rfl rfl rfl Ta25) rfl<|Aa (Bf rfl Tu25) rfl<|Aa (Fl (b:=((2147483647:Nat):Int)) rfl rfl) rfl<|Ek3 1 2 6 rfl<|Bg rfl (fun h6 => ?_) (fun h6 => ?_)
 ·refine Cr<|Ea rfl rfl<|Ek3 1 2 6 rfl<|Bc ?_
  exact ⟨_,rfl,_,rfl⟩
 refine Ap<|Al<|Cr<|Aa (Ac rfl fa73_2) rfl<|Ag (Ai 0 (k:=2) rfl rfl rfl Tryz.isAgg71) rfl<|Aa (Bf rfl Tu71) rfl<|Aa (Fl (b:=((2147483647:Nat):Int)) rfl rfl) rfl<|Ek4 1 2 6 10 rfl<|Bg rfl (fun h10 => ?_) (fun h10 => ?_)
 ·refine Cr<|Ea rfl rfl<|Ek4 1 2 6 10 rfl<|Bc ?_
  exact ⟨_,rfl,_,rfl⟩
 refine Ap<|Al<|Cr<|Aa (Ac rfl fa73_3) rfl<|Ag (Ai 0 (k:=3) rfl rfl rfl Ta23) rfl<|Aa (Bf rfl Tu23) rfl<|Aa (Fl (b:=((2147483647:Nat):Int)) rfl rfl) rfl<|Ek5 1 2 6 10 14 rfl<|Bg rfl (fun h14 => ?_) (fun h14 => ?_)
 ·refine Cr<|Ea rfl rfl<|Ek5 1 2 6 10 14 rfl<|Bc ?_
  exact ⟨_,rfl,_,rfl⟩
 refine Ap<|Cr<|Ea rfl rfl<|Ek5 1 2 6 10 14 rfl<|Bc ?_
 exact ⟨_,rfl,_,rfl⟩
theorem zz4_none {K:Known} (wh:Int) (a1 a2 a3:Option Addr) (m1 k1 m2 k2 m3 k3:Nat):Fn Tryz.prog K 52 #[.agg #[.int .i64 wh,.slice a1 m1 k1,.slice a2 m2 k2,.slice a3 m3 k3]] [] (fun r L=>∃ q,r=.bool q∧L=[]):=by
  refine Fn.lose (zz4_spec wh a1 a2 a3 m1 k1 m2 k2 m3 k3) ?_
  rintro r L ⟨q,rfl⟩
  exact ⟨[],L,Same.refl _,q,rfl,rfl⟩
theorem zz2_none {K:Known} (n1 n2:ByteArray) (ea:Option Addr) (en ec:Nat) (mo os:Int):Fn Tryz.prog K 35 #[.agg #[.string n1,.string n2,.slice ea en ec,.int .i64 mo,.int .u8 os]] [] (fun r L=>∃ q,r=.bool q∧(q=true→n1.size≤2147483647∧n2.size≤2147483647∧en≤2147483647)∧L=[]):=by
  refine Fn.lose (zz2_spec n1 n2 ea en ec mo os) ?_
  rintro r L ⟨q,rfl,h⟩
  exact ⟨[],L,Same.refl _,q,rfl,h,rfl⟩
theorem zz3_some {K:Known} (pb po n c:Nat) (hB:∀ i,i < n→∃ wh a1 m1 k1 a2 m2 k2 a3 m3 k3,∀ j u,([.int .i64 wh,.slice a1 m1 k1,.slice a2 m2 k2,.slice a3 m3 k3]:List Value)[j]? = some u→cellAt K pb (po + i * 4 + j)=some u):Fn Tryz.prog K 36 #[.slice (some ⟨pb,po,none⟩) (n) (c)] ([]) (fun r L=>∃ q,r=.bool q∧L=[]):=by
 refine Fn.intro (args:=[.slice (some ⟨pb,po,none⟩) (n) (c)]) (RR:=Ret1 2 _) Tryz.func36 rfl rfl Tryz.ntmps36 (res1 Tryz.results36) ?_
 refine Bj (env2:=[(0,.slice (some ⟨pb,po,none⟩) (n) (c))]) rfl<|Cr<|Ea rfl rfl<|Ek2 0 2 rfl<|Al<|Cr<|Em rfl rfl<|Aa (Bf rfl Tu33) rfl<|Aa (Fl (b:=((2147483647:Nat):Int)) rfl rfl) rfl<|Ek3 0 2 7 rfl<|Bg rfl (fun h7 => ?_) (fun h7 => ?_)
 ·refine Cr<|Ea rfl rfl<|Ek3 0 2 7 rfl<|Bc ?_
  exact ⟨_,rfl,_,rfl,rfl⟩
 refine Ap<|Al<|Cr<|Em rfl rfl<|Aa (Bf rfl Tu33) rfl<|Em rfl rfl<|Ek6 0 2 7 8 9 10 rfl<|As<|By (fun mm ee ll=>∃ (i:Nat),keeps ee [8,9,10]=some [(8,.slice (some ⟨pb,po,none⟩) (n) (c)),(9,.int .i64 ((n:Nat):Int)),(10,.int .i64 ((i:Nat):Int))]∧ll=[]∧(i≤n)∧mm=n - i) (_) ⟨0,rfl,rfl,by omega,rfl⟩ ?_
 rintro m0 _ _ ⟨i,hk0,rfl,hi,hm0⟩
 refine Az _ hk0<|Cr<|Aa (Dq rfl rfl) rfl<|Ek4 8 9 10 11 rfl<|Al<|Bg rfl (fun h11 => ?_) (fun h11 => ?_)
 ·have hi2:i < n:=by omega
  obtain ⟨wh,a1,m1,k1,a2,m2,k2,a3,m3,k3,hcell⟩:=hB i hi2
  refine Ap<|Al<|As<|Cr<|Aa (Bm rfl rfl hi2 Tu33 Tz73) rfl<|Ag (Fp (vs:=[.int .i64 wh,.slice a1 m1 k1,.slice a2 m2 k2,.slice a3 m3 k3]) rfl hcell rfl Tryz.isAgg73 Tz73) rfl ?_
  refine Aj (Dr Tryz.zeroValue73) rfl ?_; rintro _ _ ⟨b4,rfl,rfl⟩; refine Ab (L2:=[_]) rfl ?_
  refine Ao (Bp 0 (k:=0) rfl rfl rfl rfl rfl rfl Tz73 rfl) ?_; rintro _ _ ⟨rfl,rfl⟩; refine Ab (L2:=[_]) rfl ?_
  refine Ek5 4 8 9 10 11 rfl<|Cr<|Ag (Df 0 (k:=0) rfl rfl rfl rfl Tryz.isAgg73 Tz73) rfl<|Du [] (A:=[]) rfl ?_
  refine Aj (OpX.pick [] (F:=[]) rfl (Ax rfl Tryz.call52 (zz4_none wh a1 a2 a3 m1 k1 m2 k2 m3 k3))) rfl ?_; rintro _ _ ⟨_,⟨q4,rfl,rfl⟩,rfl⟩; refine Ab (L2:=[]) rfl ?_
  refine Aa (Gl rfl) rfl<|Ek6 4 8 9 10 11 16 rfl<|Ed rfl (fun h16 => ?_) (fun h16 => ?_)
  ·refine Cr<|Ea rfl rfl<|Ek7 2 4 8 9 10 11 16 rfl<|Bc ?_
   exact ⟨_,rfl,_,rfl,rfl⟩
  refine Ap<|Ak<|Aa (Bl (b:=((1:Nat):Int)) rfl rfl (N.add64 (by omega))) rfl<|Em rfl rfl<|Ek6 4 8 9 10 11 16 rfl ?_
  refine ⟨_,?_,i + 1,rfl,rfl,by omega,rfl⟩; omega
 refine Bt rfl<|Cr<|Ea rfl rfl<|Ek5 2 8 9 10 11 rfl<|Bc ?_
 exact ⟨_,rfl,_,rfl,rfl⟩
theorem zz3_nil {K:Known} (a:Option Addr) (c:Nat):Fn Tryz.prog K 36 #[.slice a 0 c] ([]) (fun r L=>∃ q,r=.bool q∧L=[]):=by
 refine Fn.intro (args:=[.slice a 0 c]) (RR:=Ret1 2 _) Tryz.func36 rfl rfl Tryz.ntmps36 (res1 Tryz.results36) ?_
 refine Bj (env2:=[(0,.slice a 0 c)]) rfl<|Cr<|Ea rfl rfl<|Ek2 0 2 rfl<|Al<|Cr<|Em rfl rfl<|Aa (Bf rfl Tu33) rfl<|Aa (Fl (b:=((2147483647:Nat):Int)) rfl rfl) rfl<|Ek3 0 2 7 rfl<|Bg rfl (fun h7 => ?_) (fun h7 => ?_)
 ·refine Cr<|Ea rfl rfl<|Ek3 0 2 7 rfl<|Bc ?_
  exact ⟨_,rfl,_,rfl,rfl⟩
 refine Ap<|Al<|Cr<|Em rfl rfl<|Aa (Bf rfl Tu33) rfl<|Em rfl rfl<|Ek6 0 2 7 8 9 10 rfl<|As<|By (fun mm ee ll=>∃ (i:Nat),keeps ee [8,9,10]=some [(8,.slice a 0 c),(9,.int .i64 ((0:Nat):Int)),(10,.int .i64 ((i:Nat):Int))]∧ll=[]∧mm=0) (_) ⟨0,rfl,rfl,rfl⟩ ?_
 rintro m0 _ _ ⟨i,hk0,rfl,hm0⟩
 refine Az _ hk0<|Cr<|Aa (Dq rfl rfl) rfl<|Ek4 8 9 10 11 rfl<|Al<|Bg rfl (fun h11 => ?_) (fun h11 => ?_)
 ·exact absurd h11 (by omega)
 refine Bt rfl<|Cr<|Ea rfl rfl<|Ek5 2 8 9 10 11 rfl<|Bc ?_
 exact ⟨_,rfl,_,rfl,rfl⟩
theorem zz3_spec {K:Known} {vb:Value} (h:BlocksA K vb):Fn Tryz.prog K 36 #[vb] [] (fun r L=>∃ q,r=.bool q∧L=[]):=by
  obtain ⟨a,n,c,rfl,h⟩:=h
  by_cases h0:n=0
  · subst h0; exact zz3_nil a c
  · obtain ⟨b,o,rfl,_⟩:=h 0 (by omega)
    refine zz3_some b o n c fun i hi => ?_
    obtain ⟨b',o',e,h1⟩:=h i hi
    simp only [Option.some.injEq,Addr.mk.injEq,and_true] at e
    obtain ⟨rfl,rfl⟩:=e
    exact h1
section
variable {P:Program} {K:Known} {n:Nat} {env:Env} {L:Frags}
theorem D.forget {ops:Array Oper} {ds:List Nat} {p:Plan} {A F:Frags} {N:Post} (is:List Nat) (hp:picks is L=some (A,F)) (h:wpD P K n ops ds p env A N):wpD P K n ops ds p env L N:=by
  intro fuel listed l h0 h00 h1 h2 a w hf hw Nw k
  have hq:=Bq hp
  have hA:Agree K (A ++ F) w.heap:=hw.perm hq
  exact h fuel listed l h0 h00 h1 h2 a w hf hA.drop Nw fun e l a' w' h f t=>k e l a' w' h f ((To.frame hA t).drop.permL hq)
end
section
variable {K:Known} {n:Nat} {env:Env} {L:Frags} {ty:TypeId}
theorem Dk {x y:Operand} {v:Value} {k yc:Nat} {ya:Option Addr} {xs ys:List UInt8} {g:Frag} {F:Frags}
    (hx:ev? env x=some v) (hy:ev? env y=some (.slice ya k yc)) (hS:Sl 1 v xs.length (bytesV xs) [g]) (hk:k=ys.length)
    (hread:ys=[] ∨ ∃ yb yo,ya=some ⟨yb,yo,none⟩∧Reads K (g::F) yb yo (bytesV ys)) (h0:0 < xs.length) (hb:xs.length + ys.length≤140737488355328) :
    OpX Tryz.prog K n (.call { callee:=.builtin .append,args:=#[x,y],argTypes:=#[25,25] }) ty env (g::F) fun v' L' =>
      ∃ g',Sl 1 v' (xs ++ ys).length (bytesV (xs ++ ys)) [g']∧L'=g'::F:=by
  refine OpX.mono (Hq (Lf:=[g]) (L:=F) hx hy hS hk hread hb) ?_
  rintro v' L' ⟨Lf',h1,rfl⟩
  obtain ⟨b,o,c,cs,rfl,rfl,h2,h3,h4,h5⟩:=h1.one (by rw [List.length_append]; omega)
  exact ⟨_,h1,rfl⟩
end
def RdB (a:Option Addr) (xs:List UInt8) (g:Frag):Prop:=∀ (K:Known) (L:Frags),g ∈ L→(xs=[] ∨ ∃ b o,a=some ⟨b,o,none⟩∧Reads K L b o (bytesV xs))
theorem Bs.rd {v:Value} {xs:List UInt8} {g:Frag} (h:Bs v xs g):∃ a c,v=.slice a xs.length c∧RdB a xs g:=by
  rcases h with ⟨h1,h2,_⟩ | h
  · subst h1; exact ⟨none,0,h2,fun _ _ _=>.inl rfl⟩
  · rcases h.2 with ⟨h1,h2,_⟩ | ⟨b,o,c,cs,h1,h2,h3,h4,h5,h6⟩
    · have hx:=List.eq_nil_of_length_eq_zero h2
      exact ⟨none,0,by rw [h1,h2],fun _ _ _=>.inl hx⟩
    · simp only [List.cons.injEq,and_true] at h2
      subst h2
      rw [Nat.mul_one] at h6
      exact ⟨_,c,h1,fun K L hL=>.inr ⟨b,o,rfl,Reads.mem (k:=0) hL (by rw [List.drop_zero,Bi]; exact h6)⟩⟩
theorem Sl.rd {v:Value} {xs:List UInt8} {g:Frag} (h:Sl 1 v xs.length (bytesV xs) [g]):∃ a c,v=.slice a xs.length c∧RdB a xs g:=Bs.rd (.inr h)
theorem text_made {K:Known} (s:ByteArray) (xs:List UInt8) (hx:textB s.data.toList=some xs) (hl:s.size≤140737488355327) (x:Frag) (F:Frags) :
    Fn Tryz.prog K 37 #[.string s] (x::F) (fun r L=>∃ a c g,RdB a xs g∧r=.tuple #[.slice a xs.length c,.bool true]∧L=g::x::F):=by
  refine Fn.mono (text_bs s hl x F) ?_
  rintro r L ⟨v,g,h,rfl,rfl⟩
  rw [hx] at h ⊢
  obtain ⟨a,c,rfl,h2⟩:=Bs.rd (xs:=xs) h
  exact ⟨a,c,g,h2,rfl,rfl⟩
theorem Fq {K:Known} (x n:Nat) (hx:x < 9223372036854775808) (hn:n≤8):Fn Tryz.prog K 27 #[.int .i64 ((x:Nat):Int),.int .i64 ((n:Nat):Int)] [] (fun r L=>∃ a c g,RdB a (numL x n) g∧r=.slice a (numL x n).length c∧L=[g]):=by
  refine Fn.mono (number_spec x n hx hn) ?_
  rintro r L ⟨g,h,rfl⟩
  obtain ⟨a,c,rfl,h2⟩:=h.rd
  exact ⟨a,c,g,h2,rfl,rfl⟩
theorem check_own {K:Known} {v:Value} {xs:List UInt8} {g:Frag} (h:Sl 1 v xs.length (bytesV xs) [g]) (h0:0 < xs.length) (hlen:xs.length≤140737488355328) (F:Frags):Fn Tryz.prog K 28 #[v] (g::F) (fun r L=>r=.int .u32 ((crcOn IEEE 0 xs:Nat):Int)∧L=g::F):=by
  obtain ⟨b,o,c,cs,rfl,h2,h3,h4,h5,h6⟩:=h.one h0
  simp only [List.cons.injEq,and_true] at h2
  subst h2
  rw [Nat.mul_one] at h6
  refine Fn.stillR fun w hw => ?_
  have hr:Reads K (⟨b,o,cs⟩::F) b o (bytesV xs):=Reads.mem (k:=0) (.head _) (by rw [List.drop_zero,Bi]; exact h6)
  exact Fn.mono (check_spec b o c xs (hr.kb hw) (by omega)) fun r L h=>h.1
theorem fits_walk {K:Known} (n1 n2:ByteArray) (ea:Option Addr) (en ec:Nat) (mo os:Int) (h1:n1.size≤140737488355327) (h2:n2.size≤140737488355327):Fn Tryz.prog K 19 #[.agg #[.string n1,.string n2,.slice ea en ec,.int .i64 mo,.int .u8 os]] ([]) (fun r L=>∃ q,r=.bool q∧(q=true→(textB n1.data.toList).isSome=true∧(textB n2.data.toList).isSome=true∧((textB n1.data.toList).getD []).length < 512∧((textB n2.data.toList).getD []).length < 512∧en≤65535∧0≤mo∧mo < 4294967296)):=by
 refine Fn.intro (args:=[.agg #[.string n1,.string n2,.slice ea en ec,.int .i64 mo,.int .u8 os]]) (RR:=Ret1 2 _) Tryz.func19 rfl rfl Tryz.ntmps19 (res1 Tryz.results19) ?_
 refine Bj (env2:=[(0,.agg #[.string n1,.string n2,.slice ea en ec,.int .i64 mo,.int .u8 os])]) rfl<|Cr ?_
 refine Aj (X.box rfl) rfl ?_; rintro _ _ ⟨b1,rfl,rfl⟩; refine Ab (L2:=[_]) rfl ?_
 refine Ea rfl rfl<|Ek2 1 2 rfl<|Cr<|Aa (Ac rfl fa32_0) rfl<|Ag (Ai 0 (k:=0) rfl rfl rfl Ta9) rfl ?_
 refine Aj (OpX.pick [] (F:=[_]) rfl (Ax rfl Tryz.call37 (text_any n1 h1))) rfl ?_; rintro _ _ ⟨_,⟨ta,tc,rfl,rfl⟩,rfl⟩; refine Ab (L2:=[_]) rfl ?_
 refine Em rfl rfl<|Aa (Bh rfl rfl) rfl<|Aa (Bh rfl rfl) rfl<|Ea rfl rfl<|Ea rfl rfl<|Ek4 1 2 3 4 rfl<|Cr<|Aa (Ac rfl fa32_1) rfl<|Ag (Ai 0 (k:=1) rfl rfl rfl Ta9) rfl ?_
 refine Aj (OpX.pick [] (F:=[_]) rfl (Ax rfl Tryz.call37 (text_any n2 h2))) rfl ?_; rintro _ _ ⟨_,⟨ta2,tc2,rfl,rfl⟩,rfl⟩; refine Ab (L2:=[_]) rfl ?_
 refine Em rfl rfl<|Aa (Bh rfl rfl) rfl<|Aa (Bh rfl rfl) rfl<|Ea rfl rfl<|Ea rfl rfl<|Ek6 1 2 3 4 5 6 rfl<|Cr<|Em rfl rfl<|Em rfl rfl<|Hr (fun g20 => ?_) (fun g20 => ?_)
 ·refine Am 20 rfl rfl<|Em rfl rfl<|Aa (Bz rfl rfl) rfl<|Em rfl rfl<|Hr (fun g23 => ?_) (fun g23 => ?_)
  ·refine Am 23 rfl rfl<|Em rfl rfl<|Am 23 rfl rfl<|Aa (Bf rfl Tu25) rfl<|Am 23 rfl rfl<|Aa (Dq (b:=((512:Nat):Int)) rfl rfl) rfl<|Aa (Bz rfl rfl) rfl<|Em rfl rfl<|Ek (fun g28 => ?_) (fun g28 => ?_)
   ·refine Am 28 rfl rfl<|Em rfl rfl<|Am 28 rfl rfl<|Aa (Bf rfl Tu25) rfl<|Am 28 rfl rfl<|Aa (Dq (b:=((512:Nat):Int)) rfl rfl) rfl<|Aa (Bz rfl rfl) rfl<|Em rfl rfl<|Ek (fun g33 => ?_) (fun g33 => ?_)
    ·refine Am 33 rfl rfl<|Aa (Ac rfl fa32_2) rfl<|Am 33 rfl rfl<|Ag (Ai 0 (k:=2) rfl rfl rfl Ta25) rfl<|Am 33 rfl rfl<|Aa (Bf rfl Tu25) rfl<|Am 33 rfl rfl<|Aa (S.le (b:=((65535:Nat):Int)) rfl rfl) rfl<|Aa (Bz rfl rfl) rfl<|Em rfl rfl<|Ek (fun g39 => ?_) (fun g39 => ?_)
     ·refine Am 39 rfl rfl<|Aa (Ac rfl fa32_3) rfl<|Am 39 rfl rfl<|Ag (Ai 0 (k:=3) rfl rfl rfl Ta2) rfl<|Am 39 rfl rfl<|Aa (S.ge (b:=((0:Nat):Int)) rfl rfl) rfl<|Aa (Bz rfl rfl) rfl<|Em rfl rfl<|Ek (fun g44 => ?_) (fun g44 => ?_)
      ·refine Am 44 rfl rfl<|Aa (Ac rfl fa32_3) rfl<|Am 44 rfl rfl<|Ag (Ai 0 (k:=3) rfl rfl rfl Ta2) rfl<|Am 44 rfl rfl<|Aa (Dq (b:=((4294967296:Nat):Int)) rfl rfl) rfl<|Aa (Bz rfl rfl) rfl<|Ea rfl rfl<|Ek6 1 2 3 4 5 6 rfl<|Bc ?_
       exact ⟨_,rfl,_,rfl,fun h=>by first | exact ⟨g20,g23,by omega,by omega,by omega,by omega,by have:=of_decide_eq_true h; omega⟩ | cases h⟩
      refine Ae 44 false rfl rfl rfl rfl<|Ae 44 false rfl rfl rfl rfl<|Ae 44 false rfl rfl rfl rfl<|Aa (Bn rfl rfl) rfl<|Ea rfl rfl<|Ek6 1 2 3 4 5 6 rfl<|Bc ?_
      exact ⟨_,rfl,_,rfl,fun h=>by first | exact ⟨g20,g23,by omega,by omega,by omega,by omega,by have:=of_decide_eq_true h; omega⟩ | cases h⟩
     refine Ae 39 false rfl rfl rfl rfl<|Ae 39 false rfl rfl rfl rfl<|Ae 39 false rfl rfl rfl rfl<|Aa (Bn rfl rfl) rfl<|Em rfl rfl<|Ae 44 false rfl rfl rfl rfl<|Ae 44 false rfl rfl rfl rfl<|Ae 44 false rfl rfl rfl rfl<|Aa (Bn rfl rfl) rfl<|Ea rfl rfl<|Ek6 1 2 3 4 5 6 rfl<|Bc ?_
     exact ⟨_,rfl,_,rfl,fun h=>by first | exact ⟨g20,g23,by omega,by omega,by omega,by omega,by have:=of_decide_eq_true h; omega⟩ | cases h⟩
    refine Ae 33 false rfl rfl rfl rfl<|Ae 33 false rfl rfl rfl rfl<|Ae 33 false rfl rfl rfl rfl<|Ae 33 false rfl rfl rfl rfl<|Aa (Bn rfl rfl) rfl<|Em rfl rfl<|Ae 39 false rfl rfl rfl rfl<|Ae 39 false rfl rfl rfl rfl<|Ae 39 false rfl rfl rfl rfl<|Aa (Bn rfl rfl) rfl<|Em rfl rfl<|Ae 44 false rfl rfl rfl rfl ?_
    refine Ae 44 false rfl rfl rfl rfl<|Ae 44 false rfl rfl rfl rfl<|Aa (Bn rfl rfl) rfl<|Ea rfl rfl<|Ek6 1 2 3 4 5 6 rfl<|Bc ?_
    exact ⟨_,rfl,_,rfl,fun h=>by first | exact ⟨g20,g23,by omega,by omega,by omega,by omega,by have:=of_decide_eq_true h; omega⟩ | cases h⟩
   refine Ae 28 false rfl rfl rfl rfl<|Ae 28 false rfl rfl rfl rfl<|Ae 28 false rfl rfl rfl rfl<|Aa (Bn rfl rfl) rfl<|Em rfl rfl<|Ae 33 false rfl rfl rfl rfl<|Ae 33 false rfl rfl rfl rfl<|Ae 33 false rfl rfl rfl rfl<|Ae 33 false rfl rfl rfl rfl<|Aa (Bn rfl rfl) rfl<|Em rfl rfl<|Ae 39 false rfl rfl rfl rfl ?_
   refine Ae 39 false rfl rfl rfl rfl<|Ae 39 false rfl rfl rfl rfl<|Aa (Bn rfl rfl) rfl<|Em rfl rfl<|Ae 44 false rfl rfl rfl rfl<|Ae 44 false rfl rfl rfl rfl<|Ae 44 false rfl rfl rfl rfl<|Aa (Bn rfl rfl) rfl<|Ea rfl rfl<|Ek6 1 2 3 4 5 6 rfl<|Bc ?_
   exact ⟨_,rfl,_,rfl,fun h=>by first | exact ⟨g20,g23,by omega,by omega,by omega,by omega,by have:=of_decide_eq_true h; omega⟩ | cases h⟩
  refine Ae 23 false rfl rfl rfl rfl<|Ae 23 false rfl rfl rfl rfl<|Ae 23 false rfl rfl rfl rfl<|Aa (Bn rfl rfl) rfl<|Em rfl rfl<|Ae 28 false rfl rfl rfl rfl<|Ae 28 false rfl rfl rfl rfl<|Ae 28 false rfl rfl rfl rfl<|Aa (Bn rfl rfl) rfl<|Em rfl rfl<|Ae 33 false rfl rfl rfl rfl<|Ae 33 false rfl rfl rfl rfl ?_
  refine Ae 33 false rfl rfl rfl rfl<|Ae 33 false rfl rfl rfl rfl<|Aa (Bn rfl rfl) rfl<|Em rfl rfl<|Ae 39 false rfl rfl rfl rfl<|Ae 39 false rfl rfl rfl rfl<|Ae 39 false rfl rfl rfl rfl<|Aa (Bn rfl rfl) rfl<|Em rfl rfl<|Ae 44 false rfl rfl rfl rfl<|Ae 44 false rfl rfl rfl rfl<|Ae 44 false rfl rfl rfl rfl ?_
  refine Aa (Bn rfl rfl) rfl<|Ea rfl rfl<|Ek6 1 2 3 4 5 6 rfl<|Bc ?_
  exact ⟨_,rfl,_,rfl,fun h=>by first | exact ⟨g20,g23,by omega,by omega,by omega,by omega,by have:=of_decide_eq_true h; omega⟩ | cases h⟩
 refine Ae 20 false rfl rfl rfl rfl<|Aa (Bn rfl rfl) rfl<|Em rfl rfl<|Ae 23 false rfl rfl rfl rfl<|Ae 23 false rfl rfl rfl rfl<|Ae 23 false rfl rfl rfl rfl<|Aa (Bn rfl rfl) rfl<|Em rfl rfl<|Ae 28 false rfl rfl rfl rfl<|Ae 28 false rfl rfl rfl rfl<|Ae 28 false rfl rfl rfl rfl<|Aa (Bn rfl rfl) rfl ?_
 refine Em rfl rfl<|Ae 33 false rfl rfl rfl rfl<|Ae 33 false rfl rfl rfl rfl<|Ae 33 false rfl rfl rfl rfl<|Ae 33 false rfl rfl rfl rfl<|Aa (Bn rfl rfl) rfl<|Em rfl rfl<|Ae 39 false rfl rfl rfl rfl<|Ae 39 false rfl rfl rfl rfl<|Ae 39 false rfl rfl rfl rfl<|Aa (Bn rfl rfl) rfl<|Em rfl rfl ?_
 refine Ae 44 false rfl rfl rfl rfl<|Ae 44 false rfl rfl rfl rfl<|Ae 44 false rfl rfl rfl rfl<|Aa (Bn rfl rfl) rfl<|Ea rfl rfl<|Ek6 1 2 3 4 5 6 rfl<|Bc ?_
 exact ⟨_,rfl,_,rfl,fun h=>by first | exact ⟨g20,g23,by omega,by omega,by omega,by omega,by have:=of_decide_eq_true h; omega⟩ | cases h⟩
theorem fits_spec {K:Known} (n1 n2:ByteArray) (ea:Option Addr) (en ec:Nat) (mo os:Int) (h1:n1.size≤140737488355327) (h2:n2.size≤140737488355327):Fn Tryz.prog K 19 #[.agg #[.string n1,.string n2,.slice ea en ec,.int .i64 mo,.int .u8 os]] [] (fun r L=>∃ q,r=.bool q ∧
    (q=true→∃ nb cb,textB n1.data.toList=some nb∧textB n2.data.toList=some cb∧nb.length < 512∧cb.length < 512∧en≤65535∧0≤mo∧mo < 4294967296)∧L=[]):=by
  refine Fn.lose (fits_walk n1 n2 ea en ec mo os h1 h2) ?_
  rintro r L ⟨q,rfl,h⟩
  refine ⟨[],L,Same.refl _,q,rfl,fun hq => ?_,rfl⟩
  obtain ⟨q1,q2,q3,q4,q5⟩:=h hq
  obtain ⟨nb,e1⟩:=Option.isSome_iff_exists.1 q1
  obtain ⟨cb,e2⟩:=Option.isSome_iff_exists.1 q2
  rw [e1] at q3
  rw [e2] at q4
  exact ⟨nb,cb,e1,e2,q3,q4,q5⟩
theorem zz1_walk {K:Known} (m:Md) (ea va:Option Addr) (ec vn vc:Nat) (hB:BlocksA K (.slice va vn vc)):Fn Tryz.prog K 18 #[.agg #[.string m.name,.string m.comment,.slice ea m.extra.length ec,.int .i64 m.mod,u8 m.os,.bool m.text,.bool m.checked,.bool m.ex,.bool m.nm,.bool m.cm,u8 m.flags,.slice va vn vc]] ([]) (fun r L=>∃ q,r=.bool q∧(q=true→m.name.size≤2147483647∧m.comment.size≤2147483647∧m.extra.length≤2147483647)):=by
 refine Fn.intro (args:=[.agg #[.string m.name,.string m.comment,.slice ea m.extra.length ec,.int .i64 m.mod,u8 m.os,.bool m.text,.bool m.checked,.bool m.ex,.bool m.nm,.bool m.cm,u8 m.flags,.slice va vn vc]]) (RR:=Ret1 2 _) Tryz.func18 rfl rfl Tryz.ntmps18 (res1 Tryz.results18) ?_
 refine Bj (env2:=[(0,.agg #[.string m.name,.string m.comment,.slice ea m.extra.length ec,.int .i64 m.mod,u8 m.os,.bool m.text,.bool m.checked,.bool m.ex,.bool m.nm,.bool m.cm,u8 m.flags,.slice va vn vc])]) rfl<|Cr ?_
 refine Aj (X.box rfl) rfl ?_; rintro _ _ ⟨b1,rfl,rfl⟩; refine Ab (L2:=[_]) rfl ?_
 refine Ea rfl rfl<|Ek2 1 2 rfl<|Al<|Cr<|Aa (Ac rfl fa35_0) rfl<|Ag (Df 0 (k:=0) rfl rfl rfl rfl Tryz.isAgg32 Tryz.sizeOf32) rfl ?_
 refine Aj (OpX.pick [] (F:=[_]) rfl (Ax rfl Tryz.call35 (zz2_none m.name m.comment ea m.extra.length ec m.mod (m.os.toNat:Int)))) rfl ?_; rintro _ _ ⟨_,⟨q2,rfl,hq2,rfl⟩,rfl⟩; refine Ab (L2:=[_]) rfl ?_
 refine Aa (Gl rfl) rfl<|Ek3 1 2 6 rfl<|Ed rfl (fun h6 => ?_) (fun h6 => ?_)
 ·refine Cr<|Ea rfl rfl<|Ek3 1 2 6 rfl<|Bc ?_
  exact ⟨_,rfl,_,rfl,fun h=>by first | exact hq2 (by simpa using h6) | cases h⟩
 refine Ap<|Al<|Cr<|Aa (Ac rfl fa35_7) rfl<|Ag (Ai 0 (k:=11) rfl rfl rfl Ta33) rfl ?_
 refine Aj (OpX.pick [] (F:=[_]) rfl (Ax rfl Tryz.call36 (zz3_spec hB))) rfl ?_; rintro _ _ ⟨_,⟨q3,rfl,rfl⟩,rfl⟩; refine Ab (L2:=[_]) rfl ?_
 refine Aa (Gl rfl) rfl<|Ek4 1 2 6 10 rfl<|Ed rfl (fun h10 => ?_) (fun h10 => ?_)
 ·refine Cr<|Ea rfl rfl<|Ek4 1 2 6 10 rfl<|Bc ?_
  exact ⟨_,rfl,_,rfl,fun h=>by first | exact hq2 (by simpa using h6) | cases h⟩
 refine Ap<|Cr<|Ea rfl rfl<|Ek4 1 2 6 10 rfl<|Bc ?_
 exact ⟨_,rfl,_,rfl,fun h=>by first | exact hq2 (by simpa using h6) | cases h⟩
theorem zz1_spec {K:Known} (m:Md) (ea va:Option Addr) (ec vn vc:Nat) (hB:BlocksA K (.slice va vn vc)):Fn Tryz.prog K 18 #[.agg #[.string m.name,.string m.comment,.slice ea m.extra.length ec,.int .i64 m.mod,u8 m.os,.bool m.text,.bool m.checked,.bool m.ex,.bool m.nm,.bool m.cm,u8 m.flags,.slice va vn vc]] [] (fun r L=>∃ q,r=.bool q∧(q=true→m.name.size≤2147483647∧m.comment.size≤2147483647∧m.extra.length≤2147483647)∧L=[]):=by
  refine Fn.lose (zz1_walk m ea va ec vn vc hB) ?_
  rintro r L ⟨q,rfl,h⟩
  exact ⟨[],L,Same.refl _,q,rfl,h,rfl⟩
theorem head_sl (hb fl:Nat) (h:fl < 256):Sl 1 (.slice (some ⟨hb,0,none⟩) 4 4) ([31,139,8,UInt8.ofNat fl]:List UInt8).length (bytesV [31,139,8,UInt8.ofNat fl]) [⟨hb,0,[.int .u8 31,.int .u8 139,.int .u8 8,.int .u8 ((fl:Nat):Int)]⟩]:=by
  refine ⟨rfl,.inr ⟨hb,0,4,_,rfl,rfl,rfl,Nat.le_refl _,by decide,?_⟩⟩
  show [Value.int .u8 31,.int .u8 139,.int .u8 8,.int .u8 ((fl:Nat):Int)]=[Value.int .u8 31,.int .u8 139,.int .u8 8,.int .u8 (((UInt8.ofNat fl).toNat:Nat):Int)]
  rw [UInt8.toNat_ofNat',Nat.mod_eq_of_lt h]
def flN (bs:List Bool):Nat→Nat
  | 0=>0
  | i + 1=>flN bs i + (if bs.getD i false then 2 ^ i else 0)
theorem flN_lt (bs:List Bool):∀ i,flN bs i < 2 ^ i
  | 0=>by simp [flN]
  | i + 1=>by
    have:=flN_lt bs i
    rw [flN,Nat.pow_succ]
    split <;> omega
theorem flN_yes {bs:List Bool} {i:Nat} (hi:i < 5) (h:bs.getD i false=true):flN bs i ||| (1 <<< i) % 256=flN bs (i + 1):=by
  have h1:=flN_lt bs i
  have h2:=Nat.shiftLeft_add_eq_or_of_lt h1 1
  have h3:(1 <<< i) % 256=1 <<< i:=by rcases (show i=0 ∨ i=1 ∨ i=2 ∨ i=3 ∨ i=4 by omega) with rfl | rfl | rfl | rfl | rfl <;> decide
  rw [h3,Nat.or_comm,← h2,flN,if_pos h,Nat.shiftLeft_eq,Nat.one_mul,Nat.add_comm]
theorem flN_no {bs:List Bool} {i:Nat} (h:bs.getD i false=false):flN bs (i + 1)=flN bs i:=by rw [flN,if_neg (by rw [h]; decide),Nat.add_zero]
theorem bools_get {a b c d e:Bool} {i:Nat} (h:i < 5):([.bool a,.bool b,.bool c,.bool d,.bool e]:List Value)[i * 1]? = some (.bool ([a,b,c,d,e].getD i false)):=by
  rcases (show i=0 ∨ i=1 ∨ i=2 ∨ i=3 ∨ i=4 by omega) with rfl | rfl | rfl | rfl | rfl <;> rfl
theorem flN_flags (m:Md) (nb cb:List UInt8):flN [m.text,m.checked,m.ex || decide (0 < m.extra.length),m.nm || decide (0 < nb.length),m.cm || decide (0 < cb.length)] 5=flagsN m nb cb:=by
  unfold flagsN
  generalize (m.ex || decide (0 < m.extra.length))=a
  generalize (m.nm || decide (0 < nb.length))=b
  generalize (m.cm || decide (0 < cb.length))=c
  generalize m.text=d
  generalize m.checked=e
  revert a b c d e
  decide
theorem arr5 (f:Nat→Value) (a b c d e:Value):((((((Array.range 5).map f).setIfInBounds 0 a).setIfInBounds 1 b).setIfInBounds 2 c).setIfInBounds 3 d).setIfInBounds 4 e=#[a,b,c,d,e]:=by
  rw [show Array.range 5=#[0,1,2,3,4] by decide]; simp
theorem arr4 (f:Nat→Value) (a b c d:Value):(((((Array.range 4).map f).setIfInBounds 0 a).setIfInBounds 1 b).setIfInBounds 2 c).setIfInBounds 3 d=#[a,b,c,d]:=by
  rw [show Array.range 4=#[0,1,2,3] by decide]; simp
theorem first0_len (m:Md) (nb cb:List UInt8):(first0 m nb cb).length=10:=by simp [first0,Bd]
theorem first1_len {m:Md} (nb cb:List UInt8) (h:m.extra.length≤65535):10≤(first1 m nb cb).length∧(first1 m nb cb).length≤65547:=by
  have:=first0_len m nb cb
  unfold first1; split
  · omega
  · simp only [List.length_append,Bd]; omega
theorem first2_len {m:Md} {nb:List UInt8} (cb:List UInt8) (h:m.extra.length≤65535) (hn:nb.length < 512):10≤(first2 m nb cb).length∧(first2 m nb cb).length≤66060:=by
  have:=first1_len (m:=m) nb cb h
  unfold first2; split
  · omega
  · simp only [List.length_append,List.length_cons,List.length_nil]; omega
theorem first3_len {m:Md} {nb cb:List UInt8} (h:m.extra.length≤65535) (hn:nb.length < 512) (hc:cb.length < 512):10≤(first3 m nb cb).length∧(first3 m nb cb).length≤66572:=by
  have:=first2_len (m:=m) (nb:=nb) cb h hn
  unfold first3; split
  · omega
  · simp only [List.length_append,List.length_cons,List.length_nil]; omega
theorem firstL_len {m:Md} {nb cb:List UInt8} (h:m.extra.length≤65535) (hn:nb.length < 512) (hc:cb.length < 512):10≤(firstL m nb cb).length∧(firstL m nb cb).length≤66574:=by
  have:=first3_len (m:=m) (nb:=nb) (cb:=cb) h hn hc
  unfold firstL; split
  · omega
  · simp only [List.length_append,Bd]; omega
theorem first_walk {K:Known} (m:Md) (mo:Nat) (nb cb:List UInt8) (ea va:Option Addr) (ec vn vc:Nat) (hE:m.extra=[] ∨ ∃ b o,ea=some ⟨b,o,none⟩∧KB K b o m.extra) (hmo:m.mod.toNat=mo) (hmo2:mo < 4294967296) (h1:m.name.size≤140737488355327) (h2:m.comment.size≤140737488355327) (hnb:textB m.name.data.toList=some nb) (hcb:textB m.comment.data.toList=some cb) (hnl:nb.length < 512) (hcl:cb.length < 512) (hel:m.extra.length≤65535):Fn Tryz.prog K 25 #[.agg #[.string m.name,.string m.comment,.slice ea m.extra.length ec,.int .i64 ((mo:Nat):Int),u8 m.os,.bool m.text,.bool m.checked,.bool m.ex,.bool m.nm,.bool m.cm,u8 m.flags,.slice va vn vc]] ([]) (fun r L=>∃ g F,Sl 1 r (firstL m nb cb).length (bytesV (firstL m nb cb)) [g]∧L=g::F):=by
 have hfl:=flagsN_lt m nb cb
 have e0:=first0_len m nb cb
 have e1:=first1_len (m:=m) nb cb hel
 have e2:=first2_len (m:=m) (nb:=nb) cb hel hnl
 have e3:=first3_len (m:=m) (nb:=nb) (cb:=cb) hel hnl hcl
 have hqq:crcOn IEEE 0 (first3 m nb cb) < 4294967296:=Gz (by decide) (by decide) _
 have hq16:crcOn IEEE 0 (first3 m nb cb) % 65536 < 65536:=Nat.mod_lt _ (by decide)
 refine Fn.intro (args:=[.agg #[.string m.name,.string m.comment,.slice ea m.extra.length ec,.int .i64 ((mo:Nat):Int),u8 m.os,.bool m.text,.bool m.checked,.bool m.ex,.bool m.nm,.bool m.cm,u8 m.flags,.slice va vn vc]]) (RR:=Ret1 2 _) Tryz.func25 rfl rfl Tryz.ntmps25 (res1 Tryz.results25) ?_
 refine Bj (env2:=[(0,.agg #[.string m.name,.string m.comment,.slice ea m.extra.length ec,.int .i64 ((mo:Nat):Int),u8 m.os,.bool m.text,.bool m.checked,.bool m.ex,.bool m.nm,.bool m.cm,u8 m.flags,.slice va vn vc])]) rfl<|Cr ?_
 refine Aj (X.box rfl) rfl ?_; rintro _ _ ⟨b1,rfl,rfl⟩; refine Ab (L2:=[_]) rfl ?_
 refine Ea rfl rfl<|Ek2 1 2 rfl<|Cr<|Aa (Ac rfl fa35_0) rfl<|Aa (Ac rfl fa32_0) rfl<|Ag (Ai 0 (k:=0) rfl rfl rfl Ta9) rfl ?_
 refine Aj (Ax rfl Tryz.call37 (text_made m.name nb hnb h1 _ [])) rfl ?_; rintro _ _ ⟨a1,c1,g1,hR1,rfl,rfl⟩; refine Ab (L2:=[_,_]) rfl ?_
 refine Em rfl rfl<|Aa (Bh rfl rfl) rfl<|Aa (Bh rfl rfl) rfl<|Ea rfl rfl<|Ea rfl rfl<|Ek3 1 2 3 rfl<|Cr<|Aa (Ac rfl fa35_0) rfl<|Aa (Ac rfl fa32_1) rfl<|Ag (Ai 1 (k:=1) rfl rfl rfl Ta9) rfl ?_
 refine Aj (Ax rfl Tryz.call37 (text_made m.comment cb hcb h2 _ _)) rfl ?_; rintro _ _ ⟨a2,c2,g2,hR2,rfl,rfl⟩; refine Ab (L2:=[_,_,_]) rfl ?_
 refine Em rfl rfl<|Aa (Bh rfl rfl) rfl<|Aa (Bh rfl rfl) rfl<|Ea rfl rfl<|Ea rfl rfl<|Ek4 1 2 3 5 rfl<|Cr<|Ea rfl rfl<|Ek5 1 2 3 5 7 rfl<|Dx (M:=fun ee ll=>∃ (sbf:Frag),keeps ee [1,3,5,7]=some [(1,.pointer (some ⟨b1,0,none⟩)),(3,.slice a1 nb.length c1),(5,.slice a2 cb.length c2),(7,.int .u8 ((flagsN m nb cb:Nat):Int))]∧ll=[sbf,g2,g1,⟨b1,0,[.string m.name,.string m.comment,.slice ea m.extra.length ec,.int .i64 ((mo:Nat):Int),u8 m.os,.bool m.text,.bool m.checked,.bool m.ex,.bool m.nm,.bool m.cm,u8 m.flags,.slice va vn vc]⟩]) ?_ ?_
 ·refine Dx (M:=fun ee ll=>∃ (b3:Bool),∃ (b4:Bool),∃ (b5:Bool),∃ (sb:Nat),keeps ee [1,3,5,7,52,53,54]=some [(1,.pointer (some ⟨b1,0,none⟩)),(3,.slice a1 nb.length c1),(5,.slice a2 cb.length c2),(7,.int .u8 ((0:Nat):Int)),(52,.slice (some ⟨sb,0,none⟩) (5) (5)),(53,.int .i64 ((5:Nat):Int)),(54,.int .i64 ((0:Nat):Int))]∧ll=[⟨sb,0,[.bool m.text,.bool m.checked,.bool b3,.bool b4,.bool b5]⟩,g2,g1,⟨b1,0,[.string m.name,.string m.comment,.slice ea m.extra.length ec,.int .i64 ((mo:Nat):Int),u8 m.os,.bool m.text,.bool m.checked,.bool m.ex,.bool m.nm,.bool m.cm,u8 m.flags,.slice va vn vc]⟩]∧(b3=(m.ex || decide (0 < m.extra.length)))∧(b4=(m.nm || decide (0 < nb.length)))∧(b5=(m.cm || decide (0 < cb.length)))) ?_ ?_
  ·refine Ak<|Aa (Ac rfl fa35_1) rfl<|Ag (Ai 2 (k:=5) rfl rfl rfl Ta4) rfl<|Aa (Ac rfl fa35_2) rfl<|Ag (Ai 2 (k:=6) rfl rfl rfl Ta4) rfl<|Aa (Ac rfl fa35_3) rfl<|Ag (Ai 2 (k:=7) rfl rfl rfl Ta4) rfl<|Em rfl rfl<|Hr (fun g31 => ?_) (fun g31 => ?_)
   ·refine Ae 31 true rfl rfl rfl rfl<|Ae 31 true rfl rfl rfl rfl<|Ae 31 true rfl rfl rfl rfl<|Ae 31 true rfl rfl rfl rfl<|Ae 31 true rfl rfl rfl rfl<|Aa (Bz rfl rfl) rfl<|Aa (Ac rfl fa35_4) rfl<|Ag (Ai 2 (k:=8) rfl rfl rfl Ta4) rfl<|Em rfl rfl<|Hr (fun g40 => ?_) (fun g40 => ?_)
    ·refine Ae 40 true rfl rfl rfl rfl<|Ae 40 true rfl rfl rfl rfl<|Ae 40 true rfl rfl rfl rfl<|Aa (Bz rfl rfl) rfl<|Aa (Ac rfl fa35_5) rfl<|Ag (Ai 2 (k:=9) rfl rfl rfl Ta4) rfl<|Em rfl rfl<|Hr (fun g47 => ?_) (fun g47 => ?_)
     ·refine Ae 47 true rfl rfl rfl rfl<|Ae 47 true rfl rfl rfl rfl<|Ae 47 true rfl rfl rfl rfl<|Aa (Bz rfl rfl) rfl ?_
      refine Aj (Bv (vs:=[.bool m.text,.bool m.checked,.bool true,.bool true,.bool true]) (e:=4) [(0,.bool m.text),(1,.bool m.checked),(2,.bool true),(3,.bool true),(4,.bool true)] rfl (fun w=>by simp [Instr.buildSlice,Instr.fill,Value.cells,newRow,Tryz.runUnderlying108,Tryz.typeInfo4]; rw [arr5])) rfl ?_; rintro _ _ ⟨sb,rfl,rfl⟩; refine Ab (L2:=[_,_,_,_]) rfl ?_
      refine Aa (Bf rfl Tu108) rfl<|Em rfl rfl<|Ek8 1 2 3 5 7 52 53 54 rfl ?_
      exact ⟨_,_,_,_,rfl,rfl,by first | (rw [g31]; rfl) | (rw [g31]; exact decide_eq_decide.2 (by omega)),by first | (rw [g40]; rfl) | (rw [g40]; exact decide_eq_decide.2 (by omega)),by first | (rw [g47]; rfl) | (rw [g47]; exact decide_eq_decide.2 (by omega))⟩
     refine Am 47 rfl rfl<|Em rfl rfl<|Am 47 rfl rfl<|Aa (Bf rfl Tu25) rfl<|Am 47 rfl rfl<|Aa (Fl (b:=((0:Nat):Int)) rfl rfl) rfl<|Aa (Bn rfl rfl) rfl ?_
     refine Aj (Bv (vs:=[.bool m.text,.bool m.checked,.bool true,.bool true,_]) (e:=4) [(0,.bool m.text),(1,.bool m.checked),(2,.bool true),(3,.bool true),(4,_)] rfl (fun w=>by simp [Instr.buildSlice,Instr.fill,Value.cells,newRow,Tryz.runUnderlying108,Tryz.typeInfo4]; rw [arr5])) rfl ?_; rintro _ _ ⟨sb,rfl,rfl⟩; refine Ab (L2:=[_,_,_,_]) rfl ?_
     refine Aa (Bf rfl Tu108) rfl<|Em rfl rfl<|Ek8 1 2 3 5 7 52 53 54 rfl ?_
     exact ⟨_,_,_,_,rfl,rfl,by first | (rw [g31]; rfl) | (rw [g31]; exact decide_eq_decide.2 (by omega)),by first | (rw [g40]; rfl) | (rw [g40]; exact decide_eq_decide.2 (by omega)),by first | (rw [g47]; rfl) | (rw [g47]; exact decide_eq_decide.2 (by omega))⟩
    refine Am 40 rfl rfl<|Em rfl rfl<|Am 40 rfl rfl<|Aa (Bf rfl Tu25) rfl<|Am 40 rfl rfl<|Aa (Fl (b:=((0:Nat):Int)) rfl rfl) rfl<|Aa (Bn rfl rfl) rfl<|Aa (Ac rfl fa35_5) rfl<|Ag (Ai 2 (k:=9) rfl rfl rfl Ta4) rfl<|Em rfl rfl<|Hr (fun g47 => ?_) (fun g47 => ?_)
    ·refine Ae 47 true rfl rfl rfl rfl<|Ae 47 true rfl rfl rfl rfl<|Ae 47 true rfl rfl rfl rfl<|Aa (Bz rfl rfl) rfl ?_
     refine Aj (Bv (vs:=[.bool m.text,.bool m.checked,.bool true,_,.bool true]) (e:=4) [(0,.bool m.text),(1,.bool m.checked),(2,.bool true),(3,_),(4,.bool true)] rfl (fun w=>by simp [Instr.buildSlice,Instr.fill,Value.cells,newRow,Tryz.runUnderlying108,Tryz.typeInfo4]; rw [arr5])) rfl ?_; rintro _ _ ⟨sb,rfl,rfl⟩; refine Ab (L2:=[_,_,_,_]) rfl ?_
     refine Aa (Bf rfl Tu108) rfl<|Em rfl rfl<|Ek8 1 2 3 5 7 52 53 54 rfl ?_
     exact ⟨_,_,_,_,rfl,rfl,by first | (rw [g31]; rfl) | (rw [g31]; exact decide_eq_decide.2 (by omega)),by first | (rw [g40]; rfl) | (rw [g40]; exact decide_eq_decide.2 (by omega)),by first | (rw [g47]; rfl) | (rw [g47]; exact decide_eq_decide.2 (by omega))⟩
    refine Am 47 rfl rfl<|Em rfl rfl<|Am 47 rfl rfl<|Aa (Bf rfl Tu25) rfl<|Am 47 rfl rfl<|Aa (Fl (b:=((0:Nat):Int)) rfl rfl) rfl<|Aa (Bn rfl rfl) rfl ?_
    refine Aj (Bv (vs:=[.bool m.text,.bool m.checked,.bool true,_,_]) (e:=4) [(0,.bool m.text),(1,.bool m.checked),(2,.bool true),(3,_),(4,_)] rfl (fun w=>by simp [Instr.buildSlice,Instr.fill,Value.cells,newRow,Tryz.runUnderlying108,Tryz.typeInfo4]; rw [arr5])) rfl ?_; rintro _ _ ⟨sb,rfl,rfl⟩; refine Ab (L2:=[_,_,_,_]) rfl ?_
    refine Aa (Bf rfl Tu108) rfl<|Em rfl rfl<|Ek8 1 2 3 5 7 52 53 54 rfl ?_
    exact ⟨_,_,_,_,rfl,rfl,by first | (rw [g31]; rfl) | (rw [g31]; exact decide_eq_decide.2 (by omega)),by first | (rw [g40]; rfl) | (rw [g40]; exact decide_eq_decide.2 (by omega)),by first | (rw [g47]; rfl) | (rw [g47]; exact decide_eq_decide.2 (by omega))⟩
   refine Am 31 rfl rfl<|Aa (Ac rfl fa35_0) rfl<|Am 31 rfl rfl<|Aa (Ac rfl fa32_2) rfl<|Am 31 rfl rfl<|Ag (Ai 2 (k:=2) rfl rfl rfl Ta25) rfl<|Am 31 rfl rfl<|Aa (Bf rfl Tu25) rfl<|Am 31 rfl rfl<|Aa (Fl (b:=((0:Nat):Int)) rfl rfl) rfl<|Aa (Bn rfl rfl) rfl<|Aa (Ac rfl fa35_4) rfl ?_
   refine Ag (Ai 2 (k:=8) rfl rfl rfl Ta4) rfl<|Em rfl rfl<|Hr (fun g40 => ?_) (fun g40 => ?_)
   ·refine Ae 40 true rfl rfl rfl rfl<|Ae 40 true rfl rfl rfl rfl<|Ae 40 true rfl rfl rfl rfl<|Aa (Bz rfl rfl) rfl<|Aa (Ac rfl fa35_5) rfl<|Ag (Ai 2 (k:=9) rfl rfl rfl Ta4) rfl<|Em rfl rfl<|Hr (fun g47 => ?_) (fun g47 => ?_)
    ·refine Ae 47 true rfl rfl rfl rfl<|Ae 47 true rfl rfl rfl rfl<|Ae 47 true rfl rfl rfl rfl<|Aa (Bz rfl rfl) rfl ?_
     refine Aj (Bv (vs:=[.bool m.text,.bool m.checked,_,.bool true,.bool true]) (e:=4) [(0,.bool m.text),(1,.bool m.checked),(2,_),(3,.bool true),(4,.bool true)] rfl (fun w=>by simp [Instr.buildSlice,Instr.fill,Value.cells,newRow,Tryz.runUnderlying108,Tryz.typeInfo4]; rw [arr5])) rfl ?_; rintro _ _ ⟨sb,rfl,rfl⟩; refine Ab (L2:=[_,_,_,_]) rfl ?_
     refine Aa (Bf rfl Tu108) rfl<|Em rfl rfl<|Ek8 1 2 3 5 7 52 53 54 rfl ?_
     exact ⟨_,_,_,_,rfl,rfl,by first | (rw [g31]; rfl) | (rw [g31]; exact decide_eq_decide.2 (by omega)),by first | (rw [g40]; rfl) | (rw [g40]; exact decide_eq_decide.2 (by omega)),by first | (rw [g47]; rfl) | (rw [g47]; exact decide_eq_decide.2 (by omega))⟩
    refine Am 47 rfl rfl<|Em rfl rfl<|Am 47 rfl rfl<|Aa (Bf rfl Tu25) rfl<|Am 47 rfl rfl<|Aa (Fl (b:=((0:Nat):Int)) rfl rfl) rfl<|Aa (Bn rfl rfl) rfl ?_
    refine Aj (Bv (vs:=[.bool m.text,.bool m.checked,_,.bool true,_]) (e:=4) [(0,.bool m.text),(1,.bool m.checked),(2,_),(3,.bool true),(4,_)] rfl (fun w=>by simp [Instr.buildSlice,Instr.fill,Value.cells,newRow,Tryz.runUnderlying108,Tryz.typeInfo4]; rw [arr5])) rfl ?_; rintro _ _ ⟨sb,rfl,rfl⟩; refine Ab (L2:=[_,_,_,_]) rfl ?_
    refine Aa (Bf rfl Tu108) rfl<|Em rfl rfl<|Ek8 1 2 3 5 7 52 53 54 rfl ?_
    exact ⟨_,_,_,_,rfl,rfl,by first | (rw [g31]; rfl) | (rw [g31]; exact decide_eq_decide.2 (by omega)),by first | (rw [g40]; rfl) | (rw [g40]; exact decide_eq_decide.2 (by omega)),by first | (rw [g47]; rfl) | (rw [g47]; exact decide_eq_decide.2 (by omega))⟩
   refine Am 40 rfl rfl<|Em rfl rfl<|Am 40 rfl rfl<|Aa (Bf rfl Tu25) rfl<|Am 40 rfl rfl<|Aa (Fl (b:=((0:Nat):Int)) rfl rfl) rfl<|Aa (Bn rfl rfl) rfl<|Aa (Ac rfl fa35_5) rfl<|Ag (Ai 2 (k:=9) rfl rfl rfl Ta4) rfl<|Em rfl rfl<|Hr (fun g47 => ?_) (fun g47 => ?_)
   ·refine Ae 47 true rfl rfl rfl rfl<|Ae 47 true rfl rfl rfl rfl<|Ae 47 true rfl rfl rfl rfl<|Aa (Bz rfl rfl) rfl ?_
    refine Aj (Bv (vs:=[.bool m.text,.bool m.checked,_,_,.bool true]) (e:=4) [(0,.bool m.text),(1,.bool m.checked),(2,_),(3,_),(4,.bool true)] rfl (fun w=>by simp [Instr.buildSlice,Instr.fill,Value.cells,newRow,Tryz.runUnderlying108,Tryz.typeInfo4]; rw [arr5])) rfl ?_; rintro _ _ ⟨sb,rfl,rfl⟩; refine Ab (L2:=[_,_,_,_]) rfl ?_
    refine Aa (Bf rfl Tu108) rfl<|Em rfl rfl<|Ek8 1 2 3 5 7 52 53 54 rfl ?_
    exact ⟨_,_,_,_,rfl,rfl,by first | (rw [g31]; rfl) | (rw [g31]; exact decide_eq_decide.2 (by omega)),by first | (rw [g40]; rfl) | (rw [g40]; exact decide_eq_decide.2 (by omega)),by first | (rw [g47]; rfl) | (rw [g47]; exact decide_eq_decide.2 (by omega))⟩
   refine Am 47 rfl rfl<|Em rfl rfl<|Am 47 rfl rfl<|Aa (Bf rfl Tu25) rfl<|Am 47 rfl rfl<|Aa (Fl (b:=((0:Nat):Int)) rfl rfl) rfl<|Aa (Bn rfl rfl) rfl ?_
   refine Aj (Bv (vs:=[.bool m.text,.bool m.checked,_,_,_]) (e:=4) [(0,.bool m.text),(1,.bool m.checked),(2,_),(3,_),(4,_)] rfl (fun w=>by simp [Instr.buildSlice,Instr.fill,Value.cells,newRow,Tryz.runUnderlying108,Tryz.typeInfo4]; rw [arr5])) rfl ?_; rintro _ _ ⟨sb,rfl,rfl⟩; refine Ab (L2:=[_,_,_,_]) rfl ?_
   refine Aa (Bf rfl Tu108) rfl<|Em rfl rfl<|Ek8 1 2 3 5 7 52 53 54 rfl ?_
   exact ⟨_,_,_,_,rfl,rfl,by first | (rw [g31]; rfl) | (rw [g31]; exact decide_eq_decide.2 (by omega)),by first | (rw [g40]; rfl) | (rw [g40]; exact decide_eq_decide.2 (by omega)),by first | (rw [g47]; rfl) | (rw [g47]; exact decide_eq_decide.2 (by omega))⟩
  rintro _ _ ⟨b3,b4,b5,sb,hq5,rfl,hb3,hb4,hb5⟩
  refine Az _ hq5<|As<|By (fun mm ee ll=>∃ (i:Nat),∃ (fl:Nat),keeps ee [1,3,5,7,52,53,54]=some [(1,.pointer (some ⟨b1,0,none⟩)),(3,.slice a1 nb.length c1),(5,.slice a2 cb.length c2),(7,.int .u8 ((fl:Nat):Int)),(52,.slice (some ⟨sb,0,none⟩) (5) (5)),(53,.int .i64 ((5:Nat):Int)),(54,.int .i64 ((i:Nat):Int))]∧ll=[⟨sb,0,[.bool m.text,.bool m.checked,.bool b3,.bool b4,.bool b5]⟩,g2,g1,⟨b1,0,[.string m.name,.string m.comment,.slice ea m.extra.length ec,.int .i64 ((mo:Nat):Int),u8 m.os,.bool m.text,.bool m.checked,.bool m.ex,.bool m.nm,.bool m.cm,u8 m.flags,.slice va vn vc]⟩]∧(i≤5)∧(fl=flN [m.text,m.checked,b3,b4,b5] i)∧mm=5 - i) (_) ⟨0,0,rfl,rfl,by omega,rfl,rfl⟩ ?_
  rintro m0 _ _ ⟨i,fl,hk0,rfl,hi,hf2,hm0⟩
  refine Az _ hk0<|Cr<|Aa (Dq rfl rfl) rfl<|Ek8 1 3 5 7 52 53 54 55 rfl<|Al<|Bg rfl (fun h55 => ?_) (fun h55 => ?_)
  ·have hi2:i < 5:=by omega
   have hflt:=flN_lt [m.text,m.checked,b3,b4,b5] i
   have hf256:2 ^ i≤2 ^ 5:=Nat.pow_le_pow_right (by omega) (by omega)
   have hget:=bools_get (a:=m.text) (b:=m.checked) (c:=b3) (d:=b4) (e:=b5) hi2
   refine Ap<|Al<|As<|Cr<|Em rfl rfl<|Aa (Bm rfl rfl (by omega) Tu108 Tz4) rfl<|Ag (Ai 0 (k:=i * 1) rfl rfl hget Ta4) rfl<|Ea rfl rfl<|Ea rfl rfl<|Ek10 1 3 5 7 8 9 52 53 54 55 rfl<|Cr<|Em rfl rfl ?_
   refine Ek11 1 3 5 7 8 9 52 53 54 55 59 rfl<|Ed rfl (fun h59 => ?_) (fun h59 => ?_)
   ·refine Ak<|Em rfl rfl<|Em rfl rfl<|Aa (Fu (a:=((1:Nat):Int)) rfl rfl (by omega) (N.shl_u8 _ _)) rfl<|Aa (S.or rfl rfl (N.or_u8 (by omega) (Nat.mod_lt _ (by decide)))) rfl<|Ea rfl rfl<|Ek11 1 3 5 7 8 9 52 53 54 55 59 rfl<|Ak<|Aa (Bl (b:=((1:Nat):Int)) rfl rfl (N.add64 (by omega))) rfl<|Em rfl rfl<|Ek11 1 3 5 7 8 9 52 53 54 55 59 rfl ?_
    refine ⟨_,?_,i + 1,_,rfl,rfl,by omega,by first | (rw [hf2]; exact flN_yes hi2 h59) | (rw [hf2]; exact (flN_no h59).symm),rfl⟩; omega
   refine Ap<|Ak<|Aa (Bl (b:=((1:Nat):Int)) rfl rfl (N.add64 (by omega))) rfl<|Em rfl rfl<|Ek11 1 3 5 7 8 9 52 53 54 55 59 rfl ?_
   refine ⟨_,?_,i + 1,_,rfl,rfl,by omega,by first | (rw [hf2]; exact flN_yes hi2 h59) | (rw [hf2]; exact (flN_no h59).symm),rfl⟩; omega
  have hi2:i=5:=by omega
  subst hi2
  subst hb3 hb4 hb5
  rw [flN_flags] at hf2
  subst hf2
  refine Bt rfl ?_
  exact ⟨_,rfl,rfl⟩
 rintro _ _ ⟨sbf,hq10,rfl⟩
 refine Az _ hq10<|Cr<|Em rfl rfl ?_
 refine Aj (Bv (vs:=[.int .u8 31,.int .u8 139,.int .u8 8,.int .u8 ((flagsN m nb cb:Nat):Int)]) (e:=5) [(0,.int .u8 31),(1,.int .u8 139),(2,.int .u8 8),(3,.int .u8 ((flagsN m nb cb:Nat):Int))] rfl (fun w=>by simp [Instr.buildSlice,Instr.fill,Value.cells,newRow,Tryz.runUnderlying25,Tryz.typeInfo5]; rw [arr4])) rfl ?_; rintro _ _ ⟨hb,rfl,rfl⟩; refine Ab (L2:=[_,_,_,_,_]) rfl ?_
 have hS0:=head_sl hb (flagsN m nb cb) (by omega)
 refine Aa (Ac rfl fa35_0) rfl<|Aa (Ac rfl fa32_3) rfl<|Ag (Ai 4 (k:=3) rfl rfl rfl Ta2) rfl ?_
 refine Aj (OpX.pick [] (F:=[_,_,_,_,_]) rfl (Ax rfl Tryz.call27 (Fq (mo) 4 (by omega) (by decide)))) rfl ?_; rintro _ _ ⟨_,⟨na,nc,gq,hQ,rfl,rfl⟩,rfl⟩; refine Ab (L2:=[_,_,_,_,_,_]) rfl ?_
 refine Aj (OpX.pick [1,0] (F:=[_,_,_,_]) rfl (Dk (xs:=[31,139,8,UInt8.ofNat (flagsN m nb cb)]) (ys:=numL mo 4) rfl rfl hS0 rfl (hQ _ _ (.tail _ (.head _))) (by first | omega | (simp only [List.length_append,Bd,List.length_cons,List.length_nil]; omega)) (by first | omega | (simp only [List.length_append,Bd,List.length_cons,List.length_nil]; omega)))) rfl ?_; rintro _ _ ⟨_,⟨gh,hSgh,rfl⟩,rfl⟩; refine Ab (L2:=[_,_,_,_,_,_]) rfl ?_
 refine Ea rfl rfl<|Du [0,2,2,2] (A:=[_,_,_,_]) rfl<|Ab (L2:=[_,_,_,_]) rfl<|Ek5 1 3 5 7 10 rfl<|Dx (M:=fun ee ll=>∃ (v:Value),∃ (gh:Frag),keeps ee [1,3,5,7,10]=some [(1,.pointer (some ⟨b1,0,none⟩)),(3,.slice a1 nb.length c1),(5,.slice a2 cb.length c2),(7,.int .u8 ((flagsN m nb cb:Nat):Int)),(10,v)]∧ll=[gh,g2,g1,⟨b1,0,[.string m.name,.string m.comment,.slice ea m.extra.length ec,.int .i64 ((mo:Nat):Int),u8 m.os,.bool m.text,.bool m.checked,.bool m.ex,.bool m.nm,.bool m.cm,u8 m.flags,.slice va vn vc]⟩]∧(Sl 1 v (first0 m nb cb).length (bytesV (first0 m nb cb)) [gh])) ?_ ?_
 ·refine Ak<|Em rfl rfl<|Aa (Ac rfl fa35_6) rfl<|Ag (Ai 3 (k:=10) rfl rfl rfl Ta5) rfl<|Aa (Ac rfl fa35_0) rfl<|Aa (Ac rfl fa32_4) rfl<|Ag (Ai 3 (k:=4) rfl rfl rfl Ta5) rfl ?_
  refine Aj (Bv (vs:=[u8 m.flags,u8 m.os]) (e:=5) [(0,u8 m.flags),(1,u8 m.os)] rfl (fun w=>by simp [Instr.buildSlice,Instr.fill,Value.cells,newRow,Tryz.runUnderlying25,Tryz.typeInfo5]; rw [arr2])) rfl ?_; rintro _ _ ⟨yb,rfl,rfl⟩; refine Ab (L2:=[_,_,_,_,_]) rfl ?_
  refine Aj (OpX.pick [1,0] (F:=[_,_,_]) rfl (Dk (xs:=([31,139,8,UInt8.ofNat (flagsN m nb cb)] ++ numL mo 4)) (ys:=[m.flags,m.os]) rfl rfl hSgh rfl (.inr ⟨yb,0,rfl,Reads.mem (k:=0) (.tail _ (.head _)) rfl⟩) (by first | omega | (simp only [List.length_append,Bd,List.length_cons,List.length_nil]; omega)) (by first | omega | (simp only [List.length_append,Bd,List.length_cons,List.length_nil]; omega)))) rfl ?_; rintro _ _ ⟨_,⟨gi,hSgi,rfl⟩,rfl⟩; refine Ab (L2:=[_,_,_,_,_]) rfl ?_
  refine Ea rfl rfl<|Du [0,1,1,1] (A:=[_,_,_,_]) rfl<|Ab (L2:=[_,_,_,_]) rfl<|Ek5 1 3 5 7 10 rfl ?_
  exact ⟨_,_,rfl,rfl,by rw [first0,hmo]; exact hSgi⟩
 rintro _ _ ⟨v,gh,hq12,rfl,hS⟩
 refine Az _ hq12<|Dx (M:=fun ee ll=>∃ (v:Value),∃ (gh:Frag),keeps ee [1,3,5,7,10]=some [(1,.pointer (some ⟨b1,0,none⟩)),(3,.slice a1 nb.length c1),(5,.slice a2 cb.length c2),(7,.int .u8 ((flagsN m nb cb:Nat):Int)),(10,v)]∧ll=[gh,g2,g1,⟨b1,0,[.string m.name,.string m.comment,.slice ea m.extra.length ec,.int .i64 ((mo:Nat):Int),u8 m.os,.bool m.text,.bool m.checked,.bool m.ex,.bool m.nm,.bool m.cm,u8 m.flags,.slice va vn vc]⟩]∧(Sl 1 v (first1 m nb cb).length (bytesV (first1 m nb cb)) [gh])) ?_ ?_
 ·refine Cr<|Em rfl rfl<|Aa (Ey (b:=((4:Nat):Int)) rfl rfl (N.and_u8 (by omega) (by omega))) rfl<|Aa (S.ne (b:=((0:Nat):Int)) rfl rfl) rfl<|Ek6 1 3 5 7 10 82 rfl<|Bg rfl (fun h82 => ?_) (fun h82 => ?_)
  ·refine Br [0,0,2,4,8,16,33,0,128,256,576,2047] (.pure 0 958 (.pure 1 897 (.pure 2 899 (.pure 7 127 (.pure 8 255 (.alt 3 (.pure 4 911 (.alt 5 (.alt 6 (.seg [(9,511)] (.alt 10 (.pure 11 2047 .done) .stop)) (.alt 9 (.alt 6 (.alt 10 (.pure 11 2047 .done) .stop) .stop) .stop)) (.alt 9 (.alt 5 (.alt 6 (.alt 10 (.pure 11 2047 .done) .stop) .stop) .stop) .stop))) (.alt 9 (.seg [(3,903),(4,911)] (.alt 5 (.alt 6 (.alt 10 (.pure 11 2047 .done) .stop) .stop) .stop)) .stop))))))) mixed (by decide +kernel)<|Dm rfl rfl rfl<|Ah rfl (Ac rfl fa35_0) rfl<|Ah rfl (Ac rfl fa32_2) rfl<|Ah rfl (Ac rfl fa35_0) rfl<|Ah rfl (Ac rfl fa32_2) rfl<|Gw ?_ ⟨?_,trivial⟩
   ·refine El rfl (Ai 3 (k:=2) rfl rfl rfl Ta25) rfl<|Ah rfl (Bf rfl Tu25) rfl<|Gw ?_ ⟨?_,trivial⟩
    ·refine Bo rfl (OpX.pick [] (F:=[_,_,_,_]) rfl (Ax rfl Tryz.call27 (Fq (m.extra.length) 2 (by omega) (by decide)))) rfl ?_; rintro _ _ ⟨_,⟨na,nc,gq,hQ,rfl,rfl⟩,rfl⟩; refine Au (L2:=[_,_,_,_,_]) rfl ?_
     refine Gw ?_ ⟨?_,trivial⟩
     ·refine Bo rfl (OpX.pick [1,0] (F:=[_,_,_]) rfl (Dk (xs:=(first0 m nb cb)) (ys:=numL m.extra.length 2) rfl rfl hS rfl (hQ _ _ (.tail _ (.head _))) (by first | omega | (simp only [List.length_append,Bd,List.length_cons,List.length_nil]; omega)) (by first | omega | (simp only [List.length_append,Bd,List.length_cons,List.length_nil]; omega)))) rfl ?_; rintro _ _ ⟨_,⟨gi,hSgi,rfl⟩,rfl⟩; refine Au (L2:=[_,_,_,_,_]) rfl ?_
      refine Dd (by decide)<|Ar rfl (Ai 4 (k:=2) rfl rfl rfl Ta25) rfl<|Db<|Bw ?_
      refine Bo rfl (OpX.pick [0] (F:=[_,_,_,_]) rfl (Dk (xs:=(first0 m nb cb ++ numL m.extra.length 2)) (ys:=m.extra) rfl rfl hSgi rfl (hE.imp id (fun ⟨b,o,h1,h2⟩=>⟨b,o,h1,h2.reads⟩)) (by first | omega | (simp only [List.length_append,Bd,List.length_cons,List.length_nil]; omega)) (by first | omega | (simp only [List.length_append,Bd,List.length_cons,List.length_nil]; omega)))) rfl ?_; rintro _ _ ⟨_,⟨gj,hSgj,rfl⟩,rfl⟩; refine Au (L2:=[_,_,_,_,_]) rfl ?_
      refine Ah rfl (Ba rfl) rfl<|D.forget [0,1,1,1] (A:=[_,_,_,_]) rfl<|Au (L2:=[_,_,_,_]) rfl<|Dk6 1 3 5 7 10 82 rfl ?_
      exact ⟨_,_,rfl,rfl,by rw [first1,if_neg (by omega)]; exact hSgj⟩
     refine El rfl (Ai 4 (k:=2) rfl rfl rfl Ta25) rfl<|Bw ?_
     refine Bo rfl (OpX.pick [1,0] (F:=[_,_,_]) rfl (Dk (xs:=(first0 m nb cb)) (ys:=numL m.extra.length 2) rfl rfl hS rfl (hQ _ _ (.tail _ (.head _))) (by first | omega | (simp only [List.length_append,Bd,List.length_cons,List.length_nil]; omega)) (by first | omega | (simp only [List.length_append,Bd,List.length_cons,List.length_nil]; omega)))) rfl ?_; rintro _ _ ⟨_,⟨gi,hSgi,rfl⟩,rfl⟩; refine Au (L2:=[_,_,_,_,_]) rfl ?_
     refine Bw ?_
     refine Bo rfl (OpX.pick [0] (F:=[_,_,_,_]) rfl (Dk (xs:=(first0 m nb cb ++ numL m.extra.length 2)) (ys:=m.extra) rfl rfl hSgi rfl (hE.imp id (fun ⟨b,o,h1,h2⟩=>⟨b,o,h1,h2.reads⟩)) (by first | omega | (simp only [List.length_append,Bd,List.length_cons,List.length_nil]; omega)) (by first | omega | (simp only [List.length_append,Bd,List.length_cons,List.length_nil]; omega)))) rfl ?_; rintro _ _ ⟨_,⟨gj,hSgj,rfl⟩,rfl⟩; refine Au (L2:=[_,_,_,_,_]) rfl ?_
     refine Ah rfl (Ba rfl) rfl<|D.forget [0,1,1,1] (A:=[_,_,_,_]) rfl<|Au (L2:=[_,_,_,_]) rfl<|Dk6 1 3 5 7 10 82 rfl ?_
     exact ⟨_,_,rfl,rfl,by rw [first1,if_neg (by omega)]; exact hSgj⟩
    refine El rfl (Ai 3 (k:=2) rfl rfl rfl Ta25) rfl<|Bw ?_
    refine Bo rfl (OpX.pick [] (F:=[_,_,_,_]) rfl (Ax rfl Tryz.call27 (Fq (m.extra.length) 2 (by omega) (by decide)))) rfl ?_; rintro _ _ ⟨_,⟨na,nc,gq,hQ,rfl,rfl⟩,rfl⟩; refine Au (L2:=[_,_,_,_,_]) rfl ?_
    refine Bw ?_
    refine Bo rfl (OpX.pick [1,0] (F:=[_,_,_]) rfl (Dk (xs:=(first0 m nb cb)) (ys:=numL m.extra.length 2) rfl rfl hS rfl (hQ _ _ (.tail _ (.head _))) (by first | omega | (simp only [List.length_append,Bd,List.length_cons,List.length_nil]; omega)) (by first | omega | (simp only [List.length_append,Bd,List.length_cons,List.length_nil]; omega)))) rfl ?_; rintro _ _ ⟨_,⟨gi,hSgi,rfl⟩,rfl⟩; refine Au (L2:=[_,_,_,_,_]) rfl ?_
    refine Bw ?_
    refine Bo rfl (OpX.pick [0] (F:=[_,_,_,_]) rfl (Dk (xs:=(first0 m nb cb ++ numL m.extra.length 2)) (ys:=m.extra) rfl rfl hSgi rfl (hE.imp id (fun ⟨b,o,h1,h2⟩=>⟨b,o,h1,h2.reads⟩)) (by first | omega | (simp only [List.length_append,Bd,List.length_cons,List.length_nil]; omega)) (by first | omega | (simp only [List.length_append,Bd,List.length_cons,List.length_nil]; omega)))) rfl ?_; rintro _ _ ⟨_,⟨gj,hSgj,rfl⟩,rfl⟩; refine Au (L2:=[_,_,_,_,_]) rfl ?_
    refine Ah rfl (Ba rfl) rfl<|D.forget [0,1,1,1] (A:=[_,_,_,_]) rfl<|Au (L2:=[_,_,_,_]) rfl<|Dk6 1 3 5 7 10 82 rfl ?_
    exact ⟨_,_,rfl,rfl,by rw [first1,if_neg (by omega)]; exact hSgj⟩
   refine El rfl (Ai 3 (k:=2) rfl rfl rfl Ta25) rfl<|Dd (by decide)<|Ar rfl (Ai 3 (k:=2) rfl rfl rfl Ta25) rfl<|Bb rfl (Bf rfl Tu25) rfl<|Db<|Bw ?_
   refine Bo rfl (OpX.pick [] (F:=[_,_,_,_]) rfl (Ax rfl Tryz.call27 (Fq (m.extra.length) 2 (by omega) (by decide)))) rfl ?_; rintro _ _ ⟨_,⟨na,nc,gq,hQ,rfl,rfl⟩,rfl⟩; refine Au (L2:=[_,_,_,_,_]) rfl ?_
   refine Bw ?_
   refine Bo rfl (OpX.pick [1,0] (F:=[_,_,_]) rfl (Dk (xs:=(first0 m nb cb)) (ys:=numL m.extra.length 2) rfl rfl hS rfl (hQ _ _ (.tail _ (.head _))) (by first | omega | (simp only [List.length_append,Bd,List.length_cons,List.length_nil]; omega)) (by first | omega | (simp only [List.length_append,Bd,List.length_cons,List.length_nil]; omega)))) rfl ?_; rintro _ _ ⟨_,⟨gi,hSgi,rfl⟩,rfl⟩; refine Au (L2:=[_,_,_,_,_]) rfl ?_
   refine Bw ?_
   refine Bo rfl (OpX.pick [0] (F:=[_,_,_,_]) rfl (Dk (xs:=(first0 m nb cb ++ numL m.extra.length 2)) (ys:=m.extra) rfl rfl hSgi rfl (hE.imp id (fun ⟨b,o,h1,h2⟩=>⟨b,o,h1,h2.reads⟩)) (by first | omega | (simp only [List.length_append,Bd,List.length_cons,List.length_nil]; omega)) (by first | omega | (simp only [List.length_append,Bd,List.length_cons,List.length_nil]; omega)))) rfl ?_; rintro _ _ ⟨_,⟨gj,hSgj,rfl⟩,rfl⟩; refine Au (L2:=[_,_,_,_,_]) rfl ?_
   refine Ah rfl (Ba rfl) rfl<|D.forget [0,1,1,1] (A:=[_,_,_,_]) rfl<|Au (L2:=[_,_,_,_]) rfl<|Dk6 1 3 5 7 10 82 rfl ?_
   exact ⟨_,_,rfl,rfl,by rw [first1,if_neg (by omega)]; exact hSgj⟩
  refine Ap ?_
  exact ⟨_,_,rfl,rfl,by rw [first1,if_pos (by omega)]; exact hS⟩
 rintro _ _ ⟨v,gh,hq14,rfl,hS⟩
 refine Az _ hq14<|Dx (M:=fun ee ll=>∃ (v:Value),∃ (gh:Frag),keeps ee [1,3,5,7,10]=some [(1,.pointer (some ⟨b1,0,none⟩)),(3,.slice a1 nb.length c1),(5,.slice a2 cb.length c2),(7,.int .u8 ((flagsN m nb cb:Nat):Int)),(10,v)]∧ll=[gh,g2,g1,⟨b1,0,[.string m.name,.string m.comment,.slice ea m.extra.length ec,.int .i64 ((mo:Nat):Int),u8 m.os,.bool m.text,.bool m.checked,.bool m.ex,.bool m.nm,.bool m.cm,u8 m.flags,.slice va vn vc]⟩]∧(Sl 1 v (first2 m nb cb).length (bytesV (first2 m nb cb)) [gh])) ?_ ?_
 ·refine Cr<|Em rfl rfl<|Aa (Ey (b:=((8:Nat):Int)) rfl rfl (N.and_u8 (by omega) (by omega))) rfl<|Aa (S.ne (b:=((0:Nat):Int)) rfl rfl) rfl<|Ek6 1 3 5 7 10 96 rfl<|Bg rfl (fun h96 => ?_) (fun h96 => ?_)
  ·refine Ak<|Em rfl rfl<|Em rfl rfl ?_
   refine Aj (OpX.pick [0,1] (F:=[_,_]) rfl (Dk (xs:=(first1 m nb cb)) (ys:=nb) rfl rfl hS rfl (hR1 _ _ (.tail _ (.head _))) (by first | omega | (simp only [List.length_append,Bd,List.length_cons,List.length_nil]; omega)) (by first | omega | (simp only [List.length_append,Bd,List.length_cons,List.length_nil]; omega)))) rfl ?_; rintro _ _ ⟨_,⟨gi,hSgi,rfl⟩,rfl⟩; refine Ab (L2:=[_,_,_,_]) rfl ?_
   refine Aj (Bv (vs:=[.int .u8 0]) (e:=5) [(0,.int .u8 0)] rfl (fun w=>by simp [Instr.buildSlice,Instr.fill,Value.cells,newRow,Tryz.runUnderlying25,Tryz.typeInfo5]; rw [arr1])) rfl ?_; rintro _ _ ⟨yb,rfl,rfl⟩; refine Ab (L2:=[_,_,_,_,_]) rfl ?_
   refine Aj (OpX.pick [1,0] (F:=[_,_,_]) rfl (Dk (xs:=(first1 m nb cb ++ nb)) (ys:=[0]) rfl rfl hSgi rfl (.inr ⟨yb,0,rfl,Reads.mem (k:=0) (.tail _ (.head _)) rfl⟩) (by first | omega | (simp only [List.length_append,Bd,List.length_cons,List.length_nil]; omega)) (by first | omega | (simp only [List.length_append,Bd,List.length_cons,List.length_nil]; omega)))) rfl ?_; rintro _ _ ⟨_,⟨gj,hSgj,rfl⟩,rfl⟩; refine Ab (L2:=[_,_,_,_,_]) rfl ?_
   refine Ea rfl rfl<|Du [0,2,1,1] (A:=[_,_,_,_]) rfl<|Ab (L2:=[_,_,_,_]) rfl<|Ek6 1 3 5 7 10 96 rfl ?_
   exact ⟨_,_,rfl,rfl,by rw [first2,if_neg (by omega)]; exact hSgj⟩
  refine Ap ?_
  exact ⟨_,_,rfl,rfl,by rw [first2,if_pos (by omega)]; exact hS⟩
 rintro _ _ ⟨v,gh,hq16,rfl,hS⟩
 refine Az _ hq16<|Dx (M:=fun ee ll=>∃ (v:Value),∃ (gh:Frag),keeps ee [1,3,5,7,10]=some [(1,.pointer (some ⟨b1,0,none⟩)),(3,.slice a1 nb.length c1),(5,.slice a2 cb.length c2),(7,.int .u8 ((flagsN m nb cb:Nat):Int)),(10,v)]∧ll=[gh,g2,g1,⟨b1,0,[.string m.name,.string m.comment,.slice ea m.extra.length ec,.int .i64 ((mo:Nat):Int),u8 m.os,.bool m.text,.bool m.checked,.bool m.ex,.bool m.nm,.bool m.cm,u8 m.flags,.slice va vn vc]⟩]∧(Sl 1 v (first3 m nb cb).length (bytesV (first3 m nb cb)) [gh])) ?_ ?_
 ·refine Cr<|Em rfl rfl<|Aa (Ey (b:=((16:Nat):Int)) rfl rfl (N.and_u8 (by omega) (by omega))) rfl<|Aa (S.ne (b:=((0:Nat):Int)) rfl rfl) rfl<|Ek6 1 3 5 7 10 104 rfl<|Bg rfl (fun h104 => ?_) (fun h104 => ?_)
  ·refine Ak<|Em rfl rfl<|Em rfl rfl ?_
   refine Aj (OpX.pick [0,0] (F:=[_,_]) rfl (Dk (xs:=(first2 m nb cb)) (ys:=cb) rfl rfl hS rfl (hR2 _ _ (.tail _ (.head _))) (by first | omega | (simp only [List.length_append,Bd,List.length_cons,List.length_nil]; omega)) (by first | omega | (simp only [List.length_append,Bd,List.length_cons,List.length_nil]; omega)))) rfl ?_; rintro _ _ ⟨_,⟨gi,hSgi,rfl⟩,rfl⟩; refine Ab (L2:=[_,_,_,_]) rfl ?_
   refine Aj (Bv (vs:=[.int .u8 0]) (e:=5) [(0,.int .u8 0)] rfl (fun w=>by simp [Instr.buildSlice,Instr.fill,Value.cells,newRow,Tryz.runUnderlying25,Tryz.typeInfo5]; rw [arr1])) rfl ?_; rintro _ _ ⟨yb,rfl,rfl⟩; refine Ab (L2:=[_,_,_,_,_]) rfl ?_
   refine Aj (OpX.pick [1,0] (F:=[_,_,_]) rfl (Dk (xs:=(first2 m nb cb ++ cb)) (ys:=[0]) rfl rfl hSgi rfl (.inr ⟨yb,0,rfl,Reads.mem (k:=0) (.tail _ (.head _)) rfl⟩) (by first | omega | (simp only [List.length_append,Bd,List.length_cons,List.length_nil]; omega)) (by first | omega | (simp only [List.length_append,Bd,List.length_cons,List.length_nil]; omega)))) rfl ?_; rintro _ _ ⟨_,⟨gj,hSgj,rfl⟩,rfl⟩; refine Ab (L2:=[_,_,_,_,_]) rfl ?_
   refine Ea rfl rfl<|Du [0,1,1,1] (A:=[_,_,_,_]) rfl<|Ab (L2:=[_,_,_,_]) rfl<|Ek6 1 3 5 7 10 104 rfl ?_
   exact ⟨_,_,rfl,rfl,by rw [first3,if_neg (by omega)]; exact hSgj⟩
  refine Ap ?_
  exact ⟨_,_,rfl,rfl,by rw [first3,if_pos (by omega)]; exact hS⟩
 rintro _ _ ⟨v,gh,hq18,rfl,hS⟩
 refine Az _ hq18<|Dx (M:=fun ee ll=>∃ (v:Value),∃ (gh:Frag),keeps ee [1,3,5,7,10]=some [(1,.pointer (some ⟨b1,0,none⟩)),(3,.slice a1 nb.length c1),(5,.slice a2 cb.length c2),(7,.int .u8 ((flagsN m nb cb:Nat):Int)),(10,v)]∧ll=[gh,g2,g1,⟨b1,0,[.string m.name,.string m.comment,.slice ea m.extra.length ec,.int .i64 ((mo:Nat):Int),u8 m.os,.bool m.text,.bool m.checked,.bool m.ex,.bool m.nm,.bool m.cm,u8 m.flags,.slice va vn vc]⟩]∧(Sl 1 v (firstL m nb cb).length (bytesV (firstL m nb cb)) [gh])) ?_ ?_
 ·refine Cr<|Em rfl rfl<|Aa (Ey (b:=((2:Nat):Int)) rfl rfl (N.and_u8 (by omega) (by omega))) rfl<|Aa (S.ne (b:=((0:Nat):Int)) rfl rfl) rfl<|Ek6 1 3 5 7 10 112 rfl<|Bg rfl (fun h112 => ?_) (fun h112 => ?_)
  ·refine Ak<|Em rfl rfl<|Em rfl rfl ?_
   refine Aj (Ax rfl Tryz.call28 (check_own hS (by omega) (by omega) _)) rfl ?_; rintro _ _ ⟨rfl,rfl⟩; refine Ab (L2:=[_,_,_,_]) rfl ?_
   refine Aa (Ey (b:=((65535:Nat):Int)) rfl rfl (N.and_u32 (by omega) (by omega))) rfl<|An (v:=.int .u32 ((crcOn IEEE 0 (first3 m nb cb) % 65536:Nat):Int)) (congrArg (fun q:Nat=>Value.int .u32 (q:Int)) (Nat.and_two_pow_sub_one_eq_mod _ 16))<|Aa (Bu rfl Tu69 Tu2 (N.i64n (by omega))) rfl ?_
   refine Aj (OpX.pick [] (F:=[_,_,_,_]) rfl (Ax rfl Tryz.call27 (Fq (crcOn IEEE 0 (first3 m nb cb) % 65536) 2 (by omega) (by decide)))) rfl ?_; rintro _ _ ⟨_,⟨na,nc,gq,hQ,rfl,rfl⟩,rfl⟩; refine Ab (L2:=[_,_,_,_,_]) rfl ?_
   refine Aj (OpX.pick [1,0] (F:=[_,_,_]) rfl (Dk (xs:=(first3 m nb cb)) (ys:=numL (crcOn IEEE 0 (first3 m nb cb) % 65536) 2) rfl rfl hS rfl (hQ _ _ (.tail _ (.head _))) (by first | omega | (simp only [List.length_append,Bd,List.length_cons,List.length_nil]; omega)) (by first | omega | (simp only [List.length_append,Bd,List.length_cons,List.length_nil]; omega)))) rfl ?_; rintro _ _ ⟨_,⟨gi,hSgi,rfl⟩,rfl⟩; refine Ab (L2:=[_,_,_,_,_]) rfl ?_
   refine Ea rfl rfl<|Du [0,1,1,1] (A:=[_,_,_,_]) rfl<|Ab (L2:=[_,_,_,_]) rfl<|Ek6 1 3 5 7 10 112 rfl ?_
   exact ⟨_,_,rfl,rfl,by rw [firstL,if_neg (by omega)]; exact hSgi⟩
  refine Ap ?_
  exact ⟨_,_,rfl,rfl,by rw [firstL,if_pos (by omega)]; exact hS⟩
 rintro _ _ ⟨v,gh,hq20,rfl,hS⟩
 refine Az _ hq20<|Cr<|Em rfl rfl<|Ea rfl rfl<|Ek6 1 2 3 5 7 10 rfl<|Bc ?_
 exact ⟨_,rfl,gh,_,hS,rfl⟩
theorem rd4_drop (l:List UInt8) (flg d:Nat) (h:Hd):∃ k,(rd4 l flg d h).2.1=l.drop k:=by
  unfold rd4
  repeat (first | exact ⟨0,rfl⟩ | exact ⟨_,rfl⟩ | split)
theorem rd3_drop (l:List UInt8) (flg d:Nat) (h:Hd):∃ k,(rd3 l flg d h).2.1=l.drop k:=by
  unfold rd3
  split
  · exact rd4_drop _ _ _ _
  · split
    · exact ⟨_,rfl⟩
    · obtain ⟨k,hk⟩:=rd4_drop (l.drop (Fe l)) flg (strCrc d l) { h with comment:=strTxt l }
      exact ⟨_,by rw [hk,List.drop_drop]⟩
theorem rd2_drop (l:List UInt8) (flg d:Nat) (h:Hd):∃ k,(rd2 l flg d h).2.1=l.drop k:=by
  unfold rd2
  split
  · exact rd3_drop _ _ _ _
  · split
    · exact ⟨_,rfl⟩
    · obtain ⟨k,hk⟩:=rd3_drop (l.drop (Fe l)) flg (strCrc d l) { h with name:=strTxt l }
      exact ⟨_,by rw [hk,List.drop_drop]⟩
theorem rd1_drop (l:List UInt8) (flg d:Nat) (h:Hd):∃ k,(rd1 l flg d h).2.1=l.drop k:=by
  unfold rd1
  split
  · exact rd2_drop _ _ _ _
  · split
    · exact ⟨_,rfl⟩
    · split
      · exact ⟨_,by rw [List.drop_drop]⟩
      · obtain ⟨k,hk⟩:=rd2_drop ((l.drop 2).drop (le16of l)) flg (crcOn IEEE (crcOn IEEE d (l.take 2)) ((l.drop 2).take (le16of l))) { h with extra:=some ((l.drop 2).take (le16of l)) }
        exact ⟨_,by rw [hk,List.drop_drop,List.drop_drop]⟩
theorem readHead_drop (l:List UInt8):∃ k,(Av l).2.1=l.drop k:=by
  unfold Av
  split
  · exact ⟨_,rfl⟩
  · split
    · obtain ⟨k,hk⟩:=rd1_drop (l.drop 10) (l.getD 3 0).toNat (crcOn IEEE 0 (l.take 10)) { noHd with mod:=le32 (l.getD 4 0).toNat (l.getD 5 0).toNat (l.getD 6 0).toNat (l.getD 7 0).toNat,os:=(l.getD 9 0).toNat }
      exact ⟨_,by rw [hk,List.drop_drop]⟩
    · exact ⟨_,rfl⟩
theorem readHead_le (l:List UInt8):(Av l).2.1.length≤l.length:=by
  obtain ⟨k,hk⟩:=readHead_drop l
  rw [hk,List.length_drop]; omega
def le32at (l:List UInt8) (k:Nat):Nat:=le32 (l.getD k 0).toNat (l.getD (k + 1) 0).toNat (l.getD (k + 2) 0).toNat (l.getD (k + 3) 0).toNat
def fits (out t:List UInt8):Prop:=le32at t 0=crcOn IEEE 0 out∧le32at t 4=out.length % 4294967296
instance (out t:List UInt8):Decidable (fits out t):=inferInstanceAs (Decidable (_∧_))
abbrev ZEnd:=Nat × List UInt8
def gzR (ms:Bool) (D:List UInt8):List UInt8 × ZEnd :=
  match (run D .next [] 0).2 with
  | .bad=>((run D .next [] 0).1,5,[])
  | .done q =>
    if (D.drop q).length < 8 then ((run D .next [] 0).1,5,[])
    else if ¬ fits (run D .next [] 0).1 (D.drop q) then ((run D .next [] 0).1,3,[])
    else if ms=false then ((run D .next [] 0).1,1,(D.drop q).drop 8)
    else if (Av ((D.drop q).drop 8)).1 ≠ .none then ((run D .next [] 0).1,kindOf (Av ((D.drop q).drop 8)).1,[])
    else if _h:(Av ((D.drop q).drop 8)).2.1.length < D.length then
      ((run D .next [] 0).1 ++ (gzR ms (Av ((D.drop q).drop 8)).2.1).1,(gzR ms (Av ((D.drop q).drop 8)).2.1).2)
    else ((run D .next [] 0).1,5,[])
termination_by D.length
decreasing_by all_goals (first | assumption | (simp only [List.drop_drop] at *; assumption))
def gzT (ms:Bool) (D:List UInt8):List UInt8 × ZEnd :=
  match (run D .next [] 0).2 with
  | .bad=>([],5,[])
  | .done q =>
    if (D.drop q).length < 8 then ([],5,[])
    else if ¬ fits (run D .next [] 0).1 (D.drop q) then ([],3,[])
    else if ms=false then ([],1,(D.drop q).drop 8)
    else if (Av ((D.drop q).drop 8)).1 ≠ .none then ([],kindOf (Av ((D.drop q).drop 8)).1,[])
    else gzR ms (Av ((D.drop q).drop 8)).2.1
section
variable {ms:Bool} {D:List UInt8} {q:Nat}
theorem gzR_eq:gzR ms D=((run D .next [] 0).1 ++ (gzT ms D).1,(gzT ms D).2):=by
  rw [gzR,gzT]
  cases h:(run D .next [] 0).2 with
  | bad=>simp
  | done q =>
    simp only
    split
    · simp
    · split
      · simp
      · split
        · simp
        · split
          · simp
          · split
            · rfl
            · rename_i h1 h2 h3 h4 h5
              exfalso
              apply h5
              have:=readHead_le ((D.drop q).drop 8)
              simp only [List.length_drop] at this h1 ⊢
              omega
theorem gzT_bad (h:(run D .next [] 0).2=.bad):gzT ms D=([],5,[]):=by rw [gzT,h]
theorem gzT_short (h:(run D .next [] 0).2=.done q) (h1:(D.drop q).length < 8):gzT ms D=([],5,[]):=by rw [gzT,h]; simp only; rw [if_pos h1]
theorem gzT_sum (h:(run D .next [] 0).2=.done q) (h1:¬ (D.drop q).length < 8) (h2:¬ fits (run D .next [] 0).1 (D.drop q)):gzT ms D=([],3,[]):=by rw [gzT,h]; simp only; rw [if_neg h1,if_pos h2]
theorem gzT_one (h:(run D .next [] 0).2=.done q) (h1:¬ (D.drop q).length < 8) (h2:fits (run D .next [] 0).1 (D.drop q)) (h3:ms=false):gzT ms D=([],1,(D.drop q).drop 8):=by
  rw [gzT,h]; simp only; rw [if_neg h1,if_neg (fun h=>h h2),if_pos h3]
theorem gzT_head (h:(run D .next [] 0).2=.done q) (h1:¬ (D.drop q).length < 8) (h2:fits (run D .next [] 0).1 (D.drop q)) (h3:ms ≠ false) (h4:(Av ((D.drop q).drop 8)).1 ≠ .none):gzT ms D=([],kindOf (Av ((D.drop q).drop 8)).1,[]):=by
  rw [gzT,h]; simp only; rw [if_neg h1,if_neg (fun h=>h h2),if_neg h3,if_pos h4]
theorem gzT_next (h:(run D .next [] 0).2=.done q) (h1:¬ (D.drop q).length < 8) (h2:fits (run D .next [] 0).1 (D.drop q)) (h3:ms ≠ false) (h4:(Av ((D.drop q).drop 8)).1=.none):gzT ms D=gzR ms (Av ((D.drop q).drop 8)).2.1:=by
  rw [gzT,h]; simp only; rw [if_neg h1,if_neg (fun h=>h h2),if_neg h3,if_neg (fun h=>h h4)]
end
theorem step_spec {K:Known} {ea:Fin 5→Addr} (hs:Sents K ea) (hc:Codes K) {src:Src K ea} {dt:List UInt8} {fb hb:Nat} {R:ResR} {gv m k:Nat} {x1 x2 x3 A W H:Frag} {vs:List Value} {TL:Frags}
    (D:DecSt src dt fb hb R gv [] m x1 x2 x3 A ⟨fb,1045,.func (.func k) #[] #[]::vs⟩ W H TL) (hm:0 < m) :
    Fn Tryz.prog K k #[.pointer (some ⟨fb,0,none⟩)] (x1::x2::x3::A::⟨fb,1045,.func (.func k) #[] #[]::vs⟩::W::H::TL) (StepEnd src dt fb hb R gv m):=by
  generalize hT:(⟨fb,1045,.func (.func k) #[] #[]::vs⟩:Frag)=T at D ⊢
  rcases D with ⟨p,rfl,hN,hTL⟩ | ⟨rfl,t,last,hl,hd,⟨p,q,nb,out,trv,h,wr,rd,full,ss,cl,cd,⟨hA,b,ro,hB,rfl⟩,hn,hW,rfl,hR⟩,hTL⟩ | ⟨rfl,q,⟨out,trv,h,wr,rd,full,ss,last,hl,hd,cl,cd,⟨hA,b,ro,hB,rfl⟩,hW,rfl,hss,hcl,hR⟩,hTL⟩ | ⟨rfl,_⟩
  · have hk:k=82:=by
      obtain ⟨q,nb,out,trv,h,wr,rd,full,ss,fin,hl,hd,cl,cd,_,_,_,rfl,_⟩:=hN
      simp only [ptF,Frag.mk.injEq,List.cons.injEq,Value.func.injEq,Go.Fn.func.injEq] at hT
      exact hT.2.2.1.1
    subst hk
    exact nextBlock_step hs hc hN hTL
  · have hk:k=92:=by
      simp only [ptF,Frag.mk.injEq,List.cons.injEq,Value.func.injEq,Go.Fn.func.injEq] at hT
      exact hT.2.2.1.1
    subst hk
    clear hT
    have hWA:=hW.isA
    have hWB:=hW.isB
    subst hWA hWB
    exact sym_step hs hA hB hn hW hR hTL (by omega) (by omega)
  · have hk:k=97:=by
      simp only [ptF,Frag.mk.injEq,List.cons.injEq,Value.func.injEq,Go.Fn.func.injEq] at hT
      exact hT.2.2.1.1
    subst hk
    clear hT
    have hsum:=hW.sum
    obtain ⟨a0,c0,htr⟩:=hW.tr.nilv
    have hWA:=hW.isA
    have hWB:=hW.isB
    have hq:=hB.le
    subst hWA hWB
    have hb0:b=0:=by have:=hB.lt; omega
    subst hb0
    refine Fn.mono (Fn.frame (F:=TL) (copyData_spec hs src dt fb hb R gv last hl hd _ a0 c0 trv htr x1 x2 x3 q ro out h wr rd full ss cl cd hA hq hW.hist hW.rdLe hW.wrLt (by simpa using hsum) hss hcl hR)) ?_
    rintro v L' ⟨L1,⟨rfl,y1,y2,y3,A,T,W,H,rfl,hE⟩,rfl⟩
    rcases hE with ⟨pend,q2,hne,hS⟩ | ⟨p2,hlt,hN⟩ | ⟨pend,hE⟩
    · exact ⟨rfl,pend,_,y1,y2,y3,A,T,W,H,_,.inl hne,.inr (.inr (.inl ⟨rfl,q2,hS,hTL⟩)),rfl⟩
    · exact ⟨rfl,[],_,y1,y2,y3,A,T,W,H,TL,.inr (by omega),.inl ⟨p2,rfl,hN,hTL⟩,rfl⟩
    · exact ⟨rfl,pend,_,y1,y2,y3,A,T,W,H,TL,.inr (by omega),.inr (.inr (.inr ⟨rfl,hE,hTL.junk⟩)),rfl⟩
  · exact absurd hm (Nat.lt_irrefl 0)
set_option maxHeartbeats 1000000
theorem reads_win {K:Known} {L:Frags} {hb i off:Nat} {h pend:List UInt8} (hL:L[i]? = some ⟨hb,0,bytesV h⟩) (hw:(h.drop off).take pend.length=pend):Reads K L hb off (bytesV pend):=by
  have:=Reads.frag (H0:=K) hL (k:=off) (vs:=bytesV pend) (by rw [Bi]; unfold bytesV; rw [← List.map_drop,← List.map_take,hw])
  simpa using this
def DecOk {K:Known} {ea:Fin 5→Addr} (src:Src K ea) (dt:List UInt8) (fb:Nat) (R:ResR) (gv:Nat) (L:Frags):Prop :=
  ∃ hb pend m x1 x2 x3 A T W H TL,DecSt src dt fb hb R gv pend m x1 x2 x3 A T W H TL∧(m=0→gv + pend.length=R.1.length)∧L=x1::x2::x3::A::T::W::H::TL
def DecFin {K:Known} {ea:Fin 5→Addr} (src:Src K ea) (dt:List UInt8) (fb:Nat) (R:ResR) (er:Er) (L:Frags):Prop :=
  ∃ hb x1 x2 x3 A T W H TL,DecSt src dt fb hb R R.1.length [] 0 x1 x2 x3 A T W H TL∧EndOk src dt R.2 er x1 x2 x3∧L=x1::x2::x3::A::T::W::H::TL
def ReadEnd {K:Known} {ea:Fin 5→Addr} (src:Src K ea) (dt:List UInt8) (fb:Nat) (R:ResR) (gv pb po n:Nat) (cs:List Value) (r:Value) (L:Frags):Prop :=
  ∃ k er L1,r=.tuple #[.int .i64 ((k:Nat):Int),Er.val ea er]∧k≤n∧k≤(R.1.drop gv).length∧L=L1 ++ [⟨pb,po,bytesV ((R.1.drop gv).take k) ++ cs.drop k⟩] ∧
    ((er=.none∧0 < k∧DecOk src dt fb R (gv + k) L1) ∨ (er ≠ .none∧gv + k=R.1.length∧DecFin src dt fb R er L1))
theorem pend_take {R pend:List UInt8} {gv n:Nat} (h:pend=(R.drop gv).take pend.length):pend.take n=(R.drop gv).take (Nat.min pend.length n):=by
  conv=>lhs; rw [h]
  rw [List.take_take,Nat.min_comm]
theorem same_last (x1 x2 x3 A T W H B:Frag) (TL:Frags):Same (x1::x2::x3::A::T::W::H::B::TL) ((x1::x2::x3::A::T::W::H::TL) ++ [B]) :=
  Same.perm (List.Perm.append_left [x1,x2,x3,A,T,W,H] (List.perm_append_comm (l₁:=[B])))
def mz (pend:List UInt8) (m:Nat):Nat:=if pend=[] then m else 0
theorem mz_step {pend:List UInt8} {m m2:Nat} (hm:0 < m) (h:pend ≠ [] ∨ m2 < m):mz pend m2 < mz [] m:=by
  unfold mz
  rw [if_pos rfl]
  split
  · rename_i h1; exact h.resolve_left fun h2=>h2 h1
  · exact hm
theorem step_in {K:Known} {ea:Fin 5→Addr} (hs:Sents K ea) (hc:Codes K) {src:Src K ea} {dt:List UInt8} {fb hb:Nat} {R:ResR} {gv m k:Nat} {x1 x2 x3 A W H:Frag} {vs:List Value} {TL:Frags}
    (D:DecSt src dt fb hb R gv [] m x1 x2 x3 A ⟨fb,1045,.func (.func k) #[] #[]::vs⟩ W H TL) (hm:0 < m) (B:Frag) :
    Fn Tryz.prog K k #[.pointer (some ⟨fb,0,none⟩)] (x1::x2::x3::A::⟨fb,1045,.func (.func k) #[] #[]::vs⟩::W::H::B::TL) fun r L =>
      r=.tuple #[]∧∃ pend m2 y1 y2 y3 A T W H TL,(pend ≠ [] ∨ m2 < m)∧DecSt src dt fb hb R gv pend m2 y1 y2 y3 A T W H TL∧L=y1::y2::y3::A::T::W::H::B::TL:=by
  refine Fn.lose (Fn.perm (List.Perm.append_left [x1,x2,x3,A,_,W,H] (List.perm_append_comm (l₁:=[B]))) (Fn.frame (F:=[B]) (step_spec hs hc D hm))) ?_
  rintro v L ⟨L1,⟨rfl,pend,m2,y1,y2,y3,A,T,W,H,TL,h1,h2,rfl⟩,rfl⟩
  exact ⟨_,[],((same_last y1 y2 y3 A T W H B TL).symm).trans (Same.of_eq (List.append_nil _).symm),rfl,pend,m2,y1,y2,y3,A,T,W,H,TL,h1,h2,rfl⟩
theorem all_drop {l:List UInt8} {n:Nat} (h:n=l.length):l.drop n=[]:=by rw [h,List.drop_length]
theorem decRead_walk {K:Known} {ea:Fin 5→Addr} (hs:Sents K ea) (hc:Codes K) (src:Src K ea) (dt:List UInt8) (fb hb:Nat) (R:ResR) (gv pb po n c:Nat) (cs:List Value) (hn:n=cs.length) (hn0:0 < n) (pend0:List UInt8) (m0:Nat) (x1 x2 x3 A Tf Wf Hf:Frag) (TL:Frags) (hD:DecSt src dt fb hb R gv pend0 m0 x1 x2 x3 A Tf Wf Hf TL) (hall0:m0=0→gv + pend0.length=R.1.length):Fn Tryz.prog K 135 #[.pointer (some ⟨fb,0,none⟩),.slice (some ⟨pb,po,none⟩) (n) (c)] ([x1,x2,x3,A,Tf,Wf,Hf,⟨pb,po,cs⟩] ++ TL) (fun r L=>∃ L2 J,Same L (L2 ++ J)∧ReadEnd src dt fb R gv pb po n cs r L2):=by
 refine Fn.intro (args:=[.pointer (some ⟨fb,0,none⟩),.slice (some ⟨pb,po,none⟩) (n) (c)]) (RR:=Ret2 4 5 _) Tryz.func135 rfl rfl Tryz.ntmps135 (res2 Tryz.results135) ?_
 refine Bj (env2:=[(0,.pointer (some ⟨fb,0,none⟩)),(1,.slice (some ⟨pb,po,none⟩) (n) (c))]) rfl<|Cr<|Ea rfl rfl<|Aa (Ba (v:=Er.val ea .none) rfl) rfl<|Ek4 0 1 4 5 rfl<|As<|By (fun mm ee ll=>∃ (pend:List UInt8),∃ (m:Nat),∃ (x1:Frag),∃ (x2:Frag),∃ (x3:Frag),∃ (A:Frag),∃ (Tf:Frag),∃ (Wf:Frag),∃ (Hf:Frag),∃ (TL:Frags),keeps ee [0,1]=some [(0,.pointer (some ⟨fb,0,none⟩)),(1,.slice (some ⟨pb,po,none⟩) (n) (c))]∧ll=[x1,x2,x3,A,Tf,Wf,Hf,⟨pb,po,cs⟩] ++ TL∧(DecSt src dt fb hb R gv pend m x1 x2 x3 A Tf Wf Hf TL)∧(m=0→gv + pend.length=R.1.length)∧mm=mz pend m) (_) ⟨pend0,m0,_,_,_,_,_,_,_,_,rfl,rfl,hD,hall0,rfl⟩ ?_
 rintro m0 _ _ ⟨pend,m,x1,x2,x3,A,Tf,Wf,Hf,TL,hk0,rfl,hD,hall0,hm0⟩
 refine Az _ hk0<|As<|Al<|Al ?_
 obtain ⟨er,fv,c1,c2,c5,c6,c7,c8,trv,h,wr,rd,full,V⟩:=hD.view
 have hT:=V.isT
 have hW:=V.isW
 have hH:=V.isH
 subst hT hW hH
 obtain ⟨a,ca,htv,hl32,hw⟩:=V.tr
 subst htv
 have hgl:=V.gvLe
 have hpi:=V.pendIs
 have hrl:=V.rdLe
 have hwl:=V.wrLt
 have hrlen:(R.1.drop gv).length=R.1.length - gv:=List.length_drop
 refine Ak<|Em rfl rfl<|Aa (Ad rfl) rfl<|Aa (Ac rfl Gc) rfl<|Ag (Ai 4 (k:=4) rfl rfl rfl Ta25) rfl<|Aa (Bf rfl Tu25) rfl<|Aa (Fl (b:=((0:Nat):Int)) rfl rfl) rfl<|Ek3 0 1 12 rfl<|Bg rfl (fun h12 => ?_) (fun h12 => ?_)
 ·have hpos:0 < pend.length:=by omega
  obtain ⟨off,rfl,hwin,hcap⟩:=hw.resolve_left (fun h=>by rw [h] at hpos; exact absurd hpos (Nat.lt_irrefl _))
  obtain ⟨k,hk⟩:∃ k,k=Nat.min pend.length n:=⟨_,rfl⟩
  have hkl:k≤pend.length:=by rw [hk]; exact Nat.min_le_left _ _
  have hkn:k≤n:=by rw [hk]; exact Nat.min_le_right _ _
  have hkp:0 < k:=by rw [hk]; exact Nat.lt_min.2 ⟨hpos,hn0⟩
  have hbuf:bytesV (pend.take n) ++ cs.drop (Nat.min pend.length n)=bytesV ((R.1.drop gv).take k) ++ cs.drop k:=by rw [pend_take hpi,hk]
  have hpart:∀ o2,some (⟨hb,off,none⟩:Addr)=some ⟨hb,o2,none⟩→k < pend.length→pend.length≤ca→some (⟨hb,part off k ca 1,none⟩:Addr)=some ⟨hb,o2 + k,none⟩∧pend.length - k≤ca - k:=fun o2 e h1 h2=>by
    cases e
    exact ⟨by rw [part,if_neg (by omega),Nat.mul_one],by omega⟩
  refine Cr<|Em rfl rfl<|Em rfl rfl<|Aa (Ad rfl) rfl<|Aa (Ac rfl Gc) rfl<|Ag (Ai 4 (k:=4) rfl rfl rfl Ta25) rfl ?_
  refine Aj (X.copyB 7 (l:=pend) rfl rfl rfl rfl (.inr ⟨hb,off,rfl,reads_win (i:=6) rfl hwin⟩) (by omega)) rfl ?_; rintro _ _ ⟨rfl,rfl⟩; refine Ab (L2:=(_::_::_::_::_::_::_::_::_)) rfl ?_
  refine An (v:=.int .i64 ((k:Nat):Int)) (by rw [hk])<|Ea rfl rfl<|Ek4 0 1 6 12 rfl<|Cr<|Em rfl rfl<|Em rfl rfl<|Aa (Ad rfl) rfl<|Aa (Ac rfl Gc) rfl<|Ag (Ai 4 (k:=4) rfl rfl rfl Ta25) rfl<|Em rfl rfl<|Aa (S.slL rfl rfl (by omega) Tu25 Tz5) rfl<|Aa (Ad rfl) rfl ?_
  refine Aa (Ac rfl Gc) rfl ?_
  refine Ao (Aq 4 (k:=4) rfl rfl rfl rfl rfl Tz25) ?_; rintro _ _ ⟨rfl,rfl⟩; refine Ab (L2:=(_::_::_::_::_::_::_::_::_)) rfl ?_
  refine Ek4 0 1 6 12 rfl<|Al<|Cr<|Em rfl rfl<|Aa (Ad rfl) rfl<|Aa (Ac rfl Gc) rfl<|Ag (Ai 4 (k:=4) rfl rfl rfl Ta25) rfl<|Aa (Bf rfl Tu25) rfl<|Aa (Eg (b:=((0:Nat):Int)) rfl rfl) rfl<|Ek5 0 1 6 12 33 rfl<|Bg rfl (fun h33 => ?_) (fun h33 => ?_)
  ·refine Al<|Br [0,0,2,4,8,1,63] (.pure 0 30 (.pure 1 33 (.pure 2 35 (.pure 3 39 (.pure 5 31 (.seg [(4,47),(6,63)] .done)))))) mixed (by decide +kernel)<|Dm rfl rfl rfl<|Dm rfl rfl rfl<|Ah rfl (Ad rfl) rfl<|Ah rfl (Ac rfl Ef) rfl<|Ah rfl (Ba rfl) rfl<|Dd (by decide)<|Ar rfl (Ai 4 (k:=3) rfl rfl rfl Ta58) rfl<|Bb rfl (Ba rfl) rfl<|Db<|Dk7 0 1 4 5 6 12 33 rfl ?_
   refine Bc ?_
   have hk:k=pend.length:=by omega
   have hg:=V.give k _ hkl (V.tr.drop hkl hpart)
   rw [show pend.drop k=[] from all_drop hk] at hg
   rcases V.kind with ⟨rfl,hmp,_⟩ | ⟨hne,rfl,hE,hall⟩
   · exact ⟨_,_,rfl,rfl,_,[],((same_last _ _ _ _ _ _ _ _ _).trans (Same.of_eq (List.append_nil _).symm)),k,.none,_,rfl,by omega,by omega,congrArg (fun z=>_ ++ [(⟨pb,po,z⟩:Frag)]) hbuf,.inl ⟨rfl,by omega,hb,[],m,_,_,_,_,_,_,_,_,hg,fun h=>absurd hmp (by omega),rfl⟩⟩
   · have hgk:gv + k=R.1.length:=by
       rcases hall with h | h
       · rw [h] at hpos; exact absurd hpos (Nat.lt_irrefl _)
       · omega
     rw [hgk] at hg
     exact ⟨_,_,rfl,rfl,_,[],((same_last _ _ _ _ _ _ _ _ _).trans (Same.of_eq (List.append_nil _).symm)),k,er,_,rfl,by omega,by omega,congrArg (fun z=>_ ++ [(⟨pb,po,z⟩:Frag)]) hbuf,.inr ⟨hne,hgk,hb,_,_,_,_,_,_,_,_,hg,hE,rfl⟩⟩
  refine Ap<|Cr<|Em rfl rfl<|Ea rfl rfl<|Aa (Ba (v:=Er.val ea .none) rfl) rfl<|Ek7 0 1 4 5 6 12 33 rfl<|Bc ?_
  have hg:=V.give k _ hkl (V.tr.drop hkl hpart)
  exact ⟨_,_,rfl,rfl,_,[],((same_last _ _ _ _ _ _ _ _ _).trans (Same.of_eq (List.append_nil _).symm)),k,.none,_,rfl,by omega,by omega,congrArg (fun z=>_ ++ [(⟨pb,po,z⟩:Frag)]) hbuf,.inl ⟨rfl,by omega,hb,_,m,_,_,_,_,_,_,_,_,hg,fun h=>by have:=hall0 h; rw [List.length_drop]; omega,rfl⟩⟩
 have hp0:pend=[]:=List.eq_nil_of_length_eq_zero (by omega)
 subst hp0
 refine Ap<|Al<|Cr<|Em rfl rfl<|Aa (Ad rfl) rfl<|Aa (Ac rfl Ef) rfl<|Ag (Ai 4 (k:=3) rfl rfl rfl Ta58) rfl<|Ag (Dg rfl) rfl<|Ek4 0 1 12 44 rfl<|Dn rfl (fun h44 => ?_) (fun h44 => ?_)
 ·refine Al<|Br [0,1,2,4,0,31] (.pure 0 16 (.pure 1 17 (.pure 2 19 (.pure 4 15 (.seg [(3,23),(5,31)] .done))))) mixed (by decide +kernel)<|Dm rfl rfl rfl<|Ah rfl (Ad rfl) rfl<|Ah rfl (Ac rfl Ef) rfl<|Ah rfl (Ba rfl) rfl<|Dd (by decide)<|Ar rfl (Ai 4 (k:=3) rfl rfl rfl Ta58) rfl<|Bb rfl (Ba rfl) rfl<|Db<|Dk6 0 1 4 5 12 44 rfl<|Bc ?_
  obtain ⟨hne,rfl,hE,_⟩:=V.kind.resolve_left fun h=>h44 h.1
  have hg0:=hall0 rfl
  simp only [List.length_nil,Nat.add_zero] at hg0
  have hD3:=hD
  rw [hg0] at hD3
  exact ⟨_,_,rfl,rfl,_,[],((same_last _ _ _ _ _ _ _ _ _).trans (Same.of_eq (List.append_nil _).symm)),0,er,_,rfl,Nat.zero_le _,Nat.zero_le _,rfl,.inr ⟨hne,by omega,hb,_,_,_,_,_,_,_,_,hD3,hE,rfl⟩⟩
 obtain ⟨_,hmp,kk,hfv,hkk⟩:=V.kind.resolve_right fun h=>h.1 h44
 subst hfv
 have hcal:∀ args w,(callFunc kk args).run Tryz.prog w=.ok (.enter kk args) w:=by rcases hkk with rfl | rfl | rfl; exact Tryz.call82; exact Tryz.call92; exact Tryz.call97
 refine Ap<|Cr<|Em rfl rfl<|Aa (Ad rfl) rfl<|Aa (Ac rfl Hz) rfl<|Ag (Ai 4 (k:=0) rfl rfl rfl Tryz.isAgg183) rfl<|Em rfl rfl ?_
 refine Aj (X.callv rfl rfl hcal (step_in hs hc hD hmp _)) rfl ?_; rintro _ _ ⟨rfl,pend2,m2,y1,y2,y3,A2,T2,W2,H2,TL2,hlt,hD2,rfl⟩; refine Ab (L2:=(_::_::_::_::_::_::_::_::_)) rfl ?_
 refine Ek4 0 1 12 44 rfl ?_
 obtain ⟨er2,fv2,c12,c22,c52,c62,c72,c82,trv2,h2,wr2,rd2,full2,V2⟩:=hD2.view
 have hT2:=V2.isT
 have hW2:=V2.isW
 have hH2:=V2.isH
 subst hT2 hW2 hH2
 obtain ⟨a2,ca2,htv2,hl322,hw2⟩:=V2.tr
 subst htv2
 have hgl2:=V2.gvLe
 have hrl2:=V2.rdLe
 have hwl2:=V2.wrLt
 refine Cr<|Em rfl rfl<|Aa (Ad rfl) rfl<|Aa (Ac rfl Ef) rfl<|Ag (Ai 4 (k:=3) rfl rfl rfl Ta58) rfl<|Ag (Dg rfl) rfl<|Em rfl rfl<|Hr (fun g60 => ?_) (fun g60 => ?_)
 ·have he2:er2 ≠ .none:=fun h=>by rw [h] at g60; exact absurd g60 (by decide)
  refine Am 60 rfl rfl<|Em rfl rfl<|Am 60 rfl rfl<|Aa (Ad rfl) rfl<|Am 60 rfl rfl<|Aa (Ac rfl Gc) rfl<|Am 60 rfl rfl<|Ag (Ai 4 (k:=4) rfl rfl rfl Ta25) rfl<|Am 60 rfl rfl<|Aa (Bf rfl Tu25) rfl<|Am 60 rfl rfl<|Aa (Eg (b:=((0:Nat):Int)) rfl rfl) rfl ?_
  refine Aa (Bz rfl rfl) rfl<|Ek5 0 1 12 44 67 rfl<|Bg rfl (fun h67 => ?_) (fun h67 => ?_)
  ·have hp2:pend2=[]:=List.eq_nil_of_length_eq_zero (by omega)
   refine Ak<|Em rfl rfl<|Em rfl rfl<|Aa (Ad rfl) rfl<|Aa (Ac rfl Ff) rfl ?_
   refine Aj (OpX.pick [5] (F:=(_::_::_::_::_::_::_::_)) rfl (Ax rfl Tryz.call95 (Fh fb 1037 hb wr2 rd2 full2 hrl2 (by omega)))) rfl ?_; rintro _ _ ⟨_,⟨Aw,hfl,rfl⟩,rfl⟩; refine Ab (L2:=(_::_::_::_::_::_::_::_::_)) rfl ?_
   refine De [1,1,1,1,1,0,0,0] rfl<|Ab (L2:=(_::_::_::_::_::_::_::_::_)) rfl<|Aa (Ad rfl) rfl<|Aa (Ac rfl Gc) rfl ?_
   refine Ao (Aq 4 (k:=4) rfl rfl rfl (Jg hfl) rfl Tz25) ?_; rintro _ _ ⟨rfl,rfl⟩; refine Ab (L2:=(_::_::_::_::_::_::_::_::_)) rfl ?_
   refine Ek5 0 1 12 44 67 rfl ?_
   refine ⟨_,?_,R.1.drop gv,0,_,_,_,_,_,_,_,_,rfl,rfl,V2.flush _ _ he2 hp2 hfl,fun _=>(by rw [hrlen]; omega),rfl⟩; rw [hm0]; exact mz_step hmp (.inr hmp)
  refine Ap ?_
  have hne2:pend2 ≠ []:=fun h=>by rw [h] at h67; exact h67 rfl
  obtain ⟨_,hm20,_,hal2⟩:=V2.kind.resolve_left fun h=>he2 h.1
  refine ⟨_,?_,pend2,m2,_,_,_,_,_,_,_,_,rfl,rfl,hD2,fun _=>hal2.resolve_left hne2,rfl⟩; rw [hm0]; exact mz_step hmp hlt
 have he2:er2=.none:=Er.isNone_iff.1 (by simpa using g60)
 refine Ae 60 false rfl rfl rfl rfl<|Ae 60 false rfl rfl rfl rfl<|Ae 60 false rfl rfl rfl rfl<|Ae 60 false rfl rfl rfl rfl<|Ae 60 false rfl rfl rfl rfl<|Ae 60 false rfl rfl rfl rfl<|Aa (Bn rfl rfl) rfl<|Ek5 0 1 12 44 67 rfl<|C.no rfl (rfl)<|Ap ?_
 obtain ⟨_,hm20,_⟩:=V2.kind.resolve_right fun h=>h.1 he2
 refine ⟨_,?_,pend2,m2,_,_,_,_,_,_,_,_,rfl,rfl,hD2,fun h=>absurd hm20 (by omega),rfl⟩; rw [hm0]; exact mz_step hmp hlt
set_option maxHeartbeats 1000000
theorem D.same {P:Program} {K:Known} {n:Nat} {ops:Array Oper} {ds:List Nat} {p:Plan} {env:Env} {L L2:Frags} {N:Post} (s:Same L L2) (h:wpD P K n ops ds p env L2 N):wpD P K n ops ds p env L N :=
  fun fuel listed l h0 h00 h1 h2 a w hf hw Nw k=>h fuel listed l h0 h00 h1 h2 a w hf ((s.agree K _).1 hw) Nw fun e l a w h f t=>k e l a w h f (t.sameL s)
theorem fill_four {place:Nat→Option (Nat × Nat)} {cells:Array Value} {i off:Nat} {a b c d:Value} {rest:List (Nat × Value)} (h1:place i=some (off,4)) (ho:off + 4≤cells.size) :
    Instr.fill place cells ((i,.agg #[a,b,c,d])::rest)=Instr.fill place ((((cells.setIfInBounds off a).setIfInBounds (off + 1) b).setIfInBounds (off + 2) c).setIfInBounds (off + 3) d) rest:=by
  rw [Instr.fill,h1]
  have e:(Value.agg #[a,b,c,d]).cells=#[a,b,c,d]:=rfl
  simp only [e]
  rw [if_neg (by simp; omega)]
  rfl
theorem zcSize:(Value.agg Tryz.zeroCells186).cells.size=1054:=by kernel_rfl
theorem zcSet (ab cb:Nat) (v1 v2 v3 v4:Value):((((((((((Value.agg Tryz.zeroCells186).cells.setIfInBounds 1 (.pointer none)).setIfInBounds 1035 (.pointer (some ⟨ab,0,none⟩))).setIfInBounds 1036 (.pointer (some ⟨cb,0,none⟩))).setIfInBounds 1037 v1).setIfInBounds (1037 + 1) v2).setIfInBounds (1037 + 2) v3).setIfInBounds (1037 + 3) v4).setIfInBounds 1045 (.func (.func 82) #[] #[])):Array Value) =
    (([[.nilIface,.pointer none,.int .i64 0,.int .u32 0,.int .u64 0],[.int .i64 0],(List.replicate 512 (.int .u32 0)),[.slice none 0 0,.int .u32 0],[.int .i64 0],(List.replicate 512 (.int .u32 0)),[.slice none 0 0,.int .u32 0],[.pointer (some ⟨ab,0,none⟩),.pointer (some ⟨cb,0,none⟩)],[v1,v2,v3,v4],[.int .u8 0,.int .u8 0,.int .u8 0,.int .u8 0],[.func (.func 82) #[] #[],.int .i64 0,.bool false,.nilIface,.slice none 0 0,.pointer none,.pointer none,.int .i64 0,.int .i64 0]]:List (List Value)).flatten).toArray:=by
  apply Array.ext'
  simp only [Array.toList_setIfInBounds]
  rw [zcDec]
  kernel_rfl
theorem resetBuild (ab cb hb wr rd:Nat) (full:Bool) (w:World):(Instr.build 186 [(1,.pointer none),(7,.pointer (some ⟨ab,0,none⟩)),(8,.pointer (some ⟨cb,0,none⟩)),(9,.agg #[.slice (some ⟨hb,0,none⟩) 32768 32768,.int .i64 ((wr:Nat):Int),.int .i64 ((rd:Nat):Int),.bool full]),(11,.func (.func 82) #[] #[])].toArray).run Tryz.prog w=.ok (.agg (([[.nilIface,.pointer none,.int .i64 0,.int .u32 0,.int .u64 0],[.int .i64 0],(List.replicate 512 (.int .u32 0)),[.slice none 0 0,.int .u32 0],[.int .i64 0],(List.replicate 512 (.int .u32 0)),[.slice none 0 0,.int .u32 0],[.pointer (some ⟨ab,0,none⟩),.pointer (some ⟨cb,0,none⟩)],[.slice (some ⟨hb,0,none⟩) 32768 32768,.int .i64 ((wr:Nat):Int),.int .i64 ((rd:Nat):Int),.bool full],[.int .u8 0,.int .u8 0,.int .u8 0,.int .u8 0],[.func (.func 82) #[] #[],.int .i64 0,.bool false,.nilIface,.slice none 0 0,.pointer none,.pointer none,.int .i64 0,.int .i64 0]]:List (List Value)).flatten).toArray) w:=by
  simp [Instr.build,Tryz.zeroValue186]
  rw [fill_one (off:=1) rfl rfl (by rw [zcSize]; decide),fill_one (off:=1035) rfl rfl (by simp only [Array.size_setIfInBounds,zcSize]; decide),fill_one (off:=1036) rfl rfl (by simp only [Array.size_setIfInBounds,zcSize]; decide),fill_four (off:=1037) rfl (by simp only [Array.size_setIfInBounds,zcSize]; decide),
    fill_one (off:=1045) rfl rfl (by simp only [Array.size_setIfInBounds,zcSize]; decide),fill_nil]
  rw [zcSet]
  rfl
theorem dictInit_old {K:Known} (fb o hb:Nat) (h:List UInt8) (hl:h.length=32768) (c1 c2 c3:Value):Fn Tryz.prog K 83 #[.pointer (some ⟨fb,o,none⟩),.int .i64 ((32768:Nat):Int),.slice none 0 0] ([⟨hb,0,bytesV h⟩,⟨fb,o,[.slice (some ⟨hb,0,none⟩) 32768 32768,c1,c2,c3]⟩]) (fun r L=>r=.tuple #[]∧L=[⟨hb,0,bytesV h⟩,⟨fb,o,[.slice (some ⟨hb,0,none⟩) 32768 32768,.int .i64 0,.int .i64 0,.bool false]⟩]):=by
 refine Fn.intro (args:=[.pointer (some ⟨fb,o,none⟩),.int .i64 ((32768:Nat):Int),.slice none 0 0]) (RR:=Ret0 _) Tryz.func83 rfl rfl Tryz.ntmps83 (res0 Tryz.results83) ?_
 refine Bj (env2:=[(0,.pointer (some ⟨fb,o,none⟩)),(1,.int .i64 ((32768:Nat):Int)),(2,.slice none 0 0)]) rfl<|Cr<|Em rfl rfl<|Em rfl rfl<|Aa (Ad rfl) rfl<|Aa (Ac rfl Eb) rfl<|Ag (Ai 1 (k:=0) rfl rfl rfl Ta25) rfl<|Aa (Eu (v:=.agg #[.slice (some ⟨hb,0,none⟩) 32768 32768,.int .i64 0,.int .i64 0,.bool false]) [(0,.slice (some ⟨hb,0,none⟩) 32768 32768)] rfl (fun w=>by simp [Instr.build,Instr.fill,Value.cells,Tryz.zeroValue181])) rfl<|Aa (Ad rfl) rfl ?_
 refine Ao (Bp 1 (k:=0) rfl rfl rfl rfl rfl rfl Tryz.sizeOf181 rfl) ?_; rintro _ _ ⟨rfl,rfl⟩; refine Ab (L2:=[_,_]) rfl ?_
 refine Ek3 0 1 2 rfl<|Al<|Cr<|Em rfl rfl<|Aa (Ad rfl) rfl<|Aa (Ac rfl Eb) rfl<|Ag (Ai 1 (k:=0) rfl rfl rfl Ta25) rfl<|Aa (S.capSl rfl Tu25) rfl<|Em rfl rfl<|Aa (Dq rfl rfl) rfl<|An (v:=.bool false) (congrArg Value.bool (by decide))<|Ek4 0 1 2 19 rfl ?_
 refine C.no rfl (rfl)<|Ap<|Cr<|Em rfl rfl<|Em rfl rfl<|Aa (Ad rfl) rfl<|Aa (Ac rfl Eb) rfl<|Ag (Ai 1 (k:=0) rfl rfl rfl Ta25) rfl<|Em rfl rfl<|Aa (S.slH rfl rfl (by omega) Tu25 Tz5) rfl<|An (v:=.slice (some ⟨hb,0,none⟩) 32768 32768) (Dj (by simp [part]) rfl rfl)<|Aa (Ad rfl) rfl ?_
 refine Aa (Ac rfl Eb) rfl ?_
 refine Ao (Aq 1 (k:=0) rfl rfl rfl rfl rfl Tz25) ?_; rintro _ _ ⟨rfl,rfl⟩; refine Ab (L2:=[_,_]) rfl ?_
 refine Ek4 0 1 2 19 rfl<|Al<|Cr<|Em rfl rfl<|Aa (Bf rfl Tu25) rfl<|Em rfl rfl<|Aa (Ad rfl) rfl<|Aa (Ac rfl Eb) rfl<|Ag (Ai 1 (k:=0) rfl rfl rfl Ta25) rfl<|Aa (Bf rfl Tu25) rfl<|Aa (Fl rfl rfl) rfl<|An (v:=.bool false) (congrArg Value.bool (by decide)) ?_
 refine Ek5 0 1 2 19 41 rfl<|C.no rfl (rfl)<|Ap<|Cr<|Em rfl rfl<|Em rfl rfl<|Aa (Ad rfl) rfl<|Aa (Ac rfl Eb) rfl<|Ag (Ai 1 (k:=0) rfl rfl rfl Ta25) rfl<|Em rfl rfl ?_
 refine Aj (X.copyB 0 (l:=[]) rfl rfl rfl rfl (.inl rfl) (by rw [Bi,hl]; exact Nat.le_refl _)) rfl ?_; rintro _ _ ⟨rfl,rfl⟩; refine Ab (L2:=[_,_]) rfl ?_
 refine Aa (Ad rfl) rfl<|Aa (Ac rfl Ex) rfl ?_
 refine Ao (Aq 1 (k:=1) rfl rfl rfl rfl rfl Tz3) ?_; rintro _ _ ⟨rfl,rfl⟩; refine Ab (L2:=[_,_]) rfl ?_
 refine Ek5 0 1 2 19 41 rfl<|Al<|Al<|Br [0,1,2,4,0,16,32,64,128,264] (.pure 0 496 (.pure 1 497 (.pure 2 499 (.pure 4 15 (.pure 5 31 (.pure 6 63 (.seg [(3,503),(7,127),(8,255),(9,511)] .done))))))) mixed (by decide +kernel)<|Dm rfl rfl rfl<|Ah rfl (Ad rfl) rfl<|Ah rfl (Ac rfl Ex) rfl<|Dm rfl rfl rfl<|Ah rfl (Ad rfl) rfl<|Ah rfl (Ac rfl Eb) rfl<|Dd (by decide)<|Ar rfl (Ai 1 (k:=1) rfl rfl rfl Ta3) rfl ?_
 refine Ar rfl (Ai 1 (k:=0) rfl rfl rfl Ta25) rfl<|Bb rfl (Bf rfl Tu25) rfl<|Bb rfl (Eg rfl rfl) rfl<|Dw (v:=.bool false) (congrArg Value.bool (by decide))<|Db<|Dk6 0 1 2 19 41 70 rfl<|C.no rfl (rfl)<|Ap<|Ak<|Em rfl rfl<|Em rfl rfl<|Aa (Ad rfl) rfl ?_
 refine Aa (Ac rfl Ex) rfl<|Ag (Ai 1 (k:=1) rfl rfl rfl Ta3) rfl<|Aa (Ad rfl) rfl<|Aa (Ac rfl fa181_2) rfl ?_
 refine Ao (Aq 1 (k:=2) rfl rfl rfl rfl rfl Tz3) ?_; rintro _ _ ⟨rfl,rfl⟩; refine Ab (L2:=[_,_]) rfl ?_
 refine Ek6 0 1 2 19 41 70 rfl ?_
 exact ⟨rfl,rfl⟩
def DecRaw (fb:Nat) (L:Frags):Prop:=∃ ab cb hb e0 e2 e3 e4 t9 wr rd full h ws av cs c1 c2,t9.length=9∧h.length=32768∧ws.length=4∧av.length=316∧cs.length=19∧c1.length=515∧c2.length=515 ∧
  L=[⟨fb,0,[e0,.pointer none,e2,e3,e4]⟩,⟨fb,1045,t9⟩,⟨fb,1037,[.slice (some ⟨hb,0,none⟩) 32768 32768,.int .i64 ((wr:Nat):Int),.int .i64 ((rd:Nat):Int),.bool full]⟩,⟨hb,0,bytesV h⟩,⟨fb,1041,ws⟩,⟨fb,1035,[.pointer (some ⟨ab,0,none⟩),.pointer (some ⟨cb,0,none⟩)]⟩,⟨ab,0,av⟩,⟨cb,0,cs⟩,⟨fb,5,c1⟩,⟨fb,520,c2⟩]
def DecNew {K:Known} {ea:Fin 5→Addr} (src:Src K ea) (fb:Nat) (L:Frags):Prop:=∃ Af Tf Wf Hf TL,L=Af::Tf::Wf::Hf::TL ∧
  ∀ dt x1 x2 x3,src.At dt x1 x2 x3→∃ hb,DecSt src dt fb hb (run dt .next [] 0) 0 [] (8 * dt.length + 1) x1 x2 x3 Af Tf Wf Hf TL
def DcIn (dcv:Value) (DL:Frags):Prop:=(dcv=.nilIface∧DL=[]) ∨ ∃ fb,dcv=.iface 190 (.pointer (some ⟨fb,0,none⟩))∧DecRaw fb DL
theorem DecSt.rawd {K:Known} {ea:Fin 5→Addr} {src:Src K ea} {dt:List UInt8} {fb hb:Nat} {R:ResR} {gv:Nat} {pend:List UInt8} {m:Nat} {x1 x2 x3 Af Tf Wf Hf:Frag} {TL:Frags} (D:DecSt src dt fb hb R gv pend m x1 x2 x3 Af Tf Wf Hf TL) :
    ∃ DL J,DecRaw fb DL∧∀ G,Same (G ++ (Af::Tf::Wf::Hf::TL)) ((G ++ DL) ++ J):=by
  have mk:∀ {TL:Frags} {v0 v1:List Value} {h:List UInt8} {wr rd:Nat} {full:Bool},v1.length=9→h.length=32768→(∃ e0 e2 e3 e4,v0=[e0,.pointer none,e2,e3,e4])→JunkTL fb TL→DecRaw fb (⟨fb,0,v0⟩::⟨fb,1045,v1⟩::⟨fb,1037,[.slice (some ⟨hb,0,none⟩) 32768 32768,.int .i64 (((wr):Nat):Int),.int .i64 (((rd):Nat):Int),.bool full]⟩::⟨hb,0,bytesV (h)⟩::TL):=by
    rintro TL v0 v1 h wr rd full h1 h2 ⟨e0,e2,e3,e4,rfl⟩ ⟨ab,cb,ws,av,cs,c1,c2,h3,h4,h5,h6,h7,rfl⟩
    exact ⟨ab,cb,hb,e0,e2,e3,e4,v1,wr,rd,full,h,ws,av,cs,c1,c2,h1,h2,h3,h4,h5,h6,h7,rfl⟩
  have one:∀ {DL L:Frags},DecRaw fb DL→DL=L→∃ DL J,DecRaw fb DL∧∀ G,Same (G ++ L) ((G ++ DL) ++ J):=by
    rintro DL L h rfl
    exact ⟨DL,[],h,fun G=>by rw [List.append_nil]; exact Same.refl _⟩
  rcases D with ⟨p,rfl,⟨q,nb,out,trv,h,wr,rd,full,ss,fin,hl,hd,cl,cd,⟨hA,b,ro,hB,rfl⟩,hn,hW,rfl,hss,hR⟩,hT⟩ | ⟨rfl,t,last,hl,hd,⟨p,q,nb,out,trv,h,wr,rd,full,ss,cl,cd,⟨hA,b,ro,hB,rfl⟩,hn,hW,rfl,hR⟩,hT⟩ | ⟨rfl,q,⟨out,trv,h,wr,rd,full,ss,last,hl,hd,cl,cd,⟨hA,b,ro,hB,rfl⟩,hW,rfl,hss,hcl,hR⟩,hT⟩ | ⟨rfl,⟨out,e,er,trv,h,wr,rd,full,hE,⟨a0,b0,c0,rfl⟩,hW,⟨a,b,c,d,f,g,i,rfl⟩,hR,hall⟩,hT⟩
  · have hWA:=hW.isA
    have hWB:=hW.isB
    subst hWA hWB
    exact one (mk rfl hW.hist.len ⟨_,_,_,_,rfl⟩ hT.junk) rfl
  · have hWA:=hW.isA
    have hWB:=hW.isB
    subst hWA hWB
    obtain ⟨TL2,J,h2,_⟩:=hT.raw []
    have hs:=fun G=>hT.raw G
    obtain ⟨ab,cb,ws,av,cs,lb,lo,hp,HL,HD,RT,h1,h2,h3,rfl,rfl,h6,h7,rfl,c1,c2,J,h8,h9,hS⟩:=hT
    refine ⟨_,J,mk (TL:=[⟨fb,1041,ws⟩,⟨fb,1035,[.pointer (some ⟨ab,0,none⟩),.pointer (some ⟨cb,0,none⟩)]⟩,⟨ab,0,av⟩,⟨cb,0,cs⟩,⟨fb,5,c1⟩,⟨fb,520,c2⟩]) (v0:=[.iface src.t src.v,.pointer none,.int .i64 ro,.int .u32 ((b:Nat):Int),.int .u64 ((nb:Nat):Int)]) (v1:=[.func (.func 92) #[] #[],.int .i64 ((ss:Nat):Int),.bool last,.nilIface,trv,.pointer (some ⟨lb,lo,none⟩),.pointer hp,.int .i64 ((cl:Nat):Int),.int .i64 ((cd:Nat):Int)]) (wr:=wr) (rd:=rd) (full:=full) rfl hW.hist.len ⟨_,_,_,_,rfl⟩ ⟨ab,cb,ws,av,cs,c1,c2,h1,h2,h3,Fm h8,Fm h9,rfl⟩,fun G => ?_⟩
    have:=hS (G ++ [⟨fb,0,[.iface src.t src.v,.pointer none,.int .i64 (ro),.int .u32 (((b):Nat):Int),.int .u64 (((nb):Nat):Int)]⟩,⟨fb,1045,[.func (.func 92) #[] #[],.int .i64 (((ss):Nat):Int),.bool last,.nilIface,trv,(.pointer (some ⟨lb,lo,none⟩)),(.pointer hp),.int .i64 (((cl):Nat):Int),.int .i64 (((cd):Nat):Int)]⟩,⟨fb,1037,[.slice (some ⟨hb,0,none⟩) 32768 32768,.int .i64 (((wr):Nat):Int),.int .i64 (((rd):Nat):Int),.bool full]⟩,⟨hb,0,bytesV (h)⟩,⟨fb,1041,ws⟩,⟨fb,1035,[.pointer (some ⟨ab,0,none⟩),.pointer (some ⟨cb,0,none⟩)]⟩,⟨ab,0,av⟩,⟨cb,0,cs⟩])
    simp only [List.append_assoc,List.cons_append,List.nil_append] at this ⊢
    exact this
  · have hWA:=hW.isA
    have hWB:=hW.isB
    subst hWA hWB
    exact one (mk rfl hW.hist.len ⟨_,_,_,_,rfl⟩ hT.junk) rfl
  · have hWA:=hW.isA
    have hWB:=hW.isB
    subst hWA hWB
    exact one (mk rfl hW.hist.len ⟨_,_,_,_,rfl⟩ hT) rfl
theorem z515 (fb o:Nat) (F:Frags):Same ([⟨fb,o,[.int .i64 0]⟩,⟨fb,o + 1,(List.replicate 512 (.int .u32 0))⟩,⟨fb,o + 513,[.slice none 0 0,.int .u32 0]⟩] ++ F) (⟨fb,o,hufZ⟩::F):=by
  have e:hufZ=(([(o,[.int .i64 0]),(o + 1,(List.replicate 512 (.int .u32 0))),(o + 513,[.slice none 0 0,.int .u32 0])]:List (Nat × List Value)).map (·.2)).flatten:=by kernel_rfl
  rw [e]
  exact (Same.chunks fb F [(o,[.int .i64 0]),(o + 1,(List.replicate 512 (.int .u32 0))),(o + 513,[.slice none 0 0,.int .u32 0])] o (by simp [Gs])).symm
theorem decNew {K:Known} {ea:Fin 5→Addr} (src:Src K ea) (fb ab cb hb:Nat) (h:List UInt8) (av cs:List Value) (hl:h.length=32768) (ha:av.length=316) (hc:cs.length=19) (G:Frags) :
    ∃ DN,DecNew src fb DN∧Same (G ++ (decParts fb [.iface src.t src.v,.pointer none,.int .i64 0,.int .u32 0,.int .u64 0] [.int .i64 0] (List.replicate 512 (.int .u32 0)) [.slice none 0 0,.int .u32 0] [.int .i64 0] (List.replicate 512 (.int .u32 0)) [.slice none 0 0,.int .u32 0] [.pointer (some ⟨ab,0,none⟩),.pointer (some ⟨cb,0,none⟩)] [.slice (some ⟨hb,0,none⟩) 32768 32768,.int .i64 0,.int .i64 0,.bool false] [.int .u8 0,.int .u8 0,.int .u8 0,.int .u8 0] [.func (.func 82) #[] #[],.int .i64 0,.bool false,.nilIface,.slice none 0 0,.pointer none,.pointer none,.int .i64 0,.int .i64 0] ++ [⟨ab,0,av⟩,⟨cb,0,cs⟩,⟨hb,0,bytesV h⟩])) (G ++ DN):=by
  refine ⟨[⟨fb,0,[.iface src.t src.v,.pointer none,.int .i64 0,.int .u32 0,.int .u64 0]⟩,⟨fb,1045,[.func (.func 82) #[] #[],.int .i64 0,.bool false,.nilIface,.slice none 0 0,.pointer none,.pointer none,.int .i64 0,.int .i64 0]⟩,⟨fb,1037,[.slice (some ⟨hb,0,none⟩) 32768 32768,.int .i64 0,.int .i64 0,.bool false]⟩,⟨hb,0,bytesV (h)⟩,⟨fb,1041,[.int .u8 0,.int .u8 0,.int .u8 0,.int .u8 0]⟩,⟨fb,1035,[.pointer (some ⟨ab,0,none⟩),.pointer (some ⟨cb,0,none⟩)]⟩,⟨ab,0,av⟩,⟨cb,0,cs⟩,⟨fb,5,hufZ⟩,⟨fb,520,hufZ⟩],⟨_,_,_,_,_,rfl,fun dt x1 x2 x3 hA=>⟨hb,.inl ⟨0,rfl,⟨0,0,[],.slice none 0 0,h,0,0,false,0,false,.pointer none,.pointer none,0,0,⟨hA,0,0,BitsIn.start dt (Nat.zero_le _),rfl⟩,by decide,⟨Hist.start h hl,Nat.le_refl _,by decide,rfl,rfl,TR.nil _ _ _ _,rfl,rfl⟩,rfl,.inl rfl,rfl⟩,⟨ab,cb,_,av,cs,hufZ,hufZ,rfl,ha,hc,rawZ,rawZ,rfl⟩⟩⟩⟩,Same.appendL G ?_⟩
  have e1:=z515 fb 5 [⟨fb,520,[.int .i64 0]⟩,⟨fb,520 + 1,(List.replicate 512 (.int .u32 0))⟩,⟨fb,520 + 513,[.slice none 0 0,.int .u32 0]⟩,⟨fb,0,[.iface src.t src.v,.pointer none,.int .i64 0,.int .u32 0,.int .u64 0]⟩,⟨fb,1045,[.func (.func 82) #[] #[],.int .i64 0,.bool false,.nilIface,.slice none 0 0,.pointer none,.pointer none,.int .i64 0,.int .i64 0]⟩,⟨fb,1037,[.slice (some ⟨hb,0,none⟩) 32768 32768,.int .i64 0,.int .i64 0,.bool false]⟩,⟨hb,0,bytesV (h)⟩,⟨fb,1041,[.int .u8 0,.int .u8 0,.int .u8 0,.int .u8 0]⟩,⟨fb,1035,[.pointer (some ⟨ab,0,none⟩),.pointer (some ⟨cb,0,none⟩)]⟩,⟨ab,0,av⟩,⟨cb,0,cs⟩]
  have e2:=z515 fb 520 [⟨fb,5,hufZ⟩,⟨fb,0,[.iface src.t src.v,.pointer none,.int .i64 0,.int .u32 0,.int .u64 0]⟩,⟨fb,1045,[.func (.func 82) #[] #[],.int .i64 0,.bool false,.nilIface,.slice none 0 0,.pointer none,.pointer none,.int .i64 0,.int .i64 0]⟩,⟨fb,1037,[.slice (some ⟨hb,0,none⟩) 32768 32768,.int .i64 0,.int .i64 0,.bool false]⟩,⟨hb,0,bytesV (h)⟩,⟨fb,1041,[.int .u8 0,.int .u8 0,.int .u8 0,.int .u8 0]⟩,⟨fb,1035,[.pointer (some ⟨ab,0,none⟩),.pointer (some ⟨cb,0,none⟩)]⟩,⟨ab,0,av⟩,⟨cb,0,cs⟩]
  refine Same.trans (Same.perm (Bq (is:=[1,1,1,1,1,1,0,3,1,4,1,0,0,0]) (A:=[_,_,_,_,_,_,_,_,_,_,_,_,_,_]) (F:=[]) rfl)) ?_
  refine Same.trans (Same.of_eq (List.append_nil _)) (Same.trans e1 ?_)
  refine Same.trans (Same.perm (Bq (is:=[1,1,1]) (A:=[_,_,_]) (F:=_::_) rfl)) (Same.trans e2 ?_)
  exact (Same.perm (Bq (is:=[2,2,2,2,2,2,2,2,1,0]) rfl)).trans (Same.of_eq (List.append_nil _))
theorem allOneR (ab cb hb wr rd:Nat) (full:Bool):(([[.nilIface,.pointer none,.int .i64 0,.int .u32 0,.int .u64 0],[.int .i64 0],(List.replicate 512 (.int .u32 0)),[.slice none 0 0,.int .u32 0],[.int .i64 0],(List.replicate 512 (.int .u32 0)),[.slice none 0 0,.int .u32 0],[.pointer (some ⟨ab,0,none⟩),.pointer (some ⟨cb,0,none⟩)],[.slice (some ⟨hb,0,none⟩) 32768 32768,.int .i64 ((wr:Nat):Int),.int .i64 ((rd:Nat):Int),.bool full],[.int .u8 0,.int .u8 0,.int .u8 0,.int .u8 0],[.func (.func 82) #[] #[],.int .i64 0,.bool false,.nilIface,.slice none 0 0,.pointer none,.pointer none,.int .i64 0,.int .i64 0]]:List (List Value)).flatten).all one=true:=by kernel_rfl
theorem lenR (ab cb hb wr rd:Nat) (full:Bool):(([[.nilIface,.pointer none,.int .i64 0,.int .u32 0,.int .u64 0],[.int .i64 0],(List.replicate 512 (.int .u32 0)),[.slice none 0 0,.int .u32 0],[.int .i64 0],(List.replicate 512 (.int .u32 0)),[.slice none 0 0,.int .u32 0],[.pointer (some ⟨ab,0,none⟩),.pointer (some ⟨cb,0,none⟩)],[.slice (some ⟨hb,0,none⟩) 32768 32768,.int .i64 ((wr:Nat):Int),.int .i64 ((rd:Nat):Int),.bool full],[.int .u8 0,.int .u8 0,.int .u8 0,.int .u8 0],[.func (.func 82) #[] #[],.int .i64 0,.bool false,.nilIface,.slice none 0 0,.pointer none,.pointer none,.int .i64 0,.int .i64 0]]:List (List Value)).flatten).length=1054:=by kernel_rfl
theorem decReset_walk {K:Known} {ea:Fin 5→Addr} (src:Src K ea) (fb ab cb hb:Nat) (e0 e2 e3 e4:Value) (t9:List Value) (wr rd:Nat) (full:Bool) (h:List UInt8) (ws av cs c1 c2:List Value) (h9:t9.length=9) (hl:h.length=32768) (hws:ws.length=4) (hav:av.length=316) (hcs:cs.length=19) (h1:c1.length=515) (h2:c2.length=515):Fn Tryz.prog K 136 #[.pointer (some ⟨fb,0,none⟩),.iface src.t src.v,.slice none 0 0] ([⟨fb,0,[e0,.pointer none,e2,e3,e4]⟩,⟨fb,1045,t9⟩,⟨fb,1037,[.slice (some ⟨hb,0,none⟩) 32768 32768,.int .i64 ((wr:Nat):Int),.int .i64 ((rd:Nat):Int),.bool full]⟩,⟨hb,0,bytesV (h)⟩,⟨fb,1041,ws⟩,⟨fb,1035,[.pointer (some ⟨ab,0,none⟩),.pointer (some ⟨cb,0,none⟩)]⟩,⟨ab,0,av⟩,⟨cb,0,cs⟩,⟨fb,5,c1⟩,⟨fb,520,c2⟩]) (fun r L=>r=Er.val ea .none∧∃ DN,DecNew src fb DN∧Same L DN):=by
 refine Fn.intro (args:=[.pointer (some ⟨fb,0,none⟩),.iface src.t src.v,.slice none 0 0]) (RR:=Ret1 6 _) Tryz.func136 rfl rfl Tryz.ntmps136 (res1 Tryz.results136) ?_
 refine Bj (env2:=[(0,.pointer (some ⟨fb,0,none⟩)),(1,.iface src.t src.v),(2,.slice none 0 0)]) rfl<|Cr<|Aa (Ba (v:=Er.val ea .none) rfl) rfl<|Ek4 0 1 2 6 rfl<|Al<|Br [0,0,2,4,8,0,32,64,128,0,512,1024,2048,0,8192,16384,32768,69904,262143,524287] (.pure 0 262142 (.pure 1 131041 (.pure 2 131043 (.pure 3 131047 (.pure 5 130591 (.pure 6 130623 (.pure 7 130687 (.pure 9 123391 (.pure 10 123903 (.pure 11 124927 (.pure 13 8191 (.pure 14 16383 (.pure 15 32767 (.seg [(4,131055),(8,130815),(12,126975),(16,65535),(17,131071),(18,262143)] (.alt 19 .done .stop))))))))))))))) mixed (by decide +kernel)<|Dm rfl rfl rfl<|Dm rfl rfl rfl<|Ah rfl (Ad rfl) rfl<|Ah rfl (Ac rfl fa186_1) rfl<|Dm rfl rfl rfl<|Ah rfl (Ad rfl) rfl ?_
 refine Ah rfl (Ac rfl fa186_7) rfl<|Dm rfl rfl rfl<|Ah rfl (Ad rfl) rfl<|Ah rfl (Ac rfl fa186_8) rfl<|Dm rfl rfl rfl<|Ah rfl (Ad rfl) rfl<|Ah rfl (Ac rfl Ff) rfl<|Dd (by decide)<|Ar rfl (Ai 0 (k:=1) rfl rfl rfl Tryz.isAgg132) rfl<|Ar rfl (Ai 5 (k:=0) rfl rfl rfl Ta178) rfl<|Ar rfl (Ai 5 (k:=1) rfl rfl rfl Tryz.isAgg179) rfl<|Ar rfl (Df 2 (k:=0) rfl rfl rfl rfl Tryz.isAgg181 Tryz.sizeOf181) rfl ?_
 refine Bb rfl (Eu [(1,.pointer none),(7,.pointer (some ⟨ab,0,none⟩)),(8,.pointer (some ⟨cb,0,none⟩)),(9,.agg #[.slice (some ⟨hb,0,none⟩) 32768 32768,.int .i64 ((wr:Nat):Int),.int .i64 ((rd:Nat):Int),.bool full]),(11,.func (.func 82) #[] #[])] rfl (resetBuild ab cb hb wr rd full)) rfl<|Bb rfl (Ad rfl) rfl<|Db<|Gv [0,7,7,4,1,2,0,0,0,0] (A:=[_,_,_,_,_,_,_,_,_,_]) (F:=[]) rfl<|D.same (Same.chunks fb [⟨hb,0,bytesV (h)⟩,⟨ab,0,av⟩,⟨cb,0,cs⟩] ([(0,[e0,.pointer none,e2,e3,e4]),(5,c1),(520,c2),(1035,[.pointer (some ⟨ab,0,none⟩),.pointer (some ⟨cb,0,none⟩)]),(1037,[.slice (some ⟨hb,0,none⟩) 32768 32768,.int .i64 ((wr:Nat):Int),.int .i64 ((rd:Nat):Int),.bool full]),(1041,ws),(1045,t9)]:List (Nat × List Value)) 0 (by simp [Gs,h1,h2,hws])).symm<|Au (L2:=[⟨fb,0,_⟩,_,_,_]) rfl<|Bw ?_
 refine Di rfl (Bp 0 (k:=0) rfl rfl rfl (allOneR ab cb hb wr rd full) (lenR ab cb hb wr rd full) (by rw [Nat.ble_eq]; simp [h1,h2,hws,h9]) Tryz.sizeOf186 rfl) ?_
 rintro _ _ ⟨rfl,rfl⟩
 refine Au (L2:=[⟨fb,0,([[.nilIface,.pointer none,.int .i64 0,.int .u32 0,.int .u64 0],[.int .i64 0],(List.replicate 512 (.int .u32 0)),[.slice none 0 0,.int .u32 0],[.int .i64 0],(List.replicate 512 (.int .u32 0)),[.slice none 0 0,.int .u32 0],[.pointer (some ⟨ab,0,none⟩),.pointer (some ⟨cb,0,none⟩)],[.slice (some ⟨hb,0,none⟩) 32768 32768,.int .i64 ((wr:Nat):Int),.int .i64 ((rd:Nat):Int),.bool full],[.int .u8 0,.int .u8 0,.int .u8 0,.int .u8 0],[.func (.func 82) #[] #[],.int .i64 0,.bool false,.nilIface,.slice none 0 0,.pointer none,.pointer none,.int .i64 0,.int .i64 0]]:List (List Value)).flatten⟩,⟨hb,0,bytesV (h)⟩,⟨ab,0,av⟩,⟨cb,0,cs⟩]) (congrArg (fun z=>[(⟨fb,0,z⟩:Frag),⟨hb,0,bytesV (h)⟩,⟨ab,0,av⟩,⟨cb,0,cs⟩]) (by rw [List.take_zero,List.nil_append,List.drop_eq_nil_of_le (by simp [h1,h2,hws,h9]),List.append_nil]))<|D.same (decSame fb [⟨hb,0,bytesV (h)⟩,⟨ab,0,av⟩,⟨cb,0,cs⟩] [.nilIface,.pointer none,.int .i64 0,.int .u32 0,.int .u64 0] [.int .i64 0] (List.replicate 512 (.int .u32 0)) [.slice none 0 0,.int .u32 0] [.int .i64 0] (List.replicate 512 (.int .u32 0)) [.slice none 0 0,.int .u32 0] [.pointer (some ⟨ab,0,none⟩),.pointer (some ⟨cb,0,none⟩)] [.slice (some ⟨hb,0,none⟩) 32768 32768,.int .i64 ((wr:Nat):Int),.int .i64 ((rd:Nat):Int),.bool full] [.int .u8 0,.int .u8 0,.int .u8 0,.int .u8 0] [.func (.func 82) #[] #[],.int .i64 0,.bool false,.nilIface,.slice none 0 0,.pointer none,.pointer none,.int .i64 0,.int .i64 0] rfl rfl List.length_replicate rfl rfl List.length_replicate rfl rfl rfl rfl)<|Au (L2:=[⟨fb,0,_⟩,⟨fb,5,_⟩,⟨fb,6,_⟩,⟨fb,518,_⟩,⟨fb,520,_⟩,⟨fb,521,_⟩,⟨fb,1033,_⟩,⟨fb,1035,_⟩,⟨fb,1037,_⟩,⟨fb,1041,_⟩,⟨fb,1045,_⟩,_,_,_]) rfl<|Dk4 0 1 2 6 rfl<|Cr<|Em rfl rfl<|Em rfl rfl ?_
 refine Aj (OpX.pick [0] (F:=[_,_,_,_,_,_,_,_,_,_,_,_,_]) rfl (Ax rfl Tryz.call81 (makeReader_spec src fb _ _ _ _ _))) rfl ?_; rintro _ _ ⟨_,⟨rfl,rfl⟩,rfl⟩; refine Ab (L2:=[_,_,_,_,_,_,_,_,_,_,_,_,_,_]) rfl ?_
 refine De [0,0,0,0,0,0,0,0,0,0,0,0,0,0] rfl<|Ab (L2:=[_,_,_,_,_,_,_,_,_,_,_,_,_,_]) rfl<|Ek3 0 2 6 rfl<|Cr<|Em rfl rfl<|Aa (Ad rfl) rfl<|Aa (Ac rfl Ff) rfl<|Em rfl rfl ?_
 refine Aj (OpX.pick [11,8] (F:=[_,_,_,_,_,_,_,_,_,_,_,_]) rfl (Ax rfl Tryz.call83 (dictInit_old fb 1037 hb h hl _ _ _))) rfl ?_; rintro _ _ ⟨_,⟨rfl,rfl⟩,rfl⟩; refine Ab (L2:=[_,_,_,_,_,_,_,_,_,_,_,_,_,_]) rfl ?_
 refine De [2,2,2,2,2,2,2,2,1,1,1,0,0,0] rfl<|Ab (L2:=[_,_,_,_,_,_,_,_,_,_,_,_,_,_]) rfl<|Ek2 0 6 rfl<|Cr<|Aa (Ba (v:=Er.val ea .none) rfl) rfl<|Ek2 0 6 rfl<|Bc ?_
 obtain ⟨DN,hDN,hS⟩:=decNew src fb ab cb hb h av cs hl hav hcs []
 refine ⟨_,rfl,rfl,DN,hDN,Same.trans ?_ hS⟩
 exact (Same.perm (Bq (is:=[0,0,0,0,0,0,0,0,0,0,0,1,1,0]) rfl)).trans (Same.of_eq (List.append_nil _))
theorem decReset_in {K:Known} {ea:Fin 5→Addr} (src:Src K ea) {fb:Nat} {DL:Frags} (hD:DecRaw fb DL) (G:Frags) :
    Fn Tryz.prog K 136 #[.pointer (some ⟨fb,0,none⟩),.iface src.t src.v,.slice none 0 0] (G ++ DL) fun r L=>r=Er.val ea .none∧∃ DN,DecNew src fb DN∧L=G ++ DN:=by
  obtain ⟨ab,cb,hb,e0,e2,e3,e4,t9,wr,rd,full,h,ws,av,cs,c1,c2,h1,h2,h3,h4,h5,h6,h7,rfl⟩:=hD
  refine Fn.sameR (Fn.perm List.perm_append_comm (Fn.frame (F:=G) (decReset_walk src fb ab cb hb e0 e2 e3 e4 t9 wr rd full h ws av cs c1 c2 h1 h2 h3 h4 h5 h6 h7))) ?_
  rintro v L ⟨L1,⟨rfl,DN,hDN,hS⟩,rfl⟩
  exact ⟨G ++ DN,(Same.perm List.perm_append_comm).trans (Same.appendL G hS),rfl,DN,hDN,rfl⟩
theorem flateNew_in {K:Known} {ea:Fin 5→Addr} (src:Src K ea) (G:Frags) :
    Fn Tryz.prog K 74 #[.iface src.t src.v] G fun r L=>∃ fb DN,r=.iface 190 (.pointer (some ⟨fb,0,none⟩))∧DecNew src fb DN∧L=G ++ DN:=by
  refine Fn.sameR (Fn.frame (L:=[]) (F:=G) (flateNew_spec src)) ?_
  rintro v L ⟨L1,⟨fb,ab,cb,hb,rfl,rfl⟩,rfl⟩
  obtain ⟨DN,hDN,hS⟩:=decNew src fb ab cb hb (List.replicate 32768 0) (List.replicate 316 (.int .i64 0)) (List.replicate 19 (.int .i64 0)) List.length_replicate List.length_replicate List.length_replicate G
  refine ⟨G ++ DN,(Same.perm List.perm_append_comm).trans (Same.trans (Same.of_eq ?_) hS),fb,DN,rfl,hDN,rfl⟩
  have e:bytesV (List.replicate 32768 0)=List.replicate 32768 (.int .u8 0):=by unfold bytesV; rw [List.map_replicate]; rfl
  rw [e]; rfl
theorem decRead_spec {K:Known} {ea:Fin 5→Addr} (hs:Sents K ea) (hc:Codes K) {src:Src K ea} {dt:List UInt8} {fb:Nat} {R:ResR} {gv:Nat} {L0:Frags} (hD:DecOk src dt fb R gv L0) (pb po n c:Nat) (cs:List Value) (hn:n=cs.length) (hn0:0 < n) :
    Fn Tryz.prog K 135 #[.pointer (some ⟨fb,0,none⟩),.slice (some ⟨pb,po,none⟩) (n) (c)] (L0 ++ [⟨pb,po,cs⟩]) (ReadEnd src dt fb R gv pb po n cs):=by
  obtain ⟨hb,pend,m,x1,x2,x3,Af,Tf,Wf,Hf,TL,hd,hall,rfl⟩:=hD
  refine Fn.lose (Fn.sameL (same_last x1 x2 x3 Af Tf Wf Hf _ TL).symm (decRead_walk hs hc src dt fb hb R gv pb po n c cs hn hn0 pend m x1 x2 x3 Af Tf Wf Hf TL hd hall)) ?_
  exact fun v L h=>h
theorem DecNew.ok {K:Known} {ea:Fin 5→Addr} {src:Src K ea} {fb:Nat} {DN:Frags} (h:DecNew src fb DN) {dt:List UInt8} {x1 x2 x3:Frag} (hA:src.At dt x1 x2 x3):DecOk src dt fb (run dt .next [] 0) 0 (x1::x2::x3::DN):=by
  obtain ⟨Af,Tf,Wf,Hf,TL,rfl,h⟩:=h
  obtain ⟨hb,h⟩:=h dt x1 x2 x3 hA
  exact ⟨hb,[],_,x1,x2,x3,Af,Tf,Wf,Hf,TL,h,fun h=>by omega,rfl⟩
theorem dmRead (b:Nat) (w:World):(method (Tryz.prog.types.size + Made.depth) 190 (.pointer (some ⟨b,0,none⟩)) "Read").run Tryz.prog w=.ok (135,.pointer (some ⟨b,0,none⟩)) w:=by
  obtain ⟨d,hd⟩:=depthS
  rw [hd]
  simp [method,Tryz.typeInfo190,Tryz.t190,Tryz.runUnderlying190,follow,receiverAt,Place.get]
theorem dmReset (b:Nat) (w:World):(method (Tryz.prog.types.size + Made.depth) 190 (.pointer (some ⟨b,0,none⟩)) "Reset").run Tryz.prog w=.ok (136,.pointer (some ⟨b,0,none⟩)) w:=by
  obtain ⟨d,hd⟩:=depthS
  rw [hd]
  simp [method,Tryz.typeInfo190,Tryz.t190,Tryz.runUnderlying190,follow,receiverAt,Place.get]
theorem dmBoth0:(Tryz.prog.info? 190).map (fun i=>(lacking #[("Reset",160)] i.methods).isEmpty)=some true:=by kernel_rfl
theorem dmBoth (want:Array (String × TypeId)) (h:Tryz.prog.underlying 159=some (.interface want)):(Tryz.prog.info? 190).map (fun i=>(lacking want i.methods).isEmpty)=some true:=by
  have h2:=(Tryz.underlying159).symm.trans h
  simp only [Option.some.injEq,TypeDesc.interface.injEq] at h2
  rw [← h2]
  exact dmBoth0
def isNilV:Value→Bool
  | .nilIface=>true
  | _=>false
theorem DcIn.nil {dcv:Value} {DL:Frags} (h:DcIn dcv DL) (hn:isNilV dcv=true):dcv=.nilIface∧DL=[]:=by
  rcases h with h | ⟨fb,rfl,_⟩
  · exact h
  · exact absurd hn (by simp [isNilV])
theorem DcIn.dec {dcv:Value} {DL:Frags} (h:DcIn dcv DL) (hn:isNilV dcv=false):∃ fb,dcv=.iface 190 (.pointer (some ⟨fb,0,none⟩))∧DecRaw fb DL:=by
  rcases h with ⟨rfl,_⟩ | h
  · exact absurd hn (by simp [isNilV])
  · exact h
theorem S.eqDc {K:Known} {n:Nat} {env:Env} {L:Frags} {ty t yT:TypeId} {x:Operand} {dcv:Value} {DL:Frags} {want:Array (String × TypeId)} (h:DcIn dcv DL) (hx:ev? env x=some dcv) (hu:Tryz.prog.underlying t=some (.interface want)) :
    OpS Tryz.prog K n (.binOp .eql t x (.const .nilIface) yT) ty env L (.bool (isNilV dcv)):=by
  rcases h with ⟨rfl,_⟩ | ⟨fb,rfl,_⟩
  · exact S.eqNilN hx hu
  · exact S.eqNilI hx hu
theorem E.shed {P:Program} {H0:Known} {n:Nat} {ops:Array Oper} {l:List Oper} {env:Env} {L A F:Frags} {N:Post} (is:List Nat) (hp:picks is L=some (A,F)) (h:wpE P H0 n ops l env F N):wpE P H0 n ops l env L N:=by
  intro a w hf hw Q s
  have p:=(Bq hp).trans List.perm_append_comm
  have hA:Agree H0 (F ++ A) w.heap:=hw.perm p
  exact h a w hf hA.drop Q fun e l a' w' h f t=>s e l a' w' h f ((To.frame hA t).drop.permL p)
def HeadEnd {K:Known} {ea:Fin 5→Addr} (src:Src K ea) (l:List UInt8) (zb:Nat) (c0 c1 c2 c3 c4 c5 c9 dcv:Value) (DL:Frags) (r:Value) (L:Frags):Prop :=
  ∃ hs f1 f2 f3 d2 bs2 hb,hs.length=6∧hs.all one=true∧r=.tuple #[.agg hs.toArray,Er.val ea (Av l).1]∧src.At (Av l).2.1 f1 f2 f3∧bs2.length=512∧d2 < 4294967296 ∧
    (((Av l).1 ≠ .none∧∃ T,L=[f1,f2,f3,⟨zb,0,[c0,c1,c2,c3,c4,c5,.iface src.t src.v,dcv,.int .u32 ((d2:Nat):Int),c9]⟩,⟨zb,10,bs2⟩,⟨hb,0,hs⟩] ++ (T ++ DL)) ∨
     ((Av l).1=.none∧∃ xa xn X fb DN,ExAt (Av l).2.2.extra xa xn X∧hs=headV (Av l).2.2 xa xn∧d2=0∧DecNew src fb DN ∧
        L=[f1,f2,f3,⟨zb,0,[c0,c1,c2,c3,c4,c5,.iface src.t src.v,.iface 190 (.pointer (some ⟨fb,0,none⟩)),.int .u32 ((d2:Nat):Int),c9]⟩,⟨zb,10,bs2⟩,⟨hb,0,hs⟩,X] ++ DN))
theorem readHeader_first {K:Known} {ea:Fin 5→Addr} (hs:Sents K ea) (src:Src K ea) (l:List UInt8) (x1 x2 x3:Frag) (zb d0:Nat) (c0 c1 c2 c3 c4 c5 c9 dcv:Value) (bs0:List Value) (DL:Frags) (hDL:DcIn dcv DL) (hA:src.At l x1 x2 x3) (hbs0:bs0.length=512) (hd0:d0 < 4294967296):Fn Tryz.prog K 51 #[.pointer (some ⟨zb,0,none⟩)] ([x1,x2,x3,⟨zb,0,[c0,c1,c2,c3,c4,c5,.iface src.t src.v,dcv,.int .u32 ((d0:Nat):Int),c9]⟩,⟨zb,10,bs0⟩] ++ DL) (HeadEnd src l zb c0 c1 c2 c3 c4 c5 c9 dcv DL):=by
 refine Fn.intro (args:=[.pointer (some ⟨zb,0,none⟩)]) (RR:=RetC1 2 6 3 _) Tryz.func51 rfl rfl Tryz.ntmps51 (resC1 Tryz.results51 Ta92 Tz92) ?_
 refine Bj (env2:=[(0,.pointer (some ⟨zb,0,none⟩))]) rfl<|Cr ?_
 refine Aj (Dr Tryz.zeroValue92) rfl ?_; rintro _ _ ⟨b2,rfl,rfl⟩; refine Ab (L2:=(_::_::_::_::_::_::_)) rfl ?_
 refine Aa (Ba (v:=Er.val ea .none) rfl) rfl<|Fy (Same.addEmpty (f:=⟨zb,10,bs0⟩) (by simp) 0)<|De [2,2,2,2,2,1,0] (A:=[_,_,_,_,_,_,_]) (F:=DL) rfl<|Ab (L2:=[x1,x2,x3,⟨zb,0,[c0,c1,c2,c3,c4,c5,.iface src.t src.v,dcv,.int .u32 ((d0:Nat):Int),c9]⟩,⟨zb,10,bs0⟩,⟨b2,0,[.string ⟨#[]⟩,.slice none 0 0,.int .u64 0,.int .i64 (0),.string ⟨#[]⟩,.int .u8 0]⟩,⟨zb,0,[]⟩] ++ DL) rfl<|Ek3 0 2 3 rfl<|Al<|Al ?_
 refine Fw (Same.splitAt (k:=10) 4 rfl rfl (List.take_append_drop 10 _).symm (by rw [List.length_take]; omega) rfl) ?_
 refine Bx (L2:=[_,_,_,_,_,_,_,_] ++ DL) rfl<|Br [0,1,2,4,0,16,32,64,136,256,512,512,4095] (.pure 0 240 (.pure 1 241 (.pure 2 243 (.pure 4 15 (.pure 5 31 (.pure 6 63 (.pure 7 127 (.seg [(3,247)] (.alt 8 (.pure 9 511 (.pure 10 3071 (.pure 11 2047 (.pure 12 4095 .done)))) .stop))))))))) mixed (by decide +kernel)<|Dm rfl rfl rfl<|Ah rfl (Ad rfl) rfl<|Ah rfl (Ac rfl fa99_1) rfl<|Dm rfl rfl rfl<|Ah rfl (Ad rfl) rfl<|Ah rfl (Ac rfl fa99_5) rfl<|Ah rfl (Fo (l:=0) (k:=.i64) (h:=10) rfl rfl rfl (by omega) (by omega) Tu97 Tz5) rfl<|Fa (v:=.slice (some ⟨zb,10,none⟩) (10) (512)) (Dj (by simp [part]) rfl rfl)<|Dd (by decide)<|Ar rfl (Ai 5 (k:=6) rfl rfl rfl Ta94) rfl ?_
 refine Db<|Bw ?_
 refine Bo rfl (OpX.pick [2,2,2,0] (F:=(_::_::_::_::_)) rfl (Ax rfl Tryz.call56 (Gf hs src l x1 x2 x3 zb 10 10 512 (List.take 10 _) hA (by rw [List.length_take]; omega) (by omega) (by omega)))) rfl ?_; rintro _ _ ⟨_,⟨f1,f2,f3,hF,rfl,rfl⟩,rfl⟩; refine Au (L2:=(_::_::_::_::_::_::_::_::_)) rfl ?_
 refine Dm rfl rfl rfl<|Ah rfl (Bh rfl rfl) rfl<|Ah rfl (Bh rfl rfl) rfl<|Ah rfl (Ba rfl) rfl<|Dk3 0 2 3 rfl ?_
 refine Fw (Same.joinAt 3 3 rfl rfl (by rw [show 10 + 10=10 + (10:Nat) from rfl]; congr 1; simp only [List.length_append,Bi,List.length_take,List.length_drop,min_i]; omega)) ?_
 refine Hs [1,1,1,1,0,0,0] (A:=[_,_,_,_,_,_,_]) (F:=DL) rfl<|Bx (L2:=[_,_,_,_,_,_,_] ++ DL) rfl<|Cr<|Em rfl rfl<|Ag (Dg rfl) rfl<|Ek4 0 2 3 22 rfl<|Dn rfl (fun h22 => ?_) (fun h22 => ?_)
 ·refine Cr<|Ag (Df 5 (k:=0) rfl rfl rfl rfl Ta92 Tz92) rfl<|Em rfl rfl ?_
  refine Ao (Bp 5 (k:=0) rfl rfl rfl rfl rfl rfl Tz92 rfl) ?_; rintro _ _ ⟨rfl,rfl⟩; refine Ab (L2:=(_::_::_::_::_::_::_::_)) rfl ?_
  refine Ea rfl rfl<|Ek4 0 2 3 22 rfl<|Bc ?_
  have hRR:=readHead_bad h22
  refine ⟨_,_,⟨_,_,5,rfl,rfl,rfl⟩,rfl,_,_,_,_,_,_,_,rfl,rfl,?_,?_,?_,?_,.inl ⟨?_,[_],rfl⟩⟩
  · rw [hRR]; rfl
  · rw [hRR]; exact hF
  · rw [buf_join (by omega)]; exact hbs0
  · assumption
  · rw [hRR]; first | assumption | (exact Dy (by assumption)) | simp
 rw [h22]
 obtain ⟨v0,v1,v2,v3,v4,v5,v6,v7,v8,v9,r,hl⟩:=ten h22
 have hv0:=v0.toNat_lt
 have hv1:=v1.toNat_lt
 have hv2:=v2.toNat_lt
 have hv3:=v3.toNat_lt
 have hv4:=v4.toNat_lt
 have hv5:=v5.toNat_lt
 have hv6:=v6.toNat_lt
 have hv7:=v7.toNat_lt
 have hv8:=v8.toNat_lt
 have hv9:=v9.toNat_lt
 have hle:=le32_lt hv4 hv5 hv6 hv7
 refine Bx (L2:=[f1,f2,f3,⟨zb,0,[c0,c1,c2,c3,c4,c5,.iface src.t src.v,dcv,.int .u32 ((d0:Nat):Int),c9]⟩,⟨zb,10,u8 v0::u8 v1::u8 v2::u8 v3::u8 v4::u8 v5::u8 v6::u8 v7::u8 v8::u8 v9::bs0.drop 10⟩,⟨b2,0,[.string ⟨#[]⟩,.slice none 0 0,.int .u64 0,.int .i64 (0),.string ⟨#[]⟩,.int .u8 0]⟩,⟨zb,0,[]⟩] ++ DL) (by rw [buf_full (full_len h22),hl]; rfl) ?_
 rw [show l.drop 10=r by rw [hl]; rfl] at hF
 refine Ap<|Al<|Cr<|Em rfl rfl<|Aa (Ad rfl) rfl<|Aa (Ac rfl fa99_5) rfl<|Aa (Bk (i:=0) rfl rfl (by omega) Tu97 Tz5) rfl<|Ag (Ai 4 (k:=0) rfl rfl rfl Ta5) rfl<|Aa (S.ne (b:=((31:Nat):Int)) rfl rfl) rfl<|Em rfl rfl<|Ek (fun g31 => ?_) (fun g31 => ?_)
 ·refine Ae 31 true rfl rfl rfl rfl<|Ae 31 true rfl rfl rfl rfl<|Ae 31 true rfl rfl rfl rfl<|Ae 31 true rfl rfl rfl rfl<|Ae 31 true rfl rfl rfl rfl<|Ae 31 true rfl rfl rfl rfl<|Aa (Bz rfl rfl) rfl<|Em rfl rfl<|Ae 39 true rfl rfl rfl rfl<|Ae 39 true rfl rfl rfl rfl<|Ae 39 true rfl rfl rfl rfl<|Ae 39 true rfl rfl rfl rfl ?_
  refine Ae 39 true rfl rfl rfl rfl<|Ae 39 true rfl rfl rfl rfl<|Aa (Bz rfl rfl) rfl<|Ek5 0 2 3 22 46 rfl<|Hg rfl (rfl)<|Al<|Br [0,0,1,7] (.alt 0 (.alt 1 (.alt 2 (.pure 3 7 .done) .stop) (.alt 2 (.seg [(1,5),(3,7)] .done) .stop)) (.alt 1 (.seg [(0,2)] (.alt 2 (.pure 3 7 .done) .stop)) .stop)) mixed (by decide +kernel)<|Gw ?_ ⟨?_,trivial⟩
  ·refine El rfl (Df 5 (k:=0) rfl rfl rfl rfl Ta92 Tz92) rfl<|Gw ?_ ⟨?_,trivial⟩
   ·refine El rfl (Be rfl hs.g1 Ta58) rfl<|Bw ?_
    refine Di rfl (Bp 5 (k:=0) rfl rfl rfl rfl rfl rfl Tz92 rfl) ?_; rintro _ _ ⟨rfl,rfl⟩; refine Au (L2:=(_::_::_::_::_::_::_::_)) rfl ?_
    refine Ah rfl (Ba rfl) rfl<|Dk5 0 2 3 22 46 rfl<|Bc ?_
    have hRR:Av l=(.header,r,noHd):=by rw [hl,Eo,if_neg (by omega)]
    refine ⟨_,_,⟨_,_,5,rfl,rfl,rfl⟩,rfl,_,_,_,_,_,_,_,rfl,rfl,?_,?_,?_,?_,.inl ⟨?_,[_],rfl⟩⟩
    · rw [hRR]; done
    · rw [hRR]; exact hF
    · simp only [List.length_cons,List.length_drop]; omega
    · assumption
    · rw [hRR]; first | assumption | (exact Dy (by assumption)) | simp
   refine Di rfl (Bp 5 (k:=0) rfl rfl rfl rfl rfl rfl Tz92 rfl) ?_; rintro _ _ ⟨rfl,rfl⟩; refine Au (L2:=(_::_::_::_::_::_::_::_)) rfl ?_
   refine Dd (by decide)<|Ar rfl (Be rfl hs.g1 Ta58) rfl<|Bb rfl (Ba rfl) rfl<|Db<|Dk5 0 2 3 22 46 rfl<|Bc ?_
   have hRR:Av l=(.header,r,noHd):=by rw [hl,Eo,if_neg (by omega)]
   refine ⟨_,_,⟨_,_,5,rfl,rfl,rfl⟩,rfl,_,_,_,_,_,_,_,rfl,rfl,?_,?_,?_,?_,.inl ⟨?_,[_],rfl⟩⟩
   · rw [hRR]; done
   · rw [hRR]; exact hF
   · simp only [List.length_cons,List.length_drop]; omega
   · assumption
   · rw [hRR]; first | assumption | (exact Dy (by assumption)) | simp
  refine El rfl (Be rfl hs.g1 Ta58) rfl<|Dd (by decide)<|Ar rfl (Df 5 (k:=0) rfl rfl rfl rfl Ta92 Tz92) rfl<|Db<|Bw ?_
  refine Di rfl (Bp 5 (k:=0) rfl rfl rfl rfl rfl rfl Tz92 rfl) ?_; rintro _ _ ⟨rfl,rfl⟩; refine Au (L2:=(_::_::_::_::_::_::_::_)) rfl ?_
  refine Ah rfl (Ba rfl) rfl<|Dk5 0 2 3 22 46 rfl<|Bc ?_
  have hRR:Av l=(.header,r,noHd):=by rw [hl,Eo,if_neg (by omega)]
  refine ⟨_,_,⟨_,_,5,rfl,rfl,rfl⟩,rfl,_,_,_,_,_,_,_,rfl,rfl,?_,?_,?_,?_,.inl ⟨?_,[_],rfl⟩⟩
  · rw [hRR]; done
  · rw [hRR]; exact hF
  · simp only [List.length_cons,List.length_drop]; omega
  · assumption
  · rw [hRR]; first | assumption | (exact Dy (by assumption)) | simp
 refine Am 31 rfl rfl<|Em rfl rfl<|Am 31 rfl rfl<|Aa (Ad rfl) rfl<|Am 31 rfl rfl<|Aa (Ac rfl fa99_5) rfl<|Am 31 rfl rfl<|Aa (Bk (i:=1) rfl rfl (by omega) Tu97 Tz5) rfl<|Am 31 rfl rfl<|Ag (Ai 4 (k:=1) rfl rfl rfl Ta5) rfl<|Am 31 rfl rfl<|Aa (S.ne (b:=((139:Nat):Int)) rfl rfl) rfl ?_
 refine Aa (Bn rfl rfl) rfl<|Em rfl rfl<|Ek (fun g39 => ?_) (fun g39 => ?_)
 ·refine Ae 39 true rfl rfl rfl rfl<|Ae 39 true rfl rfl rfl rfl<|Ae 39 true rfl rfl rfl rfl<|Ae 39 true rfl rfl rfl rfl<|Ae 39 true rfl rfl rfl rfl<|Ae 39 true rfl rfl rfl rfl<|Aa (Bz rfl rfl) rfl<|Ek5 0 2 3 22 46 rfl<|Hg rfl (rfl)<|Al<|Br [0,0,1,7] (.alt 0 (.alt 1 (.alt 2 (.pure 3 7 .done) .stop) (.alt 2 (.seg [(1,5),(3,7)] .done) .stop)) (.alt 1 (.seg [(0,2)] (.alt 2 (.pure 3 7 .done) .stop)) .stop)) mixed (by decide +kernel)<|Gw ?_ ⟨?_,trivial⟩
  ·refine El rfl (Df 5 (k:=0) rfl rfl rfl rfl Ta92 Tz92) rfl<|Gw ?_ ⟨?_,trivial⟩
   ·refine El rfl (Be rfl hs.g1 Ta58) rfl<|Bw ?_
    refine Di rfl (Bp 5 (k:=0) rfl rfl rfl rfl rfl rfl Tz92 rfl) ?_; rintro _ _ ⟨rfl,rfl⟩; refine Au (L2:=(_::_::_::_::_::_::_::_)) rfl ?_
    refine Ah rfl (Ba rfl) rfl<|Dk5 0 2 3 22 46 rfl<|Bc ?_
    have hRR:Av l=(.header,r,noHd):=by rw [hl,Eo,if_neg (by omega)]
    refine ⟨_,_,⟨_,_,5,rfl,rfl,rfl⟩,rfl,_,_,_,_,_,_,_,rfl,rfl,?_,?_,?_,?_,.inl ⟨?_,[_],rfl⟩⟩
    · rw [hRR]; done
    · rw [hRR]; exact hF
    · simp only [List.length_cons,List.length_drop]; omega
    · assumption
    · rw [hRR]; first | assumption | (exact Dy (by assumption)) | simp
   refine Di rfl (Bp 5 (k:=0) rfl rfl rfl rfl rfl rfl Tz92 rfl) ?_; rintro _ _ ⟨rfl,rfl⟩; refine Au (L2:=(_::_::_::_::_::_::_::_)) rfl ?_
   refine Dd (by decide)<|Ar rfl (Be rfl hs.g1 Ta58) rfl<|Bb rfl (Ba rfl) rfl<|Db<|Dk5 0 2 3 22 46 rfl<|Bc ?_
   have hRR:Av l=(.header,r,noHd):=by rw [hl,Eo,if_neg (by omega)]
   refine ⟨_,_,⟨_,_,5,rfl,rfl,rfl⟩,rfl,_,_,_,_,_,_,_,rfl,rfl,?_,?_,?_,?_,.inl ⟨?_,[_],rfl⟩⟩
   · rw [hRR]; done
   · rw [hRR]; exact hF
   · simp only [List.length_cons,List.length_drop]; omega
   · assumption
   · rw [hRR]; first | assumption | (exact Dy (by assumption)) | simp
  refine El rfl (Be rfl hs.g1 Ta58) rfl<|Dd (by decide)<|Ar rfl (Df 5 (k:=0) rfl rfl rfl rfl Ta92 Tz92) rfl<|Db<|Bw ?_
  refine Di rfl (Bp 5 (k:=0) rfl rfl rfl rfl rfl rfl Tz92 rfl) ?_; rintro _ _ ⟨rfl,rfl⟩; refine Au (L2:=(_::_::_::_::_::_::_::_)) rfl ?_
  refine Ah rfl (Ba rfl) rfl<|Dk5 0 2 3 22 46 rfl<|Bc ?_
  have hRR:Av l=(.header,r,noHd):=by rw [hl,Eo,if_neg (by omega)]
  refine ⟨_,_,⟨_,_,5,rfl,rfl,rfl⟩,rfl,_,_,_,_,_,_,_,rfl,rfl,?_,?_,?_,?_,.inl ⟨?_,[_],rfl⟩⟩
  · rw [hRR]; done
  · rw [hRR]; exact hF
  · simp only [List.length_cons,List.length_drop]; omega
  · assumption
  · rw [hRR]; first | assumption | (exact Dy (by assumption)) | simp
 refine Am 39 rfl rfl<|Em rfl rfl<|Am 39 rfl rfl<|Aa (Ad rfl) rfl<|Am 39 rfl rfl<|Aa (Ac rfl fa99_5) rfl<|Am 39 rfl rfl<|Aa (Bk (i:=2) rfl rfl (by omega) Tu97 Tz5) rfl<|Am 39 rfl rfl<|Ag (Ai 4 (k:=2) rfl rfl rfl Ta5) rfl<|Am 39 rfl rfl<|Aa (S.ne (b:=((8:Nat):Int)) rfl rfl) rfl ?_
 refine Aa (Bn rfl rfl) rfl<|Ek5 0 2 3 22 46 rfl<|Bg rfl (fun h46 => ?_) (fun h46 => ?_)
 ·refine Al<|Br [0,0,1,7] (.alt 0 (.alt 1 (.alt 2 (.pure 3 7 .done) .stop) (.alt 2 (.seg [(1,5),(3,7)] .done) .stop)) (.alt 1 (.seg [(0,2)] (.alt 2 (.pure 3 7 .done) .stop)) .stop)) mixed (by decide +kernel)<|Gw ?_ ⟨?_,trivial⟩
  ·refine El rfl (Df 5 (k:=0) rfl rfl rfl rfl Ta92 Tz92) rfl<|Gw ?_ ⟨?_,trivial⟩
   ·refine El rfl (Be rfl hs.g1 Ta58) rfl<|Bw ?_
    refine Di rfl (Bp 5 (k:=0) rfl rfl rfl rfl rfl rfl Tz92 rfl) ?_; rintro _ _ ⟨rfl,rfl⟩; refine Au (L2:=(_::_::_::_::_::_::_::_)) rfl ?_
    refine Ah rfl (Ba rfl) rfl<|Dk5 0 2 3 22 46 rfl<|Bc ?_
    have hRR:Av l=(.header,r,noHd):=by rw [hl,Eo,if_neg (by omega)]
    refine ⟨_,_,⟨_,_,5,rfl,rfl,rfl⟩,rfl,_,_,_,_,_,_,_,rfl,rfl,?_,?_,?_,?_,.inl ⟨?_,[_],rfl⟩⟩
    · rw [hRR]; done
    · rw [hRR]; exact hF
    · simp only [List.length_cons,List.length_drop]; omega
    · assumption
    · rw [hRR]; first | assumption | (exact Dy (by assumption)) | simp
   refine Di rfl (Bp 5 (k:=0) rfl rfl rfl rfl rfl rfl Tz92 rfl) ?_; rintro _ _ ⟨rfl,rfl⟩; refine Au (L2:=(_::_::_::_::_::_::_::_)) rfl ?_
   refine Dd (by decide)<|Ar rfl (Be rfl hs.g1 Ta58) rfl<|Bb rfl (Ba rfl) rfl<|Db<|Dk5 0 2 3 22 46 rfl<|Bc ?_
   have hRR:Av l=(.header,r,noHd):=by rw [hl,Eo,if_neg (by omega)]
   refine ⟨_,_,⟨_,_,5,rfl,rfl,rfl⟩,rfl,_,_,_,_,_,_,_,rfl,rfl,?_,?_,?_,?_,.inl ⟨?_,[_],rfl⟩⟩
   · rw [hRR]; done
   · rw [hRR]; exact hF
   · simp only [List.length_cons,List.length_drop]; omega
   · assumption
   · rw [hRR]; first | assumption | (exact Dy (by assumption)) | simp
  refine El rfl (Be rfl hs.g1 Ta58) rfl<|Dd (by decide)<|Ar rfl (Df 5 (k:=0) rfl rfl rfl rfl Ta92 Tz92) rfl<|Db<|Bw ?_
  refine Di rfl (Bp 5 (k:=0) rfl rfl rfl rfl rfl rfl Tz92 rfl) ?_; rintro _ _ ⟨rfl,rfl⟩; refine Au (L2:=(_::_::_::_::_::_::_::_)) rfl ?_
  refine Ah rfl (Ba rfl) rfl<|Dk5 0 2 3 22 46 rfl<|Bc ?_
  have hRR:Av l=(.header,r,noHd):=by rw [hl,Eo,if_neg (by omega)]
  refine ⟨_,_,⟨_,_,5,rfl,rfl,rfl⟩,rfl,_,_,_,_,_,_,_,rfl,rfl,?_,?_,?_,?_,.inl ⟨?_,[_],rfl⟩⟩
  · rw [hRR]; done
  · rw [hRR]; exact hF
  · simp only [List.length_cons,List.length_drop]; omega
  · assumption
  · rw [hRR]; first | assumption | (exact Dy (by assumption)) | simp
 refine Ap<|Cr<|Em rfl rfl<|Aa (Ad rfl) rfl<|Aa (Ac rfl fa99_5) rfl<|Aa (Bk (i:=3) rfl rfl (by omega) Tu97 Tz5) rfl<|Ag (Ai 4 (k:=3) rfl rfl rfl Ta5) rfl<|Ea rfl rfl<|Ek6 0 2 3 4 22 46 rfl<|Dx (M:=fun ee ll=>keeps ee [0,2,3,4]=some [(0,.pointer (some ⟨zb,0,none⟩)),(2,.pointer (some ⟨b2,0,none⟩)),(3,Er.val ea .none),(4,.int .u8 ((v3.toNat:Nat):Int))]∧ll=[f1,f2,f3,⟨zb,0,[c0,c1,c2,c3,c4,c5,.iface src.t src.v,dcv,.int .u32 ((d0:Nat):Int),c9]⟩,⟨zb,10,u8 v0::u8 v1::u8 v2::u8 v3::u8 v4::u8 v5::u8 v6::u8 v7::u8 v8::u8 v9::bs0.drop 10⟩,⟨b2,0,[.string ⟨#[]⟩,.slice none 0 0,.int .u64 0,.int .i64 (timeV (le32 v4.toNat v5.toNat v6.toNat v7.toNat)),.string ⟨#[]⟩,.int .u8 0]⟩,⟨zb,0,[]⟩] ++ DL) ?_ ?_
 ·refine Cr<|Em rfl rfl<|Aa (Ad rfl) rfl<|Aa (Ac rfl fa99_5) rfl<|Aa (Fo (l:=4) (h:=8) rfl rfl rfl (by omega) (by omega) Tu97 Tz5) rfl<|An (v:=.slice (some ⟨zb,14,none⟩) (4) (508)) (Dj (by simp [part]) rfl rfl) ?_
  refine Aj (Ax rfl Tryz.call58 (le32_spec zb 14 4 508 v4 v5 v6 v7 [] (by omega) (Reads.frag (i:=4) (k:=4) rfl rfl))) rfl ?_; rintro _ _ ⟨rfl,rfl⟩; refine Ab (L2:=(_::_::_::_::_::_::_::_)) rfl ?_
  refine Aa (Bu rfl Tu69 Tu2 (N.i64n (by omega))) rfl<|Ea rfl rfl<|Ek7 0 2 3 4 5 22 46 rfl<|Cr<|Em rfl rfl<|Aa (Fl (b:=((0:Nat):Int)) rfl rfl) rfl<|Ek8 0 2 3 4 5 22 46 61 rfl<|Bg rfl (fun h61 => ?_) (fun h61 => ?_)
  ·refine Ak<|Em rfl rfl ?_
   refine Aj (OpX.pick [] (F:=(_::_::_::_::_::_::_::_)) rfl (Ax rfl Tryz.call70 (unix_spec (le32 v4.toNat v5.toNat v6.toNat v7.toNat) (by omega)))) rfl ?_; rintro _ _ ⟨_,⟨q1,q2,rfl,rfl⟩,rfl⟩; refine Ab (L2:=(_::_::_::_::_::_::_::_::_::_)) rfl ?_
   refine De [2,2,2,2,2,2,2] (A:=[_,_,_,_,_,_,_]) (F:=[_,_] ++ DL) rfl<|E.shed [7,7] (A:=[_,_]) (F:=[_,_,_,_,_,_,_] ++ DL) rfl<|Aa (Ac rfl fa92_2) rfl ?_
   refine Ao (Bp 5 (k:=2) rfl rfl rfl rfl rfl rfl Tz90 rfl) ?_; rintro _ _ ⟨rfl,rfl⟩; refine Ab (L2:=(_::_::_::_::_::_::_::_)) rfl ?_
   refine Ek8 0 2 3 4 5 22 46 61 rfl ?_
   exact ⟨rfl,congrArg (fun x:Int=>[f1,f2,f3,⟨zb,0,[c0,c1,c2,c3,c4,c5,.iface src.t src.v,dcv,.int .u32 ((d0:Nat):Int),c9]⟩,⟨zb,10,u8 v0::u8 v1::u8 v2::u8 v3::u8 v4::u8 v5::u8 v6::u8 v7::u8 v8::u8 v9::bs0.drop 10⟩,(⟨b2,0,[.string ⟨#[]⟩,.slice none 0 0,.int .u64 0,.int .i64 (x),.string ⟨#[]⟩,.int .u8 0]⟩:Frag),⟨zb,0,[]⟩] ++ DL) (timeV_pos h61)⟩
  refine Ap ?_
  exact ⟨rfl,congrArg (fun x:Int=>[f1,f2,f3,⟨zb,0,[c0,c1,c2,c3,c4,c5,.iface src.t src.v,dcv,.int .u32 ((d0:Nat):Int),c9]⟩,⟨zb,10,u8 v0::u8 v1::u8 v2::u8 v3::u8 v4::u8 v5::u8 v6::u8 v7::u8 v8::u8 v9::bs0.drop 10⟩,(⟨b2,0,[.string ⟨#[]⟩,.slice none 0 0,.int .u64 0,.int .i64 (x),.string ⟨#[]⟩,.int .u8 0]⟩:Frag),⟨zb,0,[]⟩] ++ DL) (timeV_zero h61)⟩
 rintro _ _ ⟨hq10,rfl⟩
 refine Az _ hq10<|Cr<|Em rfl rfl<|Aa (Ad rfl) rfl<|Aa (Ac rfl fa99_5) rfl<|Aa (Bk (i:=9) rfl rfl (by omega) Tu97 Tz5) rfl<|Ag (Ai 4 (k:=9) rfl rfl rfl Ta5) rfl<|Aa (Ac rfl fa92_4) rfl ?_
 refine Ao (Aq 5 (k:=5) rfl rfl rfl rfl rfl Tz5) ?_; rintro _ _ ⟨rfl,rfl⟩; refine Ab (L2:=(_::_::_::_::_::_::_::_)) rfl ?_
 refine Ek4 0 2 3 4 rfl<|Dx (M:=fun ee ll=>∃ (l2:List UInt8),∃ (d:Nat),∃ (h:Hd),∃ (bs:List Value),∃ (hb:Nat),∃ (xa:Option Addr),∃ (xn:Nat),∃ (xf:Frag),∃ (f1:Frag),∃ (f2:Frag),∃ (f3:Frag),keeps ee [0,2,3,4]=some [(0,.pointer (some ⟨zb,0,none⟩)),(2,.pointer (some ⟨hb,0,none⟩)),(3,Er.val ea .none),(4,.int .u8 ((v3.toNat:Nat):Int))]∧ll=[f1,f2,f3,⟨zb,0,[c0,c1,c2,c3,c4,c5,.iface src.t src.v,dcv,.int .u32 ((d:Nat):Int),c9]⟩,⟨zb,10,bs⟩,⟨hb,0,[.string h.comment,.slice xa xn xn,.int .u64 0,.int .i64 (timeV h.mod),.string h.name,.int .u8 ((h.os:Nat):Int)]⟩,xf] ++ DL∧(Av l=rd1 l2 v3.toNat d h)∧(src.At l2 f1 f2 f3)∧(bs.length=512)∧(d < 4294967296)∧(ExAt h.extra xa xn xf)) ?_ ?_
 ·refine Ak<|Em rfl rfl<|Em rfl rfl<|Aa (Ad rfl) rfl<|Aa (Ac rfl fa99_5) rfl<|Aa (Fo (l:=0) (k:=.i64) (h:=10) rfl rfl rfl (by omega) (by omega) Tu97 Tz5) rfl<|An (v:=.slice (some ⟨zb,10,none⟩) (10) (512)) (Dj (by simp [part]) rfl rfl) ?_
  refine Aj (Ax rfl Tryz.call71 (ChecksumIEEE_spec zb 10 512 [v0,v1,v2,v3,v4,v5,v6,v7,v8,v9] (Reads.frag (i:=4) (k:=0) rfl rfl) (by simp) (by simp))) rfl ?_; rintro _ _ ⟨rfl,rfl⟩; refine Ab (L2:=(_::_::_::_::_::_::_::_)) rfl ?_
  refine Aa (Ad rfl) rfl<|Aa (Ac rfl fa99_3) rfl ?_
  refine Ao (Aq 3 (k:=8) rfl rfl rfl rfl rfl Tz69) ?_; rintro _ _ ⟨rfl,rfl⟩; refine Ab (L2:=(_::_::_::_::_::_::_::_)) rfl ?_
  refine Ek4 0 2 3 4 rfl ?_
  exact ⟨r,crcOn IEEE 0 [v0,v1,v2,v3,v4,v5,v6,v7,v8,v9],{ noHd with mod:=le32 v4.toNat v5.toNat v6.toNat v7.toNat,os:=v9.toNat },_,b2,none,0,⟨zb,0,[]⟩,f1,f2,f3,rfl,rfl,by rw [hl,Eo,if_pos (by omega)],hF,by simp only [List.length_cons,List.length_drop]; omega,Gz (by decide) (by decide) _,⟨rfl,rfl,rfl⟩⟩
 rintro _ _ ⟨l2,d,h,bs,hb,xa,xn,xf,f1,f2,f3,hq12,rfl,hR,hG,hbs,hd,hX⟩
 refine Az _ hq12<|Dx (M:=fun ee ll=>∃ (l2:List UInt8),∃ (d:Nat),∃ (h:Hd),∃ (bs:List Value),∃ (hb:Nat),∃ (xa:Option Addr),∃ (xn:Nat),∃ (xf:Frag),∃ (f1:Frag),∃ (f2:Frag),∃ (f3:Frag),keeps ee [0,2,3,4]=some [(0,.pointer (some ⟨zb,0,none⟩)),(2,.pointer (some ⟨hb,0,none⟩)),(3,Er.val ea .none),(4,.int .u8 ((v3.toNat:Nat):Int))]∧ll=[f1,f2,f3,⟨zb,0,[c0,c1,c2,c3,c4,c5,.iface src.t src.v,dcv,.int .u32 ((d:Nat):Int),c9]⟩,⟨zb,10,bs⟩,⟨hb,0,[.string h.comment,.slice xa xn xn,.int .u64 0,.int .i64 (timeV h.mod),.string h.name,.int .u8 ((h.os:Nat):Int)]⟩,xf] ++ DL∧(Av l=rd2 l2 v3.toNat d h)∧(src.At l2 f1 f2 f3)∧(bs.length=512)∧(d < 4294967296)∧(ExAt h.extra xa xn xf)) ?_ ?_
 ·refine Cr<|Em rfl rfl<|Aa (Ey (b:=((4:Nat):Int)) rfl rfl (N.and_u8 (by omega) (by omega))) rfl<|Aa (S.ne (b:=((0:Nat):Int)) rfl rfl) rfl<|Ek5 0 2 3 4 81 rfl<|Bg rfl (fun h81 => ?_) (fun h81 => ?_)
  ·refine Al<|Al ?_
   refine Fw (Same.splitAt (k:=2) 4 rfl rfl (List.take_append_drop 2 _).symm (by rw [List.length_take]; omega) rfl) ?_
   refine Bx (L2:=[_,_,_,_,_,_,_,_] ++ DL) rfl<|Br [0,1,2,4,0,16,32,64,136,256,512,512,4095] (.pure 0 240 (.pure 1 241 (.pure 2 243 (.pure 4 15 (.pure 5 31 (.pure 6 63 (.pure 7 127 (.seg [(3,247)] (.alt 8 (.pure 9 511 (.pure 10 3071 (.pure 11 2047 (.pure 12 4095 .done)))) .stop))))))))) mixed (by decide +kernel)<|Dm rfl rfl rfl<|Ah rfl (Ad rfl) rfl<|Ah rfl (Ac rfl fa99_1) rfl<|Dm rfl rfl rfl<|Ah rfl (Ad rfl) rfl<|Ah rfl (Ac rfl fa99_5) rfl<|Ah rfl (Fo (l:=0) (k:=.i64) (h:=2) rfl rfl rfl (by omega) (by omega) Tu97 Tz5) rfl<|Fa (v:=.slice (some ⟨zb,10,none⟩) (2) (512)) (Dj (by simp [part]) rfl rfl)<|Dd (by decide)<|Ar rfl (Ai 5 (k:=6) rfl rfl rfl Ta94) rfl ?_
   refine Db<|Bw ?_
   refine Bo rfl (OpX.pick [2,2,2,0] (F:=(_::_::_::_::_)) rfl (Ax rfl Tryz.call56 (Gf hs src l2 f1 f2 f3 zb 10 2 512 (List.take 2 _) hG (by rw [List.length_take]; omega) (by omega) (by omega)))) rfl ?_; rintro _ _ ⟨_,⟨k1,k2,k3,hF,rfl,rfl⟩,rfl⟩; refine Au (L2:=(_::_::_::_::_::_::_::_::_)) rfl ?_
   refine Dm rfl rfl rfl<|Ah rfl (Bh rfl rfl) rfl<|Ah rfl (Bh rfl rfl) rfl<|Ah rfl (Ba rfl) rfl<|Dk5 0 2 3 4 81 rfl ?_
   refine Fw (Same.joinAt 3 3 rfl rfl (by rw [show 10 + 2=10 + (2:Nat) from rfl]; congr 1; simp only [List.length_append,Bi,List.length_take,List.length_drop,min_i]; omega)) ?_
   refine Hs [1,1,1,1,0,0,0] (A:=[_,_,_,_,_,_,_]) (F:=DL) rfl<|Bx (L2:=[_,_,_,_,_,_,_] ++ DL) rfl<|Cr<|Em rfl rfl<|Ag (Dg rfl) rfl<|Ek6 0 2 3 4 81 95 rfl<|Dn rfl (fun h95 => ?_) (fun h95 => ?_)
   ·refine Al<|Br [0,0,2,5,15] (.pure 1 1 (.alt 0 (.alt 2 (.alt 3 (.pure 4 15 .done) .stop) .stop) (.alt 2 (.seg [(0,6)] (.alt 3 (.pure 4 15 .done) .stop)) .stop))) mixed (by decide +kernel)<|Dm rfl rfl rfl<|Gw ?_ ⟨?_,trivial⟩
    ·refine El rfl (Df 5 (k:=0) rfl rfl rfl rfl Ta92 Tz92) rfl<|Bw ?_
     refine Bo rfl (OpX.pick [] (F:=(_::_::_::_::_::_::_::_)) rfl (Ax rfl Tryz.call57 (Ev (L:=[]) hs _))) rfl ?_; rintro _ _ ⟨_,⟨rfl,rfl⟩,rfl⟩; refine Au (L2:=(_::_::_::_::_::_::_::_)) rfl ?_
     refine Bw ?_
     refine Di rfl (Bp 5 (k:=0) rfl rfl rfl rfl rfl rfl Tz92 rfl) ?_; rintro _ _ ⟨rfl,rfl⟩; refine Au (L2:=(_::_::_::_::_::_::_::_)) rfl ?_
     refine Ah rfl (Ba rfl) rfl<|Dk6 0 2 3 4 81 95 rfl<|Bc ?_
     have hRR:Av l=(noEof (Dh l2 2),l2.drop 2,h):=by rw [hR,rd1,if_neg (by omega),if_pos h95]
     refine ⟨_,_,⟨_,_,5,rfl,rfl,rfl⟩,rfl,_,_,_,_,_,_,_,rfl,rfl,?_,?_,?_,?_,.inl ⟨?_,[_],rfl⟩⟩
     · rw [hRR]; done
     · rw [hRR]; exact hF
     · rw [buf_join (by omega)]; exact hbs
     · assumption
     · rw [hRR]; first | assumption | (exact Dy (by assumption)) | simp
    refine Bo rfl (OpX.pick [] (F:=(_::_::_::_::_::_::_::_)) rfl (Ax rfl Tryz.call57 (Ev (L:=[]) hs _))) rfl ?_; rintro _ _ ⟨_,⟨rfl,rfl⟩,rfl⟩; refine Au (L2:=(_::_::_::_::_::_::_::_)) rfl ?_
    refine Dd (by decide)<|Ar rfl (Df 5 (k:=0) rfl rfl rfl rfl Ta92 Tz92) rfl<|Db<|Bw ?_
    refine Di rfl (Bp 5 (k:=0) rfl rfl rfl rfl rfl rfl Tz92 rfl) ?_; rintro _ _ ⟨rfl,rfl⟩; refine Au (L2:=(_::_::_::_::_::_::_::_)) rfl ?_
    refine Ah rfl (Ba rfl) rfl<|Dk6 0 2 3 4 81 95 rfl<|Bc ?_
    have hRR:Av l=(noEof (Dh l2 2),l2.drop 2,h):=by rw [hR,rd1,if_neg (by omega),if_pos h95]
    refine ⟨_,_,⟨_,_,5,rfl,rfl,rfl⟩,rfl,_,_,_,_,_,_,_,rfl,rfl,?_,?_,?_,?_,.inl ⟨?_,[_],rfl⟩⟩
    · rw [hRR]; done
    · rw [hRR]; exact hF
    · rw [buf_join (by omega)]; exact hbs
    · assumption
    · rw [hRR]; first | assumption | (exact Dy (by assumption)) | simp
   rw [h95]
   obtain ⟨w0,w1,r2,hl2⟩:=two h95
   have hw0:=w0.toNat_lt
   have hw1:=w1.toNat_lt
   have h16:=le16_lt hw0 hw1
   have e1:l2.drop 2=r2:=by rw [hl2]; rfl
   have e2:le16of l2=le16 w0.toNat w1.toNat:=by rw [hl2]; rfl
   refine Bx (L2:=[k1,k2,k3,⟨zb,0,[c0,c1,c2,c3,c4,c5,.iface src.t src.v,dcv,.int .u32 ((d:Nat):Int),c9]⟩,⟨zb,10,u8 w0::u8 w1::bs.drop 2⟩,⟨hb,0,[.string h.comment,.slice xa xn xn,.int .u64 0,.int .i64 (timeV h.mod),.string h.name,.int .u8 ((h.os:Nat):Int)]⟩,xf] ++ DL) (by rw [buf_full (full_len h95),hl2]; rfl) ?_
   rw [e1] at hF
   refine Ap<|Al<|Br [0,0,2,4,8,0,32,64,128,272,1023,2047,3071] (.pure 0 1022 (.pure 1 481 (.pure 2 483 (.pure 3 487 (.pure 5 31 (.pure 6 63 (.pure 7 127 (.pure 8 255 (.seg [(4,495)] (.alt 9 (.pure 10 1023 (.pure 11 2047 (.alt 12 .done .stop))) .stop)))))))))) mixed (by decide +kernel)<|Dm rfl rfl rfl<|Dm rfl rfl rfl<|Ah rfl (Ad rfl) rfl<|Ah rfl (Ac rfl fa99_3) rfl<|Dm rfl rfl rfl<|Ah rfl (Ad rfl) rfl<|Ah rfl (Ac rfl fa99_5) rfl<|Ah rfl (Fo (l:=0) (k:=.i64) (h:=2) rfl rfl rfl (by omega) (by omega) Tu97 Tz5) rfl<|Fa (v:=.slice (some ⟨zb,10,none⟩) (2) (512)) (Dj (by simp [part]) rfl rfl) ?_
   refine Dd (by decide)<|Ar rfl (Ai 3 (k:=8) rfl rfl rfl Ta69) rfl<|Db<|Bw ?_
   refine Bo rfl (Ax rfl Tryz.call55 (Gu d zb 10 512 [w0,w1] hd (Reads.frag (i:=4) (k:=0) rfl rfl) (by simp) (by simp))) rfl ?_; rintro _ _ ⟨rfl,rfl⟩; refine Au (L2:=(_::_::_::_::_::_::_::_)) rfl ?_
   refine Ah rfl (Ad rfl) rfl<|Ah rfl (Ac rfl fa99_3) rfl<|Bw ?_
   refine Di rfl (Aq 3 (k:=8) rfl rfl rfl rfl rfl Tz69) ?_; rintro _ _ ⟨rfl,rfl⟩; refine Au (L2:=(_::_::_::_::_::_::_::_)) rfl ?_
   refine Dk6 0 2 3 4 81 95 rfl<|Cr<|Em rfl rfl<|Aa (Ad rfl) rfl<|Aa (Ac rfl fa99_5) rfl<|Aa (Fo (l:=0) (k:=.i64) (h:=2) rfl rfl rfl (by omega) (by omega) Tu97 Tz5) rfl<|An (v:=.slice (some ⟨zb,10,none⟩) (2) (512)) (Dj (by simp [part]) rfl rfl) ?_
   refine Aj (Ax rfl Tryz.call72 (le16_spec zb 10 2 512 w0 w1 [] (by omega) (Reads.frag (i:=4) (k:=0) rfl rfl))) rfl ?_; rintro _ _ ⟨rfl,rfl⟩; refine Ab (L2:=(_::_::_::_::_::_::_::_)) rfl ?_
   refine Aj (Hv (l:=le16 w0.toNat w1.toNat) (c:=le16 w0.toNat w1.toNat) (bytes:=1) Tu25 infoB (z:=.int .u8 0) rfl rfl rfl rfl rfl rfl (Nat.le_refl _) (by omega) (by omega)) rfl ?_; rintro _ _ ⟨eb,rfl,rfl⟩; refine Ab (L2:=(_::_::_::_::_::_::_::_::_)) rfl ?_
   refine De [1,1,1,1,1,1,0] (A:=[_,_,_,_,_,_,_]) (F:=[_] ++ DL) rfl<|E.shed [7] (A:=[_]) (F:=[_,_,_,_,_,_,_] ++ DL) rfl<|Ea rfl rfl<|Ek7 0 2 3 4 6 81 95 rfl<|Al<|Cr<|Em rfl rfl<|Aa (Ad rfl) rfl<|Aa (Ac rfl fa99_1) rfl<|Ag (Ai 3 (k:=6) rfl rfl rfl Ta94) rfl<|Em rfl rfl ?_
   refine Aj (OpX.pick [0,0,0,3] (F:=(_::_::_::_)) rfl (Ax rfl Tryz.call56 (Gf hs src r2 k1 k2 k3 eb 0 (le16 w0.toNat w1.toNat) (le16 w0.toNat w1.toNat) (List.replicate (le16 w0.toNat w1.toNat) (.int .u8 0)) hF (by rw [List.length_replicate]) (Nat.le_refl _) (by omega)))) rfl ?_; rintro _ _ ⟨_,⟨j1,j2,j3,hJ,rfl,rfl⟩,rfl⟩; refine Ab (L2:=(_::_::_::_::_::_::_::_)) rfl ?_
   refine De [0,0,0,1,1,1,0] (A:=[_,_,_,_,_,_,_]) (F:=DL) rfl<|Ab (L2:=[_,_,_,_,_,_,_] ++ DL) rfl<|Em rfl rfl<|Aa (Bh rfl rfl) rfl<|Aa (Bh rfl rfl) rfl<|Ea rfl rfl<|Ek7 0 2 3 4 6 81 95 rfl<|Cr<|Em rfl rfl<|Ag (Dg rfl) rfl<|Ek8 0 2 3 4 6 81 95 127 rfl<|Dn rfl (fun h127 => ?_) (fun h127 => ?_)
   ·refine Al<|Br [0,0,2,5,15] (.pure 1 1 (.alt 0 (.alt 2 (.alt 3 (.pure 4 15 .done) .stop) .stop) (.alt 2 (.seg [(0,6)] (.alt 3 (.pure 4 15 .done) .stop)) .stop))) mixed (by decide +kernel)<|Dm rfl rfl rfl<|Gw ?_ ⟨?_,trivial⟩
    ·refine El rfl (Df 5 (k:=0) rfl rfl rfl rfl Ta92 Tz92) rfl<|Bw ?_
     refine Bo rfl (OpX.pick [] (F:=(_::_::_::_::_::_::_::_)) rfl (Ax rfl Tryz.call57 (Ev (L:=[]) hs _))) rfl ?_; rintro _ _ ⟨_,⟨rfl,rfl⟩,rfl⟩; refine Au (L2:=(_::_::_::_::_::_::_::_)) rfl ?_
     refine Bw ?_
     refine Di rfl (Bp 5 (k:=0) rfl rfl rfl rfl rfl rfl Tz92 rfl) ?_; rintro _ _ ⟨rfl,rfl⟩; refine Au (L2:=(_::_::_::_::_::_::_::_)) rfl ?_
     refine Ah rfl (Ba rfl) rfl<|Dk8 0 2 3 4 6 81 95 127 rfl<|Bc ?_
     have hRR:Av l=(noEof (Dh r2 (le16 w0.toNat w1.toNat)),r2.drop (le16 w0.toNat w1.toNat),h):=by rw [hR,rd1,if_neg (by omega),if_neg (by simpa using h95),e1,e2,if_pos h127]
     refine ⟨_,_,⟨_,_,5,rfl,rfl,rfl⟩,rfl,_,_,_,_,_,_,_,rfl,rfl,?_,?_,?_,?_,.inl ⟨?_,[_],rfl⟩⟩
     · rw [hRR]; done
     · rw [hRR]; exact hJ
     · simp only [List.length_cons,List.length_drop]; omega
     · exact Gz (by decide) hd _
     · rw [hRR]; first | assumption | (exact Dy (by assumption)) | simp
    refine Bo rfl (OpX.pick [] (F:=(_::_::_::_::_::_::_::_)) rfl (Ax rfl Tryz.call57 (Ev (L:=[]) hs _))) rfl ?_; rintro _ _ ⟨_,⟨rfl,rfl⟩,rfl⟩; refine Au (L2:=(_::_::_::_::_::_::_::_)) rfl ?_
    refine Dd (by decide)<|Ar rfl (Df 5 (k:=0) rfl rfl rfl rfl Ta92 Tz92) rfl<|Db<|Bw ?_
    refine Di rfl (Bp 5 (k:=0) rfl rfl rfl rfl rfl rfl Tz92 rfl) ?_; rintro _ _ ⟨rfl,rfl⟩; refine Au (L2:=(_::_::_::_::_::_::_::_)) rfl ?_
    refine Ah rfl (Ba rfl) rfl<|Dk8 0 2 3 4 6 81 95 127 rfl<|Bc ?_
    have hRR:Av l=(noEof (Dh r2 (le16 w0.toNat w1.toNat)),r2.drop (le16 w0.toNat w1.toNat),h):=by rw [hR,rd1,if_neg (by omega),if_neg (by simpa using h95),e1,e2,if_pos h127]
    refine ⟨_,_,⟨_,_,5,rfl,rfl,rfl⟩,rfl,_,_,_,_,_,_,_,rfl,rfl,?_,?_,?_,?_,.inl ⟨?_,[_],rfl⟩⟩
    · rw [hRR]; done
    · rw [hRR]; exact hJ
    · simp only [List.length_cons,List.length_drop]; omega
    · exact Gz (by decide) hd _
    · rw [hRR]; first | assumption | (exact Dy (by assumption)) | simp
   rw [h127]
   have hn:=full_len h127
   refine Bx (L2:=[j1,j2,j3,⟨zb,0,[c0,c1,c2,c3,c4,c5,.iface src.t src.v,dcv,.int .u32 ((crcOn IEEE d [w0,w1]:Nat):Int),c9]⟩,⟨zb,10,u8 w0::u8 w1::bs.drop 2⟩,⟨hb,0,[.string h.comment,.slice xa xn xn,.int .u64 0,.int .i64 (timeV h.mod),.string h.name,.int .u8 ((h.os:Nat):Int)]⟩,⟨eb,0,bytesV (r2.take (le16 w0.toNat w1.toNat))⟩] ++ DL) (by rw [full_all hn List.length_replicate]; rfl) ?_
   refine Ap<|Cr<|Em rfl rfl<|Em rfl rfl<|Aa (Ad rfl) rfl<|Aa (Ac rfl fa99_3) rfl<|Ag (Ai 3 (k:=8) rfl rfl rfl Ta69) rfl<|Em rfl rfl ?_
   refine An (v:=.slice (some ⟨eb,0,none⟩) ((r2.take (le16 w0.toNat w1.toNat)).length) (le16 w0.toNat w1.toNat)) (Dj rfl (by rw [List.length_take]; omega) rfl) ?_
   refine Aj (Ax rfl Tryz.call55 (Gu (crcOn IEEE d [w0,w1]) eb 0 (le16 w0.toNat w1.toNat) (r2.take (le16 w0.toNat w1.toNat)) (Gz (by decide) hd _) (Reads.frag (i:=6) (k:=0) rfl part_all) (by rw [List.length_take]; omega) (by rw [List.length_take]; omega))) rfl ?_; rintro _ _ ⟨rfl,rfl⟩; refine Ab (L2:=(_::_::_::_::_::_::_::_)) rfl ?_
   refine Aa (Ad rfl) rfl<|Aa (Ac rfl fa99_3) rfl ?_
   refine Ao (Aq 3 (k:=8) rfl rfl rfl rfl rfl Tz69) ?_; rintro _ _ ⟨rfl,rfl⟩; refine Ab (L2:=(_::_::_::_::_::_::_::_)) rfl ?_
   refine Ek8 0 2 3 4 6 81 95 127 rfl<|Ak<|Em rfl rfl<|Aa (Ac rfl fa92_1) rfl ?_
   refine Ao (Aq 5 (k:=1) rfl rfl rfl rfl rfl Tz25) ?_; rintro _ _ ⟨rfl,rfl⟩; refine Ab (L2:=(_::_::_::_::_::_::_::_)) rfl ?_
   refine Ek8 0 2 3 4 6 81 95 127 rfl ?_
   exact ⟨r2.drop (le16 w0.toNat w1.toNat),crcOn IEEE (crcOn IEEE d [w0,w1]) (r2.take (le16 w0.toNat w1.toNat)),{ h with extra:=some (r2.take (le16 w0.toNat w1.toNat)) },_,hb,some ⟨eb,0,none⟩,le16 w0.toNat w1.toNat,_,j1,j2,j3,rfl,rfl,by rw [hR,rd1,if_neg (by omega),if_neg (by simpa using h95),e1,e2,if_neg (by simpa using h127),hl2]; rfl,hJ,by simp only [List.length_cons,List.length_drop]; omega,Gz (by decide) (Gz (by decide) hd _) _,⟨eb,rfl,by rw [List.length_take,Nat.min_eq_left hn],rfl,by rw [List.length_take]; omega⟩⟩
  refine Ap ?_
  exact ⟨l2,d,h,bs,hb,xa,xn,xf,f1,f2,f3,rfl,rfl,by rw [hR,rd1,if_pos (by omega)],hG,hbs,hd,hX⟩
 rintro _ _ ⟨l2,d,h,bs,hb,xa,xn,xf,f1,f2,f3,hq23,rfl,hR,hG,hbs,hd,hX⟩
 refine Az _ hq23<|Cr<|Ea rfl rfl<|Ek5 0 2 3 4 7 rfl<|Dx (M:=fun ee ll=>∃ (l2:List UInt8),∃ (d:Nat),∃ (h:Hd),∃ (bs:List Value),∃ (hb:Nat),∃ (xa:Option Addr),∃ (xn:Nat),∃ (xf:Frag),∃ (f1:Frag),∃ (f2:Frag),∃ (f3:Frag),keeps ee [0,2,3,4]=some [(0,.pointer (some ⟨zb,0,none⟩)),(2,.pointer (some ⟨hb,0,none⟩)),(3,Er.val ea .none),(4,.int .u8 ((v3.toNat:Nat):Int))]∧ll=[f1,f2,f3,⟨zb,0,[c0,c1,c2,c3,c4,c5,.iface src.t src.v,dcv,.int .u32 ((d:Nat):Int),c9]⟩,⟨zb,10,bs⟩,⟨hb,0,[.string h.comment,.slice xa xn xn,.int .u64 0,.int .i64 (timeV h.mod),.string h.name,.int .u8 ((h.os:Nat):Int)]⟩,xf] ++ DL∧(Av l=rd3 l2 v3.toNat d h)∧(src.At l2 f1 f2 f3)∧(bs.length=512)∧(d < 4294967296)∧(ExAt h.extra xa xn xf)) ?_ ?_
 ·refine Cr<|Em rfl rfl<|Aa (Ey (b:=((8:Nat):Int)) rfl rfl (N.and_u8 (by omega) (by omega))) rfl<|Aa (S.ne (b:=((0:Nat):Int)) rfl rfl) rfl<|Ek6 0 2 3 4 7 144 rfl<|Bg rfl (fun h144 => ?_) (fun h144 => ?_)
  ·refine Al<|Cr<|Em rfl rfl ?_
   refine Aj (OpX.pick [0,0,0,0,0] (F:=(_::_::_)) rfl (Ax rfl Tryz.call73 (readString_spec hs src l2 f1 f2 f3 zb d c0 c1 c2 c3 c4 c5 dcv c9 bs hG hbs hd))) rfl ?_; rintro _ _ ⟨_,⟨k1,k2,k3,bs2,hF,hbs2,rfl,rfl⟩,rfl⟩; refine Ab (L2:=(_::_::_::_::_::_::_::_)) rfl ?_
   refine Em rfl rfl<|Aa (Bh rfl rfl) rfl<|Aa (Bh rfl rfl) rfl<|Ea rfl rfl<|Ea rfl rfl<|Ek6 0 2 3 4 7 144 rfl<|Cr<|Em rfl rfl<|Ag (Dg rfl) rfl<|Ek7 0 2 3 4 7 144 151 rfl<|Dn rfl (fun h151 => ?_) (fun h151 => ?_)
   ·refine Al<|Br [0,0,2,5,15] (.pure 1 1 (.alt 0 (.alt 2 (.alt 3 (.pure 4 15 .done) .stop) .stop) (.alt 2 (.seg [(0,6)] (.alt 3 (.pure 4 15 .done) .stop)) .stop))) mixed (by decide +kernel)<|Dm rfl rfl rfl<|Gw ?_ ⟨?_,trivial⟩
    ·refine El rfl (Df 5 (k:=0) rfl rfl rfl rfl Ta92 Tz92) rfl<|Bw ?_
     refine Bo rfl (OpX.pick [] (F:=(_::_::_::_::_::_::_::_)) rfl (Ax rfl Tryz.call57 (Ev (L:=[]) hs _))) rfl ?_; rintro _ _ ⟨_,⟨rfl,rfl⟩,rfl⟩; refine Au (L2:=(_::_::_::_::_::_::_::_)) rfl ?_
     refine Bw ?_
     refine Di rfl (Bp 5 (k:=0) rfl rfl rfl rfl rfl rfl Tz92 rfl) ?_; rintro _ _ ⟨rfl,rfl⟩; refine Au (L2:=(_::_::_::_::_::_::_::_)) rfl ?_
     refine Ah rfl (Ba rfl) rfl<|Dk7 0 2 3 4 7 144 151 rfl<|Bc ?_
     have hRR:Av l=(noEof (strEr l2),l2.drop (Fe l2),h):=by rw [hR,rd2,if_neg (by omega),if_pos h151]
     refine ⟨_,_,⟨_,_,5,rfl,rfl,rfl⟩,rfl,_,_,_,_,_,_,_,rfl,rfl,?_,?_,?_,?_,.inl ⟨?_,[_],rfl⟩⟩
     · rw [hRR]; done
     · rw [hRR]; exact hF
     · exact hbs2
     · exact strCrc_lt hd l2
     · rw [hRR]; first | assumption | (exact Dy (by assumption)) | simp
    refine Bo rfl (OpX.pick [] (F:=(_::_::_::_::_::_::_::_)) rfl (Ax rfl Tryz.call57 (Ev (L:=[]) hs _))) rfl ?_; rintro _ _ ⟨_,⟨rfl,rfl⟩,rfl⟩; refine Au (L2:=(_::_::_::_::_::_::_::_)) rfl ?_
    refine Dd (by decide)<|Ar rfl (Df 5 (k:=0) rfl rfl rfl rfl Ta92 Tz92) rfl<|Db<|Bw ?_
    refine Di rfl (Bp 5 (k:=0) rfl rfl rfl rfl rfl rfl Tz92 rfl) ?_; rintro _ _ ⟨rfl,rfl⟩; refine Au (L2:=(_::_::_::_::_::_::_::_)) rfl ?_
    refine Ah rfl (Ba rfl) rfl<|Dk7 0 2 3 4 7 144 151 rfl<|Bc ?_
    have hRR:Av l=(noEof (strEr l2),l2.drop (Fe l2),h):=by rw [hR,rd2,if_neg (by omega),if_pos h151]
    refine ⟨_,_,⟨_,_,5,rfl,rfl,rfl⟩,rfl,_,_,_,_,_,_,_,rfl,rfl,?_,?_,?_,?_,.inl ⟨?_,[_],rfl⟩⟩
    · rw [hRR]; done
    · rw [hRR]; exact hF
    · exact hbs2
    · exact strCrc_lt hd l2
    · rw [hRR]; first | assumption | (exact Dy (by assumption)) | simp
   rw [h151]
   refine Ap<|Ak<|Em rfl rfl<|Aa (Ac rfl fa92_3) rfl ?_
   refine Ao (Aq 5 (k:=4) rfl rfl rfl rfl rfl Tz9) ?_; rintro _ _ ⟨rfl,rfl⟩; refine Ab (L2:=(_::_::_::_::_::_::_::_)) rfl ?_
   refine Ek7 0 2 3 4 7 144 151 rfl ?_
   exact ⟨l2.drop (Fe l2),strCrc d l2,{ h with name:=strTxt l2 },bs2,hb,xa,xn,xf,k1,k2,k3,rfl,rfl,by rw [hR,rd2,if_neg (by omega),if_neg (by simpa using h151)],hF,hbs2,strCrc_lt hd l2,hX⟩
  refine Ap ?_
  exact ⟨l2,d,h,bs,hb,xa,xn,xf,f1,f2,f3,rfl,rfl,by rw [hR,rd2,if_pos (by omega)],hG,hbs,hd,hX⟩
 rintro _ _ ⟨l2,d,h,bs,hb,xa,xn,xf,f1,f2,f3,hq29,rfl,hR,hG,hbs,hd,hX⟩
 refine Az _ hq29<|Dx (M:=fun ee ll=>∃ (l2:List UInt8),∃ (d:Nat),∃ (h:Hd),∃ (bs:List Value),∃ (hb:Nat),∃ (xa:Option Addr),∃ (xn:Nat),∃ (xf:Frag),∃ (f1:Frag),∃ (f2:Frag),∃ (f3:Frag),keeps ee [0,2,3,4]=some [(0,.pointer (some ⟨zb,0,none⟩)),(2,.pointer (some ⟨hb,0,none⟩)),(3,Er.val ea .none),(4,.int .u8 ((v3.toNat:Nat):Int))]∧ll=[f1,f2,f3,⟨zb,0,[c0,c1,c2,c3,c4,c5,.iface src.t src.v,dcv,.int .u32 ((d:Nat):Int),c9]⟩,⟨zb,10,bs⟩,⟨hb,0,[.string h.comment,.slice xa xn xn,.int .u64 0,.int .i64 (timeV h.mod),.string h.name,.int .u8 ((h.os:Nat):Int)]⟩,xf] ++ DL∧(Av l=rd4 l2 v3.toNat d h)∧(src.At l2 f1 f2 f3)∧(bs.length=512)∧(d < 4294967296)∧(ExAt h.extra xa xn xf)) ?_ ?_
 ·refine Cr<|Em rfl rfl<|Aa (Ey (b:=((16:Nat):Int)) rfl rfl (N.and_u8 (by omega) (by omega))) rfl<|Aa (S.ne (b:=((0:Nat):Int)) rfl rfl) rfl<|Ek5 0 2 3 4 159 rfl<|Bg rfl (fun h159 => ?_) (fun h159 => ?_)
  ·refine Al<|Cr<|Em rfl rfl ?_
   refine Aj (OpX.pick [0,0,0,0,0] (F:=(_::_::_)) rfl (Ax rfl Tryz.call73 (readString_spec hs src l2 f1 f2 f3 zb d c0 c1 c2 c3 c4 c5 dcv c9 bs hG hbs hd))) rfl ?_; rintro _ _ ⟨_,⟨k1,k2,k3,bs2,hF,hbs2,rfl,rfl⟩,rfl⟩; refine Ab (L2:=(_::_::_::_::_::_::_::_)) rfl ?_
   refine Em rfl rfl<|Aa (Bh rfl rfl) rfl<|Aa (Bh rfl rfl) rfl<|Ea rfl rfl<|Ea rfl rfl<|Ek6 0 2 3 4 7 159 rfl<|Cr<|Em rfl rfl<|Ag (Dg rfl) rfl<|Ek7 0 2 3 4 7 159 166 rfl<|Dn rfl (fun h166 => ?_) (fun h166 => ?_)
   ·refine Al<|Br [0,0,2,5,15] (.pure 1 1 (.alt 0 (.alt 2 (.alt 3 (.pure 4 15 .done) .stop) .stop) (.alt 2 (.seg [(0,6)] (.alt 3 (.pure 4 15 .done) .stop)) .stop))) mixed (by decide +kernel)<|Dm rfl rfl rfl<|Gw ?_ ⟨?_,trivial⟩
    ·refine El rfl (Df 5 (k:=0) rfl rfl rfl rfl Ta92 Tz92) rfl<|Bw ?_
     refine Bo rfl (OpX.pick [] (F:=(_::_::_::_::_::_::_::_)) rfl (Ax rfl Tryz.call57 (Ev (L:=[]) hs _))) rfl ?_; rintro _ _ ⟨_,⟨rfl,rfl⟩,rfl⟩; refine Au (L2:=(_::_::_::_::_::_::_::_)) rfl ?_
     refine Bw ?_
     refine Di rfl (Bp 5 (k:=0) rfl rfl rfl rfl rfl rfl Tz92 rfl) ?_; rintro _ _ ⟨rfl,rfl⟩; refine Au (L2:=(_::_::_::_::_::_::_::_)) rfl ?_
     refine Ah rfl (Ba rfl) rfl<|Dk7 0 2 3 4 7 159 166 rfl<|Bc ?_
     have hRR:Av l=(noEof (strEr l2),l2.drop (Fe l2),h):=by rw [hR,rd3,if_neg (by omega),if_pos h166]
     refine ⟨_,_,⟨_,_,5,rfl,rfl,rfl⟩,rfl,_,_,_,_,_,_,_,rfl,rfl,?_,?_,?_,?_,.inl ⟨?_,[_],rfl⟩⟩
     · rw [hRR]; done
     · rw [hRR]; exact hF
     · exact hbs2
     · exact strCrc_lt hd l2
     · rw [hRR]; first | assumption | (exact Dy (by assumption)) | simp
    refine Bo rfl (OpX.pick [] (F:=(_::_::_::_::_::_::_::_)) rfl (Ax rfl Tryz.call57 (Ev (L:=[]) hs _))) rfl ?_; rintro _ _ ⟨_,⟨rfl,rfl⟩,rfl⟩; refine Au (L2:=(_::_::_::_::_::_::_::_)) rfl ?_
    refine Dd (by decide)<|Ar rfl (Df 5 (k:=0) rfl rfl rfl rfl Ta92 Tz92) rfl<|Db<|Bw ?_
    refine Di rfl (Bp 5 (k:=0) rfl rfl rfl rfl rfl rfl Tz92 rfl) ?_; rintro _ _ ⟨rfl,rfl⟩; refine Au (L2:=(_::_::_::_::_::_::_::_)) rfl ?_
    refine Ah rfl (Ba rfl) rfl<|Dk7 0 2 3 4 7 159 166 rfl<|Bc ?_
    have hRR:Av l=(noEof (strEr l2),l2.drop (Fe l2),h):=by rw [hR,rd3,if_neg (by omega),if_pos h166]
    refine ⟨_,_,⟨_,_,5,rfl,rfl,rfl⟩,rfl,_,_,_,_,_,_,_,rfl,rfl,?_,?_,?_,?_,.inl ⟨?_,[_],rfl⟩⟩
    · rw [hRR]; done
    · rw [hRR]; exact hF
    · exact hbs2
    · exact strCrc_lt hd l2
    · rw [hRR]; first | assumption | (exact Dy (by assumption)) | simp
   rw [h166]
   refine Ap<|Ak<|Em rfl rfl<|Aa (Ac rfl fa92_0) rfl ?_
   refine Ao (Aq 5 (k:=0) rfl rfl rfl rfl rfl Tz9) ?_; rintro _ _ ⟨rfl,rfl⟩; refine Ab (L2:=(_::_::_::_::_::_::_::_)) rfl ?_
   refine Ek7 0 2 3 4 7 159 166 rfl ?_
   exact ⟨l2.drop (Fe l2),strCrc d l2,{ h with comment:=strTxt l2 },bs2,hb,xa,xn,xf,k1,k2,k3,rfl,rfl,by rw [hR,rd3,if_neg (by omega),if_neg (by simpa using h166)],hF,hbs2,strCrc_lt hd l2,hX⟩
  refine Ap ?_
  exact ⟨l2,d,h,bs,hb,xa,xn,xf,f1,f2,f3,rfl,rfl,by rw [hR,rd3,if_pos (by omega)],hG,hbs,hd,hX⟩
 rintro _ _ ⟨l2,d,h,bs,hb,xa,xn,xf,f1,f2,f3,hq34,rfl,hR,hG,hbs,hd,hX⟩
 refine Az _ hq34<|Dx (M:=fun ee ll=>∃ (l2:List UInt8),∃ (d:Nat),∃ (h:Hd),∃ (bs:List Value),∃ (hb:Nat),∃ (xa:Option Addr),∃ (xn:Nat),∃ (xf:Frag),∃ (f1:Frag),∃ (f2:Frag),∃ (f3:Frag),keeps ee [0,2,3,4]=some [(0,.pointer (some ⟨zb,0,none⟩)),(2,.pointer (some ⟨hb,0,none⟩)),(3,Er.val ea .none),(4,.int .u8 ((v3.toNat:Nat):Int))]∧ll=[f1,f2,f3,⟨zb,0,[c0,c1,c2,c3,c4,c5,.iface src.t src.v,dcv,.int .u32 ((d:Nat):Int),c9]⟩,⟨zb,10,bs⟩,⟨hb,0,[.string h.comment,.slice xa xn xn,.int .u64 0,.int .i64 (timeV h.mod),.string h.name,.int .u8 ((h.os:Nat):Int)]⟩,xf] ++ DL∧(Av l=(.none,l2,h))∧(src.At l2 f1 f2 f3)∧(bs.length=512)∧(d < 4294967296)∧(ExAt h.extra xa xn xf)) ?_ ?_
 ·refine Cr<|Em rfl rfl<|Aa (Ey (b:=((2:Nat):Int)) rfl rfl (N.and_u8 (by omega) (by omega))) rfl<|Aa (S.ne (b:=((0:Nat):Int)) rfl rfl) rfl<|Ek5 0 2 3 4 174 rfl<|Bg rfl (fun h174 => ?_) (fun h174 => ?_)
  ·refine Al<|Al ?_
   refine Fw (Same.splitAt (k:=2) 4 rfl rfl (List.take_append_drop 2 _).symm (by rw [List.length_take]; omega) rfl) ?_
   refine Bx (L2:=[_,_,_,_,_,_,_,_] ++ DL) rfl<|Br [0,1,2,4,0,16,32,64,136,256,512,512,4095] (.pure 0 240 (.pure 1 241 (.pure 2 243 (.pure 4 15 (.pure 5 31 (.pure 6 63 (.pure 7 127 (.seg [(3,247)] (.alt 8 (.pure 9 511 (.pure 10 3071 (.pure 11 2047 (.pure 12 4095 .done)))) .stop))))))))) mixed (by decide +kernel)<|Dm rfl rfl rfl<|Ah rfl (Ad rfl) rfl<|Ah rfl (Ac rfl fa99_1) rfl<|Dm rfl rfl rfl<|Ah rfl (Ad rfl) rfl<|Ah rfl (Ac rfl fa99_5) rfl<|Ah rfl (Fo (l:=0) (k:=.i64) (h:=2) rfl rfl rfl (by omega) (by omega) Tu97 Tz5) rfl<|Fa (v:=.slice (some ⟨zb,10,none⟩) (2) (512)) (Dj (by simp [part]) rfl rfl)<|Dd (by decide)<|Ar rfl (Ai 5 (k:=6) rfl rfl rfl Ta94) rfl ?_
   refine Db<|Bw ?_
   refine Bo rfl (OpX.pick [2,2,2,0] (F:=(_::_::_::_::_)) rfl (Ax rfl Tryz.call56 (Gf hs src l2 f1 f2 f3 zb 10 2 512 (List.take 2 _) hG (by rw [List.length_take]; omega) (by omega) (by omega)))) rfl ?_; rintro _ _ ⟨_,⟨k1,k2,k3,hF,rfl,rfl⟩,rfl⟩; refine Au (L2:=(_::_::_::_::_::_::_::_::_)) rfl ?_
   refine Dm rfl rfl rfl<|Ah rfl (Bh rfl rfl) rfl<|Ah rfl (Bh rfl rfl) rfl<|Ah rfl (Ba rfl) rfl<|Dk5 0 2 3 4 174 rfl ?_
   refine Fw (Same.joinAt 3 3 rfl rfl (by rw [show 10 + 2=10 + (2:Nat) from rfl]; congr 1; simp only [List.length_append,Bi,List.length_take,List.length_drop,min_i]; omega)) ?_
   refine Hs [1,1,1,1,0,0,0] (A:=[_,_,_,_,_,_,_]) (F:=DL) rfl<|Bx (L2:=[_,_,_,_,_,_,_] ++ DL) rfl<|Cr<|Em rfl rfl<|Ag (Dg rfl) rfl<|Ek6 0 2 3 4 174 188 rfl<|Dn rfl (fun h188 => ?_) (fun h188 => ?_)
   ·refine Al<|Br [0,0,2,5,15] (.pure 1 1 (.alt 0 (.alt 2 (.alt 3 (.pure 4 15 .done) .stop) .stop) (.alt 2 (.seg [(0,6)] (.alt 3 (.pure 4 15 .done) .stop)) .stop))) mixed (by decide +kernel)<|Dm rfl rfl rfl<|Gw ?_ ⟨?_,trivial⟩
    ·refine El rfl (Df 5 (k:=0) rfl rfl rfl rfl Ta92 Tz92) rfl<|Bw ?_
     refine Bo rfl (OpX.pick [] (F:=(_::_::_::_::_::_::_::_)) rfl (Ax rfl Tryz.call57 (Ev (L:=[]) hs _))) rfl ?_; rintro _ _ ⟨_,⟨rfl,rfl⟩,rfl⟩; refine Au (L2:=(_::_::_::_::_::_::_::_)) rfl ?_
     refine Bw ?_
     refine Di rfl (Bp 5 (k:=0) rfl rfl rfl rfl rfl rfl Tz92 rfl) ?_; rintro _ _ ⟨rfl,rfl⟩; refine Au (L2:=(_::_::_::_::_::_::_::_)) rfl ?_
     refine Ah rfl (Ba rfl) rfl<|Dk6 0 2 3 4 174 188 rfl<|Bc ?_
     have hRR:Av l=(noEof (Dh l2 2),l2.drop 2,h):=by rw [hR,rd4,if_neg (by omega),if_pos h188]
     refine ⟨_,_,⟨_,_,5,rfl,rfl,rfl⟩,rfl,_,_,_,_,_,_,_,rfl,rfl,?_,?_,?_,?_,.inl ⟨?_,[_],rfl⟩⟩
     · rw [hRR]; done
     · rw [hRR]; exact hF
     · rw [buf_join (by omega)]; exact hbs
     · assumption
     · rw [hRR]; first | assumption | (exact Dy (by assumption)) | simp
    refine Bo rfl (OpX.pick [] (F:=(_::_::_::_::_::_::_::_)) rfl (Ax rfl Tryz.call57 (Ev (L:=[]) hs _))) rfl ?_; rintro _ _ ⟨_,⟨rfl,rfl⟩,rfl⟩; refine Au (L2:=(_::_::_::_::_::_::_::_)) rfl ?_
    refine Dd (by decide)<|Ar rfl (Df 5 (k:=0) rfl rfl rfl rfl Ta92 Tz92) rfl<|Db<|Bw ?_
    refine Di rfl (Bp 5 (k:=0) rfl rfl rfl rfl rfl rfl Tz92 rfl) ?_; rintro _ _ ⟨rfl,rfl⟩; refine Au (L2:=(_::_::_::_::_::_::_::_)) rfl ?_
    refine Ah rfl (Ba rfl) rfl<|Dk6 0 2 3 4 174 188 rfl<|Bc ?_
    have hRR:Av l=(noEof (Dh l2 2),l2.drop 2,h):=by rw [hR,rd4,if_neg (by omega),if_pos h188]
    refine ⟨_,_,⟨_,_,5,rfl,rfl,rfl⟩,rfl,_,_,_,_,_,_,_,rfl,rfl,?_,?_,?_,?_,.inl ⟨?_,[_],rfl⟩⟩
    · rw [hRR]; done
    · rw [hRR]; exact hF
    · rw [buf_join (by omega)]; exact hbs
    · assumption
    · rw [hRR]; first | assumption | (exact Dy (by assumption)) | simp
   rw [h188]
   obtain ⟨w0,w1,r2,hl2⟩:=two h188
   have hw0:=w0.toNat_lt
   have hw1:=w1.toNat_lt
   have h16:=le16_lt hw0 hw1
   have e1:l2.drop 2=r2:=by rw [hl2]; rfl
   have e2:le16of l2=le16 w0.toNat w1.toNat:=by rw [hl2]; rfl
   refine Bx (L2:=[k1,k2,k3,⟨zb,0,[c0,c1,c2,c3,c4,c5,.iface src.t src.v,dcv,.int .u32 ((d:Nat):Int),c9]⟩,⟨zb,10,u8 w0::u8 w1::bs.drop 2⟩,⟨hb,0,[.string h.comment,.slice xa xn xn,.int .u64 0,.int .i64 (timeV h.mod),.string h.name,.int .u8 ((h.os:Nat):Int)]⟩,xf] ++ DL) (by rw [buf_full (full_len h188),hl2]; rfl) ?_
   rw [e1] at hF
   refine Ap<|Cr<|Em rfl rfl<|Aa (Ad rfl) rfl<|Aa (Ac rfl fa99_5) rfl<|Aa (Fo (l:=0) (k:=.i64) (h:=2) rfl rfl rfl (by omega) (by omega) Tu97 Tz5) rfl<|An (v:=.slice (some ⟨zb,10,none⟩) (2) (512)) (Dj (by simp [part]) rfl rfl) ?_
   refine Aj (Ax rfl Tryz.call72 (le16_spec zb 10 2 512 w0 w1 [] (by omega) (Reads.frag (i:=4) (k:=0) rfl rfl))) rfl ?_; rintro _ _ ⟨rfl,rfl⟩; refine Ab (L2:=(_::_::_::_::_::_::_::_)) rfl ?_
   refine Ea rfl rfl<|Ek7 0 2 3 4 8 174 188 rfl<|Cr<|Em rfl rfl<|Em rfl rfl<|Aa (Ad rfl) rfl<|Aa (Ac rfl fa99_3) rfl<|Ag (Ai 3 (k:=8) rfl rfl rfl Ta69) rfl<|Aa (Bu rfl Tu69 Tu153 (N.mod_u16 _)) rfl<|Aa (S.ne rfl rfl) rfl<|Ek8 0 2 3 4 8 174 188 203 rfl<|Bg rfl (fun h203 => ?_) (fun h203 => ?_)
   ·refine Al<|Br [0,0,1,7] (.alt 0 (.alt 1 (.alt 2 (.pure 3 7 .done) .stop) (.alt 2 (.seg [(1,5),(3,7)] .done) .stop)) (.alt 1 (.seg [(0,2)] (.alt 2 (.pure 3 7 .done) .stop)) .stop)) mixed (by decide +kernel)<|Gw ?_ ⟨?_,trivial⟩
    ·refine El rfl (Df 5 (k:=0) rfl rfl rfl rfl Ta92 Tz92) rfl<|Gw ?_ ⟨?_,trivial⟩
     ·refine El rfl (Be rfl hs.g1 Ta58) rfl<|Bw ?_
      refine Di rfl (Bp 5 (k:=0) rfl rfl rfl rfl rfl rfl Tz92 rfl) ?_; rintro _ _ ⟨rfl,rfl⟩; refine Au (L2:=(_::_::_::_::_::_::_::_)) rfl ?_
      refine Ah rfl (Ba rfl) rfl<|Dk8 0 2 3 4 8 174 188 203 rfl<|Bc ?_
      have hRR:Av l=(.header,r2,h):=by rw [hR,rd4,if_neg (by omega),if_neg (by simpa using h188),if_pos (by rw [e2]; omega),e1]
      refine ⟨_,_,⟨_,_,5,rfl,rfl,rfl⟩,rfl,_,_,_,_,_,_,_,rfl,rfl,?_,?_,?_,?_,.inl ⟨?_,[_],rfl⟩⟩
      · rw [hRR]; done
      · rw [hRR]; exact hF
      · simp only [List.length_cons,List.length_drop]; omega
      · assumption
      · rw [hRR]; first | assumption | (exact Dy (by assumption)) | simp
     refine Di rfl (Bp 5 (k:=0) rfl rfl rfl rfl rfl rfl Tz92 rfl) ?_; rintro _ _ ⟨rfl,rfl⟩; refine Au (L2:=(_::_::_::_::_::_::_::_)) rfl ?_
     refine Dd (by decide)<|Ar rfl (Be rfl hs.g1 Ta58) rfl<|Bb rfl (Ba rfl) rfl<|Db<|Dk8 0 2 3 4 8 174 188 203 rfl<|Bc ?_
     have hRR:Av l=(.header,r2,h):=by rw [hR,rd4,if_neg (by omega),if_neg (by simpa using h188),if_pos (by rw [e2]; omega),e1]
     refine ⟨_,_,⟨_,_,5,rfl,rfl,rfl⟩,rfl,_,_,_,_,_,_,_,rfl,rfl,?_,?_,?_,?_,.inl ⟨?_,[_],rfl⟩⟩
     · rw [hRR]; done
     · rw [hRR]; exact hF
     · simp only [List.length_cons,List.length_drop]; omega
     · assumption
     · rw [hRR]; first | assumption | (exact Dy (by assumption)) | simp
    refine El rfl (Be rfl hs.g1 Ta58) rfl<|Dd (by decide)<|Ar rfl (Df 5 (k:=0) rfl rfl rfl rfl Ta92 Tz92) rfl<|Db<|Bw ?_
    refine Di rfl (Bp 5 (k:=0) rfl rfl rfl rfl rfl rfl Tz92 rfl) ?_; rintro _ _ ⟨rfl,rfl⟩; refine Au (L2:=(_::_::_::_::_::_::_::_)) rfl ?_
    refine Ah rfl (Ba rfl) rfl<|Dk8 0 2 3 4 8 174 188 203 rfl<|Bc ?_
    have hRR:Av l=(.header,r2,h):=by rw [hR,rd4,if_neg (by omega),if_neg (by simpa using h188),if_pos (by rw [e2]; omega),e1]
    refine ⟨_,_,⟨_,_,5,rfl,rfl,rfl⟩,rfl,_,_,_,_,_,_,_,rfl,rfl,?_,?_,?_,?_,.inl ⟨?_,[_],rfl⟩⟩
    · rw [hRR]; done
    · rw [hRR]; exact hF
    · simp only [List.length_cons,List.length_drop]; omega
    · assumption
    · rw [hRR]; first | assumption | (exact Dy (by assumption)) | simp
   refine Ap ?_
   exact ⟨r2,d,h,_,hb,xa,xn,xf,k1,k2,k3,rfl,rfl,by rw [hR,rd4,if_neg (by omega),if_neg (by simpa using h188),if_neg (by rw [e2]; omega),e1],hF,by simp only [List.length_cons,List.length_drop]; omega,hd,hX⟩
  refine Ap ?_
  exact ⟨l2,d,h,bs,hb,xa,xn,xf,f1,f2,f3,rfl,rfl,by rw [hR,rd4,if_pos (by omega)],hG,hbs,hd,hX⟩
 rintro _ _ ⟨l2,d,h,bs,hb,xa,xn,xf,f1,f2,f3,hq41,rfl,hR,hG,hbs,hd,hX⟩
 refine Az _ hq41<|Cr<|Em rfl rfl<|Aa (Ad rfl) rfl<|Aa (Ac rfl fa99_3) rfl ?_
 refine Ao (Aq 3 (k:=8) rfl rfl rfl rfl rfl Tz69) ?_; rintro _ _ ⟨rfl,rfl⟩; refine Ab (L2:=(_::_::_::_::_::_::_::_)) rfl ?_
 refine Ek4 0 2 3 4 rfl<|Al<|Cr<|Em rfl rfl<|Aa (Ad rfl) rfl<|Aa (Ac rfl fa99_2) rfl<|Ag (Ai 3 (k:=7) rfl rfl rfl Tryz.isAgg96) rfl<|Ag (S.eqDc hDL rfl Tryz.underlying96) rfl<|Ek5 0 2 3 4 213 rfl<|Ed rfl (fun h213 => ?_) (fun h213 => ?_)
 ·obtain ⟨rfl,rfl⟩:=hDL.nil h213
  refine Ak<|Em rfl rfl<|Em rfl rfl<|Aa (Ad rfl) rfl<|Aa (Ac rfl fa99_1) rfl<|Ag (Ai 3 (k:=6) rfl rfl rfl Ta94) rfl ?_
  refine Aj (Ax rfl Tryz.call74 (flateNew_in src _)) rfl ?_; rintro _ _ ⟨fb,DN,rfl,hDN,rfl⟩; refine Ab (L2:=(_::_::_::_::_::_::_::_)) rfl ?_
  refine Aa (Ad rfl) rfl<|Aa (Ac rfl fa99_2) rfl ?_
  refine Ao (Aq 3 (k:=7) rfl rfl rfl rfl rfl Tryz.sizeOf96) ?_; rintro _ _ ⟨rfl,rfl⟩; refine Ab (L2:=(_::_::_::_::_::_::_::_)) rfl ?_
  refine Ek5 0 2 3 4 213 rfl<|Cr<|Ag (Df 5 (k:=0) rfl rfl rfl rfl Ta92 Tz92) rfl ?_
  refine Ao (Bp 5 (k:=0) rfl rfl rfl rfl rfl rfl Tz92 rfl) ?_; rintro _ _ ⟨rfl,rfl⟩; refine Ab (L2:=(_::_::_::_::_::_::_::_)) rfl ?_
  refine Aa (Ba (v:=Er.val ea .none) rfl) rfl<|Ek5 0 2 3 4 213 rfl<|Bc ?_
  refine ⟨_,_,⟨_,_,5,rfl,rfl,rfl⟩,rfl,_,f1,f2,f3,_,_,_,rfl,rfl,?_,?_,hbs,?_,.inr ⟨?_,xa,xn,xf,fb,DN,?_,?_,?_,hDN,rfl⟩⟩
  · rw [hR]; done
  · rw [hR]; exact hG
  · decide
  · rw [hR]
  · rw [hR]; exact hX
  · rw [hR]; rfl
  · rfl
 obtain ⟨fb,rfl,hraw⟩:=hDL.dec (by simpa using h213)
 refine Br [0,1,2,4,8,0,32,64,128,16,528,1280] (.pure 0 480 (.pure 1 481 (.pure 2 483 (.pure 5 1567 (.pure 6 1599 (.pure 7 1663 (.seg [(3,487),(4,495),(8,1791),(9,511),(10,1023)] (.alt 11 .done .stop)))))))) mixed (by decide +kernel)<|Dm rfl rfl rfl<|Ah rfl (Ad rfl) rfl<|Ah rfl (Ac rfl fa99_2) rfl<|Dm rfl rfl rfl<|Ah rfl (Ad rfl) rfl<|Ah rfl (Ac rfl fa99_1) rfl<|Dd (by decide)<|Ar rfl (Ai 3 (k:=7) rfl rfl rfl Tryz.isAgg96) rfl<|Bb rfl (S.assertHas1 rfl Tryz.underlying159 (dmBoth _ Tryz.underlying159)) rfl<|Ar rfl (Ai 3 (k:=6) rfl rfl rfl Ta94) rfl<|Bb rfl (S.nilIface rfl) rfl ?_
 refine Bb rfl (Fc rfl) rfl<|Db<|Bw ?_
 refine Bo rfl (X.invoke rfl rfl (dmReset fb) Tryz.call136 (decReset_in src hraw [_,_,_,_,_,_,_])) rfl ?_; rintro _ _ ⟨rfl,DN,hDN,rfl⟩; refine Au (L2:=(_::_::_::_::_::_::_::_)) rfl ?_
 refine Dk5 0 2 3 4 213 rfl<|Cr<|Ag (Df 5 (k:=0) rfl rfl rfl rfl Ta92 Tz92) rfl ?_
 refine Ao (Bp 5 (k:=0) rfl rfl rfl rfl rfl rfl Tz92 rfl) ?_; rintro _ _ ⟨rfl,rfl⟩; refine Ab (L2:=(_::_::_::_::_::_::_::_)) rfl ?_
 refine Aa (Ba (v:=Er.val ea .none) rfl) rfl<|Ek5 0 2 3 4 213 rfl<|Bc ?_
 refine ⟨_,_,⟨_,_,5,rfl,rfl,rfl⟩,rfl,_,f1,f2,f3,_,_,_,rfl,rfl,?_,?_,hbs,?_,.inr ⟨?_,xa,xn,xf,fb,DN,?_,?_,?_,hDN,rfl⟩⟩
 · rw [hR]; done
 · rw [hR]; exact hG
 · decide
 · rw [hR]
 · rw [hR]; exact hX
 · rw [hR]; rfl
 · rfl
def HeadRes {K:Known} {ea:Fin 5→Addr} (src:Src K ea) (l:List UInt8) (zb:Nat) (c0 c1 c2 c3 c4 c5 c9 dcv:Value) (DL:Frags) (r:Value) (L:Frags):Prop :=
  ∃ hs f1 f2 f3 d2 bs2,hs.length=6∧hs.all one=true∧r=.tuple #[.agg hs.toArray,Er.val ea (Av l).1]∧src.At (Av l).2.1 f1 f2 f3∧bs2.length=512∧d2 < 4294967296 ∧
    (((Av l).1 ≠ .none∧L=[f1,f2,f3,⟨zb,0,[c0,c1,c2,c3,c4,c5,.iface src.t src.v,dcv,.int .u32 ((d2:Nat):Int),c9]⟩,⟨zb,10,bs2⟩] ++ DL) ∨
     ((Av l).1=.none∧∃ xa xn X fb DN,ExAt (Av l).2.2.extra xa xn X∧hs=headV (Av l).2.2 xa xn∧d2=0∧DecNew src fb DN ∧
        L=[f1,f2,f3,⟨zb,0,[c0,c1,c2,c3,c4,c5,.iface src.t src.v,.iface 190 (.pointer (some ⟨fb,0,none⟩)),.int .u32 ((d2:Nat):Int),c9]⟩,⟨zb,10,bs2⟩,X] ++ DN))
theorem readHeader_spec {K:Known} {ea:Fin 5→Addr} (hs:Sents K ea) (src:Src K ea) (l:List UInt8) (x1 x2 x3:Frag) (zb d0:Nat) (c0 c1 c2 c3 c4 c5 c9 dcv:Value) (bs0:List Value) (DL:Frags) (hDL:DcIn dcv DL) (hA:src.At l x1 x2 x3) (hbs0:bs0.length=512) (hd0:d0 < 4294967296) :
    Fn Tryz.prog K 51 #[.pointer (some ⟨zb,0,none⟩)] ([x1,x2,x3,⟨zb,0,[c0,c1,c2,c3,c4,c5,.iface src.t src.v,dcv,.int .u32 ((d0:Nat):Int),c9]⟩,⟨zb,10,bs0⟩] ++ DL) (HeadRes src l zb c0 c1 c2 c3 c4 c5 c9 dcv DL):=by
  refine Fn.lose (readHeader_first hs src l x1 x2 x3 zb d0 c0 c1 c2 c3 c4 c5 c9 dcv bs0 DL hDL hA hbs0 hd0) ?_
  rintro v L' ⟨hs',f1,f2,f3,d2,bs2,hb,h6,h7,rfl,hF,hb2,hd2,⟨hne,T,rfl⟩ | ⟨hno,xa,xn,X,fb,DN,hX,hv,hdz,hDN,rfl⟩⟩
  · refine ⟨[f1,f2,f3,⟨zb,0,[c0,c1,c2,c3,c4,c5,.iface src.t src.v,dcv,.int .u32 ((d2:Nat):Int),c9]⟩,⟨zb,10,bs2⟩] ++ DL,⟨hb,0,hs'⟩::T,Same.perm ?_,hs',f1,f2,f3,d2,bs2,h6,h7,rfl,hF,hb2,hd2,.inl ⟨hne,rfl⟩⟩
    show ([f1,f2,f3,⟨zb,0,[c0,c1,c2,c3,c4,c5,.iface src.t src.v,dcv,.int .u32 ((d2:Nat):Int),c9]⟩,⟨zb,10,bs2⟩] ++ ((⟨hb,0,hs'⟩::T) ++ DL)).Perm _
    rw [List.append_assoc]
    exact List.perm_append_comm.append_left _
  · refine ⟨[f1,f2,f3,⟨zb,0,[c0,c1,c2,c3,c4,c5,.iface src.t src.v,.iface 190 (.pointer (some ⟨fb,0,none⟩)),.int .u32 ((d2:Nat):Int),c9]⟩,⟨zb,10,bs2⟩,X] ++ DN,[⟨hb,0,hs'⟩],Same.perm ?_,hs',f1,f2,f3,d2,bs2,h6,h7,rfl,hF,hb2,hd2,.inr ⟨hno,xa,xn,X,fb,DN,hX,hv,hdz,hDN,rfl⟩⟩
    refine List.Perm.trans (List.perm_middle (l₁:=[f1,f2,f3,⟨zb,0,[c0,c1,c2,c3,c4,c5,.iface src.t src.v,.iface 190 (.pointer (some ⟨fb,0,none⟩)),.int .u32 ((d2:Nat):Int),c9]⟩,⟨zb,10,bs2⟩]) (l₂:=X::DN)) ?_
    exact (List.perm_append_comm (l₁:=[_]))
def ZOld (zb:Nat) (L:Frags):Prop:=∃ c0 c1 c2 c3 c4 c5 rv dcv dg sz bs ev ms DL,bs.length=512∧DcIn dcv DL∧L=[⟨zb,0,[c0,c1,c2,c3,c4,c5,rv,dcv,dg,sz]⟩,⟨zb,10,bs⟩,⟨zb,522,[ev,ms]⟩] ++ DL
def ZAt {K:Known} {ea:Fin 5→Addr} (src:Src K ea) (zb:Nat) (h:Hd) (ms:Bool) (rest:List UInt8) (L:Frags):Prop :=
  ∃ f1 f2 f3 bs xa xn X fb DN,src.At rest f1 f2 f3∧bs.length=512∧ExAt h.extra xa xn X∧DecNew src fb DN ∧
    L=[f1,f2,f3,⟨zb,0,[.string h.comment,.slice xa xn xn,.int .u64 0,.int .i64 (timeV h.mod),.string h.name,.int .u8 ((h.os:Nat):Int),.iface src.t src.v,.iface 190 (.pointer (some ⟨fb,0,none⟩)),.int .u32 ((0:Nat):Int),.int .u32 0]⟩,⟨zb,10,bs⟩,⟨zb,522,[Er.val ea .none,.bool ms]⟩,X] ++ DN
def ResetEnd {K:Known} {ea:Fin 5→Addr} (src:Src K ea) (zb:Nat) (l:List UInt8) (L:Frags):Prop :=
  ((Av l).1 ≠ .none∧∃ f1 f2 f3 T,src.At (Av l).2.1 f1 f2 f3∧L=[f1,f2,f3] ++ T) ∨ ((Av l).1=.none∧ZAt src zb (Av l).2.2 true (Av l).2.1 L)
theorem DcIn.one {dcv:Value} {DL:Frags} (h:DcIn dcv DL):one dcv=true:=by
  rcases h with ⟨rfl,_⟩ | ⟨fb,rfl,_⟩
  · rfl
  · rfl
theorem readHeader_in {K:Known} {ea:Fin 5→Addr} (hs:Sents K ea) (src:Src K ea) (l:List UInt8) (x1 x2 x3:Frag) (zb d0:Nat) (c0 c1 c2 c3 c4 c5 c9 dcv:Value) (bs0:List Value) (DL:Frags) (hDL:DcIn dcv DL) (hA:src.At l x1 x2 x3) (hbs0:bs0.length=512) (hd0:d0 < 4294967296) (EF:Frags) :
    Fn Tryz.prog K 51 #[.pointer (some ⟨zb,0,none⟩)] ([x1,x2,x3,⟨zb,0,[c0,c1,c2,c3,c4,c5,.iface src.t src.v,dcv,.int .u32 ((d0:Nat):Int),c9]⟩,⟨zb,10,bs0⟩] ++ (EF ++ DL)) fun r L =>
      ∃ hs f1 f2 f3 d2 bs2,hs.length=6∧hs.all one=true∧r=.tuple #[.agg hs.toArray,Er.val ea (Av l).1]∧src.At (Av l).2.1 f1 f2 f3∧bs2.length=512∧d2 < 4294967296 ∧
    (((Av l).1 ≠ .none∧L=[f1,f2,f3,⟨zb,0,[c0,c1,c2,c3,c4,c5,.iface src.t src.v,dcv,.int .u32 ((d2:Nat):Int),c9]⟩,⟨zb,10,bs2⟩] ++ (EF ++ DL)) ∨
     ((Av l).1=.none∧∃ xa xn X fb DN,ExAt (Av l).2.2.extra xa xn X∧hs=headV (Av l).2.2 xa xn∧d2=0∧DecNew src fb DN ∧
        L=[f1,f2,f3,⟨zb,0,[c0,c1,c2,c3,c4,c5,.iface src.t src.v,.iface 190 (.pointer (some ⟨fb,0,none⟩)),.int .u32 ((d2:Nat):Int),c9]⟩,⟨zb,10,bs2⟩] ++ (EF ++ (X::DN)))):=by
  have pm:∀ (a1 a2 a3 a4 a5:Frag) (DL:Frags),([a1,a2,a3,a4,a5] ++ (EF ++ DL)).Perm (([a1,a2,a3,a4,a5] ++ DL) ++ EF):=fun a1 a2 a3 a4 a5 DL=>by
    rw [List.append_assoc]; exact List.perm_append_comm.append_left _
  refine Fn.sameR (Fn.perm (pm _ _ _ _ _ DL) (Fn.frame (F:=EF) (readHeader_spec hs src l x1 x2 x3 zb d0 c0 c1 c2 c3 c4 c5 c9 dcv bs0 DL hDL hA hbs0 hd0))) ?_
  rintro v L ⟨L1,⟨hs',f1,f2,f3,d2,bs2,h6,h7,rfl,hF,hb2,hd2,⟨hne,rfl⟩ | ⟨hno,xa,xn,X,fb,DN,hX,hv,hdz,hDN,rfl⟩⟩,rfl⟩
  · exact ⟨_,Same.perm (pm _ _ _ _ _ DL).symm,hs',f1,f2,f3,d2,bs2,h6,h7,rfl,hF,hb2,hd2,.inl ⟨hne,rfl⟩⟩
  · exact ⟨_,Same.perm (pm _ _ _ _ _ (X::DN)).symm,hs',f1,f2,f3,d2,bs2,h6,h7,rfl,hF,hb2,hd2,.inr ⟨hno,xa,xn,X,fb,DN,hX,hv,hdz,hDN,rfl⟩⟩
theorem zipStore2 (zb:Nat) (v:List Value) (F:Frags) (cs:List Value) (h:cs.length=524) (dcv:Value) :
    ((⟨zb,0,cs⟩:Frag)::F).set 0 ⟨zb,0,cs.take 0 ++ (zip10 .nilIface dcv ++ (buf0 ++ zipEnd .nilIface true)) ++ cs.drop (0 + 524)⟩=⟨zb,0,zip10 .nilIface dcv ++ (buf0 ++ zipEnd .nilIface true)⟩::F:=by
  rw [List.take_zero,List.nil_append,List.drop_eq_nil_of_le (by rw [h]; decide),List.append_nil]
  rfl
theorem reset_walk {K:Known} {ea:Fin 5→Addr} (hs:Sents K ea) (src:Src K ea) (l:List UInt8) (x1 x2 x3:Frag) (zb:Nat) (hA:src.At l x1 x2 x3) (c0 c1 c2 c3 c4 c5 rv dcv dg sz ev ms:Value) (bs:List Value) (DL:Frags) (hbs:bs.length=512) (hDL:DcIn dcv DL):Fn Tryz.prog K 34 #[.pointer (some ⟨zb,0,none⟩),.iface src.t src.v] ([x1,x2,x3,⟨zb,0,[c0,c1,c2,c3,c4,c5,rv,dcv,dg,sz]⟩,⟨zb,10,bs⟩,⟨zb,522,[ev,ms]⟩] ++ DL) (fun r L=>r=Er.val ea (Av l).1∧ResetEnd src zb l L):=by
 refine Fn.intro (args:=[.pointer (some ⟨zb,0,none⟩),.iface src.t src.v]) (RR:=Ret1 4 _) Tryz.func34 rfl rfl Tryz.ntmps34 (res1 Tryz.results34) ?_
 refine Bj (env2:=[(0,.pointer (some ⟨zb,0,none⟩)),(1,.iface src.t src.v)]) rfl<|Cr<|Aa (Ba (v:=Er.val ea .none) rfl) rfl<|Ek3 0 1 4 rfl<|Cr<|Em rfl rfl<|Em rfl rfl<|Aa (Ad rfl) rfl<|Aa (Ac rfl fa99_2) rfl<|Ag (Ai 3 (k:=7) rfl rfl rfl Tryz.isAgg96) rfl<|Aa (Eu [(2,dcv),(7,.bool true)] rfl (zipBuild dcv hDL.one)) rfl<|Aa (Ad rfl) rfl ?_
 refine De [3,3,3,0,0,0] (A:=[_,_,_,_,_,_]) (F:=DL) rfl<|Fy (zipSame zb ([x1,x2,x3] ++ DL) [c0,c1,c2,c3,c4,c5,rv,dcv,dg,sz] bs [ev,ms] rfl hbs).symm<|Ab (L2:=⟨zb,0,_⟩::x1::x2::x3::DL) rfl ?_
 refine Ao (Bp 0 (k:=0) rfl rfl rfl (zip_one dcv hDL.one) (zip_len dcv) (by rw [Nat.ble_eq]; simp [hbs]) Tryz.sizeOf99 rfl) ?_
 rintro _ _ ⟨rfl,rfl⟩
 refine Ab (L2:=⟨zb,0,zip10 .nilIface dcv ++ (buf0 ++ zipEnd .nilIface true)⟩::x1::x2::x3::DL) (zipStore2 zb [] _ _ (by simp [hbs]) dcv)<|Ek3 0 1 4 rfl<|Fw (zipSame zb ([x1,x2,x3] ++ DL) (zip10 .nilIface dcv) buf0 (zipEnd .nilIface true) rfl He)<|Hs [3,3,3,0,0,0] (A:=[_,_,_,_,_,_]) (F:=DL) rfl<|Bx (L2:=[x1,x2,x3,⟨zb,0,[.string ⟨#[]⟩,.slice none 0 0,.int .u64 0,.int .i64 0,.string ⟨#[]⟩,.int .u8 0,.nilIface,dcv,.int .u32 0,.int .u32 0]⟩,⟨zb,10,buf0⟩,⟨zb,522,[.nilIface,.bool true]⟩] ++ DL) rfl<|Al<|Cr<|Em rfl rfl<|Aa (S.assertHas rfl Tu94 (src.both _ Tu94)) rfl<|Em rfl rfl<|Aa (Bh rfl rfl) rfl<|Aa (Bh rfl rfl) rfl ?_
 refine Ea rfl rfl<|Ea rfl rfl<|Ek5 0 1 4 5 6 rfl<|Cr<|Em rfl rfl<|Ek6 0 1 4 5 6 19 rfl<|Hg rfl (rfl)<|Ak<|Em rfl rfl<|Em rfl rfl<|Aa (Ad rfl) rfl<|Aa (Ac rfl fa99_1) rfl ?_
 refine Ao (Aq 3 (k:=6) rfl rfl rfl rfl rfl Tryz.sizeOf94) ?_; rintro _ _ ⟨rfl,rfl⟩; refine Ab (L2:=(_::_::_::_::_::_::_)) rfl ?_
 refine Ek6 0 1 4 5 6 19 rfl<|Cr<|Em rfl rfl<|Em rfl rfl<|Em rfl rfl<|Aj (Ax rfl Tryz.call51 (readHeader_in hs src l x1 x2 x3 zb 0 _ _ _ _ _ _ (.int .u32 0) dcv buf0 DL hDL hA He (by decide) [_])) rfl ?_
 rintro _ _ ⟨hs6,f1,f2,f3,d2,bs2,h6,h7,rfl,hF,hb2,hd2,⟨hne,rfl⟩ | ⟨hno,xa,xn,xf,fb,DN,hX,rfl,rfl,hDN,rfl⟩⟩
 ·refine Ab (L2:=(_::_::_::_::_::_::_)) rfl ?_
  obtain ⟨a0,a1,a2,a3,a4,a5,rfl⟩:=six h6
  refine Em rfl rfl<|Aa (Bh rfl rfl) rfl<|Aa (Bh rfl rfl) rfl<|Aa (Ad rfl) rfl<|Aa (Ac rfl fa99_0) rfl ?_
  refine Ao (Bp 3 (k:=0) rfl rfl rfl h7 rfl rfl Tz92 rfl) ?_; rintro _ _ ⟨rfl,rfl⟩; refine Ab (L2:=(_::_::_::_::_::_::_)) rfl ?_
  refine Aa (Ad rfl) rfl<|Aa (Ac rfl fa99_6) rfl ?_
  refine Ao (Aq 5 (k:=0) rfl rfl rfl (one_er _) rfl Tz58) ?_; rintro _ _ ⟨rfl,rfl⟩; refine Ab (L2:=(_::_::_::_::_::_::_)) rfl ?_
  refine Ek6 0 1 4 5 6 19 rfl<|Cr<|Em rfl rfl<|Aa (Ad rfl) rfl<|Aa (Ac rfl fa99_6) rfl<|Ag (Ai 5 (k:=0) rfl rfl rfl Ta58) rfl<|Ea rfl rfl<|Ek6 0 1 4 5 6 19 rfl<|Bc ?_
  refine ⟨_,rfl,rfl,.inl ⟨hne,f1,f2,f3,_,hF,rfl⟩⟩
 refine Ab (L2:=(_::_::_::_::_::_::_::_)) rfl<|Em rfl rfl<|Aa (Bh rfl rfl) rfl<|Aa (Bh rfl rfl) rfl<|Aa (Ad rfl) rfl<|Aa (Ac rfl fa99_0) rfl ?_
 refine Ao (Bp 3 (k:=0) rfl rfl rfl rfl rfl rfl Tz92 rfl) ?_; rintro _ _ ⟨rfl,rfl⟩; refine Ab (L2:=(_::_::_::_::_::_::_::_)) rfl ?_
 refine Aa (Ad rfl) rfl<|Aa (Ac rfl fa99_6) rfl ?_
 refine Ao (Aq 5 (k:=0) rfl rfl rfl (one_er _) rfl Tz58) ?_; rintro _ _ ⟨rfl,rfl⟩; refine Ab (L2:=(_::_::_::_::_::_::_::_)) rfl ?_
 refine Ek6 0 1 4 5 6 19 rfl<|Cr<|Em rfl rfl<|Aa (Ad rfl) rfl<|Aa (Ac rfl fa99_6) rfl<|Ag (Ai 5 (k:=0) rfl rfl rfl Ta58) rfl<|Ea rfl rfl<|Ek6 0 1 4 5 6 19 rfl<|Bc ?_
 refine ⟨_,rfl,rfl,.inr ⟨hno,f1,f2,f3,bs2,xa,xn,xf,fb,DN,hF,hb2,hX,hDN,?_⟩⟩
 rw [← hno]
 rfl
theorem newReader_walk {K:Known} {ea:Fin 5→Addr} (hs:Sents K ea) (src:Src K ea) (l:List UInt8) (x1 x2 x3:Frag) (hA:src.At l x1 x2 x3):Fn Tryz.prog K 20 #[.iface src.t src.v] ([x1,x2,x3]) (fun r L=>((Av l).1 ≠ .none∧r=.tuple #[.pointer none,Er.val ea (Av l).1]∧∃ f1 f2 f3 T,src.At (Av l).2.1 f1 f2 f3∧L=[f1,f2,f3] ++ T) ∨ ((Av l).1=.none∧∃ zb,r=.tuple #[.pointer (some ⟨zb,0,none⟩),Er.val ea .none]∧ZAt src zb (Av l).2.2 true (Av l).2.1 L)):=by
 refine Fn.intro (args:=[.iface src.t src.v]) (RR:=Ret2 2 3 _) Tryz.func20 rfl rfl Tryz.ntmps20 (res2 Tryz.results20) ?_
 refine Bj (env2:=[(0,.iface src.t src.v)]) rfl<|Cr<|Ea rfl rfl<|Aa (Ba (v:=Er.val ea .none) rfl) rfl<|Ek3 0 2 3 rfl<|Cr ?_
 refine Aj (Dr Tryz.zeroValue99) rfl ?_; rintro _ _ ⟨b6,rfl,rfl⟩; refine Ab (L2:=[_,_,_,_]) rfl ?_
 refine Ab (L2:=[⟨b6,0,zip10 .nilIface .nilIface ++ (buf0 ++ zipEnd .nilIface false)⟩,x1,x2,x3]) (by rw [zipZero])<|Fy (zipSame b6 [x1,x2,x3] _ _ _ rfl He)<|De [3,3,3,0,0,0] (A:=[_,_,_,_,_,_]) (F:=[]) rfl<|Ab (L2:=[x1,x2,x3,⟨b6,0,[.string ⟨#[]⟩,.slice none 0 0,.int .u64 0,.int .i64 0,.string ⟨#[]⟩,.int .u8 0,.nilIface,.nilIface,.int .u32 0,.int .u32 0]⟩,⟨b6,10,buf0⟩,⟨b6,522,[.nilIface,.bool false]⟩]) rfl<|Ea rfl rfl<|Ek4 0 2 3 4 rfl<|Al<|Cr<|Em rfl rfl<|Em rfl rfl<|Aj (Ax rfl Tryz.call34 (reset_walk hs src l x1 x2 x3 b6 hA _ _ _ _ _ _ _ _ _ _ _ _ _ [] He (.inl ⟨rfl,rfl⟩))) rfl ?_
 rintro _ L2 ⟨rfl,hE⟩
 refine Ea rfl rfl<|Ek4 2 3 4 5 rfl<|Cr<|Em rfl rfl<|Ag (Dg rfl) rfl<|Ek5 2 3 4 5 11 rfl<|Dn rfl (fun h11 => ?_) (fun h11 => ?_)
 ·have hE2:=hE.resolve_right (fun h=>h11 h.1)
  refine Cr<|Em rfl rfl<|Ea rfl rfl<|Ea rfl rfl<|Ek5 2 3 4 5 11 rfl<|Bc ?_
  exact ⟨_,_,rfl,rfl,.inl ⟨h11,rfl,hE2.2⟩⟩
 have hE2:=hE.resolve_left (fun h=>h.1 h11)
 refine Ap<|Cr<|Em rfl rfl<|Ea rfl rfl<|Aa (Ba (v:=Er.val ea .none) rfl) rfl<|Ek5 2 3 4 5 11 rfl<|Bc ?_
 exact ⟨_,_,rfl,rfl,.inr ⟨h11,b6,rfl,hE2.2⟩⟩
theorem zNewReader_spec {K:Known} {ea:Fin 5→Addr} (hs:Sents K ea) (src:Src K ea) (l:List UInt8) (x1 x2 x3:Frag) (hA:src.At l x1 x2 x3) :
    Fn Tryz.prog K 20 #[.iface src.t src.v] [x1,x2,x3] (fun r L=>((Av l).1 ≠ .none∧r=.tuple #[.pointer none,Er.val ea (Av l).1]∧∃ f1 f2 f3,src.At (Av l).2.1 f1 f2 f3∧L=[f1,f2,f3]) ∨
      ((Av l).1=.none∧∃ zb,r=.tuple #[.pointer (some ⟨zb,0,none⟩),Er.val ea (Av l).1]∧ZAt src zb (Av l).2.2 true (Av l).2.1 L)):=by
  refine Fn.lose (newReader_walk hs src l x1 x2 x3 hA) ?_
  rintro v L' (⟨hne,rfl,f1,f2,f3,T,hF,rfl⟩ | ⟨hno,zb,rfl,hz⟩)
  · exact ⟨_,_,Same.refl _,.inl ⟨hne,rfl,f1,f2,f3,hF,rfl⟩⟩
  · exact ⟨L',[],Same.of_eq (List.append_nil _).symm,.inr ⟨hno,zb,by rw [hno],hz⟩⟩
end Go.Eng
