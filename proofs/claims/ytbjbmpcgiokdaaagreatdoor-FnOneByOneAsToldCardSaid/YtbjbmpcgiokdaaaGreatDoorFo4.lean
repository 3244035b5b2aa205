/-
  Texts of this proof, merged: WFl5, WFl6, WFl7, WFl8, Dst, WFl9, Step, WFlA, WFlD.
-/
import Derived.Test.YtbjbmpcgiokdaaaGreatDoorFo3
import Derived.Test.YtbjbmpcgiokdaaaGreatDoorFo2
set_option linter.unusedVariables false
set_option linter.unusedSimpArgs false
namespace Go.Eng
open Go Go.Proofs
set_option maxRecDepth 100000
set_option maxHeartbeats 1000000
def stored (D : List UInt8) (last : Bool) (n : Nat) (out : List UInt8) (q : Nat) : ResR :=
  if D.length < q + n then (out ++ D.drop q,.bad)
  else if last then (out ++ (D.drop q).take n,.done (q + n)) else run D .next (out ++ (D.drop q).take n) (8 * (q + n))
theorem stored_step {D : List UInt8} {last : Bool} {n k : Nat} {out : List UInt8} {q : Nat} (hk : k ≤ n) (hq : q + k ≤ D.length) : stored D last n out q = stored D last (n - k) (out ++ (D.drop q).take k) (q + k) := by
  unfold stored
  have e : q + k + (n - k) = q + n := by omega
  have e2 : (D.drop q).take k ++ (D.drop (q + k)).take (n - k) = (D.drop q).take n := by
    rw [← List.drop_drop,← List.take_add,show k + (n - k) = n by omega]
  have e3 : (D.drop q).take k ++ D.drop (q + k) = D.drop q := by rw [← List.drop_drop,List.take_append_drop]
  rw [e,List.append_assoc,e3,List.append_assoc,e2]
def StorSt {K : Known} {ea : Fin 5 → Addr} (src : Src K ea) (dt : List UInt8) (fb hb : Nat) (R : ResR) (gv : Nat) (pend : List UInt8) (q : Nat) (x1 x2 x3 A T W H : Frag) : Prop :=
  ∃ out trv h wr rd full ss last hl hd cl cd,HeadSt src dt fb (8 * q) q 0 x1 x2 x3 A ∧ WinSt fb hb gv out pend trv h wr rd full W H ∧ T = ptF fb 97 ss last .nilIface trv hl hd cl cd ∧ (ss = 0 ∨ (ss = 1 ∧ 1 ≤ cd ∧ cd ≤ hsize wr full)) ∧ cl ≤ 65535 ∧ R = stored dt last cl out q
def CdEnd {K : Known} {ea : Fin 5 → Addr} (src : Src K ea) (dt : List UInt8) (fb hb : Nat) (R : ResR) (gv p0 : Nat) (L : Frags) : Prop :=
  ∃ y1 y2 y3 A T W H,L = [y1,y2,y3,A,T,W,H] ∧ ((∃ pend q,pend ≠ [] ∧ StorSt src dt fb hb R gv pend q y1 y2 y3 A T W H) ∨ (∃ p2,p0 ≤ p2 ∧ NextSt src dt fb hb R gv [] p2 y1 y2 y3 A T W H) ∨ ∃ pend,EndSt src dt fb hb R gv pend y1 y2 y3 A T W H)
theorem bad_full {l : List UInt8} {m : Nat} (h : De l m ≠ .none) : Bad5 (noEof (De l m)) ∧ l.length < m := by
  unfold De at h ⊢
  split at h
  · exact absurd rfl h
  · rename_i h1
    rw [if_neg h1]
    split
    · exact ⟨⟨rfl,Dl (by simp)⟩,by omega⟩
    · exact ⟨⟨rfl,Dl (by simp)⟩,by omega⟩
theorem full_none {l : List UInt8} {m : Nat} (h : De l m = .none) : m ≤ l.length := by
  unfold De at h
  split at h
  · assumption
  · split at h <;> cases h
theorem win_join (h l : List UInt8) (wr m : Nat) (hl : h.length = 32768) (hm : wr + m ≤ 32768) :
    h.take wr ++ (l.take m ++ (((h.drop wr).take m).drop (Nat.min m l.length) ++ h.drop (wr + m))) = h.take wr ++ l.take m ++ h.drop (wr + (l.take m).length) := by
  rw [List.append_assoc]
  congr 2
  have e : (l.take m).length = Nat.min m l.length := List.length_take
  have h1 : Nat.min m l.length ≤ m := Nat.min_le_left _ _
  rw [e,← List.drop_drop,← List.drop_drop]
  conv => rhs; rw [← List.take_append_drop m (h.drop wr)]
  rw [List.drop_append_of_le_length]
  rw [List.length_take,List.length_drop]; omega
theorem win_cut (h : List UInt8) (wr m : Nat) : bytesV h = ([bytesV (h.take wr),bytesV ((h.drop wr).take m),bytesV (h.drop (wr + m))] : List (List Value)).flatten := by
  simp only [List.flatten_cons,List.flatten_nil,List.append_nil]
  rw [← El,← El,← List.drop_drop,List.take_append_drop,List.take_append_drop]
theorem win_ok (h : List UInt8) (wr m : Nat) (hl : h.length = 32768) (hm : wr + m ≤ 32768) : Gs 0 [(0,bytesV (h.take wr)),(wr,bytesV ((h.drop wr).take m)),(wr + m,bytesV (h.drop (wr + m)))] := by
  simp [Gs,Bp]; omega
theorem win_glue (hb wr m : Nat) (h l : List UInt8) (F : Frags) (hl : h.length = 32768) (hm : wr + m ≤ 32768) :
    Same ([⟨hb,0,bytesV (h.take wr)⟩,⟨hb,wr,bytesV (l.take m) ++ (bytesV ((h.drop wr).take m)).drop (Nat.min m l.length)⟩,⟨hb,wr + m,bytesV (h.drop (wr + m))⟩] ++ F) (⟨hb,0,bytesV (h.take wr ++ l.take m ++ h.drop (wr + (l.take m).length))⟩::F) := by
  have e : bytesV (h.take wr ++ l.take m ++ h.drop (wr + (l.take m).length)) = ([bytesV (h.take wr),bytesV (l.take m) ++ (bytesV ((h.drop wr).take m)).drop (Nat.min m l.length),bytesV (h.drop (wr + m))] : List (List Value)).flatten := by
    simp only [List.flatten_cons,List.flatten_nil,List.append_nil]
    rw [← win_join h l wr m hl hm,← bytesV_drop,← El,← El,← El,List.append_assoc]
  rw [e]
  refine (Same.chunks hb F [(0,bytesV (h.take wr)),(wr,bytesV (l.take m) ++ (bytesV ((h.drop wr).take m)).drop (Nat.min m l.length)),(wr + m,bytesV (h.drop (wr + m)))] 0 ?_).symm
  have : Nat.min m l.length ≤ m := Nat.min_le_left _ _
  have e1 : (l.take m).length = Nat.min m l.length := List.length_take
  simp [Gs,Bp,e1]; omega
theorem copyData_spec {K : Known} {ea : Fin 5 → Addr} (hs : Sents K ea) (src : Src K ea) (dt : List UInt8) (fb hb : Nat) (R : ResR) (gv : Nat) (last : Bool) (hlv hdv : Value) (stp : Nat) (a0 : Option Addr) (c0 : Nat) (trv : Value) (htr : trv = .slice a0 0 c0) (x1 x2 x3 : Frag) (q : Nat) (ro : Int) (out h : List UInt8) (wr rd : Nat) (full : Bool) (ss cl cd : Nat) (hA : src.At (dt.drop q) x1 x2 x3) (hq : q ≤ dt.length) (H : Hist h wr full out) (hrd : rd ≤ wr) (hwr : wr < 32768) (hsum : gv + (wr - rd) = out.length) (hss : ss = 0 ∨ (ss = 1 ∧ 1 ≤ cd ∧ cd ≤ hsize wr full)) (hcl : cl ≤ 65535) (hR : R = stored dt last cl out q) : Fn Tryz.prog K 97 #[.pointer (some ⟨fb,0,none⟩)] ([x1,x2,x3,⟨fb,0,[.iface src.t src.v,.pointer none,.int .i64 (ro),.int .u32 0,.int .u64 0]⟩,⟨fb,1045,[.func (.func stp) #[] #[],.int .i64 (((ss) : Nat) : Int),.bool last,.nilIface,trv,hlv,hdv,.int .i64 (((cl) : Nat) : Int),.int .i64 (((cd) : Nat) : Int)]⟩,⟨fb,1037,[.slice (some ⟨hb,0,none⟩) 32768 32768,.int .i64 (((wr) : Nat) : Int),.int .i64 (((rd) : Nat) : Int),.bool full]⟩,⟨hb,0,bytesV (h)⟩]) (fun r L => r = .tuple #[] ∧ CdEnd src dt fb hb R gv (8 * q) L) := by
 refine Fn.intro (args:=[.pointer (some ⟨fb,0,none⟩)]) (RR:=Ret0 _) Tryz.func97 rfl rfl Tryz.ntmps97 (res0 Tryz.results97) ?_
 refine Bl (env2:=[(0,.pointer (some ⟨fb,0,none⟩))]) rfl<|Cr<|Em rfl rfl<|Aa (Ad rfl) rfl<|Aa (Ae rfl Fd) rfl ?_
 refine Ak (OpX.pick [5] (F:=[_,_,_,_,_,_]) rfl (Au rfl Tryz.call107 (writeSlice_spec fb 1037 hb wr rd full hwr))) rfl ?_; rintro _ _ ⟨_,⟨rfl,rfl⟩,rfl⟩; refine Ab (L2:=[_,_,_,_,_,_,_]) rfl ?_
 refine Bt [1,1,1,1,1,0,0] rfl<|Ab (L2:=[_,_,_,_,_,_,_]) rfl<|Ea rfl rfl<|Ek2 0 2 rfl<|Eg (M:=fun ee ll => ∃ (m : Nat),∃ (mc : Nat),keeps ee [0,2] = some [(0,.pointer (some ⟨fb,0,none⟩)),(2,.slice (some ⟨hb,wr,none⟩) m mc)] ∧ ll = [x1,x2,x3,⟨fb,0,[.iface src.t src.v,.pointer none,.int .i64 (ro),.int .u32 0,.int .u64 0]⟩,⟨fb,1045,[.func (.func stp) #[] #[],.int .i64 (((ss) : Nat) : Int),.bool last,.nilIface,trv,hlv,hdv,.int .i64 (((cl) : Nat) : Int),.int .i64 (((cd) : Nat) : Int)]⟩,⟨fb,1037,[.slice (some ⟨hb,0,none⟩) 32768 32768,.int .i64 (((wr) : Nat) : Int),.int .i64 (((rd) : Nat) : Int),.bool full]⟩,⟨hb,0,bytesV (h)⟩] ∧ (m ≤ cl) ∧ (m ≤ 32768 - wr) ∧ (m = cl ∨ m = 32768 - wr) ∧ (m ≤ mc)) ?_ ?_
 ·refine Cr<|Em rfl rfl<|Aa (Bk rfl Tu25) rfl<|Em rfl rfl<|Aa (Ad rfl) rfl<|Aa (Ae rfl Gq) rfl<|Ah (An 4 (k:=7) rfl rfl rfl Ta3) rfl<|Aa (Gg rfl rfl) rfl<|Ek3 0 2 15 rfl<|Be rfl (fun h15 => ?_) (fun h15 => ?_)
  ·refine Al<|Em rfl rfl<|Em rfl rfl<|Aa (Ad rfl) rfl<|Aa (Ae rfl Gq) rfl<|Ah (An 4 (k:=7) rfl rfl rfl Ta3) rfl<|Aa (S.slH rfl rfl (by omega) Tu25 Tz5) rfl<|Ea rfl rfl<|Ek3 0 2 15 rfl ?_
   exact ⟨cl,32768 - wr,rfl,rfl,by omega,by omega,.inl rfl,by omega⟩
  refine Ar ?_
  exact ⟨32768 - wr,32768 - wr,rfl,rfl,by omega,by omega,.inr rfl,by omega⟩
 rintro _ _ ⟨m,mc,hq3,rfl,hm1,hm2,hm3,hmc⟩
 refine Ba _ hq3<|Ap<|Ge [6] rfl<|Bq (L2:=⟨hb,0,bytesV h⟩::[x1,x2,x3,⟨fb,0,[.iface src.t src.v,.pointer none,.int .i64 (ro),.int .u32 0,.int .u64 0]⟩,⟨fb,1045,[.func (.func stp) #[] #[],.int .i64 (((ss) : Nat) : Int),.bool last,.nilIface,trv,hlv,hdv,.int .i64 (((cl) : Nat) : Int),.int .i64 (((cd) : Nat) : Int)]⟩,⟨fb,1037,[.slice (some ⟨hb,0,none⟩) 32768 32768,.int .i64 (((wr) : Nat) : Int),.int .i64 (((rd) : Nat) : Int),.bool full]⟩]) rfl<|Bq (L2:=⟨hb,0,([bytesV (h.take wr),bytesV ((h.drop wr).take m),bytesV (h.drop (wr + m))] : List (List Value)).flatten⟩::[x1,x2,x3,⟨fb,0,[.iface src.t src.v,.pointer none,.int .i64 (ro),.int .u32 0,.int .u64 0]⟩,⟨fb,1045,[.func (.func stp) #[] #[],.int .i64 (((ss) : Nat) : Int),.bool last,.nilIface,trv,hlv,hdv,.int .i64 (((cl) : Nat) : Int),.int .i64 (((cd) : Nat) : Int)]⟩,⟨fb,1037,[.slice (some ⟨hb,0,none⟩) 32768 32768,.int .i64 (((wr) : Nat) : Int),.int .i64 (((rd) : Nat) : Int),.bool full]⟩]) (by rw [win_cut h wr m])<|Ez (Same.chunks hb [x1,x2,x3,⟨fb,0,[.iface src.t src.v,.pointer none,.int .i64 (ro),.int .u32 0,.int .u64 0]⟩,⟨fb,1045,[.func (.func stp) #[] #[],.int .i64 (((ss) : Nat) : Int),.bool last,.nilIface,trv,hlv,hdv,.int .i64 (((cl) : Nat) : Int),.int .i64 (((cd) : Nat) : Int)]⟩,⟨fb,1037,[.slice (some ⟨hb,0,none⟩) 32768 32768,.int .i64 (((wr) : Nat) : Int),.int .i64 (((rd) : Nat) : Int),.bool full]⟩] [(0,bytesV (h.take wr)),(wr,bytesV ((h.drop wr).take m)),(wr + m,bytesV (h.drop (wr + m)))] 0 (win_ok h wr m H.len (by omega)))<|Bq (L2:=[⟨hb,0,bytesV (h.take wr)⟩,⟨hb,wr,bytesV ((h.drop wr).take m)⟩,⟨hb,wr + m,bytesV (h.drop (wr + m))⟩,x1,x2,x3,⟨fb,0,[.iface src.t src.v,.pointer none,.int .i64 (ro),.int .u32 0,.int .u64 0]⟩,⟨fb,1045,[.func (.func stp) #[] #[],.int .i64 (((ss) : Nat) : Int),.bool last,.nilIface,trv,hlv,hdv,.int .i64 (((cl) : Nat) : Int),.int .i64 (((cd) : Nat) : Int)]⟩,⟨fb,1037,[.slice (some ⟨hb,0,none⟩) 32768 32768,.int .i64 (((wr) : Nat) : Int),.int .i64 (((rd) : Nat) : Int),.bool full]⟩]) rfl<|Al<|Em rfl rfl<|Aa (Ad rfl) rfl<|Aa (Ae rfl fa186_0) rfl<|Ah (An 6 (k:=0) rfl rfl rfl Ta94) rfl ?_
 refine Em rfl rfl ?_
 refine Ak (OpX.pick [3,3,3,1] (F:=[_,_,_,_,_]) rfl (Au rfl Tryz.call56 (Gf hs src (dt.drop q) x1 x2 x3 hb wr m mc (bytesV ((h.drop wr).take m)) hA (by rw [Bp,List.length_take,List.length_drop,H.len]; omega) hmc (by omega)))) rfl ?_; rintro _ _ ⟨_,⟨f1,f2,f3,hF,rfl,rfl⟩,rfl⟩; refine Ab (L2:=[_,_,_,_,_,_,_,_,_]) rfl ?_
 refine Em rfl rfl<|Aa (Bb rfl rfl) rfl<|Aa (Bb rfl rfl) rfl<|Ea rfl rfl<|Ea rfl rfl<|Ek4 0 2 3 4 rfl<|Ge [4,3,3] rfl<|Ez (win_glue hb wr m h (dt.drop q) [f1,f2,f3,⟨fb,0,[.iface src.t src.v,.pointer none,.int .i64 (ro),.int .u32 0,.int .u64 0]⟩,⟨fb,1045,[.func (.func stp) #[] #[],.int .i64 (((ss) : Nat) : Int),.bool last,.nilIface,trv,hlv,hdv,.int .i64 (((cl) : Nat) : Int),.int .i64 (((cd) : Nat) : Int)]⟩,⟨fb,1037,[.slice (some ⟨hb,0,none⟩) 32768 32768,.int .i64 (((wr) : Nat) : Int),.int .i64 (((rd) : Nat) : Int),.bool full]⟩] H.len (by omega))<|Ge [1,1,1,1,1,1] rfl<|Bq (L2:=[f1,f2,f3,⟨fb,0,[.iface src.t src.v,.pointer none,.int .i64 (ro),.int .u32 0,.int .u64 0]⟩,⟨fb,1045,[.func (.func stp) #[] #[],.int .i64 (((ss) : Nat) : Int),.bool last,.nilIface,trv,hlv,hdv,.int .i64 (((cl) : Nat) : Int),.int .i64 (((cd) : Nat) : Int)]⟩,⟨fb,1037,[.slice (some ⟨hb,0,none⟩) 32768 32768,.int .i64 (((wr) : Nat) : Int),.int .i64 (((rd) : Nat) : Int),.bool full]⟩,⟨hb,0,bytesV (h.take wr ++ (dt.drop q).take m ++ h.drop (wr + ((dt.drop q).take m).length))⟩]) rfl ?_
 have hdl : (dt.drop q).length = dt.length - q := List.length_drop
 have hxl : ((dt.drop q).take m).length = Nat.min m (dt.drop q).length := List.length_take
 have hmn1 : Nat.min m (dt.drop q).length ≤ m := Nat.min_le_left _ _
 have hHW := H.write ((dt.drop q).take m) (by rw [hxl]; omega)
 refine Cr<|Em rfl rfl<|Aa (Ad rfl) rfl<|Aa (Ae rfl Fe) rfl<|Ah (An 3 (k:=2) rfl rfl rfl Ta2) rfl<|Em rfl rfl<|Aa (Bh rfl rfl rfl) rfl<|Aa (Ad rfl) rfl<|Aa (Ae rfl Fe) rfl ?_
 refine Ao (Aq 3 (k:=2) rfl rfl rfl rfl rfl Tz2) ?_; rintro _ _ ⟨rfl,rfl⟩; refine Ab (L2:=[_,_,_,_,_,_,_]) rfl ?_
 refine Ek4 0 2 3 4 rfl<|Cr<|Em rfl rfl<|Aa (Ad rfl) rfl<|Aa (Ae rfl Gq) rfl<|Ah (An 4 (k:=7) rfl rfl rfl Ta3) rfl<|Em rfl rfl<|Aa (Du rfl rfl (N.sub64 (by omega) (by omega))) rfl<|Aa (Ad rfl) rfl<|Aa (Ae rfl Gq) rfl ?_
 refine Ao (Aq 4 (k:=7) rfl rfl rfl rfl rfl Tz3) ?_; rintro _ _ ⟨rfl,rfl⟩; refine Ab (L2:=[_,_,_,_,_,_,_]) rfl ?_
 refine Ek4 0 2 3 4 rfl<|Cr<|Em rfl rfl<|Aa (Ad rfl) rfl<|Aa (Ae rfl Fd) rfl<|Em rfl rfl ?_
 refine Ak (OpX.pick [5] (F:=[_,_,_,_,_,_]) rfl (Au rfl Tryz.call108 (writeMark_spec fb 1037 hb wr rd full (by omega) _ (by omega)))) rfl ?_; rintro _ _ ⟨_,⟨rfl,rfl⟩,rfl⟩; refine Ab (L2:=[_,_,_,_,_,_,_]) rfl ?_
 refine Bt [1,1,1,1,1,0,0] rfl<|Ab (L2:=[_,_,_,_,_,_,_]) rfl<|Ek4 0 2 3 4 rfl<|Ap<|Cr<|Em rfl rfl<|Ah (Dg rfl) rfl<|Ek5 0 2 3 4 53 rfl<|Dp rfl (fun h53 => ?_) (fun h53 => ?_)
 ·obtain ⟨hbf,hlt⟩ := bad_full h53
  have hmn : Nat.min m (dt.drop q).length = (dt.drop q).length := Nat.min_eq_right (by omega)
  have HW := hHW
  rw [hxl] at HW
  rw [hxl]
  refine Cr<|Em rfl rfl<|Em rfl rfl ?_
  refine Ak (OpX.pick [] (F:=[_,_,_,_,_,_,_]) rfl (Au rfl Tryz.call94 (flate_noEOF (L:=[]) hs _))) rfl ?_; rintro _ _ ⟨_,⟨rfl,rfl⟩,rfl⟩; refine Ab (L2:=[_,_,_,_,_,_,_]) rfl ?_
  refine Aa (Ad rfl) rfl<|Aa (Ae rfl Ee) rfl ?_
  refine Ao (Aq 4 (k:=3) rfl rfl rfl (one_er _) rfl Tz58) ?_; rintro _ _ ⟨rfl,rfl⟩; refine Ab (L2:=[_,_,_,_,_,_,_]) rfl ?_
  refine Ek5 0 2 3 4 53 rfl<|Av ?_
  refine ⟨rfl,_,_,_,_,_,_,_,rfl,.inr (.inr ⟨[],_,.bad,_,trv,_,_,rd,full,.inr ⟨rfl,hbf,_,hF⟩,⟨_,_,_,rfl⟩,⟨HW,by omega,by omega,by simp only [List.length_nil,List.length_append]; omega,by simp,by rw [htr]; exact TR.nil _ _ _ _,rfl,rfl⟩,⟨_,_,_,_,_,_,_,rfl⟩,?_,.inl rfl⟩)⟩
  rw [hR,stored,if_pos (by omega),List.take_of_length_le (by omega)]
 have hge := full_none h53
 have hmn : Nat.min m (dt.drop q).length = m := Nat.min_eq_left hge
 rw [hmn] at hxl
 have HW := hHW
 rw [hxl] at HW
 rw [hxl,hmn]
 rw [List.drop_drop] at hF
 refine Ar<|Ap<|Cr<|Em rfl rfl<|Aa (Ad rfl) rfl<|Aa (Ae rfl Fd) rfl ?_
 refine Ak (OpX.pick [5] (F:=[_,_,_,_,_,_]) rfl (Au rfl Tryz.call101 (availWrite_spec fb 1037 hb (wr + m) rd full (by omega) (by omega)))) rfl ?_; rintro _ _ ⟨_,⟨rfl,rfl⟩,rfl⟩; refine Ab (L2:=[_,_,_,_,_,_,_]) rfl ?_
 refine Bt [1,1,1,1,1,0,0] rfl<|Ab (L2:=[_,_,_,_,_,_,_]) rfl<|Aa (Dx (b:=((0 : Nat) : Int)) rfl rfl) rfl<|Em rfl rfl<|Ec (fun g64 => ?_) (fun g64 => ?_)
 ·refine Ag 64 true rfl rfl rfl rfl<|Ag 64 true rfl rfl rfl rfl<|Ag 64 true rfl rfl rfl rfl<|Ag 64 true rfl rfl rfl rfl<|Ag 64 true rfl rfl rfl rfl<|Aa (By rfl rfl) rfl<|Ek6 0 2 3 4 53 70 rfl<|Ft rfl (rfl)<|Cr<|Em rfl rfl<|Em rfl rfl<|Aa (Ad rfl) rfl ?_
  refine Aa (Ae rfl Fd) rfl ?_
  refine Ak (OpX.pick [5] (F:=[_,_,_,_,_,_]) rfl (Au rfl Tryz.call95 (Ff fb 1037 hb (wr + m) rd full (by omega) (by omega)))) rfl ?_; rintro _ _ ⟨_,⟨Aw,hfl,rfl⟩,rfl⟩; refine Ab (L2:=[_,_,_,_,_,_,_]) rfl ?_
  refine Bt [1,1,1,1,1,0,0] rfl<|Ab (L2:=[_,_,_,_,_,_,_]) rfl<|Aa (Ad rfl) rfl<|Aa (Ae rfl Ga) rfl ?_
  refine Ao (Aq 4 (k:=4) rfl rfl rfl (Hz hfl) rfl Tz25) ?_; rintro _ _ ⟨rfl,rfl⟩; refine Ab (L2:=[_,_,_,_,_,_,_]) rfl ?_
  refine Ek6 0 2 3 4 53 70 rfl<|Cr<|Em rfl rfl<|Aa (Ad rfl) rfl<|Aa (Ae rfl Ho) rfl ?_
  refine Ao (Aq 4 (k:=0) rfl rfl rfl rfl rfl Tz183) ?_; rintro _ _ ⟨rfl,rfl⟩; refine Ab (L2:=[_,_,_,_,_,_,_]) rfl ?_
  refine Ek6 0 2 3 4 53 70 rfl<|Av ?_
  have hR2 := hR.trans (stored_step (k:=m) hm1 (by omega))
  have hwm : wr + m = 32768 := by omega
  obtain ⟨wr5,full5,hW,hlen,hsz⟩ := WinSt.flush (gv:=gv) HW (by omega) (by rw [List.length_append]; omega) hfl
  have hs5 : hsize wr full ≤ hsize (wr + m) full := by unfold hsize; split <;> omega
  exact ⟨rfl,_,_,_,_,_,_,_,rfl,.inl ⟨_,q + m,(fun h => by rw [h] at hlen; simp at hlen; omega),_,_,_,wr5,wr5,full5,ss,last,hlv,hdv,cl - m,cd,⟨hF,0,_,BitsIn.start dt (by omega),rfl⟩,hW,rfl,hss.imp id (fun h => ⟨h.1,h.2.1,by omega⟩),by omega,hR2⟩⟩
 refine Aj 64 rfl rfl<|Em rfl rfl<|Aj 64 rfl rfl<|Aa (Ad rfl) rfl<|Aj 64 rfl rfl<|Aa (Ae rfl Gq) rfl<|Aj 64 rfl rfl<|Ah (An 4 (k:=7) rfl rfl rfl Ta3) rfl<|Aj 64 rfl rfl<|Aa (Gg (b:=((0 : Nat) : Int)) rfl rfl) rfl<|Aa (Bs rfl rfl) rfl<|Ek6 0 2 3 4 53 70 rfl ?_
 refine Be rfl (fun h70 => ?_) (fun h70 => ?_)
 ·refine Cr<|Em rfl rfl<|Em rfl rfl<|Aa (Ad rfl) rfl<|Aa (Ae rfl Fd) rfl ?_
  refine Ak (OpX.pick [5] (F:=[_,_,_,_,_,_]) rfl (Au rfl Tryz.call95 (Ff fb 1037 hb (wr + m) rd full (by omega) (by omega)))) rfl ?_; rintro _ _ ⟨_,⟨Aw,hfl,rfl⟩,rfl⟩; refine Ab (L2:=[_,_,_,_,_,_,_]) rfl ?_
  refine Bt [1,1,1,1,1,0,0] rfl<|Ab (L2:=[_,_,_,_,_,_,_]) rfl<|Aa (Ad rfl) rfl<|Aa (Ae rfl Ga) rfl ?_
  refine Ao (Aq 4 (k:=4) rfl rfl rfl (Hz hfl) rfl Tz25) ?_; rintro _ _ ⟨rfl,rfl⟩; refine Ab (L2:=[_,_,_,_,_,_,_]) rfl ?_
  refine Ek6 0 2 3 4 53 70 rfl<|Cr<|Em rfl rfl<|Aa (Ad rfl) rfl<|Aa (Ae rfl Ho) rfl ?_
  refine Ao (Aq 4 (k:=0) rfl rfl rfl rfl rfl Tz183) ?_; rintro _ _ ⟨rfl,rfl⟩; refine Ab (L2:=[_,_,_,_,_,_,_]) rfl ?_
  refine Ek6 0 2 3 4 53 70 rfl<|Av ?_
  have hR2 := hR.trans (stored_step (k:=m) hm1 (by omega))
  have hwm : wr + m = 32768 := by omega
  obtain ⟨wr5,full5,hW,hlen,hsz⟩ := WinSt.flush (gv:=gv) HW (by omega) (by rw [List.length_append]; omega) hfl
  have hs5 : hsize wr full ≤ hsize (wr + m) full := by unfold hsize; split <;> omega
  exact ⟨rfl,_,_,_,_,_,_,_,rfl,.inl ⟨_,q + m,(fun h => by rw [h] at hlen; simp at hlen; omega),_,_,_,wr5,wr5,full5,ss,last,hlv,hdv,cl - m,cd,⟨hF,0,_,BitsIn.start dt (by omega),rfl⟩,hW,rfl,hss.imp id (fun h => ⟨h.1,h.2.1,by omega⟩),by omega,hR2⟩⟩
 refine Ar<|Al<|Em rfl rfl ?_
 refine Ak (OpX.pick [5,4] (F:=[_,_,_,_,_]) rfl (Au rfl Tryz.call96 (finishBlock_spec hs fb hb (wr + m) rd full last (by omega) (by omega) _ _ _ _ _ _ _ _))) rfl ?_; rintro _ _ ⟨_,⟨rfl,ev2,tr2,Aw,rfl,hfin⟩,rfl⟩; refine Ab (L2:=[_,_,_,_,_,_,_]) rfl ?_
 refine Bt [2,2,2,2,1,0,0] rfl<|Ab (L2:=[_,_,_,_,_,_,_]) rfl<|Ek6 0 2 3 4 53 70 rfl ?_
 have hR2 := hR.trans (stored_step (k:=m) hm1 (by omega))
 have hmc : m = cl := by omega
 have hwm : wr + m < 32768 := by omega
 subst hmc
 rw [Nat.sub_self] at hR2
 have hs5 : hsize wr full ≤ hsize (wr + m) full := by unfold hsize; split <;> omega
 unfold stored at hR2
 rw [if_neg (by omega),List.take_zero,List.append_nil,Nat.add_zero] at hR2
 rcases hfin with ⟨hl5,rfl,rfl,rfl⟩ | ⟨hl5,rfl,⟨h1,rfl,rfl⟩ | ⟨_,hfl⟩⟩
 · rw [hl5] at hR2
   refine ⟨rfl,_,_,_,_,_,_,_,rfl,.inr (.inl ⟨8 * (q + m),by omega,q + m,0,_,_,_,wr + m,rd,full,ss,last,_,_,m - m,cd,⟨hF,0,_,BitsIn.start dt (by omega),rfl⟩,by omega,⟨HW,by omega,hwm,by simp only [List.length_nil,List.length_append]; omega,by simp,by rw [htr]; exact TR.nil _ _ _ _,rfl,rfl⟩,rfl,hss.imp id (fun h => ⟨h.1,by omega,h.2.1,by omega⟩),hR2⟩)⟩
 · rw [hl5,if_pos rfl] at hR2
   exact ⟨rfl,_,_,_,_,_,_,_,rfl,.inr (.inr ⟨[],_,_,.eof,_,_,wr + m,rd,full,.inl ⟨q + m,rfl,rfl,by omega,hF⟩,⟨_,_,_,rfl⟩,⟨HW,by omega,hwm,by simp only [List.length_nil,List.length_append]; omega,by simp,by rw [htr]; exact TR.nil _ _ _ _,rfl,rfl⟩,⟨_,_,_,_,_,_,_,rfl⟩,hR2,.inl rfl⟩)⟩
 · rw [hl5,if_pos rfl] at hR2
   obtain ⟨wr5,full5,hW,hlen,hsz⟩ := WinSt.flush (gv:=gv) HW (by omega) (by rw [List.length_append]; omega) hfl
   exact ⟨rfl,_,_,_,_,_,_,_,rfl,.inr (.inr ⟨_,_,_,.eof,_,_,wr5,wr5,full5,.inl ⟨q + m,rfl,rfl,by omega,hF⟩,⟨_,_,_,rfl⟩,hW,⟨_,_,_,_,_,_,_,rfl⟩,hR2,.inr rfl⟩)⟩
set_option maxHeartbeats 1000000
theorem zc288 : (Value.agg Tryz.zeroCells205).cells.toList = cellsI 288 (fun _ => 0) := by kernel_rfl
theorem zcHufL : (Value.agg Tryz.zeroCells177).cells.toList = hufZ := by rw [zcHuf]
def fixv (i : Nat) : Nat := if i < 144 then 8 else if i < 256 then 9 else if i < 280 then 7 else 8
def fixTo (k i : Nat) : Nat := if i < k then fixv i else 0
theorem fix_zero : cellsI 288 (fun _ => 0) = cellsI 288 (fixTo 0) := Hk fun o _ => by simp [fixTo]
theorem fix_next {k v : Nat} (hv : fixv k = v) : (cellsI 288 (fixTo k)).set (k * 1) (.int .i64 ((v : Nat) : Int)) = cellsI 288 (fixTo (k + 1)) :=
  Gm (by rw [fixTo,if_pos (by omega),hv]) fun o _ hne => by
    unfold fixTo
    by_cases h : o < k
    · rw [if_pos h,if_pos (by omega)]
    · rw [if_neg h,if_neg (by omega)]
theorem fix_full : cellsI 288 (fixTo 288) = intsV fixLit ++ [] := by
  rw [List.append_nil]
  have e : fixLit = (List.range 288).map fixv := by decide +kernel
  rw [e,intsV,List.map_map,cellsI]
  refine List.map_congr_left fun i hi => ?_
  have := List.mem_range.1 hi
  simp [fixTo,this]
theorem fix_ok : okLens fixLit := by decide +kernel
theorem fix_min : minL fixLit = 7 := by decide +kernel
theorem fix_15 : ∀ x ∈ fixLit,x ≤ 15 := by decide +kernel
theorem fix_lenL : fixLit.length = 288 := by decide +kernel
theorem fixedHuffman_walk {K : Known} : Fn Tryz.prog K 91 #[] ([]) (fun r L => ∃ qb L1 J,r = .pointer (some ⟨qb,0,none⟩) ∧ HufT fixLit 7 qb 0 L1 ∧ Same L (L1 ++ J)) := by
 refine Fn.intro (args:=[]) (RR:=Ret1 0 _) Tryz.func91 rfl rfl Tryz.ntmps91 (res1 Tryz.results91) ?_
 refine Bl (env2:=[]) rfl<|Cr<|Ea rfl rfl<|Ek1 0 rfl<|Cr ?_
 refine Ak (Dy Tryz.zeroValue205) rfl ?_; rintro _ _ ⟨b1,rfl,rfl⟩; refine Ab (L2:=[_]) rfl ?_
 refine Ab (L2:=[⟨b1,0,cellsI 288 (fixTo (0))⟩]) (by rw [zc288,fix_zero])<|Ek2 0 1 rfl<|Ap<|Cr<|Ea rfl rfl<|Ek3 0 1 2 rfl<|Ax<|Bx (fun mm ee ll => ∃ (k : Nat),keeps ee [1,2] = some [(1,.pointer (some ⟨b1,0,none⟩)),(2,.int .i64 ((k : Nat) : Int))] ∧ ll = [⟨b1,0,cellsI 288 (fixTo (k))⟩] ∧ (0 ≤ k) ∧ (k ≤ 144) ∧ mm = 144 - k) (_) ⟨0,rfl,rfl,by omega,by omega,rfl⟩ ?_
 rintro m0 _ _ ⟨k,hk0,rfl,hj1,hj2,hm0⟩
 refine Ba _ hk0<|Ap<|Cr<|Em rfl rfl<|Aa (Dk (b:=((144 : Nat) : Int)) rfl rfl) rfl<|Ek3 1 2 8 rfl<|Be rfl (fun h8 => ?_) (fun h8 => ?_)
 ·refine Ar<|Ap<|Ax<|Al<|Em rfl rfl<|Aa (Bm rfl rfl (by omega) Tu205 Tz3) rfl ?_
  refine Ao (Aq 0 (k:=k * 1) rfl rfl rfl rfl (by rw [Nat.blt_eq,Dj]; omega) Tz3) ?_
  rintro _ _ ⟨rfl,rfl⟩
  refine Ab (L2:=[⟨b1,0,cellsI 288 (fixTo (k + 1))⟩]) (congrArg (fun x => ([⟨b1,0,x⟩] : Frags)) (fix_next (v:=8) (by unfold fixv; repeat (first | rw [if_pos (by omega)] | rw [if_neg (by omega)])))) ?_
  refine Ek3 1 2 8 rfl<|Al<|Em rfl rfl<|Aa (Bh (b:=((1 : Nat) : Int)) rfl rfl (N.add64 (by omega))) rfl<|Ea rfl rfl<|Ek3 1 2 8 rfl ?_
  refine ⟨_,?_,k + 1,rfl,rfl,by omega,by omega,rfl⟩; omega
 have hk : k = 144 := by omega
 subst hk
 refine Bu rfl<|Ap<|Cr<|Ea rfl rfl<|Ek4 1 2 3 8 rfl<|Ax<|Bx (fun mm ee ll => ∃ (k : Nat),keeps ee [1,3] = some [(1,.pointer (some ⟨b1,0,none⟩)),(3,.int .i64 ((k : Nat) : Int))] ∧ ll = [⟨b1,0,cellsI 288 (fixTo (k))⟩] ∧ (144 ≤ k) ∧ (k ≤ 256) ∧ mm = 256 - k) (_) ⟨144,rfl,rfl,by omega,by omega,rfl⟩ ?_
 rintro m1 _ _ ⟨k,hk1,rfl,hj1,hj2,hm1⟩
 refine Ba _ hk1<|Ap<|Cr<|Em rfl rfl<|Aa (Dk (b:=((256 : Nat) : Int)) rfl rfl) rfl<|Ek3 1 3 14 rfl<|Be rfl (fun h14 => ?_) (fun h14 => ?_)
 ·refine Ar<|Ap<|Ax<|Al<|Em rfl rfl<|Aa (Bm rfl rfl (by omega) Tu205 Tz3) rfl ?_
  refine Ao (Aq 0 (k:=k * 1) rfl rfl rfl rfl (by rw [Nat.blt_eq,Dj]; omega) Tz3) ?_
  rintro _ _ ⟨rfl,rfl⟩
  refine Ab (L2:=[⟨b1,0,cellsI 288 (fixTo (k + 1))⟩]) (congrArg (fun x => ([⟨b1,0,x⟩] : Frags)) (fix_next (v:=9) (by unfold fixv; repeat (first | rw [if_pos (by omega)] | rw [if_neg (by omega)])))) ?_
  refine Ek3 1 3 14 rfl<|Al<|Em rfl rfl<|Aa (Bh (b:=((1 : Nat) : Int)) rfl rfl (N.add64 (by omega))) rfl<|Ea rfl rfl<|Ek3 1 3 14 rfl ?_
  refine ⟨_,?_,k + 1,rfl,rfl,by omega,by omega,rfl⟩; omega
 have hk : k = 256 := by omega
 subst hk
 refine Bu rfl<|Ap<|Cr<|Ea rfl rfl<|Ek4 1 3 4 14 rfl<|Ax<|Bx (fun mm ee ll => ∃ (k : Nat),keeps ee [1,4] = some [(1,.pointer (some ⟨b1,0,none⟩)),(4,.int .i64 ((k : Nat) : Int))] ∧ ll = [⟨b1,0,cellsI 288 (fixTo (k))⟩] ∧ (256 ≤ k) ∧ (k ≤ 280) ∧ mm = 280 - k) (_) ⟨256,rfl,rfl,by omega,by omega,rfl⟩ ?_
 rintro m2 _ _ ⟨k,hk2,rfl,hj1,hj2,hm2⟩
 refine Ba _ hk2<|Ap<|Cr<|Em rfl rfl<|Aa (Dk (b:=((280 : Nat) : Int)) rfl rfl) rfl<|Ek3 1 4 20 rfl<|Be rfl (fun h20 => ?_) (fun h20 => ?_)
 ·refine Ar<|Ap<|Ax<|Al<|Em rfl rfl<|Aa (Bm rfl rfl (by omega) Tu205 Tz3) rfl ?_
  refine Ao (Aq 0 (k:=k * 1) rfl rfl rfl rfl (by rw [Nat.blt_eq,Dj]; omega) Tz3) ?_
  rintro _ _ ⟨rfl,rfl⟩
  refine Ab (L2:=[⟨b1,0,cellsI 288 (fixTo (k + 1))⟩]) (congrArg (fun x => ([⟨b1,0,x⟩] : Frags)) (fix_next (v:=7) (by unfold fixv; repeat (first | rw [if_pos (by omega)] | rw [if_neg (by omega)])))) ?_
  refine Ek3 1 4 20 rfl<|Al<|Em rfl rfl<|Aa (Bh (b:=((1 : Nat) : Int)) rfl rfl (N.add64 (by omega))) rfl<|Ea rfl rfl<|Ek3 1 4 20 rfl ?_
  refine ⟨_,?_,k + 1,rfl,rfl,by omega,by omega,rfl⟩; omega
 have hk : k = 280 := by omega
 subst hk
 refine Bu rfl<|Ap<|Cr<|Ea rfl rfl<|Ek4 1 4 5 20 rfl<|Ax<|Bx (fun mm ee ll => ∃ (k : Nat),keeps ee [1,5] = some [(1,.pointer (some ⟨b1,0,none⟩)),(5,.int .i64 ((k : Nat) : Int))] ∧ ll = [⟨b1,0,cellsI 288 (fixTo (k))⟩] ∧ (280 ≤ k) ∧ (k ≤ 288) ∧ mm = 288 - k) (_) ⟨280,rfl,rfl,by omega,by omega,rfl⟩ ?_
 rintro m3 _ _ ⟨k,hk3,rfl,hj1,hj2,hm3⟩
 refine Ba _ hk3<|Ap<|Cr<|Em rfl rfl<|Aa (Dk (b:=((288 : Nat) : Int)) rfl rfl) rfl<|Ek3 1 5 26 rfl<|Be rfl (fun h26 => ?_) (fun h26 => ?_)
 ·refine Ar<|Ap<|Ax<|Al<|Em rfl rfl<|Aa (Bm rfl rfl (by omega) Tu205 Tz3) rfl ?_
  refine Ao (Aq 0 (k:=k * 1) rfl rfl rfl rfl (by rw [Nat.blt_eq,Dj]; omega) Tz3) ?_
  rintro _ _ ⟨rfl,rfl⟩
  refine Ab (L2:=[⟨b1,0,cellsI 288 (fixTo (k + 1))⟩]) (congrArg (fun x => ([⟨b1,0,x⟩] : Frags)) (fix_next (v:=8) (by unfold fixv; repeat (first | rw [if_pos (by omega)] | rw [if_neg (by omega)])))) ?_
  refine Ek3 1 5 26 rfl<|Al<|Em rfl rfl<|Aa (Bh (b:=((1 : Nat) : Int)) rfl rfl (N.add64 (by omega))) rfl<|Ea rfl rfl<|Ek3 1 5 26 rfl ?_
  refine ⟨_,?_,k + 1,rfl,rfl,by omega,by omega,rfl⟩; omega
 have hk : k = 288 := by omega
 subst hk
 refine Bu rfl<|Cr ?_
 refine Ak (Dy Tryz.zeroValue177) rfl ?_; rintro _ _ ⟨b31,rfl,rfl⟩; refine Ab (L2:=[_,_]) rfl ?_
 refine Ab (L2:=[⟨b31,0,.int .i64 ((0 : Nat) : Int)::(cellsU 512 (fun _ => 0) ++ [.slice none 0 0,.int .u32 0])⟩,⟨b1,0,intsV fixLit ++ []⟩]) (by rw [zcHufL,← fix_full]; rfl) ?_
 refine Ea rfl rfl<|Ek4 1 5 6 26 rfl<|Cr<|Em rfl rfl<|Aa (Fo (l:=0) (k:=.i64) (h:=288) (k' := .i64) rfl rfl rfl (by omega) (by omega) Tu205 Tz3) rfl ?_
 refine Am (v:=.slice (some ⟨b1,0,none⟩) (fixLit.length) (fixLit.length)) (by rw [fix_lenL]; rfl) ?_
 refine Ak (Au rfl Tryz.call98 (init_walk b31 0 b1 0 fixLit.length 0 (cellsU 512 (fun _ => 0) ++ [.slice none 0 0,.int .u32 0]) [] fixLit (by simp [Ek]) (fun _ => rfl) fix_15 (by rw [fix_lenL]; decide))) rfl ?_
 rintro rI LI hI
 refine Ek4 1 5 6 26 rfl<|Cr<|Em rfl rfl<|Ea rfl rfl<|Ek5 0 1 5 6 26 rfl<|Av ?_
 rcases hI with ⟨_,_,L1,J,hH,hS⟩ | ⟨hno,_⟩
 · rw [fix_min] at hH
   exact ⟨_,rfl,b31,L1,_::J,rfl,hH,hS.trans (Same.perm (List.perm_middle.symm))⟩
 · exact absurd fix_ok hno
theorem fixedHuffman_spec {K : Known} : Fn Tryz.prog K 91 #[] [] fun r L => ∃ qb,r = .pointer (some ⟨qb,0,none⟩) ∧ HufT fixLit 7 qb 0 L :=
  Fn.lose fixedHuffman_walk fun v L' ⟨qb,L1,J,h1,h2,h3⟩ => ⟨L1,J,h3,qb,h1,h2⟩
set_option maxHeartbeats 1000000
def DbEnd {K : Known} {ea : Fin 5 → Addr} (src : Src K ea) (dt : List UInt8) (fb hb : Nat) (R : ResR) (gv p0 : Nat) (L : Frags) : Prop :=
  ∃ y1 y2 y3 A T W H ws,ws.length = 4 ∧ L = [y1,y2,y3,A,T,W,H,⟨fb,1041,ws⟩] ∧ ((∃ pend q,pend ≠ [] ∧ StorSt src dt fb hb R gv pend q y1 y2 y3 A T W H) ∨ (∃ pend p2,p0 < p2 ∧ NextSt src dt fb hb R gv pend p2 y1 y2 y3 A T W H) ∨ ∃ pend,EndSt src dt fb hb R gv pend y1 y2 y3 A T W H)
def storR (dt : List UInt8) (last : Bool) (out : List UInt8) (q : Nat) : ResR := match Gl dt q with
  | none => (out,.bad)
  | some n => stored dt last n out (q + 4)
theorem storR_short {dt : List UInt8} {last : Bool} {out : List UInt8} {q : Nat} (h : dt.length < q + 4) : storR dt last out q = (out,.bad) := by
  unfold storR Gl; rw [if_pos h]
theorem compl16 {n : Nat} (h : n < 65536) : IntKind.u16.wrap (-1 - (n : Int)) = ((65535 - n : Nat) : Int) := by
  have e : IntKind.u16.wrap (-1 - (n : Int)) = (-1 - (n : Int)) % 65536 := rfl
  rw [e]; omega
theorem not_i64 {a : Nat} (h : a < 65536) : IntKind.i64.wrap (((BitVec.ofInt 64 (-1) ^^^ BitVec.ofNat 64 a).toNat : Nat) : Int) = -1 - (a : Int) := by
  have e1 : BitVec.ofInt 64 (-1) = BitVec.allOnes 64 := by decide
  rw [e1,BitVec.allOnes_xor,BitVec.toNat_not,BitVec.toNat_ofNat,Nat.mod_eq_of_lt (by omega)]
  rw [show (2 : Nat) ^ 64 - 1 - a = 18446744073709551615 - a from rfl]
  rw [IntKind.wrap_i64]; omega
theorem S.not64 {n : Nat} {env : Env} {ty xT : TypeId} {x : Operand} {a : Nat} (hx : ev? env x = some (.int .i64 (a : Int))) (ha : a < 65536) :
    OpP Tryz.prog n (.unOp .xor xT x) ty env (.int .i64 (-1 - (a : Int))) := by
  intro ac w hf
  simp only [exop,execOp,hf.eval hx,Op.unary]
  have e : IntKind.i64.signed = true := rfl
  rw [e]
  simp only [if_true,intBits_xor]
  have := not_i64 ha
  rw [← this]
  simp only [bits,N.ofInt_nat]
  rfl
theorem four_bytes {dt : List UInt8} {q : Nat} (h : q + 4 ≤ dt.length) : ∃ b0 b1 b2 b3 : UInt8,(dt.drop q).take 4 = [b0,b1,b2,b3] ∧ (dt.getD q 0).toNat = b0.toNat ∧ (dt.getD (q + 1) 0).toNat = b1.toNat ∧ (dt.getD (q + 2) 0).toNat = b2.toNat ∧ (dt.getD (q + 3) 0).toNat = b3.toNat := by
  have g : ∀ i,(dt.drop q)[i]? = dt[q + i]? := fun i => List.getElem?_drop
  match hd : dt.drop q,(by rw [List.length_drop]; omega : 4 ≤ (dt.drop q).length) with
  | b0::b1::b2::b3::r,_ =>
    have g0 := g 0
    have g1 := g 1
    have g2 := g 2
    have g3 := g 3
    rw [hd] at g0 g1 g2 g3
    simp only [List.getElem?_cons_zero,List.getElem?_cons_succ,Nat.add_zero] at g0 g1 g2 g3
    exact ⟨b0,b1,b2,b3,rfl,by rw [List.getD_eq_getElem?_getD,← g0]; rfl,by rw [List.getD_eq_getElem?_getD,← g1]; rfl,by rw [List.getD_eq_getElem?_getD,← g2]; rfl,by rw [List.getD_eq_getElem?_getD,← g3]; rfl⟩
theorem or8 (a b : Nat) (ha : a < 256) : a ||| b * 256 = a + 256 * b := by
  rw [Nat.or_comm,show b * 256 = b <<< 8 by rw [Nat.shiftLeft_eq],← Nat.shiftLeft_add_eq_or_of_lt (by simpa using ha),Nat.shiftLeft_eq]; omega
theorem dataBlock_spec {K : Known} {ea : Fin 5 → Addr} (hs : Sents K ea) (src : Src K ea) (dt : List UInt8) (fb hb : Nat) (R : ResR) (gv : Nat) (last : Bool) (hlv hdv : Value) (stp : Nat) (a0 : Option Addr) (c0 : Nat) (trv : Value) (htr : trv = .slice a0 0 c0) (x1 x2 x3 : Frag) (p q b nb : Nat) (ro : Int) (out h : List UInt8) (wr rd : Nat) (full : Bool) (ss cl cd : Nat) (ws : List Value) (hwl : ws.length = 4) (hA : src.At (dt.drop q) x1 x2 x3) (hB : BitsIn dt p q b nb) (hnb : nb < 8) (H : Hist h wr full out) (hrd : rd ≤ wr) (hwr : wr < 32768) (hsum : gv + (wr - rd) = out.length) (hss : SsOk ss cl cd (hsize wr full)) (hR : R = storR dt last out q) : Fn Tryz.prog K 90 #[.pointer (some ⟨fb,0,none⟩)] ([x1,x2,x3,⟨fb,0,[.iface src.t src.v,.pointer none,.int .i64 (ro),.int .u32 (((b) : Nat) : Int),.int .u64 (((nb) : Nat) : Int)]⟩,⟨fb,1045,[.func (.func stp) #[] #[],.int .i64 (((ss) : Nat) : Int),.bool last,.nilIface,trv,hlv,hdv,.int .i64 (((cl) : Nat) : Int),.int .i64 (((cd) : Nat) : Int)]⟩,⟨fb,1037,[.slice (some ⟨hb,0,none⟩) 32768 32768,.int .i64 (((wr) : Nat) : Int),.int .i64 (((rd) : Nat) : Int),.bool full]⟩,⟨hb,0,bytesV (h)⟩,⟨fb,1041,ws⟩]) (fun r L => r = .tuple #[] ∧ DbEnd src dt fb hb R gv p L) := by
 refine Fn.intro (args:=[.pointer (some ⟨fb,0,none⟩)]) (RR:=Ret0 _) Tryz.func90 rfl rfl Tryz.ntmps90 (res0 Tryz.results90) ?_
 refine Bl (env2:=[(0,.pointer (some ⟨fb,0,none⟩))]) rfl<|Ap ?_
 have hq := hB.le
 have hat := hB.at8
 have hdl : (dt.drop q).length = dt.length - q := List.length_drop
 refine Al<|Em rfl rfl<|Aa (Ad rfl) rfl<|Aa (Ae rfl Ed) rfl ?_
 refine Ao (Aq 3 (k:=4) rfl rfl rfl rfl rfl Tz137) ?_; rintro _ _ ⟨rfl,rfl⟩; refine Ab (L2:=[_,_,_,_,_,_,_,_]) rfl ?_
 refine Ek1 0 rfl<|Cr<|Em rfl rfl<|Aa (Ad rfl) rfl<|Aa (Ae rfl Dq) rfl ?_
 refine Ao (Aq 3 (k:=3) rfl rfl rfl rfl rfl Tz69) ?_; rintro _ _ ⟨rfl,rfl⟩; refine Ab (L2:=[_,_,_,_,_,_,_,_]) rfl ?_
 refine Ek1 0 rfl<|Ap<|Br [0,1,2,4,0,16,32,64,136,256,512,512,2047,8191] (.pure 0 240 (.pure 1 241 (.pure 2 243 (.pure 4 15 (.pure 5 31 (.pure 6 63 (.pure 7 127 (.seg [(3,247)] (.alt 8 (.pure 9 511 (.pure 10 3071 (.pure 11 6143 (.pure 12 4095 (.pure 13 8191 .done))))) .stop))))))))) mixed (by decide +kernel)<|Dm rfl rfl rfl<|Ai rfl (Ad rfl) rfl<|Ai rfl (Ae rfl fa186_0) rfl<|Dm rfl rfl rfl<|Ai rfl (Ad rfl) rfl<|Ai rfl (Ae rfl fa186_10) rfl<|Ai rfl (Fo (l:=0) (h:=4) rfl rfl rfl (by omega) (by omega) Tu182 Tz5) rfl<|Dn (v:=.slice (some ⟨fb,1041,none⟩) (4) (4)) (Bo (by simp [part]) rfl rfl)<|Dc (by decide) ?_
 refine Az rfl (An 3 (k:=0) rfl rfl rfl Ta94) rfl<|Db<|Da ?_
 refine Df rfl (OpX.pick [0,0,0,4] (F:=[_,_,_,_]) rfl (Au rfl Tryz.call56 (Gf hs src (dt.drop q) x1 x2 x3 fb 1041 4 4 ws hA hwl.symm (Nat.le_refl _) (by decide)))) rfl ?_; rintro _ _ ⟨_,⟨f1,f2,f3,hF,rfl,rfl⟩,rfl⟩; refine Bf (L2:=[_,_,_,_,_,_,_,_]) rfl ?_
 refine D.perml [0,0,0,1,1,1,1,0] rfl<|Bf (L2:=[_,_,_,_,_,_,_,_]) rfl<|Dm rfl rfl rfl<|Ai rfl (Bb rfl rfl) rfl<|Ai rfl (Bb rfl rfl) rfl<|Ai rfl (Bc rfl) rfl<|Ai rfl (Bc rfl) rfl<|Dk3 0 2 3 rfl<|Cr<|Em rfl rfl<|Aa (Ad rfl) rfl<|Aa (Ae rfl Fe) rfl ?_
 refine Ah (An 3 (k:=2) rfl rfl rfl Ta2) rfl<|Em rfl rfl<|Aa (Bh rfl rfl rfl) rfl<|Aa (Ad rfl) rfl<|Aa (Ae rfl Fe) rfl ?_
 refine Ao (Aq 3 (k:=2) rfl rfl rfl rfl rfl Tz2) ?_; rintro _ _ ⟨rfl,rfl⟩; refine Ab (L2:=[_,_,_,_,_,_,_,_]) rfl ?_
 refine Ek3 0 2 3 rfl<|Ap<|Cr<|Em rfl rfl<|Ah (Dg rfl) rfl<|Ek4 0 2 3 33 rfl<|Dp rfl (fun h33 => ?_) (fun h33 => ?_)
 ·obtain ⟨hbf,hlt⟩ := bad_full h33
  have hmn : Nat.min 4 (dt.drop q).length = (dt.drop q).length := Nat.min_eq_right (by omega)
  refine Cr<|Em rfl rfl<|Em rfl rfl ?_
  refine Ak (OpX.pick [] (F:=[_,_,_,_,_,_,_,_]) rfl (Au rfl Tryz.call94 (flate_noEOF (L:=[]) hs _))) rfl ?_; rintro _ _ ⟨_,⟨rfl,rfl⟩,rfl⟩; refine Ab (L2:=[_,_,_,_,_,_,_,_]) rfl ?_
  refine Aa (Ad rfl) rfl<|Aa (Ae rfl Ee) rfl ?_
  refine Ao (Aq 4 (k:=3) rfl rfl rfl (one_er _) rfl Tz58) ?_; rintro _ _ ⟨rfl,rfl⟩; refine Ab (L2:=[_,_,_,_,_,_,_,_]) rfl ?_
  refine Ek4 0 2 3 33 rfl<|Av ?_
  refine ⟨rfl,_,_,_,_,_,_,_,_,?_,rfl,.inr (.inr ⟨[],out,.bad,_,trv,h,wr,rd,full,.inr ⟨rfl,hbf,_,hF⟩,⟨_,_,_,rfl⟩,⟨H,hrd,hwr,by simpa using hsum,by simp,by rw [htr]; exact TR.nil _ _ _ _,rfl,rfl⟩,⟨_,_,_,_,_,_,_,rfl⟩,?_,.inl rfl⟩)⟩
  · rw [hmn]; simp only [List.length_append,Bp,List.length_take,List.length_drop,hwl]; omega
  · rw [hR]; exact storR_short (by omega)
 have hge := full_none h33
 have hmn : Nat.min 4 (dt.drop q).length = 4 := Nat.min_eq_left hge
 obtain ⟨b0,b1,b2,b3,hb4,e0,e1,e2,e3⟩ := four_bytes (dt:=dt) (q:=q) (by omega)
 have w0 := b0.toNat_lt
 have w1 := b1.toNat_lt
 have w2 := b2.toNat_lt
 have w3 := b3.toNat_lt
 rw [hb4,hmn,show List.drop 4 ws = [] from List.drop_eq_nil_of_le (by omega)]
 rw [List.drop_drop] at hF
 refine Bq (L2:=[f1,f2,f3,⟨fb,0,[.iface src.t src.v,.pointer none,.int .i64 _,.int .u32 (((0) : Nat) : Int),.int .u64 (((0) : Nat) : Int)]⟩,⟨fb,1045,[.func (.func stp) #[] #[],.int .i64 (((ss) : Nat) : Int),.bool last,.nilIface,trv,hlv,hdv,.int .i64 (((cl) : Nat) : Int),.int .i64 (((cd) : Nat) : Int)]⟩,⟨fb,1037,[.slice (some ⟨hb,0,none⟩) 32768 32768,.int .i64 (((wr) : Nat) : Int),.int .i64 (((rd) : Nat) : Int),.bool full]⟩,⟨hb,0,bytesV (h)⟩,⟨fb,1041,[.int .u8 ((b0.toNat : Nat) : Int),.int .u8 ((b1.toNat : Nat) : Int),.int .u8 ((b2.toNat : Nat) : Int),.int .u8 ((b3.toNat : Nat) : Int)]⟩]) rfl<|Ar<|Ap<|Br [0,1,2,4,8,16,0,64,128,256,512,1024,2048,4128,16383] (.pure 0 8128 (.pure 1 8129 (.pure 2 8131 (.pure 3 8135 (.pure 6 63 (.pure 7 127 (.pure 8 255 (.pure 9 511 (.seg [(4,8143),(5,8159),(10,1023),(11,2047),(12,4095),(13,8191),(14,16383)] .done))))))))) mixed (by decide +kernel)<|Dm rfl rfl rfl<|Ai rfl (Ad rfl) rfl<|Ai rfl (Ae rfl fa186_10) rfl<|Ai rfl (Bm (i:=0) rfl rfl (by omega) Tu182 Tz5) rfl<|Dm rfl rfl rfl<|Ai rfl (Ad rfl) rfl<|Ai rfl (Ae rfl fa186_10) rfl<|Ai rfl (Bm (i:=1) rfl rfl (by omega) Tu182 Tz5) rfl ?_
 refine Dc (by decide)<|Az rfl (An 7 (k:=0) rfl rfl rfl Ta5) rfl<|Bg rfl (Bv rfl Tu5 Tu3 (N.i64n (by omega))) rfl<|Az rfl (An 7 (k:=1) rfl rfl rfl Ta5) rfl<|Bg rfl (Bv rfl Tu5 Tu3 (N.i64n (by omega))) rfl<|Bg rfl (Fk (b:=((8 : Nat) : Int)) rfl rfl (by omega) (N.shl64 (by omega))) rfl<|Dw (v:=.int .i64 ((b1.toNat * 256 : Nat) : Int)) (congrArg (fun y : Nat => Value.int .i64 (y : Int)) (by rw [Nat.shiftLeft_eq]))<|Bg rfl (S.or rfl rfl (N.or64 (by omega) (by omega))) rfl<|Dw (v:=.int .i64 ((b0.toNat + 256 * b1.toNat : Nat) : Int)) (congrArg (fun y : Nat => Value.int .i64 (y : Int)) (by exact or8 _ _ (by omega)))<|Bg rfl (Bc rfl) rfl<|Db<|Dk5 0 2 3 4 33 rfl ?_
 refine Ap<|Br [0,1,2,4,8,16,0,64,128,256,512,1024,2048,4128,16383] (.pure 0 8128 (.pure 1 8129 (.pure 2 8131 (.pure 3 8135 (.pure 6 63 (.pure 7 127 (.pure 8 255 (.pure 9 511 (.seg [(4,8143),(5,8159),(10,1023),(11,2047),(12,4095),(13,8191),(14,16383)] .done))))))))) mixed (by decide +kernel)<|Dm rfl rfl rfl<|Ai rfl (Ad rfl) rfl<|Ai rfl (Ae rfl fa186_10) rfl<|Ai rfl (Bm (i:=2) rfl rfl (by omega) Tu182 Tz5) rfl<|Dm rfl rfl rfl<|Ai rfl (Ad rfl) rfl<|Ai rfl (Ae rfl fa186_10) rfl<|Ai rfl (Bm (i:=3) rfl rfl (by omega) Tu182 Tz5) rfl<|Dc (by decide)<|Az rfl (An 7 (k:=2) rfl rfl rfl Ta5) rfl ?_
 refine Bg rfl (Bv rfl Tu5 Tu3 (N.i64n (by omega))) rfl<|Az rfl (An 7 (k:=3) rfl rfl rfl Ta5) rfl<|Bg rfl (Bv rfl Tu5 Tu3 (N.i64n (by omega))) rfl<|Bg rfl (Fk (b:=((8 : Nat) : Int)) rfl rfl (by omega) (N.shl64 (by omega))) rfl<|Dw (v:=.int .i64 ((b3.toNat * 256 : Nat) : Int)) (congrArg (fun y : Nat => Value.int .i64 (y : Int)) (by rw [Nat.shiftLeft_eq]))<|Bg rfl (S.or rfl rfl (N.or64 (by omega) (by omega))) rfl<|Dw (v:=.int .i64 ((b2.toNat + 256 * b3.toNat : Nat) : Int)) (congrArg (fun y : Nat => Value.int .i64 (y : Int)) (by exact or8 _ _ (by omega)))<|Bg rfl (Bc rfl) rfl<|Db<|Dk6 0 2 3 4 5 33 rfl<|Ap<|Cr ?_
 refine Em rfl rfl<|Aa (Bv rfl Tu3 Tu153 (N.in_u16 (by omega))) rfl<|Em rfl rfl<|Aa (S.not64 rfl (by omega)) rfl<|Aa (Bv rfl Tu3 Tu153 (compl16 (by omega))) rfl<|Aa (Fq rfl rfl) rfl<|Ek7 0 2 3 4 5 33 72 rfl<|Be rfl (fun h72 => ?_) (fun h72 => ?_)
 ·refine Cr<|Em rfl rfl<|Em rfl rfl<|Aa (Ad rfl) rfl<|Aa (Ae rfl Fe) rfl<|Ah (An 3 (k:=2) rfl rfl rfl Ta2) rfl<|Aa (Ej rfl Hj) rfl<|Am (v:=Er.val ea (.corrupt _)) (rfl)<|Aa (Ad rfl) rfl<|Aa (Ae rfl Ee) rfl ?_
  refine Ao (Aq 4 (k:=3) rfl rfl rfl rfl rfl Tz58) ?_; rintro _ _ ⟨rfl,rfl⟩; refine Ab (L2:=[_,_,_,_,_,_,_,_]) rfl ?_
  refine Ek7 0 2 3 4 5 33 72 rfl<|Av ?_
  refine ⟨rfl,_,_,_,_,_,_,_,_,?_,rfl,.inr (.inr ⟨[],out,.bad,_,trv,h,wr,rd,full,.inr ⟨rfl,Et _,_,hF⟩,⟨_,_,_,rfl⟩,⟨H,hrd,hwr,by simpa using hsum,by simp,by rw [htr]; exact TR.nil _ _ _ _,rfl,rfl⟩,⟨_,_,_,_,_,_,_,rfl⟩,?_,.inl rfl⟩)⟩
  · rfl
  · rw [hR,storR,Gl,if_neg (by omega),if_neg (by rw [e0,e1,e2,e3]; omega)]
 refine Ar<|Ap<|Cr<|Em rfl rfl<|Aa (Dx (b:=((0 : Nat) : Int)) rfl rfl) rfl<|Ek8 0 2 3 4 5 33 72 82 rfl<|Be rfl (fun h82 => ?_) (fun h82 => ?_)
 ·have hn0 : b0.toNat + 256 * b1.toNat = 0 := by omega
  refine Cr<|Em rfl rfl<|Em rfl rfl<|Aa (Ad rfl) rfl<|Aa (Ae rfl Fd) rfl ?_
  refine Ak (OpX.pick [5] (F:=[_,_,_,_,_,_,_]) rfl (Au rfl Tryz.call95 (Ff fb 1037 hb wr rd full hrd (by omega)))) rfl ?_; rintro _ _ ⟨_,⟨Aw,hfl,rfl⟩,rfl⟩; refine Ab (L2:=[_,_,_,_,_,_,_,_]) rfl ?_
  refine Bt [1,1,1,1,1,0,0,0] rfl<|Ab (L2:=[_,_,_,_,_,_,_,_]) rfl<|Aa (Ad rfl) rfl<|Aa (Ae rfl Ga) rfl ?_
  refine Ao (Aq 4 (k:=4) rfl rfl rfl (Hz hfl) rfl Tz25) ?_; rintro _ _ ⟨rfl,rfl⟩; refine Ab (L2:=[_,_,_,_,_,_,_,_]) rfl ?_
  refine Ek8 0 2 3 4 5 33 72 82 rfl ?_
  have hfl0 := hfl
  obtain ⟨_,_,hA5⟩ := hfl
  have hA6 := (hA5.resolve_right fun h => by omega).2
  subst hA6
  refine Cr<|Em rfl rfl ?_
  refine Ak (OpX.pick [5,4] (F:=[_,_,_,_,_,_]) rfl (Au rfl Tryz.call96 (finishBlock_spec hs fb hb wr wr full last (Nat.le_refl _) hwr _ _ _ _ _ _ _ _))) rfl ?_; rintro _ _ ⟨_,⟨rfl,ev2,tr2,Aw2,rfl,hfin⟩,rfl⟩; refine Ab (L2:=[_,_,_,_,_,_,_,_]) rfl ?_
  refine Bt [2,2,2,2,1,0,0,0] rfl<|Ab (L2:=[_,_,_,_,_,_,_,_]) rfl<|Ek8 0 2 3 4 5 33 72 82 rfl<|Av ?_
  have hst : Gl dt q = some (b0.toNat + 256 * b1.toNat) := by rw [Gl,if_neg (by omega),if_pos (by rw [e0,e1,e2,e3]; omega),e0,e1]
  have hR2 : R = stored dt last (b0.toNat + 256 * b1.toNat) out (q + 4) := by rw [hR,storR,hst]
  obtain ⟨wr5,full5,hW,hlen,hsz⟩ := WinSt.flush (gv:=gv) H hrd hsum hfl0
  rw [hn0] at hR2
  unfold stored at hR2
  rw [if_neg (by omega),List.take_zero,List.append_nil,Nat.add_zero] at hR2
  rcases hfin with ⟨hl5,rfl,rfl,rfl⟩ | ⟨hl5,rfl,hfin⟩
  · rw [hl5] at hR2
    exact ⟨rfl,_,_,_,_,_,_,_,_,rfl,rfl,.inr (.inl ⟨_,8 * (q + 4),by omega,q + 4,0,_,_,_,wr5,wr5,full5,ss,last,_,_,cl,cd,⟨hF,0,_,BitsIn.start dt (by omega),rfl⟩,by omega,hW,rfl,ss_more hss hsz,hR2⟩)⟩
  · rw [hl5,if_pos rfl] at hR2
    obtain ⟨_,rfl,rfl⟩ := hfin.resolve_right (fun h => absurd h.1 (Nat.lt_irrefl _))
    exact ⟨rfl,_,_,_,_,_,_,_,_,rfl,rfl,.inr (.inr ⟨_,_,_,.eof,_,_,wr5,wr5,full5,.inl ⟨q + 4,rfl,rfl,by omega,hF⟩,⟨_,_,_,rfl⟩,hW,⟨_,_,_,_,_,_,_,rfl⟩,hR2,.inr rfl⟩)⟩
 refine Ar<|Cr<|Em rfl rfl<|Em rfl rfl<|Aa (Ad rfl) rfl<|Aa (Ae rfl Gq) rfl ?_
 refine Ao (Aq 4 (k:=7) rfl rfl rfl rfl rfl Tz3) ?_; rintro _ _ ⟨rfl,rfl⟩; refine Ab (L2:=[_,_,_,_,_,_,_,_]) rfl ?_
 refine Ek8 0 2 3 4 5 33 72 82 rfl<|Al<|Em rfl rfl ?_
 have hst : Gl dt q = some (b0.toNat + 256 * b1.toNat) := by rw [Gl,if_neg (by omega),if_pos (by rw [e0,e1,e2,e3]; omega),e0,e1]
 have hR2 : R = stored dt last (b0.toNat + 256 * b1.toNat) out (q + 4) := by rw [hR,storR,hst]
 refine Ak (OpX.pick [0,0,0,0,0,0,0] (F:=[_]) rfl (Au rfl Tryz.call97 (copyData_spec hs src dt fb hb R gv last hlv hdv stp a0 c0 trv htr f1 f2 f3 (q + 4) _ out h wr rd full ss _ cd hF (by omega) H hrd hwr hsum (hss.imp id fun h => ⟨h.1,h.2.2.1,h.2.2.2⟩) (by omega) hR2))) rfl ?_; rintro _ _ ⟨_,⟨rfl,y1,y2,y3,Ay,Ty,Wy,Hy,rfl,hC⟩,rfl⟩; refine Ab (L2:=[_,_,_,_,_,_,_,_]) rfl ?_
 refine Ek8 0 2 3 4 5 33 72 82 rfl ?_
 have hst : Gl dt q = some (b0.toNat + 256 * b1.toNat) := by rw [Gl,if_neg (by omega),if_pos (by rw [e0,e1,e2,e3]; omega),e0,e1]
 have hR2 : R = stored dt last (b0.toNat + 256 * b1.toNat) out (q + 4) := by rw [hR,storR,hst]
 rcases hC with ⟨pend,q5,h1,h2⟩ | ⟨p2,h1,h2⟩ | ⟨pend,h2⟩
 · exact ⟨rfl,_,_,_,_,_,_,_,_,rfl,rfl,.inl ⟨pend,q5,h1,h2⟩⟩
 · exact ⟨rfl,_,_,_,_,_,_,_,_,rfl,rfl,.inr (.inl ⟨[],p2,by omega,h2⟩)⟩
 · exact ⟨rfl,_,_,_,_,_,_,_,_,rfl,rfl,.inr (.inr ⟨pend,h2⟩)⟩
set_option maxHeartbeats 2000000
section
variable {P : Program} {H0 : Known} {n : Nat} {ops : Array Oper} {ds : List Nat}
theorem O.skip {i j : Nat} {b : Bool} {dst : Option Nat} {op : Op} {ty : TypeId} {pos : String} {af : Array Edge} {r : Plan} {env : Env} {L : Frags} {N : Post} (t : Nat) (c : Bool)
    (hi : ops[i]? = some ⟨dst,op,ty,pos,af,some (j,b)⟩) (ht : (ops[j]?).bind (·.dst) = some t) (hv : get? env t = some (.bool c)) (hc : c = !b) (hd : dstOk dst n = true)
    (k : wpD P H0 n ops ds r (ext dst undef env) L N) : wpO P H0 n ops ds i r env L N := by
  intro fuel listed l hrep hds hp hsel a w hf hw Nw hq
  have hy := Ht (ops:=ops) hf ht hv
  have hne : (some c == some b) = false := by subst hc; cases b <;> rfl
  unfold wpOp
  simp only [hi,Region.wanted,hy,hne]
  exact ⟨hw.base,k fuel _ _ hrep hds hp hsel _ w (hf.ext hd undef) hw Nw hq⟩
end
def HufE (lens : List Nat) (hb o : Nat) (ok : Bool) (LH : Frags) : Prop := (ok = true ∧ okLens lens ∧ HufT lens (minL lens) hb o LH) ∨ (ok = false ∧ ¬ okLens lens ∧ ∃ hz,hz.length = 515 ∧ LH = [⟨hb,o,hz⟩])
theorem init_in {K : Known} (hb o vb vo vc : Nat) (cs vs : List Value) (lens : List Nat) (hraw : RawH cs) (h15 : ∀ x ∈ lens,x ≤ 15) (hll : lens.length ≤ 320) (G : Frags) :
    Fn Tryz.prog K 98 #[.pointer (some ⟨hb,o,none⟩),.slice (some ⟨vb,vo,none⟩) lens.length vc] (⟨hb,o,cs⟩::⟨vb,vo,intsV lens ++ vs⟩::G)
      fun r L => ∃ LH ok,r = .bool ok ∧ HufE lens hb o ok LH ∧ L = ⟨vb,vo,intsV lens ++ vs⟩::(G ++ LH) := by
  obtain ⟨mn0,rest,rfl,hl,hz⟩ := hraw
  refine Fn.lose (Fn.frame (F:=G) (init_walk hb o vb vo vc mn0 rest vs lens hl hz h15 hll)) ?_
  rintro v L ⟨L1,hI,rfl⟩
  have pm : ∀ (A J : Frags) (x : Frag),(G ++ ((x::A) ++ J)).Perm ((x::(G ++ A)) ++ J) := fun A J x => by
    rw [← List.append_assoc]
    exact (List.perm_middle).append_right J
  rcases hI with ⟨hok,rfl,LH,J,hH,hS⟩ | ⟨hno,rfl,hz,J,hlen,hS⟩
  · exact ⟨_,J,(Same.perm List.perm_append_comm).trans ((Same.appendL G hS).trans (Same.perm (pm LH J _))),LH,true,rfl,.inl ⟨rfl,hok,hH⟩,rfl⟩
  · exact ⟨_,J,(Same.perm List.perm_append_comm).trans ((Same.appendL G hS).trans (Same.perm (pm _ J _))),_,false,rfl,.inr ⟨rfl,hno,hz,hlen,rfl⟩,rfl⟩
structure Codes (K : Known) : Prop where
  cell : ∀ i,i < 19 → cellAt K 10 (0 + i * 1) = some (.int .i64 ((ordL.getD i 0 : Nat) : Int))
theorem Gj (D : List UInt8) (p n : Nat) : left D (p + n) = left D p - n := by unfold left; omega
def RhR {K : Known} {ea : Fin 5 → Addr} (src : Src K ea) (dt : List UInt8) (fb ab cb p : Nat) (s0 s1 s2 s3 s4 s5 s6 s7 s8 : Value) (r : Value) (L : Frags) : Prop :=
  ∃ e y1 y2 y3 a b c ev av cs J,r = Er.val ea e ∧ av.length = 316 ∧ cs.length = 19 ∧
    L = y1::y2::y3::⟨fb,0,[.iface src.t src.v,.pointer none,a,b,c]⟩::⟨fb,1045,[s0,s1,s2,ev,s4,s5,s6,s7,s8]⟩::⟨fb,1035,[.pointer (some ⟨ab,0,none⟩),.pointer (some ⟨cb,0,none⟩)]⟩::⟨ab,0,av⟩::⟨cb,0,cs⟩::J ∧
    ((e = .none ∧ ∃ t p2 q2 b2 nb2 ro2 HL HD,dynR dt p = some (t,p2) ∧ src.At (dt.drop q2) y1 y2 y3 ∧ BitsIn dt p2 q2 b2 nb2 ∧ nb2 < 8 ∧ LitT t fb 5 HL ∧ DistT t (some ⟨fb,520,none⟩) HD ∧ a = .int .i64 ro2 ∧ b = .int .u32 ((b2 : Nat) : Int) ∧ c = .int .u64 ((nb2 : Nat) : Int) ∧ ev = s3 ∧ J = HL ++ HD) ∨
     (Bad5 e ∧ dynR dt p = none ∧ (∃ l,src.At l y1 y2 y3) ∧ ∃ h1 h2,h1.length = 515 ∧ h2.length = 515 ∧ J = [⟨fb,5,h1⟩,⟨fb,520,h2⟩]))
theorem Fl {cs : List Value} (h : RawH cs) : cs.length = 515 := by
  obtain ⟨m,r,rfl,h1,_⟩ := h
  rw [List.length_cons,h1]
theorem le_lenOf {l : List Nat} (h : ∀ x ∈ l,x ≤ 15) (s : Nat) : lenOf l s ≤ 15 := by
  rcases Nat.lt_or_ge s l.length with h1 | h1
  · rw [Di h1]; exact h _ (List.getElem_mem h1)
  · rw [lenOf,List.getD_eq_getElem?_getD,List.getElem?_eq_none h1]; decide
theorem acc_set {acc : List Nat} {rest : List Value} (v : Nat) (h : 0 < rest.length) : (intsV acc ++ rest).set (acc.length * 1) (.int .i64 ((v : Nat) : Int)) = intsV (acc ++ [v]) ++ rest.drop 1 := by
  match rest,h with
  | r::rs,_ =>
    rw [Nat.mul_one,List.set_append_right _ _ (by rw [Dh]; exact Nat.le_refl _),Dh,Nat.sub_self]
    simp [intsV]
theorem last_get {acc : List Nat} {rest : List Value} (h : acc ≠ []) : (intsV acc ++ rest)[(acc.length - 1) * 1]? = some (.int .i64 ((acc.getLastD 0 : Nat) : Int)) := by
  have hl : 0 < acc.length := List.length_pos_iff.2 h
  rw [Fx (by omega),List.getLastD_eq_getLast?,List.getLast?_eq_getElem?,List.getElem?_eq_getElem (by omega)]; rfl
theorem get_256 {acc : List Nat} {rest : List Value} (h : 256 < acc.length) : (intsV acc ++ rest)[256 * 1]? = some (.int .i64 ((acc.getD 256 0 : Nat) : Int)) := by
  rw [Fx h,List.getD_eq_getElem?_getD,List.getElem?_eq_getElem h]; rfl
theorem last_le {acc : List Nat} (h : ∀ x ∈ acc,x ≤ 15) (v : Nat) : (if v = 16 then acc.getLastD 0 else 0) ≤ 15 := by
  split
  · rw [List.getLastD_eq_getLast?]
    cases hg : acc.getLast? with
    | none => exact Nat.zero_le _
    | some x => exact h x (List.mem_of_getLast? hg)
  · omega
theorem rep_set {acc : List Nat} {rest : List Value} {j bv : Nat} (h : 0 < (rest.drop j).length) : (intsV (acc ++ List.replicate j bv) ++ rest.drop j).set ((acc.length + j) * 1) (.int .i64 ((bv : Nat) : Int)) = intsV (acc ++ List.replicate (j + 1) bv) ++ rest.drop (j + 1) := by
  have e : acc.length + j = (acc ++ List.replicate j bv).length := by rw [List.length_append,List.length_replicate]
  rw [e,acc_set bv h,List.drop_drop,List.append_assoc,← List.replicate_succ']
theorem rep_facts {v : Nat} (h : 16 ≤ v) : repN v ≤ 7 ∧ repB v ≤ 11 := ⟨by unfold repN; split; omega; split <;> omega,by unfold repB; split <;> omega⟩
theorem same_raw {lens : List Nat} {mn hb o : Nat} {LC : Frags} (h : HufT lens mn hb o LC) (G : Frags) : ∃ cs J,RawH cs ∧ Same (G ++ LC) ((⟨hb,o,cs⟩::G) ++ J) := by
  obtain ⟨cs,J,hr,hs⟩ := huf_raw h
  exact ⟨cs,J,hr,(Same.perm List.perm_append_comm).trans ((hs G).trans (Same.perm (.cons _ List.perm_append_comm)))⟩
theorem rh_bad2 {K : Known} {ea : Fin 5 → Addr} {src : Src K ea} {dt : List UInt8} {fb ab cb p : Nat} {s0 s1 s2 s3 s4 s5 s6 s7 s8 : Value} {e : Er} {y1 y2 y3 : Frag} {a b c ev : Value} {av cs cs2 : List Value} {LC : Frags} {lens : List Nat} {mn : Nat} {l : List UInt8}
    (hC : HufT lens mn fb 5 LC) (h5 : Bad5 e) (hd : dynR dt p = none) (hA : src.At l y1 y2 y3) (h1 : av.length = 316) (h2 : cs.length = 19) (h3 : cs2.length = 515) :
    ∃ L1 J,Same (y1::y2::y3::⟨fb,0,[.iface src.t src.v,.pointer none,a,b,c]⟩::⟨fb,1045,[s0,s1,s2,ev,s4,s5,s6,s7,s8]⟩::⟨fb,1035,[.pointer (some ⟨ab,0,none⟩),.pointer (some ⟨cb,0,none⟩)]⟩::⟨ab,0,av⟩::⟨cb,0,cs⟩::⟨fb,520,cs2⟩::LC) (L1 ++ J) ∧ RhR src dt fb ab cb p s0 s1 s2 s3 s4 s5 s6 s7 s8 (Er.val ea e) L1 := by
  obtain ⟨h1c,J,hr,hs⟩ := huf_raw hC
  refine ⟨_,J,?_,e,y1,y2,y3,a,b,c,ev,av,cs,_,rfl,h1,h2,rfl,.inr ⟨h5,hd,⟨l,hA⟩,h1c,cs2,Fl hr,h3,rfl⟩⟩
  have q : ∀ G : Frags,Same (G ++ (⟨fb,520,cs2⟩::LC)) ((G ++ [⟨fb,5,h1c⟩,⟨fb,520,cs2⟩]) ++ J) := fun G => by
    have s1 := hs [⟨fb,520,cs2⟩]
    have s2 := Same.appendL G ((Same.perm (List.perm_append_comm (l₁:=[⟨fb,520,cs2⟩]) (l₂:=LC))).trans s1)
    refine s2.trans (Same.perm ?_)
    rw [List.append_assoc]
    refine List.Perm.append_left G (.cons _ ?_)
    exact List.perm_append_comm
  exact q [y1,y2,y3,⟨fb,0,[.iface src.t src.v,.pointer none,a,b,c]⟩,⟨fb,1045,[s0,s1,s2,ev,s4,s5,s6,s7,s8]⟩,⟨fb,1035,[.pointer (some ⟨ab,0,none⟩),.pointer (some ⟨cb,0,none⟩)]⟩,⟨ab,0,av⟩,⟨cb,0,cs⟩]
theorem rh_bad3 {K : Known} {ea : Fin 5 → Addr} {src : Src K ea} {dt : List UInt8} {fb ab cb p : Nat} {s0 s1 s2 s3 s4 s5 s6 s7 s8 : Value} {e : Er} {y1 y2 y3 : Frag} {a b c ev : Value} {av cs hz : List Value} {LC : Frags} {lens : List Nat} {mn : Nat} {l : List UInt8}
    (hC : HufT lens mn fb 5 LC) (h5 : Bad5 e) (hd : dynR dt p = none) (hA : src.At l y1 y2 y3) (h1 : av.length = 316) (h2 : cs.length = 19) (h3 : hz.length = 515) :
    ∃ L1 J,Same (⟨ab,0,av⟩::y1::y2::y3::⟨fb,0,[.iface src.t src.v,.pointer none,a,b,c]⟩::⟨fb,1045,[s0,s1,s2,ev,s4,s5,s6,s7,s8]⟩::⟨fb,1035,[.pointer (some ⟨ab,0,none⟩),.pointer (some ⟨cb,0,none⟩)]⟩::⟨cb,0,cs⟩::(LC ++ [⟨fb,520,hz⟩])) (L1 ++ J) ∧ RhR src dt fb ab cb p s0 s1 s2 s3 s4 s5 s6 s7 s8 (Er.val ea e) L1 := by
  obtain ⟨L1,J,hs,hr⟩ := rh_bad2 (s0:=s0) (s1:=s1) (s2:=s2) (s3:=s3) (s4:=s4) (s5:=s5) (s6:=s6) (s7:=s7) (s8:=s8) (ev:=ev) (a:=a) (b:=b) (c:=c) (ab:=ab) (cb:=cb) hC h5 hd hA h1 h2 h3
  refine ⟨L1,J,Same.trans (Same.perm ?_) hs,hr⟩
  refine (List.perm_middle (l₁:=[y1,y2,y3,_,_,_]) (l₂:=_::(LC ++ [_]))).symm.trans ?_
  refine .cons _ (.cons _ (.cons _ (.cons _ (.cons _ (.cons _ (.cons _ (.cons _ ?_)))))))
  exact List.perm_append_comm (l₂:=[_])
theorem readHuffman_walk {K : Known} {ea : Fin 5 → Addr} (hs : Sents K ea) (hc : Codes K) (src : Src K ea) (dt : List UInt8) (fb ab cb : Nat) (s0 s1 s2 s3 s4 s5 s6 s7 s8 : Value) (x1 x2 x3 : Frag) (p q b nb : Nat) (ro : Int) (av cs cs1 cs2 : List Value) (hasl : av.length = 316) (hcsl : cs.length = 19) (hraw1 : RawH cs1) (hraw2 : RawH cs2) (hA : src.At (dt.drop q) x1 x2 x3) (hB : BitsIn dt p q b nb) (hnb : nb < 8) : Fn Tryz.prog K 93 #[.pointer (some ⟨fb,0,none⟩)] ([x1,x2,x3,⟨fb,0,[.iface src.t src.v,.pointer none,.int .i64 (ro),.int .u32 (((b) : Nat) : Int),.int .u64 (((nb) : Nat) : Int)]⟩,⟨fb,1045,[s0,s1,s2,s3,s4,s5,s6,s7,s8]⟩,⟨fb,1035,[.pointer (some ⟨ab,0,none⟩),.pointer (some ⟨cb,0,none⟩)]⟩,⟨ab,0,av⟩,⟨cb,0,cs⟩,⟨fb,5,cs1⟩,⟨fb,520,cs2⟩]) (fun r L => ∃ L1 J,Same L (L1 ++ J) ∧ RhR src dt fb ab cb p s0 s1 s2 s3 s4 s5 s6 s7 s8 r L1) := by
 refine Fn.intro (args:=[.pointer (some ⟨fb,0,none⟩)]) (RR:=Ret1 2 _) Tryz.func93 rfl rfl Tryz.ntmps93 (res1 Tryz.results93) ?_
 refine Bl (env2:=[(0,.pointer (some ⟨fb,0,none⟩))]) rfl<|Cr<|Aa (Bc (v:=Er.val ea .none) rfl) rfl<|Ek2 0 2 rfl<|Ap<|Ax<|Bx (fun mm ee ll => ∃ (q : Nat),∃ (b : Nat),∃ (nb : Nat),∃ (ro : Int),∃ (g1 : Frag),∃ (g2 : Frag),∃ (g3 : Frag),keeps ee [0] = some [(0,.pointer (some ⟨fb,0,none⟩))] ∧ ll = [g1,g2,g3,⟨fb,0,[.iface src.t src.v,.pointer none,.int .i64 (ro),.int .u32 (((b) : Nat) : Int),.int .u64 (((nb) : Nat) : Int)]⟩,⟨fb,1045,[s0,s1,s2,s3,s4,s5,s6,s7,s8]⟩,⟨fb,1035,[.pointer (some ⟨ab,0,none⟩),.pointer (some ⟨cb,0,none⟩)]⟩,⟨ab,0,av⟩,⟨cb,0,cs⟩,⟨fb,5,cs1⟩,⟨fb,520,cs2⟩] ∧ (src.At (dt.drop q) g1 g2 g3) ∧ (BitsIn dt (p) q b nb) ∧ (nb < 8 ∨ nb < 14 + 8) ∧ mm = 14 - nb) (_) ⟨q,b,nb,ro,x1,x2,x3,rfl,rfl,hA,hB,.inl hnb,rfl⟩ ?_
 rintro m0 _ _ ⟨q,b,nb,ro,g1,g2,g3,hk0,rfl,hA,hB,hnl,hm0⟩
 refine Ba _ hk0<|Ap<|Cr<|Em rfl rfl<|Aa (Ad rfl) rfl<|Aa (Ae rfl Ed) rfl<|Ah (An 3 (k:=4) rfl rfl rfl Ta137) rfl<|Aa (Dk (b:=((14 : Nat) : Int)) rfl rfl) rfl<|Ek2 0 23 rfl<|Be rfl (fun h23 => ?_) (fun h23 => ?_)
 ·refine Ar<|Ax<|Cr<|Em rfl rfl ?_
  refine Ak (OpX.pick [0,0,0,0] (F:=[_,_,_,_,_,_]) rfl (Au rfl Tryz.call89 (Hv hs src _ _ _ fb _ dt _ _ _ _ hA hB (by omega)))) rfl ?_; rintro _ _ ⟨_,⟨k1,k2,k3,e4,b4,nb4,ro4,rfl,rfl,hE4⟩,rfl⟩; refine Ab (L2:=[_,_,_,_,_,_,_,_,_,_]) rfl ?_
  refine Bt [0,0,0,0,0,0,0,0,0,0] rfl<|Ab (L2:=[_,_,_,_,_,_,_,_,_,_]) rfl<|Ea rfl rfl<|Ek3 0 3 23 rfl<|Cr<|Em rfl rfl<|Ah (Dg rfl) rfl<|Ek4 0 3 23 27 rfl<|Dp rfl (fun h27 => ?_) (fun h27 => ?_)
  ·obtain ⟨hb5,hqe,lx,hAx⟩ := hE4.resolve_left fun h => h27 h.1
   have hle := hB.left_eq
   refine Cr<|Em rfl rfl<|Ea rfl rfl<|Ek5 0 2 3 23 27 rfl<|Av ?_
   refine ⟨_,rfl,_,[],Same.of_eq (List.append_nil _).symm,_,_,_,_,_,_,_,_,_,_,_,rfl,hasl,?_,rfl,.inr ⟨hb5,dynR_14 (by omega),⟨_,hAx⟩,cs1,cs2,Fl hraw1,Fl hraw2,rfl⟩⟩
   exact hcsl
  obtain ⟨_,hA4,hB4,hn4⟩ := hE4.resolve_right fun h => h.1.2 h27
  subst hn4
  refine Ar ?_
  refine ⟨_,?_,_,_,_,_,_,_,_,rfl,rfl,hA4,hB4,.inr (by omega),rfl⟩; omega
 have hn14 : 14 ≤ nb := by omega
 have hb2 := hB.lt32 (by omega)
 have hle := hB.left_eq
 have h14 : ¬ left dt p < 14 := by omega
 have hB5 := hB.take (n:=5) (by omega)
 have hB10 := hB5.2.take (n:=5) (by omega)
 have hB14 := (hB10.2.take (n:=4) (by omega)).2
 have t5 := Eo dt p 5
 have t10 := Eo dt (p + 5) 5
 have t14 := Eo dt (p + 10) 4
 refine Bu rfl<|Cr<|Em rfl rfl<|Aa (Ad rfl) rfl<|Aa (Ae rfl Dq) rfl<|Ah (An 3 (k:=3) rfl rfl rfl Ta69) rfl<|Aa (Ei (b:=((31 : Nat) : Int)) rfl rfl (N.and_u32 (by omega) (by omega))) rfl<|Am (v:=.int .u32 ((takeB dt p 5 : Nat) : Int)) (congrArg (fun y : Nat => Value.int .u32 (y : Int)) (by exact Hi (n:=5) hB (by omega)))<|Aa (Bv rfl Tu69 Tu3 (N.i64n (by omega))) rfl<|Aa (Bh (b:=((257 : Nat) : Int)) rfl rfl (N.add64 (by omega))) rfl<|Ea rfl rfl<|Ek3 0 4 23 rfl ?_
 refine Ap<|Cr<|Em rfl rfl<|Aa (Gg (b:=((286 : Nat) : Int)) rfl rfl) rfl<|Ek4 0 4 23 37 rfl<|Be rfl (fun h37 => ?_) (fun h37 => ?_)
 ·refine Cr<|Em rfl rfl<|Aa (Ad rfl) rfl<|Aa (Ae rfl Fe) rfl<|Ah (An 3 (k:=2) rfl rfl rfl Ta2) rfl<|Aa (Ej rfl Hj) rfl<|Am (v:=Er.val ea (.corrupt _)) (rfl)<|Ea rfl rfl<|Ek5 0 2 4 23 37 rfl<|Av ?_
  refine ⟨_,rfl,_,[],Same.of_eq (List.append_nil _).symm,_,_,_,_,_,_,_,_,_,_,_,rfl,hasl,?_,rfl,.inr ⟨Et _,dynR_286 h14 (by omega),⟨_,hA⟩,cs1,cs2,Fl hraw1,Fl hraw2,rfl⟩⟩
  exact hcsl
 have h286 : ¬ 286 < takeB dt p 5 + 257 := by omega
 refine Ar<|Cr<|Em rfl rfl<|Aa (Ad rfl) rfl<|Aa (Ae rfl Dq) rfl<|Ah (An 3 (k:=3) rfl rfl rfl Ta69) rfl<|Aa (Fj (b:=((5 : Nat) : Int)) rfl rfl (by omega) (N.shr_u32 (by omega) _)) rfl<|Am (v:=.int .u32 ((b / 2 ^ 5 : Nat) : Int)) (congrArg (fun y : Nat => Value.int .u32 (y : Int)) (by rw [Nat.shiftRight_eq_div_pow]))<|Aa (Ad rfl) rfl<|Aa (Ae rfl Dq) rfl ?_
 refine Ao (Aq 3 (k:=3) rfl rfl rfl rfl rfl Tz69) ?_; rintro _ _ ⟨rfl,rfl⟩; refine Ab (L2:=[_,_,_,_,_,_,_,_,_,_]) rfl ?_
 refine Ek4 0 4 23 37 rfl<|Cr<|Em rfl rfl<|Aa (Ad rfl) rfl<|Aa (Ae rfl Dq) rfl<|Ah (An 3 (k:=3) rfl rfl rfl Ta69) rfl<|Aa (Ei (b:=((31 : Nat) : Int)) rfl rfl (N.and_u32 (by omega) (by omega))) rfl<|Am (v:=.int .u32 ((takeB dt (p + 5) 5 : Nat) : Int)) (congrArg (fun y : Nat => Value.int .u32 (y : Int)) (by exact Hi (n:=5) hB5.2 (by omega)))<|Aa (Bv rfl Tu69 Tu3 (N.i64n (by omega))) rfl<|Aa (Bh (b:=((1 : Nat) : Int)) rfl rfl (N.add64 (by omega))) rfl<|Ea rfl rfl<|Ek5 0 4 5 23 37 rfl ?_
 refine Ap<|Cr<|Em rfl rfl<|Aa (Gg (b:=((30 : Nat) : Int)) rfl rfl) rfl<|Ek6 0 4 5 23 37 58 rfl<|Be rfl (fun h58 => ?_) (fun h58 => ?_)
 ·refine Cr<|Em rfl rfl<|Aa (Ad rfl) rfl<|Aa (Ae rfl Fe) rfl<|Ah (An 3 (k:=2) rfl rfl rfl Ta2) rfl<|Aa (Ej rfl Hj) rfl<|Am (v:=Er.val ea (.corrupt _)) (rfl)<|Ea rfl rfl<|Ek7 0 2 4 5 23 37 58 rfl<|Av ?_
  refine ⟨_,rfl,_,[],Same.of_eq (List.append_nil _).symm,_,_,_,_,_,_,_,_,_,_,_,rfl,hasl,?_,rfl,.inr ⟨Et _,dynR_30 h14 h286 (by omega),⟨_,hA⟩,cs1,cs2,Fl hraw1,Fl hraw2,rfl⟩⟩
  exact hcsl
 have h30 : ¬ 30 < takeB dt (p + 5) 5 + 1 := by omega
 refine Ar<|Cr<|Em rfl rfl<|Aa (Ad rfl) rfl<|Aa (Ae rfl Dq) rfl<|Ah (An 3 (k:=3) rfl rfl rfl Ta69) rfl<|Aa (Fj (b:=((5 : Nat) : Int)) rfl rfl (by omega) (N.shr_u32 (by omega) _)) rfl<|Am (v:=.int .u32 ((b / 2 ^ 5 / 2 ^ 5 : Nat) : Int)) (congrArg (fun y : Nat => Value.int .u32 (y : Int)) (by rw [Nat.shiftRight_eq_div_pow]))<|Aa (Ad rfl) rfl<|Aa (Ae rfl Dq) rfl ?_
 refine Ao (Aq 3 (k:=3) rfl rfl rfl rfl rfl Tz69) ?_; rintro _ _ ⟨rfl,rfl⟩; refine Ab (L2:=[_,_,_,_,_,_,_,_,_,_]) rfl ?_
 refine Ek6 0 4 5 23 37 58 rfl<|Cr<|Em rfl rfl<|Aa (Ad rfl) rfl<|Aa (Ae rfl Dq) rfl<|Ah (An 3 (k:=3) rfl rfl rfl Ta69) rfl<|Aa (Ei (b:=((15 : Nat) : Int)) rfl rfl (N.and_u32 (by omega) (by omega))) rfl<|Am (v:=.int .u32 ((takeB dt (p + 10) 4 : Nat) : Int)) (congrArg (fun y : Nat => Value.int .u32 (y : Int)) (by exact Hi (n:=4) hB10.2 (by omega)))<|Aa (Bv rfl Tu69 Tu3 (N.i64n (by omega))) rfl<|Aa (Bh (b:=((4 : Nat) : Int)) rfl rfl (N.add64 (by omega))) rfl<|Ea rfl rfl<|Ek7 0 4 5 6 23 37 58 rfl ?_
 refine Cr<|Em rfl rfl<|Aa (Ad rfl) rfl<|Aa (Ae rfl Dq) rfl<|Ah (An 3 (k:=3) rfl rfl rfl Ta69) rfl<|Aa (Fj (b:=((4 : Nat) : Int)) rfl rfl (by omega) (N.shr_u32 (by omega) _)) rfl<|Am (v:=.int .u32 ((b / 2 ^ 5 / 2 ^ 5 / 2 ^ 4 : Nat) : Int)) (congrArg (fun y : Nat => Value.int .u32 (y : Int)) (by rw [Nat.shiftRight_eq_div_pow]))<|Aa (Ad rfl) rfl<|Aa (Ae rfl Dq) rfl ?_
 refine Ao (Aq 3 (k:=3) rfl rfl rfl rfl rfl Tz69) ?_; rintro _ _ ⟨rfl,rfl⟩; refine Ab (L2:=[_,_,_,_,_,_,_,_,_,_]) rfl ?_
 refine Ek7 0 4 5 6 23 37 58 rfl<|Cr<|Em rfl rfl<|Aa (Ad rfl) rfl<|Aa (Ae rfl Ed) rfl<|Ah (An 3 (k:=4) rfl rfl rfl Ta137) rfl<|Aa (Du (b:=((14 : Nat) : Int)) rfl rfl (N.sub_u64 (by omega) (by omega))) rfl<|Am (v:=.int .u64 ((nb - 5 - 5 - 4 : Nat) : Int)) (congrArg (fun y : Nat => Value.int .u64 (y : Int)) (by omega))<|Aa (Ad rfl) rfl<|Aa (Ae rfl Ed) rfl ?_
 refine Ao (Aq 3 (k:=4) rfl rfl rfl rfl rfl Tz137) ?_; rintro _ _ ⟨rfl,rfl⟩; refine Ab (L2:=[_,_,_,_,_,_,_,_,_,_]) rfl ?_
 refine Ek7 0 4 5 6 23 37 58 rfl<|Ap<|Cr<|Ea rfl rfl<|Ek8 0 4 5 6 7 23 37 58 rfl<|Ax<|Bx (fun mm ee ll => ∃ (i : Nat),∃ (cs : List Value),∃ (q : Nat),∃ (b : Nat),∃ (nb : Nat),∃ (ro : Int),∃ (g1 : Frag),∃ (g2 : Frag),∃ (g3 : Frag),keeps ee [0,4,5,6,7] = some [(0,.pointer (some ⟨fb,0,none⟩)),(4,.int .i64 ((takeB dt p 5 + 257 : Nat) : Int)),(5,.int .i64 ((takeB dt (p + 5) 5 + 1 : Nat) : Int)),(6,.int .i64 ((takeB dt (p + 10) 4 + 4 : Nat) : Int)),(7,.int .i64 ((i : Nat) : Int))] ∧ ll = [g1,g2,g3,⟨fb,0,[.iface src.t src.v,.pointer none,.int .i64 (ro),.int .u32 (((b) : Nat) : Int),.int .u64 (((nb) : Nat) : Int)]⟩,⟨fb,1045,[s0,s1,s2,s3,s4,s5,s6,s7,s8]⟩,⟨fb,1035,[.pointer (some ⟨ab,0,none⟩),.pointer (some ⟨cb,0,none⟩)]⟩,⟨ab,0,av⟩,⟨cb,0,cs⟩,⟨fb,5,cs1⟩,⟨fb,520,cs2⟩] ∧ (src.At (dt.drop q) g1 g2 g3) ∧ (BitsIn dt (p + 14 + 3 * i) q b nb) ∧ (nb < 8) ∧ (i ≤ takeB dt (p + 10) 4 + 4) ∧ (CbOk dt (p + 14) (takeB dt (p + 10) 4 + 4) i cs) ∧ mm = takeB dt (p + 10) 4 + 4 - i) (_) ⟨0,cs,q,_,_,_,_,_,_,rfl,rfl,hA,hB14,by omega,by omega,⟨hcsl,fun s _ h => by omega⟩,rfl⟩ ?_
 rintro m1 _ _ ⟨i,cs,q,b,nb,ro,g1,g2,g3,hk1,rfl,hA,hB,hnb,hi,hcb,hm1⟩
 refine Ba _ hk1<|Ap<|Cr<|Em rfl rfl<|Em rfl rfl<|Aa (Dk rfl rfl) rfl<|Ek6 0 4 5 6 7 94 rfl<|Be rfl (fun h94 => ?_) (fun h94 => ?_)
 ·have hi19 : i < 19 := by omega
  have hoi := (ord_idx i hi19).2
  refine Ar<|Ap<|Ax<|Ap<|Ax<|Bx (fun mm ee ll => ∃ (q : Nat),∃ (b : Nat),∃ (nb : Nat),∃ (ro : Int),∃ (g1 : Frag),∃ (g2 : Frag),∃ (g3 : Frag),keeps ee [0,4,5,6,7] = some [(0,.pointer (some ⟨fb,0,none⟩)),(4,.int .i64 ((takeB dt p 5 + 257 : Nat) : Int)),(5,.int .i64 ((takeB dt (p + 5) 5 + 1 : Nat) : Int)),(6,.int .i64 ((takeB dt (p + 10) 4 + 4 : Nat) : Int)),(7,.int .i64 ((i : Nat) : Int))] ∧ ll = [g1,g2,g3,⟨fb,0,[.iface src.t src.v,.pointer none,.int .i64 (ro),.int .u32 (((b) : Nat) : Int),.int .u64 (((nb) : Nat) : Int)]⟩,⟨fb,1045,[s0,s1,s2,s3,s4,s5,s6,s7,s8]⟩,⟨fb,1035,[.pointer (some ⟨ab,0,none⟩),.pointer (some ⟨cb,0,none⟩)]⟩,⟨ab,0,av⟩,⟨cb,0,cs⟩,⟨fb,5,cs1⟩,⟨fb,520,cs2⟩] ∧ (src.At (dt.drop q) g1 g2 g3) ∧ (BitsIn dt (p + 14 + 3 * i) q b nb) ∧ (nb < 8 ∨ nb < 3 + 8) ∧ mm = 3 - nb) (_) ⟨q,b,nb,ro,g1,g2,g3,rfl,rfl,hA,hB,.inl hnb,rfl⟩ ?_
  rintro m2 _ _ ⟨q,b,nb,ro,g1,g2,g3,hk2,rfl,hA,hB,hnl,hm2⟩
  refine Ba _ hk2<|Ap<|Cr<|Em rfl rfl<|Aa (Ad rfl) rfl<|Aa (Ae rfl Ed) rfl<|Ah (An 3 (k:=4) rfl rfl rfl Ta137) rfl<|Aa (Dk (b:=((3 : Nat) : Int)) rfl rfl) rfl<|Ek6 0 4 5 6 7 101 rfl<|Be rfl (fun h101 => ?_) (fun h101 => ?_)
  ·refine Ar<|Ax<|Cr<|Em rfl rfl ?_
   refine Ak (OpX.pick [0,0,0,0] (F:=[_,_,_,_,_,_]) rfl (Au rfl Tryz.call89 (Hv hs src _ _ _ fb _ dt _ _ _ _ hA hB (by omega)))) rfl ?_; rintro _ _ ⟨_,⟨k1,k2,k3,e4,b4,nb4,ro4,rfl,rfl,hE4⟩,rfl⟩; refine Ab (L2:=[_,_,_,_,_,_,_,_,_,_]) rfl ?_
   refine Bt [0,0,0,0,0,0,0,0,0,0] rfl<|Ab (L2:=[_,_,_,_,_,_,_,_,_,_]) rfl<|Ea rfl rfl<|Ek7 0 4 5 6 7 8 101 rfl<|Cr<|Em rfl rfl<|Ah (Dg rfl) rfl<|Ek8 0 4 5 6 7 8 101 105 rfl<|Dp rfl (fun h105 => ?_) (fun h105 => ?_)
   ·obtain ⟨hb5,hqe,lx,hAx⟩ := hE4.resolve_left fun h => h105 h.1
    have hle := hB.left_eq
    refine Cr<|Em rfl rfl<|Ea rfl rfl<|Ek9 0 2 4 5 6 7 8 101 105 rfl<|Av ?_
    refine ⟨_,rfl,_,[],Same.of_eq (List.append_nil _).symm,_,_,_,_,_,_,_,_,_,_,_,rfl,hasl,?_,rfl,.inr ⟨hb5,dynR_cl h14 h286 h30 (by rw [Gj] at hle; omega),⟨_,hAx⟩,cs1,cs2,Fl hraw1,Fl hraw2,rfl⟩⟩
    exact hcb.len
   obtain ⟨_,hA4,hB4,hn4⟩ := hE4.resolve_right fun h => h.1.2 h105
   subst hn4
   refine Ar ?_
   refine ⟨_,?_,_,_,_,_,_,_,_,rfl,rfl,hA4,hB4,.inr (by omega),rfl⟩; omega
  have hn3 : 3 ≤ nb := by omega
  have hb2 := hB.lt32 (by omega)
  have t3 := Eo dt (p + 14 + 3 * i) 3
  refine Bu rfl<|Ap<|Br [0,1,2,4,0,16,32,0,128,256,512,1024,2048,8,16383,24575] (.pure 0 8176 (.pure 1 8177 (.pure 2 8179 (.pure 4 16271 (.pure 5 16287 (.pure 7 8319 (.pure 8 8447 (.pure 9 8703 (.seg [(3,8183),(6,16319),(10,9215),(11,10239),(12,12287),(13,8191),(14,16383)] (.alt 15 .done .stop)))))))))) mixed (by decide +kernel)<|Dm rfl rfl rfl<|Ai rfl (Ad rfl) rfl<|Ai rfl (Ae rfl fa186_8) rfl<|Dm rfl rfl rfl<|Ai rfl (Bm rfl rfl (by omega) Tu189 Tz3) rfl<|Dm rfl rfl rfl<|Ai rfl (Ad rfl) rfl<|Ai rfl (Ae rfl Dq) rfl<|Dc (by decide) ?_
  refine Az rfl (An 5 (k:=1) rfl rfl rfl Tryz.isAgg179) rfl<|Az rfl (Bd rfl (hc.cell i hi19) Ta3) rfl<|Az rfl (An 3 (k:=3) rfl rfl rfl Ta69) rfl<|Bg rfl (Ei (b:=((7 : Nat) : Int)) rfl rfl (N.and_u32 (by omega) (by omega))) rfl<|Dw (v:=.int .u32 ((takeB dt (p + 14 + 3 * i) 3 : Nat) : Int)) (congrArg (fun y : Nat => Value.int .u32 (y : Int)) (by exact Hi (n:=3) hB (by omega)))<|Bg rfl (Bv rfl Tu69 Tu3 (N.i64n (by omega))) rfl<|Bg rfl (Ad rfl) rfl<|Bg rfl (Bm rfl rfl (by omega) Tu189 Tz3) rfl<|Db<|Da ?_
  refine Bz rfl (Aq 7 (k:=ordL.getD i 0 * 1) rfl rfl rfl rfl (by rw [Nat.blt_eq,hcb.len]; omega) Tz3) ?_; rintro _ _ ⟨rfl,rfl⟩; refine Bf (L2:=[_,_,_,_,_,_,_,_,_,_]) rfl ?_
  refine Dk6 0 4 5 6 7 101 rfl<|Cr<|Em rfl rfl<|Aa (Ad rfl) rfl<|Aa (Ae rfl Dq) rfl<|Ah (An 3 (k:=3) rfl rfl rfl Ta69) rfl<|Aa (Fj (b:=((3 : Nat) : Int)) rfl rfl (by omega) (N.shr_u32 (by omega) _)) rfl<|Am (v:=.int .u32 ((b / 2 ^ 3 : Nat) : Int)) (congrArg (fun y : Nat => Value.int .u32 (y : Int)) (by rw [Nat.shiftRight_eq_div_pow]))<|Aa (Ad rfl) rfl<|Aa (Ae rfl Dq) rfl ?_
  refine Ao (Aq 3 (k:=3) rfl rfl rfl rfl rfl Tz69) ?_; rintro _ _ ⟨rfl,rfl⟩; refine Ab (L2:=[_,_,_,_,_,_,_,_,_,_]) rfl ?_
  refine Ek6 0 4 5 6 7 101 rfl<|Al<|Em rfl rfl<|Aa (Ad rfl) rfl<|Aa (Ae rfl Ed) rfl<|Ah (An 3 (k:=4) rfl rfl rfl Ta137) rfl<|Aa (Du (b:=((3 : Nat) : Int)) rfl rfl (N.sub_u64 (by omega) (by omega))) rfl<|Aa (Ad rfl) rfl<|Aa (Ae rfl Ed) rfl ?_
  refine Ao (Aq 3 (k:=4) rfl rfl rfl rfl rfl Tz137) ?_; rintro _ _ ⟨rfl,rfl⟩; refine Ab (L2:=[_,_,_,_,_,_,_,_,_,_]) rfl ?_
  refine Ek6 0 4 5 6 7 101 rfl<|Al<|Em rfl rfl<|Aa (Bh (b:=((1 : Nat) : Int)) rfl rfl (N.add64 (by omega))) rfl<|Ea rfl rfl<|Ek6 0 4 5 6 7 101 rfl ?_
  refine ⟨_,?_,i + 1,_,_,_,_,_,_,_,_,rfl,rfl,hA,(by rw [show p + 14 + 3 * (i + 1) = p + 14 + 3 * i + 3 by omega]; exact (hB.take (n:=3) (by omega)).2),by omega,by omega,(hcb.next hi19 (by rw [clv,(ord_idx i hi19).1,if_pos (by omega)])),rfl⟩; omega
 have hiN : i = takeB dt (p + 10) 4 + 4 := by omega
 subst hiN
 have hcl3 : ¬ left dt (p + 14) < 3 * (takeB dt (p + 10) 4 + 4) := by have := hB.at8; have := hB.le; unfold left; omega
 refine Bu rfl<|Ap<|Cr<|Em rfl rfl<|Ea rfl rfl<|Ek7 0 4 5 6 7 9 94 rfl<|Ax<|Bx (fun mm ee ll => ∃ (i : Nat),∃ (cs : List Value),keeps ee [0,4,5,9] = some [(0,.pointer (some ⟨fb,0,none⟩)),(4,.int .i64 ((takeB dt p 5 + 257 : Nat) : Int)),(5,.int .i64 ((takeB dt (p + 5) 5 + 1 : Nat) : Int)),(9,.int .i64 ((i : Nat) : Int))] ∧ ll = [g1,g2,g3,⟨fb,0,[.iface src.t src.v,.pointer none,.int .i64 (ro),.int .u32 (((b) : Nat) : Int),.int .u64 (((nb) : Nat) : Int)]⟩,⟨fb,1045,[s0,s1,s2,s3,s4,s5,s6,s7,s8]⟩,⟨fb,1035,[.pointer (some ⟨ab,0,none⟩),.pointer (some ⟨cb,0,none⟩)]⟩,⟨ab,0,av⟩,⟨cb,0,cs⟩,⟨fb,5,cs1⟩,⟨fb,520,cs2⟩] ∧ (takeB dt (p + 10) 4 + 4 ≤ i) ∧ (i ≤ 19) ∧ (CbOk dt (p + 14) (takeB dt (p + 10) 4 + 4) i cs) ∧ mm = 19 - i) (_) ⟨takeB dt (p + 10) 4 + 4,cs,rfl,rfl,Nat.le_refl _,by omega,hcb,rfl⟩ ?_
 rintro m3 _ _ ⟨i,cs,hk3,rfl,hi,hi9,hcb,hm3⟩
 refine Ba _ hk3<|Ap<|Cr<|Em rfl rfl<|Aa (Dk (b:=((19 : Nat) : Int)) rfl rfl) rfl<|Ek5 0 4 5 9 138 rfl<|Be rfl (fun h138 => ?_) (fun h138 => ?_)
 ·have hi19 : i < 19 := by omega
  have hoi := (ord_idx i hi19).2
  refine Ar<|Ap<|Ax<|Br [0,1,2,4,0,16,32,8,255,383] (.pure 0 112 (.pure 1 113 (.pure 2 115 (.pure 4 143 (.pure 5 159 (.seg [(3,119),(6,191),(7,127),(8,255)] (.alt 9 .done .stop))))))) mixed (by decide +kernel)<|Dm rfl rfl rfl<|Ai rfl (Ad rfl) rfl<|Ai rfl (Ae rfl fa186_8) rfl<|Dm rfl rfl rfl<|Ai rfl (Bm rfl rfl (by omega) Tu189 Tz3) rfl<|Dc (by decide)<|Az rfl (An 5 (k:=1) rfl rfl rfl Tryz.isAgg179) rfl<|Az rfl (Bd rfl (hc.cell i hi19) Ta3) rfl ?_
  refine Bg rfl (Ad rfl) rfl<|Bg rfl (Bm rfl rfl (by omega) Tu189 Tz3) rfl<|Db<|Da ?_
  refine Bz rfl (Aq 7 (k:=ordL.getD i 0 * 1) rfl rfl rfl rfl (by rw [Nat.blt_eq,hcb.len]; omega) Tz3) ?_; rintro _ _ ⟨rfl,rfl⟩; refine Bf (L2:=[_,_,_,_,_,_,_,_,_,_]) rfl ?_
  refine Dk5 0 4 5 9 138 rfl<|Al<|Em rfl rfl<|Aa (Bh (b:=((1 : Nat) : Int)) rfl rfl (N.add64 (by omega))) rfl<|Ea rfl rfl<|Ek5 0 4 5 9 138 rfl ?_
  refine ⟨_,?_,i + 1,_,rfl,rfl,by omega,by omega,(hcb.next hi19 (by rw [clv,(ord_idx i hi19).1,if_neg (by omega)])),rfl⟩; omega
 have hi19 : i = 19 := by omega
 subst hi19
 refine Bu rfl<|Ap<|Ap ?_
 have hcs := hcb.full
 have hcl9 := hcb.len
 rw [hcs] at hcl9
 subst hcs
 refine Ge [8,7] rfl<|Bq (L2:=[_,_,_,_,_,_,_,_,_,_]) rfl<|Br [0,1,2,0,8,16,32,64,128,260,512] (.pure 0 504 (.pure 1 505 (.pure 2 507 (.pure 3 7 (.pure 4 15 (.pure 5 31 (.seg [(6,63),(7,127),(8,255)] (.alt 9 (.pure 10 1023 .done) .stop)))))))) mixed (by decide +kernel)<|Dm rfl rfl rfl<|Ai rfl (Ad rfl) rfl<|Ai rfl (Ae rfl fa186_5) rfl<|Dm rfl rfl rfl<|Ai rfl (Ad rfl) rfl<|Ai rfl (Ae rfl fa186_8) rfl<|Dc (by decide)<|Az rfl (An 7 (k:=1) rfl rfl rfl Tryz.isAgg179) rfl<|Bg rfl (Ad rfl) rfl ?_
 refine Bg rfl (Fo (l:=0) (h:=19) (k' := .i64) rfl rfl rfl (by omega) (by omega) Tu189 Tz3) rfl<|Dw (v:=.slice (some ⟨cb,0,none⟩) ((clL dt (p + 14) (takeB dt (p + 10) 4 + 4)).length) (19)) (Bo (by simp [part]) (clL_len _ _ _).symm rfl)<|Db<|Da ?_
 refine Df rfl (Au rfl Tryz.call98 (init_in fb 5 cb 0 19 _ [] (clL dt (p + 14) (takeB dt (p + 10) 4 + 4)) hraw1 (clL_le _ _ _) (by rw [clL_len]; decide) _)) rfl ?_; rintro _ _ ⟨LC,ok1,rfl,hC,rfl⟩; refine Bf (L2:=(_::_::_::_::_::_::_::_::_::_)) rfl ?_
 refine Ai rfl (Fr rfl) rfl<|Dk6 0 4 5 9 138 160 rfl<|Fa rfl (fun h160 => ?_) (fun h160 => ?_)
 ·obtain ⟨_,hno,hz,hzl,rfl⟩ := hC.resolve_left (fun h => by rw [h.1] at h160; cases h160)
  refine Cr<|Em rfl rfl<|Aa (Ad rfl) rfl<|Aa (Ae rfl Fe) rfl<|Ah (An 4 (k:=2) rfl rfl rfl Ta2) rfl<|Aa (Ej rfl Hj) rfl<|Am (v:=Er.val ea (.corrupt _)) (rfl)<|Ea rfl rfl<|Ek7 0 2 4 5 9 138 160 rfl<|Av ?_
  refine ⟨_,rfl,_,[],(Same.perm (Bj (A:=[_,_,_,_,_,_,_,_,_,_]) (F:=[]) (is:=[1,1,1,1,1,1,1,0,1,0]) rfl)).trans (Same.of_eq rfl),_,_,_,_,_,_,_,_,_,_,_,rfl,hasl,?_,rfl,.inr ⟨Et _,?_,⟨_,hA⟩,hz,cs2,hzl,Fl hraw2,rfl⟩⟩
  · exact hcl9
  · rw [dynR_eq h14 h286 h30 hcl3,if_pos hno]
 obtain ⟨_,hok,hC1⟩ := hC.resolve_right (fun h => by rw [h.1] at h160; cases h160)
 have hmin15 := min_15 (le_lenOf (clL_le dt (p + 14) (takeB dt (p + 10) 4 + 4)))
 have hdy := dynR_eq h14 h286 h30 hcl3
 rw [if_neg (fun h => h hok)] at hdy
 refine Ar<|Ap<|Ap<|Ge [1,1,1,1,1,1,1,0] rfl<|Bq (L2:=_::_::_::_::_::_::_::_::_::_) rfl<|Al<|Em rfl rfl<|Em rfl rfl<|Aa (Bh rfl rfl (N.add64 (by omega))) rfl<|Ea rfl rfl<|Ea rfl rfl<|Ek8 0 4 5 9 10 11 138 160 rfl ?_
 refine Ax<|Bx (fun mm ee ll => ∃ (acc : List Nat),∃ (rest : List Value),∃ (pp : Nat),∃ (i : Nat),∃ (q : Nat),∃ (b : Nat),∃ (nb : Nat),∃ (ro : Int),∃ (g1 : Frag),∃ (g2 : Frag),∃ (g3 : Frag),keeps ee [0,4,5,10,11] = some [(0,.pointer (some ⟨fb,0,none⟩)),(4,.int .i64 ((takeB dt p 5 + 257 : Nat) : Int)),(5,.int .i64 ((takeB dt (p + 5) 5 + 1 : Nat) : Int)),(10,.int .i64 ((i : Nat) : Int)),(11,.int .i64 ((takeB dt p 5 + 257 + (takeB dt (p + 5) 5 + 1) : Nat) : Int))] ∧ ll = [g1,g2,g3,⟨fb,0,[.iface src.t src.v,.pointer none,.int .i64 (ro),.int .u32 (((b) : Nat) : Int),.int .u64 (((nb) : Nat) : Int)]⟩,⟨fb,1045,[s0,s1,s2,s3,s4,s5,s6,s7,s8]⟩,⟨fb,1035,[.pointer (some ⟨ab,0,none⟩),.pointer (some ⟨cb,0,none⟩)]⟩,⟨ab,0,intsV acc ++ rest⟩,⟨cb,0,intsV (clL dt (p + 14) (takeB dt (p + 10) 4 + 4)) ++ []⟩,⟨fb,520,cs2⟩] ++ LC ∧ (src.At (dt.drop q) g1 g2 g3) ∧ (BitsIn dt pp q b nb) ∧ (nb < 8) ∧ (lensGo dt (clL dt (p + 14) (takeB dt (p + 10) 4 + 4)) (takeB dt p 5 + 257 + (takeB dt (p + 5) 5 + 1)) [] (p + 14 + 3 * (takeB dt (p + 10) 4 + 4)) = lensGo dt (clL dt (p + 14) (takeB dt (p + 10) 4 + 4)) (takeB dt p 5 + 257 + (takeB dt (p + 5) 5 + 1)) acc pp) ∧ (i = acc.length) ∧ (acc.length ≤ takeB dt p 5 + 257 + (takeB dt (p + 5) 5 + 1)) ∧ (acc.length + rest.length = 316) ∧ (∀ x ∈ acc,x ≤ 15) ∧ mm = takeB dt p 5 + 257 + (takeB dt (p + 5) 5 + 1) - acc.length) (_) ⟨[],av,p + 14 + 3 * (takeB dt (p + 10) 4 + 4),0,_,_,_,_,_,_,_,rfl,rfl,hA,hB,hnb,rfl,rfl,(by simp),(by simpa using hasl),(fun x h => by cases h),rfl⟩ ?_
 rintro m4 _ _ ⟨acc,rest,pp,i,q,b,nb,ro,g1,g2,g3,hk4,rfl,hA,hB,hnb,hgo,hia,hal,hrl,ha15,hm4⟩
 refine Ba _ hk4 ?_
 subst hia
 refine Ap<|Cr<|Em rfl rfl<|Em rfl rfl<|Aa (Dk rfl rfl) rfl<|Ek6 0 4 5 10 11 171 rfl<|Be rfl (fun h171 => ?_) (fun h171 => ?_)
 ·refine Ar<|Ax<|Cr<|Em rfl rfl<|Em rfl rfl<|Aa (Ad rfl) rfl<|Aa (Ae rfl fa186_5) rfl ?_
  refine Ak (Au rfl Tryz.call99 (huffSym_end hs src _ _ _ fb _ _ _ _ _ _ _ _ _ _ fb 5 dt _ _ _ _ hA hB (by omega) (clL dt (p + 14) (takeB dt (p + 10) 4 + 4)) (minL (clL dt (p + 14) (takeB dt (p + 10) 4 + 4))) hok (le_lenOf (clL_le _ _ _)) (Nat.le_refl _) hmin15 LC [⟨fb,1035,[.pointer (some ⟨ab,0,none⟩),.pointer (some ⟨cb,0,none⟩)]⟩,⟨ab,0,intsV acc ++ rest⟩,⟨cb,0,intsV (clL dt (p + 14) (takeB dt (p + 10) 4 + 4)) ++ []⟩,⟨fb,520,cs2⟩] hC1)) rfl ?_; rintro _ _ ⟨e,vi,y1,y2,y3,a1,b1,c1,ev2,rfl,hE,rfl⟩; refine Ab (L2:=(_::_::_::_::_::_::_::_::_::_)) rfl ?_
  refine Em rfl rfl<|Aa (Bb rfl rfl) rfl<|Aa (Bb rfl rfl) rfl<|Ea rfl rfl<|Ea rfl rfl<|Ek8 0 4 5 10 11 12 13 171 rfl<|Ap<|Cr<|Em rfl rfl<|Ah (Dg rfl) rfl<|Ek9 0 4 5 10 11 12 13 171 181 rfl<|Dp rfl (fun h181 => ?_) (fun h181 => ?_)
  ·obtain ⟨hb5,hsn,lx,hAx⟩ := hE.resolve_left fun h => h181 h.1
   refine Cr<|Em rfl rfl<|Ea rfl rfl<|Ek10 0 2 4 5 10 11 12 13 171 181 rfl<|Av ?_
   exact ⟨_,rfl,rh_bad2 hC1 (hb5) (hdy.trans (by rw [hgo,lensGo_none (by omega) hsn])) hAx (by rw [List.length_append,Dh]; exact hrl) hcl9 (Fl hraw2)⟩
  obtain ⟨_,v,rfl,hsy,hvl,q2,b2,nb2,ro2,hA2,hB2,hn31,hbd,rfl,rfl,rfl,hev⟩ := hE.resolve_right fun h => h.1.2 h181
  rw [hev]
  clear hev hE
  rw [clL_len] at hvl
  have hm5 := (symR_some hsy).1
  have hmin5 : minL (clL dt (p + 14) (takeB dt (p + 10) 4 + 4)) ≤ lenOf (clL dt (p + 14) (takeB dt (p + 10) 4 + 4)) v := by rw [Di (Es hm5.1)]; exact (Fp _).2.1 _ (List.getElem_mem _) (by have := hm5.1; rw [Di (Es hm5.1)] at this; omega)
  rw [Nat.max_eq_right hmin5] at hbd
  have hn8 : nb2 < 8 := by omega
  have hiN : acc.length < takeB dt p 5 + 257 + (takeB dt (p + 5) 5 + 1) := by omega
  refine Ar<|Ap<|Cr<|Em rfl rfl<|Aa (Dk (b:=((16 : Nat) : Int)) rfl rfl) rfl<|Ek10 0 4 5 10 11 12 13 171 181 184 rfl<|Be rfl (fun h184 => ?_) (fun h184 => ?_)
  ·have hv : v < 16 := by omega
   refine Cr<|Em rfl rfl<|Aa (Ad rfl) rfl<|Aa (Ae rfl fa186_7) rfl<|Ah (An 5 (k:=0) rfl rfl rfl Ta178) rfl<|Em rfl rfl<|Em rfl rfl<|Aa (Ad rfl) rfl<|Aa (Bm rfl rfl (by omega) Tu188 Tz3) rfl ?_
   refine Ao (Aq 6 (k:=acc.length * 1) rfl rfl rfl rfl (by rw [Nat.blt_eq,List.length_append,Dh]; omega) Tz3) ?_
   rintro _ _ ⟨rfl,rfl⟩
   refine Ab (L2:=[y1,y2,y3,⟨fb,0,[.iface src.t src.v,.pointer none,.int .i64 (ro2),.int .u32 (((b2) : Nat) : Int),.int .u64 (((nb2) : Nat) : Int)]⟩,⟨fb,1045,[s0,s1,s2,s3,s4,s5,s6,s7,s8]⟩,⟨fb,1035,[.pointer (some ⟨ab,0,none⟩),.pointer (some ⟨cb,0,none⟩)]⟩,⟨ab,0,intsV (acc ++ [v]) ++ rest.drop 1⟩,⟨cb,0,intsV (clL dt (p + 14) (takeB dt (p + 10) 4 + 4)) ++ []⟩,⟨fb,520,cs2⟩] ++ LC) (congrArg (fun q => ([y1,y2,y3,⟨fb,0,[.iface src.t src.v,.pointer none,.int .i64 (ro2),.int .u32 (((b2) : Nat) : Int),.int .u64 (((nb2) : Nat) : Int)]⟩,⟨fb,1045,[s0,s1,s2,s3,s4,s5,s6,s7,s8]⟩,⟨fb,1035,[.pointer (some ⟨ab,0,none⟩),.pointer (some ⟨cb,0,none⟩)]⟩,⟨ab,0,q⟩,⟨cb,0,intsV (clL dt (p + 14) (takeB dt (p + 10) 4 + 4)) ++ []⟩,⟨fb,520,cs2⟩] ++ LC : Frags)) (acc_set v (by omega)))<|Ek10 0 4 5 10 11 12 13 171 181 184 rfl<|Cr<|Em rfl rfl<|Aa (Bh (b:=((1 : Nat) : Int)) rfl rfl (N.add64 (by omega))) rfl<|Ea rfl rfl<|Ek10 0 4 5 10 11 12 13 171 181 184 rfl<|Bu rfl ?_
   refine ⟨_,?_,acc ++ [v],rest.drop 1,_,acc.length + 1,_,_,_,_,_,_,_,rfl,rfl,hA2,hB2,hn8,(hgo.trans (lensGo_lit hiN hsy hv)),(by rw [List.length_append,List.length_singleton]),(by rw [List.length_append,List.length_singleton]; omega),(by rw [List.length_append,List.length_singleton,List.length_drop]; omega),(fun x hx => (List.mem_append.1 hx).elim (ha15 x) fun h => by rw [List.mem_singleton.1 h]; omega),rfl⟩; rw [List.length_append,List.length_singleton]; omega
  have hv16 : 16 ≤ v := by omega
  refine Ar<|Cr<|Ea rfl rfl<|Ek11 0 4 5 10 11 12 13 14 171 181 184 rfl<|Cr<|Ea rfl rfl<|Ek12 0 4 5 10 11 12 13 14 15 171 181 184 rfl<|Cr<|Ea rfl rfl<|Ek13 0 4 5 10 11 12 13 14 15 16 171 181 184 rfl<|Eg (M:=fun ee ll => keeps ee [0,4,5,10,11,14,15,16] = some [(0,.pointer (some ⟨fb,0,none⟩)),(4,.int .i64 ((takeB dt p 5 + 257 : Nat) : Int)),(5,.int .i64 ((takeB dt (p + 5) 5 + 1 : Nat) : Int)),(10,.int .i64 ((acc.length : Nat) : Int)),(11,.int .i64 ((takeB dt p 5 + 257 + (takeB dt (p + 5) 5 + 1) : Nat) : Int)),(14,.int .i64 ((repB v : Nat) : Int)),(15,.int .u64 ((repN v : Nat) : Int)),(16,.int .i64 (((if v = 16 then acc.getLastD 0 else 0) : Nat) : Int))] ∧ ll = [y1,y2,y3,⟨fb,0,[.iface src.t src.v,.pointer none,.int .i64 (ro2),.int .u32 (((b2) : Nat) : Int),.int .u64 (((nb2) : Nat) : Int)]⟩,⟨fb,1045,[s0,s1,s2,s3,s4,s5,s6,s7,s8]⟩,⟨fb,1035,[.pointer (some ⟨ab,0,none⟩),.pointer (some ⟨cb,0,none⟩)]⟩,⟨ab,0,intsV acc ++ rest⟩,⟨cb,0,intsV (clL dt (p + 14) (takeB dt (p + 10) 4 + 4)) ++ []⟩,⟨fb,520,cs2⟩] ++ LC ∧ (¬ (v = 16 ∧ acc = []))) ?_ ?_
  ·refine Cr<|Em rfl rfl<|Ek14 0 4 5 10 11 12 13 14 15 16 171 181 184 195 rfl<|Ax<|Cr<|Aa (Dx (b:=((16 : Nat) : Int)) rfl rfl) rfl<|Ea rfl rfl<|Ek15 0 4 5 10 11 12 13 14 15 16 171 181 184 195 197 rfl<|Be rfl (fun h197 => ?_) (fun h197 => ?_)
   ·have hv : v = 16 := by omega
    refine Cr<|Ea rfl rfl ?_
    refine Am (v:=.int .i64 ((repB v : Nat) : Int)) (congrArg (fun y : Nat => Value.int .i64 (y : Int)) (by subst hv; rfl)) ?_
    refine Ek15 0 4 5 10 11 12 13 14 15 16 171 181 184 195 197 rfl<|Cr<|Ea rfl rfl ?_
    refine Am (v:=.int .u64 ((repN v : Nat) : Int)) (congrArg (fun y : Nat => Value.int .u64 (y : Int)) (by subst hv; rfl)) ?_
    refine Ek15 0 4 5 10 11 12 13 14 15 16 171 181 184 195 197 rfl<|Ap<|Cr<|Em rfl rfl<|Aa (Dx (b:=((0 : Nat) : Int)) rfl rfl) rfl<|Ek16 0 4 5 10 11 12 13 14 15 16 171 181 184 195 197 200 rfl<|Be rfl (fun h200 => ?_) (fun h200 => ?_)
    ·have hac : acc = [] := List.eq_nil_of_length_eq_zero (by omega)
     refine Cr<|Em rfl rfl<|Aa (Ad rfl) rfl<|Aa (Ae rfl Fe) rfl<|Ah (An 3 (k:=2) rfl rfl rfl Ta2) rfl<|Aa (Ej rfl Hj) rfl<|Am (v:=Er.val ea (.corrupt _)) (rfl)<|Ea rfl rfl<|Ek17 0 2 4 5 10 11 12 13 14 15 16 171 181 184 195 197 200 rfl<|Av ?_
     exact ⟨_,rfl,rh_bad2 hC1 (Et _) (hdy.trans (by rw [hgo,lensGo_empty (by omega) (by rw [hsy,hv]) hac])) hA2 (by rw [List.length_append,Dh]; exact hrl) hcl9 (Fl hraw2)⟩
    have hac : acc ≠ [] := fun h => by subst h; simp at h200
    refine Ar<|Al<|Em rfl rfl<|Aa (Ad rfl) rfl<|Aa (Ae rfl fa186_7) rfl<|Ah (An 5 (k:=0) rfl rfl rfl Ta178) rfl<|Em rfl rfl<|Aa (Du (b:=((1 : Nat) : Int)) rfl rfl (N.sub64 (by omega) (by omega))) rfl<|Aa (Ad rfl) rfl<|Aa (Bm rfl rfl (by omega) Tu188 Tz3) rfl<|Ah (An 6 (k:=(acc.length - 1) * 1) rfl rfl (last_get hac) Ta3) rfl<|Am (v:=.int .i64 (((if v = 16 then acc.getLastD 0 else 0) : Nat) : Int)) (congrArg (fun y : Nat => Value.int .i64 (y : Int)) (by rw [if_pos hv])) ?_
    refine Ea rfl rfl<|Ek16 0 4 5 10 11 12 13 14 15 16 171 181 184 195 197 200 rfl ?_
    exact ⟨rfl,rfl,by first | exact fun h => hac h.2 | (intro h; omega)⟩
   refine Cr<|Aa (Dx (b:=((17 : Nat) : Int)) rfl rfl) rfl<|Ea rfl rfl<|Ek16 0 4 5 10 11 12 13 14 15 16 171 181 184 195 197 215 rfl<|Be rfl (fun h215 => ?_) (fun h215 => ?_)
   ·have hv : v = 17 := by omega
    refine Cr<|Ea rfl rfl ?_
    refine Am (v:=.int .i64 ((repB v : Nat) : Int)) (congrArg (fun y : Nat => Value.int .i64 (y : Int)) (by subst hv; rfl)) ?_
    refine Ek16 0 4 5 10 11 12 13 14 15 16 171 181 184 195 197 215 rfl<|Cr<|Ea rfl rfl ?_
    refine Am (v:=.int .u64 ((repN v : Nat) : Int)) (congrArg (fun y : Nat => Value.int .u64 (y : Int)) (by subst hv; rfl)) ?_
    refine Ek16 0 4 5 10 11 12 13 14 15 16 171 181 184 195 197 215 rfl<|Al<|Ea rfl rfl<|Am (v:=.int .i64 (((if v = 16 then acc.getLastD 0 else 0) : Nat) : Int)) (congrArg (fun y : Nat => Value.int .i64 (y : Int)) (by rw [if_neg (by omega)]))<|Ek16 0 4 5 10 11 12 13 14 15 16 171 181 184 195 197 215 rfl ?_
    exact ⟨rfl,rfl,by first | exact fun h => hac h.2 | (intro h; omega)⟩
   refine Cr<|Aa (Dx (b:=((18 : Nat) : Int)) rfl rfl) rfl<|Ea rfl rfl<|Ek17 0 4 5 10 11 12 13 14 15 16 171 181 184 195 197 215 217 rfl<|Be rfl (fun h217 => ?_) (fun h217 => ?_)
   ·have hv : v = 18 := by omega
    refine Cr<|Ea rfl rfl ?_
    refine Am (v:=.int .i64 ((repB v : Nat) : Int)) (congrArg (fun y : Nat => Value.int .i64 (y : Int)) (by subst hv; rfl)) ?_
    refine Ek17 0 4 5 10 11 12 13 14 15 16 171 181 184 195 197 215 217 rfl<|Cr<|Ea rfl rfl ?_
    refine Am (v:=.int .u64 ((repN v : Nat) : Int)) (congrArg (fun y : Nat => Value.int .u64 (y : Int)) (by subst hv; rfl)) ?_
    refine Ek17 0 4 5 10 11 12 13 14 15 16 171 181 184 195 197 215 217 rfl<|Al<|Ea rfl rfl<|Am (v:=.int .i64 (((if v = 16 then acc.getLastD 0 else 0) : Nat) : Int)) (congrArg (fun y : Nat => Value.int .i64 (y : Int)) (by rw [if_neg (by omega)]))<|Ek17 0 4 5 10 11 12 13 14 15 16 171 181 184 195 197 215 217 rfl ?_
    exact ⟨rfl,rfl,by first | exact fun h => hac h.2 | (intro h; omega)⟩
   exfalso
   omega
  rintro _ _ ⟨hq59,rfl,hne⟩
  refine Ba _ hq59 ?_
  obtain ⟨hrn7,hrb11⟩ := rep_facts hv16
  refine Ap<|Ax<|Bx (fun mm ee ll => ∃ (q : Nat),∃ (b : Nat),∃ (nb : Nat),∃ (ro : Int),∃ (g1 : Frag),∃ (g2 : Frag),∃ (g3 : Frag),keeps ee [0,4,5,10,11,14,15,16] = some [(0,.pointer (some ⟨fb,0,none⟩)),(4,.int .i64 ((takeB dt p 5 + 257 : Nat) : Int)),(5,.int .i64 ((takeB dt (p + 5) 5 + 1 : Nat) : Int)),(10,.int .i64 ((acc.length : Nat) : Int)),(11,.int .i64 ((takeB dt p 5 + 257 + (takeB dt (p + 5) 5 + 1) : Nat) : Int)),(14,.int .i64 ((repB v : Nat) : Int)),(15,.int .u64 ((repN v : Nat) : Int)),(16,.int .i64 (((if v = 16 then acc.getLastD 0 else 0) : Nat) : Int))] ∧ ll = [g1,g2,g3,⟨fb,0,[.iface src.t src.v,.pointer none,.int .i64 (ro),.int .u32 (((b) : Nat) : Int),.int .u64 (((nb) : Nat) : Int)]⟩,⟨fb,1045,[s0,s1,s2,s3,s4,s5,s6,s7,s8]⟩,⟨fb,1035,[.pointer (some ⟨ab,0,none⟩),.pointer (some ⟨cb,0,none⟩)]⟩,⟨ab,0,intsV acc ++ rest⟩,⟨cb,0,intsV (clL dt (p + 14) (takeB dt (p + 10) 4 + 4)) ++ []⟩,⟨fb,520,cs2⟩] ++ LC ∧ (src.At (dt.drop q) g1 g2 g3) ∧ (BitsIn dt (pp + lenOf (clL dt (p + 14) (takeB dt (p + 10) 4 + 4)) v) q b nb) ∧ (nb < 8 ∨ nb < repN v + 8) ∧ mm = repN v - nb) (_) ⟨q2,b2,nb2,ro2,y1,y2,y3,rfl,rfl,hA2,hB2,.inl hn8,rfl⟩ ?_
  rintro m5 _ _ ⟨q,b,nb,ro,g1,g2,g3,hk5,rfl,hA,hB,hnl,hm5⟩
  refine Ba _ hk5<|Ap<|Cr<|Em rfl rfl<|Aa (Ad rfl) rfl<|Aa (Ae rfl Ed) rfl<|Ah (An 3 (k:=4) rfl rfl rfl Ta137) rfl<|Em rfl rfl<|Aa (Dk rfl rfl) rfl<|Ek9 0 4 5 10 11 14 15 16 224 rfl<|Be rfl (fun h224 => ?_) (fun h224 => ?_)
  ·refine Ar<|Ax<|Cr<|Em rfl rfl ?_
   refine Ak (OpX.pick [0,0,0,0] (F:=(_::_::_::_::_::_)) rfl (Au rfl Tryz.call89 (Hv hs src _ _ _ fb _ dt _ _ _ _ hA hB (by omega)))) rfl ?_; rintro _ _ ⟨_,⟨k1,k2,k3,e4,b4,nb4,ro4,rfl,rfl,hE4⟩,rfl⟩; refine Ab (L2:=(_::_::_::_::_::_::_::_::_::_)) rfl ?_
   refine Bt [0,0,0,0,0,0,0,0,0] rfl<|Ab (L2:=(_::_::_::_::_::_::_::_::_::_)) rfl<|Ea rfl rfl<|Ek10 0 4 5 10 11 14 15 16 17 224 rfl<|Cr<|Em rfl rfl<|Ah (Dg rfl) rfl<|Ek11 0 4 5 10 11 14 15 16 17 224 228 rfl<|Dp rfl (fun h228 => ?_) (fun h228 => ?_)
   ·obtain ⟨hb5,hqe,lx,hAx⟩ := hE4.resolve_left fun h => h228 h.1
    have hle := hB.left_eq
    refine Cr<|Em rfl rfl<|Ea rfl rfl<|Ek12 0 2 4 5 10 11 14 15 16 17 224 228 rfl<|Av ?_
    exact ⟨_,rfl,rh_bad2 hC1 (hb5) (hdy.trans (by rw [hgo,lensGo_short (by omega) hsy hv16 hne (by omega)])) hAx (by rw [List.length_append,Dh]; exact hrl) hcl9 (Fl hraw2)⟩
   obtain ⟨_,hA4,hB4,hn4⟩ := hE4.resolve_right fun h => h.1.2 h228
   subst hn4
   refine Ar ?_
   refine ⟨_,?_,_,_,_,_,_,_,_,rfl,rfl,hA4,hB4,.inr (by omega),rfl⟩; omega
  have hnn : repN v ≤ nb := by omega
  have hb3 := hB.lt32 (by omega)
  have hle := hB.left_eq
  have htk := hB.take hnn
  have htl := Eo dt (pp + lenOf (clL dt (p + 14) (takeB dt (p + 10) 4 + 4)) v) (repN v)
  have h2r : 2 ^ repN v ≤ 2 ^ 7 := Nat.pow_le_pow_right (by omega) hrn7
  have h2r0 : 0 < 2 ^ repN v := Nat.pow_pos (by omega)
  have hrs : ¬ left dt (pp + lenOf (clL dt (p + 14) (takeB dt (p + 10) 4 + 4)) v) < repN v := by omega
  refine Bu rfl<|Cr<|Em rfl rfl<|Em rfl rfl<|Aa (Ad rfl) rfl<|Aa (Ae rfl Dq) rfl<|Ah (An 3 (k:=3) rfl rfl rfl Ta69) rfl<|Em rfl rfl<|Aa (Fk (a:=((1 : Nat) : Int)) rfl rfl (by omega) (N.shl_u32 _ _)) rfl ?_
  refine Am (v:=.int .u32 ((2 ^ repN v : Nat) : Int)) (congrArg (fun y : Nat => Value.int .u32 (y : Int)) (by rw [Nat.one_shiftLeft]; exact Nat.mod_eq_of_lt (by omega))) ?_
  refine Aa (Du (b:=((1 : Nat) : Int)) rfl rfl (N.sub_u32 (by omega) (by omega))) rfl<|Aa (Ei rfl rfl (N.and_u32 (by omega) (by omega))) rfl<|Am (v:=.int .u32 ((takeB dt (pp + lenOf (clL dt (p + 14) (takeB dt (p + 10) 4 + 4)) v) (repN v) : Nat) : Int)) (congrArg (fun y : Nat => Value.int .u32 (y : Int)) (by exact Hi hB (by omega)))<|Aa (Bv rfl Tu69 Tu3 (N.i64n (by omega))) rfl<|Aa (Bh rfl rfl (N.add64 (by omega))) rfl<|Ea rfl rfl<|Ek9 0 4 5 10 11 14 15 16 224 rfl<|Cr<|Em rfl rfl<|Aa (Ad rfl) rfl<|Aa (Ae rfl Dq) rfl<|Ah (An 3 (k:=3) rfl rfl rfl Ta69) rfl ?_
  refine Em rfl rfl<|Aa (Fj rfl rfl (by omega) (N.shr_u32 (by omega) _)) rfl<|Am (v:=.int .u32 ((b / 2 ^ repN v : Nat) : Int)) (congrArg (fun y : Nat => Value.int .u32 (y : Int)) (by rw [Nat.shiftRight_eq_div_pow]))<|Aa (Ad rfl) rfl<|Aa (Ae rfl Dq) rfl ?_
  refine Ao (Aq 3 (k:=3) rfl rfl rfl rfl rfl Tz69) ?_; rintro _ _ ⟨rfl,rfl⟩; refine Ab (L2:=(_::_::_::_::_::_::_::_::_::_)) rfl ?_
  refine Ek9 0 4 5 10 11 14 15 16 224 rfl<|Cr<|Em rfl rfl<|Aa (Ad rfl) rfl<|Aa (Ae rfl Ed) rfl<|Ah (An 3 (k:=4) rfl rfl rfl Ta137) rfl<|Em rfl rfl<|Aa (Du rfl rfl (N.sub_u64 (by omega) (by omega))) rfl<|Aa (Ad rfl) rfl<|Aa (Ae rfl Ed) rfl ?_
  refine Ao (Aq 3 (k:=4) rfl rfl rfl rfl rfl Tz137) ?_; rintro _ _ ⟨rfl,rfl⟩; refine Ab (L2:=(_::_::_::_::_::_::_::_::_::_)) rfl ?_
  refine Ek9 0 4 5 10 11 14 15 16 224 rfl<|Ap<|Cr<|Em rfl rfl<|Em rfl rfl<|Aa (Bh rfl rfl (N.add64 (by omega))) rfl<|Em rfl rfl<|Aa (Gg rfl rfl) rfl<|Ek10 0 4 5 10 11 14 15 16 224 261 rfl<|Be rfl (fun h261 => ?_) (fun h261 => ?_)
  ·refine Cr<|Em rfl rfl<|Aa (Ad rfl) rfl<|Aa (Ae rfl Fe) rfl<|Ah (An 3 (k:=2) rfl rfl rfl Ta2) rfl<|Aa (Ej rfl Hj) rfl<|Am (v:=Er.val ea (.corrupt _)) (rfl)<|Ea rfl rfl<|Ek11 0 2 4 5 10 11 14 15 16 224 261 rfl<|Av ?_
   exact ⟨_,rfl,rh_bad2 hC1 (Et _) (hdy.trans (by rw [hgo,lensGo_over (by omega) hsy hv16 hne hrs (by omega)])) hA (by rw [List.length_append,Dh]; exact hrl) hcl9 (Fl hraw2)⟩
  have hro : ¬ takeB dt p 5 + 257 + (takeB dt (p + 5) 5 + 1) < acc.length + (repB v + takeB dt (pp + lenOf (clL dt (p + 14) (takeB dt (p + 10) 4 + 4)) v) (repN v)) := by omega
  refine Ar<|Cr<|Ea rfl rfl<|Ek11 0 4 5 10 11 14 15 16 18 224 261 rfl<|Ax<|Bx (fun mm ee ll => ∃ (j : Nat),∃ (i2 : Nat),keeps ee [0,4,5,10,11,14,16,18] = some [(0,.pointer (some ⟨fb,0,none⟩)),(4,.int .i64 ((takeB dt p 5 + 257 : Nat) : Int)),(5,.int .i64 ((takeB dt (p + 5) 5 + 1 : Nat) : Int)),(10,.int .i64 ((i2 : Nat) : Int)),(11,.int .i64 ((takeB dt p 5 + 257 + (takeB dt (p + 5) 5 + 1) : Nat) : Int)),(14,.int .i64 ((repB v + takeB dt (pp + lenOf (clL dt (p + 14) (takeB dt (p + 10) 4 + 4)) v) (repN v) : Nat) : Int)),(16,.int .i64 (((if v = 16 then acc.getLastD 0 else 0) : Nat) : Int)),(18,.int .i64 ((j : Nat) : Int))] ∧ ll = [g1,g2,g3,⟨fb,0,[.iface src.t src.v,.pointer none,.int .i64 (ro),.int .u32 ((((b / 2 ^ repN v)) : Nat) : Int),.int .u64 ((((nb - repN v)) : Nat) : Int)]⟩,⟨fb,1045,[s0,s1,s2,s3,s4,s5,s6,s7,s8]⟩,⟨fb,1035,[.pointer (some ⟨ab,0,none⟩),.pointer (some ⟨cb,0,none⟩)]⟩,⟨ab,0,intsV (acc ++ List.replicate j (if v = 16 then acc.getLastD 0 else 0)) ++ rest.drop j⟩,⟨cb,0,intsV (clL dt (p + 14) (takeB dt (p + 10) 4 + 4)) ++ []⟩,⟨fb,520,cs2⟩] ++ LC ∧ (i2 = acc.length + j) ∧ (j ≤ repB v + takeB dt (pp + lenOf (clL dt (p + 14) (takeB dt (p + 10) 4 + 4)) v) (repN v)) ∧ mm = (repB v + takeB dt (pp + lenOf (clL dt (p + 14) (takeB dt (p + 10) 4 + 4)) v) (repN v)) - j) (_) ⟨0,acc.length,rfl,(by simp),by omega,by omega,rfl⟩ ?_
  rintro m6 _ _ ⟨j,i2,hk6,rfl,hi2,hj,hm6⟩
  refine Ba _ hk6 ?_
  subst hi2
  refine Ap<|Cr<|Em rfl rfl<|Em rfl rfl<|Aa (Dk rfl rfl) rfl<|Ek9 0 4 5 10 11 14 16 18 269 rfl<|Be rfl (fun h269 => ?_) (fun h269 => ?_)
  ·have hjr : 0 < (rest.drop j).length := by rw [List.length_drop]; omega
   refine Ar<|Ap<|Ax<|Cr<|Em rfl rfl<|Aa (Ad rfl) rfl<|Aa (Ae rfl fa186_7) rfl<|Ah (An 5 (k:=0) rfl rfl rfl Ta178) rfl<|Em rfl rfl<|Em rfl rfl<|Aa (Ad rfl) rfl<|Aa (Bm rfl rfl (by omega) Tu188 Tz3) rfl ?_
   refine Ao (Aq 6 (k:=(acc.length + j) * 1) rfl rfl rfl rfl (by rw [Nat.blt_eq,List.length_append,Dh,List.length_append,List.length_replicate]; omega) Tz3) ?_
   rintro _ _ ⟨rfl,rfl⟩
   refine Ab (L2:=[g1,g2,g3,⟨fb,0,[.iface src.t src.v,.pointer none,.int .i64 (ro),.int .u32 ((((b / 2 ^ repN v)) : Nat) : Int),.int .u64 ((((nb - repN v)) : Nat) : Int)]⟩,⟨fb,1045,[s0,s1,s2,s3,s4,s5,s6,s7,s8]⟩,⟨fb,1035,[.pointer (some ⟨ab,0,none⟩),.pointer (some ⟨cb,0,none⟩)]⟩,⟨ab,0,intsV (acc ++ List.replicate (j + 1) (if v = 16 then acc.getLastD 0 else 0)) ++ rest.drop (j + 1)⟩,⟨cb,0,intsV (clL dt (p + 14) (takeB dt (p + 10) 4 + 4)) ++ []⟩,⟨fb,520,cs2⟩] ++ LC) (congrArg (fun q => ([g1,g2,g3,⟨fb,0,[.iface src.t src.v,.pointer none,.int .i64 (ro),.int .u32 ((((b / 2 ^ repN v)) : Nat) : Int),.int .u64 ((((nb - repN v)) : Nat) : Int)]⟩,⟨fb,1045,[s0,s1,s2,s3,s4,s5,s6,s7,s8]⟩,⟨fb,1035,[.pointer (some ⟨ab,0,none⟩),.pointer (some ⟨cb,0,none⟩)]⟩,⟨ab,0,q⟩,⟨cb,0,intsV (clL dt (p + 14) (takeB dt (p + 10) 4 + 4)) ++ []⟩,⟨fb,520,cs2⟩] ++ LC : Frags)) (rep_set hjr))<|Ek9 0 4 5 10 11 14 16 18 269 rfl<|Al<|Em rfl rfl<|Aa (Bh (b:=((1 : Nat) : Int)) rfl rfl (N.add64 (by omega))) rfl<|Ea rfl rfl<|Ek9 0 4 5 10 11 14 16 18 269 rfl<|Al<|Em rfl rfl<|Aa (Bh (b:=((1 : Nat) : Int)) rfl rfl (N.add64 (by omega))) rfl<|Ea rfl rfl<|Ek9 0 4 5 10 11 14 16 18 269 rfl ?_
   refine ⟨_,?_,j + 1,acc.length + j + 1,rfl,rfl,by omega,by omega,rfl⟩; omega
  have hj2 : j = repB v + takeB dt (pp + lenOf (clL dt (p + 14) (takeB dt (p + 10) 4 + 4)) v) (repN v) := by omega
  subst hj2
  have hgo2 := hgo.trans (lensGo_rep (by omega) hsy hv16 hne hrs hro)
  have hlen2 : (acc ++ List.replicate (repB v + takeB dt (pp + lenOf (clL dt (p + 14) (takeB dt (p + 10) 4 + 4)) v) (repN v)) (if v = 16 then acc.getLastD 0 else 0)).length = acc.length + (repB v + takeB dt (pp + lenOf (clL dt (p + 14) (takeB dt (p + 10) 4 + 4)) v) (repN v)) := by rw [List.length_append,List.length_replicate]
  have hi3 := hlen2.symm
  have hal2 : (acc ++ List.replicate (repB v + takeB dt (pp + lenOf (clL dt (p + 14) (takeB dt (p + 10) 4 + 4)) v) (repN v)) (if v = 16 then acc.getLastD 0 else 0)).length ≤ takeB dt p 5 + 257 + (takeB dt (p + 5) 5 + 1) := by rw [hlen2]; omega
  have hrl2 : (acc ++ List.replicate (repB v + takeB dt (pp + lenOf (clL dt (p + 14) (takeB dt (p + 10) 4 + 4)) v) (repN v)) (if v = 16 then acc.getLastD 0 else 0)).length + (rest.drop (repB v + takeB dt (pp + lenOf (clL dt (p + 14) (takeB dt (p + 10) 4 + 4)) v) (repN v))).length = 316 := by rw [hlen2,List.length_drop]; omega
  have ha2 : ∀ x ∈ acc ++ List.replicate (repB v + takeB dt (pp + lenOf (clL dt (p + 14) (takeB dt (p + 10) 4 + 4)) v) (repN v)) (if v = 16 then acc.getLastD 0 else 0),x ≤ 15 := fun x hx => by
    rcases List.mem_append.1 hx with h | h
    · exact ha15 x h
    · rw [(List.mem_replicate.1 h).2]; exact last_le ha15 v
  refine Bu rfl ?_
  refine ⟨_,?_,acc ++ List.replicate (repB v + takeB dt (pp + lenOf (clL dt (p + 14) (takeB dt (p + 10) 4 + 4)) v) (repN v)) (if v = 16 then acc.getLastD 0 else 0),rest.drop (repB v + takeB dt (pp + lenOf (clL dt (p + 14) (takeB dt (p + 10) 4 + 4)) v) (repN v)),_,acc.length + (repB v + takeB dt (pp + lenOf (clL dt (p + 14) (takeB dt (p + 10) 4 + 4)) v) (repN v)),_,_,_,_,_,_,_,rfl,rfl,hA,htk.2,by omega,hgo2,hi3,hal2,hrl2,ha2,rfl⟩; have hrb0 : 0 < repB v := (by unfold repB; split <;> omega); rw [hlen2]; omega
 have haN : acc.length = takeB dt p 5 + 257 + (takeB dt (p + 5) 5 + 1) := by omega
 rw [hgo,lensGo_done (by omega)] at hdy
 simp only at hdy
 have htl : (acc.take (takeB dt p 5 + 257)).length = takeB dt p 5 + 257 := by rw [List.length_take]; omega
 have hdl : (acc.drop (takeB dt p 5 + 257)).length = takeB dt (p + 5) 5 + 1 := by rw [List.length_drop]; omega
 refine Bu rfl<|Ap<|Ap ?_
 have hsp : intsV acc ++ rest = (intsV (acc.take (takeB dt p 5 + 257)) ++ []) ++ (intsV (acc.drop (takeB dt p 5 + 257)) ++ rest) := by
   rw [List.append_nil,← List.append_assoc,intsV,intsV,intsV,← List.map_append,List.take_append_drop]
 refine Ez (Same.splitAt (k:=takeB dt p 5 + 257) (o' := takeB dt p 5 + 257) 6 rfl rfl hsp (by rw [List.append_nil,Dh,htl]) (by omega)) ?_
 obtain ⟨c1,J,hraw3,hS⟩ := same_raw hC1 [⟨ab,0,intsV (acc.take (takeB dt p 5 + 257)) ++ []⟩,⟨ab,takeB dt p 5 + 257,intsV (acc.drop (takeB dt p 5 + 257)) ++ rest⟩,g1,g2,g3,⟨fb,0,[.iface src.t src.v,.pointer none,.int .i64 (ro),.int .u32 (((b) : Nat) : Int),.int .u64 (((nb) : Nat) : Int)]⟩,⟨fb,1045,[s0,s1,s2,s3,s4,s5,s6,s7,s8]⟩,⟨fb,1035,[.pointer (some ⟨ab,0,none⟩),.pointer (some ⟨cb,0,none⟩)]⟩,⟨cb,0,intsV (clL dt (p + 14) (takeB dt (p + 10) 4 + 4)) ++ []⟩,⟨fb,520,cs2⟩]
 refine Ez hS<|C.forget [0,0,0,0,0,0,0,0,0,0,0] (A:=[_,_,_,_,_,_,_,_,_,_,_]) rfl<|Bq (L2:=[⟨fb,5,c1⟩,⟨ab,0,intsV (acc.take (takeB dt p 5 + 257)) ++ []⟩,⟨ab,takeB dt p 5 + 257,intsV (acc.drop (takeB dt p 5 + 257)) ++ rest⟩,g1,g2,g3,⟨fb,0,[.iface src.t src.v,.pointer none,.int .i64 (ro),.int .u32 (((b) : Nat) : Int),.int .u64 (((nb) : Nat) : Int)]⟩,⟨fb,1045,[s0,s1,s2,s3,s4,s5,s6,s7,s8]⟩,⟨fb,1035,[.pointer (some ⟨ab,0,none⟩),.pointer (some ⟨cb,0,none⟩)]⟩,⟨cb,0,intsV (clL dt (p + 14) (takeB dt (p + 10) 4 + 4)) ++ []⟩,⟨fb,520,cs2⟩]) rfl<|Br [0,1,2,0,8,16,32,64,0,384,516,1024,3072,4096,12288,20480,4096,69632,135168,266240,528384,4096,4096,4096,12587008,19927040,33591296,67112960,134221824] (.pure 0 1016 (.pure 1 1017 (.pure 2 1019 (.pure 3 263 (.pure 4 271 (.pure 5 287 (.pure 8 255 (.seg [(6,319),(7,383),(9,511)] (.alt 10 (.pure 11 2047 (.pure 12 4095 (.pure 13 67051519 (.pure 14 67059711 (.pure 15 67076095 (.pure 16 31522815 (.pure 17 31588351 (.pure 18 31719423 (.pure 21 31457279 (.pure 22 12582911 (.pure 23 8388607 (.pure 24 16777215 (.seg [(19,31981567),(20,32505855),(25,33554431)] (.alt 26 (.pure 27 134217727 (.pure 28 268435455 .done)) .stop)))))))))))))) .stop))))))))) mixed (by decide +kernel)<|Dm rfl rfl rfl<|Ai rfl (Ad rfl) rfl<|Ai rfl (Ae rfl fa186_5) rfl<|Dm rfl rfl rfl<|Ai rfl (Ad rfl) rfl<|Ai rfl (Ae rfl fa186_7) rfl<|Dm rfl rfl rfl<|Dc (by decide) ?_
 refine Az rfl (An 8 (k:=0) rfl rfl rfl Ta178) rfl<|Bg rfl (Ad rfl) rfl<|Bg rfl (Fo (l:=0) rfl rfl rfl (by omega) (by omega) Tu188 Tz3) rfl ?_
 refine Dw (v:=.slice (some ⟨ab,0,none⟩) ((acc.take (takeB dt p 5 + 257)).length) (316)) (Bo (by simp [part]) (by rw [htl]; rfl) rfl) ?_
 refine Db<|Da ?_
 refine Df rfl (Au rfl Tryz.call98 (init_in fb 5 ab 0 316 _ [] (acc.take (takeB dt p 5 + 257)) hraw3 (fun x h => ha15 x (List.mem_of_mem_take h)) (by omega) _)) rfl ?_; rintro _ _ ⟨L1,ok2,rfl,hI1,rfl⟩; refine Bf (L2:=(_::_::_::_::_::_::_::_::_::_::_)) rfl ?_
 refine Ai rfl (Fr rfl) rfl<|Dm rfl rfl rfl<|D.forkB (fun g294 => ?_) (fun g294 => ?_)
 ·refine D.skip 294 true rfl rfl rfl rfl rfl<|D.skip 294 true rfl rfl rfl rfl rfl<|D.skip 294 true rfl rfl rfl rfl rfl<|D.skip 294 true rfl rfl rfl rfl rfl<|D.skip 294 true rfl rfl rfl rfl rfl<|D.skip 294 true rfl rfl rfl rfl rfl<|D.skip 294 true rfl rfl rfl rfl rfl<|D.skip 294 true rfl rfl rfl rfl rfl<|D.skip 294 true rfl rfl rfl rfl rfl<|D.skip 294 true rfl rfl rfl rfl rfl<|Dc (by decide)<|W.skip 294 true rfl rfl rfl rfl rfl ?_
  refine W.skip 294 true rfl rfl rfl rfl rfl<|W.skip 294 true rfl rfl rfl rfl rfl<|Db<|Da<|O.skip 294 true rfl rfl rfl rfl rfl<|D.skip 294 true rfl rfl rfl rfl rfl<|Ai rfl (By rfl rfl) rfl<|Dk7 0 4 5 10 11 171 310 rfl<|Ft rfl (rfl)<|Ap ?_
  obtain ⟨_,hno,hz,hzl,rfl⟩ := hI1.resolve_left (fun h => by rw [h.1] at g294; cases g294)
  refine Ez (Same.joinAt 0 0 rfl rfl (by rw [List.append_nil,Dh,htl,Nat.zero_add])) ?_
  refine Bq (L2:=[⟨ab,0,intsV acc ++ rest⟩,g1,g2,g3,⟨fb,0,[.iface src.t src.v,.pointer none,.int .i64 (ro),.int .u32 (((b) : Nat) : Int),.int .u64 (((nb) : Nat) : Int)]⟩,⟨fb,1045,[s0,s1,s2,s3,s4,s5,s6,s7,s8]⟩,⟨fb,1035,[.pointer (some ⟨ab,0,none⟩),.pointer (some ⟨cb,0,none⟩)]⟩,⟨cb,0,intsV (clL dt (p + 14) (takeB dt (p + 10) 4 + 4)) ++ []⟩,⟨fb,520,cs2⟩,⟨fb,5,hz⟩]) (by rw [hsp]; rfl) ?_
  refine Al<|Em rfl rfl<|Aa (Ad rfl) rfl<|Aa (Ae rfl Fe) rfl<|Ah (An 4 (k:=2) rfl rfl rfl Ta2) rfl<|Aa (Ej rfl Hj) rfl<|Am (v:=Er.val ea (.corrupt _)) (rfl)<|Ea rfl rfl<|Ek8 0 2 4 5 10 11 171 310 rfl<|Av ?_
  refine ⟨_,rfl,_,[],(Same.perm (Bj (A:=[_,_,_,_,_,_,_,_,_,_]) (F:=[]) (is:=[1,1,1,1,1,1,0,0,1,0]) rfl)).trans (Same.of_eq rfl),_,_,_,_,_,_,_,_,_,_,_,rfl,?_,?_,rfl,.inr ⟨Et _,?_,⟨_,hA⟩,hz,cs2,hzl,Fl hraw2,rfl⟩⟩
  · rw [List.length_append,Dh]; exact hrl
  · exact hcl9
  · rw [hdy,if_neg (fun h => hno h.1)]
 refine Hq 294 rfl rfl rfl (OpP.toK (S.move rfl)) rfl<|Hq 294 rfl rfl rfl (OpP.toK (Ad rfl)) rfl<|Hq 294 rfl rfl rfl (OpP.toK (Ae rfl fa186_6)) rfl<|Hq 294 rfl rfl rfl (OpP.toK (S.move rfl)) rfl<|Hq 294 rfl rfl rfl (OpP.toK (Ad rfl)) rfl<|Hq 294 rfl rfl rfl (OpP.toK (Ae rfl fa186_7)) rfl<|Hq 294 rfl rfl rfl (OpP.toK (S.move rfl)) rfl<|Hq 294 rfl rfl rfl (OpP.toK (S.move rfl)) rfl<|Hq 294 rfl rfl rfl (OpP.toK (S.move rfl)) rfl<|Hq 294 rfl rfl rfl (OpP.toK (Bh rfl rfl (N.add64 (by omega)))) rfl<|Dc (by decide)<|W.yes 294 rfl rfl rfl (An 7 (k:=0) rfl rfl rfl Ta178) rfl ?_
 refine W.yes 294 rfl rfl rfl (fun a w hf _ => (Ad rfl) a w hf) rfl<|W.yes 294 rfl rfl rfl (fun a w hf _ => (Fo rfl rfl rfl (by omega) (by omega) Tu188 Tz3) a w hf) rfl ?_
 refine Dw (v:=.slice (some ⟨ab,takeB dt p 5 + 257,none⟩) ((acc.drop (takeB dt p 5 + 257)).length) (316 - (takeB dt p 5 + 257))) (Bo (by rw [part,if_neg (by omega)]; omega) (by rw [hdl]; omega) rfl) ?_
 refine Db<|Da ?_
 refine O.yes 294 rfl rfl rfl (OpX.perm (Bj (is:=[9,1]) (A:=[_,_]) (F:=_::_::_::_::_::_::_::_::_) rfl) (Au rfl Tryz.call98 (init_in fb 520 ab (takeB dt p 5 + 257) (316 - (takeB dt p 5 + 257)) _ rest (acc.drop (takeB dt p 5 + 257)) hraw2 (fun x h => ha15 x (List.mem_of_mem_drop h)) (by omega) _))) rfl ?_; rintro _ _ ⟨L2,ok3,rfl,hI2,rfl⟩; refine Bf (L2:=(_::_::_::_::_::_::_::_::_::_)) rfl ?_
 refine Hq 294 rfl rfl rfl (OpP.toK (Fr rfl)) rfl<|Ai rfl (Bs rfl rfl) rfl<|Dk7 0 4 5 10 11 171 310 rfl<|Fa rfl (fun h310 => ?_) (fun h310 => ?_)
 ·obtain ⟨_,hno,hz,hzl,rfl⟩ := hI2.resolve_left (fun h => by rw [h.1] at h310; cases h310)
  obtain ⟨_,hok1,hH1⟩ := hI1.resolve_right (fun h => by rw [h.1] at g294; cases g294)
  refine Ap<|Ez (Same.joinAt 1 0 rfl rfl (by rw [List.append_nil,Dh,htl,Nat.zero_add])) ?_
  refine Bq (L2:=⟨ab,0,intsV acc ++ rest⟩::g1::g2::g3::⟨fb,0,[.iface src.t src.v,.pointer none,.int .i64 (ro),.int .u32 (((b) : Nat) : Int),.int .u64 (((nb) : Nat) : Int)]⟩::⟨fb,1045,[s0,s1,s2,s3,s4,s5,s6,s7,s8]⟩::⟨fb,1035,[.pointer (some ⟨ab,0,none⟩),.pointer (some ⟨cb,0,none⟩)]⟩::⟨cb,0,intsV (clL dt (p + 14) (takeB dt (p + 10) 4 + 4)) ++ []⟩::(L1 ++ [⟨fb,520,hz⟩])) (by rw [hsp]; rfl) ?_
  refine Al<|Em rfl rfl<|Aa (Ad rfl) rfl<|Aa (Ae rfl Fe) rfl<|Ah (An 4 (k:=2) rfl rfl rfl Ta2) rfl<|Aa (Ej rfl Hj) rfl<|Am (v:=Er.val ea (.corrupt _)) (rfl)<|Ea rfl rfl<|Ek8 0 2 4 5 10 11 171 310 rfl<|Av ?_
  exact ⟨_,rfl,rh_bad3 hH1 (Et _) (by rw [hdy,if_neg (fun h => hno h.2)]) hA (by rw [List.length_append,Dh]; exact hrl) hcl9 hzl⟩
 obtain ⟨_,hok2,hH2⟩ := hI2.resolve_right (fun h => by rw [h.1] at h310; cases h310)
 obtain ⟨_,hok1,hH1⟩ := hI1.resolve_right (fun h => by rw [h.1] at g294; cases g294)
 refine Ar<|Ap<|Ap ?_
 obtain ⟨f,g,nt,nk,lv,T1,hTab,hfb,hgb,hnk0,hnk64,hke,hz0,rfl,hT⟩ := hH1
 refine Ez (Same.joinAt 1 0 rfl rfl (by rw [List.append_nil,Dh,htl,Nat.zero_add])) ?_
 refine Bq (L2:=⟨ab,0,intsV acc ++ rest⟩::g1::g2::g3::⟨fb,0,[.iface src.t src.v,.pointer none,.int .i64 (ro),.int .u32 (((b) : Nat) : Int),.int .u64 (((nb) : Nat) : Int)]⟩::⟨fb,1045,[s0,s1,s2,s3,s4,s5,s6,s7,s8]⟩::⟨fb,1035,[.pointer (some ⟨ab,0,none⟩),.pointer (some ⟨cb,0,none⟩)]⟩::⟨cb,0,intsV (clL dt (p + 14) (takeB dt (p + 10) 4 + 4)) ++ []⟩::⟨fb,5,[.int .i64 ((minL (acc.take (takeB dt p 5 + 257)) : Nat) : Int)]⟩::⟨fb,5 + 1,cellsU 512 f⟩::⟨fb,5 + 513,[lv,.int .u32 ((nk - 1 : Nat) : Int)]⟩::(T1 ++ L2)) (by rw [hsp]; rfl) ?_
 refine Br [0,1,2,4,8,0,32,64,128,256,512,1024,2064] (.pure 0 4064 (.pure 1 4065 (.pure 2 4067 (.pure 3 4071 (.pure 5 31 (.pure 6 63 (.pure 7 127 (.seg [(4,4079),(8,255),(9,511),(10,1023),(11,2047),(12,4095)] .done)))))))) mixed (by decide +kernel)<|Dm rfl rfl rfl<|Ai rfl (Ad rfl) rfl<|Ai rfl (Ae rfl fa186_5) rfl<|Ai rfl (Ae rfl fa177_0) rfl<|Dm rfl rfl rfl<|Ai rfl (Ad rfl) rfl<|Ai rfl (Ae rfl fa186_7) rfl<|Dc (by decide)<|Az rfl (An 8 (k:=0) rfl rfl rfl Ta3) rfl<|Az rfl (An 6 (k:=0) rfl rfl rfl Ta178) rfl<|Bg rfl (Ad rfl) rfl ?_
 refine Bg rfl (Bm (i:=256) rfl rfl (by omega) Tu188 Tz3) rfl<|Az rfl (An 0 (k:=256 * 1) rfl rfl (get_256 (by omega)) Ta3) rfl<|Bg rfl (Dk rfl rfl) rfl<|Db<|Dk8 0 4 5 10 11 171 310 328 rfl<|Be rfl (fun h328 => ?_) (fun h328 => ?_)
 ·refine Al<|Em rfl rfl<|Em rfl rfl<|Aa (Ad rfl) rfl<|Aa (Ae rfl fa186_7) rfl<|Ah (An 6 (k:=0) rfl rfl rfl Ta178) rfl<|Aa (Ad rfl) rfl<|Aa (Bm (i:=256) rfl rfl (by omega) Tu188 Tz3) rfl<|Ah (An 0 (k:=256 * 1) rfl rfl (get_256 (by omega)) Ta3) rfl<|Aa (Ad rfl) rfl<|Aa (Ae rfl fa186_5) rfl<|Aa (Ae rfl fa177_0) rfl ?_
  refine Ao (Aq 8 (k:=0) rfl rfl rfl rfl rfl Tz3) ?_; rintro _ _ ⟨rfl,rfl⟩; refine Ab (L2:=(_::_::_::_::_::_::_::_::_::_::_::_)) rfl ?_
  refine Ek8 0 4 5 10 11 171 310 328 rfl<|Cr<|Aa (Bc (v:=Er.val ea .none) rfl) rfl<|Ek9 0 2 4 5 10 11 171 310 328 rfl<|Av ?_
  have h256 : 256 < acc.length := by omega
  have he : lenOf (acc.take (takeB dt p 5 + 257)) 256 = acc.getD 256 0 := by rw [lenOf,List.getD_eq_getElem?_getD,List.getElem?_take,if_pos (by omega),← List.getD_eq_getElem?_getD]
  have hl15 : ∀ s,lenOf (acc.take (takeB dt p 5 + 257)) s ≤ 15 := le_lenOf fun x h => ha15 x (List.mem_of_mem_take h)
  have hd15 : ∀ s,lenOf (acc.drop (takeB dt p 5 + 257)) s ≤ 15 := le_lenOf fun x h => ha15 x (List.mem_of_mem_drop h)
  rw [if_pos ⟨hok1,hok2⟩,← he] at hdy
  have hm15 := min_15 hl15
  have hm256 := hl15 256
  have hmx : acc.getD 256 0 = max (minL (acc.take (takeB dt p 5 + 257))) (lenOf (acc.take (takeB dt p 5 + 257)) 256) := by rw [he]; omega
  have hH3 : HufT (acc.take (takeB dt p 5 + 257)) (max (minL (acc.take (takeB dt p 5 + 257))) (lenOf (acc.take (takeB dt p 5 + 257)) 256)) fb 5 ([⟨fb,5,[.int .i64 ((acc.getD 256 0 : Nat) : Int)]⟩,⟨fb,5 + 1,cellsU 512 f⟩,⟨fb,5 + 513,[lv,.int .u32 ((nk - 1 : Nat) : Int)]⟩] ++ T1) := by
    rw [← hmx]; exact ⟨f,g,nt,nk,lv,T1,hTab,hfb,hgb,hnk0,hnk64,hke,fun h => by omega,rfl,hT⟩
  refine ⟨_,rfl,_,[],(Same.perm (Bj (A:=[_,_,_,_,_,_,_,_]) (F:=_) (is:=[1,1,1,1,1,1,0,0]) rfl)).trans (Same.of_eq (List.append_nil _).symm),_,_,_,_,_,_,_,_,_,_,_,rfl,?_,hcl9,rfl,.inl ⟨rfl,_,pp,q,b,nb,ro,_,L2,hdy,hA,hB,hnb,⟨hH3,hok1,hl15,Nat.le_max_left _ _,(by show max _ _ ≤ 15; omega),?_,by simp only; omega⟩,.inr ⟨fb,520,rfl,hH2,hok2,hd15,by simp only; omega⟩,rfl,rfl,rfl,rfl,rfl⟩⟩
  · rw [List.length_append,Dh]; exact hrl
  · simp only
    rcases Nat.eq_zero_or_pos (lenOf (acc.take (takeB dt p 5 + 257)) 256) with h0 | h0
    · exact .inl h0
    · right
      have h6 : minL (acc.take (takeB dt p 5 + 257)) ≤ lenOf (acc.take (takeB dt p 5 + 257)) 256 := by have hlt0 := Es h0; rw [Di hlt0] at h0 ⊢; exact (Fp _).2.1 _ (List.getElem_mem _) (by omega)
      omega
 refine Ar<|Cr<|Aa (Bc (v:=Er.val ea .none) rfl) rfl<|Ek9 0 2 4 5 10 11 171 310 328 rfl<|Av ?_
 have h256 : 256 < acc.length := by omega
 have he : lenOf (acc.take (takeB dt p 5 + 257)) 256 = acc.getD 256 0 := by rw [lenOf,List.getD_eq_getElem?_getD,List.getElem?_take,if_pos (by omega),← List.getD_eq_getElem?_getD]
 have hl15 : ∀ s,lenOf (acc.take (takeB dt p 5 + 257)) s ≤ 15 := le_lenOf fun x h => ha15 x (List.mem_of_mem_take h)
 have hd15 : ∀ s,lenOf (acc.drop (takeB dt p 5 + 257)) s ≤ 15 := le_lenOf fun x h => ha15 x (List.mem_of_mem_drop h)
 rw [if_pos ⟨hok1,hok2⟩,← he] at hdy
 have hm15 := min_15 hl15
 have hm256 := hl15 256
 have hmx : minL (acc.take (takeB dt p 5 + 257)) = max (minL (acc.take (takeB dt p 5 + 257))) (lenOf (acc.take (takeB dt p 5 + 257)) 256) := by rw [he]; omega
 have hH3 : HufT (acc.take (takeB dt p 5 + 257)) (max (minL (acc.take (takeB dt p 5 + 257))) (lenOf (acc.take (takeB dt p 5 + 257)) 256)) fb 5 ([⟨fb,5,[.int .i64 ((minL (acc.take (takeB dt p 5 + 257)) : Nat) : Int)]⟩,⟨fb,5 + 1,cellsU 512 f⟩,⟨fb,5 + 513,[lv,.int .u32 ((nk - 1 : Nat) : Int)]⟩] ++ T1) := by
   rw [← hmx]; exact ⟨f,g,nt,nk,lv,T1,hTab,hfb,hgb,hnk0,hnk64,hke,hz0,rfl,hT⟩
 refine ⟨_,rfl,_,[],(Same.perm (Bj (A:=[_,_,_,_,_,_,_,_]) (F:=_) (is:=[1,1,1,1,1,1,0,0]) rfl)).trans (Same.of_eq (List.append_nil _).symm),_,_,_,_,_,_,_,_,_,_,_,rfl,?_,hcl9,rfl,.inl ⟨rfl,_,pp,q,b,nb,ro,_,L2,hdy,hA,hB,hnb,⟨hH3,hok1,hl15,Nat.le_max_left _ _,(by show max _ _ ≤ 15; omega),?_,by simp only; omega⟩,.inr ⟨fb,520,rfl,hH2,hok2,hd15,by simp only; omega⟩,rfl,rfl,rfl,rfl,rfl⟩⟩
 · rw [List.length_append,Dh]; exact hrl
 · simp only
   rcases Nat.eq_zero_or_pos (lenOf (acc.take (takeB dt p 5 + 257)) 256) with h0 | h0
   · exact .inl h0
   · right
     have h6 : minL (acc.take (takeB dt p 5 + 257)) ≤ lenOf (acc.take (takeB dt p 5 + 257)) 256 := by have hlt0 := Es h0; rw [Di hlt0] at h0 ⊢; exact (Fp _).2.1 _ (List.getElem_mem _) (by omega)
     omega
theorem copyN_pre (out : List UInt8) (d : Nat) : ∀ n,∃ s,copyN out d n = out ++ s
  | 0 => ⟨[],(List.append_nil _).symm⟩
  | n + 1 => by
    obtain ⟨s,hs⟩ := copyN_pre out d n
    exact ⟨s ++ [(copyN out d n).getD ((copyN out d n).length - d) 0],by rw [copyN,hs,List.append_assoc]⟩
theorem run_pre_aux (D : List UInt8) : ∀ k ph out p,8 * D.length - p < k → ∃ s,(run D ph out p).1 = out ++ s := by
  intro k
  induction k with
  | zero => exact fun ph out p hk => absurd hk (Nat.not_lt_zero _)
  | succ k ih =>
    intro ph out p hk
    have nl : ∀ s,∃ s',out ++ s = out ++ s' := fun s => ⟨s,rfl⟩
    have n0 : ∃ s',out = out ++ s' := ⟨[],(List.append_nil _).symm⟩
    have st : ∀ ph s p2,p < p2 ∧ p2 ≤ 8 * D.length → ∃ s',(run D ph (out ++ s) p2).1 = out ++ s' := fun ph s p2 h => by
      obtain ⟨s',hs⟩ := ih ph (out ++ s) p2 (by omega)
      exact ⟨s ++ s',by rw [hs,List.append_assoc]⟩
    have s0 : ∀ ph p2,p < p2 ∧ p2 ≤ 8 * D.length → ∃ s',(run D ph out p2).1 = out ++ s' := fun ph p2 h => ih ph out p2 (by omega)
    have cp : ∀ ph d n p2,p < p2 ∧ p2 ≤ 8 * D.length → ∃ s',(run D ph (copyN out d n) p2).1 = out ++ s' := fun ph d n p2 h => by
      obtain ⟨s,hs⟩ := copyN_pre out d n
      rw [hs]; exact st _ _ _ h
    rw [run.eq_def]
    repeat (first
      | exact n0
      | exact nl _
      | (rename_i h; exact st _ _ _ h)
      | (rename_i h; exact s0 _ _ h)
      | (rename_i h; exact cp _ _ _ _ h)
      | split)
theorem run_pre (D : List UInt8) (ph : Ph) (out : List UInt8) (p : Nat) : ∃ s,(run D ph out p).1 = out ++ s := run_pre_aux D _ ph out p (Nat.le_refl _)
theorem stored_pre (D : List UInt8) (last : Bool) (n : Nat) (out : List UInt8) (q : Nat) : ∃ s,(stored D last n out q).1 = out ++ s := by
  unfold stored
  split
  · exact ⟨_,rfl⟩
  · split
    · exact ⟨_,rfl⟩
    · obtain ⟨s,hs⟩ := run_pre D .next (out ++ (D.drop q).take n) (8 * (q + n))
      exact ⟨(D.drop q).take n ++ s,by rw [hs,List.append_assoc]⟩
theorem TR.drop {hb n : Nat} {h pend : List UInt8} {a : Option Addr} {c : Nat} (t : TR hb h pend (.slice a pend.length c)) (hn : n ≤ pend.length) {a2 : Option Addr} {c2 : Nat} (ha : ∀ off,a = some ⟨hb,off,none⟩ → n < pend.length → pend.length ≤ c → a2 = some ⟨hb,off + n,none⟩ ∧ pend.length - n ≤ c2) :
    TR hb h (pend.drop n) (.slice a2 (pend.length - n) c2) := by
  obtain ⟨a',c',e,h1,h2⟩ := t
  cases e
  refine ⟨a2,c2,by rw [List.length_drop],by rw [List.length_drop]; omega,?_⟩
  rcases Nat.lt_or_ge n pend.length with hlt | hge
  · right
    rcases h2 with rfl | ⟨off,e2,h3,h5⟩
    · simp at hlt
    · refine ⟨off + n,(ha off e2 hlt h5).1,?_,by rw [List.length_drop]; exact (ha off e2 hlt h5).2⟩
      have h4 : ((h.drop off).take pend.length).drop n = pend.drop n := by rw [h3]
      rw [List.drop_take] at h4
      rw [List.length_drop,← List.drop_drop]
      exact h4
  · exact .inl (List.drop_eq_nil_of_le hge)
theorem WinSt.give {fb hb gv n : Nat} {out pend : List UInt8} {trv trv2 : Value} {h : List UInt8} {wr rd : Nat} {full : Bool} {A B : Frag} (W : WinSt fb hb gv out pend trv h wr rd full A B) (hn : n ≤ pend.length) (ht : TR hb h (pend.drop n) trv2) :
    WinSt fb hb (gv + n) out (pend.drop n) trv2 h wr rd full A B := by
  refine ⟨W.hist,W.rdLe,W.wrLt,?_,?_,ht,W.isA,W.isB⟩
  · have := W.sum
    rw [List.length_drop]; omega
  · have := W.pendIs
    rw [List.length_drop,← List.drop_drop,← List.drop_take,← this]
def RawTL (fb : Nat) (TL : Frags) : Prop :=
  ∃ ab cb ws av cs c1 c2,ws.length = 4 ∧ av.length = 316 ∧ cs.length = 19 ∧ RawH c1 ∧ RawH c2 ∧ TL = [⟨fb,1041,ws⟩,⟨fb,1035,[.pointer (some ⟨ab,0,none⟩),.pointer (some ⟨cb,0,none⟩)]⟩,⟨ab,0,av⟩,⟨cb,0,cs⟩,⟨fb,5,c1⟩,⟨fb,520,c2⟩]
def JunkTL (fb : Nat) (TL : Frags) : Prop :=
  ∃ ab cb ws av cs c1 c2,ws.length = 4 ∧ av.length = 316 ∧ cs.length = 19 ∧ c1.length = 515 ∧ c2.length = 515 ∧ TL = [⟨fb,1041,ws⟩,⟨fb,1035,[.pointer (some ⟨ab,0,none⟩),.pointer (some ⟨cb,0,none⟩)]⟩,⟨ab,0,av⟩,⟨cb,0,cs⟩,⟨fb,5,c1⟩,⟨fb,520,c2⟩]
def SymTL (fb : Nat) (t : Tabs) (hl hd : Value) (TL : Frags) : Prop :=
  ∃ ab cb ws av cs lb lo hp HL HD RT,ws.length = 4 ∧ av.length = 316 ∧ cs.length = 19 ∧ hl = .pointer (some ⟨lb,lo,none⟩) ∧ hd = .pointer hp ∧ LitT t lb lo HL ∧ DistT t hp HD ∧
    TL = ⟨fb,1041,ws⟩::⟨fb,1035,[.pointer (some ⟨ab,0,none⟩),.pointer (some ⟨cb,0,none⟩)]⟩::⟨ab,0,av⟩::⟨cb,0,cs⟩::(RT ++ (HL ++ HD)) ∧
    ∃ c1 c2 J,RawH c1 ∧ RawH c2 ∧ ∀ G,Same (G ++ (RT ++ (HL ++ HD))) ((G ++ [⟨fb,5,c1⟩,⟨fb,520,c2⟩]) ++ J)
theorem RawTL.junk {fb : Nat} {TL : Frags} (h : RawTL fb TL) : JunkTL fb TL := by
  obtain ⟨ab,cb,ws,av,cs,c1,c2,h1,h2,h3,h4,h5,h6⟩ := h
  exact ⟨ab,cb,ws,av,cs,c1,c2,h1,h2,h3,Fl h4,Fl h5,h6⟩
theorem SymTL.raw {fb : Nat} {t : Tabs} {hl hd : Value} {TL : Frags} (h : SymTL fb t hl hd TL) (G : Frags) : ∃ TL2 J,RawTL fb TL2 ∧ Same (G ++ TL) ((G ++ TL2) ++ J) := by
  obtain ⟨ab,cb,ws,av,cs,lb,lo,hp,HL,HD,RT,h1,h2,h3,h4,h5,h6,h7,rfl,c1,c2,J,h8,h9,hS⟩ := h
  refine ⟨[_,_,_,_,_,_],J,⟨ab,cb,ws,av,cs,c1,c2,h1,h2,h3,h8,h9,rfl⟩,?_⟩
  have := hS (G ++ [⟨fb,1041,ws⟩,⟨fb,1035,[.pointer (some ⟨ab,0,none⟩),.pointer (some ⟨cb,0,none⟩)]⟩,⟨ab,0,av⟩,⟨cb,0,cs⟩])
  simpa only [List.append_assoc,List.cons_append,List.nil_append] using this
theorem symTL_own {fb ab cb : Nat} {t : Tabs} {HL HD : Frags} {ws av cs : List Value} (h1 : ws.length = 4) (h2 : av.length = 316) (h3 : cs.length = 19) (hL : LitT t fb 5 HL) (hD : DistT t (some ⟨fb,520,none⟩) HD) :
    SymTL fb t (.pointer (some ⟨fb,5,none⟩)) (.pointer (some ⟨fb,520,none⟩)) (⟨fb,1041,ws⟩::⟨fb,1035,[.pointer (some ⟨ab,0,none⟩),.pointer (some ⟨cb,0,none⟩)]⟩::⟨ab,0,av⟩::⟨cb,0,cs⟩::(HL ++ HD)) := by
  obtain ⟨c1,J1,r1,s1⟩ := huf_raw hL.huf
  obtain ⟨c2,J2,r2,s2⟩ : ∃ c2 J2,RawH c2 ∧ ∀ F,Same (HD ++ F) (⟨fb,520,c2⟩::(J2 ++ F)) := by
    rcases hD with ⟨h,_⟩ | ⟨db,dO,e,hh,_⟩
    · cases h
    · cases e; exact huf_raw hh
  refine ⟨ab,cb,ws,av,cs,fb,5,_,HL,HD,[],h1,h2,h3,rfl,rfl,hL,hD,rfl,c1,c2,J1 ++ J2,r1,r2,fun G => ?_⟩
  refine (Same.appendL G (s1 HD)).trans ?_
  have p1 : (G ++ (⟨fb,5,c1⟩::(J1 ++ HD))).Perm (HD ++ (G ++ (⟨fb,5,c1⟩::J1))) := by
    rw [show G ++ (⟨fb,5,c1⟩::(J1 ++ HD)) = (G ++ (⟨fb,5,c1⟩::J1)) ++ HD by simp]
    exact List.perm_append_comm
  refine (Same.perm p1).trans ((s2 _).trans (Same.perm ?_))
  have p2 : (⟨fb,520,c2⟩::(J2 ++ (G ++ (⟨fb,5,c1⟩::J1)))).Perm (⟨fb,520,c2⟩::((G ++ (⟨fb,5,c1⟩::J1)) ++ J2)) := .cons _ List.perm_append_comm
  refine p2.trans ?_
  rw [show ((G ++ [⟨fb,5,c1⟩,⟨fb,520,c2⟩]) ++ (J1 ++ J2)) = (G ++ [⟨fb,5,c1⟩]) ++ (⟨fb,520,c2⟩::(J1 ++ J2)) by simp]
  refine List.Perm.trans ?_ List.perm_middle.symm
  rw [show (G ++ (⟨fb,5,c1⟩::J1)) ++ J2 = (G ++ [⟨fb,5,c1⟩]) ++ (J1 ++ J2) by simp]
theorem symTL_fix {fb ab cb qb : Nat} {HL : Frags} {t : Tabs} {ws av cs c1 c2 : List Value} (h1 : ws.length = 4) (h2 : av.length = 316) (h3 : cs.length = 19) (r1 : RawH c1) (r2 : RawH c2) (hL : LitT t qb 0 HL) (hD : DistT t none []) :
    SymTL fb t (.pointer (some ⟨qb,0,none⟩)) (.pointer none) (⟨fb,1041,ws⟩::⟨fb,1035,[.pointer (some ⟨ab,0,none⟩),.pointer (some ⟨cb,0,none⟩)]⟩::⟨ab,0,av⟩::⟨cb,0,cs⟩::⟨fb,5,c1⟩::⟨fb,520,c2⟩::HL) :=
  ⟨ab,cb,ws,av,cs,qb,0,_,HL,[],[⟨fb,5,c1⟩,⟨fb,520,c2⟩],h1,h2,h3,rfl,rfl,hL,hD,by rw [List.append_nil]; rfl,c1,c2,HL,r1,r2,fun G => by
    rw [List.append_nil,List.append_assoc]; exact Same.refl _⟩
def DecSt {K : Known} {ea : Fin 5 → Addr} (src : Src K ea) (dt : List UInt8) (fb hb : Nat) (R : ResR) (gv : Nat) (pend : List UInt8) (m : Nat) (x1 x2 x3 A T W H : Frag) (TL : Frags) : Prop :=
  (∃ p,m = 8 * dt.length - p + 1 ∧ NextSt src dt fb hb R gv pend p x1 x2 x3 A T W H ∧ RawTL fb TL) ∨
  (m = 8 * dt.length + 2 ∧ ∃ t last hl hd,SymSt src dt fb hb R gv pend t last hl hd 92 x1 x2 x3 A T W H ∧ SymTL fb t hl hd TL) ∨
  (m = 8 * dt.length + 2 ∧ ∃ q,StorSt src dt fb hb R gv pend q x1 x2 x3 A T W H ∧ RawTL fb TL) ∨
  (m = 0 ∧ EndSt src dt fb hb R gv pend x1 x2 x3 A T W H ∧ JunkTL fb TL)
def StepEnd {K : Known} {ea : Fin 5 → Addr} (src : Src K ea) (dt : List UInt8) (fb hb : Nat) (R : ResR) (gv m : Nat) (r : Value) (L : Frags) : Prop :=
  r = .tuple #[] ∧ ∃ pend m2 y1 y2 y3 A T W H TL,(pend ≠ [] ∨ m2 < m) ∧ DecSt src dt fb hb R gv pend m2 y1 y2 y3 A T W H TL ∧ L = y1::y2::y3::A::T::W::H::TL
structure DecV {K : Known} {ea : Fin 5 → Addr} (src : Src K ea) (dt : List UInt8) (fb hb : Nat) (R : ResR) (gv : Nat) (pend : List UInt8) (m : Nat) (x1 x2 x3 A T W H : Frag) (TL : Frags) (er : Er) (fv c1 c2 c5 c6 c7 c8 trv : Value) (h : List UInt8) (wr rd : Nat) (full : Bool) : Prop where
  isT : T = ⟨fb,1045,[fv,c1,c2,Er.val ea er,trv,c5,c6,c7,c8]⟩
  isW : W = ⟨fb,1037,[.slice (some ⟨hb,0,none⟩) 32768 32768,.int .i64 ((wr : Nat) : Int),.int .i64 ((rd : Nat) : Int),.bool full]⟩
  isH : H = ⟨hb,0,bytesV h⟩
  len : h.length = 32768
  rdLe : rd ≤ wr
  wrLt : wr < 32768
  tr : TR hb h pend trv
  gvLe : gv + pend.length ≤ R.1.length
  pendIs : pend = (R.1.drop gv).take pend.length
  kind : (er = .none ∧ 0 < m ∧ ∃ k,fv = .func (.func k) #[] #[] ∧ (k = 82 ∨ k = 92 ∨ k = 97)) ∨ (er ≠ .none ∧ m = 0 ∧ EndOk src dt R.2 er x1 x2 x3 ∧ (pend = [] ∨ gv + pend.length = R.1.length))
  give : ∀ n trv2,n ≤ pend.length → TR hb h (pend.drop n) trv2 → DecSt src dt fb hb R (gv + n) (pend.drop n) m x1 x2 x3 A ⟨fb,1045,[fv,c1,c2,Er.val ea er,trv2,c5,c6,c7,c8]⟩ W H TL
  flush : ∀ v A2,er ≠ .none → pend = [] → FlushEnd fb 1037 hb wr rd full v A2 → DecSt src dt fb hb R gv (R.1.drop gv) 0 x1 x2 x3 A ⟨fb,1045,[fv,c1,c2,Er.val ea er,v,c5,c6,c7,c8]⟩ A2 H TL
theorem WinSt.facts {fb hb gv : Nat} {out pend : List UInt8} {trv : Value} {h : List UInt8} {wr rd : Nat} {full : Bool} {A B : Frag} (W : WinSt fb hb gv out pend trv h wr rd full A B) {r s : List UInt8} (hr : r = out ++ s) :
    h.length = 32768 ∧ gv + pend.length ≤ r.length ∧ pend = (r.drop gv).take pend.length := by
  have hs := W.sum
  have hl := W.hist.len
  refine ⟨hl,by rw [hr,List.length_append]; omega,?_⟩
  have := W.pendIs
  rw [hr,List.drop_append_of_le_length (by omega),List.take_append_of_le_length (by rw [List.length_drop]; omega),← this]
theorem endOk_ne {K : Known} {ea : Fin 5 → Addr} {src : Src K ea} {dt : List UInt8} {e : EndR} {er : Er} {x1 x2 x3 : Frag} (h : EndOk src dt e er x1 x2 x3) : er ≠ .none := by
  rcases h with ⟨q,_,rfl,_⟩ | ⟨_,h,_⟩
  · intro h; cases h
  · exact h.2
theorem DecSt.view {K : Known} {ea : Fin 5 → Addr} {src : Src K ea} {dt : List UInt8} {fb hb : Nat} {R : ResR} {gv : Nat} {pend : List UInt8} {m : Nat} {x1 x2 x3 A T W H : Frag} {TL : Frags} (D : DecSt src dt fb hb R gv pend m x1 x2 x3 A T W H TL) :
    ∃ er fv c1 c2 c5 c6 c7 c8 trv h wr rd full,DecV src dt fb hb R gv pend m x1 x2 x3 A T W H TL er fv c1 c2 c5 c6 c7 c8 trv h wr rd full := by
  rcases D with ⟨p,rfl,⟨q,nb,out,trv,h,wr,rd,full,ss,fin,hl,hd,cl,cd,hh,hn,hW,rfl,hss,hR⟩,hT⟩ | ⟨rfl,t,last,hl,hd,⟨p,q,nb,out,trv,h,wr,rd,full,ss,cl,cd,hh,hn,hW,rfl,hR⟩,hT⟩ | ⟨rfl,q,⟨out,trv,h,wr,rd,full,ss,last,hl,hd,cl,cd,hh,hW,rfl,hss,hcl,hR⟩,hT⟩ | ⟨rfl,⟨out,e,er,trv,h,wr,rd,full,hE,hA,hW,⟨a,b,c,d,f,g,i,rfl⟩,hR,hall⟩,hT⟩
  · obtain ⟨s,hs⟩ := run_pre dt .next out p
    rw [← hR] at hs
    have hf := hW.facts hs
    exact ⟨.none,_,_,_,_,_,_,_,trv,h,wr,rd,full,rfl,hW.isA,hW.isB,hf.1,hW.rdLe,hW.wrLt,hW.tr,hf.2.1,hf.2.2,.inl ⟨rfl,by omega,_,rfl,.inl rfl⟩,
      fun n trv2 hn2 ht => .inl ⟨p,rfl,⟨q,nb,out,trv2,h,wr,rd,full,ss,fin,hl,hd,cl,cd,hh,hn,hW.give hn2 ht,rfl,hss,hR⟩,hT⟩,fun v A2 h1 => absurd rfl h1⟩
  · obtain ⟨s,hs⟩ : ∃ s,R.1 = out ++ s := by
      rcases hR with ⟨_,hR⟩ | ⟨_,_,_,_,hR⟩
      · rw [hR]; exact run_pre _ _ _ _
      · rw [hR]
        obtain ⟨s1,h1⟩ := copyN_pre out cd cl
        obtain ⟨s2,h2⟩ := run_pre dt (.sym last t) (copyN out cd cl) p
        exact ⟨s1 ++ s2,by rw [h2,h1,List.append_assoc]⟩
    have hf := hW.facts hs
    exact ⟨.none,_,_,_,_,_,_,_,trv,h,wr,rd,full,rfl,hW.isA,hW.isB,hf.1,hW.rdLe,hW.wrLt,hW.tr,hf.2.1,hf.2.2,.inl ⟨rfl,by omega,_,rfl,.inr (.inl rfl)⟩,
      fun n trv2 hn2 ht => .inr (.inl ⟨rfl,t,last,hl,hd,⟨p,q,nb,out,trv2,h,wr,rd,full,ss,cl,cd,hh,hn,hW.give hn2 ht,rfl,hR⟩,hT⟩),fun v A2 h1 => absurd rfl h1⟩
  · obtain ⟨s,hs⟩ := stored_pre dt last cl out q
    rw [← hR] at hs
    have hf := hW.facts hs
    exact ⟨.none,_,_,_,_,_,_,_,trv,h,wr,rd,full,rfl,hW.isA,hW.isB,hf.1,hW.rdLe,hW.wrLt,hW.tr,hf.2.1,hf.2.2,.inl ⟨rfl,by omega,_,rfl,.inr (.inr rfl)⟩,
      fun n trv2 hn2 ht => .inr (.inr (.inl ⟨rfl,q,⟨out,trv2,h,wr,rd,full,ss,last,hl,hd,cl,cd,hh,hW.give hn2 ht,rfl,hss,hcl,hR⟩,hT⟩)),fun v A2 h1 => absurd rfl h1⟩
  · subst hR
    have hf := hW.facts (r:=out) (s:=[]) (List.append_nil _).symm
    have hsum := hW.sum
    have hrd := hW.rdLe
    refine ⟨er,_,_,_,_,_,_,_,trv,h,wr,rd,full,rfl,hW.isA,hW.isB,hf.1,hW.rdLe,hW.wrLt,hW.tr,hf.2.1,hf.2.2,.inr ⟨endOk_ne hE,rfl,hE,hall.imp id fun h => by subst h; simp only; omega⟩,
      fun n trv2 hn2 ht => .inr (.inr (.inr ⟨rfl,⟨out,e,er,trv2,h,wr,rd,full,hE,hA,hW.give hn2 ht,⟨_,_,_,_,_,_,_,rfl⟩,rfl,hall.imp (fun h => by rw [h]; exact List.drop_nil) id⟩,hT⟩)),fun v A2 h1 h2 hfl => ?_⟩
    subst h2
    obtain ⟨wr2,full2,hW2,_,_⟩ := WinSt.flush (gv:=gv) hW.hist hrd (by simpa using hsum) hfl
    exact .inr (.inr (.inr ⟨rfl,⟨out,e,er,v,h,wr2,wr2,full2,hE,hA,by rw [hW.isB]; exact hW2,⟨_,_,_,_,_,_,_,rfl⟩,rfl,.inr rfl⟩,hT⟩))
set_option maxHeartbeats 1000000
theorem TR.nilv {hb : Nat} {h : List UInt8} {v : Value} (t : TR hb h [] v) : ∃ a c,v = .slice a 0 c := by
  obtain ⟨a,c,e,_⟩ := t
  exact ⟨a,c,e⟩
section
variable {D : List UInt8} {out : List UInt8} {p : Nat}
theorem run_next_short (h : left D p < 3) : run D .next out p = (out,.bad) := by rw [run,if_pos h]
theorem run_next0 (h3 : ¬ left D p < 3) (h : takeB D (p + 1) 2 = 0) : run D .next out p = storR D (decide (takeB D p 1 = 1)) out ((p + 3 + 7) / 8) := by
  rw [run,storR,if_neg h3,if_pos h]
  cases hs : Gl D ((p + 3 + 7) / 8) with
  | none => rfl
  | some n =>
    simp only [stored]
    split
    · rfl
    · rename_i h4
      by_cases h1 : takeB D p 1 = 1
      · simp only [h1,decide_true,if_true]
      · rw [if_neg h1,dif_pos ⟨by omega,by omega⟩]
        simp [h1]
theorem run_next1 (h3 : ¬ left D p < 3) (h : takeB D (p + 1) 2 = 1) : run D .next out p = run D (.sym (decide (takeB D p 1 = 1)) fixT) out (p + 3) := by
  have hg : p < p + 3 ∧ p + 3 ≤ 8 * D.length := by unfold left at h3; omega
  obtain ⟨r,hr⟩ : ∃ r,r = run D (.sym (decide (takeB D p 1 = 1)) fixT) out (p + 3) := ⟨_,rfl⟩
  rw [← hr,run]
  rw [if_neg h3,if_neg (by omega),if_pos h,dif_pos hg,hr]
theorem run_next2n (h3 : ¬ left D p < 3) (h : takeB D (p + 1) 2 = 2) (hd : dynR D (p + 3) = none) : run D .next out p = (out,.bad) := by
  rw [run]
  rw [if_neg h3,if_neg (by omega),if_neg (by omega),if_pos h,hd]
theorem run_next2 (h3 : ¬ left D p < 3) (h : takeB D (p + 1) 2 = 2) {t : Tabs} {p2 : Nat} (hd : dynR D (p + 3) = some (t,p2)) (hg : p < p2 ∧ p2 ≤ 8 * D.length) : run D .next out p = run D (.sym (decide (takeB D p 1 = 1)) t) out p2 := by
  obtain ⟨r,hr⟩ : ∃ r,r = run D (.sym (decide (takeB D p 1 = 1)) t) out p2 := ⟨_,rfl⟩
  rw [← hr,run]
  rw [if_neg h3,if_neg (by omega),if_neg (by omega),if_pos h,hd]
  simp only
  rw [dif_pos hg,hr]
theorem run_next3 (h3 : ¬ left D p < 3) (h0 : takeB D (p + 1) 2 ≠ 0) (h1 : takeB D (p + 1) 2 ≠ 1) (h2 : takeB D (p + 1) 2 ≠ 2) : run D .next out p = (out,.bad) := by
  rw [run]
  rw [if_neg h3,if_neg h0,if_neg h1,if_neg h2]
end
theorem lensGo_ge {D : List UInt8} {cl : List Nat} {n : Nat} : ∀ k acc p all p2,n - acc.length ≤ k → lensGo D cl n acc p = some (all,p2) → p ≤ p2 := by
  intro k
  induction k with
  | zero =>
    intro acc p all p2 hk h
    rw [lensGo,dif_neg (by omega)] at h
    simp only [Option.some.injEq,Prod.mk.injEq] at h
    omega
  | succ k ih =>
    intro acc p all p2 hk h
    rw [lensGo] at h
    split at h
    · split at h
      · cases h
      · rename_i x hx
        split at h
        · have := ih _ _ _ _ (by rw [List.length_append,List.length_singleton]; omega) h
          omega
        · split at h
          · cases h
          · split at h
            · cases h
            · split at h
              · cases h
              · have hb : 0 < repB x := by unfold repB; split <;> omega
                have := ih _ _ _ _ (by rw [List.length_append,List.length_replicate]; omega) h
                omega
    · simp only [Option.some.injEq,Prod.mk.injEq] at h
      omega
theorem dynR_lt {D : List UInt8} {p : Nat} {t : Tabs} {p2 : Nat} (h : dynR D p = some (t,p2)) : p < p2 := by
  unfold dynR at h
  split at h
  · cases h
  split at h
  · cases h
  split at h
  · cases h
  split at h
  · cases h
  split at h
  · cases h
  split at h
  · cases h
  · rename_i all p3 hg
    have := lensGo_ge _ _ _ _ _ (Nat.le_refl _) hg
    split at h
    · simp only [Option.some.injEq,Prod.mk.injEq] at h
      omega
    · cases h
theorem sym_step {K : Known} {ea : Fin 5 → Addr} (hs : Sents K ea) {src : Src K ea} {dt : List UInt8} {fb hb : Nat} {R : ResR} {gv m stp : Nat} {t : Tabs} {last : Bool} {hl hd trv : Value} {x1 x2 x3 : Frag} {p q b nb : Nat} {ro : Int} {out h : List UInt8} {wr rd : Nat} {full : Bool} {ss cl cd : Nat} {TL : Frags}
    (hA : src.At (dt.drop q) x1 x2 x3) (hB : BitsIn dt p q b nb) (hn : nb < t.mn + 8) (hW : WinSt fb hb gv out [] trv h wr rd full ⟨fb,1037,[.slice (some ⟨hb,0,none⟩) 32768 32768,.int .i64 (((wr) : Nat) : Int),.int .i64 (((rd) : Nat) : Int),.bool full]⟩ ⟨hb,0,bytesV (h)⟩)
    (hR : (SsOk ss cl cd (hsize wr full) ∧ R = run dt (.sym last t) out p) ∨ (ss = 1 ∧ cl ≤ 258 ∧ 1 ≤ cd ∧ cd ≤ hsize wr full ∧ R = run dt (.sym last t) (copyN out cd cl) p)) (hTL : SymTL fb t hl hd TL) (hm : 8 * dt.length - p + 1 ≤ m) (hm1 : 0 < m) :
    Fn Tryz.prog K 92 #[.pointer (some ⟨fb,0,none⟩)] (x1::x2::x3::⟨fb,0,[.iface src.t src.v,.pointer none,.int .i64 (ro),.int .u32 (((b) : Nat) : Int),.int .u64 (((nb) : Nat) : Int)]⟩::⟨fb,1045,[.func (.func stp) #[] #[],.int .i64 (((ss) : Nat) : Int),.bool last,.nilIface,trv,hl,hd,.int .i64 (((cl) : Nat) : Int),.int .i64 (((cd) : Nat) : Int)]⟩::⟨fb,1037,[.slice (some ⟨hb,0,none⟩) 32768 32768,.int .i64 (((wr) : Nat) : Int),.int .i64 (((rd) : Nat) : Int),.bool full]⟩::⟨hb,0,bytesV (h)⟩::TL) (StepEnd src dt fb hb R gv m) := by
  have hsum := hW.sum
  obtain ⟨a0,c0,htr⟩ := hW.tr.nilv
  have hTL0 := hTL
  obtain ⟨ab,cb,ws,av,cs,lb,lo,hp,HL,HD,RT,h1,h2,h3,rfl,rfl,h6,h7,rfl,hraw⟩ := hTL
  have pm : ∀ (X4 RT X : Frags) (X7 : Frags),(X7 ++ (X4 ++ (RT ++ X))).Perm ((X7 ++ X) ++ (X4 ++ RT)) := fun X4 RT X X7 => by
    rw [List.append_assoc,← List.append_assoc X4]
    exact List.perm_append_comm.append_left _
  refine Fn.lose (Fn.perm (pm [_,_,_,_] RT (HL ++ HD) [_,_,_,_,_,_,_]) (Fn.frame (huffmanBlock_walk hs src dt fb hb R gv t last lb lo hp _ HL HD h6 h7 a0 c0 trv htr x1 x2 x3 p q b nb ro out h wr rd full ss cl cd hA hB hn hW.hist hW.rdLe hW.wrLt (by simpa using hsum) hR))) ?_
  rintro v L' ⟨L1,⟨rfl,y1,y2,y3,A,T,W,H,rfl,hE⟩,rfl⟩
  have hback : Same ((y1::y2::y3::A::T::W::H::(HL ++ HD)) ++ ([⟨fb,1041,ws⟩,⟨fb,1035,[.pointer (some ⟨ab,0,none⟩),.pointer (some ⟨cb,0,none⟩)]⟩,⟨ab,0,av⟩,⟨cb,0,cs⟩] ++ RT)) ([y1,y2,y3,A,T,W,H] ++ ([⟨fb,1041,ws⟩,⟨fb,1035,[.pointer (some ⟨ab,0,none⟩),.pointer (some ⟨cb,0,none⟩)]⟩,⟨ab,0,av⟩,⟨cb,0,cs⟩] ++ (RT ++ (HL ++ HD)))) := Same.perm (pm [_,_,_,_] RT (HL ++ HD) [_,_,_,_,_,_,_]).symm
  obtain ⟨TL2,J,hr2,hS2⟩ := hTL0.raw [y1,y2,y3,A,T,W,H]
  rcases hE with ⟨pend,hne,hS⟩ | ⟨p2,hlt,hN⟩ | ⟨pend,hE⟩
  · exact ⟨_,[],hback.trans (Same.of_eq (List.append_nil _).symm),rfl,pend,_,y1,y2,y3,A,T,W,H,_,.inl hne,.inr (.inl ⟨rfl,t,last,_,_,hS,hTL0⟩),rfl⟩
  · refine ⟨_,J,hback.trans hS2,rfl,[],_,y1,y2,y3,A,T,W,H,TL2,.inr ?_,.inl ⟨p2,rfl,hN,hr2⟩,rfl⟩
    obtain ⟨q2,nb2,_,_,_,_,_,_,_,_,_,_,_,_,⟨_,b2,ro2,hB2,_⟩,_⟩ := hN
    have := hB2.at8
    have := hB2.le
    omega
  · exact ⟨_,J,hback.trans hS2,rfl,pend,_,y1,y2,y3,A,T,W,H,TL2,.inr hm1,.inr (.inr (.inr ⟨rfl,hE,hr2.junk⟩)),rfl⟩
theorem readHuffman_in {K : Known} {ea : Fin 5 → Addr} (hs : Sents K ea) (hc : Codes K) (src : Src K ea) (dt : List UInt8) (fb ab cb : Nat) (s0 s1 s2 s3 s4 s5 s6 s7 s8 : Value) (x1 x2 x3 : Frag) (p q b nb : Nat) (ro : Int) (av cs c1 c2 : List Value) (hasl : av.length = 316) (hcsl : cs.length = 19) (hraw1 : RawH c1) (hraw2 : RawH c2) (hA : src.At (dt.drop q) x1 x2 x3) (hB : BitsIn dt p q b nb) (hnb : nb < 8) (W H X : Frag) :
    Fn Tryz.prog K 93 #[.pointer (some ⟨fb,0,none⟩)] [x1,x2,x3,⟨fb,0,[.iface src.t src.v,.pointer none,.int .i64 (ro),.int .u32 (((b) : Nat) : Int),.int .u64 (((nb) : Nat) : Int)]⟩,⟨fb,1045,[s0,s1,s2,s3,s4,s5,s6,s7,s8]⟩,W,H,X,⟨fb,1035,[.pointer (some ⟨ab,0,none⟩),.pointer (some ⟨cb,0,none⟩)]⟩,⟨ab,0,av⟩,⟨cb,0,cs⟩,⟨fb,5,c1⟩,⟨fb,520,c2⟩]
      fun r L => ∃ e y1 y2 y3 a b c ev av cs J,r = Er.val ea e ∧ av.length = 316 ∧ cs.length = 19 ∧
    L = y1::y2::y3::⟨fb,0,[.iface src.t src.v,.pointer none,a,b,c]⟩::⟨fb,1045,[s0,s1,s2,ev,s4,s5,s6,s7,s8]⟩::W::H::X::⟨fb,1035,[.pointer (some ⟨ab,0,none⟩),.pointer (some ⟨cb,0,none⟩)]⟩::⟨ab,0,av⟩::⟨cb,0,cs⟩::J ∧
    ((e = .none ∧ ∃ t p2 q2 b2 nb2 ro2 HL HD,dynR dt p = some (t,p2) ∧ src.At (dt.drop q2) y1 y2 y3 ∧ BitsIn dt p2 q2 b2 nb2 ∧ nb2 < 8 ∧ LitT t fb 5 HL ∧ DistT t (some ⟨fb,520,none⟩) HD ∧ a = .int .i64 ro2 ∧ b = .int .u32 ((b2 : Nat) : Int) ∧ c = .int .u64 ((nb2 : Nat) : Int) ∧ ev = s3 ∧ J = HL ++ HD) ∨
     (Bad5 e ∧ dynR dt p = none ∧ (∃ l,src.At l y1 y2 y3) ∧ ∃ h1 h2,h1.length = 515 ∧ h2.length = 515 ∧ J = [⟨fb,5,h1⟩,⟨fb,520,h2⟩])) := by
  refine Fn.lose (Fn.pick [0,0,0,0,0,3,3,3,3,3] (A:=[_,_,_,_,_,_,_,_,_,_]) (F:=[W,H,X]) rfl (readHuffman_walk hs hc src dt fb ab cb s0 s1 s2 s3 s4 s5 s6 s7 s8 x1 x2 x3 p q b nb ro av cs c1 c2 hasl hcsl hraw1 hraw2 hA hB hnb)) ?_
  rintro v L ⟨L1,⟨L2,J0,hS,e,y1,y2,y3,a,b',c,ev,av',cs',J,rfl,h1,h2,rfl,hE⟩,rfl⟩
  refine ⟨_,J0,?_,e,y1,y2,y3,a,b',c,ev,av',cs',J,rfl,h1,h2,rfl,hE⟩
  have s1 := Same.appendL [W,H,X] hS
  refine (Same.perm List.perm_append_comm).trans (s1.trans (Same.perm ?_))
  rw [← List.append_assoc]
  refine List.Perm.append_right _ ?_
  exact Bj (is:=[3,3,3,3,3,0,0,0]) (A:=[_,_,_,_,_,_,_,_]) rfl
theorem fixed_in {K : Known} (G : Frags) : Fn Tryz.prog K 91 #[] G fun r L => ∃ qb HL,r = .pointer (some ⟨qb,0,none⟩) ∧ HufT fixLit 7 qb 0 HL ∧ L = G ++ HL := by
  refine Fn.lose (Fn.frame (L:=[]) (F:=G) fixedHuffman_spec) ?_
  rintro v L ⟨L1,⟨qb,rfl,hH⟩,rfl⟩
  exact ⟨_,[],(Same.perm List.perm_append_comm).trans (Same.of_eq (List.append_nil _).symm),qb,L1,rfl,hH,rfl⟩
theorem fixTabs {qb : Nat} {HL : Frags} (h : HufT fixLit 7 qb 0 HL) : LitT fixT qb 0 HL ∧ DistT fixT none [] :=
  ⟨⟨h,fix_ok,le_lenOf fix_15,by show minL fixLit ≤ 7; rw [fix_min]; exact Nat.le_refl _,by decide,by right; decide,by rw [show fixT.lit = fixLit from rfl,fix_lenL]; decide⟩,.inl ⟨rfl,rfl,rfl⟩⟩
theorem nextBlock_walk {K : Known} {ea : Fin 5 → Addr} (hs : Sents K ea) (hc : Codes K) (src : Src K ea) (dt : List UInt8) (fb hb : Nat) (R : ResR) (gv : Nat) (fin : Bool) (hlv hdv trv : Value) (x1 x2 x3 : Frag) (p q b nb : Nat) (ro : Int) (out h : List UInt8) (wr rd : Nat) (full : Bool) (ss cl cd ab cb : Nat) (ws av cs c1 c2 : List Value) (hws : ws.length = 4) (hav : av.length = 316) (hcs : cs.length = 19) (hr1 : RawH c1) (hr2 : RawH c2) (hA : src.At (dt.drop q) x1 x2 x3) (hB : BitsIn dt p q b nb) (hnb : nb < 8) (hW : WinSt fb hb gv out [] trv h wr rd full ⟨fb,1037,[.slice (some ⟨hb,0,none⟩) 32768 32768,.int .i64 (((wr) : Nat) : Int),.int .i64 (((rd) : Nat) : Int),.bool full]⟩ ⟨hb,0,bytesV (h)⟩) (hss : SsOk ss cl cd (hsize wr full)) (hR : R = run dt .next out p) : Fn Tryz.prog K 82 #[.pointer (some ⟨fb,0,none⟩)] ([x1,x2,x3,⟨fb,0,[.iface src.t src.v,.pointer none,.int .i64 (ro),.int .u32 (((b) : Nat) : Int),.int .u64 (((nb) : Nat) : Int)]⟩,⟨fb,1045,[.func (.func 82) #[] #[],.int .i64 (((ss) : Nat) : Int),.bool fin,.nilIface,trv,hlv,hdv,.int .i64 (((cl) : Nat) : Int),.int .i64 (((cd) : Nat) : Int)]⟩,⟨fb,1037,[.slice (some ⟨hb,0,none⟩) 32768 32768,.int .i64 (((wr) : Nat) : Int),.int .i64 (((rd) : Nat) : Int),.bool full]⟩,⟨hb,0,bytesV (h)⟩,⟨fb,1041,ws⟩,⟨fb,1035,[.pointer (some ⟨ab,0,none⟩),.pointer (some ⟨cb,0,none⟩)]⟩,⟨ab,0,av⟩,⟨cb,0,cs⟩,⟨fb,5,c1⟩,⟨fb,520,c2⟩]) (StepEnd src dt fb hb R gv (8 * dt.length - p + 1)) := by
 refine Fn.intro (args:=[.pointer (some ⟨fb,0,none⟩)]) (RR:=Ret0 _) Tryz.func82 rfl rfl Tryz.ntmps82 (res0 Tryz.results82) ?_
 refine Bl (env2:=[(0,.pointer (some ⟨fb,0,none⟩))]) rfl<|Ap<|Ax<|Bx (fun mm ee ll => ∃ (q : Nat),∃ (b : Nat),∃ (nb : Nat),∃ (ro : Int),∃ (g1 : Frag),∃ (g2 : Frag),∃ (g3 : Frag),keeps ee [0] = some [(0,.pointer (some ⟨fb,0,none⟩))] ∧ ll = [g1,g2,g3,⟨fb,0,[.iface src.t src.v,.pointer none,.int .i64 (ro),.int .u32 (((b) : Nat) : Int),.int .u64 (((nb) : Nat) : Int)]⟩,⟨fb,1045,[.func (.func 82) #[] #[],.int .i64 (((ss) : Nat) : Int),.bool fin,.nilIface,trv,hlv,hdv,.int .i64 (((cl) : Nat) : Int),.int .i64 (((cd) : Nat) : Int)]⟩,⟨fb,1037,[.slice (some ⟨hb,0,none⟩) 32768 32768,.int .i64 (((wr) : Nat) : Int),.int .i64 (((rd) : Nat) : Int),.bool full]⟩,⟨hb,0,bytesV (h)⟩,⟨fb,1041,ws⟩,⟨fb,1035,[.pointer (some ⟨ab,0,none⟩),.pointer (some ⟨cb,0,none⟩)]⟩,⟨ab,0,av⟩,⟨cb,0,cs⟩,⟨fb,5,c1⟩,⟨fb,520,c2⟩] ∧ (src.At (dt.drop q) g1 g2 g3) ∧ (BitsIn dt (p) q b nb) ∧ (nb < 8 ∨ nb < 3 + 8) ∧ mm = 3 - nb) (_) ⟨q,b,nb,ro,x1,x2,x3,rfl,rfl,hA,hB,.inl hnb,rfl⟩ ?_
 rintro m0 _ _ ⟨q,b,nb,ro,g1,g2,g3,hk0,rfl,hA,hB,hnl,hm0⟩
 refine Ba _ hk0<|Ap<|Cr<|Em rfl rfl<|Aa (Ad rfl) rfl<|Aa (Ae rfl Ed) rfl<|Ah (An 3 (k:=4) rfl rfl rfl Ta137) rfl<|Aa (Dk (b:=((3 : Nat) : Int)) rfl rfl) rfl<|Ek2 0 7 rfl<|Be rfl (fun h7 => ?_) (fun h7 => ?_)
 ·refine Ar<|Ax<|Cr<|Em rfl rfl<|Em rfl rfl ?_
  refine Ak (OpX.pick [0,0,0,0] (F:=[_,_,_,_,_,_,_,_,_]) rfl (Au rfl Tryz.call89 (Hv hs src _ _ _ fb _ dt _ _ _ _ hA hB (by omega)))) rfl ?_; rintro _ _ ⟨_,⟨k1,k2,k3,e4,b4,nb4,ro4,rfl,rfl,hE4⟩,rfl⟩; refine Ab (L2:=[_,_,_,_,_,_,_,_,_,_,_,_,_]) rfl ?_
  refine Bt [0,0,0,0,0,0,0,0,0,0,0,0,0] rfl<|Ab (L2:=[_,_,_,_,_,_,_,_,_,_,_,_,_]) rfl<|Aa (Ad rfl) rfl<|Aa (Ae rfl Ee) rfl ?_
  refine Ao (Aq 4 (k:=3) rfl rfl rfl (one_er _) rfl Tz58) ?_; rintro _ _ ⟨rfl,rfl⟩; refine Ab (L2:=[_,_,_,_,_,_,_,_,_,_,_,_,_]) rfl ?_
  refine Ek2 0 7 rfl<|Cr<|Em rfl rfl<|Aa (Ad rfl) rfl<|Aa (Ae rfl Ee) rfl<|Ah (An 4 (k:=3) rfl rfl rfl Ta58) rfl<|Ah (Dg rfl) rfl<|Ek3 0 7 17 rfl<|Dp rfl (fun h17 => ?_) (fun h17 => ?_)
  ·obtain ⟨hb5,hqe,lx,hAx⟩ := hE4.resolve_left fun h => h17 h.1
   have hle := hB.left_eq
   refine Av ?_
   exact ⟨rfl,[],0,_,_,_,_,_,_,_,_,.inr (by omega),.inr (.inr (.inr ⟨rfl,⟨out,.bad,_,trv,h,wr,rd,full,.inr ⟨rfl,hb5,_,hAx⟩,⟨_,_,_,rfl⟩,hW,⟨_,_,_,_,_,_,_,rfl⟩,hR.trans (run_next_short (by omega)),.inl rfl⟩,RawTL.junk ⟨ab,cb,ws,av,cs,c1,c2,hws,hav,hcs,hr1,hr2,rfl⟩⟩)),rfl⟩
  obtain ⟨_,hA4,hB4,hn4⟩ := hE4.resolve_right fun h => h.1.2 h17
  subst hn4
  subst h17
  refine Ar ?_
  refine ⟨_,?_,_,_,_,_,_,_,_,rfl,rfl,hA4,hB4,.inr (by omega),rfl⟩; omega
 have hn3 : 3 ≤ nb := by omega
 have hb2 := hB.lt32 (by omega)
 have hle := hB.left_eq
 have h3 : ¬ left dt p < 3 := by omega
 have hB1 := (hB.take (n:=1) (by omega)).2
 have hB3 := (hB1.take (n:=2) (by omega)).2
 have t1 := Eo dt p 1
 have t2 := Eo dt (p + 1) 2
 have ht8 := hB3.at8
 have htl := hB3.le
 obtain ⟨last,hlast⟩ : ∃ last,last = decide (takeB dt p 1 = 1) := ⟨_,rfl⟩
 refine Bu rfl<|Cr<|Em rfl rfl<|Em rfl rfl<|Aa (Ad rfl) rfl<|Aa (Ae rfl Dq) rfl<|Ah (An 3 (k:=3) rfl rfl rfl Ta69) rfl<|Aa (Ei (b:=((1 : Nat) : Int)) rfl rfl (N.and_u32 (by omega) (by omega))) rfl<|Am (v:=.int .u32 ((takeB dt p 1 : Nat) : Int)) (congrArg (fun y : Nat => Value.int .u32 (y : Int)) (by exact Hi (n:=1) hB (by omega)))<|Aa (Dx (b:=((1 : Nat) : Int)) rfl rfl) rfl ?_
 refine Am (v:=.bool last) (congrArg Value.bool (by rw [hlast]; exact decide_eq_decide.2 (by omega))) ?_
 refine Aa (Ad rfl) rfl<|Aa (Ae rfl fa186_13) rfl ?_
 refine Ao (Aq 4 (k:=2) rfl rfl rfl rfl rfl Tz4) ?_; rintro _ _ ⟨rfl,rfl⟩; refine Ab (L2:=[_,_,_,_,_,_,_,_,_,_,_,_,_]) rfl ?_
 refine Ek2 0 7 rfl<|Cr<|Em rfl rfl<|Aa (Ad rfl) rfl<|Aa (Ae rfl Dq) rfl<|Ah (An 3 (k:=3) rfl rfl rfl Ta69) rfl<|Aa (Fj (b:=((1 : Nat) : Int)) rfl rfl (by omega) (N.shr_u32 (by omega) _)) rfl<|Am (v:=.int .u32 ((b / 2 ^ 1 : Nat) : Int)) (congrArg (fun y : Nat => Value.int .u32 (y : Int)) (by rw [Nat.shiftRight_eq_div_pow]))<|Aa (Ad rfl) rfl<|Aa (Ae rfl Dq) rfl ?_
 refine Ao (Aq 3 (k:=3) rfl rfl rfl rfl rfl Tz69) ?_; rintro _ _ ⟨rfl,rfl⟩; refine Ab (L2:=[_,_,_,_,_,_,_,_,_,_,_,_,_]) rfl ?_
 refine Ek2 0 7 rfl<|Cr<|Em rfl rfl<|Aa (Ad rfl) rfl<|Aa (Ae rfl Dq) rfl<|Ah (An 3 (k:=3) rfl rfl rfl Ta69) rfl<|Aa (Ei (b:=((3 : Nat) : Int)) rfl rfl (N.and_u32 (by omega) (by omega))) rfl<|Am (v:=.int .u32 ((takeB dt (p + 1) 2 : Nat) : Int)) (congrArg (fun y : Nat => Value.int .u32 (y : Int)) (by exact Hi (n:=2) hB1 (by omega)))<|Ea rfl rfl<|Ek3 0 2 7 rfl<|Cr<|Em rfl rfl ?_
 refine Aa (Ad rfl) rfl<|Aa (Ae rfl Dq) rfl<|Ah (An 3 (k:=3) rfl rfl rfl Ta69) rfl<|Aa (Fj (b:=((2 : Nat) : Int)) rfl rfl (by omega) (N.shr_u32 (by omega) _)) rfl<|Am (v:=.int .u32 ((b / 2 ^ 1 / 2 ^ 2 : Nat) : Int)) (congrArg (fun y : Nat => Value.int .u32 (y : Int)) (by rw [Nat.shiftRight_eq_div_pow]))<|Aa (Ad rfl) rfl<|Aa (Ae rfl Dq) rfl ?_
 refine Ao (Aq 3 (k:=3) rfl rfl rfl rfl rfl Tz69) ?_; rintro _ _ ⟨rfl,rfl⟩; refine Ab (L2:=[_,_,_,_,_,_,_,_,_,_,_,_,_]) rfl ?_
 refine Ek3 0 2 7 rfl<|Cr<|Em rfl rfl<|Aa (Ad rfl) rfl<|Aa (Ae rfl Ed) rfl<|Ah (An 3 (k:=4) rfl rfl rfl Ta137) rfl<|Aa (Du (b:=((3 : Nat) : Int)) rfl rfl (N.sub_u64 (by omega) (by omega))) rfl<|Am (v:=.int .u64 ((nb - 1 - 2 : Nat) : Int)) (congrArg (fun y : Nat => Value.int .u64 (y : Int)) (by omega))<|Aa (Ad rfl) rfl<|Aa (Ae rfl Ed) rfl ?_
 refine Ao (Aq 3 (k:=4) rfl rfl rfl rfl rfl Tz137) ?_; rintro _ _ ⟨rfl,rfl⟩; refine Ab (L2:=[_,_,_,_,_,_,_,_,_,_,_,_,_]) rfl ?_
 refine Ek3 0 2 7 rfl<|Cr<|Em rfl rfl<|Ek4 0 2 7 53 rfl<|Ax<|Cr<|Aa (Dx (b:=((0 : Nat) : Int)) rfl rfl) rfl<|Ea rfl rfl<|Ek5 0 2 7 53 62 rfl<|Be rfl (fun h62 => ?_) (fun h62 => ?_)
 ·have hty : takeB dt (p + 1) 2 = 0 := by omega
  have hsum := hW.sum
  obtain ⟨a0,c0,htr⟩ := hW.tr.nilv
  have hR0 : R = storR dt last out q := by rw [hR,run_next0 h3 hty,← hlast,show (p + 3 + 7) / 8 = q by omega]
  refine Al<|Em rfl rfl ?_
  refine Ak (OpX.pick [0,0,0,0,0,0,0,0] (F:=[_,_,_,_,_]) rfl (Au rfl Tryz.call90 (dataBlock_spec hs src dt fb hb R gv last hlv hdv _ a0 c0 trv htr g1 g2 g3 (p + 1 + 2) q _ _ _ out h wr rd full ss cl cd ws hws hA hB3 (by omega) hW.hist hW.rdLe hW.wrLt (by simpa using hsum) hss hR0))) rfl ?_; rintro _ _ ⟨_,⟨rfl,y1,y2,y3,Ay,Ty,Wy,Hy,ws2,hw2,rfl,hDb⟩,rfl⟩; refine Ab (L2:=[_,_,_,_,_,_,_,_,_,_,_,_,_]) rfl ?_
  refine Ek5 0 2 7 53 62 rfl ?_
  rcases hDb with ⟨pend,q5,hne,hS⟩ | ⟨pend,p2,hlt,hN⟩ | ⟨pend,hE⟩
  · exact ⟨rfl,pend,_,_,_,_,_,_,_,_,_,.inl hne,.inr (.inr (.inl ⟨rfl,q5,hS,⟨ab,cb,ws2,av,cs,c1,c2,hw2,hav,hcs,hr1,hr2,rfl⟩⟩)),rfl⟩
  · refine ⟨rfl,pend,_,_,_,_,_,_,_,_,_,.inr ?_,.inl ⟨p2,rfl,hN,⟨ab,cb,ws2,av,cs,c1,c2,hw2,hav,hcs,hr1,hr2,rfl⟩⟩,rfl⟩
    obtain ⟨q2,nb2,_,_,_,_,_,_,_,_,_,_,_,_,⟨_,b2,ro2,hB2,_⟩,_⟩ := hN
    have := hB2.at8
    have := hB2.le
    omega
  · exact ⟨rfl,pend,0,_,_,_,_,_,_,_,_,.inr (by omega),.inr (.inr (.inr ⟨rfl,hE,RawTL.junk ⟨ab,cb,ws2,av,cs,c1,c2,hw2,hav,hcs,hr1,hr2,rfl⟩⟩)),rfl⟩
 refine Cr<|Aa (Dx (b:=((1 : Nat) : Int)) rfl rfl) rfl<|Ea rfl rfl<|Ek6 0 2 7 53 62 66 rfl<|Be rfl (fun h66 => ?_) (fun h66 => ?_)
 ·have hty : takeB dt (p + 1) 2 = 1 := by omega
  have hR1 : R = run dt (.sym last fixT) out (p + 1 + 2) := by rw [hR,run_next1 h3 hty,← hlast]
  refine Cr<|Em rfl rfl ?_
  refine Ak (Au rfl Tryz.call91 (fixed_in _)) rfl ?_; rintro _ _ ⟨qb,HL,rfl,hHL,rfl⟩; refine Ab (L2:=(_::_::_::_::_::_::_::_::_::_::_::_::_::_)) rfl ?_
  refine Aa (Ad rfl) rfl<|Aa (Ae rfl fa186_16) rfl ?_
  refine Ao (Aq 4 (k:=5) rfl rfl rfl rfl rfl Tryz.sizeOf184) ?_; rintro _ _ ⟨rfl,rfl⟩; refine Ab (L2:=(_::_::_::_::_::_::_::_::_::_::_::_::_::_)) rfl ?_
  refine Ek6 0 2 7 53 62 66 rfl<|Cr<|Em rfl rfl<|Aa (Ad rfl) rfl<|Aa (Ae rfl fa186_17) rfl ?_
  refine Ao (Aq 4 (k:=6) rfl rfl rfl rfl rfl Tryz.sizeOf184) ?_; rintro _ _ ⟨rfl,rfl⟩; refine Ab (L2:=(_::_::_::_::_::_::_::_::_::_::_::_::_::_)) rfl ?_
  refine Ek6 0 2 7 53 62 66 rfl<|Al<|Em rfl rfl ?_
  refine Ak (Au rfl Tryz.call92 (sym_step (m:=8 * dt.length - p + 1) hs hA hB3 (by show nb - 1 - 2 < 7 + 8; omega) hW (.inl ⟨hss,hR1⟩) (symTL_fix hws hav hcs hr1 hr2 (fixTabs hHL).1 (fixTabs hHL).2) (by omega) (by omega))) rfl ?_; rintro _ _ ⟨rfl,pend,m2,y1,y2,y3,Ay,Ty,Wy,Hy,TL2,hlt,hD2,rfl⟩; refine Ab (L2:=(_::_::_::_::_::_::_::_)) rfl ?_
  refine Ek6 0 2 7 53 62 66 rfl ?_
  exact ⟨rfl,pend,m2,_,_,_,_,_,_,_,_,hlt,hD2,rfl⟩
 refine Cr<|Aa (Dx (b:=((2 : Nat) : Int)) rfl rfl) rfl<|Ea rfl rfl<|Ek7 0 2 7 53 62 66 77 rfl<|Be rfl (fun h77 => ?_) (fun h77 => ?_)
 ·have hty : takeB dt (p + 1) 2 = 2 := by omega
  refine Ap<|Cr<|Em rfl rfl<|Em rfl rfl ?_
  refine Ak (Au rfl Tryz.call93 (readHuffman_in hs hc src dt fb ab cb _ _ _ _ _ _ _ _ _ g1 g2 g3 (p + 1 + 2) q _ _ _ av cs c1 c2 hav hcs hr1 hr2 hA hB3 (by omega) _ _ _)) rfl ?_; rintro _ _ ⟨e5,y1,y2,y3,a5,b5,cc5,ev5,av2,cs2,J5,rfl,hav2,hcs2,rfl,hRh⟩; refine Ab (L2:=(_::_::_::_::_::_::_::_::_::_::_::_)) rfl ?_
  refine Aa (Ad rfl) rfl<|Aa (Ae rfl Ee) rfl ?_
  refine Ao (Aq 4 (k:=3) rfl rfl rfl (one_er _) rfl Tz58) ?_; rintro _ _ ⟨rfl,rfl⟩; refine Ab (L2:=(_::_::_::_::_::_::_::_::_::_::_::_)) rfl ?_
  refine Ek7 0 2 7 53 62 66 77 rfl<|Cr<|Em rfl rfl<|Aa (Ad rfl) rfl<|Aa (Ae rfl Ee) rfl<|Ah (An 4 (k:=3) rfl rfl rfl Ta58) rfl<|Ah (Dg rfl) rfl<|Ek8 0 2 7 53 62 66 77 88 rfl<|Dp rfl (fun h88 => ?_) (fun h88 => ?_)
  ·obtain ⟨hb5,hdn,⟨lx,hAx⟩,z1,z2,hz1,hz2,rfl⟩ := hRh.resolve_left fun h => h88 h.1
   refine Bu rfl ?_
   exact ⟨rfl,[],0,_,_,_,_,_,_,_,_,.inr (by omega),.inr (.inr (.inr ⟨rfl,⟨out,.bad,_,trv,h,wr,rd,full,.inr ⟨rfl,hb5,_,hAx⟩,⟨_,_,_,rfl⟩,hW,⟨_,_,_,_,_,_,_,rfl⟩,hR.trans (run_next2n h3 hty hdn),.inl rfl⟩,⟨ab,cb,ws,av2,cs2,z1,z2,hws,hav2,hcs2,hz1,hz2,rfl⟩⟩)),rfl⟩
  obtain ⟨_,t,p2,q2,b2,nb2,ro2,HL,HD,hdy,hA2,hB2,hn2,hLt,hDt,rfl,rfl,rfl,rfl,rfl⟩ := hRh.resolve_right fun h => h.1.2 h88
  subst h88
  have hp2 := dynR_lt hdy
  have h28 := hB2.at8
  have h2l := hB2.le
  have hR1 : R = run dt (.sym last t) out p2 := by rw [hR,run_next2 h3 hty hdy (by omega),← hlast]
  refine Ar<|Cr<|Em rfl rfl<|Em rfl rfl<|Aa (Ad rfl) rfl<|Aa (Ae rfl fa186_5) rfl<|Aa (Ad rfl) rfl<|Aa (Ae rfl fa186_16) rfl ?_
  refine Ao (Aq 4 (k:=5) rfl rfl rfl rfl rfl Tryz.sizeOf184) ?_; rintro _ _ ⟨rfl,rfl⟩; refine Ab (L2:=(_::_::_::_::_::_::_::_::_::_::_::_)) rfl ?_
  refine Ek8 0 2 7 53 62 66 77 88 rfl<|Cr<|Em rfl rfl<|Em rfl rfl<|Aa (Ad rfl) rfl<|Aa (Ae rfl fa186_6) rfl<|Aa (Ad rfl) rfl<|Aa (Ae rfl fa186_17) rfl ?_
  refine Ao (Aq 4 (k:=6) rfl rfl rfl rfl rfl Tryz.sizeOf184) ?_; rintro _ _ ⟨rfl,rfl⟩; refine Ab (L2:=(_::_::_::_::_::_::_::_::_::_::_::_)) rfl ?_
  refine Ek8 0 2 7 53 62 66 77 88 rfl<|Al<|Em rfl rfl ?_
  refine Ak (Au rfl Tryz.call92 (sym_step (m:=8 * dt.length - p + 1) hs hA2 hB2 (by omega) hW (.inl ⟨hss,hR1⟩) (symTL_own hws hav2 hcs2 hLt hDt) (by omega) (by omega))) rfl ?_; rintro _ _ ⟨rfl,pend,m2,y1,y2,y3,Ay,Ty,Wy,Hy,TL2,hlt,hD2,rfl⟩; refine Ab (L2:=(_::_::_::_::_::_::_::_)) rfl ?_
  refine Ek8 0 2 7 53 62 66 77 88 rfl ?_
  exact ⟨rfl,pend,m2,_,_,_,_,_,_,_,_,hlt,hD2,rfl⟩
 have hty : takeB dt (p + 1) 2 = 3 := by omega
 refine Al<|Em rfl rfl<|Em rfl rfl<|Aa (Ad rfl) rfl<|Aa (Ae rfl Fe) rfl<|Ah (An 3 (k:=2) rfl rfl rfl Ta2) rfl<|Aa (Ej rfl Hj) rfl<|Am (v:=Er.val ea (.corrupt _)) (rfl)<|Aa (Ad rfl) rfl<|Aa (Ae rfl Ee) rfl ?_
 refine Ao (Aq 4 (k:=3) rfl rfl rfl rfl rfl Tz58) ?_; rintro _ _ ⟨rfl,rfl⟩; refine Ab (L2:=[_,_,_,_,_,_,_,_,_,_,_,_,_]) rfl ?_
 refine Ek7 0 2 7 53 62 66 77 rfl ?_
 exact ⟨rfl,[],0,_,_,_,_,_,_,_,_,.inr (by omega),.inr (.inr (.inr ⟨rfl,⟨out,.bad,_,trv,h,wr,rd,full,.inr ⟨rfl,Et _,_,hA⟩,⟨_,_,_,rfl⟩,hW,⟨_,_,_,_,_,_,_,rfl⟩,hR.trans (run_next3 h3 (by omega) (by omega) (by omega)),.inl rfl⟩,RawTL.junk ⟨ab,cb,ws,av,cs,c1,c2,hws,hav,hcs,hr1,hr2,rfl⟩⟩)),rfl⟩
theorem nextBlock_step {K : Known} {ea : Fin 5 → Addr} (hs : Sents K ea) (hc : Codes K) {src : Src K ea} {dt : List UInt8} {fb hb : Nat} {R : ResR} {gv p : Nat} {x1 x2 x3 A T W H : Frag} {TL : Frags}
    (hN : NextSt src dt fb hb R gv [] p x1 x2 x3 A T W H) (hTL : RawTL fb TL) : Fn Tryz.prog K 82 #[.pointer (some ⟨fb,0,none⟩)] (x1::x2::x3::A::T::W::H::TL) (StepEnd src dt fb hb R gv (8 * dt.length - p + 1)) := by
  obtain ⟨q,nb,out,trv,h,wr,rd,full,ss,fin,hl,hd,cl,cd,⟨hA,b,ro,hB,rfl⟩,hn,hW,rfl,hss,hR⟩ := hN
  obtain ⟨ab,cb,ws,av,cs,c1,c2,h1,h2,h3,h4,h5,rfl⟩ := hTL
  have hWA := hW.isA
  have hWB := hW.isB
  subst hWA hWB
  exact nextBlock_walk hs hc src dt fb hb R gv fin hl hd trv x1 x2 x3 p q b nb ro out h wr rd full ss cl cd ab cb ws av cs c1 c2 h1 h2 h3 h4 h5 hA hB hn hW hss hR
theorem step_spec {K : Known} {ea : Fin 5 → Addr} (hs : Sents K ea) (hc : Codes K) {src : Src K ea} {dt : List UInt8} {fb hb : Nat} {R : ResR} {gv m k : Nat} {x1 x2 x3 A W H : Frag} {vs : List Value} {TL : Frags}
    (D : DecSt src dt fb hb R gv [] m x1 x2 x3 A ⟨fb,1045,.func (.func k) #[] #[]::vs⟩ W H TL) (hm : 0 < m) :
    Fn Tryz.prog K k #[.pointer (some ⟨fb,0,none⟩)] (x1::x2::x3::A::⟨fb,1045,.func (.func k) #[] #[]::vs⟩::W::H::TL) (StepEnd src dt fb hb R gv m) := by
  generalize hT : (⟨fb,1045,.func (.func k) #[] #[]::vs⟩ : Frag) = T at D ⊢
  rcases D with ⟨p,rfl,hN,hTL⟩ | ⟨rfl,t,last,hl,hd,⟨p,q,nb,out,trv,h,wr,rd,full,ss,cl,cd,⟨hA,b,ro,hB,rfl⟩,hn,hW,rfl,hR⟩,hTL⟩ | ⟨rfl,q,⟨out,trv,h,wr,rd,full,ss,last,hl,hd,cl,cd,⟨hA,b,ro,hB,rfl⟩,hW,rfl,hss,hcl,hR⟩,hTL⟩ | ⟨rfl,_⟩
  · have hk : k = 82 := by
      obtain ⟨q,nb,out,trv,h,wr,rd,full,ss,fin,hl,hd,cl,cd,_,_,_,rfl,_⟩ := hN
      simp only [ptF,Frag.mk.injEq,List.cons.injEq,Value.func.injEq,Go.Fn.func.injEq] at hT
      exact hT.2.2.1.1
    subst hk
    exact nextBlock_step hs hc hN hTL
  · have hk : k = 92 := by
      simp only [ptF,Frag.mk.injEq,List.cons.injEq,Value.func.injEq,Go.Fn.func.injEq] at hT
      exact hT.2.2.1.1
    subst hk
    clear hT
    have hWA := hW.isA
    have hWB := hW.isB
    subst hWA hWB
    exact sym_step hs hA hB hn hW hR hTL (by omega) (by omega)
  · have hk : k = 97 := by
      simp only [ptF,Frag.mk.injEq,List.cons.injEq,Value.func.injEq,Go.Fn.func.injEq] at hT
      exact hT.2.2.1.1
    subst hk
    clear hT
    have hsum := hW.sum
    obtain ⟨a0,c0,htr⟩ := hW.tr.nilv
    have hWA := hW.isA
    have hWB := hW.isB
    have hq := hB.le
    subst hWA hWB
    have hb0 : b = 0 := by have := hB.lt; omega
    subst hb0
    refine Fn.mono (Fn.frame (F:=TL) (copyData_spec hs src dt fb hb R gv last hl hd _ a0 c0 trv htr x1 x2 x3 q ro out h wr rd full ss cl cd hA hq hW.hist hW.rdLe hW.wrLt (by simpa using hsum) hss hcl hR)) ?_
    rintro v L' ⟨L1,⟨rfl,y1,y2,y3,A,T,W,H,rfl,hE⟩,rfl⟩
    rcases hE with ⟨pend,q2,hne,hS⟩ | ⟨p2,hlt,hN⟩ | ⟨pend,hE⟩
    · exact ⟨rfl,pend,_,y1,y2,y3,A,T,W,H,_,.inl hne,.inr (.inr (.inl ⟨rfl,q2,hS,hTL⟩)),rfl⟩
    · exact ⟨rfl,[],_,y1,y2,y3,A,T,W,H,TL,.inr (by omega),.inl ⟨p2,rfl,hN,hTL⟩,rfl⟩
    · exact ⟨rfl,pend,_,y1,y2,y3,A,T,W,H,TL,.inr (by omega),.inr (.inr (.inr ⟨rfl,hE,hTL.junk⟩)),rfl⟩
  · exact absurd hm (Nat.lt_irrefl 0)
set_option maxHeartbeats 1000000
theorem reads_win {K : Known} {L : Frags} {hb i off : Nat} {h pend : List UInt8} (hL : L[i]? = some ⟨hb,0,bytesV h⟩) (hw : (h.drop off).take pend.length = pend) : Reads K L hb off (bytesV pend) := by
  have := Reads.frag (H0:=K) hL (k:=off) (vs:=bytesV pend) (by rw [Bp]; unfold bytesV; rw [← List.map_drop,← List.map_take,hw])
  simpa using this
def DecOk {K : Known} {ea : Fin 5 → Addr} (src : Src K ea) (dt : List UInt8) (fb : Nat) (R : ResR) (gv : Nat) (L : Frags) : Prop :=
  ∃ hb pend m x1 x2 x3 A T W H TL,DecSt src dt fb hb R gv pend m x1 x2 x3 A T W H TL ∧ (m = 0 → gv + pend.length = R.1.length) ∧ L = x1::x2::x3::A::T::W::H::TL
def DecFin {K : Known} {ea : Fin 5 → Addr} (src : Src K ea) (dt : List UInt8) (fb : Nat) (R : ResR) (er : Er) (L : Frags) : Prop :=
  ∃ hb x1 x2 x3 A T W H TL,DecSt src dt fb hb R R.1.length [] 0 x1 x2 x3 A T W H TL ∧ EndOk src dt R.2 er x1 x2 x3 ∧ L = x1::x2::x3::A::T::W::H::TL
def ReadEnd {K : Known} {ea : Fin 5 → Addr} (src : Src K ea) (dt : List UInt8) (fb : Nat) (R : ResR) (gv pb po n : Nat) (cs : List Value) (r : Value) (L : Frags) : Prop :=
  ∃ k er L1,r = .tuple #[.int .i64 ((k : Nat) : Int),Er.val ea er] ∧ k ≤ n ∧ k ≤ (R.1.drop gv).length ∧ L = L1 ++ [⟨pb,po,bytesV ((R.1.drop gv).take k) ++ cs.drop k⟩] ∧
    ((er = .none ∧ 0 < k ∧ DecOk src dt fb R (gv + k) L1) ∨ (er ≠ .none ∧ gv + k = R.1.length ∧ DecFin src dt fb R er L1))
theorem pend_take {R pend : List UInt8} {gv n : Nat} (h : pend = (R.drop gv).take pend.length) : pend.take n = (R.drop gv).take (Nat.min pend.length n) := by
  conv => lhs; rw [h]
  rw [List.take_take,Nat.min_comm]
theorem same_last (x1 x2 x3 A T W H B : Frag) (TL : Frags) : Same (x1::x2::x3::A::T::W::H::B::TL) ((x1::x2::x3::A::T::W::H::TL) ++ [B]) :=
  Same.perm (List.Perm.append_left [x1,x2,x3,A,T,W,H] (List.perm_append_comm (l₁:=[B])))
def mz (pend : List UInt8) (m : Nat) : Nat := if pend = [] then m else 0
theorem mz_step {pend : List UInt8} {m m2 : Nat} (hm : 0 < m) (h : pend ≠ [] ∨ m2 < m) : mz pend m2 < mz [] m := by
  unfold mz
  rw [if_pos rfl]
  split
  · rename_i h1; exact h.resolve_left fun h2 => h2 h1
  · exact hm
theorem step_in {K : Known} {ea : Fin 5 → Addr} (hs : Sents K ea) (hc : Codes K) {src : Src K ea} {dt : List UInt8} {fb hb : Nat} {R : ResR} {gv m k : Nat} {x1 x2 x3 A W H : Frag} {vs : List Value} {TL : Frags}
    (D : DecSt src dt fb hb R gv [] m x1 x2 x3 A ⟨fb,1045,.func (.func k) #[] #[]::vs⟩ W H TL) (hm : 0 < m) (B : Frag) :
    Fn Tryz.prog K k #[.pointer (some ⟨fb,0,none⟩)] (x1::x2::x3::A::⟨fb,1045,.func (.func k) #[] #[]::vs⟩::W::H::B::TL) fun r L =>
      r = .tuple #[] ∧ ∃ pend m2 y1 y2 y3 A T W H TL,(pend ≠ [] ∨ m2 < m) ∧ DecSt src dt fb hb R gv pend m2 y1 y2 y3 A T W H TL ∧ L = y1::y2::y3::A::T::W::H::B::TL := by
  refine Fn.lose (Fn.perm (List.Perm.append_left [x1,x2,x3,A,_,W,H] (List.perm_append_comm (l₁:=[B]))) (Fn.frame (F:=[B]) (step_spec hs hc D hm))) ?_
  rintro v L ⟨L1,⟨rfl,pend,m2,y1,y2,y3,A,T,W,H,TL,h1,h2,rfl⟩,rfl⟩
  exact ⟨_,[],((same_last y1 y2 y3 A T W H B TL).symm).trans (Same.of_eq (List.append_nil _).symm),rfl,pend,m2,y1,y2,y3,A,T,W,H,TL,h1,h2,rfl⟩
theorem all_drop {l : List UInt8} {n : Nat} (h : n = l.length) : l.drop n = [] := by rw [h,List.drop_length]
theorem decRead_walk {K : Known} {ea : Fin 5 → Addr} (hs : Sents K ea) (hc : Codes K) (src : Src K ea) (dt : List UInt8) (fb hb : Nat) (R : ResR) (gv pb po n c : Nat) (cs : List Value) (hn : n = cs.length) (hn0 : 0 < n) (pend0 : List UInt8) (m0 : Nat) (x1 x2 x3 A Tf Wf Hf : Frag) (TL : Frags) (hD : DecSt src dt fb hb R gv pend0 m0 x1 x2 x3 A Tf Wf Hf TL) (hall0 : m0 = 0 → gv + pend0.length = R.1.length) : Fn Tryz.prog K 135 #[.pointer (some ⟨fb,0,none⟩),.slice (some ⟨pb,po,none⟩) (n) (c)] ([x1,x2,x3,A,Tf,Wf,Hf,⟨pb,po,cs⟩] ++ TL) (fun r L => ∃ L2 J,Same L (L2 ++ J) ∧ ReadEnd src dt fb R gv pb po n cs r L2) := by
 refine Fn.intro (args:=[.pointer (some ⟨fb,0,none⟩),.slice (some ⟨pb,po,none⟩) (n) (c)]) (RR:=Ret2 4 5 _) Tryz.func135 rfl rfl Tryz.ntmps135 (res2 Tryz.results135) ?_
 refine Bl (env2:=[(0,.pointer (some ⟨fb,0,none⟩)),(1,.slice (some ⟨pb,po,none⟩) (n) (c))]) rfl<|Cr<|Ea rfl rfl<|Aa (Bc (v:=Er.val ea .none) rfl) rfl<|Ek4 0 1 4 5 rfl<|Ax<|Bx (fun mm ee ll => ∃ (pend : List UInt8),∃ (m : Nat),∃ (x1 : Frag),∃ (x2 : Frag),∃ (x3 : Frag),∃ (A : Frag),∃ (Tf : Frag),∃ (Wf : Frag),∃ (Hf : Frag),∃ (TL : Frags),keeps ee [0,1] = some [(0,.pointer (some ⟨fb,0,none⟩)),(1,.slice (some ⟨pb,po,none⟩) (n) (c))] ∧ ll = [x1,x2,x3,A,Tf,Wf,Hf,⟨pb,po,cs⟩] ++ TL ∧ (DecSt src dt fb hb R gv pend m x1 x2 x3 A Tf Wf Hf TL) ∧ (m = 0 → gv + pend.length = R.1.length) ∧ mm = mz pend m) (_) ⟨pend0,m0,_,_,_,_,_,_,_,_,rfl,rfl,hD,hall0,rfl⟩ ?_
 rintro m0 _ _ ⟨pend,m,x1,x2,x3,A,Tf,Wf,Hf,TL,hk0,rfl,hD,hall0,hm0⟩
 refine Ba _ hk0<|Ax<|Ap<|Ap ?_
 obtain ⟨er,fv,c1,c2,c5,c6,c7,c8,trv,h,wr,rd,full,V⟩ := hD.view
 have hT := V.isT
 have hW := V.isW
 have hH := V.isH
 subst hT hW hH
 obtain ⟨a,ca,htv,hl32,hw⟩ := V.tr
 subst htv
 have hgl := V.gvLe
 have hpi := V.pendIs
 have hrl := V.rdLe
 have hwl := V.wrLt
 have hrlen : (R.1.drop gv).length = R.1.length - gv := List.length_drop
 refine Al<|Em rfl rfl<|Aa (Ad rfl) rfl<|Aa (Ae rfl Ga) rfl<|Ah (An 4 (k:=4) rfl rfl rfl Ta25) rfl<|Aa (Bk rfl Tu25) rfl<|Aa (Gg (b:=((0 : Nat) : Int)) rfl rfl) rfl<|Ek3 0 1 12 rfl<|Be rfl (fun h12 => ?_) (fun h12 => ?_)
 ·have hpos : 0 < pend.length := by omega
  obtain ⟨off,rfl,hwin,hcap⟩ := hw.resolve_left (fun h => by rw [h] at hpos; exact absurd hpos (Nat.lt_irrefl _))
  obtain ⟨k,hk⟩ : ∃ k,k = Nat.min pend.length n := ⟨_,rfl⟩
  have hkl : k ≤ pend.length := by rw [hk]; exact Nat.min_le_left _ _
  have hkn : k ≤ n := by rw [hk]; exact Nat.min_le_right _ _
  have hkp : 0 < k := by rw [hk]; exact Nat.lt_min.2 ⟨hpos,hn0⟩
  have hbuf : bytesV (pend.take n) ++ cs.drop (Nat.min pend.length n) = bytesV ((R.1.drop gv).take k) ++ cs.drop k := by rw [pend_take hpi,hk]
  have hpart : ∀ o2,some (⟨hb,off,none⟩ : Addr) = some ⟨hb,o2,none⟩ → k < pend.length → pend.length ≤ ca → some (⟨hb,part off k ca 1,none⟩ : Addr) = some ⟨hb,o2 + k,none⟩ ∧ pend.length - k ≤ ca - k := fun o2 e h1 h2 => by
    cases e
    exact ⟨by rw [part,if_neg (by omega),Nat.mul_one],by omega⟩
  refine Cr<|Em rfl rfl<|Em rfl rfl<|Aa (Ad rfl) rfl<|Aa (Ae rfl Ga) rfl<|Ah (An 4 (k:=4) rfl rfl rfl Ta25) rfl ?_
  refine Ak (X.copyB 7 (l:=pend) rfl rfl rfl rfl (.inr ⟨hb,off,rfl,reads_win (i:=6) rfl hwin⟩) (by omega)) rfl ?_; rintro _ _ ⟨rfl,rfl⟩; refine Ab (L2:=(_::_::_::_::_::_::_::_::_)) rfl ?_
  refine Am (v:=.int .i64 ((k : Nat) : Int)) (by rw [hk])<|Ea rfl rfl<|Ek4 0 1 6 12 rfl<|Cr<|Em rfl rfl<|Em rfl rfl<|Aa (Ad rfl) rfl<|Aa (Ae rfl Ga) rfl<|Ah (An 4 (k:=4) rfl rfl rfl Ta25) rfl<|Em rfl rfl<|Aa (S.slL rfl rfl (by omega) Tu25 Tz5) rfl<|Aa (Ad rfl) rfl ?_
  refine Aa (Ae rfl Ga) rfl ?_
  refine Ao (Aq 4 (k:=4) rfl rfl rfl rfl rfl Tz25) ?_; rintro _ _ ⟨rfl,rfl⟩; refine Ab (L2:=(_::_::_::_::_::_::_::_::_)) rfl ?_
  refine Ek4 0 1 6 12 rfl<|Ap<|Cr<|Em rfl rfl<|Aa (Ad rfl) rfl<|Aa (Ae rfl Ga) rfl<|Ah (An 4 (k:=4) rfl rfl rfl Ta25) rfl<|Aa (Bk rfl Tu25) rfl<|Aa (Dx (b:=((0 : Nat) : Int)) rfl rfl) rfl<|Ek5 0 1 6 12 33 rfl<|Be rfl (fun h33 => ?_) (fun h33 => ?_)
  ·refine Ap<|Br [0,0,2,4,8,1,63] (.pure 0 30 (.pure 1 33 (.pure 2 35 (.pure 3 39 (.pure 5 31 (.seg [(4,47),(6,63)] .done)))))) mixed (by decide +kernel)<|Dm rfl rfl rfl<|Dm rfl rfl rfl<|Ai rfl (Ad rfl) rfl<|Ai rfl (Ae rfl Ee) rfl<|Ai rfl (Bc rfl) rfl<|Dc (by decide)<|Az rfl (An 4 (k:=3) rfl rfl rfl Ta58) rfl<|Bg rfl (Bc rfl) rfl<|Db<|Dk7 0 1 4 5 6 12 33 rfl ?_
   refine Av ?_
   have hk : k = pend.length := by omega
   have hg := V.give k _ hkl (V.tr.drop hkl hpart)
   rw [show pend.drop k = [] from all_drop hk] at hg
   rcases V.kind with ⟨rfl,hmp,_⟩ | ⟨hne,rfl,hE,hall⟩
   · exact ⟨_,_,rfl,rfl,_,[],((same_last _ _ _ _ _ _ _ _ _).trans (Same.of_eq (List.append_nil _).symm)),k,.none,_,rfl,by omega,by omega,congrArg (fun z => _ ++ [(⟨pb,po,z⟩ : Frag)]) hbuf,.inl ⟨rfl,by omega,hb,[],m,_,_,_,_,_,_,_,_,hg,fun h => absurd hmp (by omega),rfl⟩⟩
   · have hgk : gv + k = R.1.length := by
       rcases hall with h | h
       · rw [h] at hpos; exact absurd hpos (Nat.lt_irrefl _)
       · omega
     rw [hgk] at hg
     exact ⟨_,_,rfl,rfl,_,[],((same_last _ _ _ _ _ _ _ _ _).trans (Same.of_eq (List.append_nil _).symm)),k,er,_,rfl,by omega,by omega,congrArg (fun z => _ ++ [(⟨pb,po,z⟩ : Frag)]) hbuf,.inr ⟨hne,hgk,hb,_,_,_,_,_,_,_,_,hg,hE,rfl⟩⟩
  refine Ar<|Cr<|Em rfl rfl<|Ea rfl rfl<|Aa (Bc (v:=Er.val ea .none) rfl) rfl<|Ek7 0 1 4 5 6 12 33 rfl<|Av ?_
  have hg := V.give k _ hkl (V.tr.drop hkl hpart)
  exact ⟨_,_,rfl,rfl,_,[],((same_last _ _ _ _ _ _ _ _ _).trans (Same.of_eq (List.append_nil _).symm)),k,.none,_,rfl,by omega,by omega,congrArg (fun z => _ ++ [(⟨pb,po,z⟩ : Frag)]) hbuf,.inl ⟨rfl,by omega,hb,_,m,_,_,_,_,_,_,_,_,hg,fun h => by have := hall0 h; rw [List.length_drop]; omega,rfl⟩⟩
 have hp0 : pend = [] := List.eq_nil_of_length_eq_zero (by omega)
 subst hp0
 refine Ar<|Ap<|Cr<|Em rfl rfl<|Aa (Ad rfl) rfl<|Aa (Ae rfl Ee) rfl<|Ah (An 4 (k:=3) rfl rfl rfl Ta58) rfl<|Ah (Dg rfl) rfl<|Ek4 0 1 12 44 rfl<|Dp rfl (fun h44 => ?_) (fun h44 => ?_)
 ·refine Ap<|Br [0,1,2,4,0,31] (.pure 0 16 (.pure 1 17 (.pure 2 19 (.pure 4 15 (.seg [(3,23),(5,31)] .done))))) mixed (by decide +kernel)<|Dm rfl rfl rfl<|Ai rfl (Ad rfl) rfl<|Ai rfl (Ae rfl Ee) rfl<|Ai rfl (Bc rfl) rfl<|Dc (by decide)<|Az rfl (An 4 (k:=3) rfl rfl rfl Ta58) rfl<|Bg rfl (Bc rfl) rfl<|Db<|Dk6 0 1 4 5 12 44 rfl<|Av ?_
  obtain ⟨hne,rfl,hE,_⟩ := V.kind.resolve_left fun h => h44 h.1
  have hg0 := hall0 rfl
  simp only [List.length_nil,Nat.add_zero] at hg0
  have hD3 := hD
  rw [hg0] at hD3
  exact ⟨_,_,rfl,rfl,_,[],((same_last _ _ _ _ _ _ _ _ _).trans (Same.of_eq (List.append_nil _).symm)),0,er,_,rfl,Nat.zero_le _,Nat.zero_le _,rfl,.inr ⟨hne,by omega,hb,_,_,_,_,_,_,_,_,hD3,hE,rfl⟩⟩
 obtain ⟨_,hmp,kk,hfv,hkk⟩ := V.kind.resolve_right fun h => h.1 h44
 subst hfv
 have hcal : ∀ args w,(callFunc kk args).run Tryz.prog w = .ok (.enter kk args) w := by rcases hkk with rfl | rfl | rfl; exact Tryz.call82; exact Tryz.call92; exact Tryz.call97
 refine Ar<|Cr<|Em rfl rfl<|Aa (Ad rfl) rfl<|Aa (Ae rfl Ho) rfl<|Ah (An 4 (k:=0) rfl rfl rfl Tryz.isAgg183) rfl<|Em rfl rfl ?_
 refine Ak (X.callv rfl rfl hcal (step_in hs hc hD hmp _)) rfl ?_; rintro _ _ ⟨rfl,pend2,m2,y1,y2,y3,A2,T2,W2,H2,TL2,hlt,hD2,rfl⟩; refine Ab (L2:=(_::_::_::_::_::_::_::_::_)) rfl ?_
 refine Ek4 0 1 12 44 rfl ?_
 obtain ⟨er2,fv2,c12,c22,c52,c62,c72,c82,trv2,h2,wr2,rd2,full2,V2⟩ := hD2.view
 have hT2 := V2.isT
 have hW2 := V2.isW
 have hH2 := V2.isH
 subst hT2 hW2 hH2
 obtain ⟨a2,ca2,htv2,hl322,hw2⟩ := V2.tr
 subst htv2
 have hgl2 := V2.gvLe
 have hrl2 := V2.rdLe
 have hwl2 := V2.wrLt
 refine Cr<|Em rfl rfl<|Aa (Ad rfl) rfl<|Aa (Ae rfl Ee) rfl<|Ah (An 4 (k:=3) rfl rfl rfl Ta58) rfl<|Ah (Dg rfl) rfl<|Em rfl rfl<|E.forkB (fun g60 => ?_) (fun g60 => ?_)
 ·have he2 : er2 ≠ .none := fun h => by rw [h] at g60; exact absurd g60 (by decide)
  refine Aj 60 rfl rfl<|Em rfl rfl<|Aj 60 rfl rfl<|Aa (Ad rfl) rfl<|Aj 60 rfl rfl<|Aa (Ae rfl Ga) rfl<|Aj 60 rfl rfl<|Ah (An 4 (k:=4) rfl rfl rfl Ta25) rfl<|Aj 60 rfl rfl<|Aa (Bk rfl Tu25) rfl<|Aj 60 rfl rfl<|Aa (Dx (b:=((0 : Nat) : Int)) rfl rfl) rfl ?_
  refine Aa (By rfl rfl) rfl<|Ek5 0 1 12 44 67 rfl<|Be rfl (fun h67 => ?_) (fun h67 => ?_)
  ·have hp2 : pend2 = [] := List.eq_nil_of_length_eq_zero (by omega)
   refine Al<|Em rfl rfl<|Em rfl rfl<|Aa (Ad rfl) rfl<|Aa (Ae rfl Fd) rfl ?_
   refine Ak (OpX.pick [5] (F:=(_::_::_::_::_::_::_::_)) rfl (Au rfl Tryz.call95 (Ff fb 1037 hb wr2 rd2 full2 hrl2 (by omega)))) rfl ?_; rintro _ _ ⟨_,⟨Aw,hfl,rfl⟩,rfl⟩; refine Ab (L2:=(_::_::_::_::_::_::_::_::_)) rfl ?_
   refine Bt [1,1,1,1,1,0,0,0] rfl<|Ab (L2:=(_::_::_::_::_::_::_::_::_)) rfl<|Aa (Ad rfl) rfl<|Aa (Ae rfl Ga) rfl ?_
   refine Ao (Aq 4 (k:=4) rfl rfl rfl (Hz hfl) rfl Tz25) ?_; rintro _ _ ⟨rfl,rfl⟩; refine Ab (L2:=(_::_::_::_::_::_::_::_::_)) rfl ?_
   refine Ek5 0 1 12 44 67 rfl ?_
   refine ⟨_,?_,R.1.drop gv,0,_,_,_,_,_,_,_,_,rfl,rfl,V2.flush _ _ he2 hp2 hfl,fun _ => (by rw [hrlen]; omega),rfl⟩; rw [hm0]; exact mz_step hmp (.inr hmp)
  refine Ar ?_
  have hne2 : pend2 ≠ [] := fun h => by rw [h] at h67; exact h67 rfl
  obtain ⟨_,hm20,_,hal2⟩ := V2.kind.resolve_left fun h => he2 h.1
  refine ⟨_,?_,pend2,m2,_,_,_,_,_,_,_,_,rfl,rfl,hD2,fun _ => hal2.resolve_left hne2,rfl⟩; rw [hm0]; exact mz_step hmp hlt
 have he2 : er2 = .none := Er.isNone_iff.1 (by simpa using g60)
 refine Ag 60 false rfl rfl rfl rfl<|Ag 60 false rfl rfl rfl rfl<|Ag 60 false rfl rfl rfl rfl<|Ag 60 false rfl rfl rfl rfl<|Ag 60 false rfl rfl rfl rfl<|Ag 60 false rfl rfl rfl rfl<|Aa (Bs rfl rfl) rfl<|Ek5 0 1 12 44 67 rfl<|Gw rfl (rfl)<|Ar ?_
 obtain ⟨_,hm20,_⟩ := V2.kind.resolve_right fun h => h.1 he2
 refine ⟨_,?_,pend2,m2,_,_,_,_,_,_,_,_,rfl,rfl,hD2,fun h => absurd hm20 (by omega),rfl⟩; rw [hm0]; exact mz_step hmp hlt
set_option maxHeartbeats 1000000
theorem D.same {P : Program} {K : Known} {n : Nat} {ops : Array Oper} {ds : List Nat} {p : Plan} {env : Env} {L L2 : Frags} {N : Post} (s : Same L L2) (h : wpD P K n ops ds p env L2 N) : wpD P K n ops ds p env L N :=
  fun fuel listed l h0 h00 h1 h2 a w hf hw Nw k => h fuel listed l h0 h00 h1 h2 a w hf ((s.agree K _).1 hw) Nw fun e l a w h f t => k e l a w h f (t.sameL s)
theorem fill_four {place : Nat → Option (Nat × Nat)} {cells : Array Value} {i off : Nat} {a b c d : Value} {rest : List (Nat × Value)} (h1 : place i = some (off,4)) (ho : off + 4 ≤ cells.size) :
    Instr.fill place cells ((i,.agg #[a,b,c,d])::rest) = Instr.fill place ((((cells.setIfInBounds off a).setIfInBounds (off + 1) b).setIfInBounds (off + 2) c).setIfInBounds (off + 3) d) rest := by
  rw [Instr.fill,h1]
  have e : (Value.agg #[a,b,c,d]).cells = #[a,b,c,d] := rfl
  simp only [e]
  rw [if_neg (by simp; omega)]
  rfl
theorem zcSize : (Value.agg Tryz.zeroCells186).cells.size = 1054 := by kernel_rfl
theorem zcSet (ab cb : Nat) (v1 v2 v3 v4 : Value) : ((((((((((Value.agg Tryz.zeroCells186).cells.setIfInBounds 1 (.pointer none)).setIfInBounds 1035 (.pointer (some ⟨ab,0,none⟩))).setIfInBounds 1036 (.pointer (some ⟨cb,0,none⟩))).setIfInBounds 1037 v1).setIfInBounds (1037 + 1) v2).setIfInBounds (1037 + 2) v3).setIfInBounds (1037 + 3) v4).setIfInBounds 1045 (.func (.func 82) #[] #[])) : Array Value) =
    (([[.nilIface,.pointer none,.int .i64 0,.int .u32 0,.int .u64 0],[.int .i64 0],(List.replicate 512 (.int .u32 0)),[.slice none 0 0,.int .u32 0],[.int .i64 0],(List.replicate 512 (.int .u32 0)),[.slice none 0 0,.int .u32 0],[.pointer (some ⟨ab,0,none⟩),.pointer (some ⟨cb,0,none⟩)],[v1,v2,v3,v4],[.int .u8 0,.int .u8 0,.int .u8 0,.int .u8 0],[.func (.func 82) #[] #[],.int .i64 0,.bool false,.nilIface,.slice none 0 0,.pointer none,.pointer none,.int .i64 0,.int .i64 0]] : List (List Value)).flatten).toArray := by
  apply Array.ext'
  simp only [Array.toList_setIfInBounds]
  rw [zcDec]
  kernel_rfl
theorem resetBuild (ab cb hb wr rd : Nat) (full : Bool) (w : World) : (Instr.build 186 [(1,.pointer none),(7,.pointer (some ⟨ab,0,none⟩)),(8,.pointer (some ⟨cb,0,none⟩)),(9,.agg #[.slice (some ⟨hb,0,none⟩) 32768 32768,.int .i64 ((wr : Nat) : Int),.int .i64 ((rd : Nat) : Int),.bool full]),(11,.func (.func 82) #[] #[])].toArray).run Tryz.prog w = .ok (.agg (([[.nilIface,.pointer none,.int .i64 0,.int .u32 0,.int .u64 0],[.int .i64 0],(List.replicate 512 (.int .u32 0)),[.slice none 0 0,.int .u32 0],[.int .i64 0],(List.replicate 512 (.int .u32 0)),[.slice none 0 0,.int .u32 0],[.pointer (some ⟨ab,0,none⟩),.pointer (some ⟨cb,0,none⟩)],[.slice (some ⟨hb,0,none⟩) 32768 32768,.int .i64 ((wr : Nat) : Int),.int .i64 ((rd : Nat) : Int),.bool full],[.int .u8 0,.int .u8 0,.int .u8 0,.int .u8 0],[.func (.func 82) #[] #[],.int .i64 0,.bool false,.nilIface,.slice none 0 0,.pointer none,.pointer none,.int .i64 0,.int .i64 0]] : List (List Value)).flatten).toArray) w := by
  simp [Instr.build,Tryz.zeroValue186]
  rw [fill_one (off:=1) rfl rfl (by rw [zcSize]; decide),fill_one (off:=1035) rfl rfl (by simp only [Array.size_setIfInBounds,zcSize]; decide),fill_one (off:=1036) rfl rfl (by simp only [Array.size_setIfInBounds,zcSize]; decide),fill_four (off:=1037) rfl (by simp only [Array.size_setIfInBounds,zcSize]; decide),
    fill_one (off:=1045) rfl rfl (by simp only [Array.size_setIfInBounds,zcSize]; decide),fill_nil]
  rw [zcSet]
  rfl
theorem dictInit_old {K : Known} (fb o hb : Nat) (h : List UInt8) (hl : h.length = 32768) (c1 c2 c3 : Value) : Fn Tryz.prog K 83 #[.pointer (some ⟨fb,o,none⟩),.int .i64 ((32768 : Nat) : Int),.slice none 0 0] ([⟨hb,0,bytesV h⟩,⟨fb,o,[.slice (some ⟨hb,0,none⟩) 32768 32768,c1,c2,c3]⟩]) (fun r L => r = .tuple #[] ∧ L = [⟨hb,0,bytesV h⟩,⟨fb,o,[.slice (some ⟨hb,0,none⟩) 32768 32768,.int .i64 0,.int .i64 0,.bool false]⟩]) := by
 refine Fn.intro (args:=[.pointer (some ⟨fb,o,none⟩),.int .i64 ((32768 : Nat) : Int),.slice none 0 0]) (RR:=Ret0 _) Tryz.func83 rfl rfl Tryz.ntmps83 (res0 Tryz.results83) ?_
 refine Bl (env2:=[(0,.pointer (some ⟨fb,o,none⟩)),(1,.int .i64 ((32768 : Nat) : Int)),(2,.slice none 0 0)]) rfl<|Cr<|Em rfl rfl<|Em rfl rfl<|Aa (Ad rfl) rfl<|Aa (Ae rfl Dz) rfl<|Ah (An 1 (k:=0) rfl rfl rfl Ta25) rfl<|Aa (Eu (v:=.agg #[.slice (some ⟨hb,0,none⟩) 32768 32768,.int .i64 0,.int .i64 0,.bool false]) [(0,.slice (some ⟨hb,0,none⟩) 32768 32768)] rfl (fun w => by simp [Instr.build,Instr.fill,Value.cells,Tryz.zeroValue181])) rfl<|Aa (Ad rfl) rfl ?_
 refine Ao (Bi 1 (k:=0) rfl rfl rfl rfl rfl rfl Tryz.sizeOf181 rfl) ?_; rintro _ _ ⟨rfl,rfl⟩; refine Ab (L2:=[_,_]) rfl ?_
 refine Ek3 0 1 2 rfl<|Ap<|Cr<|Em rfl rfl<|Aa (Ad rfl) rfl<|Aa (Ae rfl Dz) rfl<|Ah (An 1 (k:=0) rfl rfl rfl Ta25) rfl<|Aa (S.capSl rfl Tu25) rfl<|Em rfl rfl<|Aa (Dk rfl rfl) rfl<|Am (v:=.bool false) (congrArg Value.bool (by decide))<|Ek4 0 1 2 19 rfl ?_
 refine Gw rfl (rfl)<|Ar<|Cr<|Em rfl rfl<|Em rfl rfl<|Aa (Ad rfl) rfl<|Aa (Ae rfl Dz) rfl<|Ah (An 1 (k:=0) rfl rfl rfl Ta25) rfl<|Em rfl rfl<|Aa (S.slH rfl rfl (by omega) Tu25 Tz5) rfl<|Am (v:=.slice (some ⟨hb,0,none⟩) 32768 32768) (Bo (by simp [part]) rfl rfl)<|Aa (Ad rfl) rfl ?_
 refine Aa (Ae rfl Dz) rfl ?_
 refine Ao (Aq 1 (k:=0) rfl rfl rfl rfl rfl Tz25) ?_; rintro _ _ ⟨rfl,rfl⟩; refine Ab (L2:=[_,_]) rfl ?_
 refine Ek4 0 1 2 19 rfl<|Ap<|Cr<|Em rfl rfl<|Aa (Bk rfl Tu25) rfl<|Em rfl rfl<|Aa (Ad rfl) rfl<|Aa (Ae rfl Dz) rfl<|Ah (An 1 (k:=0) rfl rfl rfl Ta25) rfl<|Aa (Bk rfl Tu25) rfl<|Aa (Gg rfl rfl) rfl<|Am (v:=.bool false) (congrArg Value.bool (by decide)) ?_
 refine Ek5 0 1 2 19 41 rfl<|Gw rfl (rfl)<|Ar<|Cr<|Em rfl rfl<|Em rfl rfl<|Aa (Ad rfl) rfl<|Aa (Ae rfl Dz) rfl<|Ah (An 1 (k:=0) rfl rfl rfl Ta25) rfl<|Em rfl rfl ?_
 refine Ak (X.copyB 0 (l:=[]) rfl rfl rfl rfl (.inl rfl) (by rw [Bp,hl]; exact Nat.le_refl _)) rfl ?_; rintro _ _ ⟨rfl,rfl⟩; refine Ab (L2:=[_,_]) rfl ?_
 refine Aa (Ad rfl) rfl<|Aa (Ae rfl Ex) rfl ?_
 refine Ao (Aq 1 (k:=1) rfl rfl rfl rfl rfl Tz3) ?_; rintro _ _ ⟨rfl,rfl⟩; refine Ab (L2:=[_,_]) rfl ?_
 refine Ek5 0 1 2 19 41 rfl<|Ap<|Ap<|Br [0,1,2,4,0,16,32,64,128,264] (.pure 0 496 (.pure 1 497 (.pure 2 499 (.pure 4 15 (.pure 5 31 (.pure 6 63 (.seg [(3,503),(7,127),(8,255),(9,511)] .done))))))) mixed (by decide +kernel)<|Dm rfl rfl rfl<|Ai rfl (Ad rfl) rfl<|Ai rfl (Ae rfl Ex) rfl<|Dm rfl rfl rfl<|Ai rfl (Ad rfl) rfl<|Ai rfl (Ae rfl Dz) rfl<|Dc (by decide)<|Az rfl (An 1 (k:=1) rfl rfl rfl Ta3) rfl ?_
 refine Az rfl (An 1 (k:=0) rfl rfl rfl Ta25) rfl<|Bg rfl (Bk rfl Tu25) rfl<|Bg rfl (Dx rfl rfl) rfl<|Dw (v:=.bool false) (congrArg Value.bool (by decide))<|Db<|Dk6 0 1 2 19 41 70 rfl<|Gw rfl (rfl)<|Ar<|Al<|Em rfl rfl<|Em rfl rfl<|Aa (Ad rfl) rfl ?_
 refine Aa (Ae rfl Ex) rfl<|Ah (An 1 (k:=1) rfl rfl rfl Ta3) rfl<|Aa (Ad rfl) rfl<|Aa (Ae rfl fa181_2) rfl ?_
 refine Ao (Aq 1 (k:=2) rfl rfl rfl rfl rfl Tz3) ?_; rintro _ _ ⟨rfl,rfl⟩; refine Ab (L2:=[_,_]) rfl ?_
 refine Ek6 0 1 2 19 41 70 rfl ?_
 exact ⟨rfl,rfl⟩
def DecRaw (fb : Nat) (L : Frags) : Prop := ∃ ab cb hb e0 e2 e3 e4 t9 wr rd full h ws av cs c1 c2,t9.length = 9 ∧ h.length = 32768 ∧ ws.length = 4 ∧ av.length = 316 ∧ cs.length = 19 ∧ c1.length = 515 ∧ c2.length = 515 ∧
  L = [⟨fb,0,[e0,.pointer none,e2,e3,e4]⟩,⟨fb,1045,t9⟩,⟨fb,1037,[.slice (some ⟨hb,0,none⟩) 32768 32768,.int .i64 ((wr : Nat) : Int),.int .i64 ((rd : Nat) : Int),.bool full]⟩,⟨hb,0,bytesV h⟩,⟨fb,1041,ws⟩,⟨fb,1035,[.pointer (some ⟨ab,0,none⟩),.pointer (some ⟨cb,0,none⟩)]⟩,⟨ab,0,av⟩,⟨cb,0,cs⟩,⟨fb,5,c1⟩,⟨fb,520,c2⟩]
def DecNew {K : Known} {ea : Fin 5 → Addr} (src : Src K ea) (fb : Nat) (L : Frags) : Prop := ∃ Af Tf Wf Hf TL,L = Af::Tf::Wf::Hf::TL ∧
  ∀ dt x1 x2 x3,src.At dt x1 x2 x3 → ∃ hb,DecSt src dt fb hb (run dt .next [] 0) 0 [] (8 * dt.length + 1) x1 x2 x3 Af Tf Wf Hf TL
def DcIn (dcv : Value) (DL : Frags) : Prop := (dcv = .nilIface ∧ DL = []) ∨ ∃ fb,dcv = .iface 190 (.pointer (some ⟨fb,0,none⟩)) ∧ DecRaw fb DL
theorem DecSt.rawd {K : Known} {ea : Fin 5 → Addr} {src : Src K ea} {dt : List UInt8} {fb hb : Nat} {R : ResR} {gv : Nat} {pend : List UInt8} {m : Nat} {x1 x2 x3 Af Tf Wf Hf : Frag} {TL : Frags} (D : DecSt src dt fb hb R gv pend m x1 x2 x3 Af Tf Wf Hf TL) :
    ∃ DL J,DecRaw fb DL ∧ ∀ G,Same (G ++ (Af::Tf::Wf::Hf::TL)) ((G ++ DL) ++ J) := by
  have mk : ∀ {TL : Frags} {v0 v1 : List Value} {h : List UInt8} {wr rd : Nat} {full : Bool},v1.length = 9 → h.length = 32768 → (∃ e0 e2 e3 e4,v0 = [e0,.pointer none,e2,e3,e4]) → JunkTL fb TL → DecRaw fb (⟨fb,0,v0⟩::⟨fb,1045,v1⟩::⟨fb,1037,[.slice (some ⟨hb,0,none⟩) 32768 32768,.int .i64 (((wr) : Nat) : Int),.int .i64 (((rd) : Nat) : Int),.bool full]⟩::⟨hb,0,bytesV (h)⟩::TL) := by
    rintro TL v0 v1 h wr rd full h1 h2 ⟨e0,e2,e3,e4,rfl⟩ ⟨ab,cb,ws,av,cs,c1,c2,h3,h4,h5,h6,h7,rfl⟩
    exact ⟨ab,cb,hb,e0,e2,e3,e4,v1,wr,rd,full,h,ws,av,cs,c1,c2,h1,h2,h3,h4,h5,h6,h7,rfl⟩
  have one : ∀ {DL L : Frags},DecRaw fb DL → DL = L → ∃ DL J,DecRaw fb DL ∧ ∀ G,Same (G ++ L) ((G ++ DL) ++ J) := by
    rintro DL L h rfl
    exact ⟨DL,[],h,fun G => by rw [List.append_nil]; exact Same.refl _⟩
  rcases D with ⟨p,rfl,⟨q,nb,out,trv,h,wr,rd,full,ss,fin,hl,hd,cl,cd,⟨hA,b,ro,hB,rfl⟩,hn,hW,rfl,hss,hR⟩,hT⟩ | ⟨rfl,t,last,hl,hd,⟨p,q,nb,out,trv,h,wr,rd,full,ss,cl,cd,⟨hA,b,ro,hB,rfl⟩,hn,hW,rfl,hR⟩,hT⟩ | ⟨rfl,q,⟨out,trv,h,wr,rd,full,ss,last,hl,hd,cl,cd,⟨hA,b,ro,hB,rfl⟩,hW,rfl,hss,hcl,hR⟩,hT⟩ | ⟨rfl,⟨out,e,er,trv,h,wr,rd,full,hE,⟨a0,b0,c0,rfl⟩,hW,⟨a,b,c,d,f,g,i,rfl⟩,hR,hall⟩,hT⟩
  · have hWA := hW.isA
    have hWB := hW.isB
    subst hWA hWB
    exact one (mk rfl hW.hist.len ⟨_,_,_,_,rfl⟩ hT.junk) rfl
  · have hWA := hW.isA
    have hWB := hW.isB
    subst hWA hWB
    obtain ⟨TL2,J,h2,_⟩ := hT.raw []
    have hs := fun G => hT.raw G
    obtain ⟨ab,cb,ws,av,cs,lb,lo,hp,HL,HD,RT,h1,h2,h3,rfl,rfl,h6,h7,rfl,c1,c2,J,h8,h9,hS⟩ := hT
    refine ⟨_,J,mk (TL:=[⟨fb,1041,ws⟩,⟨fb,1035,[.pointer (some ⟨ab,0,none⟩),.pointer (some ⟨cb,0,none⟩)]⟩,⟨ab,0,av⟩,⟨cb,0,cs⟩,⟨fb,5,c1⟩,⟨fb,520,c2⟩]) (v0:=[.iface src.t src.v,.pointer none,.int .i64 ro,.int .u32 ((b : Nat) : Int),.int .u64 ((nb : Nat) : Int)]) (v1:=[.func (.func 92) #[] #[],.int .i64 ((ss : Nat) : Int),.bool last,.nilIface,trv,.pointer (some ⟨lb,lo,none⟩),.pointer hp,.int .i64 ((cl : Nat) : Int),.int .i64 ((cd : Nat) : Int)]) (wr:=wr) (rd:=rd) (full:=full) rfl hW.hist.len ⟨_,_,_,_,rfl⟩ ⟨ab,cb,ws,av,cs,c1,c2,h1,h2,h3,Fl h8,Fl h9,rfl⟩,fun G => ?_⟩
    have := hS (G ++ [⟨fb,0,[.iface src.t src.v,.pointer none,.int .i64 (ro),.int .u32 (((b) : Nat) : Int),.int .u64 (((nb) : Nat) : Int)]⟩,⟨fb,1045,[.func (.func 92) #[] #[],.int .i64 (((ss) : Nat) : Int),.bool last,.nilIface,trv,(.pointer (some ⟨lb,lo,none⟩)),(.pointer hp),.int .i64 (((cl) : Nat) : Int),.int .i64 (((cd) : Nat) : Int)]⟩,⟨fb,1037,[.slice (some ⟨hb,0,none⟩) 32768 32768,.int .i64 (((wr) : Nat) : Int),.int .i64 (((rd) : Nat) : Int),.bool full]⟩,⟨hb,0,bytesV (h)⟩,⟨fb,1041,ws⟩,⟨fb,1035,[.pointer (some ⟨ab,0,none⟩),.pointer (some ⟨cb,0,none⟩)]⟩,⟨ab,0,av⟩,⟨cb,0,cs⟩])
    simp only [List.append_assoc,List.cons_append,List.nil_append] at this ⊢
    exact this
  · have hWA := hW.isA
    have hWB := hW.isB
    subst hWA hWB
    exact one (mk rfl hW.hist.len ⟨_,_,_,_,rfl⟩ hT.junk) rfl
  · have hWA := hW.isA
    have hWB := hW.isB
    subst hWA hWB
    exact one (mk rfl hW.hist.len ⟨_,_,_,_,rfl⟩ hT) rfl
theorem z515 (fb o : Nat) (F : Frags) : Same ([⟨fb,o,[.int .i64 0]⟩,⟨fb,o + 1,(List.replicate 512 (.int .u32 0))⟩,⟨fb,o + 513,[.slice none 0 0,.int .u32 0]⟩] ++ F) (⟨fb,o,hufZ⟩::F) := by
  have e : hufZ = (([(o,[.int .i64 0]),(o + 1,(List.replicate 512 (.int .u32 0))),(o + 513,[.slice none 0 0,.int .u32 0])] : List (Nat × List Value)).map (·.2)).flatten := by kernel_rfl
  rw [e]
  exact (Same.chunks fb F [(o,[.int .i64 0]),(o + 1,(List.replicate 512 (.int .u32 0))),(o + 513,[.slice none 0 0,.int .u32 0])] o (by simp [Gs])).symm
theorem decNew {K : Known} {ea : Fin 5 → Addr} (src : Src K ea) (fb ab cb hb : Nat) (h : List UInt8) (av cs : List Value) (hl : h.length = 32768) (ha : av.length = 316) (hc : cs.length = 19) (G : Frags) :
    ∃ DN,DecNew src fb DN ∧ Same (G ++ (decParts fb [.iface src.t src.v,.pointer none,.int .i64 0,.int .u32 0,.int .u64 0] [.int .i64 0] (List.replicate 512 (.int .u32 0)) [.slice none 0 0,.int .u32 0] [.int .i64 0] (List.replicate 512 (.int .u32 0)) [.slice none 0 0,.int .u32 0] [.pointer (some ⟨ab,0,none⟩),.pointer (some ⟨cb,0,none⟩)] [.slice (some ⟨hb,0,none⟩) 32768 32768,.int .i64 0,.int .i64 0,.bool false] [.int .u8 0,.int .u8 0,.int .u8 0,.int .u8 0] [.func (.func 82) #[] #[],.int .i64 0,.bool false,.nilIface,.slice none 0 0,.pointer none,.pointer none,.int .i64 0,.int .i64 0] ++ [⟨ab,0,av⟩,⟨cb,0,cs⟩,⟨hb,0,bytesV h⟩])) (G ++ DN) := by
  refine ⟨[⟨fb,0,[.iface src.t src.v,.pointer none,.int .i64 0,.int .u32 0,.int .u64 0]⟩,⟨fb,1045,[.func (.func 82) #[] #[],.int .i64 0,.bool false,.nilIface,.slice none 0 0,.pointer none,.pointer none,.int .i64 0,.int .i64 0]⟩,⟨fb,1037,[.slice (some ⟨hb,0,none⟩) 32768 32768,.int .i64 0,.int .i64 0,.bool false]⟩,⟨hb,0,bytesV (h)⟩,⟨fb,1041,[.int .u8 0,.int .u8 0,.int .u8 0,.int .u8 0]⟩,⟨fb,1035,[.pointer (some ⟨ab,0,none⟩),.pointer (some ⟨cb,0,none⟩)]⟩,⟨ab,0,av⟩,⟨cb,0,cs⟩,⟨fb,5,hufZ⟩,⟨fb,520,hufZ⟩],⟨_,_,_,_,_,rfl,fun dt x1 x2 x3 hA => ⟨hb,.inl ⟨0,rfl,⟨0,0,[],.slice none 0 0,h,0,0,false,0,false,.pointer none,.pointer none,0,0,⟨hA,0,0,BitsIn.start dt (Nat.zero_le _),rfl⟩,by decide,⟨Hist.start h hl,Nat.le_refl _,by decide,rfl,rfl,TR.nil _ _ _ _,rfl,rfl⟩,rfl,.inl rfl,rfl⟩,⟨ab,cb,_,av,cs,hufZ,hufZ,rfl,ha,hc,rawZ,rawZ,rfl⟩⟩⟩⟩,Same.appendL G ?_⟩
  have e1 := z515 fb 5 [⟨fb,520,[.int .i64 0]⟩,⟨fb,520 + 1,(List.replicate 512 (.int .u32 0))⟩,⟨fb,520 + 513,[.slice none 0 0,.int .u32 0]⟩,⟨fb,0,[.iface src.t src.v,.pointer none,.int .i64 0,.int .u32 0,.int .u64 0]⟩,⟨fb,1045,[.func (.func 82) #[] #[],.int .i64 0,.bool false,.nilIface,.slice none 0 0,.pointer none,.pointer none,.int .i64 0,.int .i64 0]⟩,⟨fb,1037,[.slice (some ⟨hb,0,none⟩) 32768 32768,.int .i64 0,.int .i64 0,.bool false]⟩,⟨hb,0,bytesV (h)⟩,⟨fb,1041,[.int .u8 0,.int .u8 0,.int .u8 0,.int .u8 0]⟩,⟨fb,1035,[.pointer (some ⟨ab,0,none⟩),.pointer (some ⟨cb,0,none⟩)]⟩,⟨ab,0,av⟩,⟨cb,0,cs⟩]
  have e2 := z515 fb 520 [⟨fb,5,hufZ⟩,⟨fb,0,[.iface src.t src.v,.pointer none,.int .i64 0,.int .u32 0,.int .u64 0]⟩,⟨fb,1045,[.func (.func 82) #[] #[],.int .i64 0,.bool false,.nilIface,.slice none 0 0,.pointer none,.pointer none,.int .i64 0,.int .i64 0]⟩,⟨fb,1037,[.slice (some ⟨hb,0,none⟩) 32768 32768,.int .i64 0,.int .i64 0,.bool false]⟩,⟨hb,0,bytesV (h)⟩,⟨fb,1041,[.int .u8 0,.int .u8 0,.int .u8 0,.int .u8 0]⟩,⟨fb,1035,[.pointer (some ⟨ab,0,none⟩),.pointer (some ⟨cb,0,none⟩)]⟩,⟨ab,0,av⟩,⟨cb,0,cs⟩]
  refine Same.trans (Same.perm (Bj (is:=[1,1,1,1,1,1,0,3,1,4,1,0,0,0]) (A:=[_,_,_,_,_,_,_,_,_,_,_,_,_,_]) (F:=[]) rfl)) ?_
  refine Same.trans (Same.of_eq (List.append_nil _)) (Same.trans e1 ?_)
  refine Same.trans (Same.perm (Bj (is:=[1,1,1]) (A:=[_,_,_]) (F:=_::_) rfl)) (Same.trans e2 ?_)
  exact (Same.perm (Bj (is:=[2,2,2,2,2,2,2,2,1,0]) rfl)).trans (Same.of_eq (List.append_nil _))
theorem allOneR (ab cb hb wr rd : Nat) (full : Bool) : (([[.nilIface,.pointer none,.int .i64 0,.int .u32 0,.int .u64 0],[.int .i64 0],(List.replicate 512 (.int .u32 0)),[.slice none 0 0,.int .u32 0],[.int .i64 0],(List.replicate 512 (.int .u32 0)),[.slice none 0 0,.int .u32 0],[.pointer (some ⟨ab,0,none⟩),.pointer (some ⟨cb,0,none⟩)],[.slice (some ⟨hb,0,none⟩) 32768 32768,.int .i64 ((wr : Nat) : Int),.int .i64 ((rd : Nat) : Int),.bool full],[.int .u8 0,.int .u8 0,.int .u8 0,.int .u8 0],[.func (.func 82) #[] #[],.int .i64 0,.bool false,.nilIface,.slice none 0 0,.pointer none,.pointer none,.int .i64 0,.int .i64 0]] : List (List Value)).flatten).all one = true := by kernel_rfl
theorem lenR (ab cb hb wr rd : Nat) (full : Bool) : (([[.nilIface,.pointer none,.int .i64 0,.int .u32 0,.int .u64 0],[.int .i64 0],(List.replicate 512 (.int .u32 0)),[.slice none 0 0,.int .u32 0],[.int .i64 0],(List.replicate 512 (.int .u32 0)),[.slice none 0 0,.int .u32 0],[.pointer (some ⟨ab,0,none⟩),.pointer (some ⟨cb,0,none⟩)],[.slice (some ⟨hb,0,none⟩) 32768 32768,.int .i64 ((wr : Nat) : Int),.int .i64 ((rd : Nat) : Int),.bool full],[.int .u8 0,.int .u8 0,.int .u8 0,.int .u8 0],[.func (.func 82) #[] #[],.int .i64 0,.bool false,.nilIface,.slice none 0 0,.pointer none,.pointer none,.int .i64 0,.int .i64 0]] : List (List Value)).flatten).length = 1054 := by kernel_rfl
theorem decReset_walk {K : Known} {ea : Fin 5 → Addr} (src : Src K ea) (fb ab cb hb : Nat) (e0 e2 e3 e4 : Value) (t9 : List Value) (wr rd : Nat) (full : Bool) (h : List UInt8) (ws av cs c1 c2 : List Value) (h9 : t9.length = 9) (hl : h.length = 32768) (hws : ws.length = 4) (hav : av.length = 316) (hcs : cs.length = 19) (h1 : c1.length = 515) (h2 : c2.length = 515) : Fn Tryz.prog K 136 #[.pointer (some ⟨fb,0,none⟩),.iface src.t src.v,.slice none 0 0] ([⟨fb,0,[e0,.pointer none,e2,e3,e4]⟩,⟨fb,1045,t9⟩,⟨fb,1037,[.slice (some ⟨hb,0,none⟩) 32768 32768,.int .i64 ((wr : Nat) : Int),.int .i64 ((rd : Nat) : Int),.bool full]⟩,⟨hb,0,bytesV (h)⟩,⟨fb,1041,ws⟩,⟨fb,1035,[.pointer (some ⟨ab,0,none⟩),.pointer (some ⟨cb,0,none⟩)]⟩,⟨ab,0,av⟩,⟨cb,0,cs⟩,⟨fb,5,c1⟩,⟨fb,520,c2⟩]) (fun r L => r = Er.val ea .none ∧ ∃ DN,DecNew src fb DN ∧ Same L DN) := by
 refine Fn.intro (args:=[.pointer (some ⟨fb,0,none⟩),.iface src.t src.v,.slice none 0 0]) (RR:=Ret1 6 _) Tryz.func136 rfl rfl Tryz.ntmps136 (res1 Tryz.results136) ?_
 refine Bl (env2:=[(0,.pointer (some ⟨fb,0,none⟩)),(1,.iface src.t src.v),(2,.slice none 0 0)]) rfl<|Cr<|Aa (Bc (v:=Er.val ea .none) rfl) rfl<|Ek4 0 1 2 6 rfl<|Ap<|Br [0,0,2,4,8,0,32,64,128,0,512,1024,2048,0,8192,16384,32768,69904,262143,524287] (.pure 0 262142 (.pure 1 131041 (.pure 2 131043 (.pure 3 131047 (.pure 5 130591 (.pure 6 130623 (.pure 7 130687 (.pure 9 123391 (.pure 10 123903 (.pure 11 124927 (.pure 13 8191 (.pure 14 16383 (.pure 15 32767 (.seg [(4,131055),(8,130815),(12,126975),(16,65535),(17,131071),(18,262143)] (.alt 19 .done .stop))))))))))))))) mixed (by decide +kernel)<|Dm rfl rfl rfl<|Dm rfl rfl rfl<|Ai rfl (Ad rfl) rfl<|Ai rfl (Ae rfl fa186_1) rfl<|Dm rfl rfl rfl<|Ai rfl (Ad rfl) rfl ?_
 refine Ai rfl (Ae rfl fa186_7) rfl<|Dm rfl rfl rfl<|Ai rfl (Ad rfl) rfl<|Ai rfl (Ae rfl fa186_8) rfl<|Dm rfl rfl rfl<|Ai rfl (Ad rfl) rfl<|Ai rfl (Ae rfl Fd) rfl<|Dc (by decide)<|Az rfl (An 0 (k:=1) rfl rfl rfl Tryz.isAgg132) rfl<|Az rfl (An 5 (k:=0) rfl rfl rfl Ta178) rfl<|Az rfl (An 5 (k:=1) rfl rfl rfl Tryz.isAgg179) rfl<|Az rfl (Bn 2 (k:=0) rfl rfl rfl rfl Tryz.isAgg181 Tryz.sizeOf181) rfl ?_
 refine Bg rfl (Eu [(1,.pointer none),(7,.pointer (some ⟨ab,0,none⟩)),(8,.pointer (some ⟨cb,0,none⟩)),(9,.agg #[.slice (some ⟨hb,0,none⟩) 32768 32768,.int .i64 ((wr : Nat) : Int),.int .i64 ((rd : Nat) : Int),.bool full]),(11,.func (.func 82) #[] #[])] rfl (resetBuild ab cb hb wr rd full)) rfl<|Bg rfl (Ad rfl) rfl<|Db<|D.perml [0,7,7,4,1,2,0,0,0,0] (A:=[_,_,_,_,_,_,_,_,_,_]) (F:=[]) rfl<|D.same (Same.chunks fb [⟨hb,0,bytesV (h)⟩,⟨ab,0,av⟩,⟨cb,0,cs⟩] ([(0,[e0,.pointer none,e2,e3,e4]),(5,c1),(520,c2),(1035,[.pointer (some ⟨ab,0,none⟩),.pointer (some ⟨cb,0,none⟩)]),(1037,[.slice (some ⟨hb,0,none⟩) 32768 32768,.int .i64 ((wr : Nat) : Int),.int .i64 ((rd : Nat) : Int),.bool full]),(1041,ws),(1045,t9)] : List (Nat × List Value)) 0 (by simp [Gs,h1,h2,hws])).symm<|Bf (L2:=[⟨fb,0,_⟩,_,_,_]) rfl<|Da ?_
 refine Bz rfl (Bi 0 (k:=0) rfl rfl rfl (allOneR ab cb hb wr rd full) (lenR ab cb hb wr rd full) (by rw [Nat.ble_eq]; simp [h1,h2,hws,h9]) Tryz.sizeOf186 rfl) ?_
 rintro _ _ ⟨rfl,rfl⟩
 refine Bf (L2:=[⟨fb,0,([[.nilIface,.pointer none,.int .i64 0,.int .u32 0,.int .u64 0],[.int .i64 0],(List.replicate 512 (.int .u32 0)),[.slice none 0 0,.int .u32 0],[.int .i64 0],(List.replicate 512 (.int .u32 0)),[.slice none 0 0,.int .u32 0],[.pointer (some ⟨ab,0,none⟩),.pointer (some ⟨cb,0,none⟩)],[.slice (some ⟨hb,0,none⟩) 32768 32768,.int .i64 ((wr : Nat) : Int),.int .i64 ((rd : Nat) : Int),.bool full],[.int .u8 0,.int .u8 0,.int .u8 0,.int .u8 0],[.func (.func 82) #[] #[],.int .i64 0,.bool false,.nilIface,.slice none 0 0,.pointer none,.pointer none,.int .i64 0,.int .i64 0]] : List (List Value)).flatten⟩,⟨hb,0,bytesV (h)⟩,⟨ab,0,av⟩,⟨cb,0,cs⟩]) (congrArg (fun z => [(⟨fb,0,z⟩ : Frag),⟨hb,0,bytesV (h)⟩,⟨ab,0,av⟩,⟨cb,0,cs⟩]) (by rw [List.take_zero,List.nil_append,List.drop_eq_nil_of_le (by simp [h1,h2,hws,h9]),List.append_nil]))<|D.same (decSame fb [⟨hb,0,bytesV (h)⟩,⟨ab,0,av⟩,⟨cb,0,cs⟩] [.nilIface,.pointer none,.int .i64 0,.int .u32 0,.int .u64 0] [.int .i64 0] (List.replicate 512 (.int .u32 0)) [.slice none 0 0,.int .u32 0] [.int .i64 0] (List.replicate 512 (.int .u32 0)) [.slice none 0 0,.int .u32 0] [.pointer (some ⟨ab,0,none⟩),.pointer (some ⟨cb,0,none⟩)] [.slice (some ⟨hb,0,none⟩) 32768 32768,.int .i64 ((wr : Nat) : Int),.int .i64 ((rd : Nat) : Int),.bool full] [.int .u8 0,.int .u8 0,.int .u8 0,.int .u8 0] [.func (.func 82) #[] #[],.int .i64 0,.bool false,.nilIface,.slice none 0 0,.pointer none,.pointer none,.int .i64 0,.int .i64 0] rfl rfl List.length_replicate rfl rfl List.length_replicate rfl rfl rfl rfl)<|Bf (L2:=[⟨fb,0,_⟩,⟨fb,5,_⟩,⟨fb,6,_⟩,⟨fb,518,_⟩,⟨fb,520,_⟩,⟨fb,521,_⟩,⟨fb,1033,_⟩,⟨fb,1035,_⟩,⟨fb,1037,_⟩,⟨fb,1041,_⟩,⟨fb,1045,_⟩,_,_,_]) rfl<|Dk4 0 1 2 6 rfl<|Cr<|Em rfl rfl<|Em rfl rfl ?_
 refine Ak (OpX.pick [0] (F:=[_,_,_,_,_,_,_,_,_,_,_,_,_]) rfl (Au rfl Tryz.call81 (makeReader_spec src fb _ _ _ _ _))) rfl ?_; rintro _ _ ⟨_,⟨rfl,rfl⟩,rfl⟩; refine Ab (L2:=[_,_,_,_,_,_,_,_,_,_,_,_,_,_]) rfl ?_
 refine Bt [0,0,0,0,0,0,0,0,0,0,0,0,0,0] rfl<|Ab (L2:=[_,_,_,_,_,_,_,_,_,_,_,_,_,_]) rfl<|Ek3 0 2 6 rfl<|Cr<|Em rfl rfl<|Aa (Ad rfl) rfl<|Aa (Ae rfl Fd) rfl<|Em rfl rfl ?_
 refine Ak (OpX.pick [11,8] (F:=[_,_,_,_,_,_,_,_,_,_,_,_]) rfl (Au rfl Tryz.call83 (dictInit_old fb 1037 hb h hl _ _ _))) rfl ?_; rintro _ _ ⟨_,⟨rfl,rfl⟩,rfl⟩; refine Ab (L2:=[_,_,_,_,_,_,_,_,_,_,_,_,_,_]) rfl ?_
 refine Bt [2,2,2,2,2,2,2,2,1,1,1,0,0,0] rfl<|Ab (L2:=[_,_,_,_,_,_,_,_,_,_,_,_,_,_]) rfl<|Ek2 0 6 rfl<|Cr<|Aa (Bc (v:=Er.val ea .none) rfl) rfl<|Ek2 0 6 rfl<|Av ?_
 obtain ⟨DN,hDN,hS⟩ := decNew src fb ab cb hb h av cs hl hav hcs []
 refine ⟨_,rfl,rfl,DN,hDN,Same.trans ?_ hS⟩
 exact (Same.perm (Bj (is:=[0,0,0,0,0,0,0,0,0,0,0,1,1,0]) rfl)).trans (Same.of_eq (List.append_nil _))
theorem decReset_in {K : Known} {ea : Fin 5 → Addr} (src : Src K ea) {fb : Nat} {DL : Frags} (hD : DecRaw fb DL) (G : Frags) :
    Fn Tryz.prog K 136 #[.pointer (some ⟨fb,0,none⟩),.iface src.t src.v,.slice none 0 0] (G ++ DL) fun r L => r = Er.val ea .none ∧ ∃ DN,DecNew src fb DN ∧ L = G ++ DN := by
  obtain ⟨ab,cb,hb,e0,e2,e3,e4,t9,wr,rd,full,h,ws,av,cs,c1,c2,h1,h2,h3,h4,h5,h6,h7,rfl⟩ := hD
  refine Fn.sameR (Fn.perm List.perm_append_comm (Fn.frame (F:=G) (decReset_walk src fb ab cb hb e0 e2 e3 e4 t9 wr rd full h ws av cs c1 c2 h1 h2 h3 h4 h5 h6 h7))) ?_
  rintro v L ⟨L1,⟨rfl,DN,hDN,hS⟩,rfl⟩
  exact ⟨G ++ DN,(Same.perm List.perm_append_comm).trans (Same.appendL G hS),rfl,DN,hDN,rfl⟩
theorem flateNew_in {K : Known} {ea : Fin 5 → Addr} (src : Src K ea) (G : Frags) :
    Fn Tryz.prog K 74 #[.iface src.t src.v] G fun r L => ∃ fb DN,r = .iface 190 (.pointer (some ⟨fb,0,none⟩)) ∧ DecNew src fb DN ∧ L = G ++ DN := by
  refine Fn.sameR (Fn.frame (L:=[]) (F:=G) (flateNew_spec src)) ?_
  rintro v L ⟨L1,⟨fb,ab,cb,hb,rfl,rfl⟩,rfl⟩
  obtain ⟨DN,hDN,hS⟩ := decNew src fb ab cb hb (List.replicate 32768 0) (List.replicate 316 (.int .i64 0)) (List.replicate 19 (.int .i64 0)) List.length_replicate List.length_replicate List.length_replicate G
  refine ⟨G ++ DN,(Same.perm List.perm_append_comm).trans (Same.trans (Same.of_eq ?_) hS),fb,DN,rfl,hDN,rfl⟩
  have e : bytesV (List.replicate 32768 0) = List.replicate 32768 (.int .u8 0) := by unfold bytesV; rw [List.map_replicate]; rfl
  rw [e]; rfl
theorem decRead_spec {K : Known} {ea : Fin 5 → Addr} (hs : Sents K ea) (hc : Codes K) {src : Src K ea} {dt : List UInt8} {fb : Nat} {R : ResR} {gv : Nat} {L0 : Frags} (hD : DecOk src dt fb R gv L0) (pb po n c : Nat) (cs : List Value) (hn : n = cs.length) (hn0 : 0 < n) :
    Fn Tryz.prog K 135 #[.pointer (some ⟨fb,0,none⟩),.slice (some ⟨pb,po,none⟩) (n) (c)] (L0 ++ [⟨pb,po,cs⟩]) (ReadEnd src dt fb R gv pb po n cs) := by
  obtain ⟨hb,pend,m,x1,x2,x3,Af,Tf,Wf,Hf,TL,hd,hall,rfl⟩ := hD
  refine Fn.lose (Fn.sameL (same_last x1 x2 x3 Af Tf Wf Hf _ TL).symm (decRead_walk hs hc src dt fb hb R gv pb po n c cs hn hn0 pend m x1 x2 x3 Af Tf Wf Hf TL hd hall)) ?_
  exact fun v L h => h
theorem DecNew.ok {K : Known} {ea : Fin 5 → Addr} {src : Src K ea} {fb : Nat} {DN : Frags} (h : DecNew src fb DN) {dt : List UInt8} {x1 x2 x3 : Frag} (hA : src.At dt x1 x2 x3) : DecOk src dt fb (run dt .next [] 0) 0 (x1::x2::x3::DN) := by
  obtain ⟨Af,Tf,Wf,Hf,TL,rfl,h⟩ := h
  obtain ⟨hb,h⟩ := h dt x1 x2 x3 hA
  exact ⟨hb,[],_,x1,x2,x3,Af,Tf,Wf,Hf,TL,h,fun h => by omega,rfl⟩
end Go.Eng
